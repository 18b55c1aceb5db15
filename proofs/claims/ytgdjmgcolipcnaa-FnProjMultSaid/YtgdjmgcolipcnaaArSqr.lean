/-
  What is proved here: plain laws of the words that the engine names: a square modulo the prime, in Montgomery form. No program in sight.
  Conditions: those of each theorem.
-/
import Derived.Test.YtgdjmgcolipcnaaArM
namespace Go.Proofs.Ytgdjmgcolipcnaa
open Go Go.RowKit
set_option linter.unusedSimpArgs false
set_option linter.unusedVariables false
theorem sqr_r0 (q4 q6 q8 q10 x4 x5 x6 x7 x8 x9 x10 x11 x12 x13 x14 x15 x16 x17 x18 x19 x20 x21 x22 x23 x24 x25 x26 x27 x28 x29 x30 x31 x32 x33 x34 x35 x36 x37 : Int) (b28 : 0 ≤ x28 ∧ x28 < 18446744073709551616) (h0 : 18446744073709551616 * x4 + x5 = q4) (h1 : 18446744073709551616 * x6 + x7 = q6) (h2 : 18446744073709551616 * x8 + x9 = q8) (h3 : 18446744073709551616 * x10 + x11 = q10) (h4 : x12 + 18446744073709551616 * x13 = x10 + x9 + 0) (h5 : x14 + 18446744073709551616 * x15 = x8 + x7 + x13) (h6 : x16 + 18446744073709551616 * x17 = x6 + x5 + x15) (h7 : x18 = x17 + x4) (h8 : 18446744073709551616 * x19 + x20 = x11 * 18446744069414584321) (h9 : 18446744073709551616 * x21 + x22 = x11 * 4294967295) (h10 : 18446744073709551616 * x23 + x24 = x11 * 18446744073709551615) (h11 : x25 + 18446744073709551616 * x26 = x23 + x22 + 0) (h12 : x27 = x26 + x21) (h13 : x28 + 18446744073709551616 * x29 = x11 + x24 + 0) (h14 : x30 + 18446744073709551616 * x31 = x12 + x25 + x29) (h15 : x32 + 18446744073709551616 * x33 = x14 + x27 + x31) (h16 : x34 + 18446744073709551616 * x35 = x16 + x20 + x33) (h17 : x36 + 18446744073709551616 * x37 = x18 + x19 + x35) :
    (x30 + 18446744073709551616 * x32 + 340282366920938463463374607431768211456 * x34 + 6277101735386680763835789423207666416102355444464034512896 * x36 + 115792089237316195423570985008687907853269984665640564039457584007913129639936 * x37) * 18446744073709551616 = (q10 + 18446744073709551616 * q8 + 340282366920938463463374607431768211456 * q6 + 6277101735386680763835789423207666416102355444464034512896 * q4) + x11 * 115792089210356248762697446949407573530086143415290314195533631308867097853951 := by omega
theorem sqr_r1 (q38 q40 q42 q44 x30 x32 x34 x36 x37 x38 x39 x40 x41 x42 x43 x44 x45 x46 x47 x48 x49 x50 x51 x52 x53 x54 x55 x56 x57 x58 x59 x60 x61 x62 x63 x64 x65 x66 x67 x68 x69 x70 x71 x72 x73 x74 x75 x76 x77 x78 x79 x80 x81 x82 : Int) (b72 : 0 ≤ x72 ∧ x72 < 18446744073709551616) (h0 : 18446744073709551616 * x38 + x39 = q38) (h1 : 18446744073709551616 * x40 + x41 = q40) (h2 : 18446744073709551616 * x42 + x43 = q42) (h3 : 18446744073709551616 * x44 + x45 = q44) (h4 : x46 + 18446744073709551616 * x47 = x44 + x43 + 0) (h5 : x48 + 18446744073709551616 * x49 = x42 + x41 + x47) (h6 : x50 + 18446744073709551616 * x51 = x40 + x39 + x49) (h7 : x52 = x51 + x38) (h8 : x53 + 18446744073709551616 * x54 = x30 + x45 + 0) (h9 : x55 + 18446744073709551616 * x56 = x32 + x46 + x54) (h10 : x57 + 18446744073709551616 * x58 = x34 + x48 + x56) (h11 : x59 + 18446744073709551616 * x60 = x36 + x50 + x58) (h12 : x61 + 18446744073709551616 * x62 = x37 + x52 + x60) (h13 : 18446744073709551616 * x63 + x64 = x53 * 18446744069414584321) (h14 : 18446744073709551616 * x65 + x66 = x53 * 4294967295) (h15 : 18446744073709551616 * x67 + x68 = x53 * 18446744073709551615) (h16 : x69 + 18446744073709551616 * x70 = x67 + x66 + 0) (h17 : x71 = x70 + x65) (h18 : x72 + 18446744073709551616 * x73 = x53 + x68 + 0) (h19 : x74 + 18446744073709551616 * x75 = x55 + x69 + x73) (h20 : x76 + 18446744073709551616 * x77 = x57 + x71 + x75) (h21 : x78 + 18446744073709551616 * x79 = x59 + x64 + x77) (h22 : x80 + 18446744073709551616 * x81 = x61 + x63 + x79) (h23 : x82 = x81 + x62) :
    (x74 + 18446744073709551616 * x76 + 340282366920938463463374607431768211456 * x78 + 6277101735386680763835789423207666416102355444464034512896 * x80 + 115792089237316195423570985008687907853269984665640564039457584007913129639936 * x82) * 18446744073709551616 = (x30 + 18446744073709551616 * x32 + 340282366920938463463374607431768211456 * x34 + 6277101735386680763835789423207666416102355444464034512896 * x36 + 115792089237316195423570985008687907853269984665640564039457584007913129639936 * x37) + (q44 + 18446744073709551616 * q42 + 340282366920938463463374607431768211456 * q40 + 6277101735386680763835789423207666416102355444464034512896 * q38) + x53 * 115792089210356248762697446949407573530086143415290314195533631308867097853951 := by omega
theorem sqr_r2 (q83 q85 q87 q89 x74 x76 x78 x80 x82 x83 x84 x85 x86 x87 x88 x89 x90 x91 x92 x93 x94 x95 x96 x97 x98 x99 x100 x101 x102 x103 x104 x105 x106 x107 x108 x109 x110 x111 x112 x113 x114 x115 x116 x117 x118 x119 x120 x121 x122 x123 x124 x125 x126 x127 : Int) (b117 : 0 ≤ x117 ∧ x117 < 18446744073709551616) (h0 : 18446744073709551616 * x83 + x84 = q83) (h1 : 18446744073709551616 * x85 + x86 = q85) (h2 : 18446744073709551616 * x87 + x88 = q87) (h3 : 18446744073709551616 * x89 + x90 = q89) (h4 : x91 + 18446744073709551616 * x92 = x89 + x88 + 0) (h5 : x93 + 18446744073709551616 * x94 = x87 + x86 + x92) (h6 : x95 + 18446744073709551616 * x96 = x85 + x84 + x94) (h7 : x97 = x96 + x83) (h8 : x98 + 18446744073709551616 * x99 = x74 + x90 + 0) (h9 : x100 + 18446744073709551616 * x101 = x76 + x91 + x99) (h10 : x102 + 18446744073709551616 * x103 = x78 + x93 + x101) (h11 : x104 + 18446744073709551616 * x105 = x80 + x95 + x103) (h12 : x106 + 18446744073709551616 * x107 = x82 + x97 + x105) (h13 : 18446744073709551616 * x108 + x109 = x98 * 18446744069414584321) (h14 : 18446744073709551616 * x110 + x111 = x98 * 4294967295) (h15 : 18446744073709551616 * x112 + x113 = x98 * 18446744073709551615) (h16 : x114 + 18446744073709551616 * x115 = x112 + x111 + 0) (h17 : x116 = x115 + x110) (h18 : x117 + 18446744073709551616 * x118 = x98 + x113 + 0) (h19 : x119 + 18446744073709551616 * x120 = x100 + x114 + x118) (h20 : x121 + 18446744073709551616 * x122 = x102 + x116 + x120) (h21 : x123 + 18446744073709551616 * x124 = x104 + x109 + x122) (h22 : x125 + 18446744073709551616 * x126 = x106 + x108 + x124) (h23 : x127 = x126 + x107) :
    (x119 + 18446744073709551616 * x121 + 340282366920938463463374607431768211456 * x123 + 6277101735386680763835789423207666416102355444464034512896 * x125 + 115792089237316195423570985008687907853269984665640564039457584007913129639936 * x127) * 18446744073709551616 = (x74 + 18446744073709551616 * x76 + 340282366920938463463374607431768211456 * x78 + 6277101735386680763835789423207666416102355444464034512896 * x80 + 115792089237316195423570985008687907853269984665640564039457584007913129639936 * x82) + (q89 + 18446744073709551616 * q87 + 340282366920938463463374607431768211456 * q85 + 6277101735386680763835789423207666416102355444464034512896 * q83) + x98 * 115792089210356248762697446949407573530086143415290314195533631308867097853951 := by omega
theorem sqr_r3 (q128 q130 q132 q134 x119 x121 x123 x125 x127 x128 x129 x130 x131 x132 x133 x134 x135 x136 x137 x138 x139 x140 x141 x142 x143 x144 x145 x146 x147 x148 x149 x150 x151 x152 x153 x154 x155 x156 x157 x158 x159 x160 x161 x162 x163 x164 x165 x166 x167 x168 x169 x170 x171 x172 : Int) (b162 : 0 ≤ x162 ∧ x162 < 18446744073709551616) (h0 : 18446744073709551616 * x128 + x129 = q128) (h1 : 18446744073709551616 * x130 + x131 = q130) (h2 : 18446744073709551616 * x132 + x133 = q132) (h3 : 18446744073709551616 * x134 + x135 = q134) (h4 : x136 + 18446744073709551616 * x137 = x134 + x133 + 0) (h5 : x138 + 18446744073709551616 * x139 = x132 + x131 + x137) (h6 : x140 + 18446744073709551616 * x141 = x130 + x129 + x139) (h7 : x142 = x141 + x128) (h8 : x143 + 18446744073709551616 * x144 = x119 + x135 + 0) (h9 : x145 + 18446744073709551616 * x146 = x121 + x136 + x144) (h10 : x147 + 18446744073709551616 * x148 = x123 + x138 + x146) (h11 : x149 + 18446744073709551616 * x150 = x125 + x140 + x148) (h12 : x151 + 18446744073709551616 * x152 = x127 + x142 + x150) (h13 : 18446744073709551616 * x153 + x154 = x143 * 18446744069414584321) (h14 : 18446744073709551616 * x155 + x156 = x143 * 4294967295) (h15 : 18446744073709551616 * x157 + x158 = x143 * 18446744073709551615) (h16 : x159 + 18446744073709551616 * x160 = x157 + x156 + 0) (h17 : x161 = x160 + x155) (h18 : x162 + 18446744073709551616 * x163 = x143 + x158 + 0) (h19 : x164 + 18446744073709551616 * x165 = x145 + x159 + x163) (h20 : x166 + 18446744073709551616 * x167 = x147 + x161 + x165) (h21 : x168 + 18446744073709551616 * x169 = x149 + x154 + x167) (h22 : x170 + 18446744073709551616 * x171 = x151 + x153 + x169) (h23 : x172 = x171 + x152) :
    (x164 + 18446744073709551616 * x166 + 340282366920938463463374607431768211456 * x168 + 6277101735386680763835789423207666416102355444464034512896 * x170 + 115792089237316195423570985008687907853269984665640564039457584007913129639936 * x172) * 18446744073709551616 = (x119 + 18446744073709551616 * x121 + 340282366920938463463374607431768211456 * x123 + 6277101735386680763835789423207666416102355444464034512896 * x125 + 115792089237316195423570985008687907853269984665640564039457584007913129639936 * x127) + (q134 + 18446744073709551616 * q132 + 340282366920938463463374607431768211456 * q130 + 6277101735386680763835789423207666416102355444464034512896 * q128) + x143 * 115792089210356248762697446949407573530086143415290314195533631308867097853951 := by omega
theorem sqr_s (x164 x166 x168 x170 x172 x173 x174 x175 x176 x177 x178 x179 x180 x181 x182 : Int)  (h0 : x173 - 18446744073709551616 * x174 = x164 - 18446744073709551615 - 0) (h1 : x175 - 18446744073709551616 * x176 = x166 - 4294967295 - x174) (h2 : x177 - 18446744073709551616 * x178 = x168 - 0 - x176) (h3 : x179 - 18446744073709551616 * x180 = x170 - 18446744069414584321 - x178) (h4 : x181 - 18446744073709551616 * x182 = x172 - 0 - x180) :
    (x173 + 18446744073709551616 * x175 + 340282366920938463463374607431768211456 * x177 + 6277101735386680763835789423207666416102355444464034512896 * x179) = (x164 + 18446744073709551616 * x166 + 340282366920938463463374607431768211456 * x168 + 6277101735386680763835789423207666416102355444464034512896 * x170) - 115792089210356248762697446949407573530086143415290314195533631308867097853951 + 115792089237316195423570985008687907853269984665640564039457584007913129639936 * x180 ∧ x181 - 18446744073709551616 * x182 = x172 - x180 := by omega

noncomputable def defs_sqr : List Ex := [.cmov (.v 182) (.v 179) (.v 170), .cmov (.v 182) (.v 177) (.v 168), .cmov (.v 182) (.v 175) (.v 166), .cmov (.v 182) (.v 173) (.v 164), .subHi (.v 172) (.c 0) (.v 180), .subLo (.v 172) (.c 0) (.v 180), .subHi (.v 170) (.c 18446744069414584321) (.v 178), .subLo (.v 170) (.c 18446744069414584321) (.v 178), .subHi (.v 168) (.c 0) (.v 176), .subLo (.v 168) (.c 0) (.v 176), .subHi (.v 166) (.c 4294967295) (.v 174), .subLo (.v 166) (.c 4294967295) (.v 174), .subHi (.v 164) (.c 18446744073709551615) (.c 0), .subLo (.v 164) (.c 18446744073709551615) (.c 0), .bin .add .u64 (.v 171) (.v 152), .addHi (.v 151) (.v 153) (.v 169), .addLo (.v 151) (.v 153) (.v 169), .addHi (.v 149) (.v 154) (.v 167), .addLo (.v 149) (.v 154) (.v 167), .addHi (.v 147) (.v 161) (.v 165), .addLo (.v 147) (.v 161) (.v 165), .addHi (.v 145) (.v 159) (.v 163), .addLo (.v 145) (.v 159) (.v 163), .addHi (.v 143) (.v 158) (.c 0), .addLo (.v 143) (.v 158) (.c 0), .bin .add .u64 (.v 160) (.v 155), .addHi (.v 157) (.v 156) (.c 0), .addLo (.v 157) (.v 156) (.c 0), .mulLo (.v 143) (.c 18446744073709551615), .mulHi (.v 143) (.c 18446744073709551615), .mulLo (.v 143) (.c 4294967295), .mulHi (.v 143) (.c 4294967295), .mulLo (.v 143) (.c 18446744069414584321), .mulHi (.v 143) (.c 18446744069414584321), .addHi (.v 127) (.v 142) (.v 150), .addLo (.v 127) (.v 142) (.v 150), .addHi (.v 125) (.v 140) (.v 148), .addLo (.v 125) (.v 140) (.v 148), .addHi (.v 123) (.v 138) (.v 146), .addLo (.v 123) (.v 138) (.v 146), .addHi (.v 121) (.v 136) (.v 144), .addLo (.v 121) (.v 136) (.v 144), .addHi (.v 119) (.v 135) (.c 0), .addLo (.v 119) (.v 135) (.c 0), .bin .add .u64 (.v 141) (.v 128), .addHi (.v 130) (.v 129) (.v 139), .addLo (.v 130) (.v 129) (.v 139), .addHi (.v 132) (.v 131) (.v 137), .addLo (.v 132) (.v 131) (.v 137), .addHi (.v 134) (.v 133) (.c 0), .addLo (.v 134) (.v 133) (.c 0), .mulLo (.v 3) (.v 0), .mulHi (.v 3) (.v 0), .mulLo (.v 3) (.v 1), .mulHi (.v 3) (.v 1), .mulLo (.v 3) (.v 2), .mulHi (.v 3) (.v 2), .mulLo (.v 3) (.v 3), .mulHi (.v 3) (.v 3), .bin .add .u64 (.v 126) (.v 107), .addHi (.v 106) (.v 108) (.v 124), .addLo (.v 106) (.v 108) (.v 124), .addHi (.v 104) (.v 109) (.v 122), .addLo (.v 104) (.v 109) (.v 122), .addHi (.v 102) (.v 116) (.v 120), .addLo (.v 102) (.v 116) (.v 120), .addHi (.v 100) (.v 114) (.v 118), .addLo (.v 100) (.v 114) (.v 118), .addHi (.v 98) (.v 113) (.c 0), .addLo (.v 98) (.v 113) (.c 0), .bin .add .u64 (.v 115) (.v 110), .addHi (.v 112) (.v 111) (.c 0), .addLo (.v 112) (.v 111) (.c 0), .mulLo (.v 98) (.c 18446744073709551615), .mulHi (.v 98) (.c 18446744073709551615), .mulLo (.v 98) (.c 4294967295), .mulHi (.v 98) (.c 4294967295), .mulLo (.v 98) (.c 18446744069414584321), .mulHi (.v 98) (.c 18446744069414584321), .addHi (.v 82) (.v 97) (.v 105), .addLo (.v 82) (.v 97) (.v 105), .addHi (.v 80) (.v 95) (.v 103), .addLo (.v 80) (.v 95) (.v 103), .addHi (.v 78) (.v 93) (.v 101), .addLo (.v 78) (.v 93) (.v 101), .addHi (.v 76) (.v 91) (.v 99), .addLo (.v 76) (.v 91) (.v 99), .addHi (.v 74) (.v 90) (.c 0), .addLo (.v 74) (.v 90) (.c 0), .bin .add .u64 (.v 96) (.v 83), .addHi (.v 85) (.v 84) (.v 94), .addLo (.v 85) (.v 84) (.v 94), .addHi (.v 87) (.v 86) (.v 92), .addLo (.v 87) (.v 86) (.v 92), .addHi (.v 89) (.v 88) (.c 0), .addLo (.v 89) (.v 88) (.c 0), .mulLo (.v 2) (.v 0), .mulHi (.v 2) (.v 0), .mulLo (.v 2) (.v 1), .mulHi (.v 2) (.v 1), .mulLo (.v 2) (.v 2), .mulHi (.v 2) (.v 2), .mulLo (.v 2) (.v 3), .mulHi (.v 2) (.v 3), .bin .add .u64 (.v 81) (.v 62), .addHi (.v 61) (.v 63) (.v 79), .addLo (.v 61) (.v 63) (.v 79), .addHi (.v 59) (.v 64) (.v 77), .addLo (.v 59) (.v 64) (.v 77), .addHi (.v 57) (.v 71) (.v 75), .addLo (.v 57) (.v 71) (.v 75), .addHi (.v 55) (.v 69) (.v 73), .addLo (.v 55) (.v 69) (.v 73), .addHi (.v 53) (.v 68) (.c 0), .addLo (.v 53) (.v 68) (.c 0), .bin .add .u64 (.v 70) (.v 65), .addHi (.v 67) (.v 66) (.c 0), .addLo (.v 67) (.v 66) (.c 0), .mulLo (.v 53) (.c 18446744073709551615), .mulHi (.v 53) (.c 18446744073709551615), .mulLo (.v 53) (.c 4294967295), .mulHi (.v 53) (.c 4294967295), .mulLo (.v 53) (.c 18446744069414584321), .mulHi (.v 53) (.c 18446744069414584321), .addHi (.v 37) (.v 52) (.v 60), .addLo (.v 37) (.v 52) (.v 60), .addHi (.v 36) (.v 50) (.v 58), .addLo (.v 36) (.v 50) (.v 58), .addHi (.v 34) (.v 48) (.v 56), .addLo (.v 34) (.v 48) (.v 56), .addHi (.v 32) (.v 46) (.v 54), .addLo (.v 32) (.v 46) (.v 54), .addHi (.v 30) (.v 45) (.c 0), .addLo (.v 30) (.v 45) (.c 0), .bin .add .u64 (.v 51) (.v 38), .addHi (.v 40) (.v 39) (.v 49), .addLo (.v 40) (.v 39) (.v 49), .addHi (.v 42) (.v 41) (.v 47), .addLo (.v 42) (.v 41) (.v 47), .addHi (.v 44) (.v 43) (.c 0), .addLo (.v 44) (.v 43) (.c 0), .mulLo (.v 1) (.v 0), .mulHi (.v 1) (.v 0), .mulLo (.v 1) (.v 1), .mulHi (.v 1) (.v 1), .mulLo (.v 1) (.v 2), .mulHi (.v 1) (.v 2), .mulLo (.v 1) (.v 3), .mulHi (.v 1) (.v 3), .addHi (.v 18) (.v 19) (.v 35), .addLo (.v 18) (.v 19) (.v 35), .addHi (.v 16) (.v 20) (.v 33), .addLo (.v 16) (.v 20) (.v 33), .addHi (.v 14) (.v 27) (.v 31), .addLo (.v 14) (.v 27) (.v 31), .addHi (.v 12) (.v 25) (.v 29), .addLo (.v 12) (.v 25) (.v 29), .addHi (.v 11) (.v 24) (.c 0), .addLo (.v 11) (.v 24) (.c 0), .bin .add .u64 (.v 26) (.v 21), .addHi (.v 23) (.v 22) (.c 0), .addLo (.v 23) (.v 22) (.c 0), .mulLo (.v 11) (.c 18446744073709551615), .mulHi (.v 11) (.c 18446744073709551615), .mulLo (.v 11) (.c 4294967295), .mulHi (.v 11) (.c 4294967295), .mulLo (.v 11) (.c 18446744069414584321), .mulHi (.v 11) (.c 18446744069414584321), .bin .add .u64 (.v 17) (.v 4), .addHi (.v 6) (.v 5) (.v 15), .addLo (.v 6) (.v 5) (.v 15), .addHi (.v 8) (.v 7) (.v 13), .addLo (.v 8) (.v 7) (.v 13), .addHi (.v 10) (.v 9) (.c 0), .addLo (.v 10) (.v 9) (.c 0), .mulLo (.v 0) (.v 0), .mulHi (.v 0) (.v 0), .mulLo (.v 0) (.v 1), .mulHi (.v 0) (.v 1), .mulLo (.v 0) (.v 2), .mulHi (.v 0) (.v 2), .mulLo (.v 0) (.v 3), .mulHi (.v 0) (.v 3)]

set_option maxRecDepth 100000 in
set_option maxHeartbeats 4000000 in
theorem arith_sqr (ρ : Nat → Int) (hb : ∀ i, i < 187 → 0 ≤ ρ i ∧ ρ i < 18446744073709551616) (hd : ∀ i x, i < 187 → defs_sqr[187 - 1 - i]? = some x → ρ i = ev ρ x) (hV : 0 ≤ (ρ 0 + 18446744073709551616 * ρ 1 + 340282366920938463463374607431768211456 * ρ 2 + 6277101735386680763835789423207666416102355444464034512896 * ρ 3) * (ρ 0 + 18446744073709551616 * ρ 1 + 340282366920938463463374607431768211456 * ρ 2 + 6277101735386680763835789423207666416102355444464034512896 * ρ 3) ∧ (ρ 0 + 18446744073709551616 * ρ 1 + 340282366920938463463374607431768211456 * ρ 2 + 6277101735386680763835789423207666416102355444464034512896 * ρ 3) * (ρ 0 + 18446744073709551616 * ρ 1 + 340282366920938463463374607431768211456 * ρ 2 + 6277101735386680763835789423207666416102355444464034512896 * ρ 3) < 13407807926820848549984871491119855788235523322740973763876191939596368414310757992836696909921244801462672605190117106812798080191005388829112554944987136) :
    ∃ q : Int, (ρ 183 + 18446744073709551616 * ρ 184 + 340282366920938463463374607431768211456 * ρ 185 + 6277101735386680763835789423207666416102355444464034512896 * ρ 186) * 115792089237316195423570985008687907853269984665640564039457584007913129639936 = (ρ 0 + 18446744073709551616 * ρ 1 + 340282366920938463463374607431768211456 * ρ 2 + 6277101735386680763835789423207666416102355444464034512896 * ρ 3) * (ρ 0 + 18446744073709551616 * ρ 1 + 340282366920938463463374607431768211456 * ρ 2 + 6277101735386680763835789423207666416102355444464034512896 * ρ 3) + q * 115792089210356248762697446949407573530086143415290314195533631308867097853951 ∧ 0 ≤ (ρ 183 + 18446744073709551616 * ρ 184 + 340282366920938463463374607431768211456 * ρ 185 + 6277101735386680763835789423207666416102355444464034512896 * ρ 186) ∧ (ρ 183 + 18446744073709551616 * ρ 184 + 340282366920938463463374607431768211456 * ρ 185 + 6277101735386680763835789423207666416102355444464034512896 * ρ 186) < 115792089210356248762697446949407573530086143415290314195533631308867097853951 := by
  have d4 : ρ 4 = ρ 0 * ρ 3 / 18446744073709551616 := by have h := hd 4 _ (by decide) rfl; exact h
  have d5 : ρ 5 = ρ 0 * ρ 3 % 18446744073709551616 := by have h := hd 5 _ (by decide) rfl; exact h
  have p4 := mulp _ _ _ _ d4 d5
  have v4 := mulub2 _ _ _ _ (hb 0 (by decide)) (hb 3 (by decide)) (hb 5 (by decide)) p4
  have d6 : ρ 6 = ρ 0 * ρ 2 / 18446744073709551616 := by have h := hd 6 _ (by decide) rfl; exact h
  have d7 : ρ 7 = ρ 0 * ρ 2 % 18446744073709551616 := by have h := hd 7 _ (by decide) rfl; exact h
  have p6 := mulp _ _ _ _ d6 d7
  have v6 := mulub2 _ _ _ _ (hb 0 (by decide)) (hb 2 (by decide)) (hb 7 (by decide)) p6
  have d8 : ρ 8 = ρ 0 * ρ 1 / 18446744073709551616 := by have h := hd 8 _ (by decide) rfl; exact h
  have d9 : ρ 9 = ρ 0 * ρ 1 % 18446744073709551616 := by have h := hd 9 _ (by decide) rfl; exact h
  have p8 := mulp _ _ _ _ d8 d9
  have v8 := mulub2 _ _ _ _ (hb 0 (by decide)) (hb 1 (by decide)) (hb 9 (by decide)) p8
  have d10 : ρ 10 = ρ 0 * ρ 0 / 18446744073709551616 := by have h := hd 10 _ (by decide) rfl; exact h
  have d11 : ρ 11 = ρ 0 * ρ 0 % 18446744073709551616 := by have h := hd 11 _ (by decide) rfl; exact h
  have p10 := mulp _ _ _ _ d10 d11
  have v10 := mulub2 _ _ _ _ (hb 0 (by decide)) (hb 0 (by decide)) (hb 11 (by decide)) p10
  have d12 : ρ 12 = (ρ 10 + ρ 9 + 0) % 18446744073709551616 := by have h := hd 12 _ (by decide) rfl; exact h
  have d13 : ρ 13 = (ρ 10 + ρ 9 + 0) / 18446744073709551616 := by have h := hd 13 _ (by decide) rfl; exact h
  have p12 := addp _ _ _ _ _ d12 d13
  have v13 := addub _ _ _ _ _ (hb 10 (by decide)) (hb 9 (by decide)) (by decide) (hb 12 (by decide)) p12
  have d14 : ρ 14 = (ρ 8 + ρ 7 + ρ 13) % 18446744073709551616 := by have h := hd 14 _ (by decide) rfl; exact h
  have d15 : ρ 15 = (ρ 8 + ρ 7 + ρ 13) / 18446744073709551616 := by have h := hd 15 _ (by decide) rfl; exact h
  have p14 := addp _ _ _ _ _ d14 d15
  have v15 := addub _ _ _ _ _ (hb 8 (by decide)) (hb 7 (by decide)) v13 (hb 14 (by decide)) p14
  have d16 : ρ 16 = (ρ 6 + ρ 5 + ρ 15) % 18446744073709551616 := by have h := hd 16 _ (by decide) rfl; exact h
  have d17 : ρ 17 = (ρ 6 + ρ 5 + ρ 15) / 18446744073709551616 := by have h := hd 17 _ (by decide) rfl; exact h
  have p16 := addp _ _ _ _ _ d16 d17
  have v17 := addub _ _ _ _ _ (hb 6 (by decide)) (hb 5 (by decide)) v15 (hb 16 (by decide)) p16
  have d18 : ρ 18 = (ρ 17 + ρ 4) % 18446744073709551616 := by have h := hd 18 _ (by decide) rfl; exact h.trans (IntKind.wrap_u64 _)
  obtain ⟨g18, v18⟩ := baddp _ _ _ 1 18446744073709551614 (hb 17 (by decide)).1 (hb 4 (by decide)).1 v17 v4 (by decide) d18
  have d19 : ρ 19 = ρ 11 * 18446744069414584321 / 18446744073709551616 := by have h := hd 19 _ (by decide) rfl; exact h
  have d20 : ρ 20 = ρ 11 * 18446744069414584321 % 18446744073709551616 := by have h := hd 20 _ (by decide) rfl; exact h
  have p19 := mulp _ _ _ _ d19 d20
  have v19 := mulub _ 18446744069414584321 _ _ (hb 11 (by decide)) (hb 20 (by decide)) (by decide) p19
  have d21 : ρ 21 = ρ 11 * 4294967295 / 18446744073709551616 := by have h := hd 21 _ (by decide) rfl; exact h
  have d22 : ρ 22 = ρ 11 * 4294967295 % 18446744073709551616 := by have h := hd 22 _ (by decide) rfl; exact h
  have p21 := mulp _ _ _ _ d21 d22
  have v21 := mulub _ 4294967295 _ _ (hb 11 (by decide)) (hb 22 (by decide)) (by decide) p21
  have d23 : ρ 23 = ρ 11 * 18446744073709551615 / 18446744073709551616 := by have h := hd 23 _ (by decide) rfl; exact h
  have d24 : ρ 24 = ρ 11 * 18446744073709551615 % 18446744073709551616 := by have h := hd 24 _ (by decide) rfl; exact h
  have p23 := mulp _ _ _ _ d23 d24
  have v23 := mulub _ 18446744073709551615 _ _ (hb 11 (by decide)) (hb 24 (by decide)) (by decide) p23
  have d25 : ρ 25 = (ρ 23 + ρ 22 + 0) % 18446744073709551616 := by have h := hd 25 _ (by decide) rfl; exact h
  have d26 : ρ 26 = (ρ 23 + ρ 22 + 0) / 18446744073709551616 := by have h := hd 26 _ (by decide) rfl; exact h
  have p25 := addp _ _ _ _ _ d25 d26
  have v26 := addub _ _ _ _ _ (hb 23 (by decide)) (hb 22 (by decide)) (by decide) (hb 25 (by decide)) p25
  have d27 : ρ 27 = (ρ 26 + ρ 21) % 18446744073709551616 := by have h := hd 27 _ (by decide) rfl; exact h.trans (IntKind.wrap_u64 _)
  obtain ⟨g27, v27⟩ := baddp _ _ _ 1 4294967294 (hb 26 (by decide)).1 (hb 21 (by decide)).1 v26 v21 (by decide) d27
  have d28 : ρ 28 = (ρ 11 + ρ 24 + 0) % 18446744073709551616 := by have h := hd 28 _ (by decide) rfl; exact h
  have d29 : ρ 29 = (ρ 11 + ρ 24 + 0) / 18446744073709551616 := by have h := hd 29 _ (by decide) rfl; exact h
  have p28 := addp _ _ _ _ _ d28 d29
  have v29 := addub _ _ _ _ _ (hb 11 (by decide)) (hb 24 (by decide)) (by decide) (hb 28 (by decide)) p28
  have d30 : ρ 30 = (ρ 12 + ρ 25 + ρ 29) % 18446744073709551616 := by have h := hd 30 _ (by decide) rfl; exact h
  have d31 : ρ 31 = (ρ 12 + ρ 25 + ρ 29) / 18446744073709551616 := by have h := hd 31 _ (by decide) rfl; exact h
  have p30 := addp _ _ _ _ _ d30 d31
  have v31 := addub _ _ _ _ _ (hb 12 (by decide)) (hb 25 (by decide)) v29 (hb 30 (by decide)) p30
  have d32 : ρ 32 = (ρ 14 + ρ 27 + ρ 31) % 18446744073709551616 := by have h := hd 32 _ (by decide) rfl; exact h
  have d33 : ρ 33 = (ρ 14 + ρ 27 + ρ 31) / 18446744073709551616 := by have h := hd 33 _ (by decide) rfl; exact h
  have p32 := addp _ _ _ _ _ d32 d33
  have v33 := addub _ _ _ _ _ (hb 14 (by decide)) (hb 27 (by decide)) v31 (hb 32 (by decide)) p32
  have d34 : ρ 34 = (ρ 16 + ρ 20 + ρ 33) % 18446744073709551616 := by have h := hd 34 _ (by decide) rfl; exact h
  have d35 : ρ 35 = (ρ 16 + ρ 20 + ρ 33) / 18446744073709551616 := by have h := hd 35 _ (by decide) rfl; exact h
  have p34 := addp _ _ _ _ _ d34 d35
  have v35 := addub _ _ _ _ _ (hb 16 (by decide)) (hb 20 (by decide)) v33 (hb 34 (by decide)) p34
  have d36 : ρ 36 = (ρ 18 + ρ 19 + ρ 35) % 18446744073709551616 := by have h := hd 36 _ (by decide) rfl; exact h
  have d37 : ρ 37 = (ρ 18 + ρ 19 + ρ 35) / 18446744073709551616 := by have h := hd 37 _ (by decide) rfl; exact h
  have p36 := addp _ _ _ _ _ d36 d37
  have v37 := addub _ _ _ _ _ (hb 18 (by decide)) (hb 19 (by decide)) v35 (hb 36 (by decide)) p36
  have d38 : ρ 38 = ρ 1 * ρ 3 / 18446744073709551616 := by have h := hd 38 _ (by decide) rfl; exact h
  have d39 : ρ 39 = ρ 1 * ρ 3 % 18446744073709551616 := by have h := hd 39 _ (by decide) rfl; exact h
  have p38 := mulp _ _ _ _ d38 d39
  have v38 := mulub2 _ _ _ _ (hb 1 (by decide)) (hb 3 (by decide)) (hb 39 (by decide)) p38
  have d40 : ρ 40 = ρ 1 * ρ 2 / 18446744073709551616 := by have h := hd 40 _ (by decide) rfl; exact h
  have d41 : ρ 41 = ρ 1 * ρ 2 % 18446744073709551616 := by have h := hd 41 _ (by decide) rfl; exact h
  have p40 := mulp _ _ _ _ d40 d41
  have v40 := mulub2 _ _ _ _ (hb 1 (by decide)) (hb 2 (by decide)) (hb 41 (by decide)) p40
  have d42 : ρ 42 = ρ 1 * ρ 1 / 18446744073709551616 := by have h := hd 42 _ (by decide) rfl; exact h
  have d43 : ρ 43 = ρ 1 * ρ 1 % 18446744073709551616 := by have h := hd 43 _ (by decide) rfl; exact h
  have p42 := mulp _ _ _ _ d42 d43
  have v42 := mulub2 _ _ _ _ (hb 1 (by decide)) (hb 1 (by decide)) (hb 43 (by decide)) p42
  have d44 : ρ 44 = ρ 1 * ρ 0 / 18446744073709551616 := by have h := hd 44 _ (by decide) rfl; exact h
  have d45 : ρ 45 = ρ 1 * ρ 0 % 18446744073709551616 := by have h := hd 45 _ (by decide) rfl; exact h
  have p44 := mulp _ _ _ _ d44 d45
  have v44 := mulub2 _ _ _ _ (hb 1 (by decide)) (hb 0 (by decide)) (hb 45 (by decide)) p44
  have d46 : ρ 46 = (ρ 44 + ρ 43 + 0) % 18446744073709551616 := by have h := hd 46 _ (by decide) rfl; exact h
  have d47 : ρ 47 = (ρ 44 + ρ 43 + 0) / 18446744073709551616 := by have h := hd 47 _ (by decide) rfl; exact h
  have p46 := addp _ _ _ _ _ d46 d47
  have v47 := addub _ _ _ _ _ (hb 44 (by decide)) (hb 43 (by decide)) (by decide) (hb 46 (by decide)) p46
  have d48 : ρ 48 = (ρ 42 + ρ 41 + ρ 47) % 18446744073709551616 := by have h := hd 48 _ (by decide) rfl; exact h
  have d49 : ρ 49 = (ρ 42 + ρ 41 + ρ 47) / 18446744073709551616 := by have h := hd 49 _ (by decide) rfl; exact h
  have p48 := addp _ _ _ _ _ d48 d49
  have v49 := addub _ _ _ _ _ (hb 42 (by decide)) (hb 41 (by decide)) v47 (hb 48 (by decide)) p48
  have d50 : ρ 50 = (ρ 40 + ρ 39 + ρ 49) % 18446744073709551616 := by have h := hd 50 _ (by decide) rfl; exact h
  have d51 : ρ 51 = (ρ 40 + ρ 39 + ρ 49) / 18446744073709551616 := by have h := hd 51 _ (by decide) rfl; exact h
  have p50 := addp _ _ _ _ _ d50 d51
  have v51 := addub _ _ _ _ _ (hb 40 (by decide)) (hb 39 (by decide)) v49 (hb 50 (by decide)) p50
  have d52 : ρ 52 = (ρ 51 + ρ 38) % 18446744073709551616 := by have h := hd 52 _ (by decide) rfl; exact h.trans (IntKind.wrap_u64 _)
  obtain ⟨g52, v52⟩ := baddp _ _ _ 1 18446744073709551614 (hb 51 (by decide)).1 (hb 38 (by decide)).1 v51 v38 (by decide) d52
  have d53 : ρ 53 = (ρ 30 + ρ 45 + 0) % 18446744073709551616 := by have h := hd 53 _ (by decide) rfl; exact h
  have d54 : ρ 54 = (ρ 30 + ρ 45 + 0) / 18446744073709551616 := by have h := hd 54 _ (by decide) rfl; exact h
  have p53 := addp _ _ _ _ _ d53 d54
  have v54 := addub _ _ _ _ _ (hb 30 (by decide)) (hb 45 (by decide)) (by decide) (hb 53 (by decide)) p53
  have d55 : ρ 55 = (ρ 32 + ρ 46 + ρ 54) % 18446744073709551616 := by have h := hd 55 _ (by decide) rfl; exact h
  have d56 : ρ 56 = (ρ 32 + ρ 46 + ρ 54) / 18446744073709551616 := by have h := hd 56 _ (by decide) rfl; exact h
  have p55 := addp _ _ _ _ _ d55 d56
  have v56 := addub _ _ _ _ _ (hb 32 (by decide)) (hb 46 (by decide)) v54 (hb 55 (by decide)) p55
  have d57 : ρ 57 = (ρ 34 + ρ 48 + ρ 56) % 18446744073709551616 := by have h := hd 57 _ (by decide) rfl; exact h
  have d58 : ρ 58 = (ρ 34 + ρ 48 + ρ 56) / 18446744073709551616 := by have h := hd 58 _ (by decide) rfl; exact h
  have p57 := addp _ _ _ _ _ d57 d58
  have v58 := addub _ _ _ _ _ (hb 34 (by decide)) (hb 48 (by decide)) v56 (hb 57 (by decide)) p57
  have d59 : ρ 59 = (ρ 36 + ρ 50 + ρ 58) % 18446744073709551616 := by have h := hd 59 _ (by decide) rfl; exact h
  have d60 : ρ 60 = (ρ 36 + ρ 50 + ρ 58) / 18446744073709551616 := by have h := hd 60 _ (by decide) rfl; exact h
  have p59 := addp _ _ _ _ _ d59 d60
  have v60 := addub _ _ _ _ _ (hb 36 (by decide)) (hb 50 (by decide)) v58 (hb 59 (by decide)) p59
  have d61 : ρ 61 = (ρ 37 + ρ 52 + ρ 60) % 18446744073709551616 := by have h := hd 61 _ (by decide) rfl; exact h
  have d62 : ρ 62 = (ρ 37 + ρ 52 + ρ 60) / 18446744073709551616 := by have h := hd 62 _ (by decide) rfl; exact h
  have p61 := addp _ _ _ _ _ d61 d62
  have v62 := addub _ _ _ _ _ (hb 37 (by decide)) (hb 52 (by decide)) v60 (hb 61 (by decide)) p61
  have d63 : ρ 63 = ρ 53 * 18446744069414584321 / 18446744073709551616 := by have h := hd 63 _ (by decide) rfl; exact h
  have d64 : ρ 64 = ρ 53 * 18446744069414584321 % 18446744073709551616 := by have h := hd 64 _ (by decide) rfl; exact h
  have p63 := mulp _ _ _ _ d63 d64
  have v63 := mulub _ 18446744069414584321 _ _ (hb 53 (by decide)) (hb 64 (by decide)) (by decide) p63
  have d65 : ρ 65 = ρ 53 * 4294967295 / 18446744073709551616 := by have h := hd 65 _ (by decide) rfl; exact h
  have d66 : ρ 66 = ρ 53 * 4294967295 % 18446744073709551616 := by have h := hd 66 _ (by decide) rfl; exact h
  have p65 := mulp _ _ _ _ d65 d66
  have v65 := mulub _ 4294967295 _ _ (hb 53 (by decide)) (hb 66 (by decide)) (by decide) p65
  have d67 : ρ 67 = ρ 53 * 18446744073709551615 / 18446744073709551616 := by have h := hd 67 _ (by decide) rfl; exact h
  have d68 : ρ 68 = ρ 53 * 18446744073709551615 % 18446744073709551616 := by have h := hd 68 _ (by decide) rfl; exact h
  have p67 := mulp _ _ _ _ d67 d68
  have v67 := mulub _ 18446744073709551615 _ _ (hb 53 (by decide)) (hb 68 (by decide)) (by decide) p67
  have d69 : ρ 69 = (ρ 67 + ρ 66 + 0) % 18446744073709551616 := by have h := hd 69 _ (by decide) rfl; exact h
  have d70 : ρ 70 = (ρ 67 + ρ 66 + 0) / 18446744073709551616 := by have h := hd 70 _ (by decide) rfl; exact h
  have p69 := addp _ _ _ _ _ d69 d70
  have v70 := addub _ _ _ _ _ (hb 67 (by decide)) (hb 66 (by decide)) (by decide) (hb 69 (by decide)) p69
  have d71 : ρ 71 = (ρ 70 + ρ 65) % 18446744073709551616 := by have h := hd 71 _ (by decide) rfl; exact h.trans (IntKind.wrap_u64 _)
  obtain ⟨g71, v71⟩ := baddp _ _ _ 1 4294967294 (hb 70 (by decide)).1 (hb 65 (by decide)).1 v70 v65 (by decide) d71
  have d72 : ρ 72 = (ρ 53 + ρ 68 + 0) % 18446744073709551616 := by have h := hd 72 _ (by decide) rfl; exact h
  have d73 : ρ 73 = (ρ 53 + ρ 68 + 0) / 18446744073709551616 := by have h := hd 73 _ (by decide) rfl; exact h
  have p72 := addp _ _ _ _ _ d72 d73
  have v73 := addub _ _ _ _ _ (hb 53 (by decide)) (hb 68 (by decide)) (by decide) (hb 72 (by decide)) p72
  have d74 : ρ 74 = (ρ 55 + ρ 69 + ρ 73) % 18446744073709551616 := by have h := hd 74 _ (by decide) rfl; exact h
  have d75 : ρ 75 = (ρ 55 + ρ 69 + ρ 73) / 18446744073709551616 := by have h := hd 75 _ (by decide) rfl; exact h
  have p74 := addp _ _ _ _ _ d74 d75
  have v75 := addub _ _ _ _ _ (hb 55 (by decide)) (hb 69 (by decide)) v73 (hb 74 (by decide)) p74
  have d76 : ρ 76 = (ρ 57 + ρ 71 + ρ 75) % 18446744073709551616 := by have h := hd 76 _ (by decide) rfl; exact h
  have d77 : ρ 77 = (ρ 57 + ρ 71 + ρ 75) / 18446744073709551616 := by have h := hd 77 _ (by decide) rfl; exact h
  have p76 := addp _ _ _ _ _ d76 d77
  have v77 := addub _ _ _ _ _ (hb 57 (by decide)) (hb 71 (by decide)) v75 (hb 76 (by decide)) p76
  have d78 : ρ 78 = (ρ 59 + ρ 64 + ρ 77) % 18446744073709551616 := by have h := hd 78 _ (by decide) rfl; exact h
  have d79 : ρ 79 = (ρ 59 + ρ 64 + ρ 77) / 18446744073709551616 := by have h := hd 79 _ (by decide) rfl; exact h
  have p78 := addp _ _ _ _ _ d78 d79
  have v79 := addub _ _ _ _ _ (hb 59 (by decide)) (hb 64 (by decide)) v77 (hb 78 (by decide)) p78
  have d80 : ρ 80 = (ρ 61 + ρ 63 + ρ 79) % 18446744073709551616 := by have h := hd 80 _ (by decide) rfl; exact h
  have d81 : ρ 81 = (ρ 61 + ρ 63 + ρ 79) / 18446744073709551616 := by have h := hd 81 _ (by decide) rfl; exact h
  have p80 := addp _ _ _ _ _ d80 d81
  have v81 := addub _ _ _ _ _ (hb 61 (by decide)) (hb 63 (by decide)) v79 (hb 80 (by decide)) p80
  have d82 : ρ 82 = (ρ 81 + ρ 62) % 18446744073709551616 := by have h := hd 82 _ (by decide) rfl; exact h.trans (IntKind.wrap_u64 _)
  obtain ⟨g82, v82⟩ := baddp _ _ _ 1 1 (hb 81 (by decide)).1 (hb 62 (by decide)).1 v81 v62 (by decide) d82
  have d83 : ρ 83 = ρ 2 * ρ 3 / 18446744073709551616 := by have h := hd 83 _ (by decide) rfl; exact h
  have d84 : ρ 84 = ρ 2 * ρ 3 % 18446744073709551616 := by have h := hd 84 _ (by decide) rfl; exact h
  have p83 := mulp _ _ _ _ d83 d84
  have v83 := mulub2 _ _ _ _ (hb 2 (by decide)) (hb 3 (by decide)) (hb 84 (by decide)) p83
  have d85 : ρ 85 = ρ 2 * ρ 2 / 18446744073709551616 := by have h := hd 85 _ (by decide) rfl; exact h
  have d86 : ρ 86 = ρ 2 * ρ 2 % 18446744073709551616 := by have h := hd 86 _ (by decide) rfl; exact h
  have p85 := mulp _ _ _ _ d85 d86
  have v85 := mulub2 _ _ _ _ (hb 2 (by decide)) (hb 2 (by decide)) (hb 86 (by decide)) p85
  have d87 : ρ 87 = ρ 2 * ρ 1 / 18446744073709551616 := by have h := hd 87 _ (by decide) rfl; exact h
  have d88 : ρ 88 = ρ 2 * ρ 1 % 18446744073709551616 := by have h := hd 88 _ (by decide) rfl; exact h
  have p87 := mulp _ _ _ _ d87 d88
  have v87 := mulub2 _ _ _ _ (hb 2 (by decide)) (hb 1 (by decide)) (hb 88 (by decide)) p87
  have d89 : ρ 89 = ρ 2 * ρ 0 / 18446744073709551616 := by have h := hd 89 _ (by decide) rfl; exact h
  have d90 : ρ 90 = ρ 2 * ρ 0 % 18446744073709551616 := by have h := hd 90 _ (by decide) rfl; exact h
  have p89 := mulp _ _ _ _ d89 d90
  have v89 := mulub2 _ _ _ _ (hb 2 (by decide)) (hb 0 (by decide)) (hb 90 (by decide)) p89
  have d91 : ρ 91 = (ρ 89 + ρ 88 + 0) % 18446744073709551616 := by have h := hd 91 _ (by decide) rfl; exact h
  have d92 : ρ 92 = (ρ 89 + ρ 88 + 0) / 18446744073709551616 := by have h := hd 92 _ (by decide) rfl; exact h
  have p91 := addp _ _ _ _ _ d91 d92
  have v92 := addub _ _ _ _ _ (hb 89 (by decide)) (hb 88 (by decide)) (by decide) (hb 91 (by decide)) p91
  have d93 : ρ 93 = (ρ 87 + ρ 86 + ρ 92) % 18446744073709551616 := by have h := hd 93 _ (by decide) rfl; exact h
  have d94 : ρ 94 = (ρ 87 + ρ 86 + ρ 92) / 18446744073709551616 := by have h := hd 94 _ (by decide) rfl; exact h
  have p93 := addp _ _ _ _ _ d93 d94
  have v94 := addub _ _ _ _ _ (hb 87 (by decide)) (hb 86 (by decide)) v92 (hb 93 (by decide)) p93
  have d95 : ρ 95 = (ρ 85 + ρ 84 + ρ 94) % 18446744073709551616 := by have h := hd 95 _ (by decide) rfl; exact h
  have d96 : ρ 96 = (ρ 85 + ρ 84 + ρ 94) / 18446744073709551616 := by have h := hd 96 _ (by decide) rfl; exact h
  have p95 := addp _ _ _ _ _ d95 d96
  have v96 := addub _ _ _ _ _ (hb 85 (by decide)) (hb 84 (by decide)) v94 (hb 95 (by decide)) p95
  have d97 : ρ 97 = (ρ 96 + ρ 83) % 18446744073709551616 := by have h := hd 97 _ (by decide) rfl; exact h.trans (IntKind.wrap_u64 _)
  obtain ⟨g97, v97⟩ := baddp _ _ _ 1 18446744073709551614 (hb 96 (by decide)).1 (hb 83 (by decide)).1 v96 v83 (by decide) d97
  have d98 : ρ 98 = (ρ 74 + ρ 90 + 0) % 18446744073709551616 := by have h := hd 98 _ (by decide) rfl; exact h
  have d99 : ρ 99 = (ρ 74 + ρ 90 + 0) / 18446744073709551616 := by have h := hd 99 _ (by decide) rfl; exact h
  have p98 := addp _ _ _ _ _ d98 d99
  have v99 := addub _ _ _ _ _ (hb 74 (by decide)) (hb 90 (by decide)) (by decide) (hb 98 (by decide)) p98
  have d100 : ρ 100 = (ρ 76 + ρ 91 + ρ 99) % 18446744073709551616 := by have h := hd 100 _ (by decide) rfl; exact h
  have d101 : ρ 101 = (ρ 76 + ρ 91 + ρ 99) / 18446744073709551616 := by have h := hd 101 _ (by decide) rfl; exact h
  have p100 := addp _ _ _ _ _ d100 d101
  have v101 := addub _ _ _ _ _ (hb 76 (by decide)) (hb 91 (by decide)) v99 (hb 100 (by decide)) p100
  have d102 : ρ 102 = (ρ 78 + ρ 93 + ρ 101) % 18446744073709551616 := by have h := hd 102 _ (by decide) rfl; exact h
  have d103 : ρ 103 = (ρ 78 + ρ 93 + ρ 101) / 18446744073709551616 := by have h := hd 103 _ (by decide) rfl; exact h
  have p102 := addp _ _ _ _ _ d102 d103
  have v103 := addub _ _ _ _ _ (hb 78 (by decide)) (hb 93 (by decide)) v101 (hb 102 (by decide)) p102
  have d104 : ρ 104 = (ρ 80 + ρ 95 + ρ 103) % 18446744073709551616 := by have h := hd 104 _ (by decide) rfl; exact h
  have d105 : ρ 105 = (ρ 80 + ρ 95 + ρ 103) / 18446744073709551616 := by have h := hd 105 _ (by decide) rfl; exact h
  have p104 := addp _ _ _ _ _ d104 d105
  have v105 := addub _ _ _ _ _ (hb 80 (by decide)) (hb 95 (by decide)) v103 (hb 104 (by decide)) p104
  have d106 : ρ 106 = (ρ 82 + ρ 97 + ρ 105) % 18446744073709551616 := by have h := hd 106 _ (by decide) rfl; exact h
  have d107 : ρ 107 = (ρ 82 + ρ 97 + ρ 105) / 18446744073709551616 := by have h := hd 107 _ (by decide) rfl; exact h
  have p106 := addp _ _ _ _ _ d106 d107
  have v107 := addub _ _ _ _ _ (hb 82 (by decide)) (hb 97 (by decide)) v105 (hb 106 (by decide)) p106
  have d108 : ρ 108 = ρ 98 * 18446744069414584321 / 18446744073709551616 := by have h := hd 108 _ (by decide) rfl; exact h
  have d109 : ρ 109 = ρ 98 * 18446744069414584321 % 18446744073709551616 := by have h := hd 109 _ (by decide) rfl; exact h
  have p108 := mulp _ _ _ _ d108 d109
  have v108 := mulub _ 18446744069414584321 _ _ (hb 98 (by decide)) (hb 109 (by decide)) (by decide) p108
  have d110 : ρ 110 = ρ 98 * 4294967295 / 18446744073709551616 := by have h := hd 110 _ (by decide) rfl; exact h
  have d111 : ρ 111 = ρ 98 * 4294967295 % 18446744073709551616 := by have h := hd 111 _ (by decide) rfl; exact h
  have p110 := mulp _ _ _ _ d110 d111
  have v110 := mulub _ 4294967295 _ _ (hb 98 (by decide)) (hb 111 (by decide)) (by decide) p110
  have d112 : ρ 112 = ρ 98 * 18446744073709551615 / 18446744073709551616 := by have h := hd 112 _ (by decide) rfl; exact h
  have d113 : ρ 113 = ρ 98 * 18446744073709551615 % 18446744073709551616 := by have h := hd 113 _ (by decide) rfl; exact h
  have p112 := mulp _ _ _ _ d112 d113
  have v112 := mulub _ 18446744073709551615 _ _ (hb 98 (by decide)) (hb 113 (by decide)) (by decide) p112
  have d114 : ρ 114 = (ρ 112 + ρ 111 + 0) % 18446744073709551616 := by have h := hd 114 _ (by decide) rfl; exact h
  have d115 : ρ 115 = (ρ 112 + ρ 111 + 0) / 18446744073709551616 := by have h := hd 115 _ (by decide) rfl; exact h
  have p114 := addp _ _ _ _ _ d114 d115
  have v115 := addub _ _ _ _ _ (hb 112 (by decide)) (hb 111 (by decide)) (by decide) (hb 114 (by decide)) p114
  have d116 : ρ 116 = (ρ 115 + ρ 110) % 18446744073709551616 := by have h := hd 116 _ (by decide) rfl; exact h.trans (IntKind.wrap_u64 _)
  obtain ⟨g116, v116⟩ := baddp _ _ _ 1 4294967294 (hb 115 (by decide)).1 (hb 110 (by decide)).1 v115 v110 (by decide) d116
  have d117 : ρ 117 = (ρ 98 + ρ 113 + 0) % 18446744073709551616 := by have h := hd 117 _ (by decide) rfl; exact h
  have d118 : ρ 118 = (ρ 98 + ρ 113 + 0) / 18446744073709551616 := by have h := hd 118 _ (by decide) rfl; exact h
  have p117 := addp _ _ _ _ _ d117 d118
  have v118 := addub _ _ _ _ _ (hb 98 (by decide)) (hb 113 (by decide)) (by decide) (hb 117 (by decide)) p117
  have d119 : ρ 119 = (ρ 100 + ρ 114 + ρ 118) % 18446744073709551616 := by have h := hd 119 _ (by decide) rfl; exact h
  have d120 : ρ 120 = (ρ 100 + ρ 114 + ρ 118) / 18446744073709551616 := by have h := hd 120 _ (by decide) rfl; exact h
  have p119 := addp _ _ _ _ _ d119 d120
  have v120 := addub _ _ _ _ _ (hb 100 (by decide)) (hb 114 (by decide)) v118 (hb 119 (by decide)) p119
  have d121 : ρ 121 = (ρ 102 + ρ 116 + ρ 120) % 18446744073709551616 := by have h := hd 121 _ (by decide) rfl; exact h
  have d122 : ρ 122 = (ρ 102 + ρ 116 + ρ 120) / 18446744073709551616 := by have h := hd 122 _ (by decide) rfl; exact h
  have p121 := addp _ _ _ _ _ d121 d122
  have v122 := addub _ _ _ _ _ (hb 102 (by decide)) (hb 116 (by decide)) v120 (hb 121 (by decide)) p121
  have d123 : ρ 123 = (ρ 104 + ρ 109 + ρ 122) % 18446744073709551616 := by have h := hd 123 _ (by decide) rfl; exact h
  have d124 : ρ 124 = (ρ 104 + ρ 109 + ρ 122) / 18446744073709551616 := by have h := hd 124 _ (by decide) rfl; exact h
  have p123 := addp _ _ _ _ _ d123 d124
  have v124 := addub _ _ _ _ _ (hb 104 (by decide)) (hb 109 (by decide)) v122 (hb 123 (by decide)) p123
  have d125 : ρ 125 = (ρ 106 + ρ 108 + ρ 124) % 18446744073709551616 := by have h := hd 125 _ (by decide) rfl; exact h
  have d126 : ρ 126 = (ρ 106 + ρ 108 + ρ 124) / 18446744073709551616 := by have h := hd 126 _ (by decide) rfl; exact h
  have p125 := addp _ _ _ _ _ d125 d126
  have v126 := addub _ _ _ _ _ (hb 106 (by decide)) (hb 108 (by decide)) v124 (hb 125 (by decide)) p125
  have d127 : ρ 127 = (ρ 126 + ρ 107) % 18446744073709551616 := by have h := hd 127 _ (by decide) rfl; exact h.trans (IntKind.wrap_u64 _)
  obtain ⟨g127, v127⟩ := baddp _ _ _ 1 1 (hb 126 (by decide)).1 (hb 107 (by decide)).1 v126 v107 (by decide) d127
  have d128 : ρ 128 = ρ 3 * ρ 3 / 18446744073709551616 := by have h := hd 128 _ (by decide) rfl; exact h
  have d129 : ρ 129 = ρ 3 * ρ 3 % 18446744073709551616 := by have h := hd 129 _ (by decide) rfl; exact h
  have p128 := mulp _ _ _ _ d128 d129
  have v128 := mulub2 _ _ _ _ (hb 3 (by decide)) (hb 3 (by decide)) (hb 129 (by decide)) p128
  have d130 : ρ 130 = ρ 3 * ρ 2 / 18446744073709551616 := by have h := hd 130 _ (by decide) rfl; exact h
  have d131 : ρ 131 = ρ 3 * ρ 2 % 18446744073709551616 := by have h := hd 131 _ (by decide) rfl; exact h
  have p130 := mulp _ _ _ _ d130 d131
  have v130 := mulub2 _ _ _ _ (hb 3 (by decide)) (hb 2 (by decide)) (hb 131 (by decide)) p130
  have d132 : ρ 132 = ρ 3 * ρ 1 / 18446744073709551616 := by have h := hd 132 _ (by decide) rfl; exact h
  have d133 : ρ 133 = ρ 3 * ρ 1 % 18446744073709551616 := by have h := hd 133 _ (by decide) rfl; exact h
  have p132 := mulp _ _ _ _ d132 d133
  have v132 := mulub2 _ _ _ _ (hb 3 (by decide)) (hb 1 (by decide)) (hb 133 (by decide)) p132
  have d134 : ρ 134 = ρ 3 * ρ 0 / 18446744073709551616 := by have h := hd 134 _ (by decide) rfl; exact h
  have d135 : ρ 135 = ρ 3 * ρ 0 % 18446744073709551616 := by have h := hd 135 _ (by decide) rfl; exact h
  have p134 := mulp _ _ _ _ d134 d135
  have v134 := mulub2 _ _ _ _ (hb 3 (by decide)) (hb 0 (by decide)) (hb 135 (by decide)) p134
  have d136 : ρ 136 = (ρ 134 + ρ 133 + 0) % 18446744073709551616 := by have h := hd 136 _ (by decide) rfl; exact h
  have d137 : ρ 137 = (ρ 134 + ρ 133 + 0) / 18446744073709551616 := by have h := hd 137 _ (by decide) rfl; exact h
  have p136 := addp _ _ _ _ _ d136 d137
  have v137 := addub _ _ _ _ _ (hb 134 (by decide)) (hb 133 (by decide)) (by decide) (hb 136 (by decide)) p136
  have d138 : ρ 138 = (ρ 132 + ρ 131 + ρ 137) % 18446744073709551616 := by have h := hd 138 _ (by decide) rfl; exact h
  have d139 : ρ 139 = (ρ 132 + ρ 131 + ρ 137) / 18446744073709551616 := by have h := hd 139 _ (by decide) rfl; exact h
  have p138 := addp _ _ _ _ _ d138 d139
  have v139 := addub _ _ _ _ _ (hb 132 (by decide)) (hb 131 (by decide)) v137 (hb 138 (by decide)) p138
  have d140 : ρ 140 = (ρ 130 + ρ 129 + ρ 139) % 18446744073709551616 := by have h := hd 140 _ (by decide) rfl; exact h
  have d141 : ρ 141 = (ρ 130 + ρ 129 + ρ 139) / 18446744073709551616 := by have h := hd 141 _ (by decide) rfl; exact h
  have p140 := addp _ _ _ _ _ d140 d141
  have v141 := addub _ _ _ _ _ (hb 130 (by decide)) (hb 129 (by decide)) v139 (hb 140 (by decide)) p140
  have d142 : ρ 142 = (ρ 141 + ρ 128) % 18446744073709551616 := by have h := hd 142 _ (by decide) rfl; exact h.trans (IntKind.wrap_u64 _)
  obtain ⟨g142, v142⟩ := baddp _ _ _ 1 18446744073709551614 (hb 141 (by decide)).1 (hb 128 (by decide)).1 v141 v128 (by decide) d142
  have d143 : ρ 143 = (ρ 119 + ρ 135 + 0) % 18446744073709551616 := by have h := hd 143 _ (by decide) rfl; exact h
  have d144 : ρ 144 = (ρ 119 + ρ 135 + 0) / 18446744073709551616 := by have h := hd 144 _ (by decide) rfl; exact h
  have p143 := addp _ _ _ _ _ d143 d144
  have v144 := addub _ _ _ _ _ (hb 119 (by decide)) (hb 135 (by decide)) (by decide) (hb 143 (by decide)) p143
  have d145 : ρ 145 = (ρ 121 + ρ 136 + ρ 144) % 18446744073709551616 := by have h := hd 145 _ (by decide) rfl; exact h
  have d146 : ρ 146 = (ρ 121 + ρ 136 + ρ 144) / 18446744073709551616 := by have h := hd 146 _ (by decide) rfl; exact h
  have p145 := addp _ _ _ _ _ d145 d146
  have v146 := addub _ _ _ _ _ (hb 121 (by decide)) (hb 136 (by decide)) v144 (hb 145 (by decide)) p145
  have d147 : ρ 147 = (ρ 123 + ρ 138 + ρ 146) % 18446744073709551616 := by have h := hd 147 _ (by decide) rfl; exact h
  have d148 : ρ 148 = (ρ 123 + ρ 138 + ρ 146) / 18446744073709551616 := by have h := hd 148 _ (by decide) rfl; exact h
  have p147 := addp _ _ _ _ _ d147 d148
  have v148 := addub _ _ _ _ _ (hb 123 (by decide)) (hb 138 (by decide)) v146 (hb 147 (by decide)) p147
  have d149 : ρ 149 = (ρ 125 + ρ 140 + ρ 148) % 18446744073709551616 := by have h := hd 149 _ (by decide) rfl; exact h
  have d150 : ρ 150 = (ρ 125 + ρ 140 + ρ 148) / 18446744073709551616 := by have h := hd 150 _ (by decide) rfl; exact h
  have p149 := addp _ _ _ _ _ d149 d150
  have v150 := addub _ _ _ _ _ (hb 125 (by decide)) (hb 140 (by decide)) v148 (hb 149 (by decide)) p149
  have d151 : ρ 151 = (ρ 127 + ρ 142 + ρ 150) % 18446744073709551616 := by have h := hd 151 _ (by decide) rfl; exact h
  have d152 : ρ 152 = (ρ 127 + ρ 142 + ρ 150) / 18446744073709551616 := by have h := hd 152 _ (by decide) rfl; exact h
  have p151 := addp _ _ _ _ _ d151 d152
  have v152 := addub _ _ _ _ _ (hb 127 (by decide)) (hb 142 (by decide)) v150 (hb 151 (by decide)) p151
  have d153 : ρ 153 = ρ 143 * 18446744069414584321 / 18446744073709551616 := by have h := hd 153 _ (by decide) rfl; exact h
  have d154 : ρ 154 = ρ 143 * 18446744069414584321 % 18446744073709551616 := by have h := hd 154 _ (by decide) rfl; exact h
  have p153 := mulp _ _ _ _ d153 d154
  have v153 := mulub _ 18446744069414584321 _ _ (hb 143 (by decide)) (hb 154 (by decide)) (by decide) p153
  have d155 : ρ 155 = ρ 143 * 4294967295 / 18446744073709551616 := by have h := hd 155 _ (by decide) rfl; exact h
  have d156 : ρ 156 = ρ 143 * 4294967295 % 18446744073709551616 := by have h := hd 156 _ (by decide) rfl; exact h
  have p155 := mulp _ _ _ _ d155 d156
  have v155 := mulub _ 4294967295 _ _ (hb 143 (by decide)) (hb 156 (by decide)) (by decide) p155
  have d157 : ρ 157 = ρ 143 * 18446744073709551615 / 18446744073709551616 := by have h := hd 157 _ (by decide) rfl; exact h
  have d158 : ρ 158 = ρ 143 * 18446744073709551615 % 18446744073709551616 := by have h := hd 158 _ (by decide) rfl; exact h
  have p157 := mulp _ _ _ _ d157 d158
  have v157 := mulub _ 18446744073709551615 _ _ (hb 143 (by decide)) (hb 158 (by decide)) (by decide) p157
  have d159 : ρ 159 = (ρ 157 + ρ 156 + 0) % 18446744073709551616 := by have h := hd 159 _ (by decide) rfl; exact h
  have d160 : ρ 160 = (ρ 157 + ρ 156 + 0) / 18446744073709551616 := by have h := hd 160 _ (by decide) rfl; exact h
  have p159 := addp _ _ _ _ _ d159 d160
  have v160 := addub _ _ _ _ _ (hb 157 (by decide)) (hb 156 (by decide)) (by decide) (hb 159 (by decide)) p159
  have d161 : ρ 161 = (ρ 160 + ρ 155) % 18446744073709551616 := by have h := hd 161 _ (by decide) rfl; exact h.trans (IntKind.wrap_u64 _)
  obtain ⟨g161, v161⟩ := baddp _ _ _ 1 4294967294 (hb 160 (by decide)).1 (hb 155 (by decide)).1 v160 v155 (by decide) d161
  have d162 : ρ 162 = (ρ 143 + ρ 158 + 0) % 18446744073709551616 := by have h := hd 162 _ (by decide) rfl; exact h
  have d163 : ρ 163 = (ρ 143 + ρ 158 + 0) / 18446744073709551616 := by have h := hd 163 _ (by decide) rfl; exact h
  have p162 := addp _ _ _ _ _ d162 d163
  have v163 := addub _ _ _ _ _ (hb 143 (by decide)) (hb 158 (by decide)) (by decide) (hb 162 (by decide)) p162
  have d164 : ρ 164 = (ρ 145 + ρ 159 + ρ 163) % 18446744073709551616 := by have h := hd 164 _ (by decide) rfl; exact h
  have d165 : ρ 165 = (ρ 145 + ρ 159 + ρ 163) / 18446744073709551616 := by have h := hd 165 _ (by decide) rfl; exact h
  have p164 := addp _ _ _ _ _ d164 d165
  have v165 := addub _ _ _ _ _ (hb 145 (by decide)) (hb 159 (by decide)) v163 (hb 164 (by decide)) p164
  have d166 : ρ 166 = (ρ 147 + ρ 161 + ρ 165) % 18446744073709551616 := by have h := hd 166 _ (by decide) rfl; exact h
  have d167 : ρ 167 = (ρ 147 + ρ 161 + ρ 165) / 18446744073709551616 := by have h := hd 167 _ (by decide) rfl; exact h
  have p166 := addp _ _ _ _ _ d166 d167
  have v167 := addub _ _ _ _ _ (hb 147 (by decide)) (hb 161 (by decide)) v165 (hb 166 (by decide)) p166
  have d168 : ρ 168 = (ρ 149 + ρ 154 + ρ 167) % 18446744073709551616 := by have h := hd 168 _ (by decide) rfl; exact h
  have d169 : ρ 169 = (ρ 149 + ρ 154 + ρ 167) / 18446744073709551616 := by have h := hd 169 _ (by decide) rfl; exact h
  have p168 := addp _ _ _ _ _ d168 d169
  have v169 := addub _ _ _ _ _ (hb 149 (by decide)) (hb 154 (by decide)) v167 (hb 168 (by decide)) p168
  have d170 : ρ 170 = (ρ 151 + ρ 153 + ρ 169) % 18446744073709551616 := by have h := hd 170 _ (by decide) rfl; exact h
  have d171 : ρ 171 = (ρ 151 + ρ 153 + ρ 169) / 18446744073709551616 := by have h := hd 171 _ (by decide) rfl; exact h
  have p170 := addp _ _ _ _ _ d170 d171
  have v171 := addub _ _ _ _ _ (hb 151 (by decide)) (hb 153 (by decide)) v169 (hb 170 (by decide)) p170
  have d172 : ρ 172 = (ρ 171 + ρ 152) % 18446744073709551616 := by have h := hd 172 _ (by decide) rfl; exact h.trans (IntKind.wrap_u64 _)
  obtain ⟨g172, v172⟩ := baddp _ _ _ 1 1 (hb 171 (by decide)).1 (hb 152 (by decide)).1 v171 v152 (by decide) d172
  have d173 : ρ 173 = (ρ 164 - 18446744073709551615 - 0) % 18446744073709551616 := by have h := hd 173 _ (by decide) rfl; exact h
  have d174 : ρ 174 = if ρ 164 < 18446744073709551615 + 0 then 1 else 0 := by have h := hd 174 _ (by decide) rfl; exact h
  have t174 := bitp _ _ _ _ d174
  have p173 := subp _ _ _ _ _ (hb 164 (by decide)) (by decide) (.inl rfl) d173 d174
  have d175 : ρ 175 = (ρ 166 - 4294967295 - ρ 174) % 18446744073709551616 := by have h := hd 175 _ (by decide) rfl; exact h
  have d176 : ρ 176 = if ρ 166 < 4294967295 + ρ 174 then 1 else 0 := by have h := hd 176 _ (by decide) rfl; exact h
  have t176 := bitp _ _ _ _ d176
  have p175 := subp _ _ _ _ _ (hb 166 (by decide)) (by decide) t174 d175 d176
  have d177 : ρ 177 = (ρ 168 - 0 - ρ 176) % 18446744073709551616 := by have h := hd 177 _ (by decide) rfl; exact h
  have d178 : ρ 178 = if ρ 168 < 0 + ρ 176 then 1 else 0 := by have h := hd 178 _ (by decide) rfl; exact h
  have t178 := bitp _ _ _ _ d178
  have p177 := subp _ _ _ _ _ (hb 168 (by decide)) (by decide) t176 d177 d178
  have d179 : ρ 179 = (ρ 170 - 18446744069414584321 - ρ 178) % 18446744073709551616 := by have h := hd 179 _ (by decide) rfl; exact h
  have d180 : ρ 180 = if ρ 170 < 18446744069414584321 + ρ 178 then 1 else 0 := by have h := hd 180 _ (by decide) rfl; exact h
  have t180 := bitp _ _ _ _ d180
  have p179 := subp _ _ _ _ _ (hb 170 (by decide)) (by decide) t178 d179 d180
  have d181 : ρ 181 = (ρ 172 - 0 - ρ 180) % 18446744073709551616 := by have h := hd 181 _ (by decide) rfl; exact h
  have d182 : ρ 182 = if ρ 172 < 0 + ρ 180 then 1 else 0 := by have h := hd 182 _ (by decide) rfl; exact h
  have t182 := bitp _ _ _ _ d182
  have p181 := subp _ _ _ _ _ (hb 172 (by decide)) (by decide) t180 d181 d182
  have d183 : ρ 183 = if ρ 182 = 0 then ρ 173 else ρ 164 := by have h := hd 183 _ (by decide) rfl; exact h
  have d184 : ρ 184 = if ρ 182 = 0 then ρ 175 else ρ 166 := by have h := hd 184 _ (by decide) rfl; exact h
  have d185 : ρ 185 = if ρ 182 = 0 then ρ 177 else ρ 168 := by have h := hd 185 _ (by decide) rfl; exact h
  have d186 : ρ 186 = if ρ 182 = 0 then ρ 179 else ρ 170 := by have h := hd 186 _ (by decide) rfl; exact h
  have u0 := sqr_r0 (ρ 0 * ρ 3) (ρ 0 * ρ 2) (ρ 0 * ρ 1) (ρ 0 * ρ 0) (ρ 4) (ρ 5) (ρ 6) (ρ 7) (ρ 8) (ρ 9) (ρ 10) (ρ 11) (ρ 12) (ρ 13) (ρ 14) (ρ 15) (ρ 16) (ρ 17) (ρ 18) (ρ 19) (ρ 20) (ρ 21) (ρ 22) (ρ 23) (ρ 24) (ρ 25) (ρ 26) (ρ 27) (ρ 28) (ρ 29) (ρ 30) (ρ 31) (ρ 32) (ρ 33) (ρ 34) (ρ 35) (ρ 36) (ρ 37) (hb 28 (by decide)) p4 p6 p8 p10 p12 p14 p16 g18 p19 p21 p23 p25 g27 p28 p30 p32 p34 p36
  have u1 := sqr_r1 (ρ 1 * ρ 3) (ρ 1 * ρ 2) (ρ 1 * ρ 1) (ρ 1 * ρ 0) (ρ 30) (ρ 32) (ρ 34) (ρ 36) (ρ 37) (ρ 38) (ρ 39) (ρ 40) (ρ 41) (ρ 42) (ρ 43) (ρ 44) (ρ 45) (ρ 46) (ρ 47) (ρ 48) (ρ 49) (ρ 50) (ρ 51) (ρ 52) (ρ 53) (ρ 54) (ρ 55) (ρ 56) (ρ 57) (ρ 58) (ρ 59) (ρ 60) (ρ 61) (ρ 62) (ρ 63) (ρ 64) (ρ 65) (ρ 66) (ρ 67) (ρ 68) (ρ 69) (ρ 70) (ρ 71) (ρ 72) (ρ 73) (ρ 74) (ρ 75) (ρ 76) (ρ 77) (ρ 78) (ρ 79) (ρ 80) (ρ 81) (ρ 82) (hb 72 (by decide)) p38 p40 p42 p44 p46 p48 p50 g52 p53 p55 p57 p59 p61 p63 p65 p67 p69 g71 p72 p74 p76 p78 p80 g82
  have u2 := sqr_r2 (ρ 2 * ρ 3) (ρ 2 * ρ 2) (ρ 2 * ρ 1) (ρ 2 * ρ 0) (ρ 74) (ρ 76) (ρ 78) (ρ 80) (ρ 82) (ρ 83) (ρ 84) (ρ 85) (ρ 86) (ρ 87) (ρ 88) (ρ 89) (ρ 90) (ρ 91) (ρ 92) (ρ 93) (ρ 94) (ρ 95) (ρ 96) (ρ 97) (ρ 98) (ρ 99) (ρ 100) (ρ 101) (ρ 102) (ρ 103) (ρ 104) (ρ 105) (ρ 106) (ρ 107) (ρ 108) (ρ 109) (ρ 110) (ρ 111) (ρ 112) (ρ 113) (ρ 114) (ρ 115) (ρ 116) (ρ 117) (ρ 118) (ρ 119) (ρ 120) (ρ 121) (ρ 122) (ρ 123) (ρ 124) (ρ 125) (ρ 126) (ρ 127) (hb 117 (by decide)) p83 p85 p87 p89 p91 p93 p95 g97 p98 p100 p102 p104 p106 p108 p110 p112 p114 g116 p117 p119 p121 p123 p125 g127
  have u3 := sqr_r3 (ρ 3 * ρ 3) (ρ 3 * ρ 2) (ρ 3 * ρ 1) (ρ 3 * ρ 0) (ρ 119) (ρ 121) (ρ 123) (ρ 125) (ρ 127) (ρ 128) (ρ 129) (ρ 130) (ρ 131) (ρ 132) (ρ 133) (ρ 134) (ρ 135) (ρ 136) (ρ 137) (ρ 138) (ρ 139) (ρ 140) (ρ 141) (ρ 142) (ρ 143) (ρ 144) (ρ 145) (ρ 146) (ρ 147) (ρ 148) (ρ 149) (ρ 150) (ρ 151) (ρ 152) (ρ 153) (ρ 154) (ρ 155) (ρ 156) (ρ 157) (ρ 158) (ρ 159) (ρ 160) (ρ 161) (ρ 162) (ρ 163) (ρ 164) (ρ 165) (ρ 166) (ρ 167) (ρ 168) (ρ 169) (ρ 170) (ρ 171) (ρ 172) (hb 162 (by decide)) p128 p130 p132 p134 p136 p138 p140 g142 p143 p145 p147 p149 p151 p153 p155 p157 p159 g161 p162 p164 p166 p168 p170 g172
  have us := sqr_s (ρ 164) (ρ 166) (ρ 168) (ρ 170) (ρ 172) (ρ 173) (ρ 174) (ρ 175) (ρ 176) (ρ 177) (ρ 178) (ρ 179) (ρ 180) (ρ 181) (ρ 182) p173 p175 p177 p179 p181
  have T := mont_T _ _ _ _ _ _ _ _ _ _ _ _ u0 u1 u2 u3
  have hV' : 0 ≤ (((ρ 0 * ρ 0) + 18446744073709551616 * (ρ 0 * ρ 1) + 340282366920938463463374607431768211456 * (ρ 0 * ρ 2) + 6277101735386680763835789423207666416102355444464034512896 * (ρ 0 * ρ 3)) + 18446744073709551616 * ((ρ 1 * ρ 0) + 18446744073709551616 * (ρ 1 * ρ 1) + 340282366920938463463374607431768211456 * (ρ 1 * ρ 2) + 6277101735386680763835789423207666416102355444464034512896 * (ρ 1 * ρ 3)) + 340282366920938463463374607431768211456 * ((ρ 2 * ρ 0) + 18446744073709551616 * (ρ 2 * ρ 1) + 340282366920938463463374607431768211456 * (ρ 2 * ρ 2) + 6277101735386680763835789423207666416102355444464034512896 * (ρ 2 * ρ 3)) + 6277101735386680763835789423207666416102355444464034512896 * ((ρ 3 * ρ 0) + 18446744073709551616 * (ρ 3 * ρ 1) + 340282366920938463463374607431768211456 * (ρ 3 * ρ 2) + 6277101735386680763835789423207666416102355444464034512896 * (ρ 3 * ρ 3))) ∧ (((ρ 0 * ρ 0) + 18446744073709551616 * (ρ 0 * ρ 1) + 340282366920938463463374607431768211456 * (ρ 0 * ρ 2) + 6277101735386680763835789423207666416102355444464034512896 * (ρ 0 * ρ 3)) + 18446744073709551616 * ((ρ 1 * ρ 0) + 18446744073709551616 * (ρ 1 * ρ 1) + 340282366920938463463374607431768211456 * (ρ 1 * ρ 2) + 6277101735386680763835789423207666416102355444464034512896 * (ρ 1 * ρ 3)) + 340282366920938463463374607431768211456 * ((ρ 2 * ρ 0) + 18446744073709551616 * (ρ 2 * ρ 1) + 340282366920938463463374607431768211456 * (ρ 2 * ρ 2) + 6277101735386680763835789423207666416102355444464034512896 * (ρ 2 * ρ 3)) + 6277101735386680763835789423207666416102355444464034512896 * ((ρ 3 * ρ 0) + 18446744073709551616 * (ρ 3 * ρ 1) + 340282366920938463463374607431768211456 * (ρ 3 * ρ 2) + 6277101735386680763835789423207666416102355444464034512896 * (ρ 3 * ρ 3))) < 13407807926820848549984871491119855788235523322740973763876191939596368414310757992836696909921244801462672605190117106812798080191005388829112554944987136 := by
    have e : (((ρ 0 * ρ 0) + 18446744073709551616 * (ρ 0 * ρ 1) + 340282366920938463463374607431768211456 * (ρ 0 * ρ 2) + 6277101735386680763835789423207666416102355444464034512896 * (ρ 0 * ρ 3)) + 18446744073709551616 * ((ρ 1 * ρ 0) + 18446744073709551616 * (ρ 1 * ρ 1) + 340282366920938463463374607431768211456 * (ρ 1 * ρ 2) + 6277101735386680763835789423207666416102355444464034512896 * (ρ 1 * ρ 3)) + 340282366920938463463374607431768211456 * ((ρ 2 * ρ 0) + 18446744073709551616 * (ρ 2 * ρ 1) + 340282366920938463463374607431768211456 * (ρ 2 * ρ 2) + 6277101735386680763835789423207666416102355444464034512896 * (ρ 2 * ρ 3)) + 6277101735386680763835789423207666416102355444464034512896 * ((ρ 3 * ρ 0) + 18446744073709551616 * (ρ 3 * ρ 1) + 340282366920938463463374607431768211456 * (ρ 3 * ρ 2) + 6277101735386680763835789423207666416102355444464034512896 * (ρ 3 * ρ 3))) = (ρ 0 + 18446744073709551616 * ρ 1 + 340282366920938463463374607431768211456 * ρ 2 + 6277101735386680763835789423207666416102355444464034512896 * ρ 3) * (ρ 0 + 18446744073709551616 * ρ 1 + 340282366920938463463374607431768211456 * ρ 2 + 6277101735386680763835789423207666416102355444464034512896 * ρ 3) := by exact sqr_V _ _ _ _
    rw [e]; exact hV
  have hM := four_bd _ _ _ _ (hb 11 (by decide)) (hb 53 (by decide)) (hb 98 (by decide)) (hb 143 (by decide))
  have hS := four_bd _ _ _ _ (hb 173 (by decide)) (hb 175 (by decide)) (hb 177 (by decide)) (hb 179 (by decide))
  have hL := four_bd _ _ _ _ (hb 164 (by decide)) (hb 166 (by decide)) (hb 168 (by decide)) (hb 170 (by decide))
  have hT := mont_lt _ _ _ hV'.1 hV'.2 hM.1 hM.2 T
  have eV : (((ρ 0 * ρ 0) + 18446744073709551616 * (ρ 0 * ρ 1) + 340282366920938463463374607431768211456 * (ρ 0 * ρ 2) + 6277101735386680763835789423207666416102355444464034512896 * (ρ 0 * ρ 3)) + 18446744073709551616 * ((ρ 1 * ρ 0) + 18446744073709551616 * (ρ 1 * ρ 1) + 340282366920938463463374607431768211456 * (ρ 1 * ρ 2) + 6277101735386680763835789423207666416102355444464034512896 * (ρ 1 * ρ 3)) + 340282366920938463463374607431768211456 * ((ρ 2 * ρ 0) + 18446744073709551616 * (ρ 2 * ρ 1) + 340282366920938463463374607431768211456 * (ρ 2 * ρ 2) + 6277101735386680763835789423207666416102355444464034512896 * (ρ 2 * ρ 3)) + 6277101735386680763835789423207666416102355444464034512896 * ((ρ 3 * ρ 0) + 18446744073709551616 * (ρ 3 * ρ 1) + 340282366920938463463374607431768211456 * (ρ 3 * ρ 2) + 6277101735386680763835789423207666416102355444464034512896 * (ρ 3 * ρ 3))) = (ρ 0 + 18446744073709551616 * ρ 1 + 340282366920938463463374607431768211456 * ρ 2 + 6277101735386680763835789423207666416102355444464034512896 * ρ 3) * (ρ 0 + 18446744073709551616 * ρ 1 + 340282366920938463463374607431768211456 * ρ 2 + 6277101735386680763835789423207666416102355444464034512896 * ρ 3) := by exact sqr_V _ _ _ _
  have hc : ρ 180 ≤ 1 := by rcases t180 with g | g <;> rw [g] <;> decide
  rcases t182 with e | e
  · have z : ∀ a b : Int, (if ρ 182 = 0 then a else b) = a := fun a b => by rw [e]; rfl
    rw [z] at d183 d184 d185 d186
    have F := mont_f0 _ _ _ (ρ 172) _ _ _ hT rfl us.1 hS us.2 (hb 181 (by decide)) e
    rw [d183, d184, d185, d186]
    exact ⟨(ρ 11 + 18446744073709551616 * ρ 53 + 340282366920938463463374607431768211456 * ρ 98 + 6277101735386680763835789423207666416102355444464034512896 * ρ 143) - 115792089237316195423570985008687907853269984665640564039457584007913129639936, by rw [mont_sub _ _ _ _ F.1 T, eV], hS.1, F.2⟩
  · have z : ∀ a b : Int, (if ρ 182 = 0 then a else b) = b := fun a b => by rw [e]; rfl
    rw [z] at d183 d184 d185 d186
    have F := mont_f1 _ _ (ρ 172) _ _ _ _ hT rfl us.1 hS (hb 172 (by decide)).1 hc us.2 (hb 181 (by decide)) e
    rw [d183, d184, d185, d186]
    exact ⟨(ρ 11 + 18446744073709551616 * ρ 53 + 340282366920938463463374607431768211456 * ρ 98 + 6277101735386680763835789423207666416102355444464034512896 * ρ 143), by rw [F.1, T, eV], hL.1, F.2⟩
end Go.Proofs.Ytgdjmgcolipcnaa
