/-
  What is proved here: plain laws of the words that the engine names: a number times 2^256 modulo the prime. No program in sight.
  Conditions: those of each theorem.
-/
import Derived.Test.YtgdjmgcolipcnaaArM
namespace Go.Proofs.Ytgdjmgcolipcnaa
open Go Go.RowKit
set_option linter.unusedSimpArgs false
set_option linter.unusedVariables false
theorem tm_r0 (x0 x4 x5 x6 x7 x8 x9 x10 x11 x12 x13 x14 x15 x16 x17 x18 x19 x20 x21 x22 x23 x24 x25 x26 x27 x28 x29 x30 x31 x32 x33 x34 x35 x36 x37 : Int) (b26 : 0 ≤ x26 ∧ x26 < 18446744073709551616) (h0 : 18446744073709551616 * x4 + x5 = x0 * 21474836477) (h1 : 18446744073709551616 * x6 + x7 = x0 * 18446744073709551614) (h2 : 18446744073709551616 * x8 + x9 = x0 * 18446744056529682431) (h3 : 18446744073709551616 * x10 + x11 = x0 * 3) (h4 : x12 + 18446744073709551616 * x13 = x10 + x9 + 0) (h5 : x14 + 18446744073709551616 * x15 = x8 + x7 + x13) (h6 : x16 + 18446744073709551616 * x17 = x6 + x5 + x15) (h7 : 18446744073709551616 * x18 + x19 = x11 * 18446744069414584321) (h8 : 18446744073709551616 * x20 + x21 = x11 * 4294967295) (h9 : 18446744073709551616 * x22 + x23 = x11 * 18446744073709551615) (h10 : x24 + 18446744073709551616 * x25 = x22 + x21 + 0) (h11 : x26 + 18446744073709551616 * x27 = x11 + x23 + 0) (h12 : x28 + 18446744073709551616 * x29 = x12 + x24 + x27) (h13 : x30 = x25 + x20) (h14 : x31 + 18446744073709551616 * x32 = x14 + x30 + x29) (h15 : x33 + 18446744073709551616 * x34 = x16 + x19 + x32) (h16 : x35 = x17 + x4) (h17 : x36 + 18446744073709551616 * x37 = x35 + x18 + x34) :
    (x28 + 18446744073709551616 * x31 + 340282366920938463463374607431768211456 * x33 + 6277101735386680763835789423207666416102355444464034512896 * x36 + 115792089237316195423570985008687907853269984665640564039457584007913129639936 * x37) * 18446744073709551616 = (x0 * 134799733323198995502561713907086292154532538166959272814710328655875) + x11 * 115792089210356248762697446949407573530086143415290314195533631308867097853951 := by omega
theorem tm_r1 (x1 x28 x31 x33 x36 x37 x38 x39 x40 x41 x42 x43 x44 x45 x46 x47 x48 x49 x50 x51 x52 x53 x54 x55 x56 x57 x58 x59 x60 x61 x62 x63 x64 x65 x66 x67 x68 x69 x70 x71 x72 x73 x74 x75 x76 x77 x78 x79 x80 x81 : Int) (b68 : 0 ≤ x68 ∧ x68 < 18446744073709551616) (h0 : 18446744073709551616 * x38 + x39 = x1 * 21474836477) (h1 : 18446744073709551616 * x40 + x41 = x1 * 18446744073709551614) (h2 : 18446744073709551616 * x42 + x43 = x1 * 18446744056529682431) (h3 : 18446744073709551616 * x44 + x45 = x1 * 3) (h4 : x46 + 18446744073709551616 * x47 = x44 + x43 + 0) (h5 : x48 + 18446744073709551616 * x49 = x42 + x41 + x47) (h6 : x50 + 18446744073709551616 * x51 = x40 + x39 + x49) (h7 : x52 + 18446744073709551616 * x53 = x28 + x45 + 0) (h8 : x54 + 18446744073709551616 * x55 = x31 + x46 + x53) (h9 : x56 + 18446744073709551616 * x57 = x33 + x48 + x55) (h10 : x58 + 18446744073709551616 * x59 = x36 + x50 + x57) (h11 : 18446744073709551616 * x60 + x61 = x52 * 18446744069414584321) (h12 : 18446744073709551616 * x62 + x63 = x52 * 4294967295) (h13 : 18446744073709551616 * x64 + x65 = x52 * 18446744073709551615) (h14 : x66 + 18446744073709551616 * x67 = x64 + x63 + 0) (h15 : x68 + 18446744073709551616 * x69 = x52 + x65 + 0) (h16 : x70 + 18446744073709551616 * x71 = x54 + x66 + x69) (h17 : x72 = x67 + x62) (h18 : x73 + 18446744073709551616 * x74 = x56 + x72 + x71) (h19 : x75 + 18446744073709551616 * x76 = x58 + x61 + x74) (h20 : x77 = x59 + x37) (h21 : x78 = x51 + x38) (h22 : x79 = x77 + x78) (h23 : x80 + 18446744073709551616 * x81 = x79 + x60 + x76) :
    (x70 + 18446744073709551616 * x73 + 340282366920938463463374607431768211456 * x75 + 6277101735386680763835789423207666416102355444464034512896 * x80 + 115792089237316195423570985008687907853269984665640564039457584007913129639936 * x81) * 18446744073709551616 = (x28 + 18446744073709551616 * x31 + 340282366920938463463374607431768211456 * x33 + 6277101735386680763835789423207666416102355444464034512896 * x36 + 115792089237316195423570985008687907853269984665640564039457584007913129639936 * x37) + (x1 * 134799733323198995502561713907086292154532538166959272814710328655875) + x52 * 115792089210356248762697446949407573530086143415290314195533631308867097853951 := by omega
theorem tm_r2 (x2 x70 x73 x75 x80 x81 x82 x83 x84 x85 x86 x87 x88 x89 x90 x91 x92 x93 x94 x95 x96 x97 x98 x99 x100 x101 x102 x103 x104 x105 x106 x107 x108 x109 x110 x111 x112 x113 x114 x115 x116 x117 x118 x119 x120 x121 x122 x123 x124 x125 : Int) (b112 : 0 ≤ x112 ∧ x112 < 18446744073709551616) (h0 : 18446744073709551616 * x82 + x83 = x2 * 21474836477) (h1 : 18446744073709551616 * x84 + x85 = x2 * 18446744073709551614) (h2 : 18446744073709551616 * x86 + x87 = x2 * 18446744056529682431) (h3 : 18446744073709551616 * x88 + x89 = x2 * 3) (h4 : x90 + 18446744073709551616 * x91 = x88 + x87 + 0) (h5 : x92 + 18446744073709551616 * x93 = x86 + x85 + x91) (h6 : x94 + 18446744073709551616 * x95 = x84 + x83 + x93) (h7 : x96 + 18446744073709551616 * x97 = x70 + x89 + 0) (h8 : x98 + 18446744073709551616 * x99 = x73 + x90 + x97) (h9 : x100 + 18446744073709551616 * x101 = x75 + x92 + x99) (h10 : x102 + 18446744073709551616 * x103 = x80 + x94 + x101) (h11 : 18446744073709551616 * x104 + x105 = x96 * 18446744069414584321) (h12 : 18446744073709551616 * x106 + x107 = x96 * 4294967295) (h13 : 18446744073709551616 * x108 + x109 = x96 * 18446744073709551615) (h14 : x110 + 18446744073709551616 * x111 = x108 + x107 + 0) (h15 : x112 + 18446744073709551616 * x113 = x96 + x109 + 0) (h16 : x114 + 18446744073709551616 * x115 = x98 + x110 + x113) (h17 : x116 = x111 + x106) (h18 : x117 + 18446744073709551616 * x118 = x100 + x116 + x115) (h19 : x119 + 18446744073709551616 * x120 = x102 + x105 + x118) (h20 : x121 = x103 + x81) (h21 : x122 = x95 + x82) (h22 : x123 = x121 + x122) (h23 : x124 + 18446744073709551616 * x125 = x123 + x104 + x120) :
    (x114 + 18446744073709551616 * x117 + 340282366920938463463374607431768211456 * x119 + 6277101735386680763835789423207666416102355444464034512896 * x124 + 115792089237316195423570985008687907853269984665640564039457584007913129639936 * x125) * 18446744073709551616 = (x70 + 18446744073709551616 * x73 + 340282366920938463463374607431768211456 * x75 + 6277101735386680763835789423207666416102355444464034512896 * x80 + 115792089237316195423570985008687907853269984665640564039457584007913129639936 * x81) + (x2 * 134799733323198995502561713907086292154532538166959272814710328655875) + x96 * 115792089210356248762697446949407573530086143415290314195533631308867097853951 := by omega
theorem tm_r3 (x3 x114 x117 x119 x124 x125 x126 x127 x128 x129 x130 x131 x132 x133 x134 x135 x136 x137 x138 x139 x140 x141 x142 x143 x144 x145 x146 x147 x148 x149 x150 x151 x152 x153 x154 x155 x156 x157 x158 x159 x160 x161 x162 x163 x164 x165 x166 x167 x168 x169 : Int) (b156 : 0 ≤ x156 ∧ x156 < 18446744073709551616) (h0 : 18446744073709551616 * x126 + x127 = x3 * 21474836477) (h1 : 18446744073709551616 * x128 + x129 = x3 * 18446744073709551614) (h2 : 18446744073709551616 * x130 + x131 = x3 * 18446744056529682431) (h3 : 18446744073709551616 * x132 + x133 = x3 * 3) (h4 : x134 + 18446744073709551616 * x135 = x132 + x131 + 0) (h5 : x136 + 18446744073709551616 * x137 = x130 + x129 + x135) (h6 : x138 + 18446744073709551616 * x139 = x128 + x127 + x137) (h7 : x140 + 18446744073709551616 * x141 = x114 + x133 + 0) (h8 : x142 + 18446744073709551616 * x143 = x117 + x134 + x141) (h9 : x144 + 18446744073709551616 * x145 = x119 + x136 + x143) (h10 : x146 + 18446744073709551616 * x147 = x124 + x138 + x145) (h11 : 18446744073709551616 * x148 + x149 = x140 * 18446744069414584321) (h12 : 18446744073709551616 * x150 + x151 = x140 * 4294967295) (h13 : 18446744073709551616 * x152 + x153 = x140 * 18446744073709551615) (h14 : x154 + 18446744073709551616 * x155 = x152 + x151 + 0) (h15 : x156 + 18446744073709551616 * x157 = x140 + x153 + 0) (h16 : x158 + 18446744073709551616 * x159 = x142 + x154 + x157) (h17 : x160 = x155 + x150) (h18 : x161 + 18446744073709551616 * x162 = x144 + x160 + x159) (h19 : x163 + 18446744073709551616 * x164 = x146 + x149 + x162) (h20 : x165 = x147 + x125) (h21 : x166 = x139 + x126) (h22 : x167 = x165 + x166) (h23 : x168 + 18446744073709551616 * x169 = x167 + x148 + x164) :
    (x158 + 18446744073709551616 * x161 + 340282366920938463463374607431768211456 * x163 + 6277101735386680763835789423207666416102355444464034512896 * x168 + 115792089237316195423570985008687907853269984665640564039457584007913129639936 * x169) * 18446744073709551616 = (x114 + 18446744073709551616 * x117 + 340282366920938463463374607431768211456 * x119 + 6277101735386680763835789423207666416102355444464034512896 * x124 + 115792089237316195423570985008687907853269984665640564039457584007913129639936 * x125) + (x3 * 134799733323198995502561713907086292154532538166959272814710328655875) + x140 * 115792089210356248762697446949407573530086143415290314195533631308867097853951 := by omega
theorem tm_s (x158 x161 x163 x168 x169 x170 x171 x172 x173 x174 x175 x176 x177 x178 x179 : Int)  (h0 : x170 - 18446744073709551616 * x171 = x158 - 18446744073709551615 - 0) (h1 : x172 - 18446744073709551616 * x173 = x161 - 4294967295 - x171) (h2 : x174 - 18446744073709551616 * x175 = x163 - 0 - x173) (h3 : x176 - 18446744073709551616 * x177 = x168 - 18446744069414584321 - x175) (h4 : x178 - 18446744073709551616 * x179 = x169 - 0 - x177) :
    (x170 + 18446744073709551616 * x172 + 340282366920938463463374607431768211456 * x174 + 6277101735386680763835789423207666416102355444464034512896 * x176) = (x158 + 18446744073709551616 * x161 + 340282366920938463463374607431768211456 * x163 + 6277101735386680763835789423207666416102355444464034512896 * x168) - 115792089210356248762697446949407573530086143415290314195533631308867097853951 + 115792089237316195423570985008687907853269984665640564039457584007913129639936 * x177 ∧ x178 - 18446744073709551616 * x179 = x169 - x177 := by omega

noncomputable def defs_tm : List Ex := [.cmov (.v 179) (.v 176) (.v 168), .cmov (.v 179) (.v 174) (.v 163), .cmov (.v 179) (.v 172) (.v 161), .cmov (.v 179) (.v 170) (.v 158), .subHi (.v 169) (.c 0) (.v 177), .subLo (.v 169) (.c 0) (.v 177), .subHi (.v 168) (.c 18446744069414584321) (.v 175), .subLo (.v 168) (.c 18446744069414584321) (.v 175), .subHi (.v 163) (.c 0) (.v 173), .subLo (.v 163) (.c 0) (.v 173), .subHi (.v 161) (.c 4294967295) (.v 171), .subLo (.v 161) (.c 4294967295) (.v 171), .subHi (.v 158) (.c 18446744073709551615) (.c 0), .subLo (.v 158) (.c 18446744073709551615) (.c 0), .addHi (.v 167) (.v 148) (.v 164), .addLo (.v 167) (.v 148) (.v 164), .bin .add .u64 (.v 165) (.v 166), .bin .add .u64 (.v 139) (.v 126), .bin .add .u64 (.v 147) (.v 125), .addHi (.v 146) (.v 149) (.v 162), .addLo (.v 146) (.v 149) (.v 162), .addHi (.v 144) (.v 160) (.v 159), .addLo (.v 144) (.v 160) (.v 159), .bin .add .u64 (.v 155) (.v 150), .addHi (.v 142) (.v 154) (.v 157), .addLo (.v 142) (.v 154) (.v 157), .addHi (.v 140) (.v 153) (.c 0), .addLo (.v 140) (.v 153) (.c 0), .addHi (.v 152) (.v 151) (.c 0), .addLo (.v 152) (.v 151) (.c 0), .mulLo (.v 140) (.c 18446744073709551615), .mulHi (.v 140) (.c 18446744073709551615), .mulLo (.v 140) (.c 4294967295), .mulHi (.v 140) (.c 4294967295), .mulLo (.v 140) (.c 18446744069414584321), .mulHi (.v 140) (.c 18446744069414584321), .addHi (.v 124) (.v 138) (.v 145), .addLo (.v 124) (.v 138) (.v 145), .addHi (.v 119) (.v 136) (.v 143), .addLo (.v 119) (.v 136) (.v 143), .addHi (.v 117) (.v 134) (.v 141), .addLo (.v 117) (.v 134) (.v 141), .addHi (.v 114) (.v 133) (.c 0), .addLo (.v 114) (.v 133) (.c 0), .addHi (.v 128) (.v 127) (.v 137), .addLo (.v 128) (.v 127) (.v 137), .addHi (.v 130) (.v 129) (.v 135), .addLo (.v 130) (.v 129) (.v 135), .addHi (.v 132) (.v 131) (.c 0), .addLo (.v 132) (.v 131) (.c 0), .mulLo (.v 3) (.c 3), .mulHi (.v 3) (.c 3), .mulLo (.v 3) (.c 18446744056529682431), .mulHi (.v 3) (.c 18446744056529682431), .mulLo (.v 3) (.c 18446744073709551614), .mulHi (.v 3) (.c 18446744073709551614), .mulLo (.v 3) (.c 21474836477), .mulHi (.v 3) (.c 21474836477), .addHi (.v 123) (.v 104) (.v 120), .addLo (.v 123) (.v 104) (.v 120), .bin .add .u64 (.v 121) (.v 122), .bin .add .u64 (.v 95) (.v 82), .bin .add .u64 (.v 103) (.v 81), .addHi (.v 102) (.v 105) (.v 118), .addLo (.v 102) (.v 105) (.v 118), .addHi (.v 100) (.v 116) (.v 115), .addLo (.v 100) (.v 116) (.v 115), .bin .add .u64 (.v 111) (.v 106), .addHi (.v 98) (.v 110) (.v 113), .addLo (.v 98) (.v 110) (.v 113), .addHi (.v 96) (.v 109) (.c 0), .addLo (.v 96) (.v 109) (.c 0), .addHi (.v 108) (.v 107) (.c 0), .addLo (.v 108) (.v 107) (.c 0), .mulLo (.v 96) (.c 18446744073709551615), .mulHi (.v 96) (.c 18446744073709551615), .mulLo (.v 96) (.c 4294967295), .mulHi (.v 96) (.c 4294967295), .mulLo (.v 96) (.c 18446744069414584321), .mulHi (.v 96) (.c 18446744069414584321), .addHi (.v 80) (.v 94) (.v 101), .addLo (.v 80) (.v 94) (.v 101), .addHi (.v 75) (.v 92) (.v 99), .addLo (.v 75) (.v 92) (.v 99), .addHi (.v 73) (.v 90) (.v 97), .addLo (.v 73) (.v 90) (.v 97), .addHi (.v 70) (.v 89) (.c 0), .addLo (.v 70) (.v 89) (.c 0), .addHi (.v 84) (.v 83) (.v 93), .addLo (.v 84) (.v 83) (.v 93), .addHi (.v 86) (.v 85) (.v 91), .addLo (.v 86) (.v 85) (.v 91), .addHi (.v 88) (.v 87) (.c 0), .addLo (.v 88) (.v 87) (.c 0), .mulLo (.v 2) (.c 3), .mulHi (.v 2) (.c 3), .mulLo (.v 2) (.c 18446744056529682431), .mulHi (.v 2) (.c 18446744056529682431), .mulLo (.v 2) (.c 18446744073709551614), .mulHi (.v 2) (.c 18446744073709551614), .mulLo (.v 2) (.c 21474836477), .mulHi (.v 2) (.c 21474836477), .addHi (.v 79) (.v 60) (.v 76), .addLo (.v 79) (.v 60) (.v 76), .bin .add .u64 (.v 77) (.v 78), .bin .add .u64 (.v 51) (.v 38), .bin .add .u64 (.v 59) (.v 37), .addHi (.v 58) (.v 61) (.v 74), .addLo (.v 58) (.v 61) (.v 74), .addHi (.v 56) (.v 72) (.v 71), .addLo (.v 56) (.v 72) (.v 71), .bin .add .u64 (.v 67) (.v 62), .addHi (.v 54) (.v 66) (.v 69), .addLo (.v 54) (.v 66) (.v 69), .addHi (.v 52) (.v 65) (.c 0), .addLo (.v 52) (.v 65) (.c 0), .addHi (.v 64) (.v 63) (.c 0), .addLo (.v 64) (.v 63) (.c 0), .mulLo (.v 52) (.c 18446744073709551615), .mulHi (.v 52) (.c 18446744073709551615), .mulLo (.v 52) (.c 4294967295), .mulHi (.v 52) (.c 4294967295), .mulLo (.v 52) (.c 18446744069414584321), .mulHi (.v 52) (.c 18446744069414584321), .addHi (.v 36) (.v 50) (.v 57), .addLo (.v 36) (.v 50) (.v 57), .addHi (.v 33) (.v 48) (.v 55), .addLo (.v 33) (.v 48) (.v 55), .addHi (.v 31) (.v 46) (.v 53), .addLo (.v 31) (.v 46) (.v 53), .addHi (.v 28) (.v 45) (.c 0), .addLo (.v 28) (.v 45) (.c 0), .addHi (.v 40) (.v 39) (.v 49), .addLo (.v 40) (.v 39) (.v 49), .addHi (.v 42) (.v 41) (.v 47), .addLo (.v 42) (.v 41) (.v 47), .addHi (.v 44) (.v 43) (.c 0), .addLo (.v 44) (.v 43) (.c 0), .mulLo (.v 1) (.c 3), .mulHi (.v 1) (.c 3), .mulLo (.v 1) (.c 18446744056529682431), .mulHi (.v 1) (.c 18446744056529682431), .mulLo (.v 1) (.c 18446744073709551614), .mulHi (.v 1) (.c 18446744073709551614), .mulLo (.v 1) (.c 21474836477), .mulHi (.v 1) (.c 21474836477), .addHi (.v 35) (.v 18) (.v 34), .addLo (.v 35) (.v 18) (.v 34), .bin .add .u64 (.v 17) (.v 4), .addHi (.v 16) (.v 19) (.v 32), .addLo (.v 16) (.v 19) (.v 32), .addHi (.v 14) (.v 30) (.v 29), .addLo (.v 14) (.v 30) (.v 29), .bin .add .u64 (.v 25) (.v 20), .addHi (.v 12) (.v 24) (.v 27), .addLo (.v 12) (.v 24) (.v 27), .addHi (.v 11) (.v 23) (.c 0), .addLo (.v 11) (.v 23) (.c 0), .addHi (.v 22) (.v 21) (.c 0), .addLo (.v 22) (.v 21) (.c 0), .mulLo (.v 11) (.c 18446744073709551615), .mulHi (.v 11) (.c 18446744073709551615), .mulLo (.v 11) (.c 4294967295), .mulHi (.v 11) (.c 4294967295), .mulLo (.v 11) (.c 18446744069414584321), .mulHi (.v 11) (.c 18446744069414584321), .addHi (.v 6) (.v 5) (.v 15), .addLo (.v 6) (.v 5) (.v 15), .addHi (.v 8) (.v 7) (.v 13), .addLo (.v 8) (.v 7) (.v 13), .addHi (.v 10) (.v 9) (.c 0), .addLo (.v 10) (.v 9) (.c 0), .mulLo (.v 0) (.c 3), .mulHi (.v 0) (.c 3), .mulLo (.v 0) (.c 18446744056529682431), .mulHi (.v 0) (.c 18446744056529682431), .mulLo (.v 0) (.c 18446744073709551614), .mulHi (.v 0) (.c 18446744073709551614), .mulLo (.v 0) (.c 21474836477), .mulHi (.v 0) (.c 21474836477)]

set_option maxRecDepth 100000 in
set_option maxHeartbeats 4000000 in
theorem arith_tm (ρ : Nat → Int) (hb : ∀ i, i < 184 → 0 ≤ ρ i ∧ ρ i < 18446744073709551616) (hd : ∀ i x, i < 184 → defs_tm[184 - 1 - i]? = some x → ρ i = ev ρ x) (hV : 0 ≤ (ρ 0 + 18446744073709551616 * ρ 1 + 340282366920938463463374607431768211456 * ρ 2 + 6277101735386680763835789423207666416102355444464034512896 * ρ 3) * 134799733323198995502561713907086292154532538166959272814710328655875 ∧ (ρ 0 + 18446744073709551616 * ρ 1 + 340282366920938463463374607431768211456 * ρ 2 + 6277101735386680763835789423207666416102355444464034512896 * ρ 3) * 134799733323198995502561713907086292154532538166959272814710328655875 < 13407807926820848549984871491119855788235523322740973763876191939596368414310757992836696909921244801462672605190117106812798080191005388829112554944987136) :
    ∃ q : Int, (ρ 180 + 18446744073709551616 * ρ 181 + 340282366920938463463374607431768211456 * ρ 182 + 6277101735386680763835789423207666416102355444464034512896 * ρ 183) * 115792089237316195423570985008687907853269984665640564039457584007913129639936 = (ρ 0 + 18446744073709551616 * ρ 1 + 340282366920938463463374607431768211456 * ρ 2 + 6277101735386680763835789423207666416102355444464034512896 * ρ 3) * 134799733323198995502561713907086292154532538166959272814710328655875 + q * 115792089210356248762697446949407573530086143415290314195533631308867097853951 ∧ 0 ≤ (ρ 180 + 18446744073709551616 * ρ 181 + 340282366920938463463374607431768211456 * ρ 182 + 6277101735386680763835789423207666416102355444464034512896 * ρ 183) ∧ (ρ 180 + 18446744073709551616 * ρ 181 + 340282366920938463463374607431768211456 * ρ 182 + 6277101735386680763835789423207666416102355444464034512896 * ρ 183) < 115792089210356248762697446949407573530086143415290314195533631308867097853951 := by
  have d4 : ρ 4 = ρ 0 * 21474836477 / 18446744073709551616 := by have h := hd 4 _ (by decide) rfl; exact h
  have d5 : ρ 5 = ρ 0 * 21474836477 % 18446744073709551616 := by have h := hd 5 _ (by decide) rfl; exact h
  have p4 := mulp _ _ _ _ d4 d5
  have v4 := mulub _ 21474836477 _ _ (hb 0 (by decide)) (hb 5 (by decide)) (by decide) p4
  have d6 : ρ 6 = ρ 0 * 18446744073709551614 / 18446744073709551616 := by have h := hd 6 _ (by decide) rfl; exact h
  have d7 : ρ 7 = ρ 0 * 18446744073709551614 % 18446744073709551616 := by have h := hd 7 _ (by decide) rfl; exact h
  have p6 := mulp _ _ _ _ d6 d7
  have v6 := mulub _ 18446744073709551614 _ _ (hb 0 (by decide)) (hb 7 (by decide)) (by decide) p6
  have d8 : ρ 8 = ρ 0 * 18446744056529682431 / 18446744073709551616 := by have h := hd 8 _ (by decide) rfl; exact h
  have d9 : ρ 9 = ρ 0 * 18446744056529682431 % 18446744073709551616 := by have h := hd 9 _ (by decide) rfl; exact h
  have p8 := mulp _ _ _ _ d8 d9
  have v8 := mulub _ 18446744056529682431 _ _ (hb 0 (by decide)) (hb 9 (by decide)) (by decide) p8
  have d10 : ρ 10 = ρ 0 * 3 / 18446744073709551616 := by have h := hd 10 _ (by decide) rfl; exact h
  have d11 : ρ 11 = ρ 0 * 3 % 18446744073709551616 := by have h := hd 11 _ (by decide) rfl; exact h
  have p10 := mulp _ _ _ _ d10 d11
  have v10 := mulub _ 3 _ _ (hb 0 (by decide)) (hb 11 (by decide)) (by decide) p10
  have d12 : ρ 12 = (ρ 10 + ρ 9 + 0) % 18446744073709551616 := by have h := hd 12 _ (by decide) rfl; exact h
  have d13 : ρ 13 = (ρ 10 + ρ 9 + 0) / 18446744073709551616 := by have h := hd 13 _ (by decide) rfl; exact h
  have p12 := addp _ _ _ _ _ d12 d13
  have v13 := addub _ _ _ _ _ (hb 10 (by decide)) (hb 9 (by decide)) (by decide) (hb 12 (by decide)) p12
  have d14 : ρ 14 = (ρ 8 + ρ 7 + ρ 13) % 18446744073709551616 := by have h := hd 14 _ (by decide) rfl; exact h
  have d15 : ρ 15 = (ρ 8 + ρ 7 + ρ 13) / 18446744073709551616 := by have h := hd 15 _ (by decide) rfl; exact h
  have p14 := addp _ _ _ _ _ d14 d15
  have v15 := addub _ _ _ _ _ (hb 8 (by decide)) (hb 7 (by decide)) v13 (hb 14 (by decide)) p14
  have d16 : ρ 16 = (ρ 6 + ρ 5 + ρ 15) % 18446744073709551616 := by have h := hd 16 _ (by decide) rfl; exact h
  have d17 : ρ 17 = (ρ 6 + ρ 5 + ρ 15) / 18446744073709551616 := by have h := hd 17 _ (by decide) rfl; exact h
  have p16 := addp _ _ _ _ _ d16 d17
  have v17 := addub _ _ _ _ _ (hb 6 (by decide)) (hb 5 (by decide)) v15 (hb 16 (by decide)) p16
  have d18 : ρ 18 = ρ 11 * 18446744069414584321 / 18446744073709551616 := by have h := hd 18 _ (by decide) rfl; exact h
  have d19 : ρ 19 = ρ 11 * 18446744069414584321 % 18446744073709551616 := by have h := hd 19 _ (by decide) rfl; exact h
  have p18 := mulp _ _ _ _ d18 d19
  have v18 := mulub _ 18446744069414584321 _ _ (hb 11 (by decide)) (hb 19 (by decide)) (by decide) p18
  have d20 : ρ 20 = ρ 11 * 4294967295 / 18446744073709551616 := by have h := hd 20 _ (by decide) rfl; exact h
  have d21 : ρ 21 = ρ 11 * 4294967295 % 18446744073709551616 := by have h := hd 21 _ (by decide) rfl; exact h
  have p20 := mulp _ _ _ _ d20 d21
  have v20 := mulub _ 4294967295 _ _ (hb 11 (by decide)) (hb 21 (by decide)) (by decide) p20
  have d22 : ρ 22 = ρ 11 * 18446744073709551615 / 18446744073709551616 := by have h := hd 22 _ (by decide) rfl; exact h
  have d23 : ρ 23 = ρ 11 * 18446744073709551615 % 18446744073709551616 := by have h := hd 23 _ (by decide) rfl; exact h
  have p22 := mulp _ _ _ _ d22 d23
  have v22 := mulub _ 18446744073709551615 _ _ (hb 11 (by decide)) (hb 23 (by decide)) (by decide) p22
  have d24 : ρ 24 = (ρ 22 + ρ 21 + 0) % 18446744073709551616 := by have h := hd 24 _ (by decide) rfl; exact h
  have d25 : ρ 25 = (ρ 22 + ρ 21 + 0) / 18446744073709551616 := by have h := hd 25 _ (by decide) rfl; exact h
  have p24 := addp _ _ _ _ _ d24 d25
  have v25 := addub _ _ _ _ _ (hb 22 (by decide)) (hb 21 (by decide)) (by decide) (hb 24 (by decide)) p24
  have d26 : ρ 26 = (ρ 11 + ρ 23 + 0) % 18446744073709551616 := by have h := hd 26 _ (by decide) rfl; exact h
  have d27 : ρ 27 = (ρ 11 + ρ 23 + 0) / 18446744073709551616 := by have h := hd 27 _ (by decide) rfl; exact h
  have p26 := addp _ _ _ _ _ d26 d27
  have v27 := addub _ _ _ _ _ (hb 11 (by decide)) (hb 23 (by decide)) (by decide) (hb 26 (by decide)) p26
  have d28 : ρ 28 = (ρ 12 + ρ 24 + ρ 27) % 18446744073709551616 := by have h := hd 28 _ (by decide) rfl; exact h
  have d29 : ρ 29 = (ρ 12 + ρ 24 + ρ 27) / 18446744073709551616 := by have h := hd 29 _ (by decide) rfl; exact h
  have p28 := addp _ _ _ _ _ d28 d29
  have v29 := addub _ _ _ _ _ (hb 12 (by decide)) (hb 24 (by decide)) v27 (hb 28 (by decide)) p28
  have d30 : ρ 30 = (ρ 25 + ρ 20) % 18446744073709551616 := by have h := hd 30 _ (by decide) rfl; exact h.trans (IntKind.wrap_u64 _)
  obtain ⟨g30, v30⟩ := baddp _ _ _ 1 4294967294 (hb 25 (by decide)).1 (hb 20 (by decide)).1 v25 v20 (by decide) d30
  have d31 : ρ 31 = (ρ 14 + ρ 30 + ρ 29) % 18446744073709551616 := by have h := hd 31 _ (by decide) rfl; exact h
  have d32 : ρ 32 = (ρ 14 + ρ 30 + ρ 29) / 18446744073709551616 := by have h := hd 32 _ (by decide) rfl; exact h
  have p31 := addp _ _ _ _ _ d31 d32
  have v32 := addub _ _ _ _ _ (hb 14 (by decide)) (hb 30 (by decide)) v29 (hb 31 (by decide)) p31
  have d33 : ρ 33 = (ρ 16 + ρ 19 + ρ 32) % 18446744073709551616 := by have h := hd 33 _ (by decide) rfl; exact h
  have d34 : ρ 34 = (ρ 16 + ρ 19 + ρ 32) / 18446744073709551616 := by have h := hd 34 _ (by decide) rfl; exact h
  have p33 := addp _ _ _ _ _ d33 d34
  have v34 := addub _ _ _ _ _ (hb 16 (by decide)) (hb 19 (by decide)) v32 (hb 33 (by decide)) p33
  have d35 : ρ 35 = (ρ 17 + ρ 4) % 18446744073709551616 := by have h := hd 35 _ (by decide) rfl; exact h.trans (IntKind.wrap_u64 _)
  obtain ⟨g35, v35⟩ := baddp _ _ _ 1 21474836476 (hb 17 (by decide)).1 (hb 4 (by decide)).1 v17 v4 (by decide) d35
  have d36 : ρ 36 = (ρ 35 + ρ 18 + ρ 34) % 18446744073709551616 := by have h := hd 36 _ (by decide) rfl; exact h
  have d37 : ρ 37 = (ρ 35 + ρ 18 + ρ 34) / 18446744073709551616 := by have h := hd 37 _ (by decide) rfl; exact h
  have p36 := addp _ _ _ _ _ d36 d37
  have v37 := addub _ _ _ _ _ (hb 35 (by decide)) (hb 18 (by decide)) v34 (hb 36 (by decide)) p36
  have d38 : ρ 38 = ρ 1 * 21474836477 / 18446744073709551616 := by have h := hd 38 _ (by decide) rfl; exact h
  have d39 : ρ 39 = ρ 1 * 21474836477 % 18446744073709551616 := by have h := hd 39 _ (by decide) rfl; exact h
  have p38 := mulp _ _ _ _ d38 d39
  have v38 := mulub _ 21474836477 _ _ (hb 1 (by decide)) (hb 39 (by decide)) (by decide) p38
  have d40 : ρ 40 = ρ 1 * 18446744073709551614 / 18446744073709551616 := by have h := hd 40 _ (by decide) rfl; exact h
  have d41 : ρ 41 = ρ 1 * 18446744073709551614 % 18446744073709551616 := by have h := hd 41 _ (by decide) rfl; exact h
  have p40 := mulp _ _ _ _ d40 d41
  have v40 := mulub _ 18446744073709551614 _ _ (hb 1 (by decide)) (hb 41 (by decide)) (by decide) p40
  have d42 : ρ 42 = ρ 1 * 18446744056529682431 / 18446744073709551616 := by have h := hd 42 _ (by decide) rfl; exact h
  have d43 : ρ 43 = ρ 1 * 18446744056529682431 % 18446744073709551616 := by have h := hd 43 _ (by decide) rfl; exact h
  have p42 := mulp _ _ _ _ d42 d43
  have v42 := mulub _ 18446744056529682431 _ _ (hb 1 (by decide)) (hb 43 (by decide)) (by decide) p42
  have d44 : ρ 44 = ρ 1 * 3 / 18446744073709551616 := by have h := hd 44 _ (by decide) rfl; exact h
  have d45 : ρ 45 = ρ 1 * 3 % 18446744073709551616 := by have h := hd 45 _ (by decide) rfl; exact h
  have p44 := mulp _ _ _ _ d44 d45
  have v44 := mulub _ 3 _ _ (hb 1 (by decide)) (hb 45 (by decide)) (by decide) p44
  have d46 : ρ 46 = (ρ 44 + ρ 43 + 0) % 18446744073709551616 := by have h := hd 46 _ (by decide) rfl; exact h
  have d47 : ρ 47 = (ρ 44 + ρ 43 + 0) / 18446744073709551616 := by have h := hd 47 _ (by decide) rfl; exact h
  have p46 := addp _ _ _ _ _ d46 d47
  have v47 := addub _ _ _ _ _ (hb 44 (by decide)) (hb 43 (by decide)) (by decide) (hb 46 (by decide)) p46
  have d48 : ρ 48 = (ρ 42 + ρ 41 + ρ 47) % 18446744073709551616 := by have h := hd 48 _ (by decide) rfl; exact h
  have d49 : ρ 49 = (ρ 42 + ρ 41 + ρ 47) / 18446744073709551616 := by have h := hd 49 _ (by decide) rfl; exact h
  have p48 := addp _ _ _ _ _ d48 d49
  have v49 := addub _ _ _ _ _ (hb 42 (by decide)) (hb 41 (by decide)) v47 (hb 48 (by decide)) p48
  have d50 : ρ 50 = (ρ 40 + ρ 39 + ρ 49) % 18446744073709551616 := by have h := hd 50 _ (by decide) rfl; exact h
  have d51 : ρ 51 = (ρ 40 + ρ 39 + ρ 49) / 18446744073709551616 := by have h := hd 51 _ (by decide) rfl; exact h
  have p50 := addp _ _ _ _ _ d50 d51
  have v51 := addub _ _ _ _ _ (hb 40 (by decide)) (hb 39 (by decide)) v49 (hb 50 (by decide)) p50
  have d52 : ρ 52 = (ρ 28 + ρ 45 + 0) % 18446744073709551616 := by have h := hd 52 _ (by decide) rfl; exact h
  have d53 : ρ 53 = (ρ 28 + ρ 45 + 0) / 18446744073709551616 := by have h := hd 53 _ (by decide) rfl; exact h
  have p52 := addp _ _ _ _ _ d52 d53
  have v53 := addub _ _ _ _ _ (hb 28 (by decide)) (hb 45 (by decide)) (by decide) (hb 52 (by decide)) p52
  have d54 : ρ 54 = (ρ 31 + ρ 46 + ρ 53) % 18446744073709551616 := by have h := hd 54 _ (by decide) rfl; exact h
  have d55 : ρ 55 = (ρ 31 + ρ 46 + ρ 53) / 18446744073709551616 := by have h := hd 55 _ (by decide) rfl; exact h
  have p54 := addp _ _ _ _ _ d54 d55
  have v55 := addub _ _ _ _ _ (hb 31 (by decide)) (hb 46 (by decide)) v53 (hb 54 (by decide)) p54
  have d56 : ρ 56 = (ρ 33 + ρ 48 + ρ 55) % 18446744073709551616 := by have h := hd 56 _ (by decide) rfl; exact h
  have d57 : ρ 57 = (ρ 33 + ρ 48 + ρ 55) / 18446744073709551616 := by have h := hd 57 _ (by decide) rfl; exact h
  have p56 := addp _ _ _ _ _ d56 d57
  have v57 := addub _ _ _ _ _ (hb 33 (by decide)) (hb 48 (by decide)) v55 (hb 56 (by decide)) p56
  have d58 : ρ 58 = (ρ 36 + ρ 50 + ρ 57) % 18446744073709551616 := by have h := hd 58 _ (by decide) rfl; exact h
  have d59 : ρ 59 = (ρ 36 + ρ 50 + ρ 57) / 18446744073709551616 := by have h := hd 59 _ (by decide) rfl; exact h
  have p58 := addp _ _ _ _ _ d58 d59
  have v59 := addub _ _ _ _ _ (hb 36 (by decide)) (hb 50 (by decide)) v57 (hb 58 (by decide)) p58
  have d60 : ρ 60 = ρ 52 * 18446744069414584321 / 18446744073709551616 := by have h := hd 60 _ (by decide) rfl; exact h
  have d61 : ρ 61 = ρ 52 * 18446744069414584321 % 18446744073709551616 := by have h := hd 61 _ (by decide) rfl; exact h
  have p60 := mulp _ _ _ _ d60 d61
  have v60 := mulub _ 18446744069414584321 _ _ (hb 52 (by decide)) (hb 61 (by decide)) (by decide) p60
  have d62 : ρ 62 = ρ 52 * 4294967295 / 18446744073709551616 := by have h := hd 62 _ (by decide) rfl; exact h
  have d63 : ρ 63 = ρ 52 * 4294967295 % 18446744073709551616 := by have h := hd 63 _ (by decide) rfl; exact h
  have p62 := mulp _ _ _ _ d62 d63
  have v62 := mulub _ 4294967295 _ _ (hb 52 (by decide)) (hb 63 (by decide)) (by decide) p62
  have d64 : ρ 64 = ρ 52 * 18446744073709551615 / 18446744073709551616 := by have h := hd 64 _ (by decide) rfl; exact h
  have d65 : ρ 65 = ρ 52 * 18446744073709551615 % 18446744073709551616 := by have h := hd 65 _ (by decide) rfl; exact h
  have p64 := mulp _ _ _ _ d64 d65
  have v64 := mulub _ 18446744073709551615 _ _ (hb 52 (by decide)) (hb 65 (by decide)) (by decide) p64
  have d66 : ρ 66 = (ρ 64 + ρ 63 + 0) % 18446744073709551616 := by have h := hd 66 _ (by decide) rfl; exact h
  have d67 : ρ 67 = (ρ 64 + ρ 63 + 0) / 18446744073709551616 := by have h := hd 67 _ (by decide) rfl; exact h
  have p66 := addp _ _ _ _ _ d66 d67
  have v67 := addub _ _ _ _ _ (hb 64 (by decide)) (hb 63 (by decide)) (by decide) (hb 66 (by decide)) p66
  have d68 : ρ 68 = (ρ 52 + ρ 65 + 0) % 18446744073709551616 := by have h := hd 68 _ (by decide) rfl; exact h
  have d69 : ρ 69 = (ρ 52 + ρ 65 + 0) / 18446744073709551616 := by have h := hd 69 _ (by decide) rfl; exact h
  have p68 := addp _ _ _ _ _ d68 d69
  have v69 := addub _ _ _ _ _ (hb 52 (by decide)) (hb 65 (by decide)) (by decide) (hb 68 (by decide)) p68
  have d70 : ρ 70 = (ρ 54 + ρ 66 + ρ 69) % 18446744073709551616 := by have h := hd 70 _ (by decide) rfl; exact h
  have d71 : ρ 71 = (ρ 54 + ρ 66 + ρ 69) / 18446744073709551616 := by have h := hd 71 _ (by decide) rfl; exact h
  have p70 := addp _ _ _ _ _ d70 d71
  have v71 := addub _ _ _ _ _ (hb 54 (by decide)) (hb 66 (by decide)) v69 (hb 70 (by decide)) p70
  have d72 : ρ 72 = (ρ 67 + ρ 62) % 18446744073709551616 := by have h := hd 72 _ (by decide) rfl; exact h.trans (IntKind.wrap_u64 _)
  obtain ⟨g72, v72⟩ := baddp _ _ _ 1 4294967294 (hb 67 (by decide)).1 (hb 62 (by decide)).1 v67 v62 (by decide) d72
  have d73 : ρ 73 = (ρ 56 + ρ 72 + ρ 71) % 18446744073709551616 := by have h := hd 73 _ (by decide) rfl; exact h
  have d74 : ρ 74 = (ρ 56 + ρ 72 + ρ 71) / 18446744073709551616 := by have h := hd 74 _ (by decide) rfl; exact h
  have p73 := addp _ _ _ _ _ d73 d74
  have v74 := addub _ _ _ _ _ (hb 56 (by decide)) (hb 72 (by decide)) v71 (hb 73 (by decide)) p73
  have d75 : ρ 75 = (ρ 58 + ρ 61 + ρ 74) % 18446744073709551616 := by have h := hd 75 _ (by decide) rfl; exact h
  have d76 : ρ 76 = (ρ 58 + ρ 61 + ρ 74) / 18446744073709551616 := by have h := hd 76 _ (by decide) rfl; exact h
  have p75 := addp _ _ _ _ _ d75 d76
  have v76 := addub _ _ _ _ _ (hb 58 (by decide)) (hb 61 (by decide)) v74 (hb 75 (by decide)) p75
  have d77 : ρ 77 = (ρ 59 + ρ 37) % 18446744073709551616 := by have h := hd 77 _ (by decide) rfl; exact h.trans (IntKind.wrap_u64 _)
  obtain ⟨g77, v77⟩ := baddp _ _ _ 1 1 (hb 59 (by decide)).1 (hb 37 (by decide)).1 v59 v37 (by decide) d77
  have d78 : ρ 78 = (ρ 51 + ρ 38) % 18446744073709551616 := by have h := hd 78 _ (by decide) rfl; exact h.trans (IntKind.wrap_u64 _)
  obtain ⟨g78, v78⟩ := baddp _ _ _ 1 21474836476 (hb 51 (by decide)).1 (hb 38 (by decide)).1 v51 v38 (by decide) d78
  have d79 : ρ 79 = (ρ 77 + ρ 78) % 18446744073709551616 := by have h := hd 79 _ (by decide) rfl; exact h.trans (IntKind.wrap_u64 _)
  obtain ⟨g79, v79⟩ := baddp _ _ _ 2 21474836477 (hb 77 (by decide)).1 (hb 78 (by decide)).1 v77 v78 (by decide) d79
  have d80 : ρ 80 = (ρ 79 + ρ 60 + ρ 76) % 18446744073709551616 := by have h := hd 80 _ (by decide) rfl; exact h
  have d81 : ρ 81 = (ρ 79 + ρ 60 + ρ 76) / 18446744073709551616 := by have h := hd 81 _ (by decide) rfl; exact h
  have p80 := addp _ _ _ _ _ d80 d81
  have v81 := addub _ _ _ _ _ (hb 79 (by decide)) (hb 60 (by decide)) v76 (hb 80 (by decide)) p80
  have d82 : ρ 82 = ρ 2 * 21474836477 / 18446744073709551616 := by have h := hd 82 _ (by decide) rfl; exact h
  have d83 : ρ 83 = ρ 2 * 21474836477 % 18446744073709551616 := by have h := hd 83 _ (by decide) rfl; exact h
  have p82 := mulp _ _ _ _ d82 d83
  have v82 := mulub _ 21474836477 _ _ (hb 2 (by decide)) (hb 83 (by decide)) (by decide) p82
  have d84 : ρ 84 = ρ 2 * 18446744073709551614 / 18446744073709551616 := by have h := hd 84 _ (by decide) rfl; exact h
  have d85 : ρ 85 = ρ 2 * 18446744073709551614 % 18446744073709551616 := by have h := hd 85 _ (by decide) rfl; exact h
  have p84 := mulp _ _ _ _ d84 d85
  have v84 := mulub _ 18446744073709551614 _ _ (hb 2 (by decide)) (hb 85 (by decide)) (by decide) p84
  have d86 : ρ 86 = ρ 2 * 18446744056529682431 / 18446744073709551616 := by have h := hd 86 _ (by decide) rfl; exact h
  have d87 : ρ 87 = ρ 2 * 18446744056529682431 % 18446744073709551616 := by have h := hd 87 _ (by decide) rfl; exact h
  have p86 := mulp _ _ _ _ d86 d87
  have v86 := mulub _ 18446744056529682431 _ _ (hb 2 (by decide)) (hb 87 (by decide)) (by decide) p86
  have d88 : ρ 88 = ρ 2 * 3 / 18446744073709551616 := by have h := hd 88 _ (by decide) rfl; exact h
  have d89 : ρ 89 = ρ 2 * 3 % 18446744073709551616 := by have h := hd 89 _ (by decide) rfl; exact h
  have p88 := mulp _ _ _ _ d88 d89
  have v88 := mulub _ 3 _ _ (hb 2 (by decide)) (hb 89 (by decide)) (by decide) p88
  have d90 : ρ 90 = (ρ 88 + ρ 87 + 0) % 18446744073709551616 := by have h := hd 90 _ (by decide) rfl; exact h
  have d91 : ρ 91 = (ρ 88 + ρ 87 + 0) / 18446744073709551616 := by have h := hd 91 _ (by decide) rfl; exact h
  have p90 := addp _ _ _ _ _ d90 d91
  have v91 := addub _ _ _ _ _ (hb 88 (by decide)) (hb 87 (by decide)) (by decide) (hb 90 (by decide)) p90
  have d92 : ρ 92 = (ρ 86 + ρ 85 + ρ 91) % 18446744073709551616 := by have h := hd 92 _ (by decide) rfl; exact h
  have d93 : ρ 93 = (ρ 86 + ρ 85 + ρ 91) / 18446744073709551616 := by have h := hd 93 _ (by decide) rfl; exact h
  have p92 := addp _ _ _ _ _ d92 d93
  have v93 := addub _ _ _ _ _ (hb 86 (by decide)) (hb 85 (by decide)) v91 (hb 92 (by decide)) p92
  have d94 : ρ 94 = (ρ 84 + ρ 83 + ρ 93) % 18446744073709551616 := by have h := hd 94 _ (by decide) rfl; exact h
  have d95 : ρ 95 = (ρ 84 + ρ 83 + ρ 93) / 18446744073709551616 := by have h := hd 95 _ (by decide) rfl; exact h
  have p94 := addp _ _ _ _ _ d94 d95
  have v95 := addub _ _ _ _ _ (hb 84 (by decide)) (hb 83 (by decide)) v93 (hb 94 (by decide)) p94
  have d96 : ρ 96 = (ρ 70 + ρ 89 + 0) % 18446744073709551616 := by have h := hd 96 _ (by decide) rfl; exact h
  have d97 : ρ 97 = (ρ 70 + ρ 89 + 0) / 18446744073709551616 := by have h := hd 97 _ (by decide) rfl; exact h
  have p96 := addp _ _ _ _ _ d96 d97
  have v97 := addub _ _ _ _ _ (hb 70 (by decide)) (hb 89 (by decide)) (by decide) (hb 96 (by decide)) p96
  have d98 : ρ 98 = (ρ 73 + ρ 90 + ρ 97) % 18446744073709551616 := by have h := hd 98 _ (by decide) rfl; exact h
  have d99 : ρ 99 = (ρ 73 + ρ 90 + ρ 97) / 18446744073709551616 := by have h := hd 99 _ (by decide) rfl; exact h
  have p98 := addp _ _ _ _ _ d98 d99
  have v99 := addub _ _ _ _ _ (hb 73 (by decide)) (hb 90 (by decide)) v97 (hb 98 (by decide)) p98
  have d100 : ρ 100 = (ρ 75 + ρ 92 + ρ 99) % 18446744073709551616 := by have h := hd 100 _ (by decide) rfl; exact h
  have d101 : ρ 101 = (ρ 75 + ρ 92 + ρ 99) / 18446744073709551616 := by have h := hd 101 _ (by decide) rfl; exact h
  have p100 := addp _ _ _ _ _ d100 d101
  have v101 := addub _ _ _ _ _ (hb 75 (by decide)) (hb 92 (by decide)) v99 (hb 100 (by decide)) p100
  have d102 : ρ 102 = (ρ 80 + ρ 94 + ρ 101) % 18446744073709551616 := by have h := hd 102 _ (by decide) rfl; exact h
  have d103 : ρ 103 = (ρ 80 + ρ 94 + ρ 101) / 18446744073709551616 := by have h := hd 103 _ (by decide) rfl; exact h
  have p102 := addp _ _ _ _ _ d102 d103
  have v103 := addub _ _ _ _ _ (hb 80 (by decide)) (hb 94 (by decide)) v101 (hb 102 (by decide)) p102
  have d104 : ρ 104 = ρ 96 * 18446744069414584321 / 18446744073709551616 := by have h := hd 104 _ (by decide) rfl; exact h
  have d105 : ρ 105 = ρ 96 * 18446744069414584321 % 18446744073709551616 := by have h := hd 105 _ (by decide) rfl; exact h
  have p104 := mulp _ _ _ _ d104 d105
  have v104 := mulub _ 18446744069414584321 _ _ (hb 96 (by decide)) (hb 105 (by decide)) (by decide) p104
  have d106 : ρ 106 = ρ 96 * 4294967295 / 18446744073709551616 := by have h := hd 106 _ (by decide) rfl; exact h
  have d107 : ρ 107 = ρ 96 * 4294967295 % 18446744073709551616 := by have h := hd 107 _ (by decide) rfl; exact h
  have p106 := mulp _ _ _ _ d106 d107
  have v106 := mulub _ 4294967295 _ _ (hb 96 (by decide)) (hb 107 (by decide)) (by decide) p106
  have d108 : ρ 108 = ρ 96 * 18446744073709551615 / 18446744073709551616 := by have h := hd 108 _ (by decide) rfl; exact h
  have d109 : ρ 109 = ρ 96 * 18446744073709551615 % 18446744073709551616 := by have h := hd 109 _ (by decide) rfl; exact h
  have p108 := mulp _ _ _ _ d108 d109
  have v108 := mulub _ 18446744073709551615 _ _ (hb 96 (by decide)) (hb 109 (by decide)) (by decide) p108
  have d110 : ρ 110 = (ρ 108 + ρ 107 + 0) % 18446744073709551616 := by have h := hd 110 _ (by decide) rfl; exact h
  have d111 : ρ 111 = (ρ 108 + ρ 107 + 0) / 18446744073709551616 := by have h := hd 111 _ (by decide) rfl; exact h
  have p110 := addp _ _ _ _ _ d110 d111
  have v111 := addub _ _ _ _ _ (hb 108 (by decide)) (hb 107 (by decide)) (by decide) (hb 110 (by decide)) p110
  have d112 : ρ 112 = (ρ 96 + ρ 109 + 0) % 18446744073709551616 := by have h := hd 112 _ (by decide) rfl; exact h
  have d113 : ρ 113 = (ρ 96 + ρ 109 + 0) / 18446744073709551616 := by have h := hd 113 _ (by decide) rfl; exact h
  have p112 := addp _ _ _ _ _ d112 d113
  have v113 := addub _ _ _ _ _ (hb 96 (by decide)) (hb 109 (by decide)) (by decide) (hb 112 (by decide)) p112
  have d114 : ρ 114 = (ρ 98 + ρ 110 + ρ 113) % 18446744073709551616 := by have h := hd 114 _ (by decide) rfl; exact h
  have d115 : ρ 115 = (ρ 98 + ρ 110 + ρ 113) / 18446744073709551616 := by have h := hd 115 _ (by decide) rfl; exact h
  have p114 := addp _ _ _ _ _ d114 d115
  have v115 := addub _ _ _ _ _ (hb 98 (by decide)) (hb 110 (by decide)) v113 (hb 114 (by decide)) p114
  have d116 : ρ 116 = (ρ 111 + ρ 106) % 18446744073709551616 := by have h := hd 116 _ (by decide) rfl; exact h.trans (IntKind.wrap_u64 _)
  obtain ⟨g116, v116⟩ := baddp _ _ _ 1 4294967294 (hb 111 (by decide)).1 (hb 106 (by decide)).1 v111 v106 (by decide) d116
  have d117 : ρ 117 = (ρ 100 + ρ 116 + ρ 115) % 18446744073709551616 := by have h := hd 117 _ (by decide) rfl; exact h
  have d118 : ρ 118 = (ρ 100 + ρ 116 + ρ 115) / 18446744073709551616 := by have h := hd 118 _ (by decide) rfl; exact h
  have p117 := addp _ _ _ _ _ d117 d118
  have v118 := addub _ _ _ _ _ (hb 100 (by decide)) (hb 116 (by decide)) v115 (hb 117 (by decide)) p117
  have d119 : ρ 119 = (ρ 102 + ρ 105 + ρ 118) % 18446744073709551616 := by have h := hd 119 _ (by decide) rfl; exact h
  have d120 : ρ 120 = (ρ 102 + ρ 105 + ρ 118) / 18446744073709551616 := by have h := hd 120 _ (by decide) rfl; exact h
  have p119 := addp _ _ _ _ _ d119 d120
  have v120 := addub _ _ _ _ _ (hb 102 (by decide)) (hb 105 (by decide)) v118 (hb 119 (by decide)) p119
  have d121 : ρ 121 = (ρ 103 + ρ 81) % 18446744073709551616 := by have h := hd 121 _ (by decide) rfl; exact h.trans (IntKind.wrap_u64 _)
  obtain ⟨g121, v121⟩ := baddp _ _ _ 1 1 (hb 103 (by decide)).1 (hb 81 (by decide)).1 v103 v81 (by decide) d121
  have d122 : ρ 122 = (ρ 95 + ρ 82) % 18446744073709551616 := by have h := hd 122 _ (by decide) rfl; exact h.trans (IntKind.wrap_u64 _)
  obtain ⟨g122, v122⟩ := baddp _ _ _ 1 21474836476 (hb 95 (by decide)).1 (hb 82 (by decide)).1 v95 v82 (by decide) d122
  have d123 : ρ 123 = (ρ 121 + ρ 122) % 18446744073709551616 := by have h := hd 123 _ (by decide) rfl; exact h.trans (IntKind.wrap_u64 _)
  obtain ⟨g123, v123⟩ := baddp _ _ _ 2 21474836477 (hb 121 (by decide)).1 (hb 122 (by decide)).1 v121 v122 (by decide) d123
  have d124 : ρ 124 = (ρ 123 + ρ 104 + ρ 120) % 18446744073709551616 := by have h := hd 124 _ (by decide) rfl; exact h
  have d125 : ρ 125 = (ρ 123 + ρ 104 + ρ 120) / 18446744073709551616 := by have h := hd 125 _ (by decide) rfl; exact h
  have p124 := addp _ _ _ _ _ d124 d125
  have v125 := addub _ _ _ _ _ (hb 123 (by decide)) (hb 104 (by decide)) v120 (hb 124 (by decide)) p124
  have d126 : ρ 126 = ρ 3 * 21474836477 / 18446744073709551616 := by have h := hd 126 _ (by decide) rfl; exact h
  have d127 : ρ 127 = ρ 3 * 21474836477 % 18446744073709551616 := by have h := hd 127 _ (by decide) rfl; exact h
  have p126 := mulp _ _ _ _ d126 d127
  have v126 := mulub _ 21474836477 _ _ (hb 3 (by decide)) (hb 127 (by decide)) (by decide) p126
  have d128 : ρ 128 = ρ 3 * 18446744073709551614 / 18446744073709551616 := by have h := hd 128 _ (by decide) rfl; exact h
  have d129 : ρ 129 = ρ 3 * 18446744073709551614 % 18446744073709551616 := by have h := hd 129 _ (by decide) rfl; exact h
  have p128 := mulp _ _ _ _ d128 d129
  have v128 := mulub _ 18446744073709551614 _ _ (hb 3 (by decide)) (hb 129 (by decide)) (by decide) p128
  have d130 : ρ 130 = ρ 3 * 18446744056529682431 / 18446744073709551616 := by have h := hd 130 _ (by decide) rfl; exact h
  have d131 : ρ 131 = ρ 3 * 18446744056529682431 % 18446744073709551616 := by have h := hd 131 _ (by decide) rfl; exact h
  have p130 := mulp _ _ _ _ d130 d131
  have v130 := mulub _ 18446744056529682431 _ _ (hb 3 (by decide)) (hb 131 (by decide)) (by decide) p130
  have d132 : ρ 132 = ρ 3 * 3 / 18446744073709551616 := by have h := hd 132 _ (by decide) rfl; exact h
  have d133 : ρ 133 = ρ 3 * 3 % 18446744073709551616 := by have h := hd 133 _ (by decide) rfl; exact h
  have p132 := mulp _ _ _ _ d132 d133
  have v132 := mulub _ 3 _ _ (hb 3 (by decide)) (hb 133 (by decide)) (by decide) p132
  have d134 : ρ 134 = (ρ 132 + ρ 131 + 0) % 18446744073709551616 := by have h := hd 134 _ (by decide) rfl; exact h
  have d135 : ρ 135 = (ρ 132 + ρ 131 + 0) / 18446744073709551616 := by have h := hd 135 _ (by decide) rfl; exact h
  have p134 := addp _ _ _ _ _ d134 d135
  have v135 := addub _ _ _ _ _ (hb 132 (by decide)) (hb 131 (by decide)) (by decide) (hb 134 (by decide)) p134
  have d136 : ρ 136 = (ρ 130 + ρ 129 + ρ 135) % 18446744073709551616 := by have h := hd 136 _ (by decide) rfl; exact h
  have d137 : ρ 137 = (ρ 130 + ρ 129 + ρ 135) / 18446744073709551616 := by have h := hd 137 _ (by decide) rfl; exact h
  have p136 := addp _ _ _ _ _ d136 d137
  have v137 := addub _ _ _ _ _ (hb 130 (by decide)) (hb 129 (by decide)) v135 (hb 136 (by decide)) p136
  have d138 : ρ 138 = (ρ 128 + ρ 127 + ρ 137) % 18446744073709551616 := by have h := hd 138 _ (by decide) rfl; exact h
  have d139 : ρ 139 = (ρ 128 + ρ 127 + ρ 137) / 18446744073709551616 := by have h := hd 139 _ (by decide) rfl; exact h
  have p138 := addp _ _ _ _ _ d138 d139
  have v139 := addub _ _ _ _ _ (hb 128 (by decide)) (hb 127 (by decide)) v137 (hb 138 (by decide)) p138
  have d140 : ρ 140 = (ρ 114 + ρ 133 + 0) % 18446744073709551616 := by have h := hd 140 _ (by decide) rfl; exact h
  have d141 : ρ 141 = (ρ 114 + ρ 133 + 0) / 18446744073709551616 := by have h := hd 141 _ (by decide) rfl; exact h
  have p140 := addp _ _ _ _ _ d140 d141
  have v141 := addub _ _ _ _ _ (hb 114 (by decide)) (hb 133 (by decide)) (by decide) (hb 140 (by decide)) p140
  have d142 : ρ 142 = (ρ 117 + ρ 134 + ρ 141) % 18446744073709551616 := by have h := hd 142 _ (by decide) rfl; exact h
  have d143 : ρ 143 = (ρ 117 + ρ 134 + ρ 141) / 18446744073709551616 := by have h := hd 143 _ (by decide) rfl; exact h
  have p142 := addp _ _ _ _ _ d142 d143
  have v143 := addub _ _ _ _ _ (hb 117 (by decide)) (hb 134 (by decide)) v141 (hb 142 (by decide)) p142
  have d144 : ρ 144 = (ρ 119 + ρ 136 + ρ 143) % 18446744073709551616 := by have h := hd 144 _ (by decide) rfl; exact h
  have d145 : ρ 145 = (ρ 119 + ρ 136 + ρ 143) / 18446744073709551616 := by have h := hd 145 _ (by decide) rfl; exact h
  have p144 := addp _ _ _ _ _ d144 d145
  have v145 := addub _ _ _ _ _ (hb 119 (by decide)) (hb 136 (by decide)) v143 (hb 144 (by decide)) p144
  have d146 : ρ 146 = (ρ 124 + ρ 138 + ρ 145) % 18446744073709551616 := by have h := hd 146 _ (by decide) rfl; exact h
  have d147 : ρ 147 = (ρ 124 + ρ 138 + ρ 145) / 18446744073709551616 := by have h := hd 147 _ (by decide) rfl; exact h
  have p146 := addp _ _ _ _ _ d146 d147
  have v147 := addub _ _ _ _ _ (hb 124 (by decide)) (hb 138 (by decide)) v145 (hb 146 (by decide)) p146
  have d148 : ρ 148 = ρ 140 * 18446744069414584321 / 18446744073709551616 := by have h := hd 148 _ (by decide) rfl; exact h
  have d149 : ρ 149 = ρ 140 * 18446744069414584321 % 18446744073709551616 := by have h := hd 149 _ (by decide) rfl; exact h
  have p148 := mulp _ _ _ _ d148 d149
  have v148 := mulub _ 18446744069414584321 _ _ (hb 140 (by decide)) (hb 149 (by decide)) (by decide) p148
  have d150 : ρ 150 = ρ 140 * 4294967295 / 18446744073709551616 := by have h := hd 150 _ (by decide) rfl; exact h
  have d151 : ρ 151 = ρ 140 * 4294967295 % 18446744073709551616 := by have h := hd 151 _ (by decide) rfl; exact h
  have p150 := mulp _ _ _ _ d150 d151
  have v150 := mulub _ 4294967295 _ _ (hb 140 (by decide)) (hb 151 (by decide)) (by decide) p150
  have d152 : ρ 152 = ρ 140 * 18446744073709551615 / 18446744073709551616 := by have h := hd 152 _ (by decide) rfl; exact h
  have d153 : ρ 153 = ρ 140 * 18446744073709551615 % 18446744073709551616 := by have h := hd 153 _ (by decide) rfl; exact h
  have p152 := mulp _ _ _ _ d152 d153
  have v152 := mulub _ 18446744073709551615 _ _ (hb 140 (by decide)) (hb 153 (by decide)) (by decide) p152
  have d154 : ρ 154 = (ρ 152 + ρ 151 + 0) % 18446744073709551616 := by have h := hd 154 _ (by decide) rfl; exact h
  have d155 : ρ 155 = (ρ 152 + ρ 151 + 0) / 18446744073709551616 := by have h := hd 155 _ (by decide) rfl; exact h
  have p154 := addp _ _ _ _ _ d154 d155
  have v155 := addub _ _ _ _ _ (hb 152 (by decide)) (hb 151 (by decide)) (by decide) (hb 154 (by decide)) p154
  have d156 : ρ 156 = (ρ 140 + ρ 153 + 0) % 18446744073709551616 := by have h := hd 156 _ (by decide) rfl; exact h
  have d157 : ρ 157 = (ρ 140 + ρ 153 + 0) / 18446744073709551616 := by have h := hd 157 _ (by decide) rfl; exact h
  have p156 := addp _ _ _ _ _ d156 d157
  have v157 := addub _ _ _ _ _ (hb 140 (by decide)) (hb 153 (by decide)) (by decide) (hb 156 (by decide)) p156
  have d158 : ρ 158 = (ρ 142 + ρ 154 + ρ 157) % 18446744073709551616 := by have h := hd 158 _ (by decide) rfl; exact h
  have d159 : ρ 159 = (ρ 142 + ρ 154 + ρ 157) / 18446744073709551616 := by have h := hd 159 _ (by decide) rfl; exact h
  have p158 := addp _ _ _ _ _ d158 d159
  have v159 := addub _ _ _ _ _ (hb 142 (by decide)) (hb 154 (by decide)) v157 (hb 158 (by decide)) p158
  have d160 : ρ 160 = (ρ 155 + ρ 150) % 18446744073709551616 := by have h := hd 160 _ (by decide) rfl; exact h.trans (IntKind.wrap_u64 _)
  obtain ⟨g160, v160⟩ := baddp _ _ _ 1 4294967294 (hb 155 (by decide)).1 (hb 150 (by decide)).1 v155 v150 (by decide) d160
  have d161 : ρ 161 = (ρ 144 + ρ 160 + ρ 159) % 18446744073709551616 := by have h := hd 161 _ (by decide) rfl; exact h
  have d162 : ρ 162 = (ρ 144 + ρ 160 + ρ 159) / 18446744073709551616 := by have h := hd 162 _ (by decide) rfl; exact h
  have p161 := addp _ _ _ _ _ d161 d162
  have v162 := addub _ _ _ _ _ (hb 144 (by decide)) (hb 160 (by decide)) v159 (hb 161 (by decide)) p161
  have d163 : ρ 163 = (ρ 146 + ρ 149 + ρ 162) % 18446744073709551616 := by have h := hd 163 _ (by decide) rfl; exact h
  have d164 : ρ 164 = (ρ 146 + ρ 149 + ρ 162) / 18446744073709551616 := by have h := hd 164 _ (by decide) rfl; exact h
  have p163 := addp _ _ _ _ _ d163 d164
  have v164 := addub _ _ _ _ _ (hb 146 (by decide)) (hb 149 (by decide)) v162 (hb 163 (by decide)) p163
  have d165 : ρ 165 = (ρ 147 + ρ 125) % 18446744073709551616 := by have h := hd 165 _ (by decide) rfl; exact h.trans (IntKind.wrap_u64 _)
  obtain ⟨g165, v165⟩ := baddp _ _ _ 1 1 (hb 147 (by decide)).1 (hb 125 (by decide)).1 v147 v125 (by decide) d165
  have d166 : ρ 166 = (ρ 139 + ρ 126) % 18446744073709551616 := by have h := hd 166 _ (by decide) rfl; exact h.trans (IntKind.wrap_u64 _)
  obtain ⟨g166, v166⟩ := baddp _ _ _ 1 21474836476 (hb 139 (by decide)).1 (hb 126 (by decide)).1 v139 v126 (by decide) d166
  have d167 : ρ 167 = (ρ 165 + ρ 166) % 18446744073709551616 := by have h := hd 167 _ (by decide) rfl; exact h.trans (IntKind.wrap_u64 _)
  obtain ⟨g167, v167⟩ := baddp _ _ _ 2 21474836477 (hb 165 (by decide)).1 (hb 166 (by decide)).1 v165 v166 (by decide) d167
  have d168 : ρ 168 = (ρ 167 + ρ 148 + ρ 164) % 18446744073709551616 := by have h := hd 168 _ (by decide) rfl; exact h
  have d169 : ρ 169 = (ρ 167 + ρ 148 + ρ 164) / 18446744073709551616 := by have h := hd 169 _ (by decide) rfl; exact h
  have p168 := addp _ _ _ _ _ d168 d169
  have v169 := addub _ _ _ _ _ (hb 167 (by decide)) (hb 148 (by decide)) v164 (hb 168 (by decide)) p168
  have d170 : ρ 170 = (ρ 158 - 18446744073709551615 - 0) % 18446744073709551616 := by have h := hd 170 _ (by decide) rfl; exact h
  have d171 : ρ 171 = if ρ 158 < 18446744073709551615 + 0 then 1 else 0 := by have h := hd 171 _ (by decide) rfl; exact h
  have t171 := bitp _ _ _ _ d171
  have p170 := subp _ _ _ _ _ (hb 158 (by decide)) (by decide) (.inl rfl) d170 d171
  have d172 : ρ 172 = (ρ 161 - 4294967295 - ρ 171) % 18446744073709551616 := by have h := hd 172 _ (by decide) rfl; exact h
  have d173 : ρ 173 = if ρ 161 < 4294967295 + ρ 171 then 1 else 0 := by have h := hd 173 _ (by decide) rfl; exact h
  have t173 := bitp _ _ _ _ d173
  have p172 := subp _ _ _ _ _ (hb 161 (by decide)) (by decide) t171 d172 d173
  have d174 : ρ 174 = (ρ 163 - 0 - ρ 173) % 18446744073709551616 := by have h := hd 174 _ (by decide) rfl; exact h
  have d175 : ρ 175 = if ρ 163 < 0 + ρ 173 then 1 else 0 := by have h := hd 175 _ (by decide) rfl; exact h
  have t175 := bitp _ _ _ _ d175
  have p174 := subp _ _ _ _ _ (hb 163 (by decide)) (by decide) t173 d174 d175
  have d176 : ρ 176 = (ρ 168 - 18446744069414584321 - ρ 175) % 18446744073709551616 := by have h := hd 176 _ (by decide) rfl; exact h
  have d177 : ρ 177 = if ρ 168 < 18446744069414584321 + ρ 175 then 1 else 0 := by have h := hd 177 _ (by decide) rfl; exact h
  have t177 := bitp _ _ _ _ d177
  have p176 := subp _ _ _ _ _ (hb 168 (by decide)) (by decide) t175 d176 d177
  have d178 : ρ 178 = (ρ 169 - 0 - ρ 177) % 18446744073709551616 := by have h := hd 178 _ (by decide) rfl; exact h
  have d179 : ρ 179 = if ρ 169 < 0 + ρ 177 then 1 else 0 := by have h := hd 179 _ (by decide) rfl; exact h
  have t179 := bitp _ _ _ _ d179
  have p178 := subp _ _ _ _ _ (hb 169 (by decide)) (by decide) t177 d178 d179
  have d180 : ρ 180 = if ρ 179 = 0 then ρ 170 else ρ 158 := by have h := hd 180 _ (by decide) rfl; exact h
  have d181 : ρ 181 = if ρ 179 = 0 then ρ 172 else ρ 161 := by have h := hd 181 _ (by decide) rfl; exact h
  have d182 : ρ 182 = if ρ 179 = 0 then ρ 174 else ρ 163 := by have h := hd 182 _ (by decide) rfl; exact h
  have d183 : ρ 183 = if ρ 179 = 0 then ρ 176 else ρ 168 := by have h := hd 183 _ (by decide) rfl; exact h
  have u0 := tm_r0 (ρ 0) (ρ 4) (ρ 5) (ρ 6) (ρ 7) (ρ 8) (ρ 9) (ρ 10) (ρ 11) (ρ 12) (ρ 13) (ρ 14) (ρ 15) (ρ 16) (ρ 17) (ρ 18) (ρ 19) (ρ 20) (ρ 21) (ρ 22) (ρ 23) (ρ 24) (ρ 25) (ρ 26) (ρ 27) (ρ 28) (ρ 29) (ρ 30) (ρ 31) (ρ 32) (ρ 33) (ρ 34) (ρ 35) (ρ 36) (ρ 37) (hb 26 (by decide)) p4 p6 p8 p10 p12 p14 p16 p18 p20 p22 p24 p26 p28 g30 p31 p33 g35 p36
  have u1 := tm_r1 (ρ 1) (ρ 28) (ρ 31) (ρ 33) (ρ 36) (ρ 37) (ρ 38) (ρ 39) (ρ 40) (ρ 41) (ρ 42) (ρ 43) (ρ 44) (ρ 45) (ρ 46) (ρ 47) (ρ 48) (ρ 49) (ρ 50) (ρ 51) (ρ 52) (ρ 53) (ρ 54) (ρ 55) (ρ 56) (ρ 57) (ρ 58) (ρ 59) (ρ 60) (ρ 61) (ρ 62) (ρ 63) (ρ 64) (ρ 65) (ρ 66) (ρ 67) (ρ 68) (ρ 69) (ρ 70) (ρ 71) (ρ 72) (ρ 73) (ρ 74) (ρ 75) (ρ 76) (ρ 77) (ρ 78) (ρ 79) (ρ 80) (ρ 81) (hb 68 (by decide)) p38 p40 p42 p44 p46 p48 p50 p52 p54 p56 p58 p60 p62 p64 p66 p68 p70 g72 p73 p75 g77 g78 g79 p80
  have u2 := tm_r2 (ρ 2) (ρ 70) (ρ 73) (ρ 75) (ρ 80) (ρ 81) (ρ 82) (ρ 83) (ρ 84) (ρ 85) (ρ 86) (ρ 87) (ρ 88) (ρ 89) (ρ 90) (ρ 91) (ρ 92) (ρ 93) (ρ 94) (ρ 95) (ρ 96) (ρ 97) (ρ 98) (ρ 99) (ρ 100) (ρ 101) (ρ 102) (ρ 103) (ρ 104) (ρ 105) (ρ 106) (ρ 107) (ρ 108) (ρ 109) (ρ 110) (ρ 111) (ρ 112) (ρ 113) (ρ 114) (ρ 115) (ρ 116) (ρ 117) (ρ 118) (ρ 119) (ρ 120) (ρ 121) (ρ 122) (ρ 123) (ρ 124) (ρ 125) (hb 112 (by decide)) p82 p84 p86 p88 p90 p92 p94 p96 p98 p100 p102 p104 p106 p108 p110 p112 p114 g116 p117 p119 g121 g122 g123 p124
  have u3 := tm_r3 (ρ 3) (ρ 114) (ρ 117) (ρ 119) (ρ 124) (ρ 125) (ρ 126) (ρ 127) (ρ 128) (ρ 129) (ρ 130) (ρ 131) (ρ 132) (ρ 133) (ρ 134) (ρ 135) (ρ 136) (ρ 137) (ρ 138) (ρ 139) (ρ 140) (ρ 141) (ρ 142) (ρ 143) (ρ 144) (ρ 145) (ρ 146) (ρ 147) (ρ 148) (ρ 149) (ρ 150) (ρ 151) (ρ 152) (ρ 153) (ρ 154) (ρ 155) (ρ 156) (ρ 157) (ρ 158) (ρ 159) (ρ 160) (ρ 161) (ρ 162) (ρ 163) (ρ 164) (ρ 165) (ρ 166) (ρ 167) (ρ 168) (ρ 169) (hb 156 (by decide)) p126 p128 p130 p132 p134 p136 p138 p140 p142 p144 p146 p148 p150 p152 p154 p156 p158 g160 p161 p163 g165 g166 g167 p168
  have us := tm_s (ρ 158) (ρ 161) (ρ 163) (ρ 168) (ρ 169) (ρ 170) (ρ 171) (ρ 172) (ρ 173) (ρ 174) (ρ 175) (ρ 176) (ρ 177) (ρ 178) (ρ 179) p170 p172 p174 p176 p178
  have T := mont_T _ _ _ _ _ _ _ _ _ _ _ _ u0 u1 u2 u3
  have hV' : 0 ≤ ((ρ 0 * 134799733323198995502561713907086292154532538166959272814710328655875) + 18446744073709551616 * (ρ 1 * 134799733323198995502561713907086292154532538166959272814710328655875) + 340282366920938463463374607431768211456 * (ρ 2 * 134799733323198995502561713907086292154532538166959272814710328655875) + 6277101735386680763835789423207666416102355444464034512896 * (ρ 3 * 134799733323198995502561713907086292154532538166959272814710328655875)) ∧ ((ρ 0 * 134799733323198995502561713907086292154532538166959272814710328655875) + 18446744073709551616 * (ρ 1 * 134799733323198995502561713907086292154532538166959272814710328655875) + 340282366920938463463374607431768211456 * (ρ 2 * 134799733323198995502561713907086292154532538166959272814710328655875) + 6277101735386680763835789423207666416102355444464034512896 * (ρ 3 * 134799733323198995502561713907086292154532538166959272814710328655875)) < 13407807926820848549984871491119855788235523322740973763876191939596368414310757992836696909921244801462672605190117106812798080191005388829112554944987136 := by
    have e : ((ρ 0 * 134799733323198995502561713907086292154532538166959272814710328655875) + 18446744073709551616 * (ρ 1 * 134799733323198995502561713907086292154532538166959272814710328655875) + 340282366920938463463374607431768211456 * (ρ 2 * 134799733323198995502561713907086292154532538166959272814710328655875) + 6277101735386680763835789423207666416102355444464034512896 * (ρ 3 * 134799733323198995502561713907086292154532538166959272814710328655875)) = (ρ 0 + 18446744073709551616 * ρ 1 + 340282366920938463463374607431768211456 * ρ 2 + 6277101735386680763835789423207666416102355444464034512896 * ρ 3) * 134799733323198995502561713907086292154532538166959272814710328655875 := by exact tm_V _ _ _ _
    rw [e]; exact hV
  have hM := four_bd _ _ _ _ (hb 11 (by decide)) (hb 52 (by decide)) (hb 96 (by decide)) (hb 140 (by decide))
  have hS := four_bd _ _ _ _ (hb 170 (by decide)) (hb 172 (by decide)) (hb 174 (by decide)) (hb 176 (by decide))
  have hL := four_bd _ _ _ _ (hb 158 (by decide)) (hb 161 (by decide)) (hb 163 (by decide)) (hb 168 (by decide))
  have hT := mont_lt _ _ _ hV'.1 hV'.2 hM.1 hM.2 T
  have eV : ((ρ 0 * 134799733323198995502561713907086292154532538166959272814710328655875) + 18446744073709551616 * (ρ 1 * 134799733323198995502561713907086292154532538166959272814710328655875) + 340282366920938463463374607431768211456 * (ρ 2 * 134799733323198995502561713907086292154532538166959272814710328655875) + 6277101735386680763835789423207666416102355444464034512896 * (ρ 3 * 134799733323198995502561713907086292154532538166959272814710328655875)) = (ρ 0 + 18446744073709551616 * ρ 1 + 340282366920938463463374607431768211456 * ρ 2 + 6277101735386680763835789423207666416102355444464034512896 * ρ 3) * 134799733323198995502561713907086292154532538166959272814710328655875 := by exact tm_V _ _ _ _
  have hc : ρ 177 ≤ 1 := by rcases t177 with g | g <;> rw [g] <;> decide
  rcases t179 with e | e
  · have z : ∀ a b : Int, (if ρ 179 = 0 then a else b) = a := fun a b => by rw [e]; rfl
    rw [z] at d180 d181 d182 d183
    have F := mont_f0 _ _ _ (ρ 169) _ _ _ hT rfl us.1 hS us.2 (hb 178 (by decide)) e
    rw [d180, d181, d182, d183]
    exact ⟨(ρ 11 + 18446744073709551616 * ρ 52 + 340282366920938463463374607431768211456 * ρ 96 + 6277101735386680763835789423207666416102355444464034512896 * ρ 140) - 115792089237316195423570985008687907853269984665640564039457584007913129639936, by rw [mont_sub _ _ _ _ F.1 T, eV], hS.1, F.2⟩
  · have z : ∀ a b : Int, (if ρ 179 = 0 then a else b) = b := fun a b => by rw [e]; rfl
    rw [z] at d180 d181 d182 d183
    have F := mont_f1 _ _ (ρ 169) _ _ _ _ hT rfl us.1 hS (hb 169 (by decide)).1 hc us.2 (hb 178 (by decide)) e
    rw [d180, d181, d182, d183]
    exact ⟨(ρ 11 + 18446744073709551616 * ρ 52 + 340282366920938463463374607431768211456 * ρ 96 + 6277101735386680763835789423207666416102355444464034512896 * ρ 140), by rw [F.1, T, eV], hL.1, F.2⟩
end Go.Proofs.Ytgdjmgcolipcnaa
