/-
  What is proved here: plain laws of the words that the engine names: a number by 2^256 modulo the prime. No program in sight.
  Conditions: those of each theorem.
-/
import Derived.Test.YtgdjmgcolipcnaaArM
namespace Go.Proofs.Ytgdjmgcolipcnaa
open Go Go.RowKit
set_option linter.unusedSimpArgs false
set_option linter.unusedVariables false
theorem fm_r0 (x0 x4 x5 x6 x7 x8 x9 x10 x11 x12 x13 x14 x15 : Int) (b12 : 0 ≤ x12 ∧ x12 < 18446744073709551616) (h0 : 18446744073709551616 * x4 + x5 = x0 * 18446744069414584321) (h1 : 18446744073709551616 * x6 + x7 = x0 * 4294967295) (h2 : 18446744073709551616 * x8 + x9 = x0 * 18446744073709551615) (h3 : x10 + 18446744073709551616 * x11 = x8 + x7 + 0) (h4 : x12 + 18446744073709551616 * x13 = x0 + x9 + 0) (h5 : x14 + 18446744073709551616 * x15 = 0 + x10 + x13) :
    (x14 + 18446744073709551616 * (x15 + x11 + x6) + 340282366920938463463374607431768211456 * x5 + 6277101735386680763835789423207666416102355444464034512896 * x4) * 18446744073709551616 = x0 + x0 * 115792089210356248762697446949407573530086143415290314195533631308867097853951 := by omega
theorem fm_r1 (x1 x4 x5 x6 x11 x14 x15 x16 x17 x18 x19 x20 x21 x22 x23 x24 x25 x26 x27 x28 x29 x30 x31 x32 x33 x34 x35 x36 x37 : Int) (b26 : 0 ≤ x26 ∧ x26 < 18446744073709551616) (h0 : x16 + 18446744073709551616 * x17 = x14 + x1 + 0) (h1 : 18446744073709551616 * x18 + x19 = x16 * 18446744069414584321) (h2 : 18446744073709551616 * x20 + x21 = x16 * 4294967295) (h3 : 18446744073709551616 * x22 + x23 = x16 * 18446744073709551615) (h4 : x24 + 18446744073709551616 * x25 = x22 + x21 + 0) (h5 : x26 + 18446744073709551616 * x27 = x16 + x23 + 0) (h6 : x28 = x11 + x6) (h7 : x29 = x15 + x28) (h8 : x30 = x17 + x29) (h9 : x31 + 18446744073709551616 * x32 = x30 + x24 + x27) (h10 : x33 = x25 + x20) (h11 : x34 + 18446744073709551616 * x35 = x5 + x33 + x32) (h12 : x36 + 18446744073709551616 * x37 = x4 + x19 + x35) :
    (x31 + 18446744073709551616 * x34 + 340282366920938463463374607431768211456 * x36 + 6277101735386680763835789423207666416102355444464034512896 * (x37 + x18)) * 18446744073709551616 = (x14 + 18446744073709551616 * (x15 + x11 + x6) + 340282366920938463463374607431768211456 * x5 + 6277101735386680763835789423207666416102355444464034512896 * x4) + x1 + x16 * 115792089210356248762697446949407573530086143415290314195533631308867097853951 := by omega
theorem fm_r2 (x2 x18 x31 x34 x36 x37 x38 x39 x40 x41 x42 x43 x44 x45 x46 x47 x48 x49 x50 x51 x52 x53 x54 x55 x56 x57 x58 x59 x60 x61 x62 : Int) (b52 : 0 ≤ x52 ∧ x52 < 18446744073709551616) (h0 : x38 + 18446744073709551616 * x39 = x31 + x2 + 0) (h1 : x40 + 18446744073709551616 * x41 = x34 + 0 + x39) (h2 : x42 + 18446744073709551616 * x43 = x36 + 0 + x41) (h3 : 18446744073709551616 * x44 + x45 = x38 * 18446744069414584321) (h4 : 18446744073709551616 * x46 + x47 = x38 * 4294967295) (h5 : 18446744073709551616 * x48 + x49 = x38 * 18446744073709551615) (h6 : x50 + 18446744073709551616 * x51 = x48 + x47 + 0) (h7 : x52 + 18446744073709551616 * x53 = x38 + x49 + 0) (h8 : x54 + 18446744073709551616 * x55 = x40 + x50 + x53) (h9 : x56 = x51 + x46) (h10 : x57 + 18446744073709551616 * x58 = x42 + x56 + x55) (h11 : x59 = x37 + x18) (h12 : x60 = x43 + x59) (h13 : x61 + 18446744073709551616 * x62 = x60 + x45 + x58) :
    (x54 + 18446744073709551616 * x57 + 340282366920938463463374607431768211456 * x61 + 6277101735386680763835789423207666416102355444464034512896 * (x62 + x44)) * 18446744073709551616 = (x31 + 18446744073709551616 * x34 + 340282366920938463463374607431768211456 * x36 + 6277101735386680763835789423207666416102355444464034512896 * (x37 + x18)) + x2 + x38 * 115792089210356248762697446949407573530086143415290314195533631308867097853951 := by omega
theorem fm_r3 (x3 x44 x54 x57 x61 x62 x63 x64 x65 x66 x67 x68 x69 x70 x71 x72 x73 x74 x75 x76 x77 x78 x79 x80 x81 x82 x83 x84 x85 x86 x87 x88 : Int) (b77 : 0 ≤ x77 ∧ x77 < 18446744073709551616) (h0 : x63 + 18446744073709551616 * x64 = x54 + x3 + 0) (h1 : x65 + 18446744073709551616 * x66 = x57 + 0 + x64) (h2 : x67 + 18446744073709551616 * x68 = x61 + 0 + x66) (h3 : 18446744073709551616 * x69 + x70 = x63 * 18446744069414584321) (h4 : 18446744073709551616 * x71 + x72 = x63 * 4294967295) (h5 : 18446744073709551616 * x73 + x74 = x63 * 18446744073709551615) (h6 : x75 + 18446744073709551616 * x76 = x73 + x72 + 0) (h7 : x77 + 18446744073709551616 * x78 = x63 + x74 + 0) (h8 : x79 + 18446744073709551616 * x80 = x65 + x75 + x78) (h9 : x81 = x76 + x71) (h10 : x82 + 18446744073709551616 * x83 = x67 + x81 + x80) (h11 : x84 = x62 + x44) (h12 : x85 = x68 + x84) (h13 : x86 + 18446744073709551616 * x87 = x85 + x70 + x83) (h14 : x88 = x87 + x69) :
    (x79 + 18446744073709551616 * x82 + 340282366920938463463374607431768211456 * x86 + 6277101735386680763835789423207666416102355444464034512896 * x88) * 18446744073709551616 = (x54 + 18446744073709551616 * x57 + 340282366920938463463374607431768211456 * x61 + 6277101735386680763835789423207666416102355444464034512896 * (x62 + x44)) + x3 + x63 * 115792089210356248762697446949407573530086143415290314195533631308867097853951 := by omega
theorem fm_s (x79 x82 x86 x88 x89 x90 x91 x92 x93 x94 x95 x96 x97 x98 : Int)  (h0 : x89 - 18446744073709551616 * x90 = x79 - 18446744073709551615 - 0) (h1 : x91 - 18446744073709551616 * x92 = x82 - 4294967295 - x90) (h2 : x93 - 18446744073709551616 * x94 = x86 - 0 - x92) (h3 : x95 - 18446744073709551616 * x96 = x88 - 18446744069414584321 - x94) (h4 : x97 - 18446744073709551616 * x98 = 0 - 0 - x96) :
    (x89 + 18446744073709551616 * x91 + 340282366920938463463374607431768211456 * x93 + 6277101735386680763835789423207666416102355444464034512896 * x95) = (x79 + 18446744073709551616 * x82 + 340282366920938463463374607431768211456 * x86 + 6277101735386680763835789423207666416102355444464034512896 * x88) - 115792089210356248762697446949407573530086143415290314195533631308867097853951 + 115792089237316195423570985008687907853269984665640564039457584007913129639936 * x96 ∧ x97 - 18446744073709551616 * x98 = 0 - x96 := by omega

noncomputable def defs_fm : List Ex := [.cmov (.v 98) (.v 95) (.v 88), .cmov (.v 98) (.v 93) (.v 86), .cmov (.v 98) (.v 91) (.v 82), .cmov (.v 98) (.v 89) (.v 79), .subHi (.c 0) (.c 0) (.v 96), .subLo (.c 0) (.c 0) (.v 96), .subHi (.v 88) (.c 18446744069414584321) (.v 94), .subLo (.v 88) (.c 18446744069414584321) (.v 94), .subHi (.v 86) (.c 0) (.v 92), .subLo (.v 86) (.c 0) (.v 92), .subHi (.v 82) (.c 4294967295) (.v 90), .subLo (.v 82) (.c 4294967295) (.v 90), .subHi (.v 79) (.c 18446744073709551615) (.c 0), .subLo (.v 79) (.c 18446744073709551615) (.c 0), .bin .add .u64 (.v 87) (.v 69), .addHi (.v 85) (.v 70) (.v 83), .addLo (.v 85) (.v 70) (.v 83), .bin .add .u64 (.v 68) (.v 84), .bin .add .u64 (.v 62) (.v 44), .addHi (.v 67) (.v 81) (.v 80), .addLo (.v 67) (.v 81) (.v 80), .bin .add .u64 (.v 76) (.v 71), .addHi (.v 65) (.v 75) (.v 78), .addLo (.v 65) (.v 75) (.v 78), .addHi (.v 63) (.v 74) (.c 0), .addLo (.v 63) (.v 74) (.c 0), .addHi (.v 73) (.v 72) (.c 0), .addLo (.v 73) (.v 72) (.c 0), .mulLo (.v 63) (.c 18446744073709551615), .mulHi (.v 63) (.c 18446744073709551615), .mulLo (.v 63) (.c 4294967295), .mulHi (.v 63) (.c 4294967295), .mulLo (.v 63) (.c 18446744069414584321), .mulHi (.v 63) (.c 18446744069414584321), .addHi (.v 61) (.c 0) (.v 66), .addLo (.v 61) (.c 0) (.v 66), .addHi (.v 57) (.c 0) (.v 64), .addLo (.v 57) (.c 0) (.v 64), .addHi (.v 54) (.v 3) (.c 0), .addLo (.v 54) (.v 3) (.c 0), .addHi (.v 60) (.v 45) (.v 58), .addLo (.v 60) (.v 45) (.v 58), .bin .add .u64 (.v 43) (.v 59), .bin .add .u64 (.v 37) (.v 18), .addHi (.v 42) (.v 56) (.v 55), .addLo (.v 42) (.v 56) (.v 55), .bin .add .u64 (.v 51) (.v 46), .addHi (.v 40) (.v 50) (.v 53), .addLo (.v 40) (.v 50) (.v 53), .addHi (.v 38) (.v 49) (.c 0), .addLo (.v 38) (.v 49) (.c 0), .addHi (.v 48) (.v 47) (.c 0), .addLo (.v 48) (.v 47) (.c 0), .mulLo (.v 38) (.c 18446744073709551615), .mulHi (.v 38) (.c 18446744073709551615), .mulLo (.v 38) (.c 4294967295), .mulHi (.v 38) (.c 4294967295), .mulLo (.v 38) (.c 18446744069414584321), .mulHi (.v 38) (.c 18446744069414584321), .addHi (.v 36) (.c 0) (.v 41), .addLo (.v 36) (.c 0) (.v 41), .addHi (.v 34) (.c 0) (.v 39), .addLo (.v 34) (.c 0) (.v 39), .addHi (.v 31) (.v 2) (.c 0), .addLo (.v 31) (.v 2) (.c 0), .addHi (.v 4) (.v 19) (.v 35), .addLo (.v 4) (.v 19) (.v 35), .addHi (.v 5) (.v 33) (.v 32), .addLo (.v 5) (.v 33) (.v 32), .bin .add .u64 (.v 25) (.v 20), .addHi (.v 30) (.v 24) (.v 27), .addLo (.v 30) (.v 24) (.v 27), .bin .add .u64 (.v 17) (.v 29), .bin .add .u64 (.v 15) (.v 28), .bin .add .u64 (.v 11) (.v 6), .addHi (.v 16) (.v 23) (.c 0), .addLo (.v 16) (.v 23) (.c 0), .addHi (.v 22) (.v 21) (.c 0), .addLo (.v 22) (.v 21) (.c 0), .mulLo (.v 16) (.c 18446744073709551615), .mulHi (.v 16) (.c 18446744073709551615), .mulLo (.v 16) (.c 4294967295), .mulHi (.v 16) (.c 4294967295), .mulLo (.v 16) (.c 18446744069414584321), .mulHi (.v 16) (.c 18446744069414584321), .addHi (.v 14) (.v 1) (.c 0), .addLo (.v 14) (.v 1) (.c 0), .addHi (.c 0) (.v 10) (.v 13), .addLo (.c 0) (.v 10) (.v 13), .addHi (.v 0) (.v 9) (.c 0), .addLo (.v 0) (.v 9) (.c 0), .addHi (.v 8) (.v 7) (.c 0), .addLo (.v 8) (.v 7) (.c 0), .mulLo (.v 0) (.c 18446744073709551615), .mulHi (.v 0) (.c 18446744073709551615), .mulLo (.v 0) (.c 4294967295), .mulHi (.v 0) (.c 4294967295), .mulLo (.v 0) (.c 18446744069414584321), .mulHi (.v 0) (.c 18446744069414584321)]

set_option maxRecDepth 100000 in
set_option maxHeartbeats 4000000 in
theorem arith_fm (ρ : Nat → Int) (hb : ∀ i, i < 103 → 0 ≤ ρ i ∧ ρ i < 18446744073709551616) (hd : ∀ i x, i < 103 → defs_fm[103 - 1 - i]? = some x → ρ i = ev ρ x) (hV : 0 ≤ (ρ 0 + 18446744073709551616 * ρ 1 + 340282366920938463463374607431768211456 * ρ 2 + 6277101735386680763835789423207666416102355444464034512896 * ρ 3) ∧ (ρ 0 + 18446744073709551616 * ρ 1 + 340282366920938463463374607431768211456 * ρ 2 + 6277101735386680763835789423207666416102355444464034512896 * ρ 3) < 13407807926820848549984871491119855788235523322740973763876191939596368414310757992836696909921244801462672605190117106812798080191005388829112554944987136) :
    ∃ q : Int, (ρ 99 + 18446744073709551616 * ρ 100 + 340282366920938463463374607431768211456 * ρ 101 + 6277101735386680763835789423207666416102355444464034512896 * ρ 102) * 115792089237316195423570985008687907853269984665640564039457584007913129639936 = (ρ 0 + 18446744073709551616 * ρ 1 + 340282366920938463463374607431768211456 * ρ 2 + 6277101735386680763835789423207666416102355444464034512896 * ρ 3) + q * 115792089210356248762697446949407573530086143415290314195533631308867097853951 ∧ 0 ≤ (ρ 99 + 18446744073709551616 * ρ 100 + 340282366920938463463374607431768211456 * ρ 101 + 6277101735386680763835789423207666416102355444464034512896 * ρ 102) ∧ (ρ 99 + 18446744073709551616 * ρ 100 + 340282366920938463463374607431768211456 * ρ 101 + 6277101735386680763835789423207666416102355444464034512896 * ρ 102) < 115792089210356248762697446949407573530086143415290314195533631308867097853951 := by
  have d4 : ρ 4 = ρ 0 * 18446744069414584321 / 18446744073709551616 := by have h := hd 4 _ (by decide) rfl; exact h
  have d5 : ρ 5 = ρ 0 * 18446744069414584321 % 18446744073709551616 := by have h := hd 5 _ (by decide) rfl; exact h
  have p4 := mulp _ _ _ _ d4 d5
  have v4 := mulub _ 18446744069414584321 _ _ (hb 0 (by decide)) (hb 5 (by decide)) (by decide) p4
  have d6 : ρ 6 = ρ 0 * 4294967295 / 18446744073709551616 := by have h := hd 6 _ (by decide) rfl; exact h
  have d7 : ρ 7 = ρ 0 * 4294967295 % 18446744073709551616 := by have h := hd 7 _ (by decide) rfl; exact h
  have p6 := mulp _ _ _ _ d6 d7
  have v6 := mulub _ 4294967295 _ _ (hb 0 (by decide)) (hb 7 (by decide)) (by decide) p6
  have d8 : ρ 8 = ρ 0 * 18446744073709551615 / 18446744073709551616 := by have h := hd 8 _ (by decide) rfl; exact h
  have d9 : ρ 9 = ρ 0 * 18446744073709551615 % 18446744073709551616 := by have h := hd 9 _ (by decide) rfl; exact h
  have p8 := mulp _ _ _ _ d8 d9
  have v8 := mulub _ 18446744073709551615 _ _ (hb 0 (by decide)) (hb 9 (by decide)) (by decide) p8
  have d10 : ρ 10 = (ρ 8 + ρ 7 + 0) % 18446744073709551616 := by have h := hd 10 _ (by decide) rfl; exact h
  have d11 : ρ 11 = (ρ 8 + ρ 7 + 0) / 18446744073709551616 := by have h := hd 11 _ (by decide) rfl; exact h
  have p10 := addp _ _ _ _ _ d10 d11
  have v11 := addub _ _ _ _ _ (hb 8 (by decide)) (hb 7 (by decide)) (by decide) (hb 10 (by decide)) p10
  have d12 : ρ 12 = (ρ 0 + ρ 9 + 0) % 18446744073709551616 := by have h := hd 12 _ (by decide) rfl; exact h
  have d13 : ρ 13 = (ρ 0 + ρ 9 + 0) / 18446744073709551616 := by have h := hd 13 _ (by decide) rfl; exact h
  have p12 := addp _ _ _ _ _ d12 d13
  have v13 := addub _ _ _ _ _ (hb 0 (by decide)) (hb 9 (by decide)) (by decide) (hb 12 (by decide)) p12
  have d14 : ρ 14 = (0 + ρ 10 + ρ 13) % 18446744073709551616 := by have h := hd 14 _ (by decide) rfl; exact h
  have d15 : ρ 15 = (0 + ρ 10 + ρ 13) / 18446744073709551616 := by have h := hd 15 _ (by decide) rfl; exact h
  have p14 := addp _ _ _ _ _ d14 d15
  have v15 := addub _ _ _ _ _ (by decide) (hb 10 (by decide)) v13 (hb 14 (by decide)) p14
  have d16 : ρ 16 = (ρ 14 + ρ 1 + 0) % 18446744073709551616 := by have h := hd 16 _ (by decide) rfl; exact h
  have d17 : ρ 17 = (ρ 14 + ρ 1 + 0) / 18446744073709551616 := by have h := hd 17 _ (by decide) rfl; exact h
  have p16 := addp _ _ _ _ _ d16 d17
  have v17 := addub _ _ _ _ _ (hb 14 (by decide)) (hb 1 (by decide)) (by decide) (hb 16 (by decide)) p16
  have d18 : ρ 18 = ρ 16 * 18446744069414584321 / 18446744073709551616 := by have h := hd 18 _ (by decide) rfl; exact h
  have d19 : ρ 19 = ρ 16 * 18446744069414584321 % 18446744073709551616 := by have h := hd 19 _ (by decide) rfl; exact h
  have p18 := mulp _ _ _ _ d18 d19
  have v18 := mulub _ 18446744069414584321 _ _ (hb 16 (by decide)) (hb 19 (by decide)) (by decide) p18
  have d20 : ρ 20 = ρ 16 * 4294967295 / 18446744073709551616 := by have h := hd 20 _ (by decide) rfl; exact h
  have d21 : ρ 21 = ρ 16 * 4294967295 % 18446744073709551616 := by have h := hd 21 _ (by decide) rfl; exact h
  have p20 := mulp _ _ _ _ d20 d21
  have v20 := mulub _ 4294967295 _ _ (hb 16 (by decide)) (hb 21 (by decide)) (by decide) p20
  have d22 : ρ 22 = ρ 16 * 18446744073709551615 / 18446744073709551616 := by have h := hd 22 _ (by decide) rfl; exact h
  have d23 : ρ 23 = ρ 16 * 18446744073709551615 % 18446744073709551616 := by have h := hd 23 _ (by decide) rfl; exact h
  have p22 := mulp _ _ _ _ d22 d23
  have v22 := mulub _ 18446744073709551615 _ _ (hb 16 (by decide)) (hb 23 (by decide)) (by decide) p22
  have d24 : ρ 24 = (ρ 22 + ρ 21 + 0) % 18446744073709551616 := by have h := hd 24 _ (by decide) rfl; exact h
  have d25 : ρ 25 = (ρ 22 + ρ 21 + 0) / 18446744073709551616 := by have h := hd 25 _ (by decide) rfl; exact h
  have p24 := addp _ _ _ _ _ d24 d25
  have v25 := addub _ _ _ _ _ (hb 22 (by decide)) (hb 21 (by decide)) (by decide) (hb 24 (by decide)) p24
  have d26 : ρ 26 = (ρ 16 + ρ 23 + 0) % 18446744073709551616 := by have h := hd 26 _ (by decide) rfl; exact h
  have d27 : ρ 27 = (ρ 16 + ρ 23 + 0) / 18446744073709551616 := by have h := hd 27 _ (by decide) rfl; exact h
  have p26 := addp _ _ _ _ _ d26 d27
  have v27 := addub _ _ _ _ _ (hb 16 (by decide)) (hb 23 (by decide)) (by decide) (hb 26 (by decide)) p26
  have d28 : ρ 28 = (ρ 11 + ρ 6) % 18446744073709551616 := by have h := hd 28 _ (by decide) rfl; exact h.trans (IntKind.wrap_u64 _)
  obtain ⟨g28, v28⟩ := baddp _ _ _ 1 4294967294 (hb 11 (by decide)).1 (hb 6 (by decide)).1 v11 v6 (by decide) d28
  have d29 : ρ 29 = (ρ 15 + ρ 28) % 18446744073709551616 := by have h := hd 29 _ (by decide) rfl; exact h.trans (IntKind.wrap_u64 _)
  obtain ⟨g29, v29⟩ := baddp _ _ _ 1 4294967295 (hb 15 (by decide)).1 (hb 28 (by decide)).1 v15 v28 (by decide) d29
  have d30 : ρ 30 = (ρ 17 + ρ 29) % 18446744073709551616 := by have h := hd 30 _ (by decide) rfl; exact h.trans (IntKind.wrap_u64 _)
  obtain ⟨g30, v30⟩ := baddp _ _ _ 1 4294967296 (hb 17 (by decide)).1 (hb 29 (by decide)).1 v17 v29 (by decide) d30
  have d31 : ρ 31 = (ρ 30 + ρ 24 + ρ 27) % 18446744073709551616 := by have h := hd 31 _ (by decide) rfl; exact h
  have d32 : ρ 32 = (ρ 30 + ρ 24 + ρ 27) / 18446744073709551616 := by have h := hd 32 _ (by decide) rfl; exact h
  have p31 := addp _ _ _ _ _ d31 d32
  have v32 := addub _ _ _ _ _ (hb 30 (by decide)) (hb 24 (by decide)) v27 (hb 31 (by decide)) p31
  have d33 : ρ 33 = (ρ 25 + ρ 20) % 18446744073709551616 := by have h := hd 33 _ (by decide) rfl; exact h.trans (IntKind.wrap_u64 _)
  obtain ⟨g33, v33⟩ := baddp _ _ _ 1 4294967294 (hb 25 (by decide)).1 (hb 20 (by decide)).1 v25 v20 (by decide) d33
  have d34 : ρ 34 = (ρ 5 + ρ 33 + ρ 32) % 18446744073709551616 := by have h := hd 34 _ (by decide) rfl; exact h
  have d35 : ρ 35 = (ρ 5 + ρ 33 + ρ 32) / 18446744073709551616 := by have h := hd 35 _ (by decide) rfl; exact h
  have p34 := addp _ _ _ _ _ d34 d35
  have v35 := addub _ _ _ _ _ (hb 5 (by decide)) (hb 33 (by decide)) v32 (hb 34 (by decide)) p34
  have d36 : ρ 36 = (ρ 4 + ρ 19 + ρ 35) % 18446744073709551616 := by have h := hd 36 _ (by decide) rfl; exact h
  have d37 : ρ 37 = (ρ 4 + ρ 19 + ρ 35) / 18446744073709551616 := by have h := hd 37 _ (by decide) rfl; exact h
  have p36 := addp _ _ _ _ _ d36 d37
  have v37 := addub _ _ _ _ _ (hb 4 (by decide)) (hb 19 (by decide)) v35 (hb 36 (by decide)) p36
  have d38 : ρ 38 = (ρ 31 + ρ 2 + 0) % 18446744073709551616 := by have h := hd 38 _ (by decide) rfl; exact h
  have d39 : ρ 39 = (ρ 31 + ρ 2 + 0) / 18446744073709551616 := by have h := hd 39 _ (by decide) rfl; exact h
  have p38 := addp _ _ _ _ _ d38 d39
  have v39 := addub _ _ _ _ _ (hb 31 (by decide)) (hb 2 (by decide)) (by decide) (hb 38 (by decide)) p38
  have d40 : ρ 40 = (ρ 34 + 0 + ρ 39) % 18446744073709551616 := by have h := hd 40 _ (by decide) rfl; exact h
  have d41 : ρ 41 = (ρ 34 + 0 + ρ 39) / 18446744073709551616 := by have h := hd 41 _ (by decide) rfl; exact h
  have p40 := addp _ _ _ _ _ d40 d41
  have v41 := addub _ _ _ _ _ (hb 34 (by decide)) (by decide) v39 (hb 40 (by decide)) p40
  have d42 : ρ 42 = (ρ 36 + 0 + ρ 41) % 18446744073709551616 := by have h := hd 42 _ (by decide) rfl; exact h
  have d43 : ρ 43 = (ρ 36 + 0 + ρ 41) / 18446744073709551616 := by have h := hd 43 _ (by decide) rfl; exact h
  have p42 := addp _ _ _ _ _ d42 d43
  have v43 := addub _ _ _ _ _ (hb 36 (by decide)) (by decide) v41 (hb 42 (by decide)) p42
  have d44 : ρ 44 = ρ 38 * 18446744069414584321 / 18446744073709551616 := by have h := hd 44 _ (by decide) rfl; exact h
  have d45 : ρ 45 = ρ 38 * 18446744069414584321 % 18446744073709551616 := by have h := hd 45 _ (by decide) rfl; exact h
  have p44 := mulp _ _ _ _ d44 d45
  have v44 := mulub _ 18446744069414584321 _ _ (hb 38 (by decide)) (hb 45 (by decide)) (by decide) p44
  have d46 : ρ 46 = ρ 38 * 4294967295 / 18446744073709551616 := by have h := hd 46 _ (by decide) rfl; exact h
  have d47 : ρ 47 = ρ 38 * 4294967295 % 18446744073709551616 := by have h := hd 47 _ (by decide) rfl; exact h
  have p46 := mulp _ _ _ _ d46 d47
  have v46 := mulub _ 4294967295 _ _ (hb 38 (by decide)) (hb 47 (by decide)) (by decide) p46
  have d48 : ρ 48 = ρ 38 * 18446744073709551615 / 18446744073709551616 := by have h := hd 48 _ (by decide) rfl; exact h
  have d49 : ρ 49 = ρ 38 * 18446744073709551615 % 18446744073709551616 := by have h := hd 49 _ (by decide) rfl; exact h
  have p48 := mulp _ _ _ _ d48 d49
  have v48 := mulub _ 18446744073709551615 _ _ (hb 38 (by decide)) (hb 49 (by decide)) (by decide) p48
  have d50 : ρ 50 = (ρ 48 + ρ 47 + 0) % 18446744073709551616 := by have h := hd 50 _ (by decide) rfl; exact h
  have d51 : ρ 51 = (ρ 48 + ρ 47 + 0) / 18446744073709551616 := by have h := hd 51 _ (by decide) rfl; exact h
  have p50 := addp _ _ _ _ _ d50 d51
  have v51 := addub _ _ _ _ _ (hb 48 (by decide)) (hb 47 (by decide)) (by decide) (hb 50 (by decide)) p50
  have d52 : ρ 52 = (ρ 38 + ρ 49 + 0) % 18446744073709551616 := by have h := hd 52 _ (by decide) rfl; exact h
  have d53 : ρ 53 = (ρ 38 + ρ 49 + 0) / 18446744073709551616 := by have h := hd 53 _ (by decide) rfl; exact h
  have p52 := addp _ _ _ _ _ d52 d53
  have v53 := addub _ _ _ _ _ (hb 38 (by decide)) (hb 49 (by decide)) (by decide) (hb 52 (by decide)) p52
  have d54 : ρ 54 = (ρ 40 + ρ 50 + ρ 53) % 18446744073709551616 := by have h := hd 54 _ (by decide) rfl; exact h
  have d55 : ρ 55 = (ρ 40 + ρ 50 + ρ 53) / 18446744073709551616 := by have h := hd 55 _ (by decide) rfl; exact h
  have p54 := addp _ _ _ _ _ d54 d55
  have v55 := addub _ _ _ _ _ (hb 40 (by decide)) (hb 50 (by decide)) v53 (hb 54 (by decide)) p54
  have d56 : ρ 56 = (ρ 51 + ρ 46) % 18446744073709551616 := by have h := hd 56 _ (by decide) rfl; exact h.trans (IntKind.wrap_u64 _)
  obtain ⟨g56, v56⟩ := baddp _ _ _ 1 4294967294 (hb 51 (by decide)).1 (hb 46 (by decide)).1 v51 v46 (by decide) d56
  have d57 : ρ 57 = (ρ 42 + ρ 56 + ρ 55) % 18446744073709551616 := by have h := hd 57 _ (by decide) rfl; exact h
  have d58 : ρ 58 = (ρ 42 + ρ 56 + ρ 55) / 18446744073709551616 := by have h := hd 58 _ (by decide) rfl; exact h
  have p57 := addp _ _ _ _ _ d57 d58
  have v58 := addub _ _ _ _ _ (hb 42 (by decide)) (hb 56 (by decide)) v55 (hb 57 (by decide)) p57
  have d59 : ρ 59 = (ρ 37 + ρ 18) % 18446744073709551616 := by have h := hd 59 _ (by decide) rfl; exact h.trans (IntKind.wrap_u64 _)
  obtain ⟨g59, v59⟩ := baddp _ _ _ 1 18446744069414584320 (hb 37 (by decide)).1 (hb 18 (by decide)).1 v37 v18 (by decide) d59
  have d60 : ρ 60 = (ρ 43 + ρ 59) % 18446744073709551616 := by have h := hd 60 _ (by decide) rfl; exact h.trans (IntKind.wrap_u64 _)
  obtain ⟨g60, v60⟩ := baddp _ _ _ 1 18446744069414584321 (hb 43 (by decide)).1 (hb 59 (by decide)).1 v43 v59 (by decide) d60
  have d61 : ρ 61 = (ρ 60 + ρ 45 + ρ 58) % 18446744073709551616 := by have h := hd 61 _ (by decide) rfl; exact h
  have d62 : ρ 62 = (ρ 60 + ρ 45 + ρ 58) / 18446744073709551616 := by have h := hd 62 _ (by decide) rfl; exact h
  have p61 := addp _ _ _ _ _ d61 d62
  have v62 := addub _ _ _ _ _ (hb 60 (by decide)) (hb 45 (by decide)) v58 (hb 61 (by decide)) p61
  have d63 : ρ 63 = (ρ 54 + ρ 3 + 0) % 18446744073709551616 := by have h := hd 63 _ (by decide) rfl; exact h
  have d64 : ρ 64 = (ρ 54 + ρ 3 + 0) / 18446744073709551616 := by have h := hd 64 _ (by decide) rfl; exact h
  have p63 := addp _ _ _ _ _ d63 d64
  have v64 := addub _ _ _ _ _ (hb 54 (by decide)) (hb 3 (by decide)) (by decide) (hb 63 (by decide)) p63
  have d65 : ρ 65 = (ρ 57 + 0 + ρ 64) % 18446744073709551616 := by have h := hd 65 _ (by decide) rfl; exact h
  have d66 : ρ 66 = (ρ 57 + 0 + ρ 64) / 18446744073709551616 := by have h := hd 66 _ (by decide) rfl; exact h
  have p65 := addp _ _ _ _ _ d65 d66
  have v66 := addub _ _ _ _ _ (hb 57 (by decide)) (by decide) v64 (hb 65 (by decide)) p65
  have d67 : ρ 67 = (ρ 61 + 0 + ρ 66) % 18446744073709551616 := by have h := hd 67 _ (by decide) rfl; exact h
  have d68 : ρ 68 = (ρ 61 + 0 + ρ 66) / 18446744073709551616 := by have h := hd 68 _ (by decide) rfl; exact h
  have p67 := addp _ _ _ _ _ d67 d68
  have v68 := addub _ _ _ _ _ (hb 61 (by decide)) (by decide) v66 (hb 67 (by decide)) p67
  have d69 : ρ 69 = ρ 63 * 18446744069414584321 / 18446744073709551616 := by have h := hd 69 _ (by decide) rfl; exact h
  have d70 : ρ 70 = ρ 63 * 18446744069414584321 % 18446744073709551616 := by have h := hd 70 _ (by decide) rfl; exact h
  have p69 := mulp _ _ _ _ d69 d70
  have v69 := mulub _ 18446744069414584321 _ _ (hb 63 (by decide)) (hb 70 (by decide)) (by decide) p69
  have d71 : ρ 71 = ρ 63 * 4294967295 / 18446744073709551616 := by have h := hd 71 _ (by decide) rfl; exact h
  have d72 : ρ 72 = ρ 63 * 4294967295 % 18446744073709551616 := by have h := hd 72 _ (by decide) rfl; exact h
  have p71 := mulp _ _ _ _ d71 d72
  have v71 := mulub _ 4294967295 _ _ (hb 63 (by decide)) (hb 72 (by decide)) (by decide) p71
  have d73 : ρ 73 = ρ 63 * 18446744073709551615 / 18446744073709551616 := by have h := hd 73 _ (by decide) rfl; exact h
  have d74 : ρ 74 = ρ 63 * 18446744073709551615 % 18446744073709551616 := by have h := hd 74 _ (by decide) rfl; exact h
  have p73 := mulp _ _ _ _ d73 d74
  have v73 := mulub _ 18446744073709551615 _ _ (hb 63 (by decide)) (hb 74 (by decide)) (by decide) p73
  have d75 : ρ 75 = (ρ 73 + ρ 72 + 0) % 18446744073709551616 := by have h := hd 75 _ (by decide) rfl; exact h
  have d76 : ρ 76 = (ρ 73 + ρ 72 + 0) / 18446744073709551616 := by have h := hd 76 _ (by decide) rfl; exact h
  have p75 := addp _ _ _ _ _ d75 d76
  have v76 := addub _ _ _ _ _ (hb 73 (by decide)) (hb 72 (by decide)) (by decide) (hb 75 (by decide)) p75
  have d77 : ρ 77 = (ρ 63 + ρ 74 + 0) % 18446744073709551616 := by have h := hd 77 _ (by decide) rfl; exact h
  have d78 : ρ 78 = (ρ 63 + ρ 74 + 0) / 18446744073709551616 := by have h := hd 78 _ (by decide) rfl; exact h
  have p77 := addp _ _ _ _ _ d77 d78
  have v78 := addub _ _ _ _ _ (hb 63 (by decide)) (hb 74 (by decide)) (by decide) (hb 77 (by decide)) p77
  have d79 : ρ 79 = (ρ 65 + ρ 75 + ρ 78) % 18446744073709551616 := by have h := hd 79 _ (by decide) rfl; exact h
  have d80 : ρ 80 = (ρ 65 + ρ 75 + ρ 78) / 18446744073709551616 := by have h := hd 80 _ (by decide) rfl; exact h
  have p79 := addp _ _ _ _ _ d79 d80
  have v80 := addub _ _ _ _ _ (hb 65 (by decide)) (hb 75 (by decide)) v78 (hb 79 (by decide)) p79
  have d81 : ρ 81 = (ρ 76 + ρ 71) % 18446744073709551616 := by have h := hd 81 _ (by decide) rfl; exact h.trans (IntKind.wrap_u64 _)
  obtain ⟨g81, v81⟩ := baddp _ _ _ 1 4294967294 (hb 76 (by decide)).1 (hb 71 (by decide)).1 v76 v71 (by decide) d81
  have d82 : ρ 82 = (ρ 67 + ρ 81 + ρ 80) % 18446744073709551616 := by have h := hd 82 _ (by decide) rfl; exact h
  have d83 : ρ 83 = (ρ 67 + ρ 81 + ρ 80) / 18446744073709551616 := by have h := hd 83 _ (by decide) rfl; exact h
  have p82 := addp _ _ _ _ _ d82 d83
  have v83 := addub _ _ _ _ _ (hb 67 (by decide)) (hb 81 (by decide)) v80 (hb 82 (by decide)) p82
  have d84 : ρ 84 = (ρ 62 + ρ 44) % 18446744073709551616 := by have h := hd 84 _ (by decide) rfl; exact h.trans (IntKind.wrap_u64 _)
  obtain ⟨g84, v84⟩ := baddp _ _ _ 1 18446744069414584320 (hb 62 (by decide)).1 (hb 44 (by decide)).1 v62 v44 (by decide) d84
  have d85 : ρ 85 = (ρ 68 + ρ 84) % 18446744073709551616 := by have h := hd 85 _ (by decide) rfl; exact h.trans (IntKind.wrap_u64 _)
  obtain ⟨g85, v85⟩ := baddp _ _ _ 1 18446744069414584321 (hb 68 (by decide)).1 (hb 84 (by decide)).1 v68 v84 (by decide) d85
  have d86 : ρ 86 = (ρ 85 + ρ 70 + ρ 83) % 18446744073709551616 := by have h := hd 86 _ (by decide) rfl; exact h
  have d87 : ρ 87 = (ρ 85 + ρ 70 + ρ 83) / 18446744073709551616 := by have h := hd 87 _ (by decide) rfl; exact h
  have p86 := addp _ _ _ _ _ d86 d87
  have v87 := addub _ _ _ _ _ (hb 85 (by decide)) (hb 70 (by decide)) v83 (hb 86 (by decide)) p86
  have d88 : ρ 88 = (ρ 87 + ρ 69) % 18446744073709551616 := by have h := hd 88 _ (by decide) rfl; exact h.trans (IntKind.wrap_u64 _)
  obtain ⟨g88, v88⟩ := baddp _ _ _ 1 18446744069414584320 (hb 87 (by decide)).1 (hb 69 (by decide)).1 v87 v69 (by decide) d88
  have d89 : ρ 89 = (ρ 79 - 18446744073709551615 - 0) % 18446744073709551616 := by have h := hd 89 _ (by decide) rfl; exact h
  have d90 : ρ 90 = if ρ 79 < 18446744073709551615 + 0 then 1 else 0 := by have h := hd 90 _ (by decide) rfl; exact h
  have t90 := bitp _ _ _ _ d90
  have p89 := subp _ _ _ _ _ (hb 79 (by decide)) (by decide) (.inl rfl) d89 d90
  have d91 : ρ 91 = (ρ 82 - 4294967295 - ρ 90) % 18446744073709551616 := by have h := hd 91 _ (by decide) rfl; exact h
  have d92 : ρ 92 = if ρ 82 < 4294967295 + ρ 90 then 1 else 0 := by have h := hd 92 _ (by decide) rfl; exact h
  have t92 := bitp _ _ _ _ d92
  have p91 := subp _ _ _ _ _ (hb 82 (by decide)) (by decide) t90 d91 d92
  have d93 : ρ 93 = (ρ 86 - 0 - ρ 92) % 18446744073709551616 := by have h := hd 93 _ (by decide) rfl; exact h
  have d94 : ρ 94 = if ρ 86 < 0 + ρ 92 then 1 else 0 := by have h := hd 94 _ (by decide) rfl; exact h
  have t94 := bitp _ _ _ _ d94
  have p93 := subp _ _ _ _ _ (hb 86 (by decide)) (by decide) t92 d93 d94
  have d95 : ρ 95 = (ρ 88 - 18446744069414584321 - ρ 94) % 18446744073709551616 := by have h := hd 95 _ (by decide) rfl; exact h
  have d96 : ρ 96 = if ρ 88 < 18446744069414584321 + ρ 94 then 1 else 0 := by have h := hd 96 _ (by decide) rfl; exact h
  have t96 := bitp _ _ _ _ d96
  have p95 := subp _ _ _ _ _ (hb 88 (by decide)) (by decide) t94 d95 d96
  have d97 : ρ 97 = (0 - 0 - ρ 96) % 18446744073709551616 := by have h := hd 97 _ (by decide) rfl; exact h
  have d98 : ρ 98 = if 0 < 0 + ρ 96 then 1 else 0 := by have h := hd 98 _ (by decide) rfl; exact h
  have t98 := bitp _ _ _ _ d98
  have p97 := subp _ _ _ _ _ (by decide) (by decide) t96 d97 d98
  have d99 : ρ 99 = if ρ 98 = 0 then ρ 89 else ρ 79 := by have h := hd 99 _ (by decide) rfl; exact h
  have d100 : ρ 100 = if ρ 98 = 0 then ρ 91 else ρ 82 := by have h := hd 100 _ (by decide) rfl; exact h
  have d101 : ρ 101 = if ρ 98 = 0 then ρ 93 else ρ 86 := by have h := hd 101 _ (by decide) rfl; exact h
  have d102 : ρ 102 = if ρ 98 = 0 then ρ 95 else ρ 88 := by have h := hd 102 _ (by decide) rfl; exact h
  have u0 := fm_r0 (ρ 0) (ρ 4) (ρ 5) (ρ 6) (ρ 7) (ρ 8) (ρ 9) (ρ 10) (ρ 11) (ρ 12) (ρ 13) (ρ 14) (ρ 15) (hb 12 (by decide)) p4 p6 p8 p10 p12 p14
  have u1 := fm_r1 (ρ 1) (ρ 4) (ρ 5) (ρ 6) (ρ 11) (ρ 14) (ρ 15) (ρ 16) (ρ 17) (ρ 18) (ρ 19) (ρ 20) (ρ 21) (ρ 22) (ρ 23) (ρ 24) (ρ 25) (ρ 26) (ρ 27) (ρ 28) (ρ 29) (ρ 30) (ρ 31) (ρ 32) (ρ 33) (ρ 34) (ρ 35) (ρ 36) (ρ 37) (hb 26 (by decide)) p16 p18 p20 p22 p24 p26 g28 g29 g30 p31 g33 p34 p36
  have u2 := fm_r2 (ρ 2) (ρ 18) (ρ 31) (ρ 34) (ρ 36) (ρ 37) (ρ 38) (ρ 39) (ρ 40) (ρ 41) (ρ 42) (ρ 43) (ρ 44) (ρ 45) (ρ 46) (ρ 47) (ρ 48) (ρ 49) (ρ 50) (ρ 51) (ρ 52) (ρ 53) (ρ 54) (ρ 55) (ρ 56) (ρ 57) (ρ 58) (ρ 59) (ρ 60) (ρ 61) (ρ 62) (hb 52 (by decide)) p38 p40 p42 p44 p46 p48 p50 p52 p54 g56 p57 g59 g60 p61
  have u3 := fm_r3 (ρ 3) (ρ 44) (ρ 54) (ρ 57) (ρ 61) (ρ 62) (ρ 63) (ρ 64) (ρ 65) (ρ 66) (ρ 67) (ρ 68) (ρ 69) (ρ 70) (ρ 71) (ρ 72) (ρ 73) (ρ 74) (ρ 75) (ρ 76) (ρ 77) (ρ 78) (ρ 79) (ρ 80) (ρ 81) (ρ 82) (ρ 83) (ρ 84) (ρ 85) (ρ 86) (ρ 87) (ρ 88) (hb 77 (by decide)) p63 p65 p67 p69 p71 p73 p75 p77 p79 g81 p82 g84 g85 p86 g88
  have us := fm_s (ρ 79) (ρ 82) (ρ 86) (ρ 88) (ρ 89) (ρ 90) (ρ 91) (ρ 92) (ρ 93) (ρ 94) (ρ 95) (ρ 96) (ρ 97) (ρ 98) p89 p91 p93 p95 p97
  have T := mont_T _ _ _ _ _ _ _ _ _ _ _ _ u0 u1 u2 u3
  have hV' : 0 ≤ (ρ 0 + 18446744073709551616 * ρ 1 + 340282366920938463463374607431768211456 * ρ 2 + 6277101735386680763835789423207666416102355444464034512896 * ρ 3) ∧ (ρ 0 + 18446744073709551616 * ρ 1 + 340282366920938463463374607431768211456 * ρ 2 + 6277101735386680763835789423207666416102355444464034512896 * ρ 3) < 13407807926820848549984871491119855788235523322740973763876191939596368414310757992836696909921244801462672605190117106812798080191005388829112554944987136 := by
    have e : (ρ 0 + 18446744073709551616 * ρ 1 + 340282366920938463463374607431768211456 * ρ 2 + 6277101735386680763835789423207666416102355444464034512896 * ρ 3) = (ρ 0 + 18446744073709551616 * ρ 1 + 340282366920938463463374607431768211456 * ρ 2 + 6277101735386680763835789423207666416102355444464034512896 * ρ 3) := by rfl
    rw [e]; exact hV
  have hM := four_bd _ _ _ _ (hb 0 (by decide)) (hb 16 (by decide)) (hb 38 (by decide)) (hb 63 (by decide))
  have hS := four_bd _ _ _ _ (hb 89 (by decide)) (hb 91 (by decide)) (hb 93 (by decide)) (hb 95 (by decide))
  have hL := four_bd _ _ _ _ (hb 79 (by decide)) (hb 82 (by decide)) (hb 86 (by decide)) (hb 88 (by decide))
  have hT := mont_lt _ _ _ hV'.1 hV'.2 hM.1 hM.2 T
  have eV : (ρ 0 + 18446744073709551616 * ρ 1 + 340282366920938463463374607431768211456 * ρ 2 + 6277101735386680763835789423207666416102355444464034512896 * ρ 3) = (ρ 0 + 18446744073709551616 * ρ 1 + 340282366920938463463374607431768211456 * ρ 2 + 6277101735386680763835789423207666416102355444464034512896 * ρ 3) := by rfl
  have hc : ρ 96 ≤ 1 := by rcases t96 with g | g <;> rw [g] <;> decide
  rcases t98 with e | e
  · have z : ∀ a b : Int, (if ρ 98 = 0 then a else b) = a := fun a b => by rw [e]; rfl
    rw [z] at d99 d100 d101 d102
    have F := mont_f0 _ _ _ 0 _ _ _ hT (by rw [Int.mul_zero, Int.add_zero]) us.1 hS us.2 (hb 97 (by decide)) e
    rw [d99, d100, d101, d102]
    exact ⟨(ρ 0 + 18446744073709551616 * ρ 16 + 340282366920938463463374607431768211456 * ρ 38 + 6277101735386680763835789423207666416102355444464034512896 * ρ 63) - 115792089237316195423570985008687907853269984665640564039457584007913129639936, by rw [mont_sub _ _ _ _ F.1 T, eV], hS.1, F.2⟩
  · have z : ∀ a b : Int, (if ρ 98 = 0 then a else b) = b := fun a b => by rw [e]; rfl
    rw [z] at d99 d100 d101 d102
    have F := mont_f1 _ _ 0 _ _ _ _ hT (by rw [Int.mul_zero, Int.add_zero]) us.1 hS (by decide) hc us.2 (hb 97 (by decide)) e
    rw [d99, d100, d101, d102]
    exact ⟨(ρ 0 + 18446744073709551616 * ρ 16 + 340282366920938463463374607431768211456 * ρ 38 + 6277101735386680763835789423207666416102355444464034512896 * ρ 63), by rw [F.1, T, eV], hL.1, F.2⟩
end Go.Proofs.Ytgdjmgcolipcnaa
