/-
  What is proved here: what the reference's functions modulo the order return, and how it turns numbers into words and bytes.
  Conditions: those of each theorem.
-/
import Derived.Test.YtmepgkcijeobkaaProg
import Derived.Test.YtmepgkcijeobkaaKit
import Derived.Test.YtmepgkcijeobkaaNumRegMem
import Derived.Test.YtmepgkcijeobkaaSpecA
import Derived.WalkKit
import Derived.WalkSpells
import Derived.Outline
import Derived.Handy
import Derived.ProofKit
import Derived.Deep.QuietTactic
import Derived.BigQuiet
import Derived.Lib.Hide
namespace Go.Proofs.Ytmepgkcijeobkaa
open Go.RowKit
set_option linter.unusedSimpArgs false
set_option linter.unusedVariables false
theorem word_bytes (a : Int) (p : 0 ≤ a) (q : a < 4294967296) : a = a % 256 + 256 * (a / 256 % 256) + 65536 * (a / 65536 % 256) + 16777216 * (a / 16777216) := by omega
theorem bytes_val (a0 a1 a2 a3 a4 a5 a6 a7 : Int) (p0 : 0 ≤ a0) (q0 : a0 < 4294967296) (p1 : 0 ≤ a1) (q1 : a1 < 4294967296) (p2 : 0 ≤ a2) (q2 : a2 < 4294967296) (p3 : 0 ≤ a3) (q3 : a3 < 4294967296) (p4 : 0 ≤ a4) (q4 : a4 < 4294967296) (p5 : 0 ≤ a5) (q5 : a5 < 4294967296) (p6 : 0 ≤ a6) (q6 : a6 < 4294967296) (p7 : 0 ≤ a7) (q7 : a7 < 4294967296) : bal [a0 % 256, a0 / 256 % 256, a0 / 65536 % 256, a0 / 16777216, a1 % 256, a1 / 256 % 256, a1 / 65536 % 256, a1 / 16777216, a2 % 256, a2 / 256 % 256, a2 / 65536 % 256, a2 / 16777216, a3 % 256, a3 / 256 % 256, a3 / 65536 % 256, a3 / 16777216, a4 % 256, a4 / 256 % 256, a4 / 65536 % 256, a4 / 16777216, a5 % 256, a5 / 256 % 256, a5 / 65536 % 256, a5 / 16777216, a6 % 256, a6 / 256 % 256, a6 / 65536 % 256, a6 / 16777216, a7 % 256, a7 / 256 % 256, a7 / 65536 % 256, a7 / 16777216] = val [a0, a1, a2, a3, a4, a5, a6, a7] := by
  have k0 := word_bytes a0 p0 q0
  have k1 := word_bytes a1 p1 q1
  have k2 := word_bytes a2 p2 q2
  have k3 := word_bytes a3 p3 q3
  have k4 := word_bytes a4 p4 q4
  have k5 := word_bytes a5 p5 q5
  have k6 := word_bytes a6 p6 q6
  have k7 := word_bytes a7 p7 q7
  have e : bal [a0 % 256, a0 / 256 % 256, a0 / 65536 % 256, a0 / 16777216, a1 % 256, a1 / 256 % 256, a1 / 65536 % 256, a1 / 16777216, a2 % 256, a2 / 256 % 256, a2 / 65536 % 256, a2 / 16777216, a3 % 256, a3 / 256 % 256, a3 / 65536 % 256, a3 / 16777216, a4 % 256, a4 / 256 % 256, a4 / 65536 % 256, a4 / 16777216, a5 % 256, a5 / 256 % 256, a5 / 65536 % 256, a5 / 16777216, a6 % 256, a6 / 256 % 256, a6 / 65536 % 256, a6 / 16777216, a7 % 256, a7 / 256 % 256, a7 / 65536 % 256, a7 / 16777216] = 1 * (a0 % 256) + 256 * (a0 / 256 % 256) + 65536 * (a0 / 65536 % 256) + 16777216 * (a0 / 16777216) + 4294967296 * (a1 % 256) + 1099511627776 * (a1 / 256 % 256) + 281474976710656 * (a1 / 65536 % 256) + 72057594037927936 * (a1 / 16777216) + 18446744073709551616 * (a2 % 256) + 4722366482869645213696 * (a2 / 256 % 256) + 1208925819614629174706176 * (a2 / 65536 % 256) + 309485009821345068724781056 * (a2 / 16777216) + 79228162514264337593543950336 * (a3 % 256) + 20282409603651670423947251286016 * (a3 / 256 % 256) + 5192296858534827628530496329220096 * (a3 / 65536 % 256) + 1329227995784915872903807060280344576 * (a3 / 16777216) + 340282366920938463463374607431768211456 * (a4 % 256) + 87112285931760246646623899502532662132736 * (a4 / 256 % 256) + 22300745198530623141535718272648361505980416 * (a4 / 65536 % 256) + 5708990770823839524233143877797980545530986496 * (a4 / 16777216) + 1461501637330902918203684832716283019655932542976 * (a5 % 256) + 374144419156711147060143317175368453031918731001856 * (a5 / 256 % 256) + 95780971304118053647396689196894323976171195136475136 * (a5 / 65536 % 256) + 24519928653854221733733552434404946937899825954937634816 * (a5 / 16777216) + 6277101735386680763835789423207666416102355444464034512896 * (a6 % 256) + 1606938044258990275541962092341162602522202993782792835301376 * (a6 / 256 % 256) + 411376139330301510538742295639337626245683966408394965837152256 * (a6 / 65536 % 256) + 105312291668557186697918027683670432318895095400549111254310977536 * (a6 / 16777216) + 26959946667150639794667015087019630673637144422540572481103610249216 * (a7 % 256) + 6901746346790563787434755862277025452451108972170386555162524223799296 * (a7 / 256 % 256) + 1766847064778384329583297500742918515827483896875618958121606201292619776 * (a7 / 65536 % 256) + 452312848583266388373324160190187140051835877600158453279131187530910662656 * (a7 / 16777216) := by simp only [bal]; omega
  rw [e]
  simp only [val]
  omega
theorem bytes_bd (a0 a1 a2 a3 a4 a5 a6 a7 : Int) (p0 : 0 ≤ a0) (q0 : a0 < 4294967296) (p1 : 0 ≤ a1) (q1 : a1 < 4294967296) (p2 : 0 ≤ a2) (q2 : a2 < 4294967296) (p3 : 0 ≤ a3) (q3 : a3 < 4294967296) (p4 : 0 ≤ a4) (q4 : a4 < 4294967296) (p5 : 0 ≤ a5) (q5 : a5 < 4294967296) (p6 : 0 ≤ a6) (q6 : a6 < 4294967296) (p7 : 0 ≤ a7) (q7 : a7 < 4294967296) : ∀ x ∈ [a0 % 256, a0 / 256 % 256, a0 / 65536 % 256, a0 / 16777216, a1 % 256, a1 / 256 % 256, a1 / 65536 % 256, a1 / 16777216, a2 % 256, a2 / 256 % 256, a2 / 65536 % 256, a2 / 16777216, a3 % 256, a3 / 256 % 256, a3 / 65536 % 256, a3 / 16777216, a4 % 256, a4 / 256 % 256, a4 / 65536 % 256, a4 / 16777216, a5 % 256, a5 / 256 % 256, a5 / 65536 % 256, a5 / 16777216, a6 % 256, a6 / 256 % 256, a6 / 65536 % 256, a6 / 16777216, a7 % 256, a7 / 256 % 256, a7 / 65536 % 256, a7 / 16777216], 0 ≤ x ∧ x < 256 := by
  intro x hx
  simp only [List.mem_cons, List.not_mem_nil, or_false] at hx
  rcases hx with rfl | rfl | rfl | rfl | rfl | rfl | rfl | rfl | rfl | rfl | rfl | rfl | rfl | rfl | rfl | rfl | rfl | rfl | rfl | rfl | rfl | rfl | rfl | rfl | rfl | rfl | rfl | rfl | rfl | rfl | rfl | rfl <;> omega
set_option maxHeartbeats 8000000 in
set_option maxRecDepth 100000 in
theorem SBytes_any (a : Int) (ha0 : 0 ≤ a) (ha : a < R256) (w : World) :
    Calls Try.prog 24 #[E8 a] w fun e w' => e = .returned (B32 a) ∧ Ext w w' := by
  obtain ⟨a0, a1, a2, a3, a4, a5, a6, a7, hd, he, ⟨p0, q0⟩, ⟨p1, q1⟩, ⟨p2, q2⟩, ⟨p3, q3⟩, ⟨p4, q4⟩, ⟨p5, q5⟩, ⟨p6, q6⟩, ⟨p7, q7⟩⟩ := E8_open a
  have hv : val [a0, a1, a2, a3, a4, a5, a6, a7] = a := by rw [← hd, val_E8 ha0 ha]
  have h1 := bds_bal _ (bytes_bd a0 a1 a2 a3 a4 a5 a6 a7 p0 q0 p1 q1 p2 q2 p3 q3 p4 q4 p5 q5 p6 q6 p7 q7)
  rw [bytes_val a0 a1 a2 a3 a4 a5 a6 a7 p0 q0 p1 q1 p2 q2 p3 q3 p4 q4 p5 q5 p6 q6 p7 q7, hv] at h1
  have h3 : bds 32 a = [a0 % 256, a0 / 256 % 256, a0 / 65536 % 256, a0 / 16777216, a1 % 256, a1 / 256 % 256, a1 / 65536 % 256, a1 / 16777216, a2 % 256, a2 / 256 % 256, a2 / 65536 % 256, a2 / 16777216, a3 % 256, a3 / 256 % 256, a3 / 65536 % 256, a3 / 16777216, a4 % 256, a4 / 256 % 256, a4 / 65536 % 256, a4 / 16777216, a5 % 256, a5 / 256 % 256, a5 / 65536 % 256, a5 / 16777216, a6 % 256, a6 / 256 % 256, a6 / 65536 % 256, a6 / 16777216, a7 % 256, a7 / 256 % 256, a7 / 65536 % 256, a7 / 16777216] := h1
  rw [he]
  have H1 := Lib.hid h3; clear hd he hv h1 h3
  go_enter Try.func24, Try.ntmps24
  go_wp2_with (refine wpList_store_row rfl 31 _ _ rfl _ _ rfl rfl 31 #[.int .u8 0, .int .u8 0, .int .u8 0, .int .u8 0, .int .u8 0, .int .u8 0, .int .u8 0, .int .u8 0, .int .u8 0, .int .u8 0, .int .u8 0, .int .u8 0, .int .u8 0, .int .u8 0, .int .u8 0, .int .u8 0, .int .u8 0, .int .u8 0, .int .u8 0, .int .u8 0, .int .u8 0, .int .u8 0, .int .u8 0, .int .u8 0, .int .u8 0, .int .u8 0, .int .u8 0, .int .u8 0, .int .u8 0, .int .u8 0, .int .u8 0, .int .u8 0] ?_ (by kernel_rfl) rfl ?_ ?_; (· simp only [heap_at, heap_past, heap_drewN', size_alloc, size_drewN', size_ext, ltA0, ltA1, ltA2, ltA3, ltA4, ltA5]); (· simp [Value.oneCell']); simp only [setRow_drewN, setRow_drew, setRow_alloc_at, setRow_alloc_past, setRow_ext, size_alloc, size_drewN', size_ext, ltA0, ltA1, ltA2, ltA3, ltA4, ltA5])
  refine wp_loop_rounds 33 ?_
  iterate 32 (rw [rounds_succ]; go_wp2)
  rw [rounds_succ]
  go_wp2_with (first | (refine wpList_load_row rfl 31 _ rfl _ rfl 31 _ (0, 0) _ (heap_at _ _ _ (by simp)) Try.underlying31 rfl ?_ ?_; (· kernel_rfl)) | (refine wpList_store_row rfl 31 _ _ rfl _ _ rfl rfl 31 #[.int .u8 0, .int .u8 0, .int .u8 0, .int .u8 0, .int .u8 0, .int .u8 0, .int .u8 0, .int .u8 0, .int .u8 0, .int .u8 0, .int .u8 0, .int .u8 0, .int .u8 0, .int .u8 0, .int .u8 0, .int .u8 0, .int .u8 0, .int .u8 0, .int .u8 0, .int .u8 0, .int .u8 0, .int .u8 0, .int .u8 0, .int .u8 0, .int .u8 0, .int .u8 0, .int .u8 0, .int .u8 0, .int .u8 0, .int .u8 0, .int .u8 0, .int .u8 0] ?_ (by kernel_rfl) rfl ?_ ?_; (· simp only [heap_at, heap_past, heap_drewN', size_alloc, size_drewN', size_ext, ltA0, ltA1, ltA2, ltA3, ltA4, ltA5]); (· simp [Value.oneCell']); simp only [setRow_drewN, setRow_drew, setRow_alloc_at, setRow_alloc_past, setRow_ext, size_alloc, size_drewN', size_ext, ltA0, ltA1, ltA2, ltA3, ltA4, ltA5]))
  refine bodyPost_ret (results_cell_row rfl _ _ _ 31 _ (0, 0) _ rfl (by simp only [heap_past, heap_at, size_alloc, ltA0]; rfl) Try.underlying31 rfl (by kernel_rfl)) rfl ⟨?_, ?_⟩
  · rw [B32, H1.out]
    rfl
  · (refine Ext.of_below ?_; (repeat (first | exact Below.refl _ _ | refine below_drewN' ?_ _ | refine below_ext ?_ (by simp <;> omega) _ | apply Below.drew | refine Below.setCell ?_ (by simp <;> omega) _ | refine Below.alloc ?_ (by simp <;> omega) _)))
end Go.Proofs.Ytmepgkcijeobkaa
