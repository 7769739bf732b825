import JvmDerived
import JvmDerived.Pilot.@@N@@Statement
import JvmDerived.Pilot.@@N@@Code
set_option linter.unusedVariables false
set_option linter.unusedSimpArgs false
set_option maxRecDepth 65536
set_option maxHeartbeats 40000000
namespace Jvm.Pilot.@@N@@
open Jvm Jvm.ClassFile Sem Op Lib Jvm.Free Jvm.Stand Jvm.LawKit Jvm.RoadKit Bundle Jvm.Pilot.@@N@@.Jvm.D
abbrev c0_ : ByteArray := jdk_21_method_10_code
abbrev c1_ : ByteArray := jdk_21_method_13_code
abbrev c2_ : ByteArray := jdk_21_method_18_code
abbrev c3_ : ByteArray := jdk_21_method_20_code
abbrev c4_ : ByteArray := jdk_21_method_28_code
abbrev c5_ : ByteArray := jdk_21_method_30_code
abbrev c6_ : ByteArray := jdk_21_method_38_code
abbrev c7_ : ByteArray := jdk_21_method_3_code
abbrev c8_ : ByteArray := jdk_21_method_6_code
abbrev c9_ : ByteArray := jdk_22_method_1_code
abbrev c10_ : ByteArray := jdk_29_method_65_code
abbrev c11_ : ByteArray := jdk_29_method_69_code
abbrev c12_ : ByteArray := jdk_30_method_1_code
abbrev c13_ : ByteArray := jdk_31_method_17_code
abbrev c14_ : ByteArray := jdk_33_method_22_code
abbrev c15_ : ByteArray := jdk_33_method_27_code
abbrev c16_ : ByteArray := jdk_38_method_18_code
abbrev c17_ : ByteArray := jdk_38_method_20_code
abbrev c18_ : ByteArray := jdk_38_method_24_code
abbrev c19_ : ByteArray := jdk_38_method_25_code
abbrev c20_ : ByteArray := jdk_38_method_2_code
abbrev c21_ : ByteArray := jdk_38_method_55_code
abbrev c22_ : ByteArray := jdk_38_method_6_code
abbrev c23_ : ByteArray := jdk_38_method_7_code
abbrev c24_ : ByteArray := jdk_38_method_8_code
abbrev c25_ : ByteArray := jdk_39_method_1_code
abbrev c26_ : ByteArray := jdk_41_method_11_code
abbrev c27_ : ByteArray := jdk_49_method_1_code
abbrev c28_ : ByteArray := jdk_49_method_2_code
abbrev c29_ : ByteArray := jdk_49_method_3_code
abbrev c30_ : ByteArray := jdk_49_method_6_code
abbrev c31_ : ByteArray := jdk_65_method_103_code
abbrev c32_ : ByteArray := jdk_65_method_123_code
abbrev c33_ : ByteArray := prog_33_method_1_code
abbrev c34_ : ByteArray := prog_33_method_6_code
abbrev c35_ : ByteArray := prog_33_method_7_code
abbrev c36_ : ByteArray := prog_33_method_8_code
abbrev c37_ : ByteArray := prog_35_method_11_code
abbrev c38_ : ByteArray := prog_35_method_1_code
abbrev c39_ : ByteArray := prog_35_method_6_code
abbrev c40_ : ByteArray := prog_35_method_7_code
abbrev c41_ : ByteArray := prog_58_method_16_code
abbrev c42_ : ByteArray := prog_58_method_17_code
abbrev c43_ : ByteArray := prog_58_method_18_code
abbrev c44_ : ByteArray := prog_58_method_1_code
abbrev c45_ : ByteArray := prog_58_method_8_code
abbrev s0_ : String := "com/example/hydromeme/hydromeme/TopologyChainEndPinLaw"
abbrev s1_ : String := "com/example/hydromeme/hydromeme/Network$Pipe"
abbrev s2_ : String := "com/example/hydromeme/hydromeme/FlowUnits"
abbrev s3_ : String := "com/example/hydromeme/hydromeme/HeadLoss"
abbrev s4_ : String := "com/example/hydromeme/hydromeme/Topology"
abbrev s5_ : String := "com/example/hydromeme/hydromeme/Network"
abbrev s6_ : String := "java/util/ArrayList$Itr"
abbrev s7_ : String := "java/util/AbstractList"
abbrev s8_ : String := "java/util/ArrayDeque"
abbrev s9_ : String := "java/util/ArrayList"
abbrev s10_ : String := "java/util/Iterator"
abbrev s11_ : String := "java/util/List"
abbrev LI := List (Nat × Instr × Nat)
abbrev DO_ (b : ByteArray) (L : LI) : Prop := ∀ q ∈ L, decode b q.1 = .ok q.2
theorem eD {b : ByteArray} {L : LI} (D : DO_ b L) (i : Nat) {pc : Nat} {I : Instr} {n : Nat} (h : L[i]? = some (pc, I, n)) : decode b pc = .ok (I, n) := D (pc, I, n) (List.mem_of_getElem? h)
abbrev o_ : Slot := Slot.unset
theorem one_ {a b n : Nat} (g : b = n) (l : a < n) : a ≠ b := by rw [g]; exact Nat.ne_of_lt l
theorem ozw {h h' : Heap} {a : Addr} {sl n : Nat} {v : Value} (W : Wr h h' a sl v) (z : n ≤ h.size) : n ≤ h'.size := by rw [W.size]; exact z
def l12_0_ : LI := [(0, .aload_n 0, 1), (1, .invokespecial 1, 3), (4, .return_, 1)]
theorem D12_0_ : DO_ c12_ l12_0_ := by decide +kernel
def l11_0_ : LI := [(0, .aload_n 0, 1), (1, .invokespecial 1, 3), (4, .aload_n 0, 1), (5, .aload_n 1, 1), (6, .putfield 7, 3), (9, .aload_n 0, 1), (10, .iload_n 2, 1), (11, .putfield 13, 3), (14, .aload_n 0, 1), (15, .iload_n 3, 1), (16, .putfield 17, 3), (19, .aload_n 0, 1), (20, .dload 4, 2), (22, .putfield 20, 3), (25, .aload_n 0, 1), (26, .dload 6, 2)]
theorem D11_0_ : DO_ c38_ l11_0_ := by decide +kernel
def l11_1_ : LI := [(28, .putfield 24, 3), (31, .aload_n 0, 1), (32, .dload 8, 2), (34, .putfield 27, 3), (37, .aload_n 0, 1), (38, .iload 10, 2), (40, .putfield 30, 3), (43, .return_, 1)]
theorem D11_1_ : DO_ c38_ l11_1_ := by decide +kernel
def l10_0_ : LI := [(0, .new 39, 3), (3, .dup, 1), (4, .aconst_null, 1), (5, .iload_n 2, 1), (6, .ifCond .eq 7, 3), (13, .iload_n 0, 1), (14, .iload_n 2, 1), (15, .ifCond .eq 7, 3), (22, .iload_n 1, 1), (23, .dconst 0, 1), (24, .dconst 0, 1), (25, .dconst 0, 1), (26, .iload_n 3, 1), (27, .invokespecial 41, 3), (30, .areturn, 1), (9, .iload_n 1, 1)]
theorem D10_0_ : DO_ method_3_code l10_0_ := by decide +kernel
def l10_1_ : LI := [(10, .goto 4, 3), (18, .iload_n 0, 1), (19, .goto 4, 3)]
theorem D10_1_ : DO_ method_3_code l10_1_ := by decide +kernel
def l3_0_ : LI := [(0, .aload_n 0, 1), (1, .invokespecial 1, 3), (4, .return_, 1)]
theorem D3_0_ : DO_ c9_ l3_0_ := by decide +kernel
def l2_0_ : LI := [(0, .aload_n 0, 1), (1, .invokespecial 1, 3), (4, .aload_n 0, 1), (5, .iconst 0, 1), (6, .putfield 7, 3), (9, .return_, 1)]
theorem D2_0_ : DO_ c25_ l2_0_ := by decide +kernel
def l1_0_ : LI := [(0, .aload_n 0, 1), (1, .invokespecial 1, 3), (4, .aload_n 0, 1), (5, .getstatic 39, 3), (8, .putfield 9, 3), (11, .return_, 1)]
theorem D1_0_ : DO_ c20_ l1_0_ := by decide +kernel
def l9_0_ : LI := [(0, .iload_n 0, 1), (1, .iload_n 1, 1), (2, .if_icmp .lt 7, 3), (5, .iload_n 0, 1), (6, .goto 4, 3), (10, .ireturn, 1)]
theorem D9_0_ : DO_ c10_ l9_0_ := by decide +kernel
def l8_0_ : LI := [(0, .aload_n 0, 1), (1, .getfield 9, 3), (4, .arraylength, 1), (5, .istore_n 2, 1), (6, .iload_n 2, 1), (7, .ifCond .gt 13, 3), (10, .aload_n 0, 1), (11, .getfield 9, 3), (14, .getstatic 39, 3), (17, .if_acmp .eq 28, 3), (45, .aload_n 0, 1), (46, .bipush 10, 2), (48, .iload_n 1, 1), (49, .invokestatic 79, 3), (52, .anewarray 7, 3), (55, .dup_x1, 1)]
theorem D8_0_ : DO_ c22_ l8_0_ := by decide +kernel
def l8_1_ : LI := [(56, .putfield 9, 3), (59, .areturn, 1)]
theorem D8_1_ : DO_ c22_ l8_1_ := by decide +kernel
def l7_0_ : LI := [(0, .aload_n 0, 1), (1, .aload_n 0, 1), (2, .getfield 48, 3), (5, .iconst 1, 1), (6, .iadd, 1), (7, .invokevirtual 69, 3), (10, .areturn, 1)]
theorem D7_0_ : DO_ c23_ l7_0_ := by decide +kernel
def l6_0_ : LI := [(0, .iload_n 3, 1), (1, .aload_n 2, 1), (2, .arraylength, 1), (3, .if_icmp .ne 8, 3), (6, .aload_n 0, 1), (7, .invokevirtual 129, 3), (10, .astore_n 2, 1), (11, .aload_n 2, 1), (12, .iload_n 3, 1), (13, .aload_n 1, 1), (14, .aastore, 1), (15, .aload_n 0, 1), (16, .iload_n 3, 1), (17, .iconst 1, 1), (18, .iadd, 1), (19, .putfield 48, 3)]
theorem D6_0_ : DO_ c18_ l6_0_ := by decide +kernel
def l6_1_ : LI := [(22, .return_, 1)]
theorem D6_1_ : DO_ c18_ l6_1_ := by decide +kernel
def l5_0_ : LI := [(0, .aload_n 0, 1), (1, .dup, 1), (2, .getfield 63, 3), (5, .iconst 1, 1), (6, .iadd, 1), (7, .putfield 63, 3), (10, .aload_n 0, 1), (11, .aload_n 1, 1), (12, .aload_n 0, 1), (13, .getfield 9, 3), (16, .aload_n 0, 1), (17, .getfield 48, 3), (20, .invokevirtual 131, 3), (23, .iconst 1, 1), (24, .ireturn, 1)]
theorem D5_0_ : DO_ c19_ l5_0_ := by decide +kernel
def l13_0_ : LI := [(0, .iload 4, 2), (2, .ifCond .eq 32, 3), (34, .aload_n 0, 1), (35, .iload_n 1, 1), (36, .iload_n 3, 1), (37, .iload 5, 2), (39, .iconst 1, 1), (40, .invokestatic 15, 3), (43, .invokevirtual 11, 3), (46, .pop, 1), (47, .return_, 1), (5, .aload_n 0, 1), (6, .iload_n 1, 1), (7, .iload_n 2, 1), (8, .iload 5, 2), (10, .iconst 1, 1)]
theorem D13_0_ : DO_ method_4_code l13_0_ := by decide +kernel
def l13_1_ : LI := [(11, .invokestatic 15, 3), (14, .invokevirtual 11, 3), (17, .pop, 1), (18, .aload_n 0, 1), (19, .iload_n 2, 1), (20, .iload_n 3, 1), (21, .iload 6, 2), (23, .iconst 1, 1), (24, .invokestatic 15, 3), (27, .invokevirtual 11, 3), (30, .pop, 1), (31, .goto 16, 3)]
theorem D13_1_ : DO_ method_4_code l13_1_ := by decide +kernel
def l14_0_ : LI := [(0, .aload_n 0, 1), (1, .invokespecial 1, 3), (4, .aload_n 0, 1), (5, .aload_n 1, 1), (6, .putfield 7, 3), (9, .aload_n 0, 1), (10, .aload_n 2, 1), (11, .putfield 13, 3), (14, .aload_n 0, 1), (15, .aload_n 3, 1), (16, .putfield 16, 3), (19, .aload_n 0, 1), (20, .aload 4, 2), (22, .putfield 19, 3), (25, .aload_n 0, 1), (26, .aload 5, 2)]
theorem D14_0_ : DO_ c33_ l14_0_ := by decide +kernel
def l14_1_ : LI := [(28, .putfield 23, 3), (31, .aload_n 0, 1), (32, .dload 6, 2), (34, .putfield 27, 3), (37, .return_, 1)]
theorem D14_1_ : DO_ c33_ l14_1_ := by decide +kernel
def l16_0_ : LI := [(0, .aload_n 0, 1), (1, .getfield 7, 3), (4, .areturn, 1)]
theorem D16_0_ : DO_ c34_ l16_0_ := by decide +kernel
def l18_0_ : LI := [(0, .aload_n 0, 1), (1, .getfield 13, 3), (4, .areturn, 1)]
theorem D18_0_ : DO_ c35_ l18_0_ := by decide +kernel
def l20_0_ : LI := [(0, .aload_n 0, 1), (1, .getfield 16, 3), (4, .areturn, 1)]
theorem D20_0_ : DO_ c36_ l20_0_ := by decide +kernel
def l17_0_ : LI := [(0, .aload_n 0, 1), (1, .getfield 48, 3), (4, .ireturn, 1)]
theorem D17_0_ : DO_ c24_ l17_0_ := by decide +kernel
def l27_0_ : LI := [(0, .aload_n 0, 1), (1, .getfield 13, 3), (4, .ireturn, 1)]
theorem D27_0_ : DO_ c39_ l27_0_ := by decide +kernel
def l28_0_ : LI := [(0, .aload_n 0, 1), (1, .getfield 17, 3), (4, .ireturn, 1)]
theorem D28_0_ : DO_ c40_ l28_0_ := by decide +kernel
def l26_0_ : LI := [(0, .aload_n 0, 1), (1, .getfield 30, 3), (4, .ireturn, 1)]
theorem D26_0_ : DO_ c37_ l26_0_ := by decide +kernel
def l29_0_ : LI := [(0, .iconst 0, 1), (1, .istore_n 2, 1), (2, .aload_n 0, 1), (3, .arraylength, 1), (4, .istore_n 3, 1), (5, .iload_n 2, 1), (6, .iload_n 3, 1), (7, .if_icmp .ge 13, 3), (10, .aload_n 0, 1), (11, .iload_n 2, 1), (12, .iload_n 1, 1), (13, .iastore, 1), (14, .iinc 2 1, 3), (17, .goto (-12), 3), (20, .return_, 1)]
theorem D29_0_ : DO_ c31_ l29_0_ := by decide +kernel
def l39_0_ : LI := [(0, .aload_n 0, 1), (1, .astore_n 2, 1), (2, .aload_n 2, 1), (3, .arraylength, 1), (4, .istore_n 3, 1), (5, .iconst 0, 1), (6, .istore 4, 2), (8, .iload 4, 2), (10, .iload_n 3, 1), (11, .if_icmp .ge 25, 3), (14, .aload_n 2, 1), (15, .iload 4, 2), (17, .iaload, 1), (18, .istore 5, 2), (20, .aload_n 1, 1), (21, .iload 5, 2)]
theorem D39_0_ : DO_ c42_ l39_0_ := by decide +kernel
def l39_1_ : LI := [(23, .baload, 1), (24, .ifCond .ne 6, 3), (27, .iload 5, 2), (29, .ireturn, 1), (30, .iinc 4 1, 3), (33, .goto (-25), 3), (36, .new 151, 3)]
theorem D39_1_ : DO_ c42_ l39_1_ := by decide +kernel
def l32_0_ : LI := [(0, .iload_n 0, 1), (1, .ifCond .lt 8, 3), (4, .iload_n 0, 1), (5, .iload_n 1, 1), (6, .if_icmp .lt 10, 3), (16, .iload_n 0, 1), (17, .ireturn, 1)]
theorem D32_0_ : DO_ c26_ l32_0_ := by decide +kernel
def l31_0_ : LI := [(0, .iload_n 0, 1), (1, .iload_n 1, 1), (2, .aconst_null, 1), (3, .invokestatic 105, 3), (6, .ireturn, 1)]
theorem D31_0_ : DO_ c13_ l31_0_ := by decide +kernel
def l33_0_ : LI := [(0, .aload_n 0, 1), (1, .getfield 9, 3), (4, .iload_n 1, 1), (5, .aaload, 1), (6, .areturn, 1)]
theorem D33_0_ : DO_ c16_ l33_0_ := by decide +kernel
def l30_0_ : LI := [(0, .iload_n 1, 1), (1, .aload_n 0, 1), (2, .getfield 48, 3), (5, .invokestatic 118, 3), (8, .pop, 1), (9, .aload_n 0, 1), (10, .iload_n 1, 1), (11, .invokevirtual 123, 3), (14, .areturn, 1)]
theorem D30_0_ : DO_ c17_ l30_0_ := by decide +kernel
def l38_0_ : LI := [(0, .aload_n 0, 1), (1, .invokevirtual 28, 3), (4, .iload_n 1, 1), (5, .invokeinterface 147 2, 5), (10, .checkcast 122, 3), (13, .astore_n 3, 1), (14, .aload_n 3, 1), (15, .invokevirtual 127, 3), (18, .iload_n 2, 1), (19, .if_icmp .ne 10, 3), (22, .aload_n 3, 1), (23, .invokevirtual 130, 3), (26, .goto 7, 3), (33, .ireturn, 1), (29, .aload_n 3, 1), (30, .invokevirtual 127, 3)]
theorem D38_0_ : DO_ c43_ l38_0_ := by decide +kernel
def l22_0_ : LI := [(0, .aload_n 0, 1), (1, .aload_n 1, 1), (2, .putfield 1, 3), (5, .aload_n 0, 1), (6, .invokespecial 7, 3), (9, .aload_n 0, 1), (10, .iconst (-1), 1), (11, .putfield 13, 3), (14, .aload_n 0, 1), (15, .aload_n 0, 1), (16, .getfield 1, 3), (19, .getfield 17, 3), (22, .putfield 22, 3), (25, .return_, 1)]
theorem D22_0_ : DO_ c27_ l22_0_ := by decide +kernel
def l21_0_ : LI := [(0, .new 267, 3), (3, .dup, 1), (4, .aload_n 0, 1), (5, .invokespecial 269, 3), (8, .areturn, 1)]
theorem D21_0_ : DO_ c21_ l21_0_ := by decide +kernel
def l23_0_ : LI := [(0, .aload_n 0, 1), (1, .getfield 25, 3), (4, .aload_n 0, 1), (5, .getfield 1, 3), (8, .getfield 28, 3), (11, .if_icmp .eq 7, 3), (18, .iconst 0, 1), (19, .ireturn, 1), (14, .iconst 1, 1), (15, .goto 4, 3)]
theorem D23_0_ : DO_ c28_ l23_0_ := by decide +kernel
def l25_0_ : LI := [(0, .aload_n 0, 1), (1, .getfield 1, 3), (4, .getfield 17, 3), (7, .aload_n 0, 1), (8, .getfield 22, 3), (11, .if_icmp .eq 11, 3), (22, .return_, 1)]
theorem D25_0_ : DO_ c30_ l25_0_ := by decide +kernel
def l24_0_ : LI := [(0, .aload_n 0, 1), (1, .invokevirtual 31, 3), (4, .aload_n 0, 1), (5, .getfield 25, 3), (8, .istore_n 1, 1), (9, .iload_n 1, 1), (10, .aload_n 0, 1), (11, .getfield 1, 3), (14, .getfield 28, 3), (17, .if_icmp .lt 11, 3), (28, .aload_n 0, 1), (29, .getfield 1, 3), (32, .getfield 37, 3), (35, .astore_n 2, 1), (36, .iload_n 1, 1), (37, .aload_n 2, 1)]
theorem D24_0_ : DO_ c29_ l24_0_ := by decide +kernel
def l24_1_ : LI := [(38, .arraylength, 1), (39, .if_icmp .lt 11, 3), (50, .aload_n 0, 1), (51, .iload_n 1, 1), (52, .iconst 1, 1), (53, .iadd, 1), (54, .putfield 25, 3), (57, .aload_n 2, 1), (58, .aload_n 0, 1), (59, .iload_n 1, 1), (60, .dup_x1, 1), (61, .putfield 13, 3), (64, .aaload, 1), (65, .areturn, 1)]
theorem D24_1_ : DO_ c29_ l24_1_ := by decide +kernel
def l19_0_ : LI := [(0, .iload_n 1, 1), (1, .newarray .int, 2), (3, .astore_n 2, 1), (4, .aload_n 0, 1), (5, .invokevirtual 28, 3), (8, .invokeinterface 110 1, 5), (13, .astore_n 3, 1), (14, .aload_n 3, 1), (15, .invokeinterface 114 1, 5), (20, .ifCond .eq 78, 3), (98, .iload_n 1, 1), (99, .anewarray 146, 3), (102, .astore_n 3, 1), (103, .iconst 0, 1), (104, .istore 4, 2), (106, .iload 4, 2)]
theorem D19_0_ : DO_ c41_ l19_0_ := by decide +kernel
def l19_1_ : LI := [(108, .iload_n 1, 1), (109, .if_icmp .ge 19, 3), (112, .aload_n 3, 1), (113, .iload 4, 2), (115, .aload_n 2, 1), (116, .iload 4, 2), (118, .iaload, 1), (119, .newarray .int, 2), (121, .aastore, 1), (122, .iinc 4 1, 3), (125, .goto (-19), 3), (128, .aload_n 2, 1), (129, .iconst 0, 1), (130, .invokestatic 82, 3), (133, .iconst 0, 1), (134, .istore 4, 2)]
theorem D19_1_ : DO_ c41_ l19_1_ := by decide +kernel
def l19_2_ : LI := [(136, .iload 4, 2), (138, .aload_n 0, 1), (139, .invokevirtual 28, 3), (142, .invokeinterface 13 1, 5), (147, .if_icmp .ge 77, 3), (150, .aload_n 0, 1), (151, .invokevirtual 28, 3), (154, .iload 4, 2), (156, .invokeinterface 147 2, 5), (161, .checkcast 122, 3), (164, .astore 5, 2), (166, .aload 5, 2), (168, .invokevirtual 124, 3), (171, .ifCond .eq 47, 3), (218, .iinc 4 1, 3), (221, .goto (-85), 3)]
theorem D19_2_ : DO_ c41_ l19_2_ := by decide +kernel
def l19_3_ : LI := [(174, .aload_n 3, 1), (175, .aload 5, 2), (177, .invokevirtual 127, 3), (180, .aaload, 1), (181, .aload_n 2, 1), (182, .aload 5, 2), (184, .invokevirtual 127, 3), (187, .dup2, 1), (188, .iaload, 1), (189, .dup_x2, 1), (190, .iconst 1, 1), (191, .iadd, 1), (192, .iastore, 1), (193, .iload 4, 2), (195, .iastore, 1), (196, .aload_n 3, 1)]
theorem D19_3_ : DO_ c41_ l19_3_ := by decide +kernel
def l19_4_ : LI := [(197, .aload 5, 2), (199, .invokevirtual 130, 3), (202, .aaload, 1), (203, .aload_n 2, 1), (204, .aload 5, 2), (206, .invokevirtual 130, 3), (209, .dup2, 1), (210, .iaload, 1), (211, .dup_x2, 1), (212, .iconst 1, 1), (213, .iadd, 1), (214, .iastore, 1), (215, .iload 4, 2), (217, .iastore, 1), (224, .aload_n 3, 1), (225, .areturn, 1)]
theorem D19_4_ : DO_ c41_ l19_4_ := by decide +kernel
def l19_5_ : LI := [(23, .aload_n 3, 1), (24, .invokeinterface 119 1, 5), (29, .checkcast 122, 3), (32, .astore 4, 2), (34, .aload 4, 2), (36, .invokevirtual 124, 3), (39, .ifCond .eq 56, 3), (95, .goto (-81), 3), (42, .aload 4, 2), (44, .invokevirtual 127, 3), (47, .aload 4, 2), (49, .invokevirtual 130, 3), (52, .if_icmp .ne 21, 3), (55, .new 133, 3), (73, .aload_n 2, 1), (74, .aload 4, 2)]
theorem D19_5_ : DO_ c41_ l19_5_ := by decide +kernel
def l19_6_ : LI := [(76, .invokevirtual 127, 3), (79, .dup2, 1), (80, .iaload, 1), (81, .iconst 1, 1), (82, .iadd, 1), (83, .iastore, 1), (84, .aload_n 2, 1), (85, .aload 4, 2), (87, .invokevirtual 130, 3), (90, .dup2, 1), (91, .iaload, 1), (92, .iconst 1, 1), (93, .iadd, 1), (94, .iastore, 1)]
theorem D19_6_ : DO_ c41_ l19_6_ := by decide +kernel
def l41_0_ : LI := [(0, .iload_n 0, 1), (1, .bipush (-128), 2), (3, .if_icmp .lt 20, 3), (6, .iload_n 0, 1), (7, .getstatic 191, 3), (10, .if_icmp .gt 13, 3), (13, .getstatic 195, 3), (16, .iload_n 0, 1), (17, .sipush 128, 3), (20, .iadd, 1), (21, .aaload, 1), (22, .areturn, 1)]
theorem D41_0_ : DO_ c14_ l41_0_ := by decide +kernel
def l49_0_ : LI := [(0, .aload_n 0, 1), (1, .getfield 205, 3), (4, .ireturn, 1)]
theorem D49_0_ : DO_ c15_ l49_0_ := by decide +kernel
def l34_0_ : LI := [(0, .aload_n 0, 1), (1, .invokespecial 42, 3), (4, .aload_n 0, 1), (5, .bipush 17, 2), (7, .anewarray 47, 3), (10, .putfield 3, 3), (13, .return_, 1)]
theorem D34_0_ : DO_ c7_ l34_0_ := by decide +kernel
def l35_0_ : LI := [(0, .aload_n 0, 1), (1, .getfield 24, 3), (4, .aload_n 0, 1), (5, .getfield 20, 3), (8, .if_icmp .ne 7, 3), (11, .iconst 1, 1), (12, .goto 4, 3), (16, .ireturn, 1), (15, .iconst 0, 1)]
theorem D35_0_ : DO_ c6_ l35_0_ := by decide +kernel
def l44_0_ : LI := [(0, .iinc 0 1, 3), (3, .iload_n 0, 1), (4, .iload_n 1, 1), (5, .if_icmp .lt 5, 3), (10, .iload_n 0, 1), (11, .ireturn, 1)]
theorem D44_0_ : DO_ c8_ l44_0_ := by decide +kernel
def l43_0_ : LI := [(0, .aload_n 1, 1), (1, .ifnonnull 11, 3), (12, .aload_n 0, 1), (13, .getfield 3, 3), (16, .astore_n 2, 1), (17, .aload_n 2, 1), (18, .aload_n 0, 1), (19, .getfield 20, 3), (22, .aload_n 1, 1), (23, .aastore, 1), (24, .aload_n 0, 1), (25, .getfield 24, 3), (28, .aload_n 0, 1), (29, .aload_n 0, 1), (30, .getfield 20, 3), (33, .aload_n 2, 1)]
theorem D43_0_ : DO_ c1_ l43_0_ := by decide +kernel
def l43_1_ : LI := [(34, .arraylength, 1), (35, .invokestatic 74, 3), (38, .dup_x1, 1), (39, .putfield 20, 3), (42, .if_icmp .ne 8, 3), (50, .return_, 1)]
theorem D43_1_ : DO_ c1_ l43_1_ := by decide +kernel
def l42_0_ : LI := [(0, .aload_n 0, 1), (1, .aload_n 1, 1), (2, .invokevirtual 90, 3), (5, .iconst 1, 1), (6, .ireturn, 1)]
theorem D42_0_ : DO_ c4_ l42_0_ := by decide +kernel
def l48_0_ : LI := [(0, .aload_n 0, 1), (1, .iload_n 1, 1), (2, .aaload, 1), (3, .areturn, 1)]
theorem D48_0_ : DO_ c0_ l48_0_ := by decide +kernel
def l47_0_ : LI := [(0, .aload_n 0, 1), (1, .getfield 3, 3), (4, .dup, 1), (5, .astore_n 1, 1), (6, .aload_n 0, 1), (7, .getfield 24, 3), (10, .dup, 1), (11, .istore_n 2, 1), (12, .invokestatic 103, 3), (15, .astore_n 3, 1), (16, .aload_n 3, 1), (17, .ifnull 17, 3), (20, .aload_n 1, 1), (21, .iload_n 2, 1), (22, .aconst_null, 1), (23, .aastore, 1)]
theorem D47_0_ : DO_ c3_ l47_0_ := by decide +kernel
def l47_1_ : LI := [(24, .aload_n 0, 1), (25, .iload_n 2, 1), (26, .aload_n 1, 1), (27, .arraylength, 1), (28, .invokestatic 74, 3), (31, .putfield 24, 3), (34, .aload_n 3, 1), (35, .areturn, 1)]
theorem D47_1_ : DO_ c3_ l47_1_ := by decide +kernel
def l46_0_ : LI := [(0, .aload_n 0, 1), (1, .invokevirtual 93, 3), (4, .astore_n 1, 1), (5, .aload_n 1, 1), (6, .ifnonnull 11, 3), (17, .aload_n 1, 1), (18, .areturn, 1)]
theorem D46_0_ : DO_ c2_ l46_0_ := by decide +kernel
def l45_0_ : LI := [(0, .aload_n 0, 1), (1, .invokevirtual 118, 3), (4, .areturn, 1)]
theorem D45_0_ : DO_ c5_ l45_0_ := by decide +kernel
def l37_0_ : LI := [(0, .iload_n 0, 1), (1, .iload_n 1, 1), (2, .if_icmp .gt 7, 3), (9, .iload_n 1, 1), (10, .ireturn, 1), (5, .iload_n 0, 1), (6, .goto 4, 3)]
theorem D37_0_ : DO_ c11_ l37_0_ := by decide +kernel
def l36_0_ : LI := [(0, .iload_n 1, 1), (1, .aload_n 0, 1), (2, .arraylength, 1), (3, .if_icmp .ne 11, 3), (6, .aload_n 0, 1), (14, .iload_n 1, 1), (15, .newarray .int, 2), (17, .astore_n 2, 1), (18, .aload_n 0, 1), (19, .iconst 0, 1), (20, .aload_n 2, 1), (21, .iconst 0, 1), (22, .aload_n 0, 1), (23, .arraylength, 1), (24, .iload_n 1, 1), (25, .invokestatic 304, 3)]
theorem D36_0_ : DO_ c32_ l36_0_ := by decide +kernel
def l36_1_ : LI := [(28, .invokestatic 150, 3), (31, .aload_n 2, 1), (32, .areturn, 1)]
theorem D36_1_ : DO_ c32_ l36_1_ := by decide +kernel
def l15_0_ : LI := [(0, .aload_n 0, 1), (1, .invokespecial 1, 3), (4, .aload_n 1, 1), (5, .invokevirtual 7, 3), (8, .invokeinterface 13 1, 5), (13, .istore_n 2, 1), (14, .iload_n 2, 1), (15, .aload_n 1, 1), (16, .invokevirtual 19, 3), (19, .invokeinterface 13 1, 5), (24, .iadd, 1), (25, .istore_n 3, 1), (26, .aload_n 1, 1), (27, .iload_n 3, 1), (28, .invokestatic 22, 3), (31, .astore 4, 2)]
theorem D15_0_ : DO_ c44_ l15_0_ := by decide +kernel
def l15_1_ : LI := [(33, .iload_n 3, 1), (34, .newarray .int, 2), (36, .astore 5, 2), (38, .iconst 0, 1), (39, .istore 6, 2), (41, .iload 6, 2), (43, .iload_n 3, 1), (44, .if_icmp .ge 20, 3), (47, .aload 5, 2), (49, .iload 6, 2), (51, .aload 4, 2), (53, .iload 6, 2), (55, .aaload, 1), (56, .arraylength, 1), (57, .iastore, 1), (58, .iinc 6 1, 3)]
theorem D15_1_ : DO_ c44_ l15_1_ := by decide +kernel
def l15_2_ : LI := [(61, .goto (-20), 3), (64, .aload_n 1, 1), (65, .invokevirtual 28, 3), (68, .invokeinterface 13 1, 5), (73, .newarray .boolean, 2), (75, .astore 6, 2), (77, .iload_n 3, 1), (78, .newarray .boolean, 2), (80, .astore 7, 2), (82, .iload_n 2, 1), (83, .newarray .int, 2), (85, .astore 8, 2), (87, .iload_n 2, 1), (88, .newarray .int, 2), (90, .astore 9, 2), (92, .iload_n 2, 1)]
theorem D15_2_ : DO_ c44_ l15_2_ := by decide +kernel
def l15_3_ : LI := [(93, .newarray .int, 2), (95, .astore 10, 2), (97, .iconst 0, 1), (98, .istore 11, 2), (100, .new 31, 3), (103, .dup, 1), (104, .invokespecial 33, 3), (107, .astore 12, 2), (109, .iconst 0, 1), (110, .istore 13, 2), (112, .iload 13, 2), (114, .iload_n 2, 1), (115, .if_icmp .ge 29, 3), (118, .aload 5, 2), (120, .iload 13, 2), (122, .iaload, 1)]
theorem D15_3_ : DO_ c44_ l15_3_ := by decide +kernel
def l15_4_ : LI := [(123, .iconst 1, 1), (124, .if_icmp .ne 14, 3), (127, .aload 12, 2), (129, .iload 13, 2), (131, .invokestatic 34, 3), (134, .invokevirtual 40, 3), (137, .pop, 1), (138, .iinc 13 1, 3), (141, .goto (-29), 3), (144, .aload 12, 2), (146, .invokevirtual 44, 3), (149, .ifCond .ne 132, 3), (152, .aload 12, 2), (154, .invokevirtual 48, 3), (157, .checkcast 35, 3), (160, .invokevirtual 52, 3)]
theorem D15_4_ : DO_ c44_ l15_4_ := by decide +kernel
def l15_5_ : LI := [(163, .istore 13, 2), (165, .aload 5, 2), (167, .iload 13, 2), (169, .iaload, 1), (170, .ifCond .ne 6, 3), (173, .goto (-29), 3), (176, .aload 4, 2), (178, .iload 13, 2), (180, .aaload, 1), (181, .aload 6, 2), (183, .invokestatic 55, 3), (186, .istore 14, 2), (188, .aload_n 1, 1), (189, .iload 14, 2), (191, .iload 13, 2), (193, .invokestatic 59, 3)]
theorem D15_5_ : DO_ c44_ l15_5_ := by decide +kernel
def l15_6_ : LI := [(196, .istore 15, 2), (198, .aload 6, 2), (200, .iload 14, 2), (202, .iconst 1, 1), (203, .bastore, 1), (204, .aload 7, 2), (206, .iload 13, 2), (208, .iconst 1, 1), (209, .bastore, 1), (210, .aload 5, 2), (212, .iload 13, 2), (214, .dup2, 1), (215, .iaload, 1), (216, .iconst 1, 1), (217, .isub, 1), (218, .iastore, 1)]
theorem D15_6_ : DO_ c44_ l15_6_ := by decide +kernel
def l15_7_ : LI := [(219, .aload 5, 2), (221, .iload 15, 2), (223, .dup2, 1), (224, .iaload, 1), (225, .iconst 1, 1), (226, .isub, 1), (227, .iastore, 1), (228, .aload 8, 2), (230, .iload 11, 2), (232, .iload 14, 2), (234, .iastore, 1), (235, .aload 9, 2), (237, .iload 11, 2), (239, .iload 13, 2), (241, .iastore, 1), (242, .aload 10, 2)]
theorem D15_7_ : DO_ c44_ l15_7_ := by decide +kernel
def l15_8_ : LI := [(244, .iload 11, 2), (246, .iinc 11 1, 3), (249, .iload 15, 2), (251, .iastore, 1), (252, .iload 15, 2), (254, .iload_n 2, 1), (255, .if_icmp .ge 23, 3), (258, .aload 5, 2), (260, .iload 15, 2), (262, .iaload, 1), (263, .iconst 1, 1), (264, .if_icmp .ne 14, 3), (267, .aload 12, 2), (269, .iload 15, 2), (271, .invokestatic 34, 3), (274, .invokevirtual 40, 3)]
theorem D15_8_ : DO_ c44_ l15_8_ := by decide +kernel
def l15_9_ : LI := [(277, .pop, 1), (278, .goto (-134), 3), (281, .aload_n 0, 1), (282, .aload 8, 2), (284, .iload 11, 2), (286, .invokestatic 63, 3), (289, .putfield 69, 3), (292, .aload_n 0, 1), (293, .aload 9, 2), (295, .iload 11, 2), (297, .invokestatic 63, 3), (300, .putfield 73, 3), (303, .aload_n 0, 1), (304, .aload 10, 2), (306, .iload 11, 2), (308, .invokestatic 63, 3)]
theorem D15_9_ : DO_ c44_ l15_9_ := by decide +kernel
def l15_10_ : LI := [(311, .putfield 76, 3), (314, .aload_n 0, 1), (315, .iload_n 3, 1), (316, .newarray .int, 2), (318, .putfield 79, 3), (321, .aload_n 0, 1), (322, .getfield 79, 3), (325, .iconst (-1), 1), (326, .invokestatic 82, 3), (329, .iconst 0, 1), (330, .istore 13, 2), (332, .iconst 0, 1), (333, .istore 14, 2), (335, .iload 14, 2), (337, .iload_n 2, 1), (338, .if_icmp .ge 38, 3)]
theorem D15_10_ : DO_ c44_ l15_10_ := by decide +kernel
def l15_11_ : LI := [(341, .aload 7, 2), (343, .iload 14, 2), (345, .baload, 1), (346, .ifCond .ne 24, 3), (349, .aload 5, 2), (351, .iload 14, 2), (353, .iaload, 1), (354, .iconst 2, 1), (355, .if_icmp .le 15, 3), (358, .aload_n 0, 1), (359, .getfield 79, 3), (362, .iload 14, 2), (364, .iload 13, 2), (366, .iinc 13 1, 3), (369, .iastore, 1), (370, .iinc 14 1, 3)]
theorem D15_11_ : DO_ c44_ l15_11_ := by decide +kernel
def l15_12_ : LI := [(373, .goto (-38), 3), (376, .aload_n 0, 1), (377, .iload 13, 2), (379, .newarray .int, 2), (381, .putfield 86, 3), (384, .iconst 0, 1), (385, .istore 14, 2), (387, .iload 14, 2), (389, .iload_n 2, 1), (390, .if_icmp .ge 33, 3), (393, .aload_n 0, 1), (394, .getfield 79, 3), (397, .iload 14, 2), (399, .iaload, 1), (400, .ifCond .lt 17, 3), (417, .iinc 14 1, 3)]
theorem D15_12_ : DO_ c44_ l15_12_ := by decide +kernel
def l15_13_ : LI := [(420, .goto (-33), 3), (403, .aload_n 0, 1), (404, .getfield 86, 3), (407, .aload_n 0, 1), (408, .getfield 79, 3), (411, .iload 14, 2), (413, .iaload, 1), (414, .iload 14, 2), (416, .iastore, 1), (423, .aload 7, 2), (425, .invokevirtual 89, 3), (428, .checkcast 90, 3), (431, .astore 14, 2), (433, .aload_n 1, 1), (434, .invokevirtual 28, 3), (437, .invokeinterface 13 1, 5)]
theorem D15_13_ : DO_ c44_ l15_13_ := by decide +kernel
def l15_14_ : LI := [(442, .newarray .int, 2), (444, .astore 15, 2), (446, .aload_n 1, 1), (447, .invokevirtual 28, 3), (450, .invokeinterface 13 1, 5), (455, .iconst 1, 1), (456, .iadd, 1), (457, .newarray .int, 2), (459, .astore 16, 2), (461, .aload_n 1, 1), (462, .invokevirtual 28, 3), (465, .invokeinterface 13 1, 5), (470, .newarray .int, 2), (472, .astore 17, 2), (474, .aload_n 1, 1), (475, .invokevirtual 28, 3)]
theorem D15_14_ : DO_ c44_ l15_14_ := by decide +kernel
def l15_15_ : LI := [(478, .invokeinterface 13 1, 5), (483, .newarray .int, 2), (485, .astore 18, 2), (487, .iconst 0, 1), (488, .istore 19, 2), (490, .iconst 0, 1), (491, .istore 20, 2), (493, .iconst 0, 1), (494, .istore 21, 2), (496, .iload 21, 2), (498, .iload_n 3, 1), (499, .if_icmp .ge 178, 3), (502, .iload 21, 2), (521, .aload 14, 2), (523, .iload 21, 2), (525, .iconst 1, 1)]
theorem D15_15_ : DO_ c44_ l15_15_ := by decide +kernel
def l15_16_ : LI := [(526, .bastore, 1), (527, .aload 4, 2), (529, .iload 21, 2), (531, .aaload, 1), (532, .astore 22, 2), (534, .aload 22, 2), (536, .arraylength, 1), (537, .istore 23, 2), (539, .iconst 0, 1), (540, .istore 24, 2), (542, .iload 24, 2), (544, .iload 23, 2), (546, .if_icmp .ge 125, 3), (549, .aload 22, 2), (551, .iload 24, 2), (553, .iaload, 1)]
theorem D15_16_ : DO_ c44_ l15_16_ := by decide +kernel
def l15_17_ : LI := [(554, .istore 25, 2), (556, .aload 6, 2), (558, .iload 25, 2), (560, .baload, 1), (561, .ifCond .eq 6, 3), (567, .aload 15, 2), (569, .iload 19, 2), (571, .iload 21, 2), (573, .iastore, 1), (574, .iload 21, 2), (576, .istore 26, 2), (578, .iload 25, 2), (580, .istore 27, 2), (582, .aload 6, 2), (584, .iload 27, 2), (586, .iconst 1, 1)]
theorem D15_17_ : DO_ c44_ l15_17_ := by decide +kernel
def l15_18_ : LI := [(587, .bastore, 1), (588, .aload_n 1, 1), (589, .iload 27, 2), (591, .iload 26, 2), (593, .invokestatic 59, 3), (596, .istore 26, 2), (598, .aload 17, 2), (600, .iload 20, 2), (602, .iload 27, 2), (604, .iastore, 1), (605, .aload 18, 2), (607, .iload 20, 2), (609, .iinc 20 1, 3), (612, .iload 26, 2), (614, .iastore, 1), (615, .aload 14, 2)]
theorem D15_18_ : DO_ c44_ l15_18_ := by decide +kernel
def l15_19_ : LI := [(617, .iload 26, 2), (619, .iconst 1, 1), (620, .bastore, 1), (621, .iload 26, 2), (623, .iload_n 2, 1), (624, .if_icmp .ge 31, 3), (627, .aload_n 0, 1), (628, .getfield 79, 3), (631, .iload 26, 2), (633, .iaload, 1), (634, .ifCond .lt 6, 3), (640, .aload 4, 2), (642, .iload 26, 2), (644, .aaload, 1), (645, .aload 6, 2), (647, .invokestatic 55, 3)]
theorem D15_19_ : DO_ c44_ l15_19_ := by decide +kernel
def l15_20_ : LI := [(650, .istore 27, 2), (652, .goto (-70), 3), (637, .goto 18, 3), (655, .aload 16, 2), (657, .iinc 19 1, 3), (660, .iload 19, 2), (662, .iload 20, 2), (664, .iastore, 1), (665, .iinc 24 1, 3), (668, .goto (-126), 3), (564, .goto 101, 3), (671, .iinc 21 1, 3), (674, .goto (-178), 3), (504, .iload_n 2, 1), (505, .if_icmp .ge 16, 3), (508, .aload_n 0, 1)]
theorem D15_20_ : DO_ c44_ l15_20_ := by decide +kernel
def l15_21_ : LI := [(509, .getfield 79, 3), (512, .iload 21, 2), (514, .iaload, 1), (515, .ifCond .ge 6, 3), (518, .goto 153, 3), (677, .aload_n 0, 1), (678, .aload 15, 2), (680, .iload 19, 2), (682, .invokestatic 63, 3), (685, .putfield 94, 3), (688, .aload_n 0, 1), (689, .aload 16, 2), (691, .iload 19, 2), (693, .iconst 1, 1), (694, .iadd, 1), (695, .invokestatic 63, 3)]
theorem D15_21_ : DO_ c44_ l15_21_ := by decide +kernel
def l15_22_ : LI := [(698, .putfield 97, 3), (701, .aload_n 0, 1), (702, .aload 17, 2), (704, .iload 20, 2), (706, .invokestatic 63, 3), (709, .putfield 100, 3), (712, .aload_n 0, 1), (713, .aload 18, 2), (715, .iload 20, 2), (717, .invokestatic 63, 3), (720, .putfield 103, 3), (723, .iconst (-1), 1), (724, .istore 21, 2), (726, .iload_n 2, 1), (727, .iconst 1, 1), (728, .isub, 1)]
theorem D15_22_ : DO_ c44_ l15_22_ := by decide +kernel
def l15_23_ : LI := [(729, .istore 22, 2), (731, .iload 22, 2), (733, .ifCond .lt 21, 3), (754, .aload_n 0, 1), (755, .iload 21, 2), (757, .putfield 106, 3), (760, .return_, 1), (736, .aload 14, 2), (738, .iload 22, 2), (740, .baload, 1), (741, .ifCond .ne 7, 3), (744, .iload 22, 2), (746, .istore 21, 2), (748, .iinc 22 (-1), 3), (751, .goto (-20), 3)]
theorem D15_23_ : DO_ c44_ l15_23_ := by decide +kernel
def l40_0_ : LI := [(0, .aload_n 0, 1), (1, .getfield 103, 3), (4, .aload_n 0, 1), (5, .getfield 97, 3), (8, .iload_n 1, 1), (9, .iconst 1, 1), (10, .iadd, 1), (11, .iaload, 1), (12, .iconst 1, 1), (13, .isub, 1), (14, .iaload, 1), (15, .ireturn, 1)]
theorem D40_0_ : DO_ c45_ l40_0_ := by decide +kernel
section Own
variable {p : Program} {l : Launch} {e : Env} {R : Room} {s : State} {m : MethodId} {args : Array Value} {below : List Frame} {meth : Method} {c : Code} {T : State} {locs : List Loc} {cells slots : Nat} {Z : State} {a0 : Array Value} {h : Heap} {Φ : Outcome → State → Prop}
/-- what is left of a walk: from S the invocation ends as Φ says -/
def OGo (tb : Tables) (e : Env) (below : List Frame) (Φ : Outcome → State → Prop) (S : State) : Prop := ∃ s₂ o, Steps tb e below S s₂ ∧ s₂.status = .running ∧ Ended s₂ below o ∧ Φ o s₂
abbrev OG (p : Program) (e : Env) (below : List Frame) (Φ : Outcome → State → Prop) (T : State) (m : MethodId) (pc : Nat) (ls : Array Slot) (st : List Value) : Prop := OGo p.tables e below Φ (T.setTop (mkF m pc ls st))
theorem OGo.st {tb : Tables} {S S' : State} (h : ∀ t, Steps tb e below S' t → Steps tb e below S t) (g : OGo tb e below Φ S') : OGo tb e below Φ S := by
  obtain ⟨s₂, o, h1, r⟩ := g
  exact ⟨s₂, o, h _ h1, r⟩
theorem oia {Z s : State} {cl : Cell} {ty : FieldType} (hZ : Z.Warmed39 s.vm) (q : Z.isArrayOf cl ty) : s.isArrayOf cl ty := State.isArrayOf_alike hZ.alike q
theorem os {tb : Tables} {e : Env} {below : List Frame} {Φ : Outcome → State → Prop} {S S' : State} (h : ∀ t, Steps tb e below S' t → Steps tb e below S t) (g : OGo tb e below Φ S') : OGo tb e below Φ S := OGo.st h g
theorem OGo.fin (X : Stand p l e R s m args below meth c T locs cells slots) (hlk : meth.locks = false) {v : Option Value} (hv : meth.sig.returnType = none → v = none) {g : JFrame} {k n : Nat} (hk : cells ≤ k) (hn : slots ≤ n)
    (st : ∀ fs, (∀ (f : JFrame) (acts : List Action), f.method = m → f.locked = none → f.entered = [] → (doReturn e (T.setTop f) acts v).1 = T.setFrames fs) → Steps p.tables e below (T.setTop g) (T.setFrames fs))
    (hq : ∀ U, U.heap = T.heap → FrameEnd s (.returned v) U locs k n → Φ (.returned v) U) : OGo p.tables e below Φ (T.setTop g) := by
  obtain ⟨fs, hr, hrun, hended, hW, hsame⟩ := X.leave (v := v) hv hlk
  exact ⟨_, _, st fs hr, hrun, hended, hq _ rfl ⟨⟨_, rfl⟩, hW, hsame.mono hk hn⟩⟩
/-- a contract: what every body's theorem says -/
abbrev OCon (l : Launch) (Z : State) (y : MethodName) (bytes : ByteArray) (maxL : Nat) (ret : Option FieldType) (ws : List Jvm.Cond) (rm : Room) (as' : Array Value) (h0 : Heap) (Q : Option Value → Heap → List Loc → Prop) : Prop :=
  MetFree l y (head1 (Jvm.Cond.code y bytes maxL ret :: ws) rm) (fun a U => a = as' ∧ Z.Warmed39 U.vm ∧ U.heap = h0) (fun _ _ _ _ _ => True) (fun _ U o U' => ∃ v L, o = .returned v ∧ Q v U'.heap L ∧ FrameEnd U o U' L rm.cells rm.slots)
theorem OCon.of {y : MethodName} {bytes : ByteArray} {maxL : Nat} {ret : Option FieldType} {ws : List Jvm.Cond} {rm : Room} {as' : Array Value} {h0 : Heap} {Q : Option Value → Heap → List Loc → Prop} (hpl : plainFor y = true)
    (H : ∀ (p : Program) (e : Env) (s : State) (m : MethodId) (below : List Frame) (meth : Method) (c : Code) (s₁ : State) (Φ : Outcome → State → Prop), Stand p l e rm s m as' below meth c s₁ [] 0 0 → p.tables.exec = Jvm.exec → c.code = bytes → c.maxLocals = maxL → s.vm.findClass y.cls = some m.cls → meth.name = y.name → meth.sig.returnType = ret → meth.locks = false → Z.Warmed39 s.vm → s₁.heap = h0 →
      (∀ v L U, Q v U.heap L → FrameEnd s (.returned v) U L rm.cells rm.slots → Φ (.returned v) U) → OGo p.tables e below Φ (s₁.setTop (entryFrame m as' maxL))) :
    OCon l Z y bytes maxL ret ws rm as' h0 Q := by
  refine MetFree.of_bodySF hpl hisR ?_
  intro p e s m args below meth c s₁ Bd hml0 hP hK
  obtain ⟨rfl, hZ, hh⟩ := hP
  have e0 : s₁.heap = h0 := by rw [← hh, Bd.state]; rfl
  exact H p e s m below meth c s₁ _ (Stand.of_body Bd) Bd.exec Bd.bytes hml0 (findClass_of_methodNamed Bd.named) (name_of_methodNamed Bd.named Bd.method).1 Bd.returns Bd.notSynchronized hZ e0 (fun v L U hq hf => ⟨v, L, rfl, hq, hf⟩)
theorem own_callSt (X : Stand p l e R s m args below meth c T locs cells slots) (hx : p.tables.exec = Jvm.exec) (hZ : Z.Warmed39 s.vm) {own : String} {index : Nat} {y : MethodName} {bytes : ByteArray} {maxL : Nat} {ret : Option FieldType} {rm : Room} {as' : Array Value} {Q : Option Value → Heap → List Loc → Prop}
    (hown : s.vm.findClass own = some m.cls) (w1 : (Jvm.Cond.methodLink own index y).before a0 Z = true) (w2 : (Jvm.Cond.static y).before a0 Z = true) (w3 : (Jvm.Cond.initialized y.cls).before a0 Z = true) (w4 : (Jvm.Cond.code y bytes maxL ret).before a0 Z = true) (hy : y.cls ≠ "java/lang/invoke/MethodHandle" ∧ y.cls ≠ "java/lang/invoke/VarHandle")
    (hM : OCon l Z y bytes maxL ret [] rm as' h Q) (eT : T.heap = h) {W : Nat} (hr : (rm.frames + 1 ≤ R.frames ∧ W + (maxL + 11) + rm.locals ≤ R.locals) ∧ cells + rm.cells ≤ R.cells ∧ slots + rm.slots ≤ R.slots)
    {pc : Nat} {ls : Array Slot} {stk : List Value} (hsize : ls.size = c.maxLocals) {argsL rest : List Value} (hlen : ∀ sig, parseMethodDescriptor y.desc = some sig → argsL.length = sig.parameters.length) (has : argsL.toArray = as') (hstack : stk = argsL.reverse ++ rest) (hW : (rest.map fun v => v.category).sum ≤ W)
    (hd : decode c.code pc = .ok (.invokestatic index, 3)) :
    ∃ v T' L, Stand p l e R s m args below meth c T' (locs ++ L) (cells + rm.cells) (slots + rm.slots) ∧ Q v T'.heap L ∧ ∀ target, Steps p.tables e below (T'.setTop (mkF m (pc + 3) ls (v.toList ++ rest))) target → Steps p.tables e below (T.setTop (mkF m pc ls stk)) target := by
  subst has
  obtain ⟨⟨hf, hl⟩, hcl, hsl⟩ := hr
  obtain ⟨v, vm₁, ⟨T', L', k', n'⟩, -, X', ⟨L, hQ, l1, y1, z1⟩, st⟩ := Jvm.LawKit.callS X hx (y := y) hown (mvT hZ w1) (mvT hZ w2) (mvT hZ w3) (mvT hZ w4) hy (backOf (W := W) hM hZ w4 w3 hf hl) (g := mkF m pc ls stk) rfl hsize (argsL := argsL) (rest := rest) hlen hstack (by simpa using hW) hd (fun _ _ => ⟨rfl, eT, hcl, hsl⟩)
  dsimp only [Pt.U, Pt.locs, Pt.cells, Pt.slots] at X' l1 y1 z1 st hQ
  subst l1 y1 z1
  exact ⟨v, T', L, X', hQ, st⟩
theorem own_callSp (X : Stand p l e R s m args below meth c T locs cells slots) (hx : p.tables.exec = Jvm.exec) (hZ : Z.Warmed39 s.vm) {own : String} {index : Nat} {y : MethodName} {bytes : ByteArray} {maxL : Nat} {rm : Room} {as' : Array Value} {Q : Option Value → Heap → List Loc → Prop}
    (hy1 : y.name = "<init>") (hown : s.vm.findClass own = some m.cls) (w1 : (Jvm.Cond.methodLink own index y).before a0 Z = true) (w2 : (Jvm.Cond.instanceMethod y).before a0 Z = true) (w3 : (Jvm.Cond.initialized y.cls).before a0 Z = true) (w4 : (Jvm.Cond.code y bytes maxL none).before a0 Z = true) (hy : y.cls ≠ "java/lang/invoke/MethodHandle" ∧ y.cls ≠ "java/lang/invoke/VarHandle")
    (hM : OCon l Z y bytes maxL none [] rm as' h Q) (eT : T.heap = h) {W : Nat} (hr : (rm.frames + 1 ≤ R.frames ∧ W + (maxL + 11) + rm.locals ≤ R.locals) ∧ cells + rm.cells ≤ R.cells ∧ slots + rm.slots ≤ R.slots)
    {pc : Nat} {ls : Array Slot} {stk : List Value} (hsize : ls.size = c.maxLocals) {a : Addr} {argsL rest : List Value} (hlen : ∀ sig, parseMethodDescriptor y.desc = some sig → argsL.length = sig.parameters.length) (has : (.ref a :: argsL).toArray = as') (hstack : stk = argsL.reverse ++ .ref a :: rest) (hW : (rest.map fun v => v.category).sum ≤ W)
    (hd : decode c.code pc = .ok (.invokespecial index, 3)) :
    ∃ v T' L, Stand p l e R s m args below meth c T' (locs ++ L) (cells + rm.cells) (slots + rm.slots) ∧ Q v T'.heap L ∧ ∀ target, Steps p.tables e below (T'.setTop (mkF m (pc + 3) ls (v.toList ++ rest))) target → Steps p.tables e below (T.setTop (mkF m pc ls stk)) target := by
  subst has
  obtain ⟨⟨hf, hl⟩, hcl, hsl⟩ := hr
  obtain ⟨v, vm₁, ⟨T', L', k', n'⟩, -, X', ⟨L, hQ, l1, y1, z1⟩, st⟩ := X.specialBack hx (y := y) hy1 hown (mvT hZ w1) (mvT hZ w2) (mvT hZ w4) hy (backOf (W := W) hM hZ w4 w3 hf hl) (g := mkF m pc ls stk) rfl hsize (Steps.refl _) (a := a) (argsL := argsL) (rest := rest) hlen hstack (by simpa using hW) hd (fun _ _ => ⟨rfl, eT, hcl, hsl⟩)
  dsimp only [Pt.U, Pt.locs, Pt.cells, Pt.slots] at X' l1 y1 z1 st hQ
  subst l1 y1 z1
  exact ⟨v, T', L, X', hQ, fun t k => st.trans k⟩
theorem own_callVi (X : Stand p l e R s m args below meth c T locs cells slots) (hx : p.tables.exec = Jvm.exec) (hZ : Z.Warmed39 s.vm) {own C : String} {index : Nat} {y z : MethodName} {bytes : ByteArray} {maxL : Nat} {ret : Option FieldType} {rm : Room} {as' : Array Value} {Q : Option Value → Heap → List Loc → Prop}
    (hown : s.vm.findClass own = some m.cls) (w1 : (Jvm.Cond.methodLink own index y).before a0 Z = true) (w2 : (Jvm.Cond.declares y).before a0 Z = true) (nf : NotFace s y) (w3 : (Jvm.Cond.selects C y z).before a0 Z = true) (w4 : (Jvm.Cond.instanceMethod z).before a0 Z = true) (w5 : (Jvm.Cond.initialized z.cls).before a0 Z = true) (w6 : (Jvm.Cond.code z bytes maxL ret).before a0 Z = true) (hy : y.cls ≠ "java/lang/invoke/MethodHandle" ∧ y.cls ≠ "java/lang/invoke/VarHandle")
    (hM : OCon l Z z bytes maxL ret [] rm as' h Q) (eT : T.heap = h) {W : Nat} (hr : (rm.frames + 1 ≤ R.frames ∧ W + (maxL + 11) + rm.locals ≤ R.locals) ∧ cells + rm.cells ≤ R.cells ∧ slots + rm.slots ≤ R.slots) {a : Addr} (E : Exa Z h a C)
    {pc : Nat} {ls : Array Slot} {stk : List Value} (hsize : ls.size = c.maxLocals) {argsL rest : List Value} (hlen : ∀ sig, parseMethodDescriptor y.desc = some sig → argsL.length = sig.parameters.length) (has : (.ref a :: argsL).toArray = as') (hstack : stk = argsL.reverse ++ .ref a :: rest) (hW : (rest.map fun v => v.category).sum ≤ W)
    (hd : decode c.code pc = .ok (.invokevirtual index, 3)) :
    ∃ v T' L, Stand p l e R s m args below meth c T' (locs ++ L) (cells + rm.cells) (slots + rm.slots) ∧ Q v T'.heap L ∧ ∀ target, Steps p.tables e below (T'.setTop (mkF m (pc + 3) ls (v.toList ++ rest))) target → Steps p.tables e below (T.setTop (mkF m pc ls stk)) target := by
  subst has
  obtain ⟨⟨hf, hl⟩, hcl, hsl⟩ := hr
  obtain ⟨cq, kq, qa, qb, qc⟩ := isOf hZ eT E
  obtain ⟨v, vm₁, ⟨T', L', k', n'⟩, -, X', ⟨L, hQ, l1, y1, z1⟩, st⟩ := X.virtualBack hx (y := y) (z := z) hown (mvT hZ w1) (mvT hZ w2) nf (mvT hZ w3) (mvT hZ w4) hy (backOf (W := W) hM hZ w6 w5 hf hl) qa qc (g := mkF m pc ls stk) rfl hsize (Steps.refl _) (argsL := argsL) (rest := rest) hlen hstack (by simpa using hW) hd (fun _ _ => ⟨rfl, eT, hcl, hsl⟩)
  dsimp only [Pt.U, Pt.locs, Pt.cells, Pt.slots] at X' l1 y1 z1 st hQ
  subst l1 y1 z1
  exact ⟨v, T', L, X', hQ, fun t k => st.trans k⟩
theorem own_lremM {g : JFrame} {target : State} (X : Stand p l e R s m args below meth c T locs cells slots) (hx : p.tables.exec = Jvm.exec) (hg : g.method = m) {x y : Int64} {rest : List Value} (hd : decode c.code g.pc = .ok (.lrem, 1)) (hs : g.stack = .long y :: .long x :: rest) (hy : y ≠ 0)
    (hr : Steps p.tables e below (T.setTop { g with pc := g.pc + 1, stack := .long (x % y) :: rest }) target) : Steps p.tables e below (T.setTop g) target :=
  XT.lrem X.here hx hg hd hs hy (by rw [lrem_mod]; exact hr)
theorem own_nz {x : Int32} (q : x = 0 ∨ x = 1) : narrow .boolean (.int x) = .int x := by rcases q with rfl | rfl <;> rfl
theorem own_fz {x : Int32} (q : x = 0 ∨ x = 1) : fits .boolean (.int x) = true := by rcases q with rfl | rfl <;> rfl
theorem own_irr (x : Int32) : ¬ x < x := fun q => absurd (Int32.lt_iff_toInt_lt.mp q) (Int.lt_irrefl _)
theorem own_irrL (x : Int64) : ¬ x < x := fun q => absurd (Int64.lt_iff_toInt_lt.mp q) (Int.lt_irrefl _)
/-- a small int is one of the first n -/
theorem own_small {n : Nat} (hn : n < 2 ^ 31) (x : Int32) (h0 : ¬ x < 0) (h1 : x.toInt < n) : ∃ k : Fin n, x = Int32.ofInt k.val := by
  have h2 : 0 ≤ x.toInt := by
    rcases Int.lt_or_le x.toInt 0 with q | q
    · exact absurd (Int32.lt_iff_toInt_lt.mpr q) h0
    · exact q
  refine ⟨⟨x.toInt.toNat, by omega⟩, ?_⟩
  rw [Int.toNat_of_nonneg h2, Int32.ofInt_toInt]
end Own
section OwnOG
variable {p : Program} {l : Launch} {e : Env} {R : Room} {s : State} {m : MethodId} {args : Array Value} {below : List Frame} {meth : Method} {c : Code} {T : State} {locs : List Loc} {cells slots : Nat} {Φ : Outcome → State → Prop} {bytes : ByteArray} {pc k : Nat} {ls ls' : Array Slot} {stk : List Value} {x y : Int32} {v : Value} {kf : Fin 4}
theorem gI (X : Stand p l e R s m args below meth c T locs cells slots) (hx : p.tables.exec = Jvm.exec) (hby : c.code = bytes) (hd : decode bytes pc = .ok (.iload k, 2)) (hl : ls[k]? = some (.val (.int x))) (g : OG p e below Φ T m (pc + 2) ls (.int x :: stk)) : OG p e below Φ T m pc ls stk := OGo.st (fun _ z => XS.iload X.here hx rfl (hb hby hd) hl z) g
theorem gIn (X : Stand p l e R s m args below meth c T locs cells slots) (hx : p.tables.exec = Jvm.exec) (hby : c.code = bytes) (hd : decode bytes pc = .ok (.iload_n kf, 1)) (hl : ls[kf.val]? = some (.val (.int x))) (g : OG p e below Φ T m (pc + 1) ls (.int x :: stk)) : OG p e below Φ T m pc ls stk := OGo.st (fun _ z => XS.iloadN X.here hx rfl (hb hby hd) hl z) g
theorem gA (X : Stand p l e R s m args below meth c T locs cells slots) (hx : p.tables.exec = Jvm.exec) (hby : c.code = bytes) (hd : decode bytes pc = .ok (.aload k, 2)) (hl : ls[k]? = some (.val v)) (hv : v.isRef = true) (g : OG p e below Φ T m (pc + 2) ls (v :: stk)) : OG p e below Φ T m pc ls stk := OGo.st (fun _ z => XS.aload X.here hx rfl (hb hby hd) hl hv z) g
theorem gAn (X : Stand p l e R s m args below meth c T locs cells slots) (hx : p.tables.exec = Jvm.exec) (hby : c.code = bytes) (hd : decode bytes pc = .ok (.aload_n kf, 1)) (hl : ls[kf.val]? = some (.val v)) (hv : v.isRef = true) (g : OG p e below Φ T m (pc + 1) ls (v :: stk)) : OG p e below Φ T m pc ls stk := OGo.st (fun _ z => XS.aloadN X.here hx rfl (hb hby hd) hl hv z) g
theorem gIs (X : Stand p l e R s m args below meth c T locs cells slots) (hx : p.tables.exec = Jvm.exec) (hby : c.code = bytes) (hd : decode bytes pc = .ok (.istore k, 2)) (hl : storeLocals ls k (.int x) = some ls') (g : OG p e below Φ T m (pc + 2) ls' stk) : OG p e below Φ T m pc ls (.int x :: stk) := OGo.st (fun _ z => XS.istore X.here hx rfl (hb hby hd) rfl hl z) g
theorem gIsn (X : Stand p l e R s m args below meth c T locs cells slots) (hx : p.tables.exec = Jvm.exec) (hby : c.code = bytes) (hd : decode bytes pc = .ok (.istore_n kf, 1)) (hl : storeLocals ls kf.val (.int x) = some ls') (g : OG p e below Φ T m (pc + 1) ls' stk) : OG p e below Φ T m pc ls (.int x :: stk) := OGo.st (fun _ z => XS.istoreN X.here hx rfl (hb hby hd) rfl hl z) g
theorem gAs (X : Stand p l e R s m args below meth c T locs cells slots) (hx : p.tables.exec = Jvm.exec) (hby : c.code = bytes) (hd : decode bytes pc = .ok (.astore k, 2)) (hv : v.isRef = true) (hl : storeLocals ls k v = some ls') (g : OG p e below Φ T m (pc + 2) ls' stk) : OG p e below Φ T m pc ls (v :: stk) := OGo.st (fun _ z => XS.astore X.here hx rfl (hb hby hd) rfl hv hl z) g
theorem gAsn (X : Stand p l e R s m args below meth c T locs cells slots) (hx : p.tables.exec = Jvm.exec) (hby : c.code = bytes) (hd : decode bytes pc = .ok (.astore_n kf, 1)) (hv : v.isRef = true) (hl : storeLocals ls kf.val v = some ls') (g : OG p e below Φ T m (pc + 1) ls' stk) : OG p e below Φ T m pc ls (v :: stk) := OGo.st (fun _ z => XS.astoreN X.here hx rfl (hb hby hd) rfl hv hl z) g
theorem gGo {o : Int} {pc' : Nat} (X : Stand p l e R s m args below meth c T locs cells slots) (hx : p.tables.exec = Jvm.exec) (hby : c.code = bytes) (hd : decode bytes pc = .ok (.goto o, 3)) (ho : 0 ≤ (pc : Int) + o) (hp : ((pc : Int) + o).toNat = pc') (g : OG p e below Φ T m pc' ls stk) : OG p e below Φ T m pc ls stk := OGo.st (fun _ z => XS.goto X.here hx rfl rfl (hb hby hd) ho hp z) g
theorem gCy {o : Int} {pc' : Nat} {cd : ClassFile.Cond} (X : Stand p l e R s m args below meth c T locs cells slots) (hx : p.tables.exec = Jvm.exec) (hby : c.code = bytes) (hd : decode bytes pc = .ok (.if_icmp cd o, 3)) (hc : if_icmp.holds cd x y = true) (ho : 0 ≤ (pc : Int) + o) (hp : ((pc : Int) + o).toNat = pc') (g : OG p e below Φ T m pc' ls stk) : OG p e below Φ T m pc ls (.int y :: .int x :: stk) := OGo.st (fun _ z => XS.icmpYes X.here hx rfl rfl (hb hby hd) rfl hc ho hp z) g
theorem gCn {o : Int} {cd : ClassFile.Cond} (X : Stand p l e R s m args below meth c T locs cells slots) (hx : p.tables.exec = Jvm.exec) (hby : c.code = bytes) (hd : decode bytes pc = .ok (.if_icmp cd o, 3)) (hc : if_icmp.holds cd x y = false) (g : OG p e below Φ T m (pc + 3) ls stk) : OG p e below Φ T m pc ls (.int y :: .int x :: stk) := OGo.st (fun _ z => XS.icmpNo X.here hx rfl (hb hby hd) rfl hc z) g
theorem gFy {o : Int} {pc' : Nat} {cd : ClassFile.Cond} (X : Stand p l e R s m args below meth c T locs cells slots) (hx : p.tables.exec = Jvm.exec) (hby : c.code = bytes) (hd : decode bytes pc = .ok (.ifCond cd o, 3)) (hc : ifCond.holds cd x = true) (ho : 0 ≤ (pc : Int) + o) (hp : ((pc : Int) + o).toNat = pc') (g : OG p e below Φ T m pc' ls stk) : OG p e below Φ T m pc ls (.int x :: stk) := OGo.st (fun _ z => XS.ifYes X.here hx rfl rfl (hb hby hd) rfl hc ho hp z) g
theorem gFn {o : Int} {cd : ClassFile.Cond} (X : Stand p l e R s m args below meth c T locs cells slots) (hx : p.tables.exec = Jvm.exec) (hby : c.code = bytes) (hd : decode bytes pc = .ok (.ifCond cd o, 3)) (hc : ifCond.holds cd x = false) (g : OG p e below Φ T m (pc + 3) ls stk) : OG p e below Φ T m pc ls (.int x :: stk) := OGo.st (fun _ z => XS.ifNo X.here hx rfl (hb hby hd) rfl hc z) g
theorem gDu (X : Stand p l e R s m args below meth c T locs cells slots) (hx : p.tables.exec = Jvm.exec) (hby : c.code = bytes) (hd : decode bytes pc = .ok (.dup, 1)) (hc : v.category = 1) (g : OG p e below Φ T m (pc + 1) ls (v :: v :: stk)) : OG p e below Φ T m pc ls (v :: stk) := OGo.st (fun _ z => XS.dup X.here hx rfl (hb hby hd) rfl hc z) g
theorem gIc {i : Int} (X : Stand p l e R s m args below meth c T locs cells slots) (hx : p.tables.exec = Jvm.exec) (hby : c.code = bytes) (hd : decode bytes pc = .ok (.iconst i, 1)) (hv : Int32.ofInt i = x) (g : OG p e below Φ T m (pc + 1) ls (.int x :: stk)) : OG p e below Φ T m pc ls stk := by
  subst hv; exact OGo.st (fun _ z => XS.iconst X.here hx rfl (hb hby hd) z) g
/-- (x != 0) as 0 or 1 -/
theorem gBo (X : Stand p l e R s m args below meth c T locs cells slots) (hx : p.tables.exec = Jvm.exec) (hby : c.code = bytes) (d1 : decode bytes pc = .ok (.ifCond .eq 7, 3)) (d2 : decode bytes (pc + 3) = .ok (.iconst 1, 1)) (d3 : decode bytes (pc + 4) = .ok (.goto 4, 3)) (d4 : decode bytes (pc + 7) = .ok (.iconst 0, 1)) (g : OG p e below Φ T m (pc + 8) ls (.int (if x = 0 then 0 else 1) :: stk)) : OG p e below Φ T m pc ls (.int x :: stk) := by
  by_cases q : x = 0
  · rw [if_pos q] at g
    exact gFy (pc' := pc + 7) X hx hby d1 (XT.i0_eq_t q) (by omega) (by omega) (gIc (x := 0) X hx hby d4 rfl g)
  · rw [if_neg q] at g
    exact gFn X hx hby d1 (XT.i0_eq_f q) (gIc (x := 1) X hx hby d2 rfl (gGo (pc' := pc + 8) X hx hby d3 (by omega) (by omega) g))
end OwnOG
section OwnSta
variable {args : Array Value} {Z : State} {a : Addr} {t : Jvm.Term}
theorem own_eqV {u : Jvm.Term} {v : Value} (hu : u.eval args Z none [] Z = some v) (hv : (match v with | .retAddr _ => false | _ => true) = true) (q : (Jvm.Cond.eq t u).value args Z none Z [] = some true) : t.eval args Z none [] Z = some v := by
  obtain ⟨x, y, ex, ey, k1, k2⟩ := cmp_v (Or.inl q)
  cases hu.symm.trans ey
  rw [ex]
  cases x <;> cases v <;> simp_all [Jvm.Cond.value, Kin, Value.isRef]
theorem own_fldI {C n d : String} {k : Int32} (ev : t.eval args Z none [] Z = some (.ref a)) (q : (Jvm.Cond.eq (Jvm.Term.field t C n d) (Jvm.Term.int k)).value args Z none Z [] = some true) : Fld Z Z.heap a C n d (.int k) :=
  Fld.start ((fld_at ev).symm.trans (own_eqV (Term.int_eval k) rfl q))
theorem own_lenI {k : Int32} {cl : Cell} {ty : FieldType} (ev : t.eval args Z none [] Z = some (.ref a)) (A : Arr Z Z.heap a cl ty) (q : (Jvm.Cond.eq (Jvm.Term.length t) (Jvm.Term.int k)).value args Z none Z [] = some true) : cl.slots.size < 2 ^ 31 ∧ cl.slots.size.toInt32 = k := by
  have h := own_eqV (Term.int_eval k) rfl q
  obtain ⟨b, cell, ht, harr, hl⟩ := Term.length_spec h
  cases ev.symm.trans ht
  have ha : Z.arrayAt? a = some cl := Arr.fin (Vm.Alike.refl _) A
  cases ha.symm.trans harr
  by_cases hs : cl.slots.size < 2 ^ 31
  · exact ⟨hs, (Value.int.inj (Option.some.inj ((len_f ev ha hs).symm.trans h)))⟩
  · exfalso
    rw [Jvm.Term.eval, ev] at h
    simp [ha] at h
    omega
theorem own_elem {j : Int32} {n : Nat} {u : Jvm.Term} {v : Value} {cl : Cell} {ty : FieldType} (ev : t.eval args Z none [] Z = some (.ref a)) (A : Arr Z Z.heap a cl ty) (hu : u.eval args Z none [] Z = some v) (hv : (match v with | .retAddr _ => false | _ => true) = true) (hj : j.toNatClampNeg = n) (q : (Jvm.Cond.eq (Jvm.Term.elem t (Jvm.Term.int j)) u).value args Z none Z [] = some true) : cl.slots[n]? = some v :=
  hj ▸ (elem_in (own_eqV hu hv q) ev (Term.int_eval j) A.1).2
end OwnSta
section OwnBox
theorem own_bxin {i : Int32} {n : Nat} (h1 : ¬ i < -128) (h2 : ¬ 127 < i) (S : n = (256 : Int32).toNatClampNeg) : ¬ ((i + 128) < 0 ∨ n ≤ (i + 128).toNatClampNeg) := by
  have a1 : (-128 : Int32).toInt = -128 := by decide
  have a2 : (127 : Int32).toInt = 127 := by decide
  have a3 : (128 : Int32).toInt = 128 := by decide
  have a0 : (0 : Int32).toInt = 0 := by decide
  have e : (i + 128).toInt = i.toInt + 128 := by
    rw [XT.add32, a3]
    have := rng32 i
    rw [Int32.lt_iff_toInt_lt, a2] at h2
    simp only [XT.fits32, a3]; omega
  rw [Int32.lt_iff_toInt_lt, a1] at h1
  rw [Int32.lt_iff_toInt_lt, a2] at h2
  have hS : (256 : Int32).toNatClampNeg = 256 := by decide
  rw [Int32.lt_iff_toInt_lt, a0, S, hS]
  simp only [Int32.toNatClampNeg, e]
  omega
theorem own_subI {args : Array Value} {Z : State} {idx : List Nat} {t : Jvm.Term} {y : Int32} (h : t.eval args Z none idx Z = some (.int y)) : (Jvm.Term.sub t (Jvm.Term.int (128 : Int32))).eval args Z none idx Z = some (.int (y - 128)) := by simp [Jvm.Term.eval, h]
end OwnBox
theorem own_dupX2 {tb : Tables} [Ours tb] {e : Env} {below : List Frame} {T target : State} {m : MethodId} {c : Code} {g : JFrame} (h : At T m c below) (hx : tb.exec = Jvm.exec) (hg : g.method = m) {x y z : Value} {rest : List Value} (hd : decode c.code g.pc = .ok (.dup_x2, 1)) (hs : g.stack = x :: y :: z :: rest) (hc : x.category = 1) (hc' : y.category = 1) (hc2 : z.category = 1)
    (hr : Steps tb e below (T.setTop { g with pc := g.pc + 1, stack := x :: y :: z :: x :: rest }) target) : Steps tb e below (T.setTop g) target := by
  subst hg
  jvm_step h [h.top, hx, hd, hs, hc, hc', hc2]
  exact hr
/-- a local that holds nothing, or one word -/
abbrev own_s1 (o : Slot) : Prop := o = o_ ∨ ∃ w, o = .val w ∧ w.category = 1
section OwnVec
variable {Z : State} {h h' : Heap} {a b x : Addr} {ty : FieldType} {xs ys : List Int32} {j v n : Int32} {ws : List Addr} {sl cap : Nat} {u : Value} {xss : List (List Int32)} {bs : List Addr} {α β : Type} {t : α}
/-- the place j is one of the first n -/
def InB (n : Nat) (j : Int32) : Prop := ¬ j < 0 ∧ j.toNatClampNeg < n
instance {n : Nat} {j : Int32} : Decidable (InB n j) := inferInstanceAs (Decidable (_ ∧ _))
def lenR : List α → Nat
  | [] => 0
  | _ :: r => Nat.succ (lenR r)
def getR : List α → Nat → α → α
  | [], _, d => d
  | x :: _, 0, _ => x
  | _ :: r, n + 1, d => getR r n d
def setR : List α → Nat → α → List α
  | [], _, _ => []
  | _ :: r, 0, v => v :: r
  | x :: r, n + 1, v => x :: setR r n v
theorem lenR_eq (xs : List α) : lenR xs = xs.length := by induction xs with | nil => rfl | cons x r ih => exact congrArg Nat.succ ih
theorem getR_eq (xs : List α) (n : Nat) (d : α) : getR xs n d = xs.getD n d := by
  induction xs generalizing n with
  | nil => rfl
  | cons x r ih => cases n with
    | zero => rfl
    | succ m => exact (ih m).trans (by simp)
theorem setR_eq (xs : List α) (n : Nat) (v : α) : setR xs n v = xs.set n v := by
  induction xs generalizing n with
  | nil => rfl
  | cons x r ih => cases n with
    | zero => rfl
    | succ m => exact congrArg (x :: ·) (ih m)
def own_gt (xs : List Int32) (j : Int32) : Int32 := getR xs j.toNatClampNeg 0
def own_n (xs : List α) : Int32 := (lenR xs).toInt32
theorem own_n_eq (xs : List α) : own_n xs = xs.length.toInt32 := by rw [own_n, lenR_eq]
def kld (xs : List Int32) (j : Int32) (k : Int32 → Option α) : Option α := if InB (lenR xs) j then k (own_gt xs j) else none
def kst (xs : List Int32) (j v : Int32) (k : List Int32 → Option α) : Option α := if InB (lenR xs) j then k (setR xs j.toNatClampNeg v) else none
def kll (xss : List (List Int32)) (j : Int32) (k : List Int32 → Option α) : Option α := if InB (lenR xss) j then k (getR xss j.toNatClampNeg []) else none
def kgd (n : Int32) (cap : Nat) (r : Option α) : Option α := if ¬ n < 0 ∧ n.toNatClampNeg ≤ cap then r else none
def kas (c : Prop) [Decidable c] (r : Option α) : Option α := if c then r else none
def kbd (o : Option β) (k : β → Option α) : Option α := match o with | some x => k x | none => none
theorem kld_some {k : Int32 → Option α} (q : kld xs j k = some t) : ∃ v, InB xs.length j ∧ own_gt xs j = v ∧ k v = some t := by
  unfold kld at q; rw [lenR_eq] at q; split at q
  · next i => exact ⟨_, i, rfl, q⟩
  · cases q
theorem kst_some {k : List Int32 → Option α} (q : kst xs j v k = some t) : ∃ ys, InB xs.length j ∧ xs.set j.toNatClampNeg v = ys ∧ k ys = some t := by
  unfold kst at q; rw [lenR_eq, setR_eq] at q; split at q
  · next i => exact ⟨_, i, rfl, q⟩
  · cases q
theorem kll_some {k : List Int32 → Option α} (q : kll xss j k = some t) : ∃ ys, InB xss.length j ∧ xss.getD j.toNatClampNeg [] = ys ∧ k ys = some t := by
  unfold kll at q; rw [lenR_eq, getR_eq] at q; split at q
  · next i => exact ⟨_, i, rfl, q⟩
  · cases q
theorem kgd_some {r : Option α} (q : kgd n cap r = some t) : ¬ n < 0 ∧ n.toNatClampNeg ≤ cap ∧ r = some t := by
  unfold kgd at q; split at q
  · next i => exact ⟨i.1, i.2, q⟩
  · cases q
theorem kas_some {c : Prop} [Decidable c] {r : Option α} (q : kas c r = some t) : c ∧ r = some t := by
  unfold kas at q; split at q
  · next i => exact ⟨i, q⟩
  · cases q
theorem kbd_some {o : Option β} {k : β → Option α} (q : kbd o k = some t) : ∃ y, o = some y ∧ k y = some t := by
  cases o with
  | none => cases q
  | some y => exact ⟨y, rfl, q⟩
theorem kif_t {c : Prop} [Decidable c] {y z : Option α} (hc : c) (q : (if c then y else z) = some t) : y = some t := by rwa [if_pos hc] at q
theorem kif_f {c : Prop} [Decidable c] {y z : Option α} (hc : ¬ c) (q : (if c then y else z) = some t) : z = some t := by rwa [if_neg hc] at q
theorem knone (q : (none : Option α) = some t) : False := by cases q
/-- an array of small values: what it holds -/
def PA (Z : State) (h : Heap) (a : Addr) (ty : FieldType) (xs : List Int32) : Prop := ∃ (k : ClassId) (n : Int32), Arv Z h a k ty n (xs.map Value.int) (.int 0) ∧ n.toNatClampNeg = xs.length
theorem PA.lt (F : PA Z h a ty xs) : a < h.size := by obtain ⟨k, n, A, -⟩ := F; exact A.lt
theorem PA.ext (F : PA Z h a ty xs) (E : Ext h h') : PA Z h' a ty xs := by obtain ⟨k, n, A, r⟩ := F; exact ⟨k, n, A.ext E, r⟩
theorem PA.other (F : PA Z h a ty xs) (W : Wr h h' b sl u) (q : a ≠ b) : PA Z h' a ty xs := by obtain ⟨k, n, A, r⟩ := F; exact ⟨k, n, A.other W q, r⟩
theorem PA.keep (F : PA Z h a ty xs) (K : Keep h h' ws) (q : a ∉ ws) : PA Z h' a ty xs := by obtain ⟨k, n, A, r⟩ := F; exact ⟨k, n, A.keep K q, r⟩
theorem own_mapD (xs : List Int32) (i : Nat) : (xs.map Value.int).getD i (.int 0) = .int (xs.getD i 0) := by
  simp only [List.getD_eq_getElem?_getD, List.getElem?_map]; cases xs[i]? <;> rfl
theorem PA.get (F : PA Z h a ty xs) (i : InB xs.length j) (e : own_gt xs j = v) : ∃ c : Cell, Arr Z h a c ty ∧ ¬ (j < 0 ∨ c.slots.size ≤ j.toNatClampNeg) ∧ c.slots[j.toNatClampNeg]? = some (.int v) := by
  obtain ⟨k, n, ⟨c, A, q1, S, q3, H, G⟩, hn⟩ := F
  have hin : ¬ (j < 0 ∨ c.slots.size ≤ j.toNatClampNeg) := by
    rw [S, hn]; rintro (q | q)
    · exact i.1 q
    · exact absurd i.2 (by omega)
  exact ⟨c, A, hin, H.at hin (by rw [own_mapD, ← e, own_gt, getR_eq])⟩
theorem PA.nn (F : PA Z h a ty xs) : ∃ k, Arv Z h a k ty (own_n xs) (xs.map Value.int) (.int 0) ∧ (own_n xs).toNatClampNeg = xs.length := by
  obtain ⟨k, n, ⟨c, A, q1, S, q3, H, G⟩, hn⟩ := F
  have e : own_n xs = n := by rw [own_n_eq, ← hn]; exact (back32 q3).1
  rw [e]; exact ⟨k, ⟨c, A, q1, S, q3, H, G⟩, hn⟩
theorem PA.len (F : PA Z h a ty xs) : ∃ c : Cell, Arr Z h a c ty ∧ c.slots.size = (own_n xs).toNatClampNeg ∧ ¬ own_n xs < 0 := by
  obtain ⟨k, ⟨c, A, q1, S, q3, H, G⟩, hn⟩ := F.nn
  exact ⟨c, A, S, q3⟩
theorem PA.set (F : PA Z h a ty xs) (i : InB xs.length j) (W : Wr h h' a j.toNatClampNeg (.int v)) (hf : fits ty (.int v) = true) (e : xs.set j.toNatClampNeg v = ys) : PA Z h' a ty ys := by
  obtain ⟨k, n, ⟨c, A, q1, S, q3, H, G⟩, hn⟩ := F
  subst e
  refine ⟨k, n, ?_, by simpa using hn⟩
  rw [List.map_set]
  exact Arv.set A q1 S q3 H G hf W _ rfl (by simpa using i.2)
theorem PA.new {k : ClassId} {m : Nat} (A : Arr Z h a (newA k ty n) ty) (q : ¬ n < 0) (hd : defaultValue ty = .int 0) (hm : n.toNatClampNeg = m) : PA Z h a ty (List.replicate m 0) := by
  subst hm
  have F := Arv.new A q
  rw [hd] at F
  have F2 := F.pad (pad_rep [] _ n.toNatClampNeg)
  exact ⟨k, n, by rw [List.map_replicate]; exact F2, by simp⟩
theorem PA.arh (F : PA Z h a ty xs) : ∃ k, Arh Z h a k ty (own_n xs) [] (xs.map Value.int) (.int 0) ∧ (own_n xs).toNatClampNeg = xs.length := by
  obtain ⟨k, ⟨c, A, q1, S, q3, H, G⟩, hn⟩ := F.nn
  exact ⟨k, ⟨c, A, q1, S, q3, fun i hi => H i hi, fun i hi => G i hi⟩, hn⟩
theorem PA.ofArh {k : ClassId} (F : Arh Z h a k ty n [] (xs.map Value.int) (.int 0)) (hn : n.toNatClampNeg = xs.length) : PA Z h a ty xs := by
  obtain ⟨c, A, q1, S, q3, H, G⟩ := F
  exact ⟨k, n, ⟨c, A, q1, S, q3, fun i hi => H i hi, fun i hi => G i hi⟩, hn⟩
/-- an array of int arrays: where they lie, what they hold -/
def AA (Z : State) (h : Heap) (a : Addr) (bs : List Addr) (xss : List (List Int32)) : Prop := ∃ c : Cell, Arr Z h a c (.array .int) ∧ c.slots.size = xss.length ∧ bs.length = xss.length ∧ (∀ i, i < bs.length → c.slots[i]? = some (.ref (bs.getD i 0))) ∧ bs.Nodup ∧ a ∉ bs ∧ ∀ i, i < bs.length → PA Z h (bs.getD i 0) .int (xss.getD i [])
theorem own_getD_mem {bs : List Addr} {i : Nat} (hi : i < bs.length) : bs.getD i 0 ∈ bs := by
  rw [List.getD_eq_getElem?_getD, List.getElem?_eq_getElem hi]; exact List.getElem_mem hi
theorem AA.lt (F : AA Z h a bs xss) : a < h.size := by obtain ⟨c, A, -⟩ := F; exact A.lt
theorem AA.freshle (F : AA Z h a bs xss) (hz : h.size ≤ b) : b ≠ a ∧ b ∉ bs := by
  obtain ⟨c, A, S, L, H, N, na, P⟩ := F
  refine ⟨fun q => absurd A.lt (by rw [← q]; exact Nat.not_lt.mpr hz), fun q => ?_⟩
  obtain ⟨i, hi, e⟩ := List.mem_iff_getElem.mp q
  have l := (P i hi).lt
  rw [List.getD_eq_getElem?_getD, List.getElem?_eq_getElem hi] at l
  simp only [Option.getD_some] at l
  rw [e] at l
  exact absurd l (Nat.not_lt.mpr hz)
theorem own_nbx (m : b ∈ bs) (q : x ≠ a ∧ x ∉ bs) : b ≠ x := fun e => q.2 (e ▸ m)
theorem AA.ext (F : AA Z h a bs xss) (E : Ext h h') : AA Z h' a bs xss := by
  obtain ⟨c, A, S, L, H, N, na, P⟩ := F
  exact ⟨c, A.ext E, S, L, H, N, na, fun i hi => (P i hi).ext E⟩
theorem AA.other (F : AA Z h a bs xss) (W : Wr h h' x sl u) (q : x ≠ a ∧ x ∉ bs) : AA Z h' a bs xss := by
  obtain ⟨c, A, S, L, H, N, na, P⟩ := F
  exact ⟨c, A.other W (Ne.symm q.1), S, L, H, N, na, fun i hi => (P i hi).other W (fun e => q.2 (e ▸ own_getD_mem hi))⟩
theorem AA.keep (F : AA Z h a bs xss) (K : Keep h h' ws) (q : ∀ x ∈ ws, x ≠ a ∧ x ∉ bs) : AA Z h' a bs xss := by
  obtain ⟨c, A, S, L, H, N, na, P⟩ := F
  exact ⟨c, ⟨K.2.1 a c A.1 (fun m => (q a m).1 rfl), A.2⟩, S, L, H, N, na, fun i hi => (P i hi).keep K (fun m => (q _ m).2 (own_getD_mem hi))⟩
theorem AA.at (F : AA Z h a bs xss) (i : InB xss.length j) (hb : b = bs.getD j.toNatClampNeg 0) : ∃ c : Cell, Arr Z h a c (.array .int) ∧ ¬ (j < 0 ∨ c.slots.size ≤ j.toNatClampNeg) ∧ c.slots[j.toNatClampNeg]? = some (.ref b) := by
  obtain ⟨c, A, S, L, H, N, na, P⟩ := F
  refine ⟨c, A, ?_, by rw [hb]; exact H _ (by rw [L]; exact i.2)⟩
  rw [S]; rintro (q | q)
  · exact i.1 q
  · exact absurd i.2 (by omega)
theorem AA.row (F : AA Z h a bs xss) (i : InB xss.length j) (hb : b = bs.getD j.toNatClampNeg 0) (e : xss.getD j.toNatClampNeg [] = xs) : PA Z h b .int xs := by
  obtain ⟨c, A, S, L, H, N, na, P⟩ := F
  subst hb; subst e; exact P _ (by rw [L]; exact i.2)
theorem AA.mem (F : AA Z h a bs xss) (i : InB xss.length j) (hb : b = bs.getD j.toNatClampNeg 0) : b ∈ bs ∧ b ≠ a := by
  obtain ⟨c, A, S, L, H, N, na, P⟩ := F
  subst hb
  have m := own_getD_mem (bs := bs) (i := j.toNatClampNeg) (by rw [L]; exact i.2)
  exact ⟨m, fun q => na (q ▸ m)⟩
theorem AA.set (F : AA Z h a bs xss) (i : InB xss.length j) (hb : b = bs.getD j.toNatClampNeg 0) (W : Wr h h' b sl u) (P' : PA Z h' b .int ys) : AA Z h' a bs (setR xss j.toNatClampNeg ys) := by
  rw [setR_eq]
  obtain ⟨m, nba⟩ := F.mem i hb
  obtain ⟨c, A, S, L, H, N, na, P⟩ := F
  refine ⟨c, A.other W (Ne.symm nba), by simpa using S, by simpa using L, H, N, na, fun k hk => ?_⟩
  by_cases q : j.toNatClampNeg = k
  · subst q
    have e : (xss.set j.toNatClampNeg ys).getD j.toNatClampNeg [] = ys := by rw [List.getD_eq_getElem?_getD, List.getElem?_set_self (by rw [← L]; exact hk)]; rfl
    rw [e, ← hb]; exact P'
  · have e : (xss.set j.toNatClampNeg ys).getD k [] = xss.getD k [] := by rw [List.getD_eq_getElem?_getD, List.getElem?_set_ne q, ← List.getD_eq_getElem?_getD]
    rw [e]
    refine (P k hk).other W (fun z => q ?_)
    rw [hb] at z
    have hj : j.toNatClampNeg < bs.length := by rw [L]; exact i.2
    rw [List.getD_eq_getElem?_getD, List.getElem?_eq_getElem hk, List.getD_eq_getElem?_getD, List.getElem?_eq_getElem hj] at z
    exact ((List.getElem_inj N).mp z).symm
theorem own_nn (F : PA Z h a ty xs) : ¬ own_n xs < 0 ∧ (own_n xs).toNatClampNeg = xs.length := by
  obtain ⟨k, ⟨c, A, q1, S, q3, H, G⟩, hn⟩ := F.nn; exact ⟨q3, hn⟩
theorem PA.newV {k : ClassId} (A : Arr Z h a (newA k .int n) .int) (q : ¬ n < 0) : Arv Z h a k .int n ((List.replicate n.toNatClampNeg (0 : Int32)).map Value.int) (.int 0) := by
  have F2 := (Arv.new A q).pad (pad_rep [] _ n.toNatClampNeg)
  rw [List.map_replicate]; exact F2
theorem own_low {n : Nat} (sz : n ≤ a) (hbs : ∀ x ∈ bs, n ≤ x) : ∀ x, x < n → x ≠ a ∧ x ∉ bs := fun x hx => ⟨by omega, fun m => absurd (hbs x m) (by omega)⟩
theorem own_sne {S : Addr → Prop} (s : S a) (n : ¬ S b) : a ≠ b := fun e => n (e ▸ s)
end OwnVec
section OwnPriv
variable {p : Program} {l : Launch} {e : Env} {R : Room} {s : State} {m : MethodId} {args : Array Value} {below : List Frame} {meth : Method} {c : Code} {T : State} {locs : List Loc} {cells slots : Nat} {Z : State} {a0 : Array Value} {h : Heap} {Φ : Outcome → State → Prop}
/-- invokevirtual of a private method -/
theorem own_callPr (X : Stand p l e R s m args below meth c T locs cells slots) (hx : p.tables.exec = Jvm.exec) (hZ : Z.Warmed39 s.vm) {own C : String} {index : Nat} {y : MethodName} {bytes : ByteArray} {maxL : Nat} {ret : Option FieldType} {rm : Room} {as' : Array Value} {Q : Option Value → Heap → List Loc → Prop}
    (hown : s.vm.findClass own = some m.cls) (w1 : (Jvm.Cond.methodLink own index y).before a0 Z = true) (w2 : (Jvm.Cond.instanceMethod y).before a0 Z = true) (w3 : (Jvm.Cond.selects y.cls y y).before a0 Z = true) (w4 : (Jvm.Cond.privateMethod y).before a0 Z = true) (w5 : (Jvm.Cond.initialized y.cls).before a0 Z = true) (w6 : (Jvm.Cond.code y bytes maxL ret).before a0 Z = true) (hy : y.cls ≠ "java/lang/invoke/MethodHandle" ∧ y.cls ≠ "java/lang/invoke/VarHandle")
    (hM : OCon l Z y bytes maxL ret [] rm as' h Q) (eT : T.heap = h) {W : Nat} (hr : (rm.frames + 1 ≤ R.frames ∧ W + (maxL + 11) + rm.locals ≤ R.locals) ∧ cells + rm.cells ≤ R.cells ∧ slots + rm.slots ≤ R.slots) {a : Addr} (E : Exa Z h a C)
    {pc : Nat} {ls : Array Slot} {stk : List Value} (hsize : ls.size = c.maxLocals) {argsL rest : List Value} (hlen : ∀ sig, parseMethodDescriptor y.desc = some sig → argsL.length = sig.parameters.length) (has : (.ref a :: argsL).toArray = as') (hstack : stk = argsL.reverse ++ .ref a :: rest) (hW : (rest.map fun v => v.category).sum ≤ W)
    (hd : decode c.code pc = .ok (.invokevirtual index, 3)) :
    ∃ v T' L, Stand p l e R s m args below meth c T' (locs ++ L) (cells + rm.cells) (slots + rm.slots) ∧ Q v T'.heap L ∧ ∀ target, Steps p.tables e below (T'.setTop (mkF m (pc + 3) ls (v.toList ++ rest))) target → Steps p.tables e below (T.setTop (mkF m pc ls stk)) target := by
  subst has
  obtain ⟨⟨hf, hl⟩, hcl, hsl⟩ := hr
  obtain ⟨cq, q1, q2⟩ := E.cell
  obtain ⟨v, vm₁, ⟨T', L', k', n'⟩, -, X', ⟨L, hQ, l1, y1, z1⟩, st⟩ := X.privateBack hx (y := y) hown (mvT hZ w1) (mvT hZ w2) (mvT hZ w3) (Cond.privateMethod_at (mvP hZ w4 (args := #[]))) (mvT hZ w6) hy (backOf (W := W) hM hZ w6 w5 hf hl) (g := mkF m pc ls stk) rfl hsize (Steps.refl _) (a := a) (by rw [eT]; exact q1) q2 (argsL := argsL) (rest := rest) hlen hstack (by simpa using hW) hd (fun _ _ => ⟨rfl, eT, hcl, hsl⟩)
  dsimp only [Pt.U, Pt.locs, Pt.cells, Pt.slots] at X' l1 y1 z1 st hQ
  subst l1 y1 z1
  exact ⟨v, T', L, X', hQ, fun t k => st.trans k⟩
/-- invokeinterface -/
theorem own_callIf (X : Stand p l e R s m args below meth c T locs cells slots) (hx : p.tables.exec = Jvm.exec) (hZ : Z.Warmed39 s.vm) {own C : String} {index count : Nat} {xi y : MethodName} {bytes : ByteArray} {maxL : Nat} {ret : Option FieldType} {rm : Room} {as' : Array Value} {Q : Option Value → Heap → List Loc → Prop}
    (hown : s.vm.findClass own = some m.cls) (w1 : (Jvm.Cond.methodLink own index xi).before a0 Z = true) (w2 : (Jvm.Cond.declares xi).before a0 Z = true) (w3 : (Jvm.Cond.interfaceMethod xi.cls xi.cls xi.name xi.desc).before args s = true) (w4 : (Jvm.Cond.selects C xi y).before a0 Z = true) (w5 : (Jvm.Cond.instanceMethod y).before a0 Z = true) (w6 : (Jvm.Cond.publicMethod y).before a0 Z = true) (w7 : (Jvm.Cond.unhidden C xi.name xi.desc).before a0 Z = true) (w8 : (Jvm.Cond.castable C xi.cls).before a0 Z = true) (w9 : (Jvm.Cond.initialized y.cls).before a0 Z = true) (w10 : (Jvm.Cond.code y bytes maxL ret).before a0 Z = true) (hy : xi.cls ≠ "java/lang/invoke/MethodHandle" ∧ xi.cls ≠ "java/lang/invoke/VarHandle")
    (hM : OCon l Z y bytes maxL ret [] rm as' h Q) (eT : T.heap = h) {W : Nat} (hr : (rm.frames + 1 ≤ R.frames ∧ W + (maxL + 11) + rm.locals ≤ R.locals) ∧ cells + rm.cells ≤ R.cells ∧ slots + rm.slots ≤ R.slots) {a : Addr} (E : Exa Z h a C)
    {pc : Nat} {ls : Array Slot} {stk : List Value} (hsize : ls.size = c.maxLocals) {argsL rest : List Value} (hlen : ∀ sig, parseMethodDescriptor xi.desc = some sig → argsL.length = sig.parameters.length) (has : (.ref a :: argsL).toArray = as') (hstack : stk = argsL.reverse ++ .ref a :: rest) (hW : (rest.map fun v => v.category).sum ≤ W)
    (hd : decode c.code pc = .ok (.invokeinterface index count, 5)) :
    ∃ v T' L, Stand p l e R s m args below meth c T' (locs ++ L) (cells + rm.cells) (slots + rm.slots) ∧ Q v T'.heap L ∧ ∀ target, Steps p.tables e below (T'.setTop (mkF m (pc + 5) ls (v.toList ++ rest))) target → Steps p.tables e below (T.setTop (mkF m pc ls stk)) target := by
  subst has
  obtain ⟨⟨hf, hl⟩, hcl, hsl⟩ := hr
  obtain ⟨cq, kq, qa, qb, qc⟩ := isOf hZ eT E
  obtain ⟨v, vm₁, ⟨T', L', k', n'⟩, -, X', ⟨L, hQ, l1, y1, z1⟩, st⟩ := X.interfaceBack hx (xi := xi) (y := y) hown (mvT hZ w1) (mvT hZ w2) w3 (mvT hZ w4) (mvT hZ w5) (mvT hZ w6) (mvT hZ w7) (mvT hZ w8) hy (backOf (W := W) hM hZ w10 w9 hf hl) qa qb qc (g := mkF m pc ls stk) rfl hsize (Steps.refl _) (argsL := argsL) (rest := rest) hlen hstack (by simpa using hW) hd (fun _ _ => ⟨rfl, eT, hcl, hsl⟩)
  dsimp only [Pt.U, Pt.locs, Pt.cells, Pt.slots] at X' l1 y1 z1 st hQ
  subst l1 y1 z1
  exact ⟨v, T', L, X', hQ, fun t k => st.trans k⟩
end OwnPriv
abbrev OHW (Z : State) (a0 : Array Value) : Prop := ∀ d ∈ tables_1, d.before a0 Z = true
abbrev OB (Z : State) (a0 : Array Value) (d : Jvm.Cond) : Prop := d.before a0 Z = true
theorem ot {d : Jvm.Cond} (i : Nat) (h : tables_1[i]? = some d) : d ∈ tables_1 := List.mem_of_getElem? (i := i) h
section OwnW_
variable {Z : State} {a0 : Array Value}
theorem ow0 (hw : OHW Z a0) : OB Z a0 (.constant s0_ 7 (2147483647 : Int32)) := hw _ (ot 0 rfl)
theorem ow1 (hw : OHW Z a0) : OB Z a0 (.classLink s0_ 8 s9_) := hw _ (ot 1 rfl)
theorem ow2 (hw : OHW Z a0) : OB Z a0 (.instantiable s9_ 3) := hw _ (ot 2 rfl)
theorem ow3 (hw : OHW Z a0) : OB Z a0 (.initialized s9_) := hw _ (ot 3 rfl)
theorem ow4 (hw : OHW Z a0) : OB Z a0 (.methodLink s0_ 10 ⟨s9_, "<init>", "()V"⟩) := hw _ (ot 4 rfl)
theorem ow5 (hw : OHW Z a0) : OB Z a0 (.instanceMethod ⟨s9_, "<init>", "()V"⟩) := hw _ (ot 5 rfl)
theorem ow6 (hw : OHW Z a0) : OB Z a0 (.code ⟨s9_, "<init>", "()V"⟩ c20_ 1 (Option.none : Option Jvm.ClassFile.FieldType)) := hw _ (ot 6 rfl)
theorem ow7 (hw : OHW Z a0) : OB Z a0 (.methodLink s9_ 1 ⟨s7_, "<init>", "()V"⟩) := hw _ (ot 7 rfl)
theorem ow8 (hw : OHW Z a0) : OB Z a0 (.instanceMethod ⟨s7_, "<init>", "()V"⟩) := hw _ (ot 8 rfl)
theorem ow11 (hw : OHW Z a0) : OB Z a0 (.initialized s7_) := hw _ (ot 11 rfl)
theorem ow12 (hw : OHW Z a0) : OB Z a0 (.code ⟨s7_, "<init>", "()V"⟩ c25_ 1 (Option.none : Option Jvm.ClassFile.FieldType)) := hw _ (ot 12 rfl)
theorem ow13 (hw : OHW Z a0) : OB Z a0 (.methodLink s7_ 1 ⟨"java/util/AbstractCollection", "<init>", "()V"⟩) := hw _ (ot 13 rfl)
theorem ow14 (hw : OHW Z a0) : OB Z a0 (.instanceMethod ⟨"java/util/AbstractCollection", "<init>", "()V"⟩) := hw _ (ot 14 rfl)
theorem ow17 (hw : OHW Z a0) : OB Z a0 (.initialized "java/util/AbstractCollection") := hw _ (ot 17 rfl)
theorem ow18 (hw : OHW Z a0) : OB Z a0 (.code ⟨"java/util/AbstractCollection", "<init>", "()V"⟩ c9_ 1 (Option.none : Option Jvm.ClassFile.FieldType)) := hw _ (ot 18 rfl)
theorem ow19 (hw : OHW Z a0) : OB Z a0 (.methodLink "java/util/AbstractCollection" 1 ⟨"java/lang/Object", "<init>", "()V"⟩) := hw _ (ot 19 rfl)
theorem ow20 (hw : OHW Z a0) : OB Z a0 (.instanceMethod ⟨"java/lang/Object", "<init>", "()V"⟩) := hw _ (ot 20 rfl)
theorem ow21 (hw : OHW Z a0) : OB Z a0 (.code ⟨"java/lang/Object", "<init>", "()V"⟩ object_method_1_code 1 (Option.none : Option Jvm.ClassFile.FieldType)) := hw _ (ot 21 rfl)
theorem ow22 (hw : OHW Z a0) : OB Z a0 (.fieldLink s7_ 7 s7_ "modCount" "I") := hw _ (ot 22 rfl)
theorem ow23 (hw : OHW Z a0) : OB Z a0 (.lays s9_ s7_ "modCount" "I") := hw _ (ot 23 rfl)
theorem ow24 (hw : OHW Z a0) : OB Z a0 (.fieldLink s9_ 39 s9_ "DEFAULTCAPACITY_EMPTY_ELEMENTDATA" "[Ljava/lang/Object;") := hw _ (ot 24 rfl)
theorem ow25 (hw : OHW Z a0) : OB Z a0 (.fieldLink s9_ 9 s9_ "elementData" "[Ljava/lang/Object;") := hw _ (ot 25 rfl)
theorem ow26 (hw : OHW Z a0) : OB Z a0 (.lays s9_ s9_ "elementData" "[Ljava/lang/Object;") := hw _ (ot 26 rfl)
theorem ow27 (hw : OHW Z a0) : OB Z a0 (.methodLink s0_ 11 ⟨s9_, "add", "(Ljava/lang/Object;)Z"⟩) := hw _ (ot 27 rfl)
theorem ow28 (hw : OHW Z a0) : OB Z a0 (.declares ⟨s9_, "add", "(Ljava/lang/Object;)Z"⟩) := hw _ (ot 28 rfl)
theorem ow29 (hw : OHW Z a0) : OB Z a0 (.instanceMethod ⟨s9_, "add", "(Ljava/lang/Object;)Z"⟩) := hw _ (ot 29 rfl)
theorem ow30 (hw : OHW Z a0) : OB Z a0 (.selects s9_ ⟨s9_, "add", "(Ljava/lang/Object;)Z"⟩ ⟨s9_, "add", "(Ljava/lang/Object;)Z"⟩) := hw _ (ot 30 rfl)
theorem ow31 (hw : OHW Z a0) : OB Z a0 (.code ⟨s9_, "add", "(Ljava/lang/Object;)Z"⟩ c19_ 2 (Option.some .boolean)) := hw _ (ot 31 rfl)
theorem ow32 (hw : OHW Z a0) : OB Z a0 (.fieldLink s9_ 63 s9_ "modCount" "I") := hw _ (ot 32 rfl)
theorem ow33 (hw : OHW Z a0) : OB Z a0 (.sameField s9_ s7_ "modCount" "I") := hw _ (ot 33 rfl)
theorem ow34 (hw : OHW Z a0) : OB Z a0 (.fieldLink s9_ 48 s9_ "size" "I") := hw _ (ot 34 rfl)
theorem ow35 (hw : OHW Z a0) : OB Z a0 (.lays s9_ s9_ "size" "I") := hw _ (ot 35 rfl)
theorem ow36 (hw : OHW Z a0) : OB Z a0 (.methodLink s9_ 131 ⟨s9_, "add", "(Ljava/lang/Object;[Ljava/lang/Object;I)V"⟩) := hw _ (ot 36 rfl)
theorem ow37 (hw : OHW Z a0) : OB Z a0 (.instanceMethod ⟨s9_, "add", "(Ljava/lang/Object;[Ljava/lang/Object;I)V"⟩) := hw _ (ot 37 rfl)
theorem ow38 (hw : OHW Z a0) : OB Z a0 (.privateMethod ⟨s9_, "add", "(Ljava/lang/Object;[Ljava/lang/Object;I)V"⟩) := hw _ (ot 38 rfl)
theorem ow39 (hw : OHW Z a0) : OB Z a0 (.selects s9_ ⟨s9_, "add", "(Ljava/lang/Object;[Ljava/lang/Object;I)V"⟩ ⟨s9_, "add", "(Ljava/lang/Object;[Ljava/lang/Object;I)V"⟩) := hw _ (ot 39 rfl)
theorem ow40 (hw : OHW Z a0) : OB Z a0 (.code ⟨s9_, "add", "(Ljava/lang/Object;[Ljava/lang/Object;I)V"⟩ c18_ 4 (Option.none : Option Jvm.ClassFile.FieldType)) := hw _ (ot 40 rfl)
theorem ow41 (hw : OHW Z a0) : OB Z a0 (.methodLink s9_ 129 ⟨s9_, "grow", "()[Ljava/lang/Object;"⟩) := hw _ (ot 41 rfl)
theorem ow42 (hw : OHW Z a0) : OB Z a0 (.instanceMethod ⟨s9_, "grow", "()[Ljava/lang/Object;"⟩) := hw _ (ot 42 rfl)
theorem ow43 (hw : OHW Z a0) : OB Z a0 (.privateMethod ⟨s9_, "grow", "()[Ljava/lang/Object;"⟩) := hw _ (ot 43 rfl)
theorem ow44 (hw : OHW Z a0) : OB Z a0 (.selects s9_ ⟨s9_, "grow", "()[Ljava/lang/Object;"⟩ ⟨s9_, "grow", "()[Ljava/lang/Object;"⟩) := hw _ (ot 44 rfl)
theorem ow45 (hw : OHW Z a0) : OB Z a0 (.code ⟨s9_, "grow", "()[Ljava/lang/Object;"⟩ c23_ 1 (Option.some (.array (.object "java/lang/Object")))) := hw _ (ot 45 rfl)
theorem ow46 (hw : OHW Z a0) : OB Z a0 (.methodLink s9_ 69 ⟨s9_, "grow", "(I)[Ljava/lang/Object;"⟩) := hw _ (ot 46 rfl)
theorem ow47 (hw : OHW Z a0) : OB Z a0 (.instanceMethod ⟨s9_, "grow", "(I)[Ljava/lang/Object;"⟩) := hw _ (ot 47 rfl)
theorem ow48 (hw : OHW Z a0) : OB Z a0 (.privateMethod ⟨s9_, "grow", "(I)[Ljava/lang/Object;"⟩) := hw _ (ot 48 rfl)
theorem ow49 (hw : OHW Z a0) : OB Z a0 (.selects s9_ ⟨s9_, "grow", "(I)[Ljava/lang/Object;"⟩ ⟨s9_, "grow", "(I)[Ljava/lang/Object;"⟩) := hw _ (ot 49 rfl)
theorem ow50 (hw : OHW Z a0) : OB Z a0 (.code ⟨s9_, "grow", "(I)[Ljava/lang/Object;"⟩ c22_ 4 (Option.some (.array (.object "java/lang/Object")))) := hw _ (ot 50 rfl)
theorem ow51 (hw : OHW Z a0) : OB Z a0 (.methodLink s9_ 79 ⟨"java/lang/Math", "max", "(II)I"⟩) := hw _ (ot 51 rfl)
theorem ow52 (hw : OHW Z a0) : OB Z a0 (.static ⟨"java/lang/Math", "max", "(II)I"⟩) := hw _ (ot 52 rfl)
theorem ow53 (hw : OHW Z a0) : OB Z a0 (.initialized "java/lang/Math") := hw _ (ot 53 rfl)
theorem ow54 (hw : OHW Z a0) : OB Z a0 (.code ⟨"java/lang/Math", "max", "(II)I"⟩ c10_ 2 (Option.some .int)) := hw _ (ot 54 rfl)
theorem ow55 (hw : OHW Z a0) : OB Z a0 (.classLink s9_ 7 "java/lang/Object") := hw _ (ot 55 rfl)
theorem ow56 (hw : OHW Z a0) : OB Z a0 (.arrayOver (.object "java/lang/Object")) := hw _ (ot 56 rfl)
theorem ow57 (hw : OHW Z a0) : OB Z a0 (.methodLink s0_ 15 ⟨s0_, "pipe", "(IIZZ)Lcom/example/hydromeme/hydromeme/Network$Pipe;"⟩) := hw _ (ot 57 rfl)
theorem ow58 (hw : OHW Z a0) : OB Z a0 (.static ⟨s0_, "pipe", "(IIZZ)Lcom/example/hydromeme/hydromeme/Network$Pipe;"⟩) := hw _ (ot 58 rfl)
theorem ow59 (hw : OHW Z a0) : OB Z a0 (.initialized s0_) := hw _ (ot 59 rfl)
theorem ow60 (hw : OHW Z a0) : OB Z a0 (.code ⟨s0_, "pipe", "(IIZZ)Lcom/example/hydromeme/hydromeme/Network$Pipe;"⟩ method_3_code 4 (Option.some (.object s1_))) := hw _ (ot 60 rfl)
theorem ow61 (hw : OHW Z a0) : OB Z a0 (.classLink s0_ 39 s1_) := hw _ (ot 61 rfl)
theorem ow62 (hw : OHW Z a0) : OB Z a0 (.instantiable s1_ 7) := hw _ (ot 62 rfl)
theorem ow63 (hw : OHW Z a0) : OB Z a0 (.initialized s1_) := hw _ (ot 63 rfl)
theorem ow64 (hw : OHW Z a0) : OB Z a0 (.methodLink s0_ 41 ⟨s1_, "<init>", "(Ljava/lang/String;IIDDDZ)V"⟩) := hw _ (ot 64 rfl)
theorem ow65 (hw : OHW Z a0) : OB Z a0 (.instanceMethod ⟨s1_, "<init>", "(Ljava/lang/String;IIDDDZ)V"⟩) := hw _ (ot 65 rfl)
theorem ow66 (hw : OHW Z a0) : OB Z a0 (.code ⟨s1_, "<init>", "(Ljava/lang/String;IIDDDZ)V"⟩ c38_ 11 (Option.none : Option Jvm.ClassFile.FieldType)) := hw _ (ot 66 rfl)
theorem ow67 (hw : OHW Z a0) : OB Z a0 (.methodLink s1_ 1 ⟨"java/lang/Record", "<init>", "()V"⟩) := hw _ (ot 67 rfl)
theorem ow68 (hw : OHW Z a0) : OB Z a0 (.instanceMethod ⟨"java/lang/Record", "<init>", "()V"⟩) := hw _ (ot 68 rfl)
theorem ow70 (hw : OHW Z a0) : OB Z a0 (.initialized "java/lang/Record") := hw _ (ot 70 rfl)
theorem ow71 (hw : OHW Z a0) : OB Z a0 (.code ⟨"java/lang/Record", "<init>", "()V"⟩ c12_ 1 (Option.none : Option Jvm.ClassFile.FieldType)) := hw _ (ot 71 rfl)
theorem ow72 (hw : OHW Z a0) : OB Z a0 (.methodLink "java/lang/Record" 1 ⟨"java/lang/Object", "<init>", "()V"⟩) := hw _ (ot 72 rfl)
theorem ow73 (hw : OHW Z a0) : OB Z a0 (.fieldLink s1_ 7 s1_ "id" "Ljava/lang/String;") := hw _ (ot 73 rfl)
theorem ow74 (hw : OHW Z a0) : OB Z a0 (.laysFinal s1_ s1_ "id" "Ljava/lang/String;") := hw _ (ot 74 rfl)
theorem ow75 (hw : OHW Z a0) : OB Z a0 (.fieldLink s1_ 13 s1_ "from" "I") := hw _ (ot 75 rfl)
theorem ow76 (hw : OHW Z a0) : OB Z a0 (.laysFinal s1_ s1_ "from" "I") := hw _ (ot 76 rfl)
theorem ow77 (hw : OHW Z a0) : OB Z a0 (.fieldLink s1_ 17 s1_ "to" "I") := hw _ (ot 77 rfl)
theorem ow78 (hw : OHW Z a0) : OB Z a0 (.laysFinal s1_ s1_ "to" "I") := hw _ (ot 78 rfl)
theorem ow79 (hw : OHW Z a0) : OB Z a0 (.fieldLink s1_ 20 s1_ "length" "D") := hw _ (ot 79 rfl)
theorem ow80 (hw : OHW Z a0) : OB Z a0 (.laysFinal s1_ s1_ "length" "D") := hw _ (ot 80 rfl)
theorem ow81 (hw : OHW Z a0) : OB Z a0 (.fieldLink s1_ 24 s1_ "diameter" "D") := hw _ (ot 81 rfl)
theorem ow82 (hw : OHW Z a0) : OB Z a0 (.laysFinal s1_ s1_ "diameter" "D") := hw _ (ot 82 rfl)
theorem ow83 (hw : OHW Z a0) : OB Z a0 (.fieldLink s1_ 27 s1_ "roughness" "D") := hw _ (ot 83 rfl)
theorem ow84 (hw : OHW Z a0) : OB Z a0 (.laysFinal s1_ s1_ "roughness" "D") := hw _ (ot 84 rfl)
theorem ow85 (hw : OHW Z a0) : OB Z a0 (.fieldLink s1_ 30 s1_ "open" "Z") := hw _ (ot 85 rfl)
theorem ow86 (hw : OHW Z a0) : OB Z a0 (.laysFinal s1_ s1_ "open" "Z") := hw _ (ot 86 rfl)
theorem ow87 (hw : OHW Z a0) : OB Z a0 (.methodLink s0_ 21 ⟨s0_, "arm", "(Ljava/util/ArrayList;IIIZZZ)V"⟩) := hw _ (ot 87 rfl)
theorem ow88 (hw : OHW Z a0) : OB Z a0 (.static ⟨s0_, "arm", "(Ljava/util/ArrayList;IIIZZZ)V"⟩) := hw _ (ot 88 rfl)
theorem ow89 (hw : OHW Z a0) : OB Z a0 (.code ⟨s0_, "arm", "(Ljava/util/ArrayList;IIIZZZ)V"⟩ method_4_code 7 (Option.none : Option Jvm.ClassFile.FieldType)) := hw _ (ot 89 rfl)
theorem ow90 (hw : OHW Z a0) : OB Z a0 (.castable s1_ "java/lang/Object") := hw _ (ot 90 rfl)
theorem ow91 (hw : OHW Z a0) : OB Z a0 (.classLink s0_ 25 s4_) := hw _ (ot 91 rfl)
theorem ow92 (hw : OHW Z a0) : OB Z a0 (.instantiable s4_ 10) := hw _ (ot 92 rfl)
theorem ow93 (hw : OHW Z a0) : OB Z a0 (.initialized s4_) := hw _ (ot 93 rfl)
theorem ow94 (hw : OHW Z a0) : OB Z a0 (.classLink s0_ 27 s5_) := hw _ (ot 94 rfl)
theorem ow95 (hw : OHW Z a0) : OB Z a0 (.instantiable s5_ 6) := hw _ (ot 95 rfl)
theorem ow96 (hw : OHW Z a0) : OB Z a0 (.initialized s5_) := hw _ (ot 96 rfl)
theorem ow97 (hw : OHW Z a0) : OB Z a0 (.methodLink s0_ 29 ⟨s5_, "<init>", "(Ljava/util/List;Ljava/util/List;Ljava/util/List;Lcom/example/hydromeme/hydromeme/FlowUnits;Lcom/example/hydromeme/hydromeme/HeadLoss;D)V"⟩) := hw _ (ot 97 rfl)
theorem ow98 (hw : OHW Z a0) : OB Z a0 (.instanceMethod ⟨s5_, "<init>", "(Ljava/util/List;Ljava/util/List;Ljava/util/List;Lcom/example/hydromeme/hydromeme/FlowUnits;Lcom/example/hydromeme/hydromeme/HeadLoss;D)V"⟩) := hw _ (ot 98 rfl)
theorem ow99 (hw : OHW Z a0) : OB Z a0 (.code ⟨s5_, "<init>", "(Ljava/util/List;Ljava/util/List;Ljava/util/List;Lcom/example/hydromeme/hydromeme/FlowUnits;Lcom/example/hydromeme/hydromeme/HeadLoss;D)V"⟩ c33_ 8 (Option.none : Option Jvm.ClassFile.FieldType)) := hw _ (ot 99 rfl)
theorem ow100 (hw : OHW Z a0) : OB Z a0 (.methodLink s5_ 1 ⟨"java/lang/Record", "<init>", "()V"⟩) := hw _ (ot 100 rfl)
theorem ow101 (hw : OHW Z a0) : OB Z a0 (.fieldLink s5_ 7 s5_ "junctions" "Ljava/util/List;") := hw _ (ot 101 rfl)
theorem ow102 (hw : OHW Z a0) : OB Z a0 (.laysFinal s5_ s5_ "junctions" "Ljava/util/List;") := hw _ (ot 102 rfl)
theorem ow103 (hw : OHW Z a0) : OB Z a0 (.fieldLink s5_ 13 s5_ "reservoirs" "Ljava/util/List;") := hw _ (ot 103 rfl)
theorem ow104 (hw : OHW Z a0) : OB Z a0 (.laysFinal s5_ s5_ "reservoirs" "Ljava/util/List;") := hw _ (ot 104 rfl)
theorem ow105 (hw : OHW Z a0) : OB Z a0 (.fieldLink s5_ 16 s5_ "pipes" "Ljava/util/List;") := hw _ (ot 105 rfl)
theorem ow106 (hw : OHW Z a0) : OB Z a0 (.laysFinal s5_ s5_ "pipes" "Ljava/util/List;") := hw _ (ot 106 rfl)
theorem ow107 (hw : OHW Z a0) : OB Z a0 (.fieldLink s5_ 19 s5_ "flowUnits" "Lcom/example/hydromeme/hydromeme/FlowUnits;") := hw _ (ot 107 rfl)
theorem ow108 (hw : OHW Z a0) : OB Z a0 (.laysFinal s5_ s5_ "flowUnits" "Lcom/example/hydromeme/hydromeme/FlowUnits;") := hw _ (ot 108 rfl)
theorem ow109 (hw : OHW Z a0) : OB Z a0 (.fieldLink s5_ 23 s5_ "headLoss" "Lcom/example/hydromeme/hydromeme/HeadLoss;") := hw _ (ot 109 rfl)
theorem ow110 (hw : OHW Z a0) : OB Z a0 (.laysFinal s5_ s5_ "headLoss" "Lcom/example/hydromeme/hydromeme/HeadLoss;") := hw _ (ot 110 rfl)
theorem ow111 (hw : OHW Z a0) : OB Z a0 (.fieldLink s5_ 27 s5_ "viscosity" "D") := hw _ (ot 111 rfl)
theorem ow112 (hw : OHW Z a0) : OB Z a0 (.laysFinal s5_ s5_ "viscosity" "D") := hw _ (ot 112 rfl)
theorem ow113 (hw : OHW Z a0) : OB Z a0 (.methodLink s0_ 32 ⟨s4_, "<init>", "(Lcom/example/hydromeme/hydromeme/Network;)V"⟩) := hw _ (ot 113 rfl)
theorem ow114 (hw : OHW Z a0) : OB Z a0 (.instanceMethod ⟨s4_, "<init>", "(Lcom/example/hydromeme/hydromeme/Network;)V"⟩) := hw _ (ot 114 rfl)
theorem ow115 (hw : OHW Z a0) : OB Z a0 (.code ⟨s4_, "<init>", "(Lcom/example/hydromeme/hydromeme/Network;)V"⟩ c44_ 28 (Option.none : Option Jvm.ClassFile.FieldType)) := hw _ (ot 115 rfl)
theorem ow116 (hw : OHW Z a0) : OB Z a0 (.methodLink s4_ 1 ⟨"java/lang/Object", "<init>", "()V"⟩) := hw _ (ot 116 rfl)
theorem ow117 (hw : OHW Z a0) : OB Z a0 (.methodLink s4_ 7 ⟨s5_, "junctions", "()Ljava/util/List;"⟩) := hw _ (ot 117 rfl)
theorem ow118 (hw : OHW Z a0) : OB Z a0 (.declares ⟨s5_, "junctions", "()Ljava/util/List;"⟩) := hw _ (ot 118 rfl)
theorem ow119 (hw : OHW Z a0) : OB Z a0 (.instanceMethod ⟨s5_, "junctions", "()Ljava/util/List;"⟩) := hw _ (ot 119 rfl)
theorem ow120 (hw : OHW Z a0) : OB Z a0 (.selects s5_ ⟨s5_, "junctions", "()Ljava/util/List;"⟩ ⟨s5_, "junctions", "()Ljava/util/List;"⟩) := hw _ (ot 120 rfl)
theorem ow121 (hw : OHW Z a0) : OB Z a0 (.code ⟨s5_, "junctions", "()Ljava/util/List;"⟩ c34_ 1 (Option.some (.object s11_))) := hw _ (ot 121 rfl)
theorem ow122 (hw : OHW Z a0) : OB Z a0 (.methodLink s4_ 13 ⟨s11_, "size", "()I"⟩) := hw _ (ot 122 rfl)
theorem ow123 (hw : OHW Z a0) : OB Z a0 (.declares ⟨s11_, "size", "()I"⟩) := hw _ (ot 123 rfl)
theorem ow124 (hw : OHW Z a0) : OB Z a0 (.interfaceMethod s11_ s11_ "size" "()I") := hw _ (ot 124 rfl)
theorem ow125 (hw : OHW Z a0) : OB Z a0 (.selects s9_ ⟨s11_, "size", "()I"⟩ ⟨s9_, "size", "()I"⟩) := hw _ (ot 125 rfl)
theorem ow126 (hw : OHW Z a0) : OB Z a0 (.instanceMethod ⟨s9_, "size", "()I"⟩) := hw _ (ot 126 rfl)
theorem ow127 (hw : OHW Z a0) : OB Z a0 (.publicMethod ⟨s9_, "size", "()I"⟩) := hw _ (ot 127 rfl)
theorem ow128 (hw : OHW Z a0) : OB Z a0 (.unhidden s9_ "size" "()I") := hw _ (ot 128 rfl)
theorem ow129 (hw : OHW Z a0) : OB Z a0 (.castable s9_ s11_) := hw _ (ot 129 rfl)
theorem ow130 (hw : OHW Z a0) : OB Z a0 (.code ⟨s9_, "size", "()I"⟩ c24_ 1 (Option.some .int)) := hw _ (ot 130 rfl)
theorem ow131 (hw : OHW Z a0) : OB Z a0 (.methodLink s4_ 19 ⟨s5_, "reservoirs", "()Ljava/util/List;"⟩) := hw _ (ot 131 rfl)
theorem ow132 (hw : OHW Z a0) : OB Z a0 (.declares ⟨s5_, "reservoirs", "()Ljava/util/List;"⟩) := hw _ (ot 132 rfl)
theorem ow133 (hw : OHW Z a0) : OB Z a0 (.instanceMethod ⟨s5_, "reservoirs", "()Ljava/util/List;"⟩) := hw _ (ot 133 rfl)
theorem ow134 (hw : OHW Z a0) : OB Z a0 (.selects s5_ ⟨s5_, "reservoirs", "()Ljava/util/List;"⟩ ⟨s5_, "reservoirs", "()Ljava/util/List;"⟩) := hw _ (ot 134 rfl)
theorem ow135 (hw : OHW Z a0) : OB Z a0 (.code ⟨s5_, "reservoirs", "()Ljava/util/List;"⟩ c35_ 1 (Option.some (.object s11_))) := hw _ (ot 135 rfl)
theorem ow136 (hw : OHW Z a0) : OB Z a0 (.methodLink s4_ 22 ⟨s4_, "incidence", "(Lcom/example/hydromeme/hydromeme/Network;I)[[I"⟩) := hw _ (ot 136 rfl)
theorem ow137 (hw : OHW Z a0) : OB Z a0 (.static ⟨s4_, "incidence", "(Lcom/example/hydromeme/hydromeme/Network;I)[[I"⟩) := hw _ (ot 137 rfl)
theorem ow138 (hw : OHW Z a0) : OB Z a0 (.code ⟨s4_, "incidence", "(Lcom/example/hydromeme/hydromeme/Network;I)[[I"⟩ c41_ 6 (Option.some (.array (.array .int)))) := hw _ (ot 138 rfl)
theorem ow139 (hw : OHW Z a0) : OB Z a0 (.arrayClass .int) := hw _ (ot 139 rfl)
theorem ow140 (hw : OHW Z a0) : OB Z a0 (.methodLink s4_ 28 ⟨s5_, "pipes", "()Ljava/util/List;"⟩) := hw _ (ot 140 rfl)
theorem ow141 (hw : OHW Z a0) : OB Z a0 (.declares ⟨s5_, "pipes", "()Ljava/util/List;"⟩) := hw _ (ot 141 rfl)
theorem ow142 (hw : OHW Z a0) : OB Z a0 (.instanceMethod ⟨s5_, "pipes", "()Ljava/util/List;"⟩) := hw _ (ot 142 rfl)
theorem ow143 (hw : OHW Z a0) : OB Z a0 (.selects s5_ ⟨s5_, "pipes", "()Ljava/util/List;"⟩ ⟨s5_, "pipes", "()Ljava/util/List;"⟩) := hw _ (ot 143 rfl)
theorem ow144 (hw : OHW Z a0) : OB Z a0 (.code ⟨s5_, "pipes", "()Ljava/util/List;"⟩ c36_ 1 (Option.some (.object s11_))) := hw _ (ot 144 rfl)
theorem ow145 (hw : OHW Z a0) : OB Z a0 (.methodLink s4_ 110 ⟨s11_, "iterator", "()Ljava/util/Iterator;"⟩) := hw _ (ot 145 rfl)
theorem ow146 (hw : OHW Z a0) : OB Z a0 (.declares ⟨s11_, "iterator", "()Ljava/util/Iterator;"⟩) := hw _ (ot 146 rfl)
theorem ow147 (hw : OHW Z a0) : OB Z a0 (.interfaceMethod s11_ s11_ "iterator" "()Ljava/util/Iterator;") := hw _ (ot 147 rfl)
theorem ow148 (hw : OHW Z a0) : OB Z a0 (.selects s9_ ⟨s11_, "iterator", "()Ljava/util/Iterator;"⟩ ⟨s9_, "iterator", "()Ljava/util/Iterator;"⟩) := hw _ (ot 148 rfl)
theorem ow149 (hw : OHW Z a0) : OB Z a0 (.instanceMethod ⟨s9_, "iterator", "()Ljava/util/Iterator;"⟩) := hw _ (ot 149 rfl)
theorem ow150 (hw : OHW Z a0) : OB Z a0 (.publicMethod ⟨s9_, "iterator", "()Ljava/util/Iterator;"⟩) := hw _ (ot 150 rfl)
theorem ow151 (hw : OHW Z a0) : OB Z a0 (.unhidden s9_ "iterator" "()Ljava/util/Iterator;") := hw _ (ot 151 rfl)
theorem ow152 (hw : OHW Z a0) : OB Z a0 (.code ⟨s9_, "iterator", "()Ljava/util/Iterator;"⟩ c21_ 1 (Option.some (.object s10_))) := hw _ (ot 152 rfl)
theorem ow153 (hw : OHW Z a0) : OB Z a0 (.classLink s9_ 267 s6_) := hw _ (ot 153 rfl)
theorem ow154 (hw : OHW Z a0) : OB Z a0 (.instantiable s6_ 4) := hw _ (ot 154 rfl)
theorem ow155 (hw : OHW Z a0) : OB Z a0 (.initialized s6_) := hw _ (ot 155 rfl)
theorem ow156 (hw : OHW Z a0) : OB Z a0 (.methodLink s9_ 269 ⟨s6_, "<init>", "(Ljava/util/ArrayList;)V"⟩) := hw _ (ot 156 rfl)
theorem ow157 (hw : OHW Z a0) : OB Z a0 (.instanceMethod ⟨s6_, "<init>", "(Ljava/util/ArrayList;)V"⟩) := hw _ (ot 157 rfl)
theorem ow159 (hw : OHW Z a0) : OB Z a0 (.code ⟨s6_, "<init>", "(Ljava/util/ArrayList;)V"⟩ c27_ 2 (Option.none : Option Jvm.ClassFile.FieldType)) := hw _ (ot 159 rfl)
theorem ow160 (hw : OHW Z a0) : OB Z a0 (.fieldLink s6_ 1 s6_ "this$0" "Ljava/util/ArrayList;") := hw _ (ot 160 rfl)
theorem ow161 (hw : OHW Z a0) : OB Z a0 (.laysFinal s6_ s6_ "this$0" "Ljava/util/ArrayList;") := hw _ (ot 161 rfl)
theorem ow162 (hw : OHW Z a0) : OB Z a0 (.methodLink s6_ 7 ⟨"java/lang/Object", "<init>", "()V"⟩) := hw _ (ot 162 rfl)
theorem ow163 (hw : OHW Z a0) : OB Z a0 (.fieldLink s6_ 13 s6_ "lastRet" "I") := hw _ (ot 163 rfl)
theorem ow164 (hw : OHW Z a0) : OB Z a0 (.lays s6_ s6_ "lastRet" "I") := hw _ (ot 164 rfl)
theorem ow165 (hw : OHW Z a0) : OB Z a0 (.fieldLink s6_ 17 s9_ "modCount" "I") := hw _ (ot 165 rfl)
theorem ow166 (hw : OHW Z a0) : OB Z a0 (.fieldLink s6_ 22 s6_ "expectedModCount" "I") := hw _ (ot 166 rfl)
theorem ow167 (hw : OHW Z a0) : OB Z a0 (.lays s6_ s6_ "expectedModCount" "I") := hw _ (ot 167 rfl)
theorem ow168 (hw : OHW Z a0) : OB Z a0 (.methodLink s4_ 114 ⟨s10_, "hasNext", "()Z"⟩) := hw _ (ot 168 rfl)
theorem ow169 (hw : OHW Z a0) : OB Z a0 (.declares ⟨s10_, "hasNext", "()Z"⟩) := hw _ (ot 169 rfl)
theorem ow170 (hw : OHW Z a0) : OB Z a0 (.interfaceMethod s10_ s10_ "hasNext" "()Z") := hw _ (ot 170 rfl)
theorem ow171 (hw : OHW Z a0) : OB Z a0 (.selects s6_ ⟨s10_, "hasNext", "()Z"⟩ ⟨s6_, "hasNext", "()Z"⟩) := hw _ (ot 171 rfl)
theorem ow172 (hw : OHW Z a0) : OB Z a0 (.instanceMethod ⟨s6_, "hasNext", "()Z"⟩) := hw _ (ot 172 rfl)
theorem ow173 (hw : OHW Z a0) : OB Z a0 (.publicMethod ⟨s6_, "hasNext", "()Z"⟩) := hw _ (ot 173 rfl)
theorem ow174 (hw : OHW Z a0) : OB Z a0 (.unhidden s6_ "hasNext" "()Z") := hw _ (ot 174 rfl)
theorem ow175 (hw : OHW Z a0) : OB Z a0 (.castable s6_ s10_) := hw _ (ot 175 rfl)
theorem ow176 (hw : OHW Z a0) : OB Z a0 (.code ⟨s6_, "hasNext", "()Z"⟩ c28_ 1 (Option.some .boolean)) := hw _ (ot 176 rfl)
theorem ow177 (hw : OHW Z a0) : OB Z a0 (.fieldLink s6_ 25 s6_ "cursor" "I") := hw _ (ot 177 rfl)
theorem ow178 (hw : OHW Z a0) : OB Z a0 (.lays s6_ s6_ "cursor" "I") := hw _ (ot 178 rfl)
theorem ow179 (hw : OHW Z a0) : OB Z a0 (.fieldLinkNest s6_ 28 s9_ "size" "I" s9_) := hw _ (ot 179 rfl)
theorem ow180 (hw : OHW Z a0) : OB Z a0 (.methodLink s4_ 119 ⟨s10_, "next", "()Ljava/lang/Object;"⟩) := hw _ (ot 180 rfl)
theorem ow181 (hw : OHW Z a0) : OB Z a0 (.declares ⟨s10_, "next", "()Ljava/lang/Object;"⟩) := hw _ (ot 181 rfl)
theorem ow182 (hw : OHW Z a0) : OB Z a0 (.interfaceMethod s10_ s10_ "next" "()Ljava/lang/Object;") := hw _ (ot 182 rfl)
theorem ow183 (hw : OHW Z a0) : OB Z a0 (.selects s6_ ⟨s10_, "next", "()Ljava/lang/Object;"⟩ ⟨s6_, "next", "()Ljava/lang/Object;"⟩) := hw _ (ot 183 rfl)
theorem ow184 (hw : OHW Z a0) : OB Z a0 (.instanceMethod ⟨s6_, "next", "()Ljava/lang/Object;"⟩) := hw _ (ot 184 rfl)
theorem ow185 (hw : OHW Z a0) : OB Z a0 (.publicMethod ⟨s6_, "next", "()Ljava/lang/Object;"⟩) := hw _ (ot 185 rfl)
theorem ow186 (hw : OHW Z a0) : OB Z a0 (.unhidden s6_ "next" "()Ljava/lang/Object;") := hw _ (ot 186 rfl)
theorem ow187 (hw : OHW Z a0) : OB Z a0 (.code ⟨s6_, "next", "()Ljava/lang/Object;"⟩ c29_ 3 (Option.some (.object "java/lang/Object"))) := hw _ (ot 187 rfl)
theorem ow188 (hw : OHW Z a0) : OB Z a0 (.methodLink s6_ 31 ⟨s6_, "checkForComodification", "()V"⟩) := hw _ (ot 188 rfl)
theorem ow189 (hw : OHW Z a0) : OB Z a0 (.declares ⟨s6_, "checkForComodification", "()V"⟩) := hw _ (ot 189 rfl)
theorem ow190 (hw : OHW Z a0) : OB Z a0 (.instanceMethod ⟨s6_, "checkForComodification", "()V"⟩) := hw _ (ot 190 rfl)
theorem ow191 (hw : OHW Z a0) : OB Z a0 (.selects s6_ ⟨s6_, "checkForComodification", "()V"⟩ ⟨s6_, "checkForComodification", "()V"⟩) := hw _ (ot 191 rfl)
theorem ow192 (hw : OHW Z a0) : OB Z a0 (.code ⟨s6_, "checkForComodification", "()V"⟩ c30_ 1 (Option.none : Option Jvm.ClassFile.FieldType)) := hw _ (ot 192 rfl)
theorem ow193 (hw : OHW Z a0) : OB Z a0 (.fieldLink s6_ 37 s9_ "elementData" "[Ljava/lang/Object;") := hw _ (ot 193 rfl)
theorem ow194 (hw : OHW Z a0) : OB Z a0 (.classLink s4_ 122 s1_) := hw _ (ot 194 rfl)
theorem ow196 (hw : OHW Z a0) : OB Z a0 (.methodLink s4_ 124 ⟨s1_, "open", "()Z"⟩) := hw _ (ot 196 rfl)
theorem ow197 (hw : OHW Z a0) : OB Z a0 (.declares ⟨s1_, "open", "()Z"⟩) := hw _ (ot 197 rfl)
theorem ow198 (hw : OHW Z a0) : OB Z a0 (.instanceMethod ⟨s1_, "open", "()Z"⟩) := hw _ (ot 198 rfl)
theorem ow199 (hw : OHW Z a0) : OB Z a0 (.selects s1_ ⟨s1_, "open", "()Z"⟩ ⟨s1_, "open", "()Z"⟩) := hw _ (ot 199 rfl)
theorem ow200 (hw : OHW Z a0) : OB Z a0 (.code ⟨s1_, "open", "()Z"⟩ c37_ 1 (Option.some .boolean)) := hw _ (ot 200 rfl)
theorem ow201 (hw : OHW Z a0) : OB Z a0 (.methodLink s4_ 127 ⟨s1_, "from", "()I"⟩) := hw _ (ot 201 rfl)
theorem ow202 (hw : OHW Z a0) : OB Z a0 (.declares ⟨s1_, "from", "()I"⟩) := hw _ (ot 202 rfl)
theorem ow203 (hw : OHW Z a0) : OB Z a0 (.instanceMethod ⟨s1_, "from", "()I"⟩) := hw _ (ot 203 rfl)
theorem ow204 (hw : OHW Z a0) : OB Z a0 (.selects s1_ ⟨s1_, "from", "()I"⟩ ⟨s1_, "from", "()I"⟩) := hw _ (ot 204 rfl)
theorem ow205 (hw : OHW Z a0) : OB Z a0 (.code ⟨s1_, "from", "()I"⟩ c39_ 1 (Option.some .int)) := hw _ (ot 205 rfl)
theorem ow206 (hw : OHW Z a0) : OB Z a0 (.methodLink s4_ 130 ⟨s1_, "to", "()I"⟩) := hw _ (ot 206 rfl)
theorem ow207 (hw : OHW Z a0) : OB Z a0 (.declares ⟨s1_, "to", "()I"⟩) := hw _ (ot 207 rfl)
theorem ow208 (hw : OHW Z a0) : OB Z a0 (.instanceMethod ⟨s1_, "to", "()I"⟩) := hw _ (ot 208 rfl)
theorem ow209 (hw : OHW Z a0) : OB Z a0 (.selects s1_ ⟨s1_, "to", "()I"⟩ ⟨s1_, "to", "()I"⟩) := hw _ (ot 209 rfl)
theorem ow210 (hw : OHW Z a0) : OB Z a0 (.code ⟨s1_, "to", "()I"⟩ c40_ 1 (Option.some .int)) := hw _ (ot 210 rfl)
theorem ow211 (hw : OHW Z a0) : OB Z a0 (.classLink s4_ 146 "[I") := hw _ (ot 211 rfl)
theorem ow212 (hw : OHW Z a0) : OB Z a0 (.arrayOver (.array .int)) := hw _ (ot 212 rfl)
theorem ow214 (hw : OHW Z a0) : OB Z a0 (.methodLink s4_ 82 ⟨"java/util/Arrays", "fill", "([II)V"⟩) := hw _ (ot 214 rfl)
theorem ow215 (hw : OHW Z a0) : OB Z a0 (.static ⟨"java/util/Arrays", "fill", "([II)V"⟩) := hw _ (ot 215 rfl)
theorem ow216 (hw : OHW Z a0) : OB Z a0 (.initialized "java/util/Arrays") := hw _ (ot 216 rfl)
theorem ow217 (hw : OHW Z a0) : OB Z a0 (.code ⟨"java/util/Arrays", "fill", "([II)V"⟩ c31_ 4 (Option.none : Option Jvm.ClassFile.FieldType)) := hw _ (ot 217 rfl)
theorem ow218 (hw : OHW Z a0) : OB Z a0 (.methodLink s4_ 147 ⟨s11_, "get", "(I)Ljava/lang/Object;"⟩) := hw _ (ot 218 rfl)
theorem ow219 (hw : OHW Z a0) : OB Z a0 (.declares ⟨s11_, "get", "(I)Ljava/lang/Object;"⟩) := hw _ (ot 219 rfl)
theorem ow220 (hw : OHW Z a0) : OB Z a0 (.interfaceMethod s11_ s11_ "get" "(I)Ljava/lang/Object;") := hw _ (ot 220 rfl)
theorem ow221 (hw : OHW Z a0) : OB Z a0 (.selects s9_ ⟨s11_, "get", "(I)Ljava/lang/Object;"⟩ ⟨s9_, "get", "(I)Ljava/lang/Object;"⟩) := hw _ (ot 221 rfl)
theorem ow222 (hw : OHW Z a0) : OB Z a0 (.instanceMethod ⟨s9_, "get", "(I)Ljava/lang/Object;"⟩) := hw _ (ot 222 rfl)
theorem ow223 (hw : OHW Z a0) : OB Z a0 (.publicMethod ⟨s9_, "get", "(I)Ljava/lang/Object;"⟩) := hw _ (ot 223 rfl)
theorem ow224 (hw : OHW Z a0) : OB Z a0 (.unhidden s9_ "get" "(I)Ljava/lang/Object;") := hw _ (ot 224 rfl)
theorem ow225 (hw : OHW Z a0) : OB Z a0 (.code ⟨s9_, "get", "(I)Ljava/lang/Object;"⟩ c17_ 2 (Option.some (.object "java/lang/Object"))) := hw _ (ot 225 rfl)
theorem ow226 (hw : OHW Z a0) : OB Z a0 (.methodLink s9_ 118 ⟨"java/util/Objects", "checkIndex", "(II)I"⟩) := hw _ (ot 226 rfl)
theorem ow227 (hw : OHW Z a0) : OB Z a0 (.static ⟨"java/util/Objects", "checkIndex", "(II)I"⟩) := hw _ (ot 227 rfl)
theorem ow228 (hw : OHW Z a0) : OB Z a0 (.initialized "java/util/Objects") := hw _ (ot 228 rfl)
theorem ow229 (hw : OHW Z a0) : OB Z a0 (.code ⟨"java/util/Objects", "checkIndex", "(II)I"⟩ c13_ 2 (Option.some .int)) := hw _ (ot 229 rfl)
theorem ow230 (hw : OHW Z a0) : OB Z a0 (.methodLink "java/util/Objects" 105 ⟨"jdk/internal/util/Preconditions", "checkIndex", "(IILjava/util/function/BiFunction;)I"⟩) := hw _ (ot 230 rfl)
theorem ow231 (hw : OHW Z a0) : OB Z a0 (.static ⟨"jdk/internal/util/Preconditions", "checkIndex", "(IILjava/util/function/BiFunction;)I"⟩) := hw _ (ot 231 rfl)
theorem ow232 (hw : OHW Z a0) : OB Z a0 (.initialized "jdk/internal/util/Preconditions") := hw _ (ot 232 rfl)
theorem ow233 (hw : OHW Z a0) : OB Z a0 (.code ⟨"jdk/internal/util/Preconditions", "checkIndex", "(IILjava/util/function/BiFunction;)I"⟩ c26_ 3 (Option.some .int)) := hw _ (ot 233 rfl)
theorem ow234 (hw : OHW Z a0) : OB Z a0 (.methodLink s9_ 123 ⟨s9_, "elementData", "(I)Ljava/lang/Object;"⟩) := hw _ (ot 234 rfl)
theorem ow235 (hw : OHW Z a0) : OB Z a0 (.declares ⟨s9_, "elementData", "(I)Ljava/lang/Object;"⟩) := hw _ (ot 235 rfl)
theorem ow236 (hw : OHW Z a0) : OB Z a0 (.instanceMethod ⟨s9_, "elementData", "(I)Ljava/lang/Object;"⟩) := hw _ (ot 236 rfl)
theorem ow237 (hw : OHW Z a0) : OB Z a0 (.selects s9_ ⟨s9_, "elementData", "(I)Ljava/lang/Object;"⟩ ⟨s9_, "elementData", "(I)Ljava/lang/Object;"⟩) := hw _ (ot 237 rfl)
theorem ow238 (hw : OHW Z a0) : OB Z a0 (.code ⟨s9_, "elementData", "(I)Ljava/lang/Object;"⟩ c16_ 2 (Option.some (.object "java/lang/Object"))) := hw _ (ot 238 rfl)
theorem ow239 (hw : OHW Z a0) : OB Z a0 (.arrayClass .boolean) := hw _ (ot 239 rfl)
theorem ow240 (hw : OHW Z a0) : OB Z a0 (.classLink s4_ 31 s8_) := hw _ (ot 240 rfl)
theorem ow241 (hw : OHW Z a0) : OB Z a0 (.instantiable s8_ 3) := hw _ (ot 241 rfl)
theorem ow242 (hw : OHW Z a0) : OB Z a0 (.initialized s8_) := hw _ (ot 242 rfl)
theorem ow243 (hw : OHW Z a0) : OB Z a0 (.methodLink s4_ 33 ⟨s8_, "<init>", "()V"⟩) := hw _ (ot 243 rfl)
theorem ow244 (hw : OHW Z a0) : OB Z a0 (.instanceMethod ⟨s8_, "<init>", "()V"⟩) := hw _ (ot 244 rfl)
theorem ow245 (hw : OHW Z a0) : OB Z a0 (.code ⟨s8_, "<init>", "()V"⟩ c7_ 1 (Option.none : Option Jvm.ClassFile.FieldType)) := hw _ (ot 245 rfl)
theorem ow246 (hw : OHW Z a0) : OB Z a0 (.methodLink s8_ 42 ⟨"java/util/AbstractCollection", "<init>", "()V"⟩) := hw _ (ot 246 rfl)
theorem ow248 (hw : OHW Z a0) : OB Z a0 (.classLink s8_ 47 "java/lang/Object") := hw _ (ot 248 rfl)
theorem ow249 (hw : OHW Z a0) : OB Z a0 (.fieldLink s8_ 3 s8_ "elements" "[Ljava/lang/Object;") := hw _ (ot 249 rfl)
theorem ow250 (hw : OHW Z a0) : OB Z a0 (.lays s8_ s8_ "elements" "[Ljava/lang/Object;") := hw _ (ot 250 rfl)
theorem ow251 (hw : OHW Z a0) : OB Z a0 (.methodLink s4_ 44 ⟨s8_, "isEmpty", "()Z"⟩) := hw _ (ot 251 rfl)
theorem ow252 (hw : OHW Z a0) : OB Z a0 (.declares ⟨s8_, "isEmpty", "()Z"⟩) := hw _ (ot 252 rfl)
theorem ow253 (hw : OHW Z a0) : OB Z a0 (.instanceMethod ⟨s8_, "isEmpty", "()Z"⟩) := hw _ (ot 253 rfl)
theorem ow254 (hw : OHW Z a0) : OB Z a0 (.selects s8_ ⟨s8_, "isEmpty", "()Z"⟩ ⟨s8_, "isEmpty", "()Z"⟩) := hw _ (ot 254 rfl)
theorem ow255 (hw : OHW Z a0) : OB Z a0 (.code ⟨s8_, "isEmpty", "()Z"⟩ c6_ 1 (Option.some .boolean)) := hw _ (ot 255 rfl)
theorem ow256 (hw : OHW Z a0) : OB Z a0 (.fieldLink s8_ 24 s8_ "head" "I") := hw _ (ot 256 rfl)
theorem ow257 (hw : OHW Z a0) : OB Z a0 (.lays s8_ s8_ "head" "I") := hw _ (ot 257 rfl)
theorem ow258 (hw : OHW Z a0) : OB Z a0 (.fieldLink s8_ 20 s8_ "tail" "I") := hw _ (ot 258 rfl)
theorem ow259 (hw : OHW Z a0) : OB Z a0 (.lays s8_ s8_ "tail" "I") := hw _ (ot 259 rfl)
theorem ow260 (hw : OHW Z a0) : OB Z a0 (.methodLink s4_ 63 ⟨"java/util/Arrays", "copyOf", "([II)[I"⟩) := hw _ (ot 260 rfl)
theorem ow261 (hw : OHW Z a0) : OB Z a0 (.static ⟨"java/util/Arrays", "copyOf", "([II)[I"⟩) := hw _ (ot 261 rfl)
theorem ow262 (hw : OHW Z a0) : OB Z a0 (.code ⟨"java/util/Arrays", "copyOf", "([II)[I"⟩ c32_ 3 (Option.some (.array .int))) := hw _ (ot 262 rfl)
theorem ow263 (hw : OHW Z a0) : OB Z a0 (.methodLink "java/util/Arrays" 304 ⟨"java/lang/Math", "min", "(II)I"⟩) := hw _ (ot 263 rfl)
theorem ow264 (hw : OHW Z a0) : OB Z a0 (.static ⟨"java/lang/Math", "min", "(II)I"⟩) := hw _ (ot 264 rfl)
theorem ow265 (hw : OHW Z a0) : OB Z a0 (.code ⟨"java/lang/Math", "min", "(II)I"⟩ c11_ 2 (Option.some .int)) := hw _ (ot 265 rfl)
theorem ow266 (hw : OHW Z a0) : OB Z a0 (.methodLink "java/util/Arrays" 150 ⟨"java/lang/System", "arraycopy", "(Ljava/lang/Object;ILjava/lang/Object;II)V"⟩) := hw _ (ot 266 rfl)
theorem ow267 (hw : OHW Z a0) : OB Z a0 (.static ⟨"java/lang/System", "arraycopy", "(Ljava/lang/Object;ILjava/lang/Object;II)V"⟩) := hw _ (ot 267 rfl)
theorem ow268 (hw : OHW Z a0) : OB Z a0 (.initialized "java/lang/System") := hw _ (ot 268 rfl)
theorem ow269 (hw : OHW Z a0) : OB Z a0 (.native ⟨"java/lang/System", "arraycopy", "(Ljava/lang/Object;ILjava/lang/Object;II)V"⟩) := hw _ (ot 269 rfl)
theorem ow270 (hw : OHW Z a0) : OB Z a0 (.fieldLink s4_ 69 s4_ "pendantPipes" "[I") := hw _ (ot 270 rfl)
theorem ow271 (hw : OHW Z a0) : OB Z a0 (.laysFinal s4_ s4_ "pendantPipes" "[I") := hw _ (ot 271 rfl)
theorem ow272 (hw : OHW Z a0) : OB Z a0 (.fieldLink s4_ 73 s4_ "leaves" "[I") := hw _ (ot 272 rfl)
theorem ow273 (hw : OHW Z a0) : OB Z a0 (.laysFinal s4_ s4_ "leaves" "[I") := hw _ (ot 273 rfl)
theorem ow274 (hw : OHW Z a0) : OB Z a0 (.fieldLink s4_ 76 s4_ "roots" "[I") := hw _ (ot 274 rfl)
theorem ow275 (hw : OHW Z a0) : OB Z a0 (.laysFinal s4_ s4_ "roots" "[I") := hw _ (ot 275 rfl)
theorem ow276 (hw : OHW Z a0) : OB Z a0 (.fieldLink s4_ 79 s4_ "unknowns" "[I") := hw _ (ot 276 rfl)
theorem ow277 (hw : OHW Z a0) : OB Z a0 (.laysFinal s4_ s4_ "unknowns" "[I") := hw _ (ot 277 rfl)
theorem ow278 (hw : OHW Z a0) : OB Z a0 (.fieldLink s4_ 86 s4_ "branchJunctions" "[I") := hw _ (ot 278 rfl)
theorem ow279 (hw : OHW Z a0) : OB Z a0 (.laysFinal s4_ s4_ "branchJunctions" "[I") := hw _ (ot 279 rfl)
theorem ow280 (hw : OHW Z a0) : OB Z a0 (.methodLink s4_ 89 ⟨"[Z", "clone", "()Ljava/lang/Object;"⟩) := hw _ (ot 280 rfl)
theorem ow281 (hw : OHW Z a0) : OB Z a0 (.sameMethod "[Z" "java/lang/Object" "clone" "()Ljava/lang/Object;") := hw _ (ot 281 rfl)
theorem ow283 (hw : OHW Z a0) : OB Z a0 (.instanceMethod ⟨"java/lang/Object", "clone", "()Ljava/lang/Object;"⟩) := hw _ (ot 283 rfl)
theorem ow284 (hw : OHW Z a0) : OB Z a0 (.selects "[Z" ⟨"[Z", "clone", "()Ljava/lang/Object;"⟩ ⟨"java/lang/Object", "clone", "()Ljava/lang/Object;"⟩) := hw _ (ot 284 rfl)
theorem ow285 (hw : OHW Z a0) : OB Z a0 (.native ⟨"java/lang/Object", "clone", "()Ljava/lang/Object;"⟩) := hw _ (ot 285 rfl)
theorem ow286 (hw : OHW Z a0) : OB Z a0 (.castable "[Z" "java/lang/Cloneable") := hw _ (ot 286 rfl)
theorem ow287 (hw : OHW Z a0) : OB Z a0 (.classLink s4_ 90 "[Z") := hw _ (ot 287 rfl)
theorem ow289 (hw : OHW Z a0) : OB Z a0 (.methodLink s4_ 59 ⟨s4_, "otherEnd", "(Lcom/example/hydromeme/hydromeme/Network;II)I"⟩) := hw _ (ot 289 rfl)
theorem ow290 (hw : OHW Z a0) : OB Z a0 (.static ⟨s4_, "otherEnd", "(Lcom/example/hydromeme/hydromeme/Network;II)I"⟩) := hw _ (ot 290 rfl)
theorem ow291 (hw : OHW Z a0) : OB Z a0 (.code ⟨s4_, "otherEnd", "(Lcom/example/hydromeme/hydromeme/Network;II)I"⟩ c43_ 4 (Option.some .int)) := hw _ (ot 291 rfl)
theorem ow292 (hw : OHW Z a0) : OB Z a0 (.methodLink s4_ 55 ⟨s4_, "remaining", "([I[Z)I"⟩) := hw _ (ot 292 rfl)
theorem ow293 (hw : OHW Z a0) : OB Z a0 (.static ⟨s4_, "remaining", "([I[Z)I"⟩) := hw _ (ot 293 rfl)
theorem ow294 (hw : OHW Z a0) : OB Z a0 (.code ⟨s4_, "remaining", "([I[Z)I"⟩ c42_ 6 (Option.some .int)) := hw _ (ot 294 rfl)
theorem ow295 (hw : OHW Z a0) : OB Z a0 (.fieldLink s4_ 94 s4_ "chainStarts" "[I") := hw _ (ot 295 rfl)
theorem ow296 (hw : OHW Z a0) : OB Z a0 (.laysFinal s4_ s4_ "chainStarts" "[I") := hw _ (ot 296 rfl)
theorem ow297 (hw : OHW Z a0) : OB Z a0 (.fieldLink s4_ 97 s4_ "chainBounds" "[I") := hw _ (ot 297 rfl)
theorem ow298 (hw : OHW Z a0) : OB Z a0 (.laysFinal s4_ s4_ "chainBounds" "[I") := hw _ (ot 298 rfl)
theorem ow299 (hw : OHW Z a0) : OB Z a0 (.fieldLink s4_ 100 s4_ "chainPipes" "[I") := hw _ (ot 299 rfl)
theorem ow300 (hw : OHW Z a0) : OB Z a0 (.laysFinal s4_ s4_ "chainPipes" "[I") := hw _ (ot 300 rfl)
theorem ow301 (hw : OHW Z a0) : OB Z a0 (.fieldLink s4_ 103 s4_ "chainNodes" "[I") := hw _ (ot 301 rfl)
theorem ow302 (hw : OHW Z a0) : OB Z a0 (.laysFinal s4_ s4_ "chainNodes" "[I") := hw _ (ot 302 rfl)
theorem ow303 (hw : OHW Z a0) : OB Z a0 (.fieldLink s4_ 106 s4_ "cutOff" "I") := hw _ (ot 303 rfl)
theorem ow304 (hw : OHW Z a0) : OB Z a0 (.laysFinal s4_ s4_ "cutOff" "I") := hw _ (ot 304 rfl)
theorem ow305 (hw : OHW Z a0) : OB Z a0 (.methodLink s0_ 35 ⟨s4_, "chainEnd", "(I)I"⟩) := hw _ (ot 305 rfl)
theorem ow306 (hw : OHW Z a0) : OB Z a0 (.declares ⟨s4_, "chainEnd", "(I)I"⟩) := hw _ (ot 306 rfl)
theorem ow307 (hw : OHW Z a0) : OB Z a0 (.instanceMethod ⟨s4_, "chainEnd", "(I)I"⟩) := hw _ (ot 307 rfl)
theorem ow308 (hw : OHW Z a0) : OB Z a0 (.selects s4_ ⟨s4_, "chainEnd", "(I)I"⟩ ⟨s4_, "chainEnd", "(I)I"⟩) := hw _ (ot 308 rfl)
theorem ow309 (hw : OHW Z a0) : OB Z a0 (.code ⟨s4_, "chainEnd", "(I)I"⟩ c45_ 2 (Option.some .int)) := hw _ (ot 309 rfl)
theorem ow310 (hw : OHW Z a0) : OB Z a0 (.methodLink s4_ 34 ⟨"java/lang/Integer", "valueOf", "(I)Ljava/lang/Integer;"⟩) := hw _ (ot 310 rfl)
theorem ow311 (hw : OHW Z a0) : OB Z a0 (.static ⟨"java/lang/Integer", "valueOf", "(I)Ljava/lang/Integer;"⟩) := hw _ (ot 311 rfl)
theorem ow312 (hw : OHW Z a0) : OB Z a0 (.initialized "java/lang/Integer") := hw _ (ot 312 rfl)
theorem ow313 (hw : OHW Z a0) : OB Z a0 (.code ⟨"java/lang/Integer", "valueOf", "(I)Ljava/lang/Integer;"⟩ c14_ 1 (Option.some (.object "java/lang/Integer"))) := hw _ (ot 313 rfl)
theorem ow314 (hw : OHW Z a0) : OB Z a0 (.fieldLink "java/lang/Integer" 191 "java/lang/Integer$IntegerCache" "high" "I") := hw _ (ot 314 rfl)
theorem ow315 (hw : OHW Z a0) : OB Z a0 (.initialized "java/lang/Integer$IntegerCache") := hw _ (ot 315 rfl)
theorem ow316 (hw : OHW Z a0) : OB Z a0 (.fieldLink "java/lang/Integer" 195 "java/lang/Integer$IntegerCache" "cache" "[Ljava/lang/Integer;") := hw _ (ot 316 rfl)
theorem ow317 (hw : OHW Z a0) : OB Z a0 (.methodLink s4_ 40 ⟨s8_, "add", "(Ljava/lang/Object;)Z"⟩) := hw _ (ot 317 rfl)
theorem ow318 (hw : OHW Z a0) : OB Z a0 (.declares ⟨s8_, "add", "(Ljava/lang/Object;)Z"⟩) := hw _ (ot 318 rfl)
theorem ow319 (hw : OHW Z a0) : OB Z a0 (.instanceMethod ⟨s8_, "add", "(Ljava/lang/Object;)Z"⟩) := hw _ (ot 319 rfl)
theorem ow320 (hw : OHW Z a0) : OB Z a0 (.selects s8_ ⟨s8_, "add", "(Ljava/lang/Object;)Z"⟩ ⟨s8_, "add", "(Ljava/lang/Object;)Z"⟩) := hw _ (ot 320 rfl)
theorem ow321 (hw : OHW Z a0) : OB Z a0 (.code ⟨s8_, "add", "(Ljava/lang/Object;)Z"⟩ c4_ 2 (Option.some .boolean)) := hw _ (ot 321 rfl)
theorem ow322 (hw : OHW Z a0) : OB Z a0 (.methodLink s8_ 90 ⟨s8_, "addLast", "(Ljava/lang/Object;)V"⟩) := hw _ (ot 322 rfl)
theorem ow323 (hw : OHW Z a0) : OB Z a0 (.declares ⟨s8_, "addLast", "(Ljava/lang/Object;)V"⟩) := hw _ (ot 323 rfl)
theorem ow324 (hw : OHW Z a0) : OB Z a0 (.instanceMethod ⟨s8_, "addLast", "(Ljava/lang/Object;)V"⟩) := hw _ (ot 324 rfl)
theorem ow325 (hw : OHW Z a0) : OB Z a0 (.selects s8_ ⟨s8_, "addLast", "(Ljava/lang/Object;)V"⟩ ⟨s8_, "addLast", "(Ljava/lang/Object;)V"⟩) := hw _ (ot 325 rfl)
theorem ow326 (hw : OHW Z a0) : OB Z a0 (.code ⟨s8_, "addLast", "(Ljava/lang/Object;)V"⟩ c1_ 3 (Option.none : Option Jvm.ClassFile.FieldType)) := hw _ (ot 326 rfl)
theorem ow327 (hw : OHW Z a0) : OB Z a0 (.castable "java/lang/Integer" "java/lang/Object") := hw _ (ot 327 rfl)
theorem ow328 (hw : OHW Z a0) : OB Z a0 (.methodLink s8_ 74 ⟨s8_, "inc", "(II)I"⟩) := hw _ (ot 328 rfl)
theorem ow329 (hw : OHW Z a0) : OB Z a0 (.static ⟨s8_, "inc", "(II)I"⟩) := hw _ (ot 329 rfl)
theorem ow330 (hw : OHW Z a0) : OB Z a0 (.code ⟨s8_, "inc", "(II)I"⟩ c8_ 2 (Option.some .int)) := hw _ (ot 330 rfl)
theorem ow331 (hw : OHW Z a0) : OB Z a0 (.methodLink s4_ 48 ⟨s8_, "remove", "()Ljava/lang/Object;"⟩) := hw _ (ot 331 rfl)
theorem ow332 (hw : OHW Z a0) : OB Z a0 (.declares ⟨s8_, "remove", "()Ljava/lang/Object;"⟩) := hw _ (ot 332 rfl)
theorem ow333 (hw : OHW Z a0) : OB Z a0 (.instanceMethod ⟨s8_, "remove", "()Ljava/lang/Object;"⟩) := hw _ (ot 333 rfl)
theorem ow334 (hw : OHW Z a0) : OB Z a0 (.selects s8_ ⟨s8_, "remove", "()Ljava/lang/Object;"⟩ ⟨s8_, "remove", "()Ljava/lang/Object;"⟩) := hw _ (ot 334 rfl)
theorem ow335 (hw : OHW Z a0) : OB Z a0 (.code ⟨s8_, "remove", "()Ljava/lang/Object;"⟩ c5_ 1 (Option.some (.object "java/lang/Object"))) := hw _ (ot 335 rfl)
theorem ow336 (hw : OHW Z a0) : OB Z a0 (.methodLink s8_ 118 ⟨s8_, "removeFirst", "()Ljava/lang/Object;"⟩) := hw _ (ot 336 rfl)
theorem ow337 (hw : OHW Z a0) : OB Z a0 (.declares ⟨s8_, "removeFirst", "()Ljava/lang/Object;"⟩) := hw _ (ot 337 rfl)
theorem ow338 (hw : OHW Z a0) : OB Z a0 (.instanceMethod ⟨s8_, "removeFirst", "()Ljava/lang/Object;"⟩) := hw _ (ot 338 rfl)
theorem ow339 (hw : OHW Z a0) : OB Z a0 (.selects s8_ ⟨s8_, "removeFirst", "()Ljava/lang/Object;"⟩ ⟨s8_, "removeFirst", "()Ljava/lang/Object;"⟩) := hw _ (ot 339 rfl)
theorem ow340 (hw : OHW Z a0) : OB Z a0 (.code ⟨s8_, "removeFirst", "()Ljava/lang/Object;"⟩ c2_ 2 (Option.some (.object "java/lang/Object"))) := hw _ (ot 340 rfl)
theorem ow341 (hw : OHW Z a0) : OB Z a0 (.methodLink s8_ 93 ⟨s8_, "pollFirst", "()Ljava/lang/Object;"⟩) := hw _ (ot 341 rfl)
theorem ow342 (hw : OHW Z a0) : OB Z a0 (.declares ⟨s8_, "pollFirst", "()Ljava/lang/Object;"⟩) := hw _ (ot 342 rfl)
theorem ow343 (hw : OHW Z a0) : OB Z a0 (.instanceMethod ⟨s8_, "pollFirst", "()Ljava/lang/Object;"⟩) := hw _ (ot 343 rfl)
theorem ow344 (hw : OHW Z a0) : OB Z a0 (.selects s8_ ⟨s8_, "pollFirst", "()Ljava/lang/Object;"⟩ ⟨s8_, "pollFirst", "()Ljava/lang/Object;"⟩) := hw _ (ot 344 rfl)
theorem ow345 (hw : OHW Z a0) : OB Z a0 (.code ⟨s8_, "pollFirst", "()Ljava/lang/Object;"⟩ c3_ 4 (Option.some (.object "java/lang/Object"))) := hw _ (ot 345 rfl)
theorem ow346 (hw : OHW Z a0) : OB Z a0 (.methodLink s8_ 103 ⟨s8_, "elementAt", "([Ljava/lang/Object;I)Ljava/lang/Object;"⟩) := hw _ (ot 346 rfl)
theorem ow347 (hw : OHW Z a0) : OB Z a0 (.static ⟨s8_, "elementAt", "([Ljava/lang/Object;I)Ljava/lang/Object;"⟩) := hw _ (ot 347 rfl)
theorem ow348 (hw : OHW Z a0) : OB Z a0 (.code ⟨s8_, "elementAt", "([Ljava/lang/Object;I)Ljava/lang/Object;"⟩ c0_ 2 (Option.some (.object "java/lang/Object"))) := hw _ (ot 348 rfl)
theorem ow349 (hw : OHW Z a0) : OB Z a0 (.classLink s4_ 35 "java/lang/Integer") := hw _ (ot 349 rfl)
theorem ow351 (hw : OHW Z a0) : OB Z a0 (.methodLink s4_ 52 ⟨"java/lang/Integer", "intValue", "()I"⟩) := hw _ (ot 351 rfl)
theorem ow352 (hw : OHW Z a0) : OB Z a0 (.declares ⟨"java/lang/Integer", "intValue", "()I"⟩) := hw _ (ot 352 rfl)
theorem ow353 (hw : OHW Z a0) : OB Z a0 (.instanceMethod ⟨"java/lang/Integer", "intValue", "()I"⟩) := hw _ (ot 353 rfl)
theorem ow354 (hw : OHW Z a0) : OB Z a0 (.selects "java/lang/Integer" ⟨"java/lang/Integer", "intValue", "()I"⟩ ⟨"java/lang/Integer", "intValue", "()I"⟩) := hw _ (ot 354 rfl)
theorem ow355 (hw : OHW Z a0) : OB Z a0 (.code ⟨"java/lang/Integer", "intValue", "()I"⟩ c15_ 1 (Option.some .int)) := hw _ (ot 355 rfl)
theorem ow356 (hw : OHW Z a0) : OB Z a0 (.fieldLink "java/lang/Integer" 205 "java/lang/Integer" "value" "I") := hw _ (ot 356 rfl)
end OwnW_
section OwnNet
variable {Z : State} {h h' : Heap} {a x y d net lj lr lp : Addr} {ws : List Addr} {sl : Nat} {u : Value} {S S' : Addr → Prop} {mc j : Int32} {ps : List (Int32 × Int32 × Int32)} {q : Int32 × Int32 × Int32} {α : Type} {t : α}
def own_pz : Int32 × Int32 × Int32 := (0, 0, 0)
def kpp (ps : List (Int32 × Int32 × Int32)) (j : Int32) (k : Int32 × Int32 × Int32 → Option α) : Option α := if InB (lenR ps) j then k (getR ps j.toNatClampNeg own_pz) else none
theorem kpp_some {k : Int32 × Int32 × Int32 → Option α} (w : kpp ps j k = some t) : ∃ y, InB ps.length j ∧ ps.getD j.toNatClampNeg own_pz = y ∧ k y = some t := by
  unfold kpp at w; rw [lenR_eq, getR_eq] at w; split at w
  · next i => exact ⟨_, i, rfl, w⟩
  · cases w
/-- a pipe: from, to, open -/
def PipeV (Z : State) (h : Heap) (x : Addr) (q : Int32 × Int32 × Int32) : Prop := Exa Z h x s1_ ∧ Fld Z h x s1_ "from" "I" (.int q.1) ∧ Fld Z h x s1_ "to" "I" (.int q.2.1) ∧ Fld Z h x s1_ "open" "Z" (.int q.2.2) ∧ (q.2.2 = 0 ∨ q.2.2 = 1)
theorem PipeV.op (F : PipeV Z h x q) : q.2.2 = 0 ∨ q.2.2 = 1 := F.2.2.2.2
theorem PipeV.lt (F : PipeV Z h x q) : x < h.size := F.1.lt
theorem PipeV.ext (F : PipeV Z h x q) (E : Ext h h') : PipeV Z h' x q := ⟨F.1.ext E, F.2.1.ext E, F.2.2.1.ext E, F.2.2.2.1.ext E, F.2.2.2.2⟩
theorem PipeV.keep (F : PipeV Z h x q) (K : Keep h h' ws) (n : x ∉ ws) : PipeV Z h' x q := ⟨F.1.keep K, F.2.1.keep K n, F.2.2.1.keep K n, F.2.2.2.1.keep K n, F.2.2.2.2⟩
theorem PipeV.other (F : PipeV Z h x q) (W : Wr h h' a sl u) (n : x ≠ a) : PipeV Z h' x q := ⟨F.1.wr W, F.2.1.other W (Or.inl n), F.2.2.1.other W (Or.inl n), F.2.2.2.1.other W (Or.inl n), F.2.2.2.2⟩
/-- an ArrayList's array of ten places that holds the pipes ps; all of it lies in S -/
def PD (Z : State) (h : Heap) (S : Addr → Prop) (d : Addr) (ps : List (Int32 × Int32 × Int32)) : Prop :=
  ps.length ≤ 10 ∧ S d ∧ ∃ c : Cell, Arr Z h d c (.object "java/lang/Object") ∧ c.slots.size = 10 ∧ Ovr Z c.cls "java/lang/Object" ∧ ∀ i, i < ps.length → ∃ y, c.slots[i]? = some (.ref y) ∧ S y ∧ y ≠ d ∧ PipeV Z h y (ps.getD i own_pz)
theorem PD.ext (F : PD Z h S d ps) (E : Ext h h') : PD Z h' S d ps := by
  obtain ⟨f1, f2, c, g3, g4, g5, g6⟩ := F
  exact ⟨f1, f2, c, g3.ext E, g4, g5, fun i hi => (g6 i hi).imp fun y r => ⟨r.1, r.2.1, r.2.2.1, r.2.2.2.ext E⟩⟩
theorem PD.keep (F : PD Z h S d ps) (K : Keep h h' ws) (n : ∀ x ∈ ws, ¬ S x) : PD Z h' S d ps := by
  obtain ⟨f1, f2, c, g3, g4, g5, g6⟩ := F
  have o : ∀ {y}, S y → y ∉ ws := fun s m => n _ m s
  exact ⟨f1, f2, c, ⟨K.2.1 d c g3.1 (o f2), g3.2⟩, g4, g5, fun i hi => (g6 i hi).imp fun y r => ⟨r.1, r.2.1, r.2.2.1, r.2.2.2.keep K (o r.2.1)⟩⟩
theorem PD.other (F : PD Z h S d ps) (W : Wr h h' x sl u) (n : ¬ S x) : PD Z h' S d ps := by
  obtain ⟨f1, f2, c, g3, g4, g5, g6⟩ := F
  have o : ∀ {y}, S y → y ≠ x := fun s e => n (e ▸ s)
  exact ⟨f1, f2, c, g3.other W (o f2), g4, g5, fun i hi => (g6 i hi).imp fun y r => ⟨r.1, r.2.1, r.2.2.1, r.2.2.2.other W (o r.2.1)⟩⟩
theorem PD.mono (F : PD Z h S d ps) (n : ∀ y, S y → S' y) : PD Z h S' d ps := by
  obtain ⟨f1, f2, c, g3, g4, g5, g6⟩ := F
  exact ⟨f1, n _ f2, c, g3, g4, g5, fun i hi => (g6 i hi).imp fun y r => ⟨r.1, n _ r.2.1, r.2.2⟩⟩
theorem PD.bnd (F : PD Z h S d ps) : PD Z h (fun y => y < h.size) d ps := by
  obtain ⟨f1, f2, c, g3, g4, g5, g6⟩ := F
  exact ⟨f1, g3.lt, c, g3, g4, g5, fun i hi => (g6 i hi).imp fun y r => ⟨r.1, r.2.2.2.lt, r.2.2⟩⟩
theorem PD.lt (F : PD Z h S d ps) : d < h.size := by obtain ⟨f1, f2, c, g3, -⟩ := F; exact g3.lt
theorem own_n10 {α : Type} {ps : List α} (q : ps.length ≤ 10) : ¬ own_n ps < 0 ∧ (own_n ps).toNatClampNeg = ps.length := by
  rw [own_n_eq]
  generalize ps.length = n at q
  have : n = 0 ∨ n = 1 ∨ n = 2 ∨ n = 3 ∨ n = 4 ∨ n = 5 ∨ n = 6 ∨ n = 7 ∨ n = 8 ∨ n = 9 ∨ n = 10 := by omega
  rcases this with rfl | rfl | rfl | rfl | rfl | rfl | rfl | rfl | rfl | rfl | rfl <;> decide
theorem own_n10l {α : Type} {ps : List α} (q : ps.length < 10) : own_n ps < 10 := by
  rw [own_n_eq]
  generalize ps.length = n at q
  have : n = 0 ∨ n = 1 ∨ n = 2 ∨ n = 3 ∨ n = 4 ∨ n = 5 ∨ n = 6 ∨ n = 7 ∨ n = 8 ∨ n = 9 := by omega
  rcases this with rfl | rfl | rfl | rfl | rfl | rfl | rfl | rfl | rfl | rfl <;> decide
theorem own_n10s {α : Type} {ps : List α} {y : α} (q : ps.length < 10) : own_n ps + 1 = own_n (ps ++ [y]) := by
  rw [own_n_eq, own_n_eq, List.length_append]
  show _ = (ps.length + 1).toInt32
  generalize ps.length = n at q
  have : n = 0 ∨ n = 1 ∨ n = 2 ∨ n = 3 ∨ n = 4 ∨ n = 5 ∨ n = 6 ∨ n = 7 ∨ n = 8 ∨ n = 9 := by omega
  rcases this with rfl | rfl | rfl | rfl | rfl | rfl | rfl | rfl | rfl | rfl <;> decide
theorem InB.lt {α : Type} {ps : List α} (i : InB ps.length j) (q : ps.length ≤ 10) : ¬ j < 0 ∧ j < own_n ps := by
  obtain ⟨n1, n2⟩ := own_n10 q
  refine ⟨i.1, ?_⟩
  have i1 := i.1
  have i2 := i.2
  rw [Int32.lt_iff_toInt_lt] at n1 i1 ⊢
  have e0 : (0 : Int32).toInt = 0 := rfl
  simp only [Int32.toNatClampNeg] at n2 i2
  omega
theorem InB.lt10 {α : Type} {ps : List α} (i : InB ps.length j) (q : ps.length ≤ 10) : j < 10 := by
  have i1 := i.1
  have i2 := i.2
  rw [Int32.lt_iff_toInt_lt] at i1 ⊢
  have e0 : (0 : Int32).toInt = 0 := rfl
  have e10 : (10 : Int32).toInt = 10 := rfl
  simp only [Int32.toNatClampNeg] at i2
  omega
theorem PD.at (F : PD Z h S d ps) (i : InB ps.length j) (e : ps.getD j.toNatClampNeg own_pz = q) : ∃ (c : Cell) (y : Addr), Arr Z h d c (.object "java/lang/Object") ∧ ¬ (j < 0 ∨ c.slots.size ≤ j.toNatClampNeg) ∧ c.slots[j.toNatClampNeg]? = some (.ref y) ∧ PipeV Z h y q ∧ S y := by
  obtain ⟨f1, f2, c, g3, g4, g5, g6⟩ := F
  obtain ⟨y, r1, r2, -, r3⟩ := g6 _ i.2
  have i2 := i.2
  subst e
  exact ⟨c, y, g3, by rw [g4]; rintro (z | z); exact i.1 z; omega, r1, r3, r2⟩
theorem PD.len (F : PD Z h S d ps) : ∃ c : Cell, Arr Z h d c (.object "java/lang/Object") ∧ c.slots.size = (10 : Int32).toNatClampNeg ∧ ¬ (10 : Int32) < 0 := by
  obtain ⟨f1, f2, c, g3, g4, g5, g6⟩ := F
  exact ⟨c, g3, g4, by decide⟩
theorem PD.gap (F : PD Z h S d ps) (hl : ps.length < 10) : ∃ c : Cell, Arr Z h d c (.object "java/lang/Object") ∧ ¬ (own_n ps < 0 ∨ c.slots.size ≤ (own_n ps).toNatClampNeg) ∧ Ovr Z c.cls "java/lang/Object" := by
  obtain ⟨f1, f2, c, g3, g4, g5, g6⟩ := F
  obtain ⟨n1, n2⟩ := own_n10 f1
  exact ⟨c, g3, by rw [g4, n2]; rintro (z | z); exact n1 z; omega, g5⟩
theorem PD.push (F : PD Z h S d ps) (hl : ps.length < 10) (Y : PipeV Z h y q) (Sy : S y) (nyd : y ≠ d) (W : Wr h h' d (own_n ps).toNatClampNeg (.ref y)) : PD Z h' S d (ps ++ [q]) := by
  obtain ⟨f1, f2, c, g3, g4, g5, g6⟩ := F
  obtain ⟨n1, n2⟩ := own_n10 f1
  rw [n2] at W
  refine ⟨by simp; omega, f2, c.setSlot ps.length (.ref y), g3.same W, by rw [sz_set]; exact g4, g5, fun i hi => ?_⟩
  by_cases z : i = ps.length
  · subst z
    refine ⟨y, by simp [Cell.setSlot, g4, hl], Sy, nyd, ?_⟩
    have e : (ps ++ [q]).getD ps.length own_pz = q := by rw [List.getD_eq_getElem?_getD, List.getElem?_append_right (Nat.le_refl _)]; simp
    rw [e]; exact Y.other W nyd
  · have hi' : i < ps.length := by simp at hi; omega
    obtain ⟨y', r1, r2, r3, r4⟩ := g6 i hi'
    have e : (ps ++ [q]).getD i own_pz = ps.getD i own_pz := by rw [List.getD_eq_getElem?_getD, List.getElem?_append_left hi', ← List.getD_eq_getElem?_getD]
    exact ⟨y', by simp only [Cell.setSlot]; rw [Array.getElem?_setIfInBounds_ne (Ne.symm z)]; exact r1, r2, r3, by rw [e]; exact r4.other W r3⟩
theorem PD.one {k : ClassId} (V : Arv Z h d k (.object "java/lang/Object") 10 [.ref y, .null, .null, .null, .null, .null, .null, .null, .null, .null] .null) (O : Ovr Z k "java/lang/Object") (Y : PipeV Z h y q) (Sd : S d) (Sy : S y) (nyd : y ≠ d) : PD Z h S d [q] := by
  obtain ⟨c, A, q1, Sz, q3, H, G⟩ := V
  refine ⟨by simp, Sd, c, A, Sz, by rw [q1]; exact O, fun i hi => ?_⟩
  have hi0 : i = 0 := by simp at hi; exact hi
  subst hi0
  exact ⟨y, H 0 (by rw [Sz]; decide), Sy, nyd, Y⟩
/-- the network -/
def NetP (Z : State) (h : Heap) (S : Addr → Prop) (net lj lr lp d : Addr) (mc : Int32) (ps : List (Int32 × Int32 × Int32)) : Prop :=
  (S net ∧ S lj ∧ S lr ∧ S lp) ∧ Exa Z h net s5_ ∧ Fld Z h net s5_ "junctions" "Ljava/util/List;" (.ref lj) ∧ Fld Z h net s5_ "reservoirs" "Ljava/util/List;" (.ref lr) ∧ Fld Z h net s5_ "pipes" "Ljava/util/List;" (.ref lp) ∧
  Exa Z h lj s9_ ∧ Fld Z h lj s9_ "size" "I" (.int 5) ∧ Exa Z h lr s9_ ∧ Fld Z h lr s9_ "size" "I" (.int 3) ∧
  Exa Z h lp s9_ ∧ Fld Z h lp s7_ "modCount" "I" (.int mc) ∧ Fld Z h lp s9_ "size" "I" (.int (own_n ps)) ∧ Fld Z h lp s9_ "elementData" "[Ljava/lang/Object;" (.ref d) ∧ PD Z h S d ps
theorem NetP.ext (F : NetP Z h S net lj lr lp d mc ps) (E : Ext h h') : NetP Z h' S net lj lr lp d mc ps := by
  obtain ⟨s, f1, f2, f3, f4, f5, f6, f7, f8, f9, f10, f11, f12, f13⟩ := F
  exact ⟨s, f1.ext E, f2.ext E, f3.ext E, f4.ext E, f5.ext E, f6.ext E, f7.ext E, f8.ext E, f9.ext E, f10.ext E, f11.ext E, f12.ext E, f13.ext E⟩
theorem NetP.keep (F : NetP Z h S net lj lr lp d mc ps) (K : Keep h h' ws) (n : ∀ x ∈ ws, ¬ S x) : NetP Z h' S net lj lr lp d mc ps := by
  obtain ⟨s, f1, f2, f3, f4, f5, f6, f7, f8, f9, f10, f11, f12, f13⟩ := F
  have o : ∀ {y}, S y → y ∉ ws := fun s m => n _ m s
  exact ⟨s, f1.keep K, f2.keep K (o s.1), f3.keep K (o s.1), f4.keep K (o s.1), f5.keep K, f6.keep K (o s.2.1), f7.keep K, f8.keep K (o s.2.2.1), f9.keep K, f10.keep K (o s.2.2.2), f11.keep K (o s.2.2.2), f12.keep K (o s.2.2.2), f13.keep K n⟩
theorem NetP.other (F : NetP Z h S net lj lr lp d mc ps) (W : Wr h h' x sl u) (n : ¬ S x) : NetP Z h' S net lj lr lp d mc ps := by
  obtain ⟨s, f1, f2, f3, f4, f5, f6, f7, f8, f9, f10, f11, f12, f13⟩ := F
  have o : ∀ {y}, S y → y ≠ x := fun s e => n (e ▸ s)
  exact ⟨s, f1.wr W, f2.other W (Or.inl (o s.1)), f3.other W (Or.inl (o s.1)), f4.other W (Or.inl (o s.1)), f5.wr W, f6.other W (Or.inl (o s.2.1)), f7.wr W, f8.other W (Or.inl (o s.2.2.1)), f9.wr W, f10.other W (Or.inl (o s.2.2.2)), f11.other W (Or.inl (o s.2.2.2)), f12.other W (Or.inl (o s.2.2.2)), f13.other W n⟩
theorem AA.mk8 {k : ClassId} {b0 b1 b2 b3 b4 b5 b6 b7 : Addr} {x0 x1 x2 x3 x4 x5 x6 x7 : List Int32} (V : Arv Z h a k (.array .int) 8 [.ref b0, .ref b1, .ref b2, .ref b3, .ref b4, .ref b5, .ref b6, .ref b7] .null)
    (p0 : PA Z h b0 .int x0) (p1 : PA Z h b1 .int x1) (p2 : PA Z h b2 .int x2) (p3 : PA Z h b3 .int x3) (p4 : PA Z h b4 .int x4) (p5 : PA Z h b5 .int x5) (p6 : PA Z h b6 .int x6) (p7 : PA Z h b7 .int x7) (N : [b0, b1, b2, b3, b4, b5, b6, b7].Nodup) (na : a ∉ [b0, b1, b2, b3, b4, b5, b6, b7]) : AA Z h a [b0, b1, b2, b3, b4, b5, b6, b7] [x0, x1, x2, x3, x4, x5, x6, x7] := by
  obtain ⟨c, A, q1, Sz, q3, H, G⟩ := V
  have Sz8 : c.slots.size = 8 := Sz
  refine ⟨c, A, Sz8, rfl, fun i hi => ?_, N, na, fun i hi => ?_⟩
  · have hi8 : i < 8 := hi
    have r := H i (by rw [Sz8]; exact hi8)
    rw [r]
    have : i = 0 ∨ i = 1 ∨ i = 2 ∨ i = 3 ∨ i = 4 ∨ i = 5 ∨ i = 6 ∨ i = 7 := by omega
    rcases this with rfl | rfl | rfl | rfl | rfl | rfl | rfl | rfl <;> rfl
  · have hi8 : i < 8 := hi
    have : i = 0 ∨ i = 1 ∨ i = 2 ∨ i = 3 ∨ i = 4 ∨ i = 5 ∨ i = 6 ∨ i = 7 := by omega
    rcases this with rfl | rfl | rfl | rfl | rfl | rfl | rfl | rfl
    · exact p0
    · exact p1
    · exact p2
    · exact p3
    · exact p4
    · exact p5
    · exact p6
    · exact p7
/-- a box of the cache -/
def BoxV (Z : State) (b : Addr) (j : Int32) : Prop := Exa Z Z.heap b "java/lang/Integer" ∧ Fld Z Z.heap b "java/lang/Integer" "value" "I" (.int j)
abbrev own_17 : List Value := [.null, .null, .null, .null, .null, .null, .null, .null, .null, .null, .null, .null, .null, .null, .null, .null, .null]
abbrev own_17b (b : Addr) : List Value := [.ref b, .null, .null, .null, .null, .null, .null, .null, .null, .null, .null, .null, .null, .null, .null, .null, .null]
/-- a deque: qs = 0: new; 1: it holds qj; 2: empty again -/
def DQ (Z : State) (h : Heap) (a d : Addr) (qs qj : Int32) : Prop :=
  Exa Z h a s8_ ∧ Fld Z h a s8_ "elements" "[Ljava/lang/Object;" (.ref d) ∧ a ≠ d ∧ ∃ (k : ClassId) (b : Addr), Ovr Z k "java/lang/Object" ∧
    ((qs = 0 ∧ Fld Z h a s8_ "head" "I" (.int 0) ∧ Fld Z h a s8_ "tail" "I" (.int 0) ∧ Arv Z h d k (.object "java/lang/Object") 17 own_17 .null) ∨
     (qs = 1 ∧ Fld Z h a s8_ "head" "I" (.int 0) ∧ Fld Z h a s8_ "tail" "I" (.int 1) ∧ BoxV Z b qj ∧ Arv Z h d k (.object "java/lang/Object") 17 (own_17b b) .null) ∨
     (qs = 2 ∧ Fld Z h a s8_ "head" "I" (.int 1) ∧ Fld Z h a s8_ "tail" "I" (.int 1) ∧ Arv Z h d k (.object "java/lang/Object") 17 own_17 .null))
theorem DQ.lt {qs qj : Int32} (F : DQ Z h a d qs qj) : a < h.size := F.1.lt
theorem DQ.ltd {qs qj : Int32} (F : DQ Z h a d qs qj) : d < h.size := by
  obtain ⟨f1, f2, f3, k, b, o, ⟨_, _, _, V⟩ | ⟨_, _, _, _, V⟩ | ⟨_, _, _, V⟩⟩ := F <;> exact V.lt
theorem DQ.freshle {qs qj : Int32} (F : DQ Z h a d qs qj) (hz : h.size ≤ x) : x ≠ a ∧ x ≠ d := ⟨fun e => absurd F.lt (by rw [← e]; exact Nat.not_lt.mpr hz), fun e => absurd F.ltd (by rw [← e]; exact Nat.not_lt.mpr hz)⟩
theorem DQ.ext {qs qj : Int32} (F : DQ Z h a d qs qj) (E : Ext h h') : DQ Z h' a d qs qj := by
  obtain ⟨f1, f2, f3, k, b, o, g⟩ := F
  refine ⟨f1.ext E, f2.ext E, f3, k, b, o, ?_⟩
  rcases g with ⟨g1, g2, g3, V⟩ | ⟨g1, g2, g3, g4, V⟩ | ⟨g1, g2, g3, V⟩
  · exact Or.inl ⟨g1, g2.ext E, g3.ext E, V.ext E⟩
  · exact Or.inr (Or.inl ⟨g1, g2.ext E, g3.ext E, g4, V.ext E⟩)
  · exact Or.inr (Or.inr ⟨g1, g2.ext E, g3.ext E, V.ext E⟩)
theorem DQ.other {qs qj : Int32} (F : DQ Z h a d qs qj) (W : Wr h h' x sl u) (n : x ≠ a ∧ x ≠ d) : DQ Z h' a d qs qj := by
  obtain ⟨f1, f2, f3, k, b, o, g⟩ := F
  have n1 := Ne.symm n.1
  have n2 := Ne.symm n.2
  refine ⟨f1.wr W, f2.other W (Or.inl n1), f3, k, b, o, ?_⟩
  rcases g with ⟨g1, g2, g3, V⟩ | ⟨g1, g2, g3, g4, V⟩ | ⟨g1, g2, g3, V⟩
  · exact Or.inl ⟨g1, g2.other W (Or.inl n1), g3.other W (Or.inl n1), V.other W n2⟩
  · exact Or.inr (Or.inl ⟨g1, g2.other W (Or.inl n1), g3.other W (Or.inl n1), g4, V.other W n2⟩)
  · exact Or.inr (Or.inr ⟨g1, g2.other W (Or.inl n1), g3.other W (Or.inl n1), V.other W n2⟩)
theorem DQ.keep {qs qj : Int32} (F : DQ Z h a d qs qj) (K : Keep h h' ws) (n : ∀ x ∈ ws, x ≠ a ∧ x ≠ d) : DQ Z h' a d qs qj := by
  obtain ⟨f1, f2, f3, k, b, o, g⟩ := F
  have n1 : a ∉ ws := fun m => (n _ m).1 rfl
  have n2 : d ∉ ws := fun m => (n _ m).2 rfl
  refine ⟨f1.keep K, f2.keep K n1, f3, k, b, o, ?_⟩
  rcases g with ⟨g1, g2, g3, V⟩ | ⟨g1, g2, g3, g4, V⟩ | ⟨g1, g2, g3, V⟩
  · exact Or.inl ⟨g1, g2.keep K n1, g3.keep K n1, V.keep K n2⟩
  · exact Or.inr (Or.inl ⟨g1, g2.keep K n1, g3.keep K n1, g4, V.keep K n2⟩)
  · exact Or.inr (Or.inr ⟨g1, g2.keep K n1, g3.keep K n1, V.keep K n2⟩)
theorem DQ.new {qs qj : Int32} (F : DQ Z h a d qs qj) (q : qs = 0) : Exa Z h a s8_ ∧ Fld Z h a s8_ "elements" "[Ljava/lang/Object;" (.ref d) ∧ a ≠ d ∧ ∃ (k : ClassId) (b : Addr), Ovr Z k "java/lang/Object" ∧ Fld Z h a s8_ "head" "I" (.int 0) ∧ Fld Z h a s8_ "tail" "I" (.int 0) ∧ Arv Z h d k (.object "java/lang/Object") 17 own_17 .null := by
  obtain ⟨f1, f2, f3, k, b, o, g⟩ := F
  refine ⟨f1, f2, f3, k, b, o, ?_⟩
  rcases g with ⟨g1, g2, g3, V⟩ | ⟨g1, g2, g3, g4, V⟩ | ⟨g1, g2, g3, V⟩
  · exact ⟨g2, g3, V⟩
  · rw [q] at g1; exact absurd g1 (by decide)
  · rw [q] at g1; exact absurd g1 (by decide)
theorem DQ.full {qs qj : Int32} (F : DQ Z h a d qs qj) (q : qs = 1) : Exa Z h a s8_ ∧ Fld Z h a s8_ "elements" "[Ljava/lang/Object;" (.ref d) ∧ a ≠ d ∧ ∃ (k : ClassId) (b : Addr), Ovr Z k "java/lang/Object" ∧ Fld Z h a s8_ "head" "I" (.int 0) ∧ Fld Z h a s8_ "tail" "I" (.int 1) ∧ BoxV Z b qj ∧ Arv Z h d k (.object "java/lang/Object") 17 (own_17b b) .null := by
  obtain ⟨f1, f2, f3, k, b, o, g⟩ := F
  refine ⟨f1, f2, f3, k, b, o, ?_⟩
  rcases g with ⟨g1, g2, g3, V⟩ | ⟨g1, g2, g3, g4, V⟩ | ⟨g1, g2, g3, V⟩
  · rw [q] at g1; exact absurd g1 (by decide)
  · exact ⟨g2, g3, g4, V⟩
  · rw [q] at g1; exact absurd g1 (by decide)
def own_ie (qs : Int32) : Int32 := if qs = 1 then 0 else 1
def own_min (a b : Int32) : Int32 := if b < a then b else a
theorem own_cp {k : ClassId} {xs : List Int32} {n : Int32} (hn : n.toNatClampNeg ≤ xs.length) (V : Arv Z h d k .int n (((List.replicate n.toNatClampNeg (0 : Int32)).map Value.int).take (0 : Int32).toNatClampNeg ++ ((List.range n.toNatClampNeg).map fun i => (xs.map Value.int).getD ((0 : Int32).toNatClampNeg + i) (.int 0)) ++ ((List.replicate n.toNatClampNeg (0 : Int32)).map Value.int).drop ((0 : Int32).toNatClampNeg + n.toNatClampNeg)) (.int 0)) : PA Z h d .int (xs.take n.toNatClampNeg) := by
  refine ⟨k, n, ?_, by rw [List.length_take]; omega⟩
  have z : (0 : Int32).toNatClampNeg = 0 := by decide
  have e : ((List.replicate n.toNatClampNeg (0 : Int32)).map Value.int).take (0 : Int32).toNatClampNeg ++ ((List.range n.toNatClampNeg).map fun i => (xs.map Value.int).getD ((0 : Int32).toNatClampNeg + i) (.int 0)) ++ ((List.replicate n.toNatClampNeg (0 : Int32)).map Value.int).drop ((0 : Int32).toNatClampNeg + n.toNatClampNeg) = (xs.take n.toNatClampNeg).map Value.int := by
    rw [z]
    apply List.ext_getElem
    · simp; omega
    · intro i h1 h2
      have hi : i < n.toNatClampNeg := by simp at h2; omega
      simp [List.getD_eq_getElem?_getD, hi, show i < xs.length by omega]
  rw [e] at V; exact V
theorem own_mine {xs : List Int32} {n : Int32} (h0 : ¬ n < 0) (hn : n.toNatClampNeg ≤ xs.length) (hx : ¬ own_n xs < 0 ∧ (own_n xs).toNatClampNeg = xs.length) : own_min (own_n xs) n = n := by
  unfold own_min
  by_cases q : n < own_n xs
  · rw [if_pos q]
  · rw [if_neg q]
    obtain ⟨h1, h2⟩ := hx
    rw [← h2] at hn
    rw [Int32.lt_iff_toInt_lt] at q h0 h1
    have e0 : (0 : Int32).toInt = 0 := rfl
    simp only [Int32.toNatClampNeg] at hn
    apply Int32.toInt_inj.mp; omega
end OwnNet
def own_fl (f a b : Int32) : Int32 := if f = 0 then a else b
def own_q (f a b o : Int32) : Int32 × Int32 × Int32 := (own_fl f a b, own_fl f b a, o)
def own_arm (h s r v f g : Int32) : List (Int32 × Int32 × Int32) := if v = 0 then [own_q f h r 1] else [own_q f h s 1, own_q g s r 1]
def own_mc (v m : Int32) : Int32 := if v = 0 then (m + 1) else ((m + 1) + 1)
theorem own_arml (h s r v f g : Int32) : (own_arm h s r v f g).length ≤ 2 := by unfold own_arm; split <;> simp
theorem own_nne {α : Type} {ps : List α} (q : ps.length < 10) : ¬ own_n ps = 10 := fun e => by have l := own_n10l q; rw [e] at l; exact absurd l (by decide)
theorem own_one {α : Type} (q : α) : own_n [q] = 1 := rfl
def own_hn (i n : Int32) : Int32 := if i = n then 0 else 1
def FS (Z : State) (h : Heap) (tt : Addr) (v0 v1 v2 v3 v4 v5 v6 v7 v8 v9 : Value) : Prop := Fld Z h tt s4_ "pendantPipes" "[I" v0 ∧ Fld Z h tt s4_ "leaves" "[I" v1 ∧ Fld Z h tt s4_ "roots" "[I" v2 ∧ Fld Z h tt s4_ "chainStarts" "[I" v3 ∧ Fld Z h tt s4_ "chainBounds" "[I" v4 ∧ Fld Z h tt s4_ "chainPipes" "[I" v5 ∧ Fld Z h tt s4_ "chainNodes" "[I" v6 ∧ Fld Z h tt s4_ "unknowns" "[I" v7 ∧ Fld Z h tt s4_ "branchJunctions" "[I" v8 ∧ Fld Z h tt s4_ "cutOff" "I" v9
theorem FS.ext {Z : State} {h h' : Heap} {tt : Addr} {v0 v1 v2 v3 v4 v5 v6 v7 v8 v9 : Value} (F : FS Z h tt v0 v1 v2 v3 v4 v5 v6 v7 v8 v9) (E : Ext h h') : FS Z h' tt v0 v1 v2 v3 v4 v5 v6 v7 v8 v9 := by
  obtain ⟨f0, f1, f2, f3, f4, f5, f6, f7, f8, f9⟩ := F
  exact ⟨f0.ext E, f1.ext E, f2.ext E, f3.ext E, f4.ext E, f5.ext E, f6.ext E, f7.ext E, f8.ext E, f9.ext E⟩
theorem FS.other {Z : State} {h h' : Heap} {tt : Addr} {v0 v1 v2 v3 v4 v5 v6 v7 v8 v9 : Value} (F : FS Z h tt v0 v1 v2 v3 v4 v5 v6 v7 v8 v9) {x : Addr} {sl : Nat} {u : Value} (W : Wr h h' x sl u) (n : tt ≠ x) : FS Z h' tt v0 v1 v2 v3 v4 v5 v6 v7 v8 v9 := by
  obtain ⟨f0, f1, f2, f3, f4, f5, f6, f7, f8, f9⟩ := F
  exact ⟨f0.other W (Or.inl n), f1.other W (Or.inl n), f2.other W (Or.inl n), f3.other W (Or.inl n), f4.other W (Or.inl n), f5.other W (Or.inl n), f6.other W (Or.inl n), f7.other W (Or.inl n), f8.other W (Or.inl n), f9.other W (Or.inl n)⟩
theorem FS.keep {Z : State} {h h' : Heap} {tt : Addr} {v0 v1 v2 v3 v4 v5 v6 v7 v8 v9 : Value} (F : FS Z h tt v0 v1 v2 v3 v4 v5 v6 v7 v8 v9) {ws : List Addr} (K : Keep h h' ws) (n : tt ∉ ws) : FS Z h' tt v0 v1 v2 v3 v4 v5 v6 v7 v8 v9 := by
  obtain ⟨f0, f1, f2, f3, f4, f5, f6, f7, f8, f9⟩ := F
  exact ⟨f0.keep K n, f1.keep K n, f2.keep K n, f3.keep K n, f4.keep K n, f5.keep K n, f6.keep K n, f7.keep K n, f8.keep K n, f9.keep K n⟩

theorem pn0 : plainName "java/lang/Record" = true := by first | (simp [plainName, overriddenIn]; done) | decide +kernel
theorem ef_rrec (m : MethodId) (x0 : Addr) : entryFrame m #[(.ref x0)] 1 = mkF m 0 #[.val (.ref x0)] [] := by first | (simp [entryFrame, mkF, argsToLocals, Value.category]; done) | rfl
def Q_rrec (Z : State) (a : Addr) (h0 : Heap) (n0 : Nat) (v : Option Value) (h : Heap) (L : List Loc) : Prop := v = none ∧ Fr n0 L ∧ h = h0
theorem rrec (l : Launch) (Z : State) (a0 : Array Value) (hw : OHW Z a0) (ws : List Jvm.Cond) (a : Addr) (h0 : Heap) (n0 : Nat) (Z0 : n0 ≤ h0.size)  :
    OCon l Z (⟨"java/lang/Record", "<init>", "()V"⟩ : MethodName) c12_ 1 none ws ({ frames := 1, cells := 0, slots := 0, locals := 12 } : Room) #[(.ref a)] h0 (Q_rrec Z a h0 n0) := by
  refine OCon.of (plainFor_of_name pn0) ?_
  intro p e s m below meth c s₁ Φ X0 hx hby hml hown hnm hret hlk hZ e0 hΦ
  have N0 := Fr.nil n0
  refine os (fun _ z => castTop (ef_rrec m a) z) ?_
  show OG p e below Φ s₁ m 0 #[rv a] []
  refine gAn X0 hx hby (eD D12_0_ 0 rfl) rfl rfl ?_
  obtain ⟨T1, X1, e1, st1⟩ := initO X0 hx hZ hown (ow72 hw) (ow20 hw) (ow21 hw) e0 (g := (mkF m 1 #[rv a] [(.ref a)])) rfl (by rw [hml]; rfl) rfl (hb hby (eD D12_0_ 1 rfl)) (by decide) (W := 0) (Nat.le_of_eq rfl) (by decide)
  refine os st1 ?_
  refine OGo.fin X1 hlk (v := none) (fun _ => rfl) (by decide) (by decide) (fun fs hr => X1.returnOut hx hret (hb hby (eD D12_0_ 2 rfl)) hr) fun U eU hF => hΦ _ _ _ ?_ hF
  rw [eU, e1]
  show Q_rrec Z a h0 n0 _ _ _
  exact ⟨rfl, N0, rfl⟩

theorem pn1 : plainName s1_ = true := by first | (simp [plainName, overriddenIn]; done) | decide +kernel
theorem pd0 : parseMethodDescriptor "()V" = some ⟨[], none⟩ := by decide +kernel
theorem ef_rpi (m : MethodId) (x0 : Addr) (x2 : Int32) (x3 : Int32) (x4 : UInt64) (x5 : UInt64) (x6 : UInt64) (x7 : Int32) : entryFrame m #[(.ref x0), .null, (.int x2), (.int x3), (.double x4), (.double x5), (.double x6), (.int x7)] 11 = mkF m 0 #[.val (.ref x0), .val .null, .val (.int x2), .val (.int x3), .val (.double x4), .second, .val (.double x5), .second, .val (.double x6), .second, .val (.int x7)] [] := by first | (simp [entryFrame, mkF, argsToLocals, Value.category]; done) | rfl
def Q_rpi (Z : State) (a : Addr) (x2 : Int32) (x3 : Int32) (x4 : UInt64) (x5 : UInt64) (x6 : UInt64) (x7 : Int32) (u0 : Value) (u1 : Value) (u2 : Value) (u3 : Value) (u4 : Value) (u5 : Value) (u6 : Value) (h0 : Heap) (n0 : Nat) (v : Option Value) (h : Heap) (L : List Loc) : Prop := v = none ∧ Fr n0 L ∧ Keep h0 h [a] ∧ Exa Z h a s1_ ∧ Fld Z h a s1_ "id" "Ljava/lang/String;" .null ∧ Fld Z h a s1_ "from" "I" (.int x2) ∧ Fld Z h a s1_ "to" "I" (.int x3) ∧ Fld Z h a s1_ "length" "D" (.double x4) ∧ Fld Z h a s1_ "diameter" "D" (.double x5) ∧ Fld Z h a s1_ "roughness" "D" (.double x6) ∧ Fld Z h a s1_ "open" "Z" (.int x7)
theorem rpi (l : Launch) (Z : State) (a0 : Array Value) (hw : OHW Z a0) (ws : List Jvm.Cond) (a : Addr) (x2 : Int32) (x3 : Int32) (x4 : UInt64) (x5 : UInt64) (x6 : UInt64) (x7 : Int32) (u0 : Value) (u1 : Value) (u2 : Value) (u3 : Value) (u4 : Value) (u5 : Value) (u6 : Value) (h0 : Heap) (n0 : Nat) (Z0 : n0 ≤ h0.size) (E_a : Exa Z h0 a s1_) (g_a : n0 ≤ a) (F_0 : Fld Z h0 a s1_ "id" "Ljava/lang/String;" u0) (F_1 : Fld Z h0 a s1_ "from" "I" u1) (F_2 : Fld Z h0 a s1_ "to" "I" u2) (F_3 : Fld Z h0 a s1_ "length" "D" u3) (F_4 : Fld Z h0 a s1_ "diameter" "D" u4) (F_5 : Fld Z h0 a s1_ "roughness" "D" u5) (F_6 : Fld Z h0 a s1_ "open" "Z" u6) (hz7 : x7 = 0 ∨ x7 = 1) :
    OCon l Z (⟨s1_, "<init>", "(Ljava/lang/String;IIDDDZ)V"⟩ : MethodName) c38_ 11 none ws ({ frames := 2, cells := 0, slots := 0, locals := 24 } : Room) #[(.ref a), .null, (.int x2), (.int x3), (.double x4), (.double x5), (.double x6), (.int x7)] h0 (Q_rpi Z a x2 x3 x4 x5 x6 x7 u0 u1 u2 u3 u4 u5 u6 h0 n0) := by
  refine OCon.of (plainFor_of_name pn1) ?_
  intro p e s m below meth c s₁ Φ X0 hx hby hml hown hnm hret hlk hZ e0 hΦ
  have N0 := Fr.nil n0
  refine os (fun _ z => castTop (ef_rpi m a x2 x3 x4 x5 x6 x7) z) ?_
  have K0 := Keep.refl h0 [a]
  show OG p e below Φ s₁ m 0 #[rv a, .val .null, iv x2, iv x3, .val (.double x4), .second, .val (.double x5), .second, .val (.double x6), .second, iv x7] []
  refine gAn X0 hx hby (eD D11_0_ 0 rfl) rfl rfl ?_
  obtain ⟨_, T1, L1, X1, hQ1, st1⟩ := own_callSp X0 hx hZ rfl hown (ow67 hw) (ow68 hw) (ow70 hw) (ow71 hw) (by decide) (rrec l Z a0 hw [] a h0 n0 Z0 ) e0 (W := 0) (by decide) (pc := 1) (ls := #[rv a, .val .null, iv x2, iv x3, .val (.double x4), .second, .val (.double x5), .second, .val (.double x6), .second, iv x7]) (stk := [(.ref a)]) (by rw [hml]; rfl) (a := a) (argsL := []) (rest := []) (lenOf pd0 rfl) rfl rfl (Nat.le_of_eq rfl) (hb hby (eD D11_0_ 1 rfl))
  obtain ⟨rfl, Nq1, e1⟩ := hQ1
  have N1 := Fr.app N0 Nq1
  refine os st1 ?_
  refine gAn X1 hx hby (eD D11_0_ 2 rfl) rfl rfl ?_
  refine gAn X1 hx hby (eD D11_0_ 3 rfl) rfl rfl ?_
  obtain ⟨T2, h2, X2, e2, W2, st2⟩ := putF X1 hx hZ hown (host := "") (Or.inl (ow73 hw)) Via.refl e1 F_0 E_a (Or.inr ⟨(ow74 hw), rfl, hnm⟩) (ow62 hw) (ty := (.object "java/lang/String")) (by decide) rfl rfl (g := (mkF m 6 #[rv a, .val .null, iv x2, iv x3, .val (.double x4), .second, .val (.double x5), .second, .val (.double x6), .second, iv x7] [.null, (.ref a)])) rfl rfl (hb hby (eD D11_0_ 4 rfl))
  have F3 := E_a.wr W2
  have F4 := F_0.same W2
  have F5 := F_1.other W2 (Or.inr (slot_ne (Or.inr (ow76 hw)) (Or.inr (ow74 hw)) (by decide) (t := .int) (t' := (.object "java/lang/String")) (by decide) (by decide)))
  have F6 := F_2.other W2 (Or.inr (slot_ne (Or.inr (ow78 hw)) (Or.inr (ow74 hw)) (by decide) (t := .int) (t' := (.object "java/lang/String")) (by decide) (by decide)))
  have F7 := F_3.other W2 (Or.inr (slot_ne (Or.inr (ow80 hw)) (Or.inr (ow74 hw)) (by decide) (t := .double) (t' := (.object "java/lang/String")) (by decide) (by decide)))
  have F8 := F_4.other W2 (Or.inr (slot_ne (Or.inr (ow82 hw)) (Or.inr (ow74 hw)) (by decide) (t := .double) (t' := (.object "java/lang/String")) (by decide) (by decide)))
  have F9 := F_5.other W2 (Or.inr (slot_ne (Or.inr (ow84 hw)) (Or.inr (ow74 hw)) (by decide) (t := .double) (t' := (.object "java/lang/String")) (by decide) (by decide)))
  have F10 := F_6.other W2 (Or.inr (slot_ne (Or.inr (ow86 hw)) (Or.inr (ow74 hw)) (by decide) (t := .boolean) (t' := (.object "java/lang/String")) (by decide) (by decide)))
  have K2 := K0.wr W2 (Or.inl (List.mem_of_getElem? (i := 0) rfl))
  have N2 := Fr.snoc X2 N1 g_a
  have Zs2 := ozw W2 Z0
  refine os st2 ?_
  refine gAn X2 hx hby (eD D11_0_ 5 rfl) rfl rfl ?_
  refine gIn X2 hx hby (eD D11_0_ 6 rfl) rfl ?_
  obtain ⟨T11, h11, X11, e11, W11, st11⟩ := putF X2 hx hZ hown (host := "") (Or.inl (ow75 hw)) Via.refl e2 F5 F3 (Or.inr ⟨(ow76 hw), rfl, hnm⟩) (ow62 hw) (ty := .int) (by decide) rfl rfl (g := (mkF m 11 #[rv a, .val .null, iv x2, iv x3, .val (.double x4), .second, .val (.double x5), .second, .val (.double x6), .second, iv x7] [(.int x2), (.ref a)])) rfl rfl (hb hby (eD D11_0_ 7 rfl))
  have F12 := F3.wr W11
  have F13 := F4.other W11 (Or.inr (slot_ne (Or.inr (ow74 hw)) (Or.inr (ow76 hw)) (by decide) (t := (.object "java/lang/String")) (t' := .int) (by decide) (by decide)))
  have F14 := F5.same W11
  have F15 := F6.other W11 (Or.inr (slot_ne (Or.inr (ow78 hw)) (Or.inr (ow76 hw)) (by decide) (t := .int) (t' := .int) (by decide) (by decide)))
  have F16 := F7.other W11 (Or.inr (slot_ne (Or.inr (ow80 hw)) (Or.inr (ow76 hw)) (by decide) (t := .double) (t' := .int) (by decide) (by decide)))
  have F17 := F8.other W11 (Or.inr (slot_ne (Or.inr (ow82 hw)) (Or.inr (ow76 hw)) (by decide) (t := .double) (t' := .int) (by decide) (by decide)))
  have F18 := F9.other W11 (Or.inr (slot_ne (Or.inr (ow84 hw)) (Or.inr (ow76 hw)) (by decide) (t := .double) (t' := .int) (by decide) (by decide)))
  have F19 := F10.other W11 (Or.inr (slot_ne (Or.inr (ow86 hw)) (Or.inr (ow76 hw)) (by decide) (t := .boolean) (t' := .int) (by decide) (by decide)))
  have K11 := K2.wr W11 (Or.inl (List.mem_of_getElem? (i := 0) rfl))
  have N11 := Fr.snoc X11 N2 g_a
  have Zs11 := ozw W11 Zs2
  refine os st11 ?_
  refine gAn X11 hx hby (eD D11_0_ 8 rfl) rfl rfl ?_
  refine gIn X11 hx hby (eD D11_0_ 9 rfl) rfl ?_
  obtain ⟨T20, h20, X20, e20, W20, st20⟩ := putF X11 hx hZ hown (host := "") (Or.inl (ow77 hw)) Via.refl e11 F15 F12 (Or.inr ⟨(ow78 hw), rfl, hnm⟩) (ow62 hw) (ty := .int) (by decide) rfl rfl (g := (mkF m 16 #[rv a, .val .null, iv x2, iv x3, .val (.double x4), .second, .val (.double x5), .second, .val (.double x6), .second, iv x7] [(.int x3), (.ref a)])) rfl rfl (hb hby (eD D11_0_ 10 rfl))
  have F21 := F12.wr W20
  have F22 := F13.other W20 (Or.inr (slot_ne (Or.inr (ow74 hw)) (Or.inr (ow78 hw)) (by decide) (t := (.object "java/lang/String")) (t' := .int) (by decide) (by decide)))
  have F23 := F14.other W20 (Or.inr (slot_ne (Or.inr (ow76 hw)) (Or.inr (ow78 hw)) (by decide) (t := .int) (t' := .int) (by decide) (by decide)))
  have F24 := F15.same W20
  have F25 := F16.other W20 (Or.inr (slot_ne (Or.inr (ow80 hw)) (Or.inr (ow78 hw)) (by decide) (t := .double) (t' := .int) (by decide) (by decide)))
  have F26 := F17.other W20 (Or.inr (slot_ne (Or.inr (ow82 hw)) (Or.inr (ow78 hw)) (by decide) (t := .double) (t' := .int) (by decide) (by decide)))
  have F27 := F18.other W20 (Or.inr (slot_ne (Or.inr (ow84 hw)) (Or.inr (ow78 hw)) (by decide) (t := .double) (t' := .int) (by decide) (by decide)))
  have F28 := F19.other W20 (Or.inr (slot_ne (Or.inr (ow86 hw)) (Or.inr (ow78 hw)) (by decide) (t := .boolean) (t' := .int) (by decide) (by decide)))
  have K20 := K11.wr W20 (Or.inl (List.mem_of_getElem? (i := 0) rfl))
  have N20 := Fr.snoc X20 N11 g_a
  have Zs20 := ozw W20 Zs11
  refine os st20 ?_
  refine gAn X20 hx hby (eD D11_0_ 11 rfl) rfl rfl ?_
  refine os (fun _ z => XS.dload X20.here hx rfl (hb hby (eD D11_0_ 12 rfl)) rfl z) ?_
  obtain ⟨T29, h29, X29, e29, W29, st29⟩ := putF X20 hx hZ hown (host := "") (Or.inl (ow79 hw)) Via.refl e20 F25 F21 (Or.inr ⟨(ow80 hw), rfl, hnm⟩) (ow62 hw) (ty := .double) (by decide) rfl rfl (g := (mkF m 22 #[rv a, .val .null, iv x2, iv x3, .val (.double x4), .second, .val (.double x5), .second, .val (.double x6), .second, iv x7] [(.double x4), (.ref a)])) rfl rfl (hb hby (eD D11_0_ 13 rfl))
  have F30 := F21.wr W29
  have F31 := F22.other W29 (Or.inr (slot_ne (Or.inr (ow74 hw)) (Or.inr (ow80 hw)) (by decide) (t := (.object "java/lang/String")) (t' := .double) (by decide) (by decide)))
  have F32 := F23.other W29 (Or.inr (slot_ne (Or.inr (ow76 hw)) (Or.inr (ow80 hw)) (by decide) (t := .int) (t' := .double) (by decide) (by decide)))
  have F33 := F24.other W29 (Or.inr (slot_ne (Or.inr (ow78 hw)) (Or.inr (ow80 hw)) (by decide) (t := .int) (t' := .double) (by decide) (by decide)))
  have F34 := F25.same W29
  have F35 := F26.other W29 (Or.inr (slot_ne (Or.inr (ow82 hw)) (Or.inr (ow80 hw)) (by decide) (t := .double) (t' := .double) (by decide) (by decide)))
  have F36 := F27.other W29 (Or.inr (slot_ne (Or.inr (ow84 hw)) (Or.inr (ow80 hw)) (by decide) (t := .double) (t' := .double) (by decide) (by decide)))
  have F37 := F28.other W29 (Or.inr (slot_ne (Or.inr (ow86 hw)) (Or.inr (ow80 hw)) (by decide) (t := .boolean) (t' := .double) (by decide) (by decide)))
  have K29 := K20.wr W29 (Or.inl (List.mem_of_getElem? (i := 0) rfl))
  have N29 := Fr.snoc X29 N20 g_a
  have Zs29 := ozw W29 Zs20
  refine os st29 ?_
  refine gAn X29 hx hby (eD D11_0_ 14 rfl) rfl rfl ?_
  refine os (fun _ z => XS.dload X29.here hx rfl (hb hby (eD D11_0_ 15 rfl)) rfl z) ?_
  obtain ⟨T38, h38, X38, e38, W38, st38⟩ := putF X29 hx hZ hown (host := "") (Or.inl (ow81 hw)) Via.refl e29 F35 F30 (Or.inr ⟨(ow82 hw), rfl, hnm⟩) (ow62 hw) (ty := .double) (by decide) rfl rfl (g := (mkF m 28 #[rv a, .val .null, iv x2, iv x3, .val (.double x4), .second, .val (.double x5), .second, .val (.double x6), .second, iv x7] [(.double x5), (.ref a)])) rfl rfl (hb hby (eD D11_1_ 0 rfl))
  have F39 := F30.wr W38
  have F40 := F31.other W38 (Or.inr (slot_ne (Or.inr (ow74 hw)) (Or.inr (ow82 hw)) (by decide) (t := (.object "java/lang/String")) (t' := .double) (by decide) (by decide)))
  have F41 := F32.other W38 (Or.inr (slot_ne (Or.inr (ow76 hw)) (Or.inr (ow82 hw)) (by decide) (t := .int) (t' := .double) (by decide) (by decide)))
  have F42 := F33.other W38 (Or.inr (slot_ne (Or.inr (ow78 hw)) (Or.inr (ow82 hw)) (by decide) (t := .int) (t' := .double) (by decide) (by decide)))
  have F43 := F34.other W38 (Or.inr (slot_ne (Or.inr (ow80 hw)) (Or.inr (ow82 hw)) (by decide) (t := .double) (t' := .double) (by decide) (by decide)))
  have F44 := F35.same W38
  have F45 := F36.other W38 (Or.inr (slot_ne (Or.inr (ow84 hw)) (Or.inr (ow82 hw)) (by decide) (t := .double) (t' := .double) (by decide) (by decide)))
  have F46 := F37.other W38 (Or.inr (slot_ne (Or.inr (ow86 hw)) (Or.inr (ow82 hw)) (by decide) (t := .boolean) (t' := .double) (by decide) (by decide)))
  have K38 := K29.wr W38 (Or.inl (List.mem_of_getElem? (i := 0) rfl))
  have N38 := Fr.snoc X38 N29 g_a
  have Zs38 := ozw W38 Zs29
  refine os st38 ?_
  refine gAn X38 hx hby (eD D11_1_ 1 rfl) rfl rfl ?_
  refine os (fun _ z => XS.dload X38.here hx rfl (hb hby (eD D11_1_ 2 rfl)) rfl z) ?_
  obtain ⟨T47, h47, X47, e47, W47, st47⟩ := putF X38 hx hZ hown (host := "") (Or.inl (ow83 hw)) Via.refl e38 F45 F39 (Or.inr ⟨(ow84 hw), rfl, hnm⟩) (ow62 hw) (ty := .double) (by decide) rfl rfl (g := (mkF m 34 #[rv a, .val .null, iv x2, iv x3, .val (.double x4), .second, .val (.double x5), .second, .val (.double x6), .second, iv x7] [(.double x6), (.ref a)])) rfl rfl (hb hby (eD D11_1_ 3 rfl))
  have F48 := F39.wr W47
  have F49 := F40.other W47 (Or.inr (slot_ne (Or.inr (ow74 hw)) (Or.inr (ow84 hw)) (by decide) (t := (.object "java/lang/String")) (t' := .double) (by decide) (by decide)))
  have F50 := F41.other W47 (Or.inr (slot_ne (Or.inr (ow76 hw)) (Or.inr (ow84 hw)) (by decide) (t := .int) (t' := .double) (by decide) (by decide)))
  have F51 := F42.other W47 (Or.inr (slot_ne (Or.inr (ow78 hw)) (Or.inr (ow84 hw)) (by decide) (t := .int) (t' := .double) (by decide) (by decide)))
  have F52 := F43.other W47 (Or.inr (slot_ne (Or.inr (ow80 hw)) (Or.inr (ow84 hw)) (by decide) (t := .double) (t' := .double) (by decide) (by decide)))
  have F53 := F44.other W47 (Or.inr (slot_ne (Or.inr (ow82 hw)) (Or.inr (ow84 hw)) (by decide) (t := .double) (t' := .double) (by decide) (by decide)))
  have F54 := F45.same W47
  have F55 := F46.other W47 (Or.inr (slot_ne (Or.inr (ow86 hw)) (Or.inr (ow84 hw)) (by decide) (t := .boolean) (t' := .double) (by decide) (by decide)))
  have K47 := K38.wr W47 (Or.inl (List.mem_of_getElem? (i := 0) rfl))
  have N47 := Fr.snoc X47 N38 g_a
  have Zs47 := ozw W47 Zs38
  refine os st47 ?_
  refine gAn X47 hx hby (eD D11_1_ 4 rfl) rfl rfl ?_
  refine gI X47 hx hby (eD D11_1_ 5 rfl) rfl ?_
  obtain ⟨T56, h56, X56, e56, W56, st56⟩ := putF X47 hx hZ hown (host := "") (Or.inl (ow85 hw)) Via.refl e47 F55 F48 (Or.inr ⟨(ow86 hw), rfl, hnm⟩) (ow62 hw) (ty := .boolean) (by decide) (own_nz hz7) (own_fz hz7) (g := (mkF m 40 #[rv a, .val .null, iv x2, iv x3, .val (.double x4), .second, .val (.double x5), .second, .val (.double x6), .second, iv x7] [(.int x7), (.ref a)])) rfl rfl (hb hby (eD D11_1_ 6 rfl))
  have F57 := F48.wr W56
  have F58 := F49.other W56 (Or.inr (slot_ne (Or.inr (ow74 hw)) (Or.inr (ow86 hw)) (by decide) (t := (.object "java/lang/String")) (t' := .boolean) (by decide) (by decide)))
  have F59 := F50.other W56 (Or.inr (slot_ne (Or.inr (ow76 hw)) (Or.inr (ow86 hw)) (by decide) (t := .int) (t' := .boolean) (by decide) (by decide)))
  have F60 := F51.other W56 (Or.inr (slot_ne (Or.inr (ow78 hw)) (Or.inr (ow86 hw)) (by decide) (t := .int) (t' := .boolean) (by decide) (by decide)))
  have F61 := F52.other W56 (Or.inr (slot_ne (Or.inr (ow80 hw)) (Or.inr (ow86 hw)) (by decide) (t := .double) (t' := .boolean) (by decide) (by decide)))
  have F62 := F53.other W56 (Or.inr (slot_ne (Or.inr (ow82 hw)) (Or.inr (ow86 hw)) (by decide) (t := .double) (t' := .boolean) (by decide) (by decide)))
  have F63 := F54.other W56 (Or.inr (slot_ne (Or.inr (ow84 hw)) (Or.inr (ow86 hw)) (by decide) (t := .double) (t' := .boolean) (by decide) (by decide)))
  have F64 := F55.same W56
  have K56 := K47.wr W56 (Or.inl (List.mem_of_getElem? (i := 0) rfl))
  have N56 := Fr.snoc X56 N47 g_a
  have Zs56 := ozw W56 Zs47
  refine os st56 ?_
  refine OGo.fin X56 hlk (v := none) (fun _ => rfl) (by decide) (by decide) (fun fs hr => X56.returnOut hx hret (hb hby (eD D11_1_ 7 rfl)) hr) fun U eU hF => hΦ _ _ _ ?_ hF
  rw [eU, e56]
  show Q_rpi Z a x2 x3 x4 x5 x6 x7 u0 u1 u2 u3 u4 u5 u6 h0 n0 _ _ _
  exact ⟨rfl, N56, K56, F57, F58, F59, F60, F61, F62, F63, F64⟩

theorem pn2 : plainName s0_ = true := by first | (simp [plainName, overriddenIn]; done) | decide +kernel
theorem pd1 : parseMethodDescriptor "(Ljava/lang/String;IIDDDZ)V" = some ⟨[(.object "java/lang/String"), .int, .int, .double, .double, .double, .boolean], none⟩ := by decide +kernel
theorem ef_rpp (m : MethodId) (x0 : Int32) (x1 : Int32) (x2 : Int32) (x3 : Int32) : entryFrame m #[(.int x0), (.int x1), (.int x2), (.int x3)] 4 = mkF m 0 #[.val (.int x0), .val (.int x1), .val (.int x2), .val (.int x3)] [] := by first | (simp [entryFrame, mkF, argsToLocals, Value.category]; done) | rfl
def Q_rpp (Z : State) (xa : Int32) (xb : Int32) (xf : Int32) (xo : Int32) (h0 : Heap) (n0 : Nat) (v : Option Value) (h : Heap) (L : List Loc) : Prop := ∃ x, v = some (.ref x) ∧ Fr n0 L ∧ Keep h0 h [] ∧ PipeV Z h x (own_q xf xa xb xo) ∧ h0.size ≤ x
theorem rpp (l : Launch) (Z : State) (a0 : Array Value) (hw : OHW Z a0) (ws : List Jvm.Cond) (xa : Int32) (xb : Int32) (xf : Int32) (xo : Int32) (h0 : Heap) (n0 : Nat) (Z0 : n0 ≤ h0.size) (hzo : xo = 0 ∨ xo = 1) :
    OCon l Z (⟨s0_, "pipe", "(IIZZ)Lcom/example/hydromeme/hydromeme/Network$Pipe;"⟩ : MethodName) method_3_code 4 (some (.object s1_)) ws ({ frames := 3, cells := 1, slots := 7, locals := 47 } : Room) #[(.int xa), (.int xb), (.int xf), (.int xo)] h0 (Q_rpp Z xa xb xf xo h0 n0) := by
  refine OCon.of (plainFor_of_name pn2) ?_
  intro p e s m below meth c s₁ Φ X0 hx hby hml hown hnm hret hlk hZ e0 hΦ
  have N0 := Fr.nil n0
  refine os (fun _ z => castTop (ef_rpp m xa xb xf xo) z) ?_
  have K0 := Keep.refl h0 []
  show OG p e below Φ s₁ m 0 #[iv xa, iv xb, iv xf, iv xo] []
  obtain ⟨T1, h1, X1, e1, E1, A1, D1, U1, st1⟩ := newO X0 hx hZ hown (ow61 hw) (ow62 hw) (ow63 hw) e0 (g := (mkF m 0 #[iv xa, iv xb, iv xf, iv xo] [])) rfl (hb hby (eD D10_0_ 0 rfl)) (by decide) (by decide)
  obtain ⟨b1, g1⟩ : ∃ z, z = h0.size := ⟨_, rfl⟩
  rw [← g1] at A1 D1 st1 U1
  have gb1 := Nat.le_trans Z0 (Nat.le_of_eq g1.symm)
  have K1 := K0.ext E1
  have sz1 := Nat.le_trans K0.1 (Nat.le_of_eq g1.symm)
  have Zs1 := Nat.le_trans Z0 E1.1
  have F1_74 : Fld Z h1 b1 s1_ "id" "Ljava/lang/String;" .null := D1 (Or.inr (ow74 hw)) (ty := (.object "java/lang/String")) (by decide)
  have F1_76 : Fld Z h1 b1 s1_ "from" "I" (.int (0 : Int32)) := D1 (Or.inr (ow76 hw)) (ty := .int) (by decide)
  have F1_78 : Fld Z h1 b1 s1_ "to" "I" (.int (0 : Int32)) := D1 (Or.inr (ow78 hw)) (ty := .int) (by decide)
  have F1_80 : Fld Z h1 b1 s1_ "length" "D" (.double 0) := D1 (Or.inr (ow80 hw)) (ty := .double) (by decide)
  have F1_82 : Fld Z h1 b1 s1_ "diameter" "D" (.double 0) := D1 (Or.inr (ow82 hw)) (ty := .double) (by decide)
  have F1_84 : Fld Z h1 b1 s1_ "roughness" "D" (.double 0) := D1 (Or.inr (ow84 hw)) (ty := .double) (by decide)
  have F1_86 : Fld Z h1 b1 s1_ "open" "Z" (.int (0 : Int32)) := D1 (Or.inr (ow86 hw)) (ty := .boolean) (by decide)
  refine os (st1) ?_
  show OG p e below Φ T1 m 3 #[iv xa, iv xb, iv xf, iv xo] [(.ref b1)]
  refine gDu X1 hx hby (eD D10_0_ 1 rfl) rfl ?_
  refine os (fun _ z => XS.aconstNull X1.here hx rfl (hb hby (eD D10_0_ 2 rfl)) z) ?_
  refine gIn X1 hx hby (eD D10_0_ 3 rfl) rfl ?_
  by_cases hc2 : xf = 0
  · refine gFy (pc := 6) (pc' := 13) X1 hx hby (eD D10_0_ 4 rfl) (XT.i0_eq_t hc2) (by decide) (by decide) ?_
    refine gIn X1 hx hby (eD D10_0_ 5 rfl) rfl ?_
    refine gIn X1 hx hby (eD D10_0_ 6 rfl) rfl ?_
    refine gFy (pc := 15) (pc' := 22) X1 hx hby (eD D10_0_ 7 rfl) (XT.i0_eq_t hc2) (by decide) (by decide) ?_
    refine gIn X1 hx hby (eD D10_0_ 8 rfl) rfl ?_
    refine os (fun _ z => XS.dconst0 X1.here hx rfl (v := FP.dconst0) (hb hby (eD D10_0_ 9 rfl)) rfl z) ?_
    refine os (fun _ z => XS.dconst0 X1.here hx rfl (v := FP.dconst0) (hb hby (eD D10_0_ 10 rfl)) rfl z) ?_
    refine os (fun _ z => XS.dconst0 X1.here hx rfl (v := FP.dconst0) (hb hby (eD D10_0_ 11 rfl)) rfl z) ?_
    refine gIn X1 hx hby (eD D10_0_ 12 rfl) rfl ?_
    obtain ⟨_, T3, L3, X3, hQ3, st3⟩ := own_callSp X1 hx hZ rfl hown (ow64 hw) (ow65 hw) (ow63 hw) (ow66 hw) (by decide) (rpi l Z a0 hw [] b1 xa xb FP.dconst0 FP.dconst0 FP.dconst0 xo .null (.int 0) (.int 0) (.double 0) (.double 0) (.double 0) (.int 0) h1 n0 Zs1 A1 gb1 F1_74 F1_76 F1_78 F1_80 F1_82 F1_84 F1_86 hzo) e1 (W := 1) (by decide) (pc := 27) (ls := #[iv xa, iv xb, iv xf, iv xo]) (stk := [(.int xo), (.double FP.dconst0), (.double FP.dconst0), (.double FP.dconst0), (.int xb), (.int xa), .null, (.ref b1), (.ref b1)]) (by rw [hml]; rfl) (a := b1) (argsL := [.null, (.int xa), (.int xb), (.double FP.dconst0), (.double FP.dconst0), (.double FP.dconst0), (.int xo)]) (rest := [(.ref b1)]) (lenOf pd1 rfl) rfl rfl (Nat.le_of_eq rfl) (hb hby (eD D10_0_ 13 rfl))
    obtain ⟨rfl, Nq3, Kq3, Eq3, Fq3_0, Fq3_1, Fq3_2, Fq3_3, Fq3_4, Fq3_5, Fq3_6⟩ := hQ3
    have N3 := Fr.app N0 Nq3
    have Zs3 := Nat.le_trans Zs1 Kq3.1
    have K3 := K1.trans Kq3 (allS (Or.inr sz1) all0)
    refine os st3 ?_
    refine OGo.fin X3 hlk (v := (some (.ref b1))) (fun h => by rw [hret] at h; cases h) (by decide) (by decide) (fun fs hr => X3.areturnOut hx rfl hret rfl (hb hby (eD D10_0_ 14 rfl)) hr) fun U eU hF => hΦ _ _ _ ?_ hF
    rw [eU]
    show Q_rpp Z xa xb xf xo h0 n0 _ _ _
    exact ⟨_, rfl, N3, K3, ⟨Eq3, by simp only [own_q, own_fl, if_pos hc2]; exact Fq3_1, by simp only [own_q, own_fl, if_pos hc2]; exact Fq3_2, Fq3_6, hzo⟩, sz1⟩
  · refine gFn X1 hx hby (eD D10_0_ 4 rfl) (XT.i0_eq_f hc2) ?_
    refine gIn X1 hx hby (eD D10_0_ 15 rfl) rfl ?_
    refine gGo (pc := 10) (pc' := 14) X1 hx hby (eD D10_1_ 0 rfl) (by decide) (by decide) ?_
    refine gIn X1 hx hby (eD D10_0_ 6 rfl) rfl ?_
    refine gFn X1 hx hby (eD D10_0_ 7 rfl) (XT.i0_eq_f hc2) ?_
    refine gIn X1 hx hby (eD D10_1_ 1 rfl) rfl ?_
    refine gGo (pc := 19) (pc' := 23) X1 hx hby (eD D10_1_ 2 rfl) (by decide) (by decide) ?_
    refine os (fun _ z => XS.dconst0 X1.here hx rfl (v := FP.dconst0) (hb hby (eD D10_0_ 9 rfl)) rfl z) ?_
    refine os (fun _ z => XS.dconst0 X1.here hx rfl (v := FP.dconst0) (hb hby (eD D10_0_ 10 rfl)) rfl z) ?_
    refine os (fun _ z => XS.dconst0 X1.here hx rfl (v := FP.dconst0) (hb hby (eD D10_0_ 11 rfl)) rfl z) ?_
    refine gIn X1 hx hby (eD D10_0_ 12 rfl) rfl ?_
    obtain ⟨_, T4, L4, X4, hQ4, st4⟩ := own_callSp X1 hx hZ rfl hown (ow64 hw) (ow65 hw) (ow63 hw) (ow66 hw) (by decide) (rpi l Z a0 hw [] b1 xb xa FP.dconst0 FP.dconst0 FP.dconst0 xo .null (.int 0) (.int 0) (.double 0) (.double 0) (.double 0) (.int 0) h1 n0 Zs1 A1 gb1 F1_74 F1_76 F1_78 F1_80 F1_82 F1_84 F1_86 hzo) e1 (W := 1) (by decide) (pc := 27) (ls := #[iv xa, iv xb, iv xf, iv xo]) (stk := [(.int xo), (.double FP.dconst0), (.double FP.dconst0), (.double FP.dconst0), (.int xa), (.int xb), .null, (.ref b1), (.ref b1)]) (by rw [hml]; rfl) (a := b1) (argsL := [.null, (.int xb), (.int xa), (.double FP.dconst0), (.double FP.dconst0), (.double FP.dconst0), (.int xo)]) (rest := [(.ref b1)]) (lenOf pd1 rfl) rfl rfl (Nat.le_of_eq rfl) (hb hby (eD D10_0_ 13 rfl))
    obtain ⟨rfl, Nq4, Kq4, Eq4, Fq4_0, Fq4_1, Fq4_2, Fq4_3, Fq4_4, Fq4_5, Fq4_6⟩ := hQ4
    have N4 := Fr.app N0 Nq4
    have Zs4 := Nat.le_trans Zs1 Kq4.1
    have K4 := K1.trans Kq4 (allS (Or.inr sz1) all0)
    refine os st4 ?_
    refine OGo.fin X4 hlk (v := (some (.ref b1))) (fun h => by rw [hret] at h; cases h) (by decide) (by decide) (fun fs hr => X4.areturnOut hx rfl hret rfl (hb hby (eD D10_0_ 14 rfl)) hr) fun U eU hF => hΦ _ _ _ ?_ hF
    rw [eU]
    show Q_rpp Z xa xb xf xo h0 n0 _ _ _
    exact ⟨_, rfl, N4, K4, ⟨Eq4, by simp only [own_q, own_fl, if_neg hc2]; exact Fq4_1, by simp only [own_q, own_fl, if_neg hc2]; exact Fq4_2, Fq4_6, hzo⟩, sz1⟩

theorem pn3 : plainName "java/util/AbstractCollection" = true := by first | (simp [plainName, overriddenIn]; done) | decide +kernel
theorem ef_rliabc (m : MethodId) (x0 : Addr) : entryFrame m #[(.ref x0)] 1 = mkF m 0 #[.val (.ref x0)] [] := by first | (simp [entryFrame, mkF, argsToLocals, Value.category]; done) | rfl
def Q_rliabc (Z : State) (a : Addr) (h0 : Heap) (n0 : Nat) (v : Option Value) (h : Heap) (L : List Loc) : Prop := v = none ∧ Fr n0 L ∧ h = h0
theorem rliabc (l : Launch) (Z : State) (a0 : Array Value) (hw : OHW Z a0) (ws : List Jvm.Cond) (a : Addr) (h0 : Heap) (n0 : Nat) (Z0 : n0 ≤ h0.size)  :
    OCon l Z (⟨"java/util/AbstractCollection", "<init>", "()V"⟩ : MethodName) c9_ 1 none ws ({ frames := 1, cells := 0, slots := 0, locals := 12 } : Room) #[(.ref a)] h0 (Q_rliabc Z a h0 n0) := by
  refine OCon.of (plainFor_of_name pn3) ?_
  intro p e s m below meth c s₁ Φ X0 hx hby hml hown hnm hret hlk hZ e0 hΦ
  have N0 := Fr.nil n0
  refine os (fun _ z => castTop (ef_rliabc m a) z) ?_
  show OG p e below Φ s₁ m 0 #[rv a] []
  refine gAn X0 hx hby (eD D3_0_ 0 rfl) rfl rfl ?_
  obtain ⟨T1, X1, e1, st1⟩ := initO X0 hx hZ hown (ow19 hw) (ow20 hw) (ow21 hw) e0 (g := (mkF m 1 #[rv a] [(.ref a)])) rfl (by rw [hml]; rfl) rfl (hb hby (eD D3_0_ 1 rfl)) (by decide) (W := 0) (Nat.le_of_eq rfl) (by decide)
  refine os st1 ?_
  refine OGo.fin X1 hlk (v := none) (fun _ => rfl) (by decide) (by decide) (fun fs hr => X1.returnOut hx hret (hb hby (eD D3_0_ 2 rfl)) hr) fun U eU hF => hΦ _ _ _ ?_ hF
  rw [eU, e1]
  show Q_rliabc Z a h0 n0 _ _ _
  exact ⟨rfl, N0, rfl⟩

theorem pn4 : plainName s7_ = true := by first | (simp [plainName, overriddenIn]; done) | decide +kernel
theorem ef_rliabl (m : MethodId) (x0 : Addr) : entryFrame m #[(.ref x0)] 1 = mkF m 0 #[.val (.ref x0)] [] := by first | (simp [entryFrame, mkF, argsToLocals, Value.category]; done) | rfl
def Q_rliabl (Z : State) (a : Addr) (h0 : Heap) (n0 : Nat) (v : Option Value) (h : Heap) (L : List Loc) : Prop := v = none ∧ Fr n0 L ∧ Keep h0 h [a] ∧ Exa Z h a s9_ ∧ Fld Z h a s7_ "modCount" "I" (.int (0 : Int32)) ∧ Fld Z h a s9_ "size" "I" (.int (0 : Int32)) ∧ Fld Z h a s9_ "elementData" "[Ljava/lang/Object;" .null
theorem rliabl (l : Launch) (Z : State) (a0 : Array Value) (hw : OHW Z a0) (ws : List Jvm.Cond) (a : Addr) (h0 : Heap) (n0 : Nat) (Z0 : n0 ≤ h0.size) (E_a : Exa Z h0 a s9_) (g_a : n0 ≤ a) (F_m : Fld Z h0 a s7_ "modCount" "I" (.int (0 : Int32))) (F_s : Fld Z h0 a s9_ "size" "I" (.int (0 : Int32))) (F_e : Fld Z h0 a s9_ "elementData" "[Ljava/lang/Object;" .null) :
    OCon l Z (⟨s7_, "<init>", "()V"⟩ : MethodName) c25_ 1 none ws ({ frames := 2, cells := 0, slots := 0, locals := 24 } : Room) #[(.ref a)] h0 (Q_rliabl Z a h0 n0) := by
  refine OCon.of (plainFor_of_name pn4) ?_
  intro p e s m below meth c s₁ Φ X0 hx hby hml hown hnm hret hlk hZ e0 hΦ
  have N0 := Fr.nil n0
  refine os (fun _ z => castTop (ef_rliabl m a) z) ?_
  have K0 := Keep.refl h0 [a]
  show OG p e below Φ s₁ m 0 #[rv a] []
  refine gAn X0 hx hby (eD D2_0_ 0 rfl) rfl rfl ?_
  obtain ⟨_, T1, L1, X1, hQ1, st1⟩ := own_callSp X0 hx hZ rfl hown (ow13 hw) (ow14 hw) (ow17 hw) (ow18 hw) (by decide) (rliabc l Z a0 hw [] a h0 n0 Z0 ) e0 (W := 0) (by decide) (pc := 1) (ls := #[rv a]) (stk := [(.ref a)]) (by rw [hml]; rfl) (a := a) (argsL := []) (rest := []) (lenOf pd0 rfl) rfl rfl (Nat.le_of_eq rfl) (hb hby (eD D2_0_ 1 rfl))
  obtain ⟨rfl, Nq1, e1⟩ := hQ1
  have N1 := Fr.app N0 Nq1
  refine os st1 ?_
  refine gAn X1 hx hby (eD D2_0_ 2 rfl) rfl rfl ?_
  refine gIc (x := 0) X1 hx hby (eD D2_0_ 3 rfl) rfl ?_
  obtain ⟨T2, h2, X2, e2, W2, st2⟩ := putF X1 hx hZ hown (host := "") (Or.inl (ow22 hw)) Via.refl e1 F_m E_a (Or.inl (ow23 hw)) (ow2 hw) (ty := .int) (by decide) rfl rfl (g := (mkF m 6 #[rv a] [(.int 0), (.ref a)])) rfl rfl (hb hby (eD D2_0_ 4 rfl))
  have F3 := E_a.wr W2
  have F4 := F_m.same W2
  have F5 := F_s.other W2 (Or.inr (slot_ne (Or.inl (ow35 hw)) (Or.inl (ow23 hw)) (by decide) (t := .int) (t' := .int) (by decide) (by decide)))
  have F6 := F_e.other W2 (Or.inr (slot_ne (Or.inl (ow26 hw)) (Or.inl (ow23 hw)) (by decide) (t := (.array (.object "java/lang/Object"))) (t' := .int) (by decide) (by decide)))
  have K2 := K0.wr W2 (Or.inl (List.mem_of_getElem? (i := 0) rfl))
  have N2 := Fr.snoc X2 N1 g_a
  have Zs2 := ozw W2 Z0
  refine os st2 ?_
  refine OGo.fin X2 hlk (v := none) (fun _ => rfl) (by decide) (by decide) (fun fs hr => X2.returnOut hx hret (hb hby (eD D2_0_ 5 rfl)) hr) fun U eU hF => hΦ _ _ _ ?_ hF
  rw [eU, e2]
  show Q_rliabl Z a h0 n0 _ _ _
  exact ⟨rfl, N2, K2, F3, F4, F5, F6⟩

theorem pn5 : plainName s9_ = true := by first | (simp [plainName, overriddenIn]; done) | decide +kernel
theorem ef_rliali (m : MethodId) (x0 : Addr) : entryFrame m #[(.ref x0)] 1 = mkF m 0 #[.val (.ref x0)] [] := by first | (simp [entryFrame, mkF, argsToLocals, Value.category]; done) | rfl
def Q_rliali (Z : State) (a : Addr) (dz : Addr) (h0 : Heap) (n0 : Nat) (v : Option Value) (h : Heap) (L : List Loc) : Prop := v = none ∧ Fr n0 L ∧ Keep h0 h [a] ∧ Exa Z h a s9_ ∧ Fld Z h a s7_ "modCount" "I" (.int (0 : Int32)) ∧ Fld Z h a s9_ "size" "I" (.int (0 : Int32)) ∧ Fld Z h a s9_ "elementData" "[Ljava/lang/Object;" (.ref dz)
theorem rliali (l : Launch) (Z : State) (a0 : Array Value) (hw : OHW Z a0) (ws : List Jvm.Cond) (a : Addr) (dz : Addr) (h0 : Heap) (n0 : Nat) (Z0 : n0 ≤ h0.size) (E_a : Exa Z h0 a s9_) (g_a : n0 ≤ a) (F_m : Fld Z h0 a s7_ "modCount" "I" (.int (0 : Int32))) (F_s : Fld Z h0 a s9_ "size" "I" (.int (0 : Int32))) (F_e : Fld Z h0 a s9_ "elementData" "[Ljava/lang/Object;" .null) (O_0 : Old Z n0 h0) (S_d : Sta Z Z.heap s9_ "DEFAULTCAPACITY_EMPTY_ELEMENTDATA" "[Ljava/lang/Object;" (.ref dz)) :
    OCon l Z (⟨s9_, "<init>", "()V"⟩ : MethodName) c20_ 1 none ws ({ frames := 3, cells := 0, slots := 0, locals := 36 } : Room) #[(.ref a)] h0 (Q_rliali Z a dz h0 n0) := by
  refine OCon.of (plainFor_of_name pn5) ?_
  intro p e s m below meth c s₁ Φ X0 hx hby hml hown hnm hret hlk hZ e0 hΦ
  have N0 := Fr.nil n0
  refine os (fun _ z => castTop (ef_rliali m a) z) ?_
  have K0 := Keep.refl h0 [a]
  show OG p e below Φ s₁ m 0 #[rv a] []
  refine gAn X0 hx hby (eD D1_0_ 0 rfl) rfl rfl ?_
  obtain ⟨_, T1, L1, X1, hQ1, st1⟩ := own_callSp X0 hx hZ rfl hown (ow7 hw) (ow8 hw) (ow11 hw) (ow12 hw) (by decide) (rliabl l Z a0 hw [] a h0 n0 Z0 E_a g_a F_m F_s F_e) e0 (W := 0) (by decide) (pc := 1) (ls := #[rv a]) (stk := [(.ref a)]) (by rw [hml]; rfl) (a := a) (argsL := []) (rest := []) (lenOf pd0 rfl) rfl rfl (Nat.le_of_eq rfl) (hb hby (eD D1_0_ 1 rfl))
  obtain ⟨rfl, Nq1, Kq1, Eq1, Fm1, Fs1, Fe1⟩ := hQ1
  have N1 := Fr.app N0 Nq1
  have Zs1 := Nat.le_trans Z0 Kq1.1
  have F2 := O_0.keep Kq1 (allS g_a all0)
  have K1 := K0.trans Kq1 (allS (Or.inl (List.mem_of_getElem? (i := 0) rfl)) all0)
  refine os st1 ?_
  refine gAn X1 hx hby (eD D1_0_ 2 rfl) rfl rfl ?_
  show OG p e below Φ T1 m 5 #[rv a] [(.ref a)]
  have Sq := S_d.ext F2.2
  obtain ⟨T3, X3, e3, st3⟩ := getS2 X1 hx hZ hown (host := "") (Or.inl (ow24 hw)) Via.refl rfl Sq (g := (mkF m 5 #[rv a] [(.ref a)])) rfl (hb hby (eD D1_0_ 3 rfl))
  refine os st3 ?_
  obtain ⟨T4, h4, X4, e4, W4, st4⟩ := putF X3 hx hZ hown (host := "") (Or.inl (ow25 hw)) Via.refl e3 Fe1 Eq1 (Or.inl (ow26 hw)) (ow2 hw) (ty := (.array (.object "java/lang/Object"))) (by decide) rfl rfl (g := (mkF m 8 #[rv a] [(.ref dz), (.ref a)])) rfl rfl (hb hby (eD D1_0_ 4 rfl))
  have F5 := F2.wr W4 g_a
  have F6 := Eq1.wr W4
  have F7 := Fm1.other W4 (Or.inr (slot_ne (Or.inl (ow23 hw)) (Or.inl (ow26 hw)) (by decide) (t := .int) (t' := (.array (.object "java/lang/Object"))) (by decide) (by decide)))
  have F8 := Fs1.other W4 (Or.inr (slot_ne (Or.inl (ow35 hw)) (Or.inl (ow26 hw)) (by decide) (t := .int) (t' := (.array (.object "java/lang/Object"))) (by decide) (by decide)))
  have F9 := Fe1.same W4
  have F10 := Sq.wr W4
  have K4 := K1.wr W4 (Or.inl (List.mem_of_getElem? (i := 0) rfl))
  have N4 := Fr.snoc X4 N1 g_a
  have Zs4 := ozw W4 Zs1
  refine os st4 ?_
  refine OGo.fin X4 hlk (v := none) (fun _ => rfl) (by decide) (by decide) (fun fs hr => X4.returnOut hx hret (hb hby (eD D1_0_ 5 rfl)) hr) fun U eU hF => hΦ _ _ _ ?_ hF
  rw [eU, e4]
  show Q_rliali Z a dz h0 n0 _ _ _
  exact ⟨rfl, N4, K4, F6, F7, F8, F9⟩

theorem pf_rln0mx : plainFor (⟨"java/lang/Math", "max", "(II)I"⟩ : MethodName) = true := by decide +kernel
theorem ef_rln0mx (m : MethodId) (x0 : Int32) (x1 : Int32) : entryFrame m #[(.int x0), (.int x1)] 2 = mkF m 0 #[.val (.int x0), .val (.int x1)] [] := by first | (simp [entryFrame, mkF, argsToLocals, Value.category]; done) | rfl
def Q_rln0mx (Z : State)  (h0 : Heap) (n0 : Nat) (v : Option Value) (h : Heap) (L : List Loc) : Prop := v = some (.int (10 : Int32)) ∧ Fr n0 L ∧ h = h0
theorem rln0mx (l : Launch) (Z : State) (a0 : Array Value) (hw : OHW Z a0) (ws : List Jvm.Cond)  (h0 : Heap) (n0 : Nat) (Z0 : n0 ≤ h0.size)  :
    OCon l Z (⟨"java/lang/Math", "max", "(II)I"⟩ : MethodName) c10_ 2 (some .int) ws ({ frames := 0, cells := 0, slots := 0, locals := 0 } : Room) #[(.int (10 : Int32)), (.int (1 : Int32))] h0 (Q_rln0mx Z  h0 n0) := by
  refine OCon.of pf_rln0mx ?_
  intro p e s m below meth c s₁ Φ X0 hx hby hml hown hnm hret hlk hZ e0 hΦ
  have N0 := Fr.nil n0
  refine os (fun _ z => castTop (ef_rln0mx m (10 : Int32) (1 : Int32)) z) ?_
  show OG p e below Φ s₁ m 0 #[iv 10, iv 1] []
  refine gIn X0 hx hby (eD D9_0_ 0 rfl) rfl ?_
  refine gIn X0 hx hby (eD D9_0_ 1 rfl) rfl ?_
  refine gCn X0 hx hby (eD D9_0_ 2 rfl) (XT.ii_lt_f (by decide)) ?_
  refine gIn X0 hx hby (eD D9_0_ 3 rfl) rfl ?_
  refine gGo (pc := 6) (pc' := 10) X0 hx hby (eD D9_0_ 4 rfl) (by decide) (by decide) ?_
  refine OGo.fin X0 hlk (v := (some (.int 10))) (fun h => by rw [hret] at h; cases h) (by decide) (by decide) (fun fs hr => X0.ireturnOut hx hret rfl (by simp) (hb hby (eD D9_0_ 5 rfl)) hr) fun U eU hF => hΦ _ _ _ ?_ hF
  rw [eU, e0]
  show Q_rln0mx Z  h0 n0 _ _ _
  exact ⟨rfl, N0, rfl⟩

theorem pd2 : parseMethodDescriptor "(II)I" = some ⟨[.int, .int], some .int⟩ := by decide +kernel
theorem ef_rln0gI (m : MethodId) (x0 : Addr) (x1 : Int32) : entryFrame m #[(.ref x0), (.int x1)] 4 = mkF m 0 #[.val (.ref x0), .val (.int x1), o_, o_] [] := by first | (simp [entryFrame, mkF, argsToLocals, Value.category]; done) | rfl
def Q_rln0gI (Z : State) (a : Addr) (mc : Int32) (dz : Addr) (cz : ClassId) (h0 : Heap) (n0 : Nat) (v : Option Value) (h : Heap) (L : List Loc) : Prop := ∃ b cb, v = some (.ref b) ∧ Fr n0 L ∧ Keep h0 h [a] ∧ Exa Z h a s9_ ∧ Fld Z h a s7_ "modCount" "I" (.int mc) ∧ Fld Z h a s9_ "size" "I" (.int (0 : Int32)) ∧ Fld Z h a s9_ "elementData" "[Ljava/lang/Object;" (.ref b) ∧ Arv Z h b cb (.object "java/lang/Object") (10 : Int32) [.null, .null, .null, .null, .null, .null, .null, .null, .null, .null] .null ∧ Exa Z h b "[Ljava/lang/Object;" ∧ Ovr Z cb "java/lang/Object" ∧ h0.size ≤ b
theorem rln0gI (l : Launch) (Z : State) (a0 : Array Value) (hw : OHW Z a0) (ws : List Jvm.Cond) (a : Addr) (mc : Int32) (dz : Addr) (cz : ClassId) (h0 : Heap) (n0 : Nat) (Z0 : n0 ≤ h0.size) (E_a : Exa Z h0 a s9_) (g_a : n0 ≤ a) (F_m : Fld Z h0 a s7_ "modCount" "I" (.int mc)) (F_s : Fld Z h0 a s9_ "size" "I" (.int (0 : Int32))) (F_e : Fld Z h0 a s9_ "elementData" "[Ljava/lang/Object;" (.ref dz)) (V_z : Arv Z h0 dz cz (.object "java/lang/Object") (0 : Int32) [] .null) (n_z : dz ≠ a) (S_d : Sta Z h0 s9_ "DEFAULTCAPACITY_EMPTY_ELEMENTDATA" "[Ljava/lang/Object;" (.ref dz)) :
    OCon l Z (⟨s9_, "grow", "(I)[Ljava/lang/Object;"⟩ : MethodName) c22_ 4 (some (.array (.object "java/lang/Object"))) ws ({ frames := 1, cells := 1, slots := 10, locals := 14 } : Room) #[(.ref a), (.int (1 : Int32))] h0 (Q_rln0gI Z a mc dz cz h0 n0) := by
  refine OCon.of (plainFor_of_name pn5) ?_
  intro p e s m below meth c s₁ Φ X0 hx hby hml hown hnm hret hlk hZ e0 hΦ
  have N0 := Fr.nil n0
  refine os (fun _ z => castTop (ef_rln0gI m a (1 : Int32)) z) ?_
  have K0 := Keep.refl h0 [a]
  show OG p e below Φ s₁ m 0 #[rv a, iv 1, o_, o_] []
  refine gAn X0 hx hby (eD D8_0_ 0 rfl) rfl rfl ?_
  obtain ⟨T1, X1, e1, st1⟩ := getF X0 hx hZ hown (host := "") (Or.inl (ow25 hw)) Via.refl e0 F_e (g := (mkF m 1 #[rv a, iv 1, o_, o_] [(.ref a)])) rfl rfl (hb hby (eD D8_0_ 1 rfl))
  refine os st1 ?_
  obtain ⟨cl2, Aq2, -, S2, M2, -, -⟩ := id V_z
  refine os (fun _ z => X1.arraylength hx (by rw [e1]; exact Aq2.1) (oia hZ Aq2.2.1) (g := (mkF m 4 #[rv a, iv 1, o_, o_] [(.ref dz)])) rfl rfl (hb hby (eD D8_0_ 2 rfl)) _ z) ?_
  rw [len_of S2 M2]
  show OG p e below Φ T1 m 5 #[rv a, iv 1, o_, o_] [(.int 0)]
  refine gIsn X1 hx hby (eD D8_0_ 3 rfl) (ls' := #[rv a, iv 1, iv 0, o_]) rfl ?_
  refine gIn X1 hx hby (eD D8_0_ 4 rfl) rfl ?_
  refine gFn X1 hx hby (eD D8_0_ 5 rfl) (XT.i0_gt_f (by decide)) ?_
  refine gAn X1 hx hby (eD D8_0_ 6 rfl) rfl rfl ?_
  obtain ⟨T3, X3, e3, st3⟩ := getF X1 hx hZ hown (host := "") (Or.inl (ow25 hw)) Via.refl e1 F_e (g := (mkF m 11 #[rv a, iv 1, iv 0, o_] [(.ref a)])) rfl rfl (hb hby (eD D8_0_ 7 rfl))
  refine os st3 ?_
  obtain ⟨T4, X4, e4, st4⟩ := getS2 X3 hx hZ hown (host := "") (Or.inl (ow24 hw)) Via.refl e3 S_d (g := (mkF m 14 #[rv a, iv 1, iv 0, o_] [(.ref dz)])) rfl (hb hby (eD D8_0_ 8 rfl))
  refine os st4 ?_
  refine os (fun _ z => XT.acmpYes X4.here hx rfl (pc0 := 17) (pc' := 45) rfl (hb hby (eD D8_0_ 9 rfl)) rfl rfl rfl (XT.aa_eq_t rfl) (by decide) (by decide) z) ?_
  refine gAn X4 hx hby (eD D8_0_ 10 rfl) rfl rfl ?_
  refine os (fun _ z => XS.bipush X4.here hx rfl (hb hby (eD D8_0_ 11 rfl)) z) ?_
  refine gIn X4 hx hby (eD D8_0_ 12 rfl) rfl ?_
  obtain ⟨_, T5, L5, X5, hQ5, st5⟩ := own_callSt X4 hx hZ hown (ow51 hw) (ow52 hw) (ow53 hw) (ow54 hw) (by decide) (rln0mx l Z a0 hw []  h0 n0 Z0 ) e4 (W := 1) (by decide) (pc := 49) (ls := #[rv a, iv 1, iv 0, o_]) (stk := [(.int 1), (.int 10), (.ref a)]) (by rw [hml]; rfl) (argsL := [(.int 10), (.int 1)]) (rest := [(.ref a)]) (lenOf pd2 rfl) rfl rfl (Nat.le_of_eq rfl) (hb hby (eD D8_0_ 13 rfl))
  obtain ⟨rfl, Nq5, e5⟩ := hQ5
  have N5 := Fr.app N0 Nq5
  refine os st5 ?_
  obtain ⟨T6, h6, c6, X6, e6, E6, Ar6, Ex6, Ov6, st6⟩ := newRE X5 hx hZ hown (ow55 hw) (ow56 hw) e5 (g := (mkF m 52 #[rv a, iv 1, iv 0, o_] [(.int 10), (.ref a)])) rfl (hb hby (eD D8_0_ 14 rfl)) rfl (by decide) (cap := 10) (by decide) (by decide) (by decide) (by decide) (ad := "[Ljava/lang/Object;") (by decide)
  obtain ⟨b6, g6⟩ : ∃ z, z = h0.size := ⟨_, rfl⟩
  rw [← g6] at Ar6 Ex6 st6
  have ne6_a := one_ g6 E_a.lt
  have ne6_dz := one_ g6 V_z.lt
  have F7 := E_a.ext E6
  have F8 := F_m.ext E6
  have F9 := F_s.ext E6
  have F10 := F_e.ext E6
  have F11 := V_z.ext E6
  have F12 := S_d.ext E6
  have gb6 := Nat.le_trans Z0 (Nat.le_of_eq g6.symm)
  have sz6 := Nat.le_trans K0.1 (Nat.le_of_eq g6.symm)
  have K6 := K0.ext E6
  have Zs6 := Nat.le_trans Z0 E6.1
  have V6 : Arv Z h6 b6 c6 (.object "java/lang/Object") (10 : Int32) [.null, .null, .null, .null, .null, .null, .null, .null, .null, .null] .null := (Arv.new Ar6 (by decide)).pad (pad_rep [] _ 10)
  refine os st6 ?_
  refine os (fun _ z => XT.dupX1 X6.here hx rfl (hb hby (eD D8_0_ 15 rfl)) rfl rfl rfl z) ?_
  obtain ⟨T13, h13, X13, e13, W13, st13⟩ := putF X6 hx hZ hown (host := "") (Or.inl (ow25 hw)) Via.refl e6 F10 F7 (Or.inl (ow26 hw)) (ow2 hw) (ty := (.array (.object "java/lang/Object"))) (by decide) rfl rfl (g := (mkF m 56 #[rv a, iv 1, iv 0, o_] [(.ref b6), (.ref a), (.ref b6)])) rfl rfl (hb hby (eD D8_1_ 0 rfl))
  have F14 := F7.wr W13
  have F15 := F8.other W13 (Or.inr (slot_ne (Or.inl (ow23 hw)) (Or.inl (ow26 hw)) (by decide) (t := .int) (t' := (.array (.object "java/lang/Object"))) (by decide) (by decide)))
  have F16 := F9.other W13 (Or.inr (slot_ne (Or.inl (ow35 hw)) (Or.inl (ow26 hw)) (by decide) (t := .int) (t' := (.array (.object "java/lang/Object"))) (by decide) (by decide)))
  have F17 := F10.same W13
  have F18 := F11.other W13 n_z
  have F19 := F12.wr W13
  have F20 := V6.other W13 (Ne.symm ne6_a)
  have F21 := Ex6.wr W13
  have K13 := K6.wr W13 (Or.inl (List.mem_of_getElem? (i := 0) rfl))
  have N13 := Fr.snoc X13 N5 g_a
  have Zs13 := ozw W13 Zs6
  refine os st13 ?_
  refine OGo.fin X13 hlk (v := (some (.ref b6))) (fun h => by rw [hret] at h; cases h) (by decide) (by decide) (fun fs hr => X13.areturnOut hx rfl hret rfl (hb hby (eD D8_1_ 1 rfl)) hr) fun U eU hF => hΦ _ _ _ ?_ hF
  rw [eU, e13]
  show Q_rln0gI Z a mc dz cz h0 n0 _ _ _
  exact ⟨_, _, rfl, N13, K13, F14, F15, F16, F17, F20, F21, Ov6, sz6⟩

theorem pd3 : parseMethodDescriptor "(I)[Ljava/lang/Object;" = some ⟨[.int], some (.array (.object "java/lang/Object"))⟩ := by decide +kernel
theorem ef_rln0g0 (m : MethodId) (x0 : Addr) : entryFrame m #[(.ref x0)] 1 = mkF m 0 #[.val (.ref x0)] [] := by first | (simp [entryFrame, mkF, argsToLocals, Value.category]; done) | rfl
def Q_rln0g0 (Z : State) (a : Addr) (mc : Int32) (dz : Addr) (cz : ClassId) (h0 : Heap) (n0 : Nat) (v : Option Value) (h : Heap) (L : List Loc) : Prop := ∃ b cb, v = some (.ref b) ∧ Fr n0 L ∧ Keep h0 h [a] ∧ Exa Z h a s9_ ∧ Fld Z h a s7_ "modCount" "I" (.int mc) ∧ Fld Z h a s9_ "size" "I" (.int (0 : Int32)) ∧ Fld Z h a s9_ "elementData" "[Ljava/lang/Object;" (.ref b) ∧ Arv Z h b cb (.object "java/lang/Object") (10 : Int32) [.null, .null, .null, .null, .null, .null, .null, .null, .null, .null] .null ∧ Exa Z h b "[Ljava/lang/Object;" ∧ Ovr Z cb "java/lang/Object" ∧ h0.size ≤ b
theorem rln0g0 (l : Launch) (Z : State) (a0 : Array Value) (hw : OHW Z a0) (ws : List Jvm.Cond) (a : Addr) (mc : Int32) (dz : Addr) (cz : ClassId) (h0 : Heap) (n0 : Nat) (Z0 : n0 ≤ h0.size) (E_a : Exa Z h0 a s9_) (g_a : n0 ≤ a) (F_m : Fld Z h0 a s7_ "modCount" "I" (.int mc)) (F_s : Fld Z h0 a s9_ "size" "I" (.int (0 : Int32))) (F_e : Fld Z h0 a s9_ "elementData" "[Ljava/lang/Object;" (.ref dz)) (V_z : Arv Z h0 dz cz (.object "java/lang/Object") (0 : Int32) [] .null) (n_z : dz ≠ a) (S_d : Sta Z h0 s9_ "DEFAULTCAPACITY_EMPTY_ELEMENTDATA" "[Ljava/lang/Object;" (.ref dz)) :
    OCon l Z (⟨s9_, "grow", "()[Ljava/lang/Object;"⟩ : MethodName) c23_ 1 (some (.array (.object "java/lang/Object"))) ws ({ frames := 2, cells := 1, slots := 10, locals := 29 } : Room) #[(.ref a)] h0 (Q_rln0g0 Z a mc dz cz h0 n0) := by
  refine OCon.of (plainFor_of_name pn5) ?_
  intro p e s m below meth c s₁ Φ X0 hx hby hml hown hnm hret hlk hZ e0 hΦ
  have N0 := Fr.nil n0
  refine os (fun _ z => castTop (ef_rln0g0 m a) z) ?_
  have K0 := Keep.refl h0 [a]
  show OG p e below Φ s₁ m 0 #[rv a] []
  refine gAn X0 hx hby (eD D7_0_ 0 rfl) rfl rfl ?_
  refine gAn X0 hx hby (eD D7_0_ 1 rfl) rfl rfl ?_
  obtain ⟨T1, X1, e1, st1⟩ := getF X0 hx hZ hown (host := "") (Or.inl (ow34 hw)) Via.refl e0 F_s (g := (mkF m 2 #[rv a] [(.ref a), (.ref a)])) rfl rfl (hb hby (eD D7_0_ 2 rfl))
  refine os st1 ?_
  refine gIc (x := 1) X1 hx hby (eD D7_0_ 3 rfl) rfl ?_
  refine os (fun _ z => XS.iadd X1.here hx rfl (hb hby (eD D7_0_ 4 rfl)) rfl z) ?_
  show OG p e below Φ T1 m 7 #[rv a] [(.int 1), (.ref a)]
  obtain ⟨_, T2, L2, X2, hQ2, st2⟩ := own_callPr X1 hx hZ hown (ow46 hw) (ow47 hw) (ow49 hw) (ow48 hw) (ow3 hw) (ow50 hw) (by decide) (rln0gI l Z a0 hw [] a mc dz cz h0 n0 Z0 E_a g_a F_m F_s F_e V_z n_z S_d) e1 (W := 0) (by decide) E_a (pc := 7) (ls := #[rv a]) (stk := [(.int 1), (.ref a)]) (by rw [hml]; rfl) (argsL := [(.int 1)]) (rest := []) (lenOf pd3 rfl) rfl rfl (Nat.le_of_eq rfl) (hb hby (eD D7_0_ 5 rfl))
  obtain ⟨b2, cb2, rfl, Nq2, Kq2, Eq2, Fm2, Fs2, Fe2, Vq2, Ex2, Ov2, hz2⟩ := hQ2
  have nq2_a := Nat.ne_of_lt (Nat.lt_of_lt_of_le E_a.lt hz2)
  have nq2_dz := Nat.ne_of_lt (Nat.lt_of_lt_of_le V_z.lt hz2)
  have gq2 := Nat.le_trans Z0 hz2
  have sq2 := Nat.le_trans K0.1 hz2
  have N2 := Fr.app N0 Nq2
  have Zs2 := Nat.le_trans Z0 Kq2.1
  have F3 := V_z.keep Kq2 (ninS n_z nin0)
  have K2 := K0.trans Kq2 (allS (Or.inl (List.mem_of_getElem? (i := 0) rfl)) all0)
  refine os st2 ?_
  refine OGo.fin X2 hlk (v := (some (.ref b2))) (fun h => by rw [hret] at h; cases h) (by decide) (by decide) (fun fs hr => X2.areturnOut hx rfl hret rfl (hb hby (eD D7_0_ 6 rfl)) hr) fun U eU hF => hΦ _ _ _ ?_ hF
  rw [eU]
  show Q_rln0g0 Z a mc dz cz h0 n0 _ _ _
  exact ⟨_, _, rfl, N2, K2, Eq2, Fm2, Fs2, Fe2, Vq2, Ex2, Ov2, sq2⟩

theorem pd4 : parseMethodDescriptor "()[Ljava/lang/Object;" = some ⟨[], some (.array (.object "java/lang/Object"))⟩ := by decide +kernel
theorem ef_rln0a3 (m : MethodId) (x0 : Addr) (x2 : Addr) (x3 : Int32) : entryFrame m #[(.ref x0), .null, (.ref x2), (.int x3)] 4 = mkF m 0 #[.val (.ref x0), .val .null, .val (.ref x2), .val (.int x3)] [] := by first | (simp [entryFrame, mkF, argsToLocals, Value.category]; done) | rfl
def Q_rln0a3 (Z : State) (a : Addr) (mc : Int32) (dz : Addr) (cz : ClassId) (h0 : Heap) (n0 : Nat) (v : Option Value) (h : Heap) (L : List Loc) : Prop := v = none ∧ Fr n0 L ∧ Keep h0 h [a] ∧ Exa Z h a s9_ ∧ Fld Z h a s7_ "modCount" "I" (.int mc) ∧ Fld Z h a s9_ "size" "I" (.int (1 : Int32)) ∧ ∃ b cb, Fld Z h a s9_ "elementData" "[Ljava/lang/Object;" (.ref b) ∧ Arv Z h b cb (.object "java/lang/Object") (10 : Int32) [.null, .null, .null, .null, .null, .null, .null, .null, .null, .null] .null ∧ Exa Z h b "[Ljava/lang/Object;" ∧ Ovr Z cb "java/lang/Object" ∧ h0.size ≤ b
theorem rln0a3 (l : Launch) (Z : State) (a0 : Array Value) (hw : OHW Z a0) (ws : List Jvm.Cond) (a : Addr) (mc : Int32) (dz : Addr) (cz : ClassId) (h0 : Heap) (n0 : Nat) (Z0 : n0 ≤ h0.size) (E_a : Exa Z h0 a s9_) (g_a : n0 ≤ a) (F_m : Fld Z h0 a s7_ "modCount" "I" (.int mc)) (F_s : Fld Z h0 a s9_ "size" "I" (.int (0 : Int32))) (F_e : Fld Z h0 a s9_ "elementData" "[Ljava/lang/Object;" (.ref dz)) (V_z : Arv Z h0 dz cz (.object "java/lang/Object") (0 : Int32) [] .null) (n_z : dz ≠ a) (S_d : Sta Z h0 s9_ "DEFAULTCAPACITY_EMPTY_ELEMENTDATA" "[Ljava/lang/Object;" (.ref dz)) :
    OCon l Z (⟨s9_, "add", "(Ljava/lang/Object;[Ljava/lang/Object;I)V"⟩ : MethodName) c18_ 4 none ws ({ frames := 3, cells := 1, slots := 10, locals := 41 } : Room) #[(.ref a), .null, (.ref dz), (.int (0 : Int32))] h0 (Q_rln0a3 Z a mc dz cz h0 n0) := by
  refine OCon.of (plainFor_of_name pn5) ?_
  intro p e s m below meth c s₁ Φ X0 hx hby hml hown hnm hret hlk hZ e0 hΦ
  have N0 := Fr.nil n0
  refine os (fun _ z => castTop (ef_rln0a3 m a dz (0 : Int32)) z) ?_
  have K0 := Keep.refl h0 [a]
  show OG p e below Φ s₁ m 0 #[rv a, .val .null, rv dz, iv 0] []
  refine gIn X0 hx hby (eD D6_0_ 0 rfl) rfl ?_
  refine gAn X0 hx hby (eD D6_0_ 1 rfl) rfl rfl ?_
  obtain ⟨cl1, Aq1, -, S1, M1, -, -⟩ := id V_z
  refine os (fun _ z => X0.arraylength hx (by rw [e0]; exact Aq1.1) (oia hZ Aq1.2.1) (g := (mkF m 2 #[rv a, .val .null, rv dz, iv 0] [(.ref dz), (.int 0)])) rfl rfl (hb hby (eD D6_0_ 2 rfl)) _ z) ?_
  rw [len_of S1 M1]
  show OG p e below Φ s₁ m 3 #[rv a, .val .null, rv dz, iv 0] [(.int 0), (.int 0)]
  refine gCn X0 hx hby (eD D6_0_ 3 rfl) (XT.ii_ne_f (by decide)) ?_
  refine gAn X0 hx hby (eD D6_0_ 4 rfl) rfl rfl ?_
  obtain ⟨_, T2, L2, X2, hQ2, st2⟩ := own_callPr X0 hx hZ hown (ow41 hw) (ow42 hw) (ow44 hw) (ow43 hw) (ow3 hw) (ow45 hw) (by decide) (rln0g0 l Z a0 hw [] a mc dz cz h0 n0 Z0 E_a g_a F_m F_s F_e V_z n_z S_d) e0 (W := 0) (by decide) E_a (pc := 7) (ls := #[rv a, .val .null, rv dz, iv 0]) (stk := [(.ref a)]) (by rw [hml]; rfl) (argsL := []) (rest := []) (lenOf pd4 rfl) rfl rfl (Nat.le_of_eq rfl) (hb hby (eD D6_0_ 5 rfl))
  obtain ⟨b2, cb2, rfl, Nq2, Kq2, Eq2, Fm2, Fs2, Fe2, Vq2, Ex2, Ov2, hz2⟩ := hQ2
  have nq2_a := Nat.ne_of_lt (Nat.lt_of_lt_of_le E_a.lt hz2)
  have nq2_dz := Nat.ne_of_lt (Nat.lt_of_lt_of_le V_z.lt hz2)
  have gq2 := Nat.le_trans Z0 hz2
  have sq2 := Nat.le_trans K0.1 hz2
  have N2 := Fr.app N0 Nq2
  have Zs2 := Nat.le_trans Z0 Kq2.1
  have F3 := V_z.keep Kq2 (ninS n_z nin0)
  have K2 := K0.trans Kq2 (allS (Or.inl (List.mem_of_getElem? (i := 0) rfl)) all0)
  refine os st2 ?_
  refine gAsn X2 hx hby (eD D6_0_ 6 rfl) rfl (ls' := #[rv a, .val .null, rv b2, iv 0]) rfl ?_
  refine gAn X2 hx hby (eD D6_0_ 7 rfl) rfl rfl ?_
  refine gIn X2 hx hby (eD D6_0_ 8 rfl) rfl ?_
  refine gAn X2 hx hby (eD D6_0_ 9 rfl) rfl rfl ?_
  obtain ⟨cl4, Aq4, Cq4, S4, M4, H4, G4⟩ := id Vq2
  have in4 : ¬ ((0 : Int32) < 0 ∨ cl4.slots.size ≤ (0 : Int32).toNatClampNeg) := inb_of S4 ⟨by decide, by decide⟩
  obtain ⟨T4, h4, X4, e4, W4, st4⟩ := stR X2 hx hZ rfl Aq4 in4 rfl (Or.inl rfl) (g := (mkF m 14 #[rv a, .val .null, rv b2, iv 0] [.null, (.int 0), (.ref b2)])) rfl rfl (hb hby (eD D6_0_ 10 rfl))
  have F5 := F3.other W4 nq2_dz
  have F6 := Eq2.wr W4
  have F7 := Fm2.other W4 (Or.inl nq2_a)
  have F8 := Fs2.other W4 (Or.inl nq2_a)
  have F9 := Fe2.other W4 (Or.inl nq2_a)
  have F10 := Ex2.wr W4
  have V4 : Arv Z h4 b2 cb2 (.object "java/lang/Object") (10 : Int32) [.null, .null, .null, .null, .null, .null, .null, .null, .null, .null] .null := Arv.set Aq4 Cq4 S4 M4 H4 G4 rfl W4 0 (by decide) (by show 0 < 10; decide)
  have K4 := K2.wr W4 (Or.inr sq2)
  have N4 := Fr.snoc X4 N2 gq2
  have Zs4 := ozw W4 Zs2
  refine os st4 ?_
  refine gAn X4 hx hby (eD D6_0_ 11 rfl) rfl rfl ?_
  refine gIn X4 hx hby (eD D6_0_ 12 rfl) rfl ?_
  refine gIc (x := 1) X4 hx hby (eD D6_0_ 13 rfl) rfl ?_
  refine os (fun _ z => XS.iadd X4.here hx rfl (hb hby (eD D6_0_ 14 rfl)) rfl z) ?_
  show OG p e below Φ T4 m 19 #[rv a, .val .null, rv b2, iv 0] [(.int 1), (.ref a)]
  obtain ⟨T11, h11, X11, e11, W11, st11⟩ := putF X4 hx hZ hown (host := "") (Or.inl (ow34 hw)) Via.refl e4 F8 F6 (Or.inl (ow35 hw)) (ow2 hw) (ty := .int) (by decide) rfl rfl (g := (mkF m 19 #[rv a, .val .null, rv b2, iv 0] [(.int 1), (.ref a)])) rfl rfl (hb hby (eD D6_0_ 15 rfl))
  have F12 := F5.other W11 n_z
  have F13 := F6.wr W11
  have F14 := F7.other W11 (Or.inr (slot_ne (Or.inl (ow23 hw)) (Or.inl (ow35 hw)) (by decide) (t := .int) (t' := .int) (by decide) (by decide)))
  have F15 := F8.same W11
  have F16 := F9.other W11 (Or.inr (slot_ne (Or.inl (ow26 hw)) (Or.inl (ow35 hw)) (by decide) (t := (.array (.object "java/lang/Object"))) (t' := .int) (by decide) (by decide)))
  have F17 := F10.wr W11
  have F18 := V4.other W11 (Ne.symm nq2_a)
  have K11 := K4.wr W11 (Or.inl (List.mem_of_getElem? (i := 0) rfl))
  have N11 := Fr.snoc X11 N4 g_a
  have Zs11 := ozw W11 Zs4
  refine os st11 ?_
  refine OGo.fin X11 hlk (v := none) (fun _ => rfl) (by decide) (by decide) (fun fs hr => X11.returnOut hx hret (hb hby (eD D6_1_ 0 rfl)) hr) fun U eU hF => hΦ _ _ _ ?_ hF
  rw [eU, e11]
  show Q_rln0a3 Z a mc dz cz h0 n0 _ _ _
  exact ⟨rfl, N11, K11, F13, F14, F15, _, _, F16, F18, F17, Ov2, sq2⟩

theorem pd5 : parseMethodDescriptor "(Ljava/lang/Object;[Ljava/lang/Object;I)V" = some ⟨[(.object "java/lang/Object"), (.array (.object "java/lang/Object")), .int], none⟩ := by decide +kernel
theorem ef_rln0a1 (m : MethodId) (x0 : Addr) : entryFrame m #[(.ref x0), .null] 2 = mkF m 0 #[.val (.ref x0), .val .null] [] := by first | (simp [entryFrame, mkF, argsToLocals, Value.category]; done) | rfl
def Q_rln0a1 (Z : State) (a : Addr) (mc : Int32) (dz : Addr) (cz : ClassId) (h0 : Heap) (n0 : Nat) (v : Option Value) (h : Heap) (L : List Loc) : Prop := v = some (.int (1 : Int32)) ∧ Fr n0 L ∧ Keep h0 h [a] ∧ Exa Z h a s9_ ∧ Fld Z h a s7_ "modCount" "I" (.int (mc + 1)) ∧ Fld Z h a s9_ "size" "I" (.int (1 : Int32)) ∧ ∃ b cb, Fld Z h a s9_ "elementData" "[Ljava/lang/Object;" (.ref b) ∧ Arv Z h b cb (.object "java/lang/Object") (10 : Int32) [.null, .null, .null, .null, .null, .null, .null, .null, .null, .null] .null ∧ Exa Z h b "[Ljava/lang/Object;" ∧ Ovr Z cb "java/lang/Object" ∧ h0.size ≤ b
theorem rln0a1 (l : Launch) (Z : State) (a0 : Array Value) (hw : OHW Z a0) (ws : List Jvm.Cond) (a : Addr) (mc : Int32) (dz : Addr) (cz : ClassId) (h0 : Heap) (n0 : Nat) (Z0 : n0 ≤ h0.size) (E_a : Exa Z h0 a s9_) (g_a : n0 ≤ a) (F_m : Fld Z h0 a s7_ "modCount" "I" (.int mc)) (F_s : Fld Z h0 a s9_ "size" "I" (.int (0 : Int32))) (F_e : Fld Z h0 a s9_ "elementData" "[Ljava/lang/Object;" (.ref dz)) (V_z : Arv Z h0 dz cz (.object "java/lang/Object") (0 : Int32) [] .null) (n_z : dz ≠ a) (S_d : Sta Z h0 s9_ "DEFAULTCAPACITY_EMPTY_ELEMENTDATA" "[Ljava/lang/Object;" (.ref dz)) :
    OCon l Z (⟨s9_, "add", "(Ljava/lang/Object;)Z"⟩ : MethodName) c19_ 2 (some .boolean) ws ({ frames := 4, cells := 1, slots := 10, locals := 56 } : Room) #[(.ref a), .null] h0 (Q_rln0a1 Z a mc dz cz h0 n0) := by
  refine OCon.of (plainFor_of_name pn5) ?_
  intro p e s m below meth c s₁ Φ X0 hx hby hml hown hnm hret hlk hZ e0 hΦ
  have N0 := Fr.nil n0
  refine os (fun _ z => castTop (ef_rln0a1 m a) z) ?_
  have K0 := Keep.refl h0 [a]
  show OG p e below Φ s₁ m 0 #[rv a, .val .null] []
  refine gAn X0 hx hby (eD D5_0_ 0 rfl) rfl rfl ?_
  refine gDu X0 hx hby (eD D5_0_ 1 rfl) rfl ?_
  obtain ⟨T1, X1, e1, st1⟩ := getF X0 hx hZ hown (host := "") (Or.inl (ow32 hw)) (Via.of (ow33 hw)) e0 F_m (g := (mkF m 2 #[rv a, .val .null] [(.ref a), (.ref a)])) rfl rfl (hb hby (eD D5_0_ 2 rfl))
  refine os st1 ?_
  refine gIc (x := 1) X1 hx hby (eD D5_0_ 3 rfl) rfl ?_
  refine os (fun _ z => XS.iadd X1.here hx rfl (hb hby (eD D5_0_ 4 rfl)) rfl z) ?_
  obtain ⟨T2, h2, X2, e2, W2, st2⟩ := putF X1 hx hZ hown (host := "") (Or.inl (ow32 hw)) (Via.of (ow33 hw)) e1 F_m E_a (Or.inl (ow23 hw)) (ow2 hw) (ty := .int) (by decide) rfl rfl (g := (mkF m 7 #[rv a, .val .null] [(.int (mc + 1)), (.ref a)])) rfl rfl (hb hby (eD D5_0_ 5 rfl))
  have F3 := E_a.wr W2
  have F4 := F_m.same W2
  have F5 := F_s.other W2 (Or.inr (slot_ne (Or.inl (ow35 hw)) (Or.inl (ow23 hw)) (by decide) (t := .int) (t' := .int) (by decide) (by decide)))
  have F6 := F_e.other W2 (Or.inr (slot_ne (Or.inl (ow26 hw)) (Or.inl (ow23 hw)) (by decide) (t := (.array (.object "java/lang/Object"))) (t' := .int) (by decide) (by decide)))
  have F7 := V_z.other W2 n_z
  have F8 := S_d.wr W2
  have K2 := K0.wr W2 (Or.inl (List.mem_of_getElem? (i := 0) rfl))
  have N2 := Fr.snoc X2 N0 g_a
  have Zs2 := ozw W2 Z0
  refine os st2 ?_
  refine gAn X2 hx hby (eD D5_0_ 6 rfl) rfl rfl ?_
  refine gAn X2 hx hby (eD D5_0_ 7 rfl) rfl rfl ?_
  refine gAn X2 hx hby (eD D5_0_ 8 rfl) rfl rfl ?_
  obtain ⟨T9, X9, e9, st9⟩ := getF X2 hx hZ hown (host := "") (Or.inl (ow25 hw)) Via.refl e2 F6 (g := (mkF m 13 #[rv a, .val .null] [(.ref a), .null, (.ref a)])) rfl rfl (hb hby (eD D5_0_ 9 rfl))
  refine os st9 ?_
  refine gAn X9 hx hby (eD D5_0_ 10 rfl) rfl rfl ?_
  obtain ⟨T10, X10, e10, st10⟩ := getF X9 hx hZ hown (host := "") (Or.inl (ow34 hw)) Via.refl e9 F5 (g := (mkF m 17 #[rv a, .val .null] [(.ref a), (.ref dz), .null, (.ref a)])) rfl rfl (hb hby (eD D5_0_ 11 rfl))
  refine os st10 ?_
  obtain ⟨_, T11, L11, X11, hQ11, st11⟩ := own_callPr X10 hx hZ hown (ow36 hw) (ow37 hw) (ow39 hw) (ow38 hw) (ow3 hw) (ow40 hw) (by decide) (rln0a3 l Z a0 hw [] a (mc + 1) dz cz h2 n0 Zs2 F3 g_a F4 F5 F6 F7 n_z F8) e10 (W := 0) (by decide) F3 (pc := 20) (ls := #[rv a, .val .null]) (stk := [(.int 0), (.ref dz), .null, (.ref a)]) (by rw [hml]; rfl) (argsL := [.null, (.ref dz), (.int 0)]) (rest := []) (lenOf pd5 rfl) rfl rfl (Nat.le_of_eq rfl) (hb hby (eD D5_0_ 12 rfl))
  obtain ⟨rfl, Nq11, Kq11, Eq11, Fm11, Fs11, b11, cb11, Fe11, Vq11, Ex11, Ov11, hz11⟩ := hQ11
  have nq11_a := Nat.ne_of_lt (Nat.lt_of_lt_of_le F3.lt hz11)
  have nq11_dz := Nat.ne_of_lt (Nat.lt_of_lt_of_le F7.lt hz11)
  have gq11 := Nat.le_trans Zs2 hz11
  have sq11 := Nat.le_trans K2.1 hz11
  have N11 := Fr.app N2 Nq11
  have Zs11 := Nat.le_trans Zs2 Kq11.1
  have F12 := F7.keep Kq11 (ninS n_z nin0)
  have K11 := K2.trans Kq11 (allS (Or.inl (List.mem_of_getElem? (i := 0) rfl)) all0)
  refine os st11 ?_
  refine gIc (x := 1) X11 hx hby (eD D5_0_ 13 rfl) rfl ?_
  refine OGo.fin X11 hlk (v := (some (.int 1))) (fun h => by rw [hret] at h; cases h) (by decide) (by decide) (fun fs hr => X11.ireturnOut hx hret rfl (by simp) (hb hby (eD D5_0_ 14 rfl)) hr) fun U eU hF => hΦ _ _ _ ?_ hF
  rw [eU]
  show Q_rln0a1 Z a mc dz cz h0 n0 _ _ _
  exact ⟨rfl, N11, K11, Eq11, Fm11, Fs11, _, _, Fe11, Vq11, Ex11, Ov11, sq11⟩

theorem ef_rln1a3 (m : MethodId) (x0 : Addr) (x2 : Addr) (x3 : Int32) : entryFrame m #[(.ref x0), .null, (.ref x2), (.int x3)] 4 = mkF m 0 #[.val (.ref x0), .val .null, .val (.ref x2), .val (.int x3)] [] := by first | (simp [entryFrame, mkF, argsToLocals, Value.category]; done) | rfl
def Q_rln1a3 (Z : State) (a : Addr) (mc : Int32) (d : Addr) (cd : ClassId) (h0 : Heap) (n0 : Nat) (v : Option Value) (h : Heap) (L : List Loc) : Prop := v = none ∧ Fr n0 L ∧ Keep h0 h [a, d] ∧ Exa Z h a s9_ ∧ Fld Z h a s7_ "modCount" "I" (.int mc) ∧ Fld Z h a s9_ "size" "I" (.int (2 : Int32)) ∧ Fld Z h a s9_ "elementData" "[Ljava/lang/Object;" (.ref d) ∧ Arv Z h d cd (.object "java/lang/Object") (10 : Int32) [.null, .null, .null, .null, .null, .null, .null, .null, .null, .null] .null ∧ Exa Z h d "[Ljava/lang/Object;"
theorem rln1a3 (l : Launch) (Z : State) (a0 : Array Value) (hw : OHW Z a0) (ws : List Jvm.Cond) (a : Addr) (mc : Int32) (d : Addr) (cd : ClassId) (h0 : Heap) (n0 : Nat) (Z0 : n0 ≤ h0.size) (E_a : Exa Z h0 a s9_) (g_a : n0 ≤ a) (F_m : Fld Z h0 a s7_ "modCount" "I" (.int mc)) (F_s : Fld Z h0 a s9_ "size" "I" (.int (1 : Int32))) (F_e : Fld Z h0 a s9_ "elementData" "[Ljava/lang/Object;" (.ref d)) (V_d : Arv Z h0 d cd (.object "java/lang/Object") (10 : Int32) [.null, .null, .null, .null, .null, .null, .null, .null, .null, .null] .null) (E_d : Exa Z h0 d "[Ljava/lang/Object;") (o_d : Ovr Z cd "java/lang/Object") (g_d : n0 ≤ d) (n_d : a ≠ d) :
    OCon l Z (⟨s9_, "add", "(Ljava/lang/Object;[Ljava/lang/Object;I)V"⟩ : MethodName) c18_ 4 none ws ({ frames := 0, cells := 0, slots := 0, locals := 0 } : Room) #[(.ref a), .null, (.ref d), (.int (1 : Int32))] h0 (Q_rln1a3 Z a mc d cd h0 n0) := by
  refine OCon.of (plainFor_of_name pn5) ?_
  intro p e s m below meth c s₁ Φ X0 hx hby hml hown hnm hret hlk hZ e0 hΦ
  have N0 := Fr.nil n0
  refine os (fun _ z => castTop (ef_rln1a3 m a d (1 : Int32)) z) ?_
  have K0 := Keep.refl h0 [a, d]
  show OG p e below Φ s₁ m 0 #[rv a, .val .null, rv d, iv 1] []
  refine gIn X0 hx hby (eD D6_0_ 0 rfl) rfl ?_
  refine gAn X0 hx hby (eD D6_0_ 1 rfl) rfl rfl ?_
  obtain ⟨cl1, Aq1, -, S1, M1, -, -⟩ := id V_d
  refine os (fun _ z => X0.arraylength hx (by rw [e0]; exact Aq1.1) (oia hZ Aq1.2.1) (g := (mkF m 2 #[rv a, .val .null, rv d, iv 1] [(.ref d), (.int 1)])) rfl rfl (hb hby (eD D6_0_ 2 rfl)) _ z) ?_
  rw [len_of S1 M1]
  show OG p e below Φ s₁ m 3 #[rv a, .val .null, rv d, iv 1] [(.int 10), (.int 1)]
  refine gCy (pc := 3) (pc' := 11) X0 hx hby (eD D6_0_ 3 rfl) (XT.ii_ne_t (by decide)) (by decide) (by decide) ?_
  refine gAn X0 hx hby (eD D6_0_ 7 rfl) rfl rfl ?_
  refine gIn X0 hx hby (eD D6_0_ 8 rfl) rfl ?_
  refine gAn X0 hx hby (eD D6_0_ 9 rfl) rfl rfl ?_
  obtain ⟨cl2, Aq2, Cq2, S2, M2, H2, G2⟩ := id V_d
  have in2 : ¬ ((1 : Int32) < 0 ∨ cl2.slots.size ≤ (1 : Int32).toNatClampNeg) := inb_of S2 ⟨by decide, by decide⟩
  obtain ⟨T2, h2, X2, e2, W2, st2⟩ := stR X0 hx hZ e0 Aq2 in2 rfl (Or.inl rfl) (g := (mkF m 14 #[rv a, .val .null, rv d, iv 1] [.null, (.int 1), (.ref d)])) rfl rfl (hb hby (eD D6_0_ 10 rfl))
  have F3 := E_a.wr W2
  have F4 := F_m.other W2 (Or.inl n_d)
  have F5 := F_s.other W2 (Or.inl n_d)
  have F6 := F_e.other W2 (Or.inl n_d)
  have F7 := E_d.wr W2
  have V2 : Arv Z h2 d cd (.object "java/lang/Object") (10 : Int32) [.null, .null, .null, .null, .null, .null, .null, .null, .null, .null] .null := Arv.set Aq2 Cq2 S2 M2 H2 G2 rfl W2 1 (by decide) (by show 1 < 10; decide)
  have K2 := K0.wr W2 (Or.inl (List.mem_of_getElem? (i := 1) rfl))
  have N2 := Fr.snoc X2 N0 g_d
  have Zs2 := ozw W2 Z0
  refine os st2 ?_
  refine gAn X2 hx hby (eD D6_0_ 11 rfl) rfl rfl ?_
  refine gIn X2 hx hby (eD D6_0_ 12 rfl) rfl ?_
  refine gIc (x := 1) X2 hx hby (eD D6_0_ 13 rfl) rfl ?_
  refine os (fun _ z => XS.iadd X2.here hx rfl (hb hby (eD D6_0_ 14 rfl)) rfl z) ?_
  show OG p e below Φ T2 m 19 #[rv a, .val .null, rv d, iv 1] [(.int 2), (.ref a)]
  obtain ⟨T8, h8, X8, e8, W8, st8⟩ := putF X2 hx hZ hown (host := "") (Or.inl (ow34 hw)) Via.refl e2 F5 F3 (Or.inl (ow35 hw)) (ow2 hw) (ty := .int) (by decide) rfl rfl (g := (mkF m 19 #[rv a, .val .null, rv d, iv 1] [(.int 2), (.ref a)])) rfl rfl (hb hby (eD D6_0_ 15 rfl))
  have F9 := F3.wr W8
  have F10 := F4.other W8 (Or.inr (slot_ne (Or.inl (ow23 hw)) (Or.inl (ow35 hw)) (by decide) (t := .int) (t' := .int) (by decide) (by decide)))
  have F11 := F5.same W8
  have F12 := F6.other W8 (Or.inr (slot_ne (Or.inl (ow26 hw)) (Or.inl (ow35 hw)) (by decide) (t := (.array (.object "java/lang/Object"))) (t' := .int) (by decide) (by decide)))
  have F13 := F7.wr W8
  have F14 := V2.other W8 (Ne.symm n_d)
  have K8 := K2.wr W8 (Or.inl (List.mem_of_getElem? (i := 0) rfl))
  have N8 := Fr.snoc X8 N2 g_a
  have Zs8 := ozw W8 Zs2
  refine os st8 ?_
  refine OGo.fin X8 hlk (v := none) (fun _ => rfl) (by decide) (by decide) (fun fs hr => X8.returnOut hx hret (hb hby (eD D6_1_ 0 rfl)) hr) fun U eU hF => hΦ _ _ _ ?_ hF
  rw [eU, e8]
  show Q_rln1a3 Z a mc d cd h0 n0 _ _ _
  exact ⟨rfl, N8, K8, F9, F10, F11, F12, F14, F13⟩

theorem ef_rln1a1 (m : MethodId) (x0 : Addr) : entryFrame m #[(.ref x0), .null] 2 = mkF m 0 #[.val (.ref x0), .val .null] [] := by first | (simp [entryFrame, mkF, argsToLocals, Value.category]; done) | rfl
def Q_rln1a1 (Z : State) (a : Addr) (mc : Int32) (d : Addr) (cd : ClassId) (h0 : Heap) (n0 : Nat) (v : Option Value) (h : Heap) (L : List Loc) : Prop := v = some (.int (1 : Int32)) ∧ Fr n0 L ∧ Keep h0 h [a, d] ∧ Exa Z h a s9_ ∧ Fld Z h a s7_ "modCount" "I" (.int (mc + 1)) ∧ Fld Z h a s9_ "size" "I" (.int (2 : Int32)) ∧ Fld Z h a s9_ "elementData" "[Ljava/lang/Object;" (.ref d) ∧ Arv Z h d cd (.object "java/lang/Object") (10 : Int32) [.null, .null, .null, .null, .null, .null, .null, .null, .null, .null] .null ∧ Exa Z h d "[Ljava/lang/Object;"
theorem rln1a1 (l : Launch) (Z : State) (a0 : Array Value) (hw : OHW Z a0) (ws : List Jvm.Cond) (a : Addr) (mc : Int32) (d : Addr) (cd : ClassId) (h0 : Heap) (n0 : Nat) (Z0 : n0 ≤ h0.size) (E_a : Exa Z h0 a s9_) (g_a : n0 ≤ a) (F_m : Fld Z h0 a s7_ "modCount" "I" (.int mc)) (F_s : Fld Z h0 a s9_ "size" "I" (.int (1 : Int32))) (F_e : Fld Z h0 a s9_ "elementData" "[Ljava/lang/Object;" (.ref d)) (V_d : Arv Z h0 d cd (.object "java/lang/Object") (10 : Int32) [.null, .null, .null, .null, .null, .null, .null, .null, .null, .null] .null) (E_d : Exa Z h0 d "[Ljava/lang/Object;") (o_d : Ovr Z cd "java/lang/Object") (g_d : n0 ≤ d) (n_d : a ≠ d) :
    OCon l Z (⟨s9_, "add", "(Ljava/lang/Object;)Z"⟩ : MethodName) c19_ 2 (some .boolean) ws ({ frames := 1, cells := 0, slots := 0, locals := 15 } : Room) #[(.ref a), .null] h0 (Q_rln1a1 Z a mc d cd h0 n0) := by
  refine OCon.of (plainFor_of_name pn5) ?_
  intro p e s m below meth c s₁ Φ X0 hx hby hml hown hnm hret hlk hZ e0 hΦ
  have N0 := Fr.nil n0
  refine os (fun _ z => castTop (ef_rln1a1 m a) z) ?_
  have K0 := Keep.refl h0 [a, d]
  show OG p e below Φ s₁ m 0 #[rv a, .val .null] []
  refine gAn X0 hx hby (eD D5_0_ 0 rfl) rfl rfl ?_
  refine gDu X0 hx hby (eD D5_0_ 1 rfl) rfl ?_
  obtain ⟨T1, X1, e1, st1⟩ := getF X0 hx hZ hown (host := "") (Or.inl (ow32 hw)) (Via.of (ow33 hw)) e0 F_m (g := (mkF m 2 #[rv a, .val .null] [(.ref a), (.ref a)])) rfl rfl (hb hby (eD D5_0_ 2 rfl))
  refine os st1 ?_
  refine gIc (x := 1) X1 hx hby (eD D5_0_ 3 rfl) rfl ?_
  refine os (fun _ z => XS.iadd X1.here hx rfl (hb hby (eD D5_0_ 4 rfl)) rfl z) ?_
  obtain ⟨T2, h2, X2, e2, W2, st2⟩ := putF X1 hx hZ hown (host := "") (Or.inl (ow32 hw)) (Via.of (ow33 hw)) e1 F_m E_a (Or.inl (ow23 hw)) (ow2 hw) (ty := .int) (by decide) rfl rfl (g := (mkF m 7 #[rv a, .val .null] [(.int (mc + 1)), (.ref a)])) rfl rfl (hb hby (eD D5_0_ 5 rfl))
  have F3 := E_a.wr W2
  have F4 := F_m.same W2
  have F5 := F_s.other W2 (Or.inr (slot_ne (Or.inl (ow35 hw)) (Or.inl (ow23 hw)) (by decide) (t := .int) (t' := .int) (by decide) (by decide)))
  have F6 := F_e.other W2 (Or.inr (slot_ne (Or.inl (ow26 hw)) (Or.inl (ow23 hw)) (by decide) (t := (.array (.object "java/lang/Object"))) (t' := .int) (by decide) (by decide)))
  have F7 := V_d.other W2 (Ne.symm n_d)
  have F8 := E_d.wr W2
  have K2 := K0.wr W2 (Or.inl (List.mem_of_getElem? (i := 0) rfl))
  have N2 := Fr.snoc X2 N0 g_a
  have Zs2 := ozw W2 Z0
  refine os st2 ?_
  refine gAn X2 hx hby (eD D5_0_ 6 rfl) rfl rfl ?_
  refine gAn X2 hx hby (eD D5_0_ 7 rfl) rfl rfl ?_
  refine gAn X2 hx hby (eD D5_0_ 8 rfl) rfl rfl ?_
  obtain ⟨T9, X9, e9, st9⟩ := getF X2 hx hZ hown (host := "") (Or.inl (ow25 hw)) Via.refl e2 F6 (g := (mkF m 13 #[rv a, .val .null] [(.ref a), .null, (.ref a)])) rfl rfl (hb hby (eD D5_0_ 9 rfl))
  refine os st9 ?_
  refine gAn X9 hx hby (eD D5_0_ 10 rfl) rfl rfl ?_
  obtain ⟨T10, X10, e10, st10⟩ := getF X9 hx hZ hown (host := "") (Or.inl (ow34 hw)) Via.refl e9 F5 (g := (mkF m 17 #[rv a, .val .null] [(.ref a), (.ref d), .null, (.ref a)])) rfl rfl (hb hby (eD D5_0_ 11 rfl))
  refine os st10 ?_
  obtain ⟨_, T11, L11, X11, hQ11, st11⟩ := own_callPr X10 hx hZ hown (ow36 hw) (ow37 hw) (ow39 hw) (ow38 hw) (ow3 hw) (ow40 hw) (by decide) (rln1a3 l Z a0 hw [] a (mc + 1) d cd h2 n0 Zs2 F3 g_a F4 F5 F6 F7 F8 o_d g_d n_d) e10 (W := 0) (by decide) F3 (pc := 20) (ls := #[rv a, .val .null]) (stk := [(.int 1), (.ref d), .null, (.ref a)]) (by rw [hml]; rfl) (argsL := [.null, (.ref d), (.int 1)]) (rest := []) (lenOf pd5 rfl) rfl rfl (Nat.le_of_eq rfl) (hb hby (eD D5_0_ 12 rfl))
  obtain ⟨rfl, Nq11, Kq11, Eq11, Fm11, Fs11, Fe11, Vq11, Ex11⟩ := hQ11
  have N11 := Fr.app N2 Nq11
  have Zs11 := Nat.le_trans Zs2 Kq11.1
  have K11 := K2.trans Kq11 (allS (Or.inl (List.mem_of_getElem? (i := 0) rfl)) (allS (Or.inl (List.mem_of_getElem? (i := 1) rfl)) all0))
  refine os st11 ?_
  refine gIc (x := 1) X11 hx hby (eD D5_0_ 13 rfl) rfl ?_
  refine OGo.fin X11 hlk (v := (some (.int 1))) (fun h => by rw [hret] at h; cases h) (by decide) (by decide) (fun fs hr => X11.ireturnOut hx hret rfl (by simp) (hb hby (eD D5_0_ 14 rfl)) hr) fun U eU hF => hΦ _ _ _ ?_ hF
  rw [eU]
  show Q_rln1a1 Z a mc d cd h0 n0 _ _ _
  exact ⟨rfl, N11, K11, Eq11, Fm11, Fs11, Fe11, Vq11, Ex11⟩

theorem ef_rln2a3 (m : MethodId) (x0 : Addr) (x2 : Addr) (x3 : Int32) : entryFrame m #[(.ref x0), .null, (.ref x2), (.int x3)] 4 = mkF m 0 #[.val (.ref x0), .val .null, .val (.ref x2), .val (.int x3)] [] := by first | (simp [entryFrame, mkF, argsToLocals, Value.category]; done) | rfl
def Q_rln2a3 (Z : State) (a : Addr) (mc : Int32) (d : Addr) (cd : ClassId) (h0 : Heap) (n0 : Nat) (v : Option Value) (h : Heap) (L : List Loc) : Prop := v = none ∧ Fr n0 L ∧ Keep h0 h [a, d] ∧ Exa Z h a s9_ ∧ Fld Z h a s7_ "modCount" "I" (.int mc) ∧ Fld Z h a s9_ "size" "I" (.int (3 : Int32)) ∧ Fld Z h a s9_ "elementData" "[Ljava/lang/Object;" (.ref d) ∧ Arv Z h d cd (.object "java/lang/Object") (10 : Int32) [.null, .null, .null, .null, .null, .null, .null, .null, .null, .null] .null ∧ Exa Z h d "[Ljava/lang/Object;"
theorem rln2a3 (l : Launch) (Z : State) (a0 : Array Value) (hw : OHW Z a0) (ws : List Jvm.Cond) (a : Addr) (mc : Int32) (d : Addr) (cd : ClassId) (h0 : Heap) (n0 : Nat) (Z0 : n0 ≤ h0.size) (E_a : Exa Z h0 a s9_) (g_a : n0 ≤ a) (F_m : Fld Z h0 a s7_ "modCount" "I" (.int mc)) (F_s : Fld Z h0 a s9_ "size" "I" (.int (2 : Int32))) (F_e : Fld Z h0 a s9_ "elementData" "[Ljava/lang/Object;" (.ref d)) (V_d : Arv Z h0 d cd (.object "java/lang/Object") (10 : Int32) [.null, .null, .null, .null, .null, .null, .null, .null, .null, .null] .null) (E_d : Exa Z h0 d "[Ljava/lang/Object;") (o_d : Ovr Z cd "java/lang/Object") (g_d : n0 ≤ d) (n_d : a ≠ d) :
    OCon l Z (⟨s9_, "add", "(Ljava/lang/Object;[Ljava/lang/Object;I)V"⟩ : MethodName) c18_ 4 none ws ({ frames := 0, cells := 0, slots := 0, locals := 0 } : Room) #[(.ref a), .null, (.ref d), (.int (2 : Int32))] h0 (Q_rln2a3 Z a mc d cd h0 n0) := by
  refine OCon.of (plainFor_of_name pn5) ?_
  intro p e s m below meth c s₁ Φ X0 hx hby hml hown hnm hret hlk hZ e0 hΦ
  have N0 := Fr.nil n0
  refine os (fun _ z => castTop (ef_rln2a3 m a d (2 : Int32)) z) ?_
  have K0 := Keep.refl h0 [a, d]
  show OG p e below Φ s₁ m 0 #[rv a, .val .null, rv d, iv 2] []
  refine gIn X0 hx hby (eD D6_0_ 0 rfl) rfl ?_
  refine gAn X0 hx hby (eD D6_0_ 1 rfl) rfl rfl ?_
  obtain ⟨cl1, Aq1, -, S1, M1, -, -⟩ := id V_d
  refine os (fun _ z => X0.arraylength hx (by rw [e0]; exact Aq1.1) (oia hZ Aq1.2.1) (g := (mkF m 2 #[rv a, .val .null, rv d, iv 2] [(.ref d), (.int 2)])) rfl rfl (hb hby (eD D6_0_ 2 rfl)) _ z) ?_
  rw [len_of S1 M1]
  show OG p e below Φ s₁ m 3 #[rv a, .val .null, rv d, iv 2] [(.int 10), (.int 2)]
  refine gCy (pc := 3) (pc' := 11) X0 hx hby (eD D6_0_ 3 rfl) (XT.ii_ne_t (by decide)) (by decide) (by decide) ?_
  refine gAn X0 hx hby (eD D6_0_ 7 rfl) rfl rfl ?_
  refine gIn X0 hx hby (eD D6_0_ 8 rfl) rfl ?_
  refine gAn X0 hx hby (eD D6_0_ 9 rfl) rfl rfl ?_
  obtain ⟨cl2, Aq2, Cq2, S2, M2, H2, G2⟩ := id V_d
  have in2 : ¬ ((2 : Int32) < 0 ∨ cl2.slots.size ≤ (2 : Int32).toNatClampNeg) := inb_of S2 ⟨by decide, by decide⟩
  obtain ⟨T2, h2, X2, e2, W2, st2⟩ := stR X0 hx hZ e0 Aq2 in2 rfl (Or.inl rfl) (g := (mkF m 14 #[rv a, .val .null, rv d, iv 2] [.null, (.int 2), (.ref d)])) rfl rfl (hb hby (eD D6_0_ 10 rfl))
  have F3 := E_a.wr W2
  have F4 := F_m.other W2 (Or.inl n_d)
  have F5 := F_s.other W2 (Or.inl n_d)
  have F6 := F_e.other W2 (Or.inl n_d)
  have F7 := E_d.wr W2
  have V2 : Arv Z h2 d cd (.object "java/lang/Object") (10 : Int32) [.null, .null, .null, .null, .null, .null, .null, .null, .null, .null] .null := Arv.set Aq2 Cq2 S2 M2 H2 G2 rfl W2 2 (by decide) (by show 2 < 10; decide)
  have K2 := K0.wr W2 (Or.inl (List.mem_of_getElem? (i := 1) rfl))
  have N2 := Fr.snoc X2 N0 g_d
  have Zs2 := ozw W2 Z0
  refine os st2 ?_
  refine gAn X2 hx hby (eD D6_0_ 11 rfl) rfl rfl ?_
  refine gIn X2 hx hby (eD D6_0_ 12 rfl) rfl ?_
  refine gIc (x := 1) X2 hx hby (eD D6_0_ 13 rfl) rfl ?_
  refine os (fun _ z => XS.iadd X2.here hx rfl (hb hby (eD D6_0_ 14 rfl)) rfl z) ?_
  show OG p e below Φ T2 m 19 #[rv a, .val .null, rv d, iv 2] [(.int 3), (.ref a)]
  obtain ⟨T8, h8, X8, e8, W8, st8⟩ := putF X2 hx hZ hown (host := "") (Or.inl (ow34 hw)) Via.refl e2 F5 F3 (Or.inl (ow35 hw)) (ow2 hw) (ty := .int) (by decide) rfl rfl (g := (mkF m 19 #[rv a, .val .null, rv d, iv 2] [(.int 3), (.ref a)])) rfl rfl (hb hby (eD D6_0_ 15 rfl))
  have F9 := F3.wr W8
  have F10 := F4.other W8 (Or.inr (slot_ne (Or.inl (ow23 hw)) (Or.inl (ow35 hw)) (by decide) (t := .int) (t' := .int) (by decide) (by decide)))
  have F11 := F5.same W8
  have F12 := F6.other W8 (Or.inr (slot_ne (Or.inl (ow26 hw)) (Or.inl (ow35 hw)) (by decide) (t := (.array (.object "java/lang/Object"))) (t' := .int) (by decide) (by decide)))
  have F13 := F7.wr W8
  have F14 := V2.other W8 (Ne.symm n_d)
  have K8 := K2.wr W8 (Or.inl (List.mem_of_getElem? (i := 0) rfl))
  have N8 := Fr.snoc X8 N2 g_a
  have Zs8 := ozw W8 Zs2
  refine os st8 ?_
  refine OGo.fin X8 hlk (v := none) (fun _ => rfl) (by decide) (by decide) (fun fs hr => X8.returnOut hx hret (hb hby (eD D6_1_ 0 rfl)) hr) fun U eU hF => hΦ _ _ _ ?_ hF
  rw [eU, e8]
  show Q_rln2a3 Z a mc d cd h0 n0 _ _ _
  exact ⟨rfl, N8, K8, F9, F10, F11, F12, F14, F13⟩

theorem ef_rln2a1 (m : MethodId) (x0 : Addr) : entryFrame m #[(.ref x0), .null] 2 = mkF m 0 #[.val (.ref x0), .val .null] [] := by first | (simp [entryFrame, mkF, argsToLocals, Value.category]; done) | rfl
def Q_rln2a1 (Z : State) (a : Addr) (mc : Int32) (d : Addr) (cd : ClassId) (h0 : Heap) (n0 : Nat) (v : Option Value) (h : Heap) (L : List Loc) : Prop := v = some (.int (1 : Int32)) ∧ Fr n0 L ∧ Keep h0 h [a, d] ∧ Exa Z h a s9_ ∧ Fld Z h a s7_ "modCount" "I" (.int (mc + 1)) ∧ Fld Z h a s9_ "size" "I" (.int (3 : Int32)) ∧ Fld Z h a s9_ "elementData" "[Ljava/lang/Object;" (.ref d) ∧ Arv Z h d cd (.object "java/lang/Object") (10 : Int32) [.null, .null, .null, .null, .null, .null, .null, .null, .null, .null] .null ∧ Exa Z h d "[Ljava/lang/Object;"
theorem rln2a1 (l : Launch) (Z : State) (a0 : Array Value) (hw : OHW Z a0) (ws : List Jvm.Cond) (a : Addr) (mc : Int32) (d : Addr) (cd : ClassId) (h0 : Heap) (n0 : Nat) (Z0 : n0 ≤ h0.size) (E_a : Exa Z h0 a s9_) (g_a : n0 ≤ a) (F_m : Fld Z h0 a s7_ "modCount" "I" (.int mc)) (F_s : Fld Z h0 a s9_ "size" "I" (.int (2 : Int32))) (F_e : Fld Z h0 a s9_ "elementData" "[Ljava/lang/Object;" (.ref d)) (V_d : Arv Z h0 d cd (.object "java/lang/Object") (10 : Int32) [.null, .null, .null, .null, .null, .null, .null, .null, .null, .null] .null) (E_d : Exa Z h0 d "[Ljava/lang/Object;") (o_d : Ovr Z cd "java/lang/Object") (g_d : n0 ≤ d) (n_d : a ≠ d) :
    OCon l Z (⟨s9_, "add", "(Ljava/lang/Object;)Z"⟩ : MethodName) c19_ 2 (some .boolean) ws ({ frames := 1, cells := 0, slots := 0, locals := 15 } : Room) #[(.ref a), .null] h0 (Q_rln2a1 Z a mc d cd h0 n0) := by
  refine OCon.of (plainFor_of_name pn5) ?_
  intro p e s m below meth c s₁ Φ X0 hx hby hml hown hnm hret hlk hZ e0 hΦ
  have N0 := Fr.nil n0
  refine os (fun _ z => castTop (ef_rln2a1 m a) z) ?_
  have K0 := Keep.refl h0 [a, d]
  show OG p e below Φ s₁ m 0 #[rv a, .val .null] []
  refine gAn X0 hx hby (eD D5_0_ 0 rfl) rfl rfl ?_
  refine gDu X0 hx hby (eD D5_0_ 1 rfl) rfl ?_
  obtain ⟨T1, X1, e1, st1⟩ := getF X0 hx hZ hown (host := "") (Or.inl (ow32 hw)) (Via.of (ow33 hw)) e0 F_m (g := (mkF m 2 #[rv a, .val .null] [(.ref a), (.ref a)])) rfl rfl (hb hby (eD D5_0_ 2 rfl))
  refine os st1 ?_
  refine gIc (x := 1) X1 hx hby (eD D5_0_ 3 rfl) rfl ?_
  refine os (fun _ z => XS.iadd X1.here hx rfl (hb hby (eD D5_0_ 4 rfl)) rfl z) ?_
  obtain ⟨T2, h2, X2, e2, W2, st2⟩ := putF X1 hx hZ hown (host := "") (Or.inl (ow32 hw)) (Via.of (ow33 hw)) e1 F_m E_a (Or.inl (ow23 hw)) (ow2 hw) (ty := .int) (by decide) rfl rfl (g := (mkF m 7 #[rv a, .val .null] [(.int (mc + 1)), (.ref a)])) rfl rfl (hb hby (eD D5_0_ 5 rfl))
  have F3 := E_a.wr W2
  have F4 := F_m.same W2
  have F5 := F_s.other W2 (Or.inr (slot_ne (Or.inl (ow35 hw)) (Or.inl (ow23 hw)) (by decide) (t := .int) (t' := .int) (by decide) (by decide)))
  have F6 := F_e.other W2 (Or.inr (slot_ne (Or.inl (ow26 hw)) (Or.inl (ow23 hw)) (by decide) (t := (.array (.object "java/lang/Object"))) (t' := .int) (by decide) (by decide)))
  have F7 := V_d.other W2 (Ne.symm n_d)
  have F8 := E_d.wr W2
  have K2 := K0.wr W2 (Or.inl (List.mem_of_getElem? (i := 0) rfl))
  have N2 := Fr.snoc X2 N0 g_a
  have Zs2 := ozw W2 Z0
  refine os st2 ?_
  refine gAn X2 hx hby (eD D5_0_ 6 rfl) rfl rfl ?_
  refine gAn X2 hx hby (eD D5_0_ 7 rfl) rfl rfl ?_
  refine gAn X2 hx hby (eD D5_0_ 8 rfl) rfl rfl ?_
  obtain ⟨T9, X9, e9, st9⟩ := getF X2 hx hZ hown (host := "") (Or.inl (ow25 hw)) Via.refl e2 F6 (g := (mkF m 13 #[rv a, .val .null] [(.ref a), .null, (.ref a)])) rfl rfl (hb hby (eD D5_0_ 9 rfl))
  refine os st9 ?_
  refine gAn X9 hx hby (eD D5_0_ 10 rfl) rfl rfl ?_
  obtain ⟨T10, X10, e10, st10⟩ := getF X9 hx hZ hown (host := "") (Or.inl (ow34 hw)) Via.refl e9 F5 (g := (mkF m 17 #[rv a, .val .null] [(.ref a), (.ref d), .null, (.ref a)])) rfl rfl (hb hby (eD D5_0_ 11 rfl))
  refine os st10 ?_
  obtain ⟨_, T11, L11, X11, hQ11, st11⟩ := own_callPr X10 hx hZ hown (ow36 hw) (ow37 hw) (ow39 hw) (ow38 hw) (ow3 hw) (ow40 hw) (by decide) (rln2a3 l Z a0 hw [] a (mc + 1) d cd h2 n0 Zs2 F3 g_a F4 F5 F6 F7 F8 o_d g_d n_d) e10 (W := 0) (by decide) F3 (pc := 20) (ls := #[rv a, .val .null]) (stk := [(.int 2), (.ref d), .null, (.ref a)]) (by rw [hml]; rfl) (argsL := [.null, (.ref d), (.int 2)]) (rest := []) (lenOf pd5 rfl) rfl rfl (Nat.le_of_eq rfl) (hb hby (eD D5_0_ 12 rfl))
  obtain ⟨rfl, Nq11, Kq11, Eq11, Fm11, Fs11, Fe11, Vq11, Ex11⟩ := hQ11
  have N11 := Fr.app N2 Nq11
  have Zs11 := Nat.le_trans Zs2 Kq11.1
  have K11 := K2.trans Kq11 (allS (Or.inl (List.mem_of_getElem? (i := 0) rfl)) (allS (Or.inl (List.mem_of_getElem? (i := 1) rfl)) all0))
  refine os st11 ?_
  refine gIc (x := 1) X11 hx hby (eD D5_0_ 13 rfl) rfl ?_
  refine OGo.fin X11 hlk (v := (some (.int 1))) (fun h => by rw [hret] at h; cases h) (by decide) (by decide) (fun fs hr => X11.ireturnOut hx hret rfl (by simp) (hb hby (eD D5_0_ 14 rfl)) hr) fun U eU hF => hΦ _ _ _ ?_ hF
  rw [eU]
  show Q_rln2a1 Z a mc d cd h0 n0 _ _ _
  exact ⟨rfl, N11, K11, Eq11, Fm11, Fs11, Fe11, Vq11, Ex11⟩

theorem ef_rln3a3 (m : MethodId) (x0 : Addr) (x2 : Addr) (x3 : Int32) : entryFrame m #[(.ref x0), .null, (.ref x2), (.int x3)] 4 = mkF m 0 #[.val (.ref x0), .val .null, .val (.ref x2), .val (.int x3)] [] := by first | (simp [entryFrame, mkF, argsToLocals, Value.category]; done) | rfl
def Q_rln3a3 (Z : State) (a : Addr) (mc : Int32) (d : Addr) (cd : ClassId) (h0 : Heap) (n0 : Nat) (v : Option Value) (h : Heap) (L : List Loc) : Prop := v = none ∧ Fr n0 L ∧ Keep h0 h [a, d] ∧ Exa Z h a s9_ ∧ Fld Z h a s7_ "modCount" "I" (.int mc) ∧ Fld Z h a s9_ "size" "I" (.int (4 : Int32)) ∧ Fld Z h a s9_ "elementData" "[Ljava/lang/Object;" (.ref d) ∧ Arv Z h d cd (.object "java/lang/Object") (10 : Int32) [.null, .null, .null, .null, .null, .null, .null, .null, .null, .null] .null ∧ Exa Z h d "[Ljava/lang/Object;"
theorem rln3a3 (l : Launch) (Z : State) (a0 : Array Value) (hw : OHW Z a0) (ws : List Jvm.Cond) (a : Addr) (mc : Int32) (d : Addr) (cd : ClassId) (h0 : Heap) (n0 : Nat) (Z0 : n0 ≤ h0.size) (E_a : Exa Z h0 a s9_) (g_a : n0 ≤ a) (F_m : Fld Z h0 a s7_ "modCount" "I" (.int mc)) (F_s : Fld Z h0 a s9_ "size" "I" (.int (3 : Int32))) (F_e : Fld Z h0 a s9_ "elementData" "[Ljava/lang/Object;" (.ref d)) (V_d : Arv Z h0 d cd (.object "java/lang/Object") (10 : Int32) [.null, .null, .null, .null, .null, .null, .null, .null, .null, .null] .null) (E_d : Exa Z h0 d "[Ljava/lang/Object;") (o_d : Ovr Z cd "java/lang/Object") (g_d : n0 ≤ d) (n_d : a ≠ d) :
    OCon l Z (⟨s9_, "add", "(Ljava/lang/Object;[Ljava/lang/Object;I)V"⟩ : MethodName) c18_ 4 none ws ({ frames := 0, cells := 0, slots := 0, locals := 0 } : Room) #[(.ref a), .null, (.ref d), (.int (3 : Int32))] h0 (Q_rln3a3 Z a mc d cd h0 n0) := by
  refine OCon.of (plainFor_of_name pn5) ?_
  intro p e s m below meth c s₁ Φ X0 hx hby hml hown hnm hret hlk hZ e0 hΦ
  have N0 := Fr.nil n0
  refine os (fun _ z => castTop (ef_rln3a3 m a d (3 : Int32)) z) ?_
  have K0 := Keep.refl h0 [a, d]
  show OG p e below Φ s₁ m 0 #[rv a, .val .null, rv d, iv 3] []
  refine gIn X0 hx hby (eD D6_0_ 0 rfl) rfl ?_
  refine gAn X0 hx hby (eD D6_0_ 1 rfl) rfl rfl ?_
  obtain ⟨cl1, Aq1, -, S1, M1, -, -⟩ := id V_d
  refine os (fun _ z => X0.arraylength hx (by rw [e0]; exact Aq1.1) (oia hZ Aq1.2.1) (g := (mkF m 2 #[rv a, .val .null, rv d, iv 3] [(.ref d), (.int 3)])) rfl rfl (hb hby (eD D6_0_ 2 rfl)) _ z) ?_
  rw [len_of S1 M1]
  show OG p e below Φ s₁ m 3 #[rv a, .val .null, rv d, iv 3] [(.int 10), (.int 3)]
  refine gCy (pc := 3) (pc' := 11) X0 hx hby (eD D6_0_ 3 rfl) (XT.ii_ne_t (by decide)) (by decide) (by decide) ?_
  refine gAn X0 hx hby (eD D6_0_ 7 rfl) rfl rfl ?_
  refine gIn X0 hx hby (eD D6_0_ 8 rfl) rfl ?_
  refine gAn X0 hx hby (eD D6_0_ 9 rfl) rfl rfl ?_
  obtain ⟨cl2, Aq2, Cq2, S2, M2, H2, G2⟩ := id V_d
  have in2 : ¬ ((3 : Int32) < 0 ∨ cl2.slots.size ≤ (3 : Int32).toNatClampNeg) := inb_of S2 ⟨by decide, by decide⟩
  obtain ⟨T2, h2, X2, e2, W2, st2⟩ := stR X0 hx hZ e0 Aq2 in2 rfl (Or.inl rfl) (g := (mkF m 14 #[rv a, .val .null, rv d, iv 3] [.null, (.int 3), (.ref d)])) rfl rfl (hb hby (eD D6_0_ 10 rfl))
  have F3 := E_a.wr W2
  have F4 := F_m.other W2 (Or.inl n_d)
  have F5 := F_s.other W2 (Or.inl n_d)
  have F6 := F_e.other W2 (Or.inl n_d)
  have F7 := E_d.wr W2
  have V2 : Arv Z h2 d cd (.object "java/lang/Object") (10 : Int32) [.null, .null, .null, .null, .null, .null, .null, .null, .null, .null] .null := Arv.set Aq2 Cq2 S2 M2 H2 G2 rfl W2 3 (by decide) (by show 3 < 10; decide)
  have K2 := K0.wr W2 (Or.inl (List.mem_of_getElem? (i := 1) rfl))
  have N2 := Fr.snoc X2 N0 g_d
  have Zs2 := ozw W2 Z0
  refine os st2 ?_
  refine gAn X2 hx hby (eD D6_0_ 11 rfl) rfl rfl ?_
  refine gIn X2 hx hby (eD D6_0_ 12 rfl) rfl ?_
  refine gIc (x := 1) X2 hx hby (eD D6_0_ 13 rfl) rfl ?_
  refine os (fun _ z => XS.iadd X2.here hx rfl (hb hby (eD D6_0_ 14 rfl)) rfl z) ?_
  show OG p e below Φ T2 m 19 #[rv a, .val .null, rv d, iv 3] [(.int 4), (.ref a)]
  obtain ⟨T8, h8, X8, e8, W8, st8⟩ := putF X2 hx hZ hown (host := "") (Or.inl (ow34 hw)) Via.refl e2 F5 F3 (Or.inl (ow35 hw)) (ow2 hw) (ty := .int) (by decide) rfl rfl (g := (mkF m 19 #[rv a, .val .null, rv d, iv 3] [(.int 4), (.ref a)])) rfl rfl (hb hby (eD D6_0_ 15 rfl))
  have F9 := F3.wr W8
  have F10 := F4.other W8 (Or.inr (slot_ne (Or.inl (ow23 hw)) (Or.inl (ow35 hw)) (by decide) (t := .int) (t' := .int) (by decide) (by decide)))
  have F11 := F5.same W8
  have F12 := F6.other W8 (Or.inr (slot_ne (Or.inl (ow26 hw)) (Or.inl (ow35 hw)) (by decide) (t := (.array (.object "java/lang/Object"))) (t' := .int) (by decide) (by decide)))
  have F13 := F7.wr W8
  have F14 := V2.other W8 (Ne.symm n_d)
  have K8 := K2.wr W8 (Or.inl (List.mem_of_getElem? (i := 0) rfl))
  have N8 := Fr.snoc X8 N2 g_a
  have Zs8 := ozw W8 Zs2
  refine os st8 ?_
  refine OGo.fin X8 hlk (v := none) (fun _ => rfl) (by decide) (by decide) (fun fs hr => X8.returnOut hx hret (hb hby (eD D6_1_ 0 rfl)) hr) fun U eU hF => hΦ _ _ _ ?_ hF
  rw [eU, e8]
  show Q_rln3a3 Z a mc d cd h0 n0 _ _ _
  exact ⟨rfl, N8, K8, F9, F10, F11, F12, F14, F13⟩

theorem ef_rln3a1 (m : MethodId) (x0 : Addr) : entryFrame m #[(.ref x0), .null] 2 = mkF m 0 #[.val (.ref x0), .val .null] [] := by first | (simp [entryFrame, mkF, argsToLocals, Value.category]; done) | rfl
def Q_rln3a1 (Z : State) (a : Addr) (mc : Int32) (d : Addr) (cd : ClassId) (h0 : Heap) (n0 : Nat) (v : Option Value) (h : Heap) (L : List Loc) : Prop := v = some (.int (1 : Int32)) ∧ Fr n0 L ∧ Keep h0 h [a, d] ∧ Exa Z h a s9_ ∧ Fld Z h a s7_ "modCount" "I" (.int (mc + 1)) ∧ Fld Z h a s9_ "size" "I" (.int (4 : Int32)) ∧ Fld Z h a s9_ "elementData" "[Ljava/lang/Object;" (.ref d) ∧ Arv Z h d cd (.object "java/lang/Object") (10 : Int32) [.null, .null, .null, .null, .null, .null, .null, .null, .null, .null] .null ∧ Exa Z h d "[Ljava/lang/Object;"
theorem rln3a1 (l : Launch) (Z : State) (a0 : Array Value) (hw : OHW Z a0) (ws : List Jvm.Cond) (a : Addr) (mc : Int32) (d : Addr) (cd : ClassId) (h0 : Heap) (n0 : Nat) (Z0 : n0 ≤ h0.size) (E_a : Exa Z h0 a s9_) (g_a : n0 ≤ a) (F_m : Fld Z h0 a s7_ "modCount" "I" (.int mc)) (F_s : Fld Z h0 a s9_ "size" "I" (.int (3 : Int32))) (F_e : Fld Z h0 a s9_ "elementData" "[Ljava/lang/Object;" (.ref d)) (V_d : Arv Z h0 d cd (.object "java/lang/Object") (10 : Int32) [.null, .null, .null, .null, .null, .null, .null, .null, .null, .null] .null) (E_d : Exa Z h0 d "[Ljava/lang/Object;") (o_d : Ovr Z cd "java/lang/Object") (g_d : n0 ≤ d) (n_d : a ≠ d) :
    OCon l Z (⟨s9_, "add", "(Ljava/lang/Object;)Z"⟩ : MethodName) c19_ 2 (some .boolean) ws ({ frames := 1, cells := 0, slots := 0, locals := 15 } : Room) #[(.ref a), .null] h0 (Q_rln3a1 Z a mc d cd h0 n0) := by
  refine OCon.of (plainFor_of_name pn5) ?_
  intro p e s m below meth c s₁ Φ X0 hx hby hml hown hnm hret hlk hZ e0 hΦ
  have N0 := Fr.nil n0
  refine os (fun _ z => castTop (ef_rln3a1 m a) z) ?_
  have K0 := Keep.refl h0 [a, d]
  show OG p e below Φ s₁ m 0 #[rv a, .val .null] []
  refine gAn X0 hx hby (eD D5_0_ 0 rfl) rfl rfl ?_
  refine gDu X0 hx hby (eD D5_0_ 1 rfl) rfl ?_
  obtain ⟨T1, X1, e1, st1⟩ := getF X0 hx hZ hown (host := "") (Or.inl (ow32 hw)) (Via.of (ow33 hw)) e0 F_m (g := (mkF m 2 #[rv a, .val .null] [(.ref a), (.ref a)])) rfl rfl (hb hby (eD D5_0_ 2 rfl))
  refine os st1 ?_
  refine gIc (x := 1) X1 hx hby (eD D5_0_ 3 rfl) rfl ?_
  refine os (fun _ z => XS.iadd X1.here hx rfl (hb hby (eD D5_0_ 4 rfl)) rfl z) ?_
  obtain ⟨T2, h2, X2, e2, W2, st2⟩ := putF X1 hx hZ hown (host := "") (Or.inl (ow32 hw)) (Via.of (ow33 hw)) e1 F_m E_a (Or.inl (ow23 hw)) (ow2 hw) (ty := .int) (by decide) rfl rfl (g := (mkF m 7 #[rv a, .val .null] [(.int (mc + 1)), (.ref a)])) rfl rfl (hb hby (eD D5_0_ 5 rfl))
  have F3 := E_a.wr W2
  have F4 := F_m.same W2
  have F5 := F_s.other W2 (Or.inr (slot_ne (Or.inl (ow35 hw)) (Or.inl (ow23 hw)) (by decide) (t := .int) (t' := .int) (by decide) (by decide)))
  have F6 := F_e.other W2 (Or.inr (slot_ne (Or.inl (ow26 hw)) (Or.inl (ow23 hw)) (by decide) (t := (.array (.object "java/lang/Object"))) (t' := .int) (by decide) (by decide)))
  have F7 := V_d.other W2 (Ne.symm n_d)
  have F8 := E_d.wr W2
  have K2 := K0.wr W2 (Or.inl (List.mem_of_getElem? (i := 0) rfl))
  have N2 := Fr.snoc X2 N0 g_a
  have Zs2 := ozw W2 Z0
  refine os st2 ?_
  refine gAn X2 hx hby (eD D5_0_ 6 rfl) rfl rfl ?_
  refine gAn X2 hx hby (eD D5_0_ 7 rfl) rfl rfl ?_
  refine gAn X2 hx hby (eD D5_0_ 8 rfl) rfl rfl ?_
  obtain ⟨T9, X9, e9, st9⟩ := getF X2 hx hZ hown (host := "") (Or.inl (ow25 hw)) Via.refl e2 F6 (g := (mkF m 13 #[rv a, .val .null] [(.ref a), .null, (.ref a)])) rfl rfl (hb hby (eD D5_0_ 9 rfl))
  refine os st9 ?_
  refine gAn X9 hx hby (eD D5_0_ 10 rfl) rfl rfl ?_
  obtain ⟨T10, X10, e10, st10⟩ := getF X9 hx hZ hown (host := "") (Or.inl (ow34 hw)) Via.refl e9 F5 (g := (mkF m 17 #[rv a, .val .null] [(.ref a), (.ref d), .null, (.ref a)])) rfl rfl (hb hby (eD D5_0_ 11 rfl))
  refine os st10 ?_
  obtain ⟨_, T11, L11, X11, hQ11, st11⟩ := own_callPr X10 hx hZ hown (ow36 hw) (ow37 hw) (ow39 hw) (ow38 hw) (ow3 hw) (ow40 hw) (by decide) (rln3a3 l Z a0 hw [] a (mc + 1) d cd h2 n0 Zs2 F3 g_a F4 F5 F6 F7 F8 o_d g_d n_d) e10 (W := 0) (by decide) F3 (pc := 20) (ls := #[rv a, .val .null]) (stk := [(.int 3), (.ref d), .null, (.ref a)]) (by rw [hml]; rfl) (argsL := [.null, (.ref d), (.int 3)]) (rest := []) (lenOf pd5 rfl) rfl rfl (Nat.le_of_eq rfl) (hb hby (eD D5_0_ 12 rfl))
  obtain ⟨rfl, Nq11, Kq11, Eq11, Fm11, Fs11, Fe11, Vq11, Ex11⟩ := hQ11
  have N11 := Fr.app N2 Nq11
  have Zs11 := Nat.le_trans Zs2 Kq11.1
  have K11 := K2.trans Kq11 (allS (Or.inl (List.mem_of_getElem? (i := 0) rfl)) (allS (Or.inl (List.mem_of_getElem? (i := 1) rfl)) all0))
  refine os st11 ?_
  refine gIc (x := 1) X11 hx hby (eD D5_0_ 13 rfl) rfl ?_
  refine OGo.fin X11 hlk (v := (some (.int 1))) (fun h => by rw [hret] at h; cases h) (by decide) (by decide) (fun fs hr => X11.ireturnOut hx hret rfl (by simp) (hb hby (eD D5_0_ 14 rfl)) hr) fun U eU hF => hΦ _ _ _ ?_ hF
  rw [eU]
  show Q_rln3a1 Z a mc d cd h0 n0 _ _ _
  exact ⟨rfl, N11, K11, Eq11, Fm11, Fs11, Fe11, Vq11, Ex11⟩

theorem ef_rln4a3 (m : MethodId) (x0 : Addr) (x2 : Addr) (x3 : Int32) : entryFrame m #[(.ref x0), .null, (.ref x2), (.int x3)] 4 = mkF m 0 #[.val (.ref x0), .val .null, .val (.ref x2), .val (.int x3)] [] := by first | (simp [entryFrame, mkF, argsToLocals, Value.category]; done) | rfl
def Q_rln4a3 (Z : State) (a : Addr) (mc : Int32) (d : Addr) (cd : ClassId) (h0 : Heap) (n0 : Nat) (v : Option Value) (h : Heap) (L : List Loc) : Prop := v = none ∧ Fr n0 L ∧ Keep h0 h [a, d] ∧ Exa Z h a s9_ ∧ Fld Z h a s7_ "modCount" "I" (.int mc) ∧ Fld Z h a s9_ "size" "I" (.int (5 : Int32)) ∧ Fld Z h a s9_ "elementData" "[Ljava/lang/Object;" (.ref d) ∧ Arv Z h d cd (.object "java/lang/Object") (10 : Int32) [.null, .null, .null, .null, .null, .null, .null, .null, .null, .null] .null ∧ Exa Z h d "[Ljava/lang/Object;"
theorem rln4a3 (l : Launch) (Z : State) (a0 : Array Value) (hw : OHW Z a0) (ws : List Jvm.Cond) (a : Addr) (mc : Int32) (d : Addr) (cd : ClassId) (h0 : Heap) (n0 : Nat) (Z0 : n0 ≤ h0.size) (E_a : Exa Z h0 a s9_) (g_a : n0 ≤ a) (F_m : Fld Z h0 a s7_ "modCount" "I" (.int mc)) (F_s : Fld Z h0 a s9_ "size" "I" (.int (4 : Int32))) (F_e : Fld Z h0 a s9_ "elementData" "[Ljava/lang/Object;" (.ref d)) (V_d : Arv Z h0 d cd (.object "java/lang/Object") (10 : Int32) [.null, .null, .null, .null, .null, .null, .null, .null, .null, .null] .null) (E_d : Exa Z h0 d "[Ljava/lang/Object;") (o_d : Ovr Z cd "java/lang/Object") (g_d : n0 ≤ d) (n_d : a ≠ d) :
    OCon l Z (⟨s9_, "add", "(Ljava/lang/Object;[Ljava/lang/Object;I)V"⟩ : MethodName) c18_ 4 none ws ({ frames := 0, cells := 0, slots := 0, locals := 0 } : Room) #[(.ref a), .null, (.ref d), (.int (4 : Int32))] h0 (Q_rln4a3 Z a mc d cd h0 n0) := by
  refine OCon.of (plainFor_of_name pn5) ?_
  intro p e s m below meth c s₁ Φ X0 hx hby hml hown hnm hret hlk hZ e0 hΦ
  have N0 := Fr.nil n0
  refine os (fun _ z => castTop (ef_rln4a3 m a d (4 : Int32)) z) ?_
  have K0 := Keep.refl h0 [a, d]
  show OG p e below Φ s₁ m 0 #[rv a, .val .null, rv d, iv 4] []
  refine gIn X0 hx hby (eD D6_0_ 0 rfl) rfl ?_
  refine gAn X0 hx hby (eD D6_0_ 1 rfl) rfl rfl ?_
  obtain ⟨cl1, Aq1, -, S1, M1, -, -⟩ := id V_d
  refine os (fun _ z => X0.arraylength hx (by rw [e0]; exact Aq1.1) (oia hZ Aq1.2.1) (g := (mkF m 2 #[rv a, .val .null, rv d, iv 4] [(.ref d), (.int 4)])) rfl rfl (hb hby (eD D6_0_ 2 rfl)) _ z) ?_
  rw [len_of S1 M1]
  show OG p e below Φ s₁ m 3 #[rv a, .val .null, rv d, iv 4] [(.int 10), (.int 4)]
  refine gCy (pc := 3) (pc' := 11) X0 hx hby (eD D6_0_ 3 rfl) (XT.ii_ne_t (by decide)) (by decide) (by decide) ?_
  refine gAn X0 hx hby (eD D6_0_ 7 rfl) rfl rfl ?_
  refine gIn X0 hx hby (eD D6_0_ 8 rfl) rfl ?_
  refine gAn X0 hx hby (eD D6_0_ 9 rfl) rfl rfl ?_
  obtain ⟨cl2, Aq2, Cq2, S2, M2, H2, G2⟩ := id V_d
  have in2 : ¬ ((4 : Int32) < 0 ∨ cl2.slots.size ≤ (4 : Int32).toNatClampNeg) := inb_of S2 ⟨by decide, by decide⟩
  obtain ⟨T2, h2, X2, e2, W2, st2⟩ := stR X0 hx hZ e0 Aq2 in2 rfl (Or.inl rfl) (g := (mkF m 14 #[rv a, .val .null, rv d, iv 4] [.null, (.int 4), (.ref d)])) rfl rfl (hb hby (eD D6_0_ 10 rfl))
  have F3 := E_a.wr W2
  have F4 := F_m.other W2 (Or.inl n_d)
  have F5 := F_s.other W2 (Or.inl n_d)
  have F6 := F_e.other W2 (Or.inl n_d)
  have F7 := E_d.wr W2
  have V2 : Arv Z h2 d cd (.object "java/lang/Object") (10 : Int32) [.null, .null, .null, .null, .null, .null, .null, .null, .null, .null] .null := Arv.set Aq2 Cq2 S2 M2 H2 G2 rfl W2 4 (by decide) (by show 4 < 10; decide)
  have K2 := K0.wr W2 (Or.inl (List.mem_of_getElem? (i := 1) rfl))
  have N2 := Fr.snoc X2 N0 g_d
  have Zs2 := ozw W2 Z0
  refine os st2 ?_
  refine gAn X2 hx hby (eD D6_0_ 11 rfl) rfl rfl ?_
  refine gIn X2 hx hby (eD D6_0_ 12 rfl) rfl ?_
  refine gIc (x := 1) X2 hx hby (eD D6_0_ 13 rfl) rfl ?_
  refine os (fun _ z => XS.iadd X2.here hx rfl (hb hby (eD D6_0_ 14 rfl)) rfl z) ?_
  show OG p e below Φ T2 m 19 #[rv a, .val .null, rv d, iv 4] [(.int 5), (.ref a)]
  obtain ⟨T8, h8, X8, e8, W8, st8⟩ := putF X2 hx hZ hown (host := "") (Or.inl (ow34 hw)) Via.refl e2 F5 F3 (Or.inl (ow35 hw)) (ow2 hw) (ty := .int) (by decide) rfl rfl (g := (mkF m 19 #[rv a, .val .null, rv d, iv 4] [(.int 5), (.ref a)])) rfl rfl (hb hby (eD D6_0_ 15 rfl))
  have F9 := F3.wr W8
  have F10 := F4.other W8 (Or.inr (slot_ne (Or.inl (ow23 hw)) (Or.inl (ow35 hw)) (by decide) (t := .int) (t' := .int) (by decide) (by decide)))
  have F11 := F5.same W8
  have F12 := F6.other W8 (Or.inr (slot_ne (Or.inl (ow26 hw)) (Or.inl (ow35 hw)) (by decide) (t := (.array (.object "java/lang/Object"))) (t' := .int) (by decide) (by decide)))
  have F13 := F7.wr W8
  have F14 := V2.other W8 (Ne.symm n_d)
  have K8 := K2.wr W8 (Or.inl (List.mem_of_getElem? (i := 0) rfl))
  have N8 := Fr.snoc X8 N2 g_a
  have Zs8 := ozw W8 Zs2
  refine os st8 ?_
  refine OGo.fin X8 hlk (v := none) (fun _ => rfl) (by decide) (by decide) (fun fs hr => X8.returnOut hx hret (hb hby (eD D6_1_ 0 rfl)) hr) fun U eU hF => hΦ _ _ _ ?_ hF
  rw [eU, e8]
  show Q_rln4a3 Z a mc d cd h0 n0 _ _ _
  exact ⟨rfl, N8, K8, F9, F10, F11, F12, F14, F13⟩

theorem ef_rln4a1 (m : MethodId) (x0 : Addr) : entryFrame m #[(.ref x0), .null] 2 = mkF m 0 #[.val (.ref x0), .val .null] [] := by first | (simp [entryFrame, mkF, argsToLocals, Value.category]; done) | rfl
def Q_rln4a1 (Z : State) (a : Addr) (mc : Int32) (d : Addr) (cd : ClassId) (h0 : Heap) (n0 : Nat) (v : Option Value) (h : Heap) (L : List Loc) : Prop := v = some (.int (1 : Int32)) ∧ Fr n0 L ∧ Keep h0 h [a, d] ∧ Exa Z h a s9_ ∧ Fld Z h a s7_ "modCount" "I" (.int (mc + 1)) ∧ Fld Z h a s9_ "size" "I" (.int (5 : Int32)) ∧ Fld Z h a s9_ "elementData" "[Ljava/lang/Object;" (.ref d) ∧ Arv Z h d cd (.object "java/lang/Object") (10 : Int32) [.null, .null, .null, .null, .null, .null, .null, .null, .null, .null] .null ∧ Exa Z h d "[Ljava/lang/Object;"
theorem rln4a1 (l : Launch) (Z : State) (a0 : Array Value) (hw : OHW Z a0) (ws : List Jvm.Cond) (a : Addr) (mc : Int32) (d : Addr) (cd : ClassId) (h0 : Heap) (n0 : Nat) (Z0 : n0 ≤ h0.size) (E_a : Exa Z h0 a s9_) (g_a : n0 ≤ a) (F_m : Fld Z h0 a s7_ "modCount" "I" (.int mc)) (F_s : Fld Z h0 a s9_ "size" "I" (.int (4 : Int32))) (F_e : Fld Z h0 a s9_ "elementData" "[Ljava/lang/Object;" (.ref d)) (V_d : Arv Z h0 d cd (.object "java/lang/Object") (10 : Int32) [.null, .null, .null, .null, .null, .null, .null, .null, .null, .null] .null) (E_d : Exa Z h0 d "[Ljava/lang/Object;") (o_d : Ovr Z cd "java/lang/Object") (g_d : n0 ≤ d) (n_d : a ≠ d) :
    OCon l Z (⟨s9_, "add", "(Ljava/lang/Object;)Z"⟩ : MethodName) c19_ 2 (some .boolean) ws ({ frames := 1, cells := 0, slots := 0, locals := 15 } : Room) #[(.ref a), .null] h0 (Q_rln4a1 Z a mc d cd h0 n0) := by
  refine OCon.of (plainFor_of_name pn5) ?_
  intro p e s m below meth c s₁ Φ X0 hx hby hml hown hnm hret hlk hZ e0 hΦ
  have N0 := Fr.nil n0
  refine os (fun _ z => castTop (ef_rln4a1 m a) z) ?_
  have K0 := Keep.refl h0 [a, d]
  show OG p e below Φ s₁ m 0 #[rv a, .val .null] []
  refine gAn X0 hx hby (eD D5_0_ 0 rfl) rfl rfl ?_
  refine gDu X0 hx hby (eD D5_0_ 1 rfl) rfl ?_
  obtain ⟨T1, X1, e1, st1⟩ := getF X0 hx hZ hown (host := "") (Or.inl (ow32 hw)) (Via.of (ow33 hw)) e0 F_m (g := (mkF m 2 #[rv a, .val .null] [(.ref a), (.ref a)])) rfl rfl (hb hby (eD D5_0_ 2 rfl))
  refine os st1 ?_
  refine gIc (x := 1) X1 hx hby (eD D5_0_ 3 rfl) rfl ?_
  refine os (fun _ z => XS.iadd X1.here hx rfl (hb hby (eD D5_0_ 4 rfl)) rfl z) ?_
  obtain ⟨T2, h2, X2, e2, W2, st2⟩ := putF X1 hx hZ hown (host := "") (Or.inl (ow32 hw)) (Via.of (ow33 hw)) e1 F_m E_a (Or.inl (ow23 hw)) (ow2 hw) (ty := .int) (by decide) rfl rfl (g := (mkF m 7 #[rv a, .val .null] [(.int (mc + 1)), (.ref a)])) rfl rfl (hb hby (eD D5_0_ 5 rfl))
  have F3 := E_a.wr W2
  have F4 := F_m.same W2
  have F5 := F_s.other W2 (Or.inr (slot_ne (Or.inl (ow35 hw)) (Or.inl (ow23 hw)) (by decide) (t := .int) (t' := .int) (by decide) (by decide)))
  have F6 := F_e.other W2 (Or.inr (slot_ne (Or.inl (ow26 hw)) (Or.inl (ow23 hw)) (by decide) (t := (.array (.object "java/lang/Object"))) (t' := .int) (by decide) (by decide)))
  have F7 := V_d.other W2 (Ne.symm n_d)
  have F8 := E_d.wr W2
  have K2 := K0.wr W2 (Or.inl (List.mem_of_getElem? (i := 0) rfl))
  have N2 := Fr.snoc X2 N0 g_a
  have Zs2 := ozw W2 Z0
  refine os st2 ?_
  refine gAn X2 hx hby (eD D5_0_ 6 rfl) rfl rfl ?_
  refine gAn X2 hx hby (eD D5_0_ 7 rfl) rfl rfl ?_
  refine gAn X2 hx hby (eD D5_0_ 8 rfl) rfl rfl ?_
  obtain ⟨T9, X9, e9, st9⟩ := getF X2 hx hZ hown (host := "") (Or.inl (ow25 hw)) Via.refl e2 F6 (g := (mkF m 13 #[rv a, .val .null] [(.ref a), .null, (.ref a)])) rfl rfl (hb hby (eD D5_0_ 9 rfl))
  refine os st9 ?_
  refine gAn X9 hx hby (eD D5_0_ 10 rfl) rfl rfl ?_
  obtain ⟨T10, X10, e10, st10⟩ := getF X9 hx hZ hown (host := "") (Or.inl (ow34 hw)) Via.refl e9 F5 (g := (mkF m 17 #[rv a, .val .null] [(.ref a), (.ref d), .null, (.ref a)])) rfl rfl (hb hby (eD D5_0_ 11 rfl))
  refine os st10 ?_
  obtain ⟨_, T11, L11, X11, hQ11, st11⟩ := own_callPr X10 hx hZ hown (ow36 hw) (ow37 hw) (ow39 hw) (ow38 hw) (ow3 hw) (ow40 hw) (by decide) (rln4a3 l Z a0 hw [] a (mc + 1) d cd h2 n0 Zs2 F3 g_a F4 F5 F6 F7 F8 o_d g_d n_d) e10 (W := 0) (by decide) F3 (pc := 20) (ls := #[rv a, .val .null]) (stk := [(.int 4), (.ref d), .null, (.ref a)]) (by rw [hml]; rfl) (argsL := [.null, (.ref d), (.int 4)]) (rest := []) (lenOf pd5 rfl) rfl rfl (Nat.le_of_eq rfl) (hb hby (eD D5_0_ 12 rfl))
  obtain ⟨rfl, Nq11, Kq11, Eq11, Fm11, Fs11, Fe11, Vq11, Ex11⟩ := hQ11
  have N11 := Fr.app N2 Nq11
  have Zs11 := Nat.le_trans Zs2 Kq11.1
  have K11 := K2.trans Kq11 (allS (Or.inl (List.mem_of_getElem? (i := 0) rfl)) (allS (Or.inl (List.mem_of_getElem? (i := 1) rfl)) all0))
  refine os st11 ?_
  refine gIc (x := 1) X11 hx hby (eD D5_0_ 13 rfl) rfl ?_
  refine OGo.fin X11 hlk (v := (some (.int 1))) (fun h => by rw [hret] at h; cases h) (by decide) (by decide) (fun fs hr => X11.ireturnOut hx hret rfl (by simp) (hb hby (eD D5_0_ 14 rfl)) hr) fun U eU hF => hΦ _ _ _ ?_ hF
  rw [eU]
  show Q_rln4a1 Z a mc d cd h0 n0 _ _ _
  exact ⟨rfl, N11, K11, Eq11, Fm11, Fs11, Fe11, Vq11, Ex11⟩

theorem pf_rlp0mx : plainFor (⟨"java/lang/Math", "max", "(II)I"⟩ : MethodName) = true := by decide +kernel
theorem ef_rlp0mx (m : MethodId) (x0 : Int32) (x1 : Int32) : entryFrame m #[(.int x0), (.int x1)] 2 = mkF m 0 #[.val (.int x0), .val (.int x1)] [] := by first | (simp [entryFrame, mkF, argsToLocals, Value.category]; done) | rfl
def Q_rlp0mx (Z : State)  (h0 : Heap) (n0 : Nat) (v : Option Value) (h : Heap) (L : List Loc) : Prop := v = some (.int (10 : Int32)) ∧ Fr n0 L ∧ h = h0
theorem rlp0mx (l : Launch) (Z : State) (a0 : Array Value) (hw : OHW Z a0) (ws : List Jvm.Cond)  (h0 : Heap) (n0 : Nat) (Z0 : n0 ≤ h0.size)  :
    OCon l Z (⟨"java/lang/Math", "max", "(II)I"⟩ : MethodName) c10_ 2 (some .int) ws ({ frames := 0, cells := 0, slots := 0, locals := 0 } : Room) #[(.int (10 : Int32)), (.int (1 : Int32))] h0 (Q_rlp0mx Z  h0 n0) := by
  refine OCon.of pf_rlp0mx ?_
  intro p e s m below meth c s₁ Φ X0 hx hby hml hown hnm hret hlk hZ e0 hΦ
  have N0 := Fr.nil n0
  refine os (fun _ z => castTop (ef_rlp0mx m (10 : Int32) (1 : Int32)) z) ?_
  show OG p e below Φ s₁ m 0 #[iv 10, iv 1] []
  refine gIn X0 hx hby (eD D9_0_ 0 rfl) rfl ?_
  refine gIn X0 hx hby (eD D9_0_ 1 rfl) rfl ?_
  refine gCn X0 hx hby (eD D9_0_ 2 rfl) (XT.ii_lt_f (by decide)) ?_
  refine gIn X0 hx hby (eD D9_0_ 3 rfl) rfl ?_
  refine gGo (pc := 6) (pc' := 10) X0 hx hby (eD D9_0_ 4 rfl) (by decide) (by decide) ?_
  refine OGo.fin X0 hlk (v := (some (.int 10))) (fun h => by rw [hret] at h; cases h) (by decide) (by decide) (fun fs hr => X0.ireturnOut hx hret rfl (by simp) (hb hby (eD D9_0_ 5 rfl)) hr) fun U eU hF => hΦ _ _ _ ?_ hF
  rw [eU, e0]
  show Q_rlp0mx Z  h0 n0 _ _ _
  exact ⟨rfl, N0, rfl⟩

theorem ef_rlp0gI (m : MethodId) (x0 : Addr) (x1 : Int32) : entryFrame m #[(.ref x0), (.int x1)] 4 = mkF m 0 #[.val (.ref x0), .val (.int x1), o_, o_] [] := by first | (simp [entryFrame, mkF, argsToLocals, Value.category]; done) | rfl
def Q_rlp0gI (Z : State) (a : Addr) (mc : Int32) (dz : Addr) (cz : ClassId) (h0 : Heap) (n0 : Nat) (v : Option Value) (h : Heap) (L : List Loc) : Prop := ∃ b cb, v = some (.ref b) ∧ Fr n0 L ∧ Keep h0 h [a] ∧ Exa Z h a s9_ ∧ Fld Z h a s7_ "modCount" "I" (.int mc) ∧ Fld Z h a s9_ "size" "I" (.int (0 : Int32)) ∧ Fld Z h a s9_ "elementData" "[Ljava/lang/Object;" (.ref b) ∧ Arv Z h b cb (.object "java/lang/Object") (10 : Int32) [.null, .null, .null, .null, .null, .null, .null, .null, .null, .null] .null ∧ Exa Z h b "[Ljava/lang/Object;" ∧ Ovr Z cb "java/lang/Object" ∧ h0.size ≤ b
theorem rlp0gI (l : Launch) (Z : State) (a0 : Array Value) (hw : OHW Z a0) (ws : List Jvm.Cond) (a : Addr) (mc : Int32) (dz : Addr) (cz : ClassId) (h0 : Heap) (n0 : Nat) (Z0 : n0 ≤ h0.size) (E_a : Exa Z h0 a s9_) (g_a : n0 ≤ a) (F_m : Fld Z h0 a s7_ "modCount" "I" (.int mc)) (F_s : Fld Z h0 a s9_ "size" "I" (.int (0 : Int32))) (F_e : Fld Z h0 a s9_ "elementData" "[Ljava/lang/Object;" (.ref dz)) (V_z : Arv Z h0 dz cz (.object "java/lang/Object") (0 : Int32) [] .null) (n_z : dz ≠ a) (S_d : Sta Z h0 s9_ "DEFAULTCAPACITY_EMPTY_ELEMENTDATA" "[Ljava/lang/Object;" (.ref dz)) :
    OCon l Z (⟨s9_, "grow", "(I)[Ljava/lang/Object;"⟩ : MethodName) c22_ 4 (some (.array (.object "java/lang/Object"))) ws ({ frames := 1, cells := 1, slots := 10, locals := 14 } : Room) #[(.ref a), (.int (1 : Int32))] h0 (Q_rlp0gI Z a mc dz cz h0 n0) := by
  refine OCon.of (plainFor_of_name pn5) ?_
  intro p e s m below meth c s₁ Φ X0 hx hby hml hown hnm hret hlk hZ e0 hΦ
  have N0 := Fr.nil n0
  refine os (fun _ z => castTop (ef_rlp0gI m a (1 : Int32)) z) ?_
  have K0 := Keep.refl h0 [a]
  show OG p e below Φ s₁ m 0 #[rv a, iv 1, o_, o_] []
  refine gAn X0 hx hby (eD D8_0_ 0 rfl) rfl rfl ?_
  obtain ⟨T1, X1, e1, st1⟩ := getF X0 hx hZ hown (host := "") (Or.inl (ow25 hw)) Via.refl e0 F_e (g := (mkF m 1 #[rv a, iv 1, o_, o_] [(.ref a)])) rfl rfl (hb hby (eD D8_0_ 1 rfl))
  refine os st1 ?_
  obtain ⟨cl2, Aq2, -, S2, M2, -, -⟩ := id V_z
  refine os (fun _ z => X1.arraylength hx (by rw [e1]; exact Aq2.1) (oia hZ Aq2.2.1) (g := (mkF m 4 #[rv a, iv 1, o_, o_] [(.ref dz)])) rfl rfl (hb hby (eD D8_0_ 2 rfl)) _ z) ?_
  rw [len_of S2 M2]
  show OG p e below Φ T1 m 5 #[rv a, iv 1, o_, o_] [(.int 0)]
  refine gIsn X1 hx hby (eD D8_0_ 3 rfl) (ls' := #[rv a, iv 1, iv 0, o_]) rfl ?_
  refine gIn X1 hx hby (eD D8_0_ 4 rfl) rfl ?_
  refine gFn X1 hx hby (eD D8_0_ 5 rfl) (XT.i0_gt_f (by decide)) ?_
  refine gAn X1 hx hby (eD D8_0_ 6 rfl) rfl rfl ?_
  obtain ⟨T3, X3, e3, st3⟩ := getF X1 hx hZ hown (host := "") (Or.inl (ow25 hw)) Via.refl e1 F_e (g := (mkF m 11 #[rv a, iv 1, iv 0, o_] [(.ref a)])) rfl rfl (hb hby (eD D8_0_ 7 rfl))
  refine os st3 ?_
  obtain ⟨T4, X4, e4, st4⟩ := getS2 X3 hx hZ hown (host := "") (Or.inl (ow24 hw)) Via.refl e3 S_d (g := (mkF m 14 #[rv a, iv 1, iv 0, o_] [(.ref dz)])) rfl (hb hby (eD D8_0_ 8 rfl))
  refine os st4 ?_
  refine os (fun _ z => XT.acmpYes X4.here hx rfl (pc0 := 17) (pc' := 45) rfl (hb hby (eD D8_0_ 9 rfl)) rfl rfl rfl (XT.aa_eq_t rfl) (by decide) (by decide) z) ?_
  refine gAn X4 hx hby (eD D8_0_ 10 rfl) rfl rfl ?_
  refine os (fun _ z => XS.bipush X4.here hx rfl (hb hby (eD D8_0_ 11 rfl)) z) ?_
  refine gIn X4 hx hby (eD D8_0_ 12 rfl) rfl ?_
  obtain ⟨_, T5, L5, X5, hQ5, st5⟩ := own_callSt X4 hx hZ hown (ow51 hw) (ow52 hw) (ow53 hw) (ow54 hw) (by decide) (rlp0mx l Z a0 hw []  h0 n0 Z0 ) e4 (W := 1) (by decide) (pc := 49) (ls := #[rv a, iv 1, iv 0, o_]) (stk := [(.int 1), (.int 10), (.ref a)]) (by rw [hml]; rfl) (argsL := [(.int 10), (.int 1)]) (rest := [(.ref a)]) (lenOf pd2 rfl) rfl rfl (Nat.le_of_eq rfl) (hb hby (eD D8_0_ 13 rfl))
  obtain ⟨rfl, Nq5, e5⟩ := hQ5
  have N5 := Fr.app N0 Nq5
  refine os st5 ?_
  obtain ⟨T6, h6, c6, X6, e6, E6, Ar6, Ex6, Ov6, st6⟩ := newRE X5 hx hZ hown (ow55 hw) (ow56 hw) e5 (g := (mkF m 52 #[rv a, iv 1, iv 0, o_] [(.int 10), (.ref a)])) rfl (hb hby (eD D8_0_ 14 rfl)) rfl (by decide) (cap := 10) (by decide) (by decide) (by decide) (by decide) (ad := "[Ljava/lang/Object;") (by decide)
  obtain ⟨b6, g6⟩ : ∃ z, z = h0.size := ⟨_, rfl⟩
  rw [← g6] at Ar6 Ex6 st6
  have ne6_a := one_ g6 E_a.lt
  have ne6_dz := one_ g6 V_z.lt
  have F7 := E_a.ext E6
  have F8 := F_m.ext E6
  have F9 := F_s.ext E6
  have F10 := F_e.ext E6
  have F11 := V_z.ext E6
  have F12 := S_d.ext E6
  have gb6 := Nat.le_trans Z0 (Nat.le_of_eq g6.symm)
  have sz6 := Nat.le_trans K0.1 (Nat.le_of_eq g6.symm)
  have K6 := K0.ext E6
  have Zs6 := Nat.le_trans Z0 E6.1
  have V6 : Arv Z h6 b6 c6 (.object "java/lang/Object") (10 : Int32) [.null, .null, .null, .null, .null, .null, .null, .null, .null, .null] .null := (Arv.new Ar6 (by decide)).pad (pad_rep [] _ 10)
  refine os st6 ?_
  refine os (fun _ z => XT.dupX1 X6.here hx rfl (hb hby (eD D8_0_ 15 rfl)) rfl rfl rfl z) ?_
  obtain ⟨T13, h13, X13, e13, W13, st13⟩ := putF X6 hx hZ hown (host := "") (Or.inl (ow25 hw)) Via.refl e6 F10 F7 (Or.inl (ow26 hw)) (ow2 hw) (ty := (.array (.object "java/lang/Object"))) (by decide) rfl rfl (g := (mkF m 56 #[rv a, iv 1, iv 0, o_] [(.ref b6), (.ref a), (.ref b6)])) rfl rfl (hb hby (eD D8_1_ 0 rfl))
  have F14 := F7.wr W13
  have F15 := F8.other W13 (Or.inr (slot_ne (Or.inl (ow23 hw)) (Or.inl (ow26 hw)) (by decide) (t := .int) (t' := (.array (.object "java/lang/Object"))) (by decide) (by decide)))
  have F16 := F9.other W13 (Or.inr (slot_ne (Or.inl (ow35 hw)) (Or.inl (ow26 hw)) (by decide) (t := .int) (t' := (.array (.object "java/lang/Object"))) (by decide) (by decide)))
  have F17 := F10.same W13
  have F18 := F11.other W13 n_z
  have F19 := F12.wr W13
  have F20 := V6.other W13 (Ne.symm ne6_a)
  have F21 := Ex6.wr W13
  have K13 := K6.wr W13 (Or.inl (List.mem_of_getElem? (i := 0) rfl))
  have N13 := Fr.snoc X13 N5 g_a
  have Zs13 := ozw W13 Zs6
  refine os st13 ?_
  refine OGo.fin X13 hlk (v := (some (.ref b6))) (fun h => by rw [hret] at h; cases h) (by decide) (by decide) (fun fs hr => X13.areturnOut hx rfl hret rfl (hb hby (eD D8_1_ 1 rfl)) hr) fun U eU hF => hΦ _ _ _ ?_ hF
  rw [eU, e13]
  show Q_rlp0gI Z a mc dz cz h0 n0 _ _ _
  exact ⟨_, _, rfl, N13, K13, F14, F15, F16, F17, F20, F21, Ov6, sz6⟩

theorem ef_rlp0g0 (m : MethodId) (x0 : Addr) : entryFrame m #[(.ref x0)] 1 = mkF m 0 #[.val (.ref x0)] [] := by first | (simp [entryFrame, mkF, argsToLocals, Value.category]; done) | rfl
def Q_rlp0g0 (Z : State) (a : Addr) (mc : Int32) (dz : Addr) (cz : ClassId) (h0 : Heap) (n0 : Nat) (v : Option Value) (h : Heap) (L : List Loc) : Prop := ∃ b cb, v = some (.ref b) ∧ Fr n0 L ∧ Keep h0 h [a] ∧ Exa Z h a s9_ ∧ Fld Z h a s7_ "modCount" "I" (.int mc) ∧ Fld Z h a s9_ "size" "I" (.int (0 : Int32)) ∧ Fld Z h a s9_ "elementData" "[Ljava/lang/Object;" (.ref b) ∧ Arv Z h b cb (.object "java/lang/Object") (10 : Int32) [.null, .null, .null, .null, .null, .null, .null, .null, .null, .null] .null ∧ Exa Z h b "[Ljava/lang/Object;" ∧ Ovr Z cb "java/lang/Object" ∧ h0.size ≤ b
theorem rlp0g0 (l : Launch) (Z : State) (a0 : Array Value) (hw : OHW Z a0) (ws : List Jvm.Cond) (a : Addr) (mc : Int32) (dz : Addr) (cz : ClassId) (h0 : Heap) (n0 : Nat) (Z0 : n0 ≤ h0.size) (E_a : Exa Z h0 a s9_) (g_a : n0 ≤ a) (F_m : Fld Z h0 a s7_ "modCount" "I" (.int mc)) (F_s : Fld Z h0 a s9_ "size" "I" (.int (0 : Int32))) (F_e : Fld Z h0 a s9_ "elementData" "[Ljava/lang/Object;" (.ref dz)) (V_z : Arv Z h0 dz cz (.object "java/lang/Object") (0 : Int32) [] .null) (n_z : dz ≠ a) (S_d : Sta Z h0 s9_ "DEFAULTCAPACITY_EMPTY_ELEMENTDATA" "[Ljava/lang/Object;" (.ref dz)) :
    OCon l Z (⟨s9_, "grow", "()[Ljava/lang/Object;"⟩ : MethodName) c23_ 1 (some (.array (.object "java/lang/Object"))) ws ({ frames := 2, cells := 1, slots := 10, locals := 29 } : Room) #[(.ref a)] h0 (Q_rlp0g0 Z a mc dz cz h0 n0) := by
  refine OCon.of (plainFor_of_name pn5) ?_
  intro p e s m below meth c s₁ Φ X0 hx hby hml hown hnm hret hlk hZ e0 hΦ
  have N0 := Fr.nil n0
  refine os (fun _ z => castTop (ef_rlp0g0 m a) z) ?_
  have K0 := Keep.refl h0 [a]
  show OG p e below Φ s₁ m 0 #[rv a] []
  refine gAn X0 hx hby (eD D7_0_ 0 rfl) rfl rfl ?_
  refine gAn X0 hx hby (eD D7_0_ 1 rfl) rfl rfl ?_
  obtain ⟨T1, X1, e1, st1⟩ := getF X0 hx hZ hown (host := "") (Or.inl (ow34 hw)) Via.refl e0 F_s (g := (mkF m 2 #[rv a] [(.ref a), (.ref a)])) rfl rfl (hb hby (eD D7_0_ 2 rfl))
  refine os st1 ?_
  refine gIc (x := 1) X1 hx hby (eD D7_0_ 3 rfl) rfl ?_
  refine os (fun _ z => XS.iadd X1.here hx rfl (hb hby (eD D7_0_ 4 rfl)) rfl z) ?_
  show OG p e below Φ T1 m 7 #[rv a] [(.int 1), (.ref a)]
  obtain ⟨_, T2, L2, X2, hQ2, st2⟩ := own_callPr X1 hx hZ hown (ow46 hw) (ow47 hw) (ow49 hw) (ow48 hw) (ow3 hw) (ow50 hw) (by decide) (rlp0gI l Z a0 hw [] a mc dz cz h0 n0 Z0 E_a g_a F_m F_s F_e V_z n_z S_d) e1 (W := 0) (by decide) E_a (pc := 7) (ls := #[rv a]) (stk := [(.int 1), (.ref a)]) (by rw [hml]; rfl) (argsL := [(.int 1)]) (rest := []) (lenOf pd3 rfl) rfl rfl (Nat.le_of_eq rfl) (hb hby (eD D7_0_ 5 rfl))
  obtain ⟨b2, cb2, rfl, Nq2, Kq2, Eq2, Fm2, Fs2, Fe2, Vq2, Ex2, Ov2, hz2⟩ := hQ2
  have nq2_a := Nat.ne_of_lt (Nat.lt_of_lt_of_le E_a.lt hz2)
  have nq2_dz := Nat.ne_of_lt (Nat.lt_of_lt_of_le V_z.lt hz2)
  have gq2 := Nat.le_trans Z0 hz2
  have sq2 := Nat.le_trans K0.1 hz2
  have N2 := Fr.app N0 Nq2
  have Zs2 := Nat.le_trans Z0 Kq2.1
  have F3 := V_z.keep Kq2 (ninS n_z nin0)
  have K2 := K0.trans Kq2 (allS (Or.inl (List.mem_of_getElem? (i := 0) rfl)) all0)
  refine os st2 ?_
  refine OGo.fin X2 hlk (v := (some (.ref b2))) (fun h => by rw [hret] at h; cases h) (by decide) (by decide) (fun fs hr => X2.areturnOut hx rfl hret rfl (hb hby (eD D7_0_ 6 rfl)) hr) fun U eU hF => hΦ _ _ _ ?_ hF
  rw [eU]
  show Q_rlp0g0 Z a mc dz cz h0 n0 _ _ _
  exact ⟨_, _, rfl, N2, K2, Eq2, Fm2, Fs2, Fe2, Vq2, Ex2, Ov2, sq2⟩

theorem ef_rlp0a3 (m : MethodId) (x0 : Addr) (x1 : Addr) (x2 : Addr) (x3 : Int32) : entryFrame m #[(.ref x0), (.ref x1), (.ref x2), (.int x3)] 4 = mkF m 0 #[.val (.ref x0), .val (.ref x1), .val (.ref x2), .val (.int x3)] [] := by first | (simp [entryFrame, mkF, argsToLocals, Value.category]; done) | rfl
def Q_rlp0a3 (Z : State) (a : Addr) (mc : Int32) (dz : Addr) (cz : ClassId) (y : Addr) (h0 : Heap) (n0 : Nat) (v : Option Value) (h : Heap) (L : List Loc) : Prop := v = none ∧ Fr n0 L ∧ Keep h0 h [a] ∧ Exa Z h a s9_ ∧ Fld Z h a s7_ "modCount" "I" (.int mc) ∧ Fld Z h a s9_ "size" "I" (.int (1 : Int32)) ∧ ∃ b cb, Fld Z h a s9_ "elementData" "[Ljava/lang/Object;" (.ref b) ∧ Arv Z h b cb (.object "java/lang/Object") (10 : Int32) [(.ref y), .null, .null, .null, .null, .null, .null, .null, .null, .null] .null ∧ Exa Z h b "[Ljava/lang/Object;" ∧ Ovr Z cb "java/lang/Object" ∧ h0.size ≤ b
theorem rlp0a3 (l : Launch) (Z : State) (a0 : Array Value) (hw : OHW Z a0) (ws : List Jvm.Cond) (a : Addr) (mc : Int32) (dz : Addr) (cz : ClassId) (y : Addr) (h0 : Heap) (n0 : Nat) (Z0 : n0 ≤ h0.size) (E_a : Exa Z h0 a s9_) (g_a : n0 ≤ a) (F_m : Fld Z h0 a s7_ "modCount" "I" (.int mc)) (F_s : Fld Z h0 a s9_ "size" "I" (.int (0 : Int32))) (F_e : Fld Z h0 a s9_ "elementData" "[Ljava/lang/Object;" (.ref dz)) (V_z : Arv Z h0 dz cz (.object "java/lang/Object") (0 : Int32) [] .null) (n_z : dz ≠ a) (S_d : Sta Z h0 s9_ "DEFAULTCAPACITY_EMPTY_ELEMENTDATA" "[Ljava/lang/Object;" (.ref dz)) (E_y : Exa Z h0 y s1_) :
    OCon l Z (⟨s9_, "add", "(Ljava/lang/Object;[Ljava/lang/Object;I)V"⟩ : MethodName) c18_ 4 none ws ({ frames := 3, cells := 1, slots := 10, locals := 41 } : Room) #[(.ref a), (.ref y), (.ref dz), (.int (0 : Int32))] h0 (Q_rlp0a3 Z a mc dz cz y h0 n0) := by
  refine OCon.of (plainFor_of_name pn5) ?_
  intro p e s m below meth c s₁ Φ X0 hx hby hml hown hnm hret hlk hZ e0 hΦ
  have N0 := Fr.nil n0
  refine os (fun _ z => castTop (ef_rlp0a3 m a y dz (0 : Int32)) z) ?_
  have K0 := Keep.refl h0 [a]
  show OG p e below Φ s₁ m 0 #[rv a, rv y, rv dz, iv 0] []
  refine gIn X0 hx hby (eD D6_0_ 0 rfl) rfl ?_
  refine gAn X0 hx hby (eD D6_0_ 1 rfl) rfl rfl ?_
  obtain ⟨cl1, Aq1, -, S1, M1, -, -⟩ := id V_z
  refine os (fun _ z => X0.arraylength hx (by rw [e0]; exact Aq1.1) (oia hZ Aq1.2.1) (g := (mkF m 2 #[rv a, rv y, rv dz, iv 0] [(.ref dz), (.int 0)])) rfl rfl (hb hby (eD D6_0_ 2 rfl)) _ z) ?_
  rw [len_of S1 M1]
  show OG p e below Φ s₁ m 3 #[rv a, rv y, rv dz, iv 0] [(.int 0), (.int 0)]
  refine gCn X0 hx hby (eD D6_0_ 3 rfl) (XT.ii_ne_f (by decide)) ?_
  refine gAn X0 hx hby (eD D6_0_ 4 rfl) rfl rfl ?_
  obtain ⟨_, T2, L2, X2, hQ2, st2⟩ := own_callPr X0 hx hZ hown (ow41 hw) (ow42 hw) (ow44 hw) (ow43 hw) (ow3 hw) (ow45 hw) (by decide) (rlp0g0 l Z a0 hw [] a mc dz cz h0 n0 Z0 E_a g_a F_m F_s F_e V_z n_z S_d) e0 (W := 0) (by decide) E_a (pc := 7) (ls := #[rv a, rv y, rv dz, iv 0]) (stk := [(.ref a)]) (by rw [hml]; rfl) (argsL := []) (rest := []) (lenOf pd4 rfl) rfl rfl (Nat.le_of_eq rfl) (hb hby (eD D6_0_ 5 rfl))
  obtain ⟨b2, cb2, rfl, Nq2, Kq2, Eq2, Fm2, Fs2, Fe2, Vq2, Ex2, Ov2, hz2⟩ := hQ2
  have nq2_a := Nat.ne_of_lt (Nat.lt_of_lt_of_le E_a.lt hz2)
  have nq2_dz := Nat.ne_of_lt (Nat.lt_of_lt_of_le V_z.lt hz2)
  have nq2_y := Nat.ne_of_lt (Nat.lt_of_lt_of_le E_y.lt hz2)
  have gq2 := Nat.le_trans Z0 hz2
  have sq2 := Nat.le_trans K0.1 hz2
  have N2 := Fr.app N0 Nq2
  have Zs2 := Nat.le_trans Z0 Kq2.1
  have F3 := V_z.keep Kq2 (ninS n_z nin0)
  have F4 := E_y.keep Kq2
  have K2 := K0.trans Kq2 (allS (Or.inl (List.mem_of_getElem? (i := 0) rfl)) all0)
  refine os st2 ?_
  refine gAsn X2 hx hby (eD D6_0_ 6 rfl) rfl (ls' := #[rv a, rv y, rv b2, iv 0]) rfl ?_
  refine gAn X2 hx hby (eD D6_0_ 7 rfl) rfl rfl ?_
  refine gIn X2 hx hby (eD D6_0_ 8 rfl) rfl ?_
  refine gAn X2 hx hby (eD D6_0_ 9 rfl) rfl rfl ?_
  obtain ⟨cl5, Aq5, Cq5, S5, M5, H5, G5⟩ := id Vq2
  have in5 : ¬ ((0 : Int32) < 0 ∨ cl5.slots.size ≤ (0 : Int32).toNatClampNeg) := inb_of S5 ⟨by decide, by decide⟩
  obtain ⟨T5, h5, X5, e5, W5, st5⟩ := stR X2 hx hZ rfl Aq5 in5 rfl (Sto.ofV Aq5 Cq5 Ov2 (Ins.of_exa F4 (ow90 hw))) (g := (mkF m 14 #[rv a, rv y, rv b2, iv 0] [(.ref y), (.int 0), (.ref b2)])) rfl rfl (hb hby (eD D6_0_ 10 rfl))
  have F6 := F3.other W5 nq2_dz
  have F7 := F4.wr W5
  have F8 := Eq2.wr W5
  have F9 := Fm2.other W5 (Or.inl nq2_a)
  have F10 := Fs2.other W5 (Or.inl nq2_a)
  have F11 := Fe2.other W5 (Or.inl nq2_a)
  have F12 := Ex2.wr W5
  have V5 : Arv Z h5 b2 cb2 (.object "java/lang/Object") (10 : Int32) [(.ref y), .null, .null, .null, .null, .null, .null, .null, .null, .null] .null := Arv.set Aq5 Cq5 S5 M5 H5 G5 rfl W5 0 (by decide) (by show 0 < 10; decide)
  have K5 := K2.wr W5 (Or.inr sq2)
  have N5 := Fr.snoc X5 N2 gq2
  have Zs5 := ozw W5 Zs2
  refine os st5 ?_
  refine gAn X5 hx hby (eD D6_0_ 11 rfl) rfl rfl ?_
  refine gIn X5 hx hby (eD D6_0_ 12 rfl) rfl ?_
  refine gIc (x := 1) X5 hx hby (eD D6_0_ 13 rfl) rfl ?_
  refine os (fun _ z => XS.iadd X5.here hx rfl (hb hby (eD D6_0_ 14 rfl)) rfl z) ?_
  show OG p e below Φ T5 m 19 #[rv a, rv y, rv b2, iv 0] [(.int 1), (.ref a)]
  obtain ⟨T13, h13, X13, e13, W13, st13⟩ := putF X5 hx hZ hown (host := "") (Or.inl (ow34 hw)) Via.refl e5 F10 F8 (Or.inl (ow35 hw)) (ow2 hw) (ty := .int) (by decide) rfl rfl (g := (mkF m 19 #[rv a, rv y, rv b2, iv 0] [(.int 1), (.ref a)])) rfl rfl (hb hby (eD D6_0_ 15 rfl))
  have F14 := F6.other W13 n_z
  have F15 := F7.wr W13
  have F16 := F8.wr W13
  have F17 := F9.other W13 (Or.inr (slot_ne (Or.inl (ow23 hw)) (Or.inl (ow35 hw)) (by decide) (t := .int) (t' := .int) (by decide) (by decide)))
  have F18 := F10.same W13
  have F19 := F11.other W13 (Or.inr (slot_ne (Or.inl (ow26 hw)) (Or.inl (ow35 hw)) (by decide) (t := (.array (.object "java/lang/Object"))) (t' := .int) (by decide) (by decide)))
  have F20 := F12.wr W13
  have F21 := V5.other W13 (Ne.symm nq2_a)
  have K13 := K5.wr W13 (Or.inl (List.mem_of_getElem? (i := 0) rfl))
  have N13 := Fr.snoc X13 N5 g_a
  have Zs13 := ozw W13 Zs5
  refine os st13 ?_
  refine OGo.fin X13 hlk (v := none) (fun _ => rfl) (by decide) (by decide) (fun fs hr => X13.returnOut hx hret (hb hby (eD D6_1_ 0 rfl)) hr) fun U eU hF => hΦ _ _ _ ?_ hF
  rw [eU, e13]
  show Q_rlp0a3 Z a mc dz cz y h0 n0 _ _ _
  exact ⟨rfl, N13, K13, F16, F17, F18, _, _, F19, F21, F20, Ov2, sq2⟩

theorem ef_rlp0a1 (m : MethodId) (x0 : Addr) (x1 : Addr) : entryFrame m #[(.ref x0), (.ref x1)] 2 = mkF m 0 #[.val (.ref x0), .val (.ref x1)] [] := by first | (simp [entryFrame, mkF, argsToLocals, Value.category]; done) | rfl
def Q_rlp0a1 (Z : State) (a : Addr) (mc : Int32) (dz : Addr) (cz : ClassId) (y : Addr) (h0 : Heap) (n0 : Nat) (v : Option Value) (h : Heap) (L : List Loc) : Prop := v = some (.int (1 : Int32)) ∧ Fr n0 L ∧ Keep h0 h [a] ∧ Exa Z h a s9_ ∧ Fld Z h a s7_ "modCount" "I" (.int (mc + 1)) ∧ Fld Z h a s9_ "size" "I" (.int (1 : Int32)) ∧ ∃ b cb, Fld Z h a s9_ "elementData" "[Ljava/lang/Object;" (.ref b) ∧ Arv Z h b cb (.object "java/lang/Object") (10 : Int32) [(.ref y), .null, .null, .null, .null, .null, .null, .null, .null, .null] .null ∧ Exa Z h b "[Ljava/lang/Object;" ∧ Ovr Z cb "java/lang/Object" ∧ h0.size ≤ b
theorem rlp0a1 (l : Launch) (Z : State) (a0 : Array Value) (hw : OHW Z a0) (ws : List Jvm.Cond) (a : Addr) (mc : Int32) (dz : Addr) (cz : ClassId) (y : Addr) (h0 : Heap) (n0 : Nat) (Z0 : n0 ≤ h0.size) (E_a : Exa Z h0 a s9_) (g_a : n0 ≤ a) (F_m : Fld Z h0 a s7_ "modCount" "I" (.int mc)) (F_s : Fld Z h0 a s9_ "size" "I" (.int (0 : Int32))) (F_e : Fld Z h0 a s9_ "elementData" "[Ljava/lang/Object;" (.ref dz)) (V_z : Arv Z h0 dz cz (.object "java/lang/Object") (0 : Int32) [] .null) (n_z : dz ≠ a) (S_d : Sta Z h0 s9_ "DEFAULTCAPACITY_EMPTY_ELEMENTDATA" "[Ljava/lang/Object;" (.ref dz)) (E_y : Exa Z h0 y s1_) :
    OCon l Z (⟨s9_, "add", "(Ljava/lang/Object;)Z"⟩ : MethodName) c19_ 2 (some .boolean) ws ({ frames := 4, cells := 1, slots := 10, locals := 56 } : Room) #[(.ref a), (.ref y)] h0 (Q_rlp0a1 Z a mc dz cz y h0 n0) := by
  refine OCon.of (plainFor_of_name pn5) ?_
  intro p e s m below meth c s₁ Φ X0 hx hby hml hown hnm hret hlk hZ e0 hΦ
  have N0 := Fr.nil n0
  refine os (fun _ z => castTop (ef_rlp0a1 m a y) z) ?_
  have K0 := Keep.refl h0 [a]
  show OG p e below Φ s₁ m 0 #[rv a, rv y] []
  refine gAn X0 hx hby (eD D5_0_ 0 rfl) rfl rfl ?_
  refine gDu X0 hx hby (eD D5_0_ 1 rfl) rfl ?_
  obtain ⟨T1, X1, e1, st1⟩ := getF X0 hx hZ hown (host := "") (Or.inl (ow32 hw)) (Via.of (ow33 hw)) e0 F_m (g := (mkF m 2 #[rv a, rv y] [(.ref a), (.ref a)])) rfl rfl (hb hby (eD D5_0_ 2 rfl))
  refine os st1 ?_
  refine gIc (x := 1) X1 hx hby (eD D5_0_ 3 rfl) rfl ?_
  refine os (fun _ z => XS.iadd X1.here hx rfl (hb hby (eD D5_0_ 4 rfl)) rfl z) ?_
  obtain ⟨T2, h2, X2, e2, W2, st2⟩ := putF X1 hx hZ hown (host := "") (Or.inl (ow32 hw)) (Via.of (ow33 hw)) e1 F_m E_a (Or.inl (ow23 hw)) (ow2 hw) (ty := .int) (by decide) rfl rfl (g := (mkF m 7 #[rv a, rv y] [(.int (mc + 1)), (.ref a)])) rfl rfl (hb hby (eD D5_0_ 5 rfl))
  have F3 := E_a.wr W2
  have F4 := F_m.same W2
  have F5 := F_s.other W2 (Or.inr (slot_ne (Or.inl (ow35 hw)) (Or.inl (ow23 hw)) (by decide) (t := .int) (t' := .int) (by decide) (by decide)))
  have F6 := F_e.other W2 (Or.inr (slot_ne (Or.inl (ow26 hw)) (Or.inl (ow23 hw)) (by decide) (t := (.array (.object "java/lang/Object"))) (t' := .int) (by decide) (by decide)))
  have F7 := V_z.other W2 n_z
  have F8 := S_d.wr W2
  have F9 := E_y.wr W2
  have K2 := K0.wr W2 (Or.inl (List.mem_of_getElem? (i := 0) rfl))
  have N2 := Fr.snoc X2 N0 g_a
  have Zs2 := ozw W2 Z0
  refine os st2 ?_
  refine gAn X2 hx hby (eD D5_0_ 6 rfl) rfl rfl ?_
  refine gAn X2 hx hby (eD D5_0_ 7 rfl) rfl rfl ?_
  refine gAn X2 hx hby (eD D5_0_ 8 rfl) rfl rfl ?_
  obtain ⟨T10, X10, e10, st10⟩ := getF X2 hx hZ hown (host := "") (Or.inl (ow25 hw)) Via.refl e2 F6 (g := (mkF m 13 #[rv a, rv y] [(.ref a), (.ref y), (.ref a)])) rfl rfl (hb hby (eD D5_0_ 9 rfl))
  refine os st10 ?_
  refine gAn X10 hx hby (eD D5_0_ 10 rfl) rfl rfl ?_
  obtain ⟨T11, X11, e11, st11⟩ := getF X10 hx hZ hown (host := "") (Or.inl (ow34 hw)) Via.refl e10 F5 (g := (mkF m 17 #[rv a, rv y] [(.ref a), (.ref dz), (.ref y), (.ref a)])) rfl rfl (hb hby (eD D5_0_ 11 rfl))
  refine os st11 ?_
  obtain ⟨_, T12, L12, X12, hQ12, st12⟩ := own_callPr X11 hx hZ hown (ow36 hw) (ow37 hw) (ow39 hw) (ow38 hw) (ow3 hw) (ow40 hw) (by decide) (rlp0a3 l Z a0 hw [] a (mc + 1) dz cz y h2 n0 Zs2 F3 g_a F4 F5 F6 F7 n_z F8 F9) e11 (W := 0) (by decide) F3 (pc := 20) (ls := #[rv a, rv y]) (stk := [(.int 0), (.ref dz), (.ref y), (.ref a)]) (by rw [hml]; rfl) (argsL := [(.ref y), (.ref dz), (.int 0)]) (rest := []) (lenOf pd5 rfl) rfl rfl (Nat.le_of_eq rfl) (hb hby (eD D5_0_ 12 rfl))
  obtain ⟨rfl, Nq12, Kq12, Eq12, Fm12, Fs12, b12, cb12, Fe12, Vq12, Ex12, Ov12, hz12⟩ := hQ12
  have nq12_a := Nat.ne_of_lt (Nat.lt_of_lt_of_le F3.lt hz12)
  have nq12_dz := Nat.ne_of_lt (Nat.lt_of_lt_of_le F7.lt hz12)
  have nq12_y := Nat.ne_of_lt (Nat.lt_of_lt_of_le F9.lt hz12)
  have gq12 := Nat.le_trans Zs2 hz12
  have sq12 := Nat.le_trans K2.1 hz12
  have N12 := Fr.app N2 Nq12
  have Zs12 := Nat.le_trans Zs2 Kq12.1
  have F13 := F7.keep Kq12 (ninS n_z nin0)
  have F14 := F9.keep Kq12
  have K12 := K2.trans Kq12 (allS (Or.inl (List.mem_of_getElem? (i := 0) rfl)) all0)
  refine os st12 ?_
  refine gIc (x := 1) X12 hx hby (eD D5_0_ 13 rfl) rfl ?_
  refine OGo.fin X12 hlk (v := (some (.int 1))) (fun h => by rw [hret] at h; cases h) (by decide) (by decide) (fun fs hr => X12.ireturnOut hx hret rfl (by simp) (hb hby (eD D5_0_ 14 rfl)) hr) fun U eU hF => hΦ _ _ _ ?_ hF
  rw [eU]
  show Q_rlp0a1 Z a mc dz cz y h0 n0 _ _ _
  exact ⟨rfl, N12, K12, Eq12, Fm12, Fs12, _, _, Fe12, Vq12, Ex12, Ov12, sq12⟩

theorem ef_rpa3 (m : MethodId) (x0 : Addr) (x1 : Addr) (x2 : Addr) (x3 : Int32) : entryFrame m #[(.ref x0), (.ref x1), (.ref x2), (.int x3)] 4 = mkF m 0 #[.val (.ref x0), .val (.ref x1), .val (.ref x2), .val (.int x3)] [] := by first | (simp [entryFrame, mkF, argsToLocals, Value.category]; done) | rfl
def Q_rpa3 (Z : State) (a : Addr) (d : Addr) (mc : Int32) (ps : List (Int32 × Int32 × Int32)) (y : Addr) (q : Int32 × Int32 × Int32) (h0 : Heap) (n0 : Nat) (v : Option Value) (h : Heap) (L : List Loc) : Prop := v = none ∧ Fr n0 L ∧ Keep h0 h [a, d] ∧ Exa Z h a s9_ ∧ Fld Z h a s7_ "modCount" "I" (.int mc) ∧ Fld Z h a s9_ "size" "I" (.int (own_n (ps ++ [q]))) ∧ Fld Z h a s9_ "elementData" "[Ljava/lang/Object;" (.ref d) ∧ PD Z h (fun z => z ≠ a) d (ps ++ [q])
theorem rpa3 (l : Launch) (Z : State) (a0 : Array Value) (hw : OHW Z a0) (ws : List Jvm.Cond) (a : Addr) (d : Addr) (mc : Int32) (ps : List (Int32 × Int32 × Int32)) (y : Addr) (q : Int32 × Int32 × Int32) (h0 : Heap) (n0 : Nat) (Z0 : n0 ≤ h0.size) (E_a : Exa Z h0 a s9_) (g_a : n0 ≤ a) (F_m : Fld Z h0 a s7_ "modCount" "I" (.int mc)) (F_s : Fld Z h0 a s9_ "size" "I" (.int (own_n ps))) (F_e : Fld Z h0 a s9_ "elementData" "[Ljava/lang/Object;" (.ref d)) (P_d : PD Z h0 (fun z => z ≠ a) d ps) (g_d : n0 ≤ d) (n_d : a ≠ d) (Y_y : PipeV Z h0 y q) (nya : y ≠ a) (nyd : y ≠ d) (hl : ps.length < 10) :
    OCon l Z (⟨s9_, "add", "(Ljava/lang/Object;[Ljava/lang/Object;I)V"⟩ : MethodName) c18_ 4 none ws ({ frames := 0, cells := 0, slots := 0, locals := 0 } : Room) #[(.ref a), (.ref y), (.ref d), (.int (own_n ps))] h0 (Q_rpa3 Z a d mc ps y q h0 n0) := by
  refine OCon.of (plainFor_of_name pn5) ?_
  intro p e s m below meth c s₁ Φ X0 hx hby hml hown hnm hret hlk hZ e0 hΦ
  have N0 := Fr.nil n0
  refine os (fun _ z => castTop (ef_rpa3 m a y d (own_n ps)) z) ?_
  have K0 := Keep.refl h0 [a, d]
  have hn10 := own_nne hl
  show OG p e below Φ s₁ m 0 #[rv a, rv y, rv d, iv (own_n ps)] []
  refine gIn X0 hx hby (eD D6_0_ 0 rfl) rfl ?_
  refine gAn X0 hx hby (eD D6_0_ 1 rfl) rfl rfl ?_
  obtain ⟨cl1, Aq1, S1, M1⟩ := PD.len P_d
  refine os (fun _ z => X0.arraylength hx (by rw [e0]; exact Aq1.1) (oia hZ Aq1.2.1) (g := (mkF m 2 #[rv a, rv y, rv d, iv (own_n ps)] [(.ref d), (.int (own_n ps))])) rfl rfl (hb hby (eD D6_0_ 2 rfl)) _ z) ?_
  rw [len_of S1 M1]
  show OG p e below Φ s₁ m 3 #[rv a, rv y, rv d, iv (own_n ps)] [(.int 10), (.int (own_n ps))]
  refine gCy (pc := 3) (pc' := 11) X0 hx hby (eD D6_0_ 3 rfl) (XT.ii_ne_t hn10) (by decide) (by decide) ?_
  refine gAn X0 hx hby (eD D6_0_ 7 rfl) rfl rfl ?_
  refine gIn X0 hx hby (eD D6_0_ 8 rfl) rfl ?_
  refine gAn X0 hx hby (eD D6_0_ 9 rfl) rfl rfl ?_
  show OG p e below Φ s₁ m 14 #[rv a, rv y, rv d, iv (own_n ps)] [(.ref y), (.int (own_n ps)), (.ref d)]
  obtain ⟨cl2, Aq2, iq2, Ov2⟩ := PD.gap P_d hl
  obtain ⟨T2, h2, X2, e2, W2, st2⟩ := stR X0 hx hZ e0 Aq2 iq2 rfl (Sto.of Aq2 Ov2 (Ins.of_exa Y_y.1 (ow90 hw))) (g := (mkF m 14 #[rv a, rv y, rv d, iv (own_n ps)] [(.ref y), (.int (own_n ps)), (.ref d)])) rfl rfl (hb hby (eD D6_0_ 10 rfl))
  have PP2 := PD.push P_d hl Y_y nya nyd W2
  have F3 := E_a.wr W2
  have F4 := F_m.other W2 (Or.inl n_d)
  have F5 := F_s.other W2 (Or.inl n_d)
  have F6 := F_e.other W2 (Or.inl n_d)
  have F7 := Y_y.other W2 nyd
  have K2 := K0.wr W2 (Or.inl (List.mem_of_getElem? (i := 1) rfl))
  have N2 := Fr.snoc X2 N0 g_d
  have Zs2 := ozw W2 Z0
  refine os st2 ?_
  refine gAn X2 hx hby (eD D6_0_ 11 rfl) rfl rfl ?_
  refine gIn X2 hx hby (eD D6_0_ 12 rfl) rfl ?_
  refine gIc (x := 1) X2 hx hby (eD D6_0_ 13 rfl) rfl ?_
  refine os (fun _ z => XS.iadd X2.here hx rfl (hb hby (eD D6_0_ 14 rfl)) rfl z) ?_
  obtain ⟨T8, h8, X8, e8, W8, st8⟩ := putF X2 hx hZ hown (host := "") (Or.inl (ow34 hw)) Via.refl e2 F5 F3 (Or.inl (ow35 hw)) (ow2 hw) (ty := .int) (by decide) rfl rfl (g := (mkF m 19 #[rv a, rv y, rv d, iv (own_n ps)] [(.int ((own_n ps) + 1)), (.ref a)])) rfl rfl (hb hby (eD D6_0_ 15 rfl))
  have F9 := F3.wr W8
  have F10 := F4.other W8 (Or.inr (slot_ne (Or.inl (ow23 hw)) (Or.inl (ow35 hw)) (by decide) (t := .int) (t' := .int) (by decide) (by decide)))
  have F11 := F5.same W8
  have F12 := F6.other W8 (Or.inr (slot_ne (Or.inl (ow26 hw)) (Or.inl (ow35 hw)) (by decide) (t := (.array (.object "java/lang/Object"))) (t' := .int) (by decide) (by decide)))
  have F13 := F7.other W8 nya
  have F14 := PP2.other W8 (fun z => z rfl)
  have K8 := K2.wr W8 (Or.inl (List.mem_of_getElem? (i := 0) rfl))
  have N8 := Fr.snoc X8 N2 g_a
  have Zs8 := ozw W8 Zs2
  refine os st8 ?_
  refine OGo.fin X8 hlk (v := none) (fun _ => rfl) (by decide) (by decide) (fun fs hr => X8.returnOut hx hret (hb hby (eD D6_1_ 0 rfl)) hr) fun U eU hF => hΦ _ _ _ ?_ hF
  rw [eU, e8]
  show Q_rpa3 Z a d mc ps y q h0 n0 _ _ _
  exact ⟨rfl, N8, K8, F9, F10, by rw [← own_n10s hl]; exact F11, F12, F14⟩

theorem ef_rpa1 (m : MethodId) (x0 : Addr) (x1 : Addr) : entryFrame m #[(.ref x0), (.ref x1)] 2 = mkF m 0 #[.val (.ref x0), .val (.ref x1)] [] := by first | (simp [entryFrame, mkF, argsToLocals, Value.category]; done) | rfl
def Q_rpa1 (Z : State) (a : Addr) (d : Addr) (mc : Int32) (ps : List (Int32 × Int32 × Int32)) (y : Addr) (q : Int32 × Int32 × Int32) (h0 : Heap) (n0 : Nat) (v : Option Value) (h : Heap) (L : List Loc) : Prop := v = some (.int (1 : Int32)) ∧ Fr n0 L ∧ Keep h0 h [a, d] ∧ Exa Z h a s9_ ∧ Fld Z h a s7_ "modCount" "I" (.int (mc + 1)) ∧ Fld Z h a s9_ "size" "I" (.int (own_n (ps ++ [q]))) ∧ Fld Z h a s9_ "elementData" "[Ljava/lang/Object;" (.ref d) ∧ PD Z h (fun z => z ≠ a) d (ps ++ [q])
theorem rpa1 (l : Launch) (Z : State) (a0 : Array Value) (hw : OHW Z a0) (ws : List Jvm.Cond) (a : Addr) (d : Addr) (mc : Int32) (ps : List (Int32 × Int32 × Int32)) (y : Addr) (q : Int32 × Int32 × Int32) (h0 : Heap) (n0 : Nat) (Z0 : n0 ≤ h0.size) (E_a : Exa Z h0 a s9_) (g_a : n0 ≤ a) (F_m : Fld Z h0 a s7_ "modCount" "I" (.int mc)) (F_s : Fld Z h0 a s9_ "size" "I" (.int (own_n ps))) (F_e : Fld Z h0 a s9_ "elementData" "[Ljava/lang/Object;" (.ref d)) (P_d : PD Z h0 (fun z => z ≠ a) d ps) (g_d : n0 ≤ d) (n_d : a ≠ d) (Y_y : PipeV Z h0 y q) (nya : y ≠ a) (nyd : y ≠ d) (hl : ps.length < 10) :
    OCon l Z (⟨s9_, "add", "(Ljava/lang/Object;)Z"⟩ : MethodName) c19_ 2 (some .boolean) ws ({ frames := 1, cells := 0, slots := 0, locals := 15 } : Room) #[(.ref a), (.ref y)] h0 (Q_rpa1 Z a d mc ps y q h0 n0) := by
  refine OCon.of (plainFor_of_name pn5) ?_
  intro p e s m below meth c s₁ Φ X0 hx hby hml hown hnm hret hlk hZ e0 hΦ
  have N0 := Fr.nil n0
  refine os (fun _ z => castTop (ef_rpa1 m a y) z) ?_
  have K0 := Keep.refl h0 [a, d]
  have hn10 := own_nne hl
  show OG p e below Φ s₁ m 0 #[rv a, rv y] []
  refine gAn X0 hx hby (eD D5_0_ 0 rfl) rfl rfl ?_
  refine gDu X0 hx hby (eD D5_0_ 1 rfl) rfl ?_
  obtain ⟨T1, X1, e1, st1⟩ := getF X0 hx hZ hown (host := "") (Or.inl (ow32 hw)) (Via.of (ow33 hw)) e0 F_m (g := (mkF m 2 #[rv a, rv y] [(.ref a), (.ref a)])) rfl rfl (hb hby (eD D5_0_ 2 rfl))
  refine os st1 ?_
  refine gIc (x := 1) X1 hx hby (eD D5_0_ 3 rfl) rfl ?_
  refine os (fun _ z => XS.iadd X1.here hx rfl (hb hby (eD D5_0_ 4 rfl)) rfl z) ?_
  obtain ⟨T2, h2, X2, e2, W2, st2⟩ := putF X1 hx hZ hown (host := "") (Or.inl (ow32 hw)) (Via.of (ow33 hw)) e1 F_m E_a (Or.inl (ow23 hw)) (ow2 hw) (ty := .int) (by decide) rfl rfl (g := (mkF m 7 #[rv a, rv y] [(.int (mc + 1)), (.ref a)])) rfl rfl (hb hby (eD D5_0_ 5 rfl))
  have F3 := E_a.wr W2
  have F4 := F_m.same W2
  have F5 := F_s.other W2 (Or.inr (slot_ne (Or.inl (ow35 hw)) (Or.inl (ow23 hw)) (by decide) (t := .int) (t' := .int) (by decide) (by decide)))
  have F6 := F_e.other W2 (Or.inr (slot_ne (Or.inl (ow26 hw)) (Or.inl (ow23 hw)) (by decide) (t := (.array (.object "java/lang/Object"))) (t' := .int) (by decide) (by decide)))
  have F7 := P_d.other W2 (fun z => z rfl)
  have F8 := Y_y.other W2 nya
  have K2 := K0.wr W2 (Or.inl (List.mem_of_getElem? (i := 0) rfl))
  have N2 := Fr.snoc X2 N0 g_a
  have Zs2 := ozw W2 Z0
  refine os st2 ?_
  refine gAn X2 hx hby (eD D5_0_ 6 rfl) rfl rfl ?_
  refine gAn X2 hx hby (eD D5_0_ 7 rfl) rfl rfl ?_
  refine gAn X2 hx hby (eD D5_0_ 8 rfl) rfl rfl ?_
  obtain ⟨T9, X9, e9, st9⟩ := getF X2 hx hZ hown (host := "") (Or.inl (ow25 hw)) Via.refl e2 F6 (g := (mkF m 13 #[rv a, rv y] [(.ref a), (.ref y), (.ref a)])) rfl rfl (hb hby (eD D5_0_ 9 rfl))
  refine os st9 ?_
  refine gAn X9 hx hby (eD D5_0_ 10 rfl) rfl rfl ?_
  obtain ⟨T10, X10, e10, st10⟩ := getF X9 hx hZ hown (host := "") (Or.inl (ow34 hw)) Via.refl e9 F5 (g := (mkF m 17 #[rv a, rv y] [(.ref a), (.ref d), (.ref y), (.ref a)])) rfl rfl (hb hby (eD D5_0_ 11 rfl))
  refine os st10 ?_
  obtain ⟨_, T11, L11, X11, hQ11, st11⟩ := own_callPr X10 hx hZ hown (ow36 hw) (ow37 hw) (ow39 hw) (ow38 hw) (ow3 hw) (ow40 hw) (by decide) (rpa3 l Z a0 hw [] a d (mc + 1) ps y q h2 n0 Zs2 F3 g_a F4 F5 F6 F7 g_d n_d F8 nya nyd hl) e10 (W := 0) (by decide) F3 (pc := 20) (ls := #[rv a, rv y]) (stk := [(.int (own_n ps)), (.ref d), (.ref y), (.ref a)]) (by rw [hml]; rfl) (argsL := [(.ref y), (.ref d), (.int (own_n ps))]) (rest := []) (lenOf pd5 rfl) rfl rfl (Nat.le_of_eq rfl) (hb hby (eD D5_0_ 12 rfl))
  obtain ⟨rfl, Nq11, Kq11, Eq11, Fm11, Fs11, Fe11, PP11⟩ := hQ11
  have N11 := Fr.app N2 Nq11
  have Zs11 := Nat.le_trans Zs2 Kq11.1
  have F12 := F8.keep Kq11 (ninS nya (ninS nyd nin0))
  have K11 := K2.trans Kq11 (allS (Or.inl (List.mem_of_getElem? (i := 0) rfl)) (allS (Or.inl (List.mem_of_getElem? (i := 1) rfl)) all0))
  refine os st11 ?_
  refine gIc (x := 1) X11 hx hby (eD D5_0_ 13 rfl) rfl ?_
  refine OGo.fin X11 hlk (v := (some (.int 1))) (fun h => by rw [hret] at h; cases h) (by decide) (by decide) (fun fs hr => X11.ireturnOut hx hret rfl (by simp) (hb hby (eD D5_0_ 14 rfl)) hr) fun U eU hF => hΦ _ _ _ ?_ hF
  rw [eU]
  show Q_rpa1 Z a d mc ps y q h0 n0 _ _ _
  exact ⟨rfl, N11, K11, Eq11, Fm11, Fs11, Fe11, PP11⟩

theorem pd6 : parseMethodDescriptor "(IIZZ)Lcom/example/hydromeme/hydromeme/Network$Pipe;" = some ⟨[.int, .int, .boolean, .boolean], some (.object s1_)⟩ := by decide +kernel
theorem pd7 : parseMethodDescriptor "(Ljava/lang/Object;)Z" = some ⟨[(.object "java/lang/Object")], some .boolean⟩ := by decide +kernel
theorem ef_rarm (m : MethodId) (x0 : Addr) (x1 : Int32) (x2 : Int32) (x3 : Int32) (x4 : Int32) (x5 : Int32) (x6 : Int32) : entryFrame m #[(.ref x0), (.int x1), (.int x2), (.int x3), (.int x4), (.int x5), (.int x6)] 7 = mkF m 0 #[.val (.ref x0), .val (.int x1), .val (.int x2), .val (.int x3), .val (.int x4), .val (.int x5), .val (.int x6)] [] := by first | (simp [entryFrame, mkF, argsToLocals, Value.category]; done) | rfl
def Q_rarm (Z : State) (a : Addr) (d : Addr) (mc : Int32) (ps : List (Int32 × Int32 × Int32)) (xh : Int32) (xs : Int32) (xr : Int32) (xv : Int32) (xf : Int32) (xg : Int32) (h0 : Heap) (n0 : Nat) (v : Option Value) (h : Heap) (L : List Loc) : Prop := v = none ∧ Fr n0 L ∧ Keep h0 h [a, d] ∧ Exa Z h a s9_ ∧ Fld Z h a s7_ "modCount" "I" (.int (own_mc xv mc)) ∧ Fld Z h a s9_ "size" "I" (.int (own_n (ps ++ (own_arm xh xs xr xv xf xg)))) ∧ Fld Z h a s9_ "elementData" "[Ljava/lang/Object;" (.ref d) ∧ PD Z h (fun z => z ≠ a) d (ps ++ (own_arm xh xs xr xv xf xg))
theorem rarm (l : Launch) (Z : State) (a0 : Array Value) (hw : OHW Z a0) (ws : List Jvm.Cond) (a : Addr) (d : Addr) (mc : Int32) (ps : List (Int32 × Int32 × Int32)) (xh : Int32) (xs : Int32) (xr : Int32) (xv : Int32) (xf : Int32) (xg : Int32) (h0 : Heap) (n0 : Nat) (Z0 : n0 ≤ h0.size) (E_a : Exa Z h0 a s9_) (g_a : n0 ≤ a) (F_m : Fld Z h0 a s7_ "modCount" "I" (.int mc)) (F_s : Fld Z h0 a s9_ "size" "I" (.int (own_n ps))) (F_e : Fld Z h0 a s9_ "elementData" "[Ljava/lang/Object;" (.ref d)) (P_d : PD Z h0 (fun z => z ≠ a) d ps) (g_d : n0 ≤ d) (n_d : a ≠ d) (hl : ps.length < 9) :
    OCon l Z (⟨s0_, "arm", "(Ljava/util/ArrayList;IIIZZZ)V"⟩ : MethodName) method_4_code 7 none ws ({ frames := 4, cells := 2, slots := 14, locals := 63 } : Room) #[(.ref a), (.int xh), (.int xs), (.int xr), (.int xv), (.int xf), (.int xg)] h0 (Q_rarm Z a d mc ps xh xs xr xv xf xg h0 n0) := by
  refine OCon.of (plainFor_of_name pn2) ?_
  intro p e s m below meth c s₁ Φ X0 hx hby hml hown hnm hret hlk hZ e0 hΦ
  have N0 := Fr.nil n0
  refine os (fun _ z => castTop (ef_rarm m a xh xs xr xv xf xg) z) ?_
  have K0 := Keep.refl h0 [a, d]
  show OG p e below Φ s₁ m 0 #[rv a, iv xh, iv xs, iv xr, iv xv, iv xf, iv xg] []
  refine gI X0 hx hby (eD D13_0_ 0 rfl) rfl ?_
  by_cases hc1 : xv = 0
  · refine gFy (pc := 2) (pc' := 34) X0 hx hby (eD D13_0_ 1 rfl) (XT.i0_eq_t hc1) (by decide) (by decide) ?_
    refine gAn X0 hx hby (eD D13_0_ 2 rfl) rfl rfl ?_
    refine gIn X0 hx hby (eD D13_0_ 3 rfl) rfl ?_
    refine gIn X0 hx hby (eD D13_0_ 4 rfl) rfl ?_
    refine gI X0 hx hby (eD D13_0_ 5 rfl) rfl ?_
    refine gIc (x := 1) X0 hx hby (eD D13_0_ 6 rfl) rfl ?_
    obtain ⟨_, T2, L2, X2, hQ2, st2⟩ := own_callSt X0 hx hZ hown (ow57 hw) (ow58 hw) (ow59 hw) (ow60 hw) (by decide) (rpp l Z a0 hw [] xh xr xf (1 : Int32) h0 n0 Z0 (Or.inr rfl)) e0 (W := 1) (by decide) (pc := 40) (ls := #[rv a, iv xh, iv xs, iv xr, iv xv, iv xf, iv xg]) (stk := [(.int 1), (.int xf), (.int xr), (.int xh), (.ref a)]) (by rw [hml]; rfl) (argsL := [(.int xh), (.int xr), (.int xf), (.int 1)]) (rest := [(.ref a)]) (lenOf pd6 rfl) rfl rfl (Nat.le_of_eq rfl) (hb hby (eD D13_0_ 7 rfl))
    obtain ⟨y2, rfl, Nq2, Kq2, Yq2, hz2⟩ := hQ2
    have nq2_a := Nat.ne_of_lt (Nat.lt_of_lt_of_le E_a.lt hz2)
    have nq2_d := Nat.ne_of_lt (Nat.lt_of_lt_of_le P_d.lt hz2)
    have gq2 := Nat.le_trans Z0 hz2
    have sq2 := Nat.le_trans K0.1 hz2
    have N2 := Fr.app N0 Nq2
    have Zs2 := Nat.le_trans Z0 Kq2.1
    have F3 := E_a.keep Kq2
    have F4 := F_m.keep Kq2 nin0
    have F5 := F_s.keep Kq2 nin0
    have F6 := F_e.keep Kq2 nin0
    have F7 := P_d.keep Kq2 all0
    have K2 := K0.trans Kq2 all0
    refine os st2 ?_
    obtain ⟨_, T8, L8, X8, hQ8, st8⟩ := own_callVi X2 hx hZ hown (ow27 hw) (ow28 hw) (notFace_of_selects (args := #[]) (mvT hZ (ow30 hw))) (ow30 hw) (ow29 hw) (ow3 hw) (ow31 hw) (by decide) (rpa1 l Z a0 hw [] a d mc ps y2 (own_q xf xh xr (1 : Int32)) T2.heap n0 Zs2 F3 g_a F4 F5 F6 F7 g_d n_d Yq2 (Ne.symm nq2_a) (Ne.symm nq2_d) (by omega)) rfl (W := 0) (by decide) F3 (pc := 43) (ls := #[rv a, iv xh, iv xs, iv xr, iv xv, iv xf, iv xg]) (stk := [(.ref y2), (.ref a)]) (by rw [hml]; rfl) (argsL := [(.ref y2)]) (rest := []) (lenOf pd7 rfl) rfl rfl (Nat.le_of_eq rfl) (hb hby (eD D13_0_ 8 rfl))
    obtain ⟨rfl, Nq8, Kq8, Eq8, Fm8, Fs8, Fe8, PP8⟩ := hQ8
    have N8 := Fr.app N2 Nq8
    have Zs8 := Nat.le_trans Zs2 Kq8.1
    have F9 := Yq2.keep Kq8 (ninS (Ne.symm nq2_a) (ninS (Ne.symm nq2_d) nin0))
    have K8 := K2.trans Kq8 (allS (Or.inl (List.mem_of_getElem? (i := 0) rfl)) (allS (Or.inl (List.mem_of_getElem? (i := 1) rfl)) all0))
    refine os st8 ?_
    refine os (fun _ z => XT.pop X8.here hx rfl (hb hby (eD D13_0_ 9 rfl)) rfl rfl z) ?_
    refine OGo.fin X8 hlk (v := none) (fun _ => rfl) (by decide) (by decide) (fun fs hr => X8.returnOut hx hret (hb hby (eD D13_0_ 10 rfl)) hr) fun U eU hF => hΦ _ _ _ ?_ hF
    rw [eU]
    show Q_rarm Z a d mc ps xh xs xr xv xf xg h0 n0 _ _ _
    exact ⟨rfl, N8, K8, Eq8, by simp only [own_arm, own_mc, if_pos hc1, List.append_assoc, List.singleton_append, List.nil_append, List.cons_append]; simpa only [List.append_assoc, List.singleton_append, List.nil_append, List.cons_append] using Fm8, by simp only [own_arm, own_mc, if_pos hc1, List.append_assoc, List.singleton_append, List.nil_append, List.cons_append]; simpa only [List.append_assoc, List.singleton_append, List.nil_append, List.cons_append] using Fs8, Fe8, by simp only [own_arm, own_mc, if_pos hc1, List.append_assoc, List.singleton_append, List.nil_append, List.cons_append]; simpa only [List.append_assoc, List.singleton_append, List.nil_append, List.cons_append] using PP8⟩
  · refine gFn X0 hx hby (eD D13_0_ 1 rfl) (XT.i0_eq_f hc1) ?_
    refine gAn X0 hx hby (eD D13_0_ 11 rfl) rfl rfl ?_
    refine gIn X0 hx hby (eD D13_0_ 12 rfl) rfl ?_
    refine gIn X0 hx hby (eD D13_0_ 13 rfl) rfl ?_
    refine gI X0 hx hby (eD D13_0_ 14 rfl) rfl ?_
    refine gIc (x := 1) X0 hx hby (eD D13_0_ 15 rfl) rfl ?_
    obtain ⟨_, T10, L10, X10, hQ10, st10⟩ := own_callSt X0 hx hZ hown (ow57 hw) (ow58 hw) (ow59 hw) (ow60 hw) (by decide) (rpp l Z a0 hw [] xh xs xf (1 : Int32) h0 n0 Z0 (Or.inr rfl)) e0 (W := 1) (by decide) (pc := 11) (ls := #[rv a, iv xh, iv xs, iv xr, iv xv, iv xf, iv xg]) (stk := [(.int 1), (.int xf), (.int xs), (.int xh), (.ref a)]) (by rw [hml]; rfl) (argsL := [(.int xh), (.int xs), (.int xf), (.int 1)]) (rest := [(.ref a)]) (lenOf pd6 rfl) rfl rfl (Nat.le_of_eq rfl) (hb hby (eD D13_1_ 0 rfl))
    obtain ⟨y10, rfl, Nq10, Kq10, Yq10, hz10⟩ := hQ10
    have nq10_a := Nat.ne_of_lt (Nat.lt_of_lt_of_le E_a.lt hz10)
    have nq10_d := Nat.ne_of_lt (Nat.lt_of_lt_of_le P_d.lt hz10)
    have gq10 := Nat.le_trans Z0 hz10
    have sq10 := Nat.le_trans K0.1 hz10
    have N10 := Fr.app N0 Nq10
    have Zs10 := Nat.le_trans Z0 Kq10.1
    have F11 := E_a.keep Kq10
    have F12 := F_m.keep Kq10 nin0
    have F13 := F_s.keep Kq10 nin0
    have F14 := F_e.keep Kq10 nin0
    have F15 := P_d.keep Kq10 all0
    have K10 := K0.trans Kq10 all0
    refine os st10 ?_
    obtain ⟨_, T16, L16, X16, hQ16, st16⟩ := own_callVi X10 hx hZ hown (ow27 hw) (ow28 hw) (notFace_of_selects (args := #[]) (mvT hZ (ow30 hw))) (ow30 hw) (ow29 hw) (ow3 hw) (ow31 hw) (by decide) (rpa1 l Z a0 hw [] a d mc ps y10 (own_q xf xh xs (1 : Int32)) T10.heap n0 Zs10 F11 g_a F12 F13 F14 F15 g_d n_d Yq10 (Ne.symm nq10_a) (Ne.symm nq10_d) (by omega)) rfl (W := 0) (by decide) F11 (pc := 14) (ls := #[rv a, iv xh, iv xs, iv xr, iv xv, iv xf, iv xg]) (stk := [(.ref y10), (.ref a)]) (by rw [hml]; rfl) (argsL := [(.ref y10)]) (rest := []) (lenOf pd7 rfl) rfl rfl (Nat.le_of_eq rfl) (hb hby (eD D13_1_ 1 rfl))
    obtain ⟨rfl, Nq16, Kq16, Eq16, Fm16, Fs16, Fe16, PP16⟩ := hQ16
    have N16 := Fr.app N10 Nq16
    have Zs16 := Nat.le_trans Zs10 Kq16.1
    have F17 := Yq10.keep Kq16 (ninS (Ne.symm nq10_a) (ninS (Ne.symm nq10_d) nin0))
    have K16 := K10.trans Kq16 (allS (Or.inl (List.mem_of_getElem? (i := 0) rfl)) (allS (Or.inl (List.mem_of_getElem? (i := 1) rfl)) all0))
    refine os st16 ?_
    refine os (fun _ z => XT.pop X16.here hx rfl (hb hby (eD D13_1_ 2 rfl)) rfl rfl z) ?_
    refine gAn X16 hx hby (eD D13_1_ 3 rfl) rfl rfl ?_
    refine gIn X16 hx hby (eD D13_1_ 4 rfl) rfl ?_
    refine gIn X16 hx hby (eD D13_1_ 5 rfl) rfl ?_
    refine gI X16 hx hby (eD D13_1_ 6 rfl) rfl ?_
    refine gIc (x := 1) X16 hx hby (eD D13_1_ 7 rfl) rfl ?_
    obtain ⟨_, T18, L18, X18, hQ18, st18⟩ := own_callSt X16 hx hZ hown (ow57 hw) (ow58 hw) (ow59 hw) (ow60 hw) (by decide) (rpp l Z a0 hw [] xs xr xg (1 : Int32) T16.heap n0 Zs16 (Or.inr rfl)) rfl (W := 1) (by decide) (pc := 24) (ls := #[rv a, iv xh, iv xs, iv xr, iv xv, iv xf, iv xg]) (stk := [(.int 1), (.int xg), (.int xr), (.int xs), (.ref a)]) (by rw [hml]; rfl) (argsL := [(.int xs), (.int xr), (.int xg), (.int 1)]) (rest := [(.ref a)]) (lenOf pd6 rfl) rfl rfl (Nat.le_of_eq rfl) (hb hby (eD D13_1_ 8 rfl))
    obtain ⟨y18, rfl, Nq18, Kq18, Yq18, hz18⟩ := hQ18
    have nq18_a := Nat.ne_of_lt (Nat.lt_of_lt_of_le Eq16.lt hz18)
    have nq18_d := Nat.ne_of_lt (Nat.lt_of_lt_of_le PP16.lt hz18)
    have nq18_y10 := Nat.ne_of_lt (Nat.lt_of_lt_of_le F17.lt hz18)
    have gq18 := Nat.le_trans Zs16 hz18
    have sq18 := Nat.le_trans K16.1 hz18
    have N18 := Fr.app N16 Nq18
    have Zs18 := Nat.le_trans Zs16 Kq18.1
    have F19 := F17.keep Kq18 nin0
    have F20 := Eq16.keep Kq18
    have F21 := Fm16.keep Kq18 nin0
    have F22 := Fs16.keep Kq18 nin0
    have F23 := Fe16.keep Kq18 nin0
    have F24 := PP16.keep Kq18 all0
    have K18 := K16.trans Kq18 all0
    refine os st18 ?_
    obtain ⟨_, T25, L25, X25, hQ25, st25⟩ := own_callVi X18 hx hZ hown (ow27 hw) (ow28 hw) (notFace_of_selects (args := #[]) (mvT hZ (ow30 hw))) (ow30 hw) (ow29 hw) (ow3 hw) (ow31 hw) (by decide) (rpa1 l Z a0 hw [] a d (mc + 1) (ps ++ [(own_q xf xh xs (1 : Int32))]) y18 (own_q xg xs xr (1 : Int32)) T18.heap n0 Zs18 F20 g_a F21 F22 F23 F24 g_d n_d Yq18 (Ne.symm nq18_a) (Ne.symm nq18_d) (by rw [List.length_append]; simp only [List.length_cons, List.length_nil]; omega)) rfl (W := 0) (by decide) F20 (pc := 27) (ls := #[rv a, iv xh, iv xs, iv xr, iv xv, iv xf, iv xg]) (stk := [(.ref y18), (.ref a)]) (by rw [hml]; rfl) (argsL := [(.ref y18)]) (rest := []) (lenOf pd7 rfl) rfl rfl (Nat.le_of_eq rfl) (hb hby (eD D13_1_ 9 rfl))
    obtain ⟨rfl, Nq25, Kq25, Eq25, Fm25, Fs25, Fe25, PP25⟩ := hQ25
    have N25 := Fr.app N18 Nq25
    have Zs25 := Nat.le_trans Zs18 Kq25.1
    have F26 := F19.keep Kq25 (ninS (Ne.symm nq10_a) (ninS (Ne.symm nq10_d) nin0))
    have F27 := Yq18.keep Kq25 (ninS (Ne.symm nq18_a) (ninS (Ne.symm nq18_d) nin0))
    have K25 := K18.trans Kq25 (allS (Or.inl (List.mem_of_getElem? (i := 0) rfl)) (allS (Or.inl (List.mem_of_getElem? (i := 1) rfl)) all0))
    refine os st25 ?_
    refine os (fun _ z => XT.pop X25.here hx rfl (hb hby (eD D13_1_ 10 rfl)) rfl rfl z) ?_
    refine gGo (pc := 31) (pc' := 47) X25 hx hby (eD D13_1_ 11 rfl) (by decide) (by decide) ?_
    refine OGo.fin X25 hlk (v := none) (fun _ => rfl) (by decide) (by decide) (fun fs hr => X25.returnOut hx hret (hb hby (eD D13_0_ 10 rfl)) hr) fun U eU hF => hΦ _ _ _ ?_ hF
    rw [eU]
    show Q_rarm Z a d mc ps xh xs xr xv xf xg h0 n0 _ _ _
    exact ⟨rfl, N25, K25, Eq25, by simp only [own_arm, own_mc, if_neg hc1, List.append_assoc, List.singleton_append, List.nil_append, List.cons_append]; simpa only [List.append_assoc, List.singleton_append, List.nil_append, List.cons_append] using Fm25, by simp only [own_arm, own_mc, if_neg hc1, List.append_assoc, List.singleton_append, List.nil_append, List.cons_append]; simpa only [List.append_assoc, List.singleton_append, List.nil_append, List.cons_append] using Fs25, Fe25, by simp only [own_arm, own_mc, if_neg hc1, List.append_assoc, List.singleton_append, List.nil_append, List.cons_append]; simpa only [List.append_assoc, List.singleton_append, List.nil_append, List.cons_append] using PP25⟩

theorem ef_rarf (m : MethodId) (x0 : Addr) (x1 : Int32) (x2 : Int32) (x3 : Int32) (x4 : Int32) (x5 : Int32) (x6 : Int32) : entryFrame m #[(.ref x0), (.int x1), (.int x2), (.int x3), (.int x4), (.int x5), (.int x6)] 7 = mkF m 0 #[.val (.ref x0), .val (.int x1), .val (.int x2), .val (.int x3), .val (.int x4), .val (.int x5), .val (.int x6)] [] := by first | (simp [entryFrame, mkF, argsToLocals, Value.category]; done) | rfl
def Q_rarf (Z : State) (a : Addr) (dz : Addr) (cz : ClassId) (xh : Int32) (xs : Int32) (xr : Int32) (xv : Int32) (xf : Int32) (xg : Int32) (h0 : Heap) (n0 : Nat) (v : Option Value) (h : Heap) (L : List Loc) : Prop := v = none ∧ Fr n0 L ∧ Keep h0 h [a] ∧ Exa Z h a s9_ ∧ Fld Z h a s7_ "modCount" "I" (.int (own_mc xv (0 : Int32))) ∧ ∃ d, Fld Z h a s9_ "size" "I" (.int (own_n (own_arm xh xs xr xv xf xg))) ∧ Fld Z h a s9_ "elementData" "[Ljava/lang/Object;" (.ref d) ∧ PD Z h (fun z => z ≠ a) d (own_arm xh xs xr xv xf xg) ∧ h0.size ≤ d
theorem rarf (l : Launch) (Z : State) (a0 : Array Value) (hw : OHW Z a0) (ws : List Jvm.Cond) (a : Addr) (dz : Addr) (cz : ClassId) (xh : Int32) (xs : Int32) (xr : Int32) (xv : Int32) (xf : Int32) (xg : Int32) (h0 : Heap) (n0 : Nat) (Z0 : n0 ≤ h0.size) (E_a : Exa Z h0 a s9_) (g_a : n0 ≤ a) (F_m : Fld Z h0 a s7_ "modCount" "I" (.int (0 : Int32))) (F_s : Fld Z h0 a s9_ "size" "I" (.int (0 : Int32))) (F_e : Fld Z h0 a s9_ "elementData" "[Ljava/lang/Object;" (.ref dz)) (V_z : Arv Z h0 dz cz (.object "java/lang/Object") (0 : Int32) [] .null) (n_z : dz ≠ a) (O_0 : Old Z n0 h0) (S_d : Sta Z Z.heap s9_ "DEFAULTCAPACITY_EMPTY_ELEMENTDATA" "[Ljava/lang/Object;" (.ref dz)) :
    OCon l Z (⟨s0_, "arm", "(Ljava/util/ArrayList;IIIZZZ)V"⟩ : MethodName) method_4_code 7 none ws ({ frames := 5, cells := 3, slots := 24, locals := 69 } : Room) #[(.ref a), (.int xh), (.int xs), (.int xr), (.int xv), (.int xf), (.int xg)] h0 (Q_rarf Z a dz cz xh xs xr xv xf xg h0 n0) := by
  refine OCon.of (plainFor_of_name pn2) ?_
  intro p e s m below meth c s₁ Φ X0 hx hby hml hown hnm hret hlk hZ e0 hΦ
  have N0 := Fr.nil n0
  refine os (fun _ z => castTop (ef_rarf m a xh xs xr xv xf xg) z) ?_
  have K0 := Keep.refl h0 [a]
  show OG p e below Φ s₁ m 0 #[rv a, iv xh, iv xs, iv xr, iv xv, iv xf, iv xg] []
  refine gI X0 hx hby (eD D13_0_ 0 rfl) rfl ?_
  by_cases hc1 : xv = 0
  · refine gFy (pc := 2) (pc' := 34) X0 hx hby (eD D13_0_ 1 rfl) (XT.i0_eq_t hc1) (by decide) (by decide) ?_
    refine gAn X0 hx hby (eD D13_0_ 2 rfl) rfl rfl ?_
    refine gIn X0 hx hby (eD D13_0_ 3 rfl) rfl ?_
    refine gIn X0 hx hby (eD D13_0_ 4 rfl) rfl ?_
    refine gI X0 hx hby (eD D13_0_ 5 rfl) rfl ?_
    refine gIc (x := 1) X0 hx hby (eD D13_0_ 6 rfl) rfl ?_
    obtain ⟨_, T2, L2, X2, hQ2, st2⟩ := own_callSt X0 hx hZ hown (ow57 hw) (ow58 hw) (ow59 hw) (ow60 hw) (by decide) (rpp l Z a0 hw [] xh xr xf (1 : Int32) h0 n0 Z0 (Or.inr rfl)) e0 (W := 1) (by decide) (pc := 40) (ls := #[rv a, iv xh, iv xs, iv xr, iv xv, iv xf, iv xg]) (stk := [(.int 1), (.int xf), (.int xr), (.int xh), (.ref a)]) (by rw [hml]; rfl) (argsL := [(.int xh), (.int xr), (.int xf), (.int 1)]) (rest := [(.ref a)]) (lenOf pd6 rfl) rfl rfl (Nat.le_of_eq rfl) (hb hby (eD D13_0_ 7 rfl))
    obtain ⟨y2, rfl, Nq2, Kq2, Yq2, hz2⟩ := hQ2
    have nq2_a := Nat.ne_of_lt (Nat.lt_of_lt_of_le E_a.lt hz2)
    have nq2_dz := Nat.ne_of_lt (Nat.lt_of_lt_of_le V_z.lt hz2)
    have gq2 := Nat.le_trans Z0 hz2
    have sq2 := Nat.le_trans K0.1 hz2
    have N2 := Fr.app N0 Nq2
    have Zs2 := Nat.le_trans Z0 Kq2.1
    have F3 := E_a.keep Kq2
    have F4 := F_m.keep Kq2 nin0
    have F5 := F_s.keep Kq2 nin0
    have F6 := F_e.keep Kq2 nin0
    have F7 := V_z.keep Kq2 nin0
    have F8 := O_0.keep Kq2 all0
    have K2 := K0.trans Kq2 all0
    refine os st2 ?_
    obtain ⟨_, T9, L9, X9, hQ9, st9⟩ := own_callVi X2 hx hZ hown (ow27 hw) (ow28 hw) (notFace_of_selects (args := #[]) (mvT hZ (ow30 hw))) (ow30 hw) (ow29 hw) (ow3 hw) (ow31 hw) (by decide) (rlp0a1 l Z a0 hw [] a (0 : Int32) dz cz y2 T2.heap n0 Zs2 F3 g_a F4 F5 F6 F7 n_z (S_d.ext F8.2) Yq2.1) rfl (W := 0) (by decide) F3 (pc := 43) (ls := #[rv a, iv xh, iv xs, iv xr, iv xv, iv xf, iv xg]) (stk := [(.ref y2), (.ref a)]) (by rw [hml]; rfl) (argsL := [(.ref y2)]) (rest := []) (lenOf pd7 rfl) rfl rfl (Nat.le_of_eq rfl) (hb hby (eD D13_0_ 8 rfl))
    obtain ⟨rfl, Nq9, Kq9, Eq9, Fm9, Fs9, b9, cb9, Fe9, Vq9, Ex9, Ov9, hz9⟩ := hQ9
    have nq9_a := Nat.ne_of_lt (Nat.lt_of_lt_of_le F3.lt hz9)
    have nq9_dz := Nat.ne_of_lt (Nat.lt_of_lt_of_le F7.lt hz9)
    have nq9_y2 := Nat.ne_of_lt (Nat.lt_of_lt_of_le Yq2.lt hz9)
    have gq9 := Nat.le_trans Zs2 hz9
    have sq9 := Nat.le_trans K2.1 hz9
    have N9 := Fr.app N2 Nq9
    have Zs9 := Nat.le_trans Zs2 Kq9.1
    have F10 := F7.keep Kq9 (ninS n_z nin0)
    have F11 := F8.keep Kq9 (allS g_a all0)
    have F12 := Yq2.keep Kq9 (ninS (Ne.symm nq2_a) nin0)
    have K9 := K2.trans Kq9 (allS (Or.inl (List.mem_of_getElem? (i := 0) rfl)) all0)
    have PP13 : PD Z T9.heap (fun z => z ≠ a) b9 [(own_q xf xh xr (1 : Int32))] := PD.one Vq9 Ov9 F12 ((Ne.symm nq9_a)) ((Ne.symm nq2_a)) (nq9_y2)
    have Fz13 : Fld Z T9.heap a s9_ "size" "I" (.int (own_n [(own_q xf xh xr (1 : Int32))])) := by rw [own_one]; exact Fs9
    refine os st9 ?_
    refine os (fun _ z => XT.pop X9.here hx rfl (hb hby (eD D13_0_ 9 rfl)) rfl rfl z) ?_
    refine OGo.fin X9 hlk (v := none) (fun _ => rfl) (by decide) (by decide) (fun fs hr => X9.returnOut hx hret (hb hby (eD D13_0_ 10 rfl)) hr) fun U eU hF => hΦ _ _ _ ?_ hF
    rw [eU]
    show Q_rarf Z a dz cz xh xs xr xv xf xg h0 n0 _ _ _
    exact ⟨rfl, N9, K9, Eq9, by simp only [own_arm, own_mc, if_pos hc1]; exact Fm9, _, by simp only [own_arm, own_mc, if_pos hc1]; exact Fz13, Fe9, by simp only [own_arm, own_mc, if_pos hc1]; exact PP13, sq9⟩
  · refine gFn X0 hx hby (eD D13_0_ 1 rfl) (XT.i0_eq_f hc1) ?_
    refine gAn X0 hx hby (eD D13_0_ 11 rfl) rfl rfl ?_
    refine gIn X0 hx hby (eD D13_0_ 12 rfl) rfl ?_
    refine gIn X0 hx hby (eD D13_0_ 13 rfl) rfl ?_
    refine gI X0 hx hby (eD D13_0_ 14 rfl) rfl ?_
    refine gIc (x := 1) X0 hx hby (eD D13_0_ 15 rfl) rfl ?_
    obtain ⟨_, T14, L14, X14, hQ14, st14⟩ := own_callSt X0 hx hZ hown (ow57 hw) (ow58 hw) (ow59 hw) (ow60 hw) (by decide) (rpp l Z a0 hw [] xh xs xf (1 : Int32) h0 n0 Z0 (Or.inr rfl)) e0 (W := 1) (by decide) (pc := 11) (ls := #[rv a, iv xh, iv xs, iv xr, iv xv, iv xf, iv xg]) (stk := [(.int 1), (.int xf), (.int xs), (.int xh), (.ref a)]) (by rw [hml]; rfl) (argsL := [(.int xh), (.int xs), (.int xf), (.int 1)]) (rest := [(.ref a)]) (lenOf pd6 rfl) rfl rfl (Nat.le_of_eq rfl) (hb hby (eD D13_1_ 0 rfl))
    obtain ⟨y14, rfl, Nq14, Kq14, Yq14, hz14⟩ := hQ14
    have nq14_a := Nat.ne_of_lt (Nat.lt_of_lt_of_le E_a.lt hz14)
    have nq14_dz := Nat.ne_of_lt (Nat.lt_of_lt_of_le V_z.lt hz14)
    have gq14 := Nat.le_trans Z0 hz14
    have sq14 := Nat.le_trans K0.1 hz14
    have N14 := Fr.app N0 Nq14
    have Zs14 := Nat.le_trans Z0 Kq14.1
    have F15 := E_a.keep Kq14
    have F16 := F_m.keep Kq14 nin0
    have F17 := F_s.keep Kq14 nin0
    have F18 := F_e.keep Kq14 nin0
    have F19 := V_z.keep Kq14 nin0
    have F20 := O_0.keep Kq14 all0
    have K14 := K0.trans Kq14 all0
    refine os st14 ?_
    obtain ⟨_, T21, L21, X21, hQ21, st21⟩ := own_callVi X14 hx hZ hown (ow27 hw) (ow28 hw) (notFace_of_selects (args := #[]) (mvT hZ (ow30 hw))) (ow30 hw) (ow29 hw) (ow3 hw) (ow31 hw) (by decide) (rlp0a1 l Z a0 hw [] a (0 : Int32) dz cz y14 T14.heap n0 Zs14 F15 g_a F16 F17 F18 F19 n_z (S_d.ext F20.2) Yq14.1) rfl (W := 0) (by decide) F15 (pc := 14) (ls := #[rv a, iv xh, iv xs, iv xr, iv xv, iv xf, iv xg]) (stk := [(.ref y14), (.ref a)]) (by rw [hml]; rfl) (argsL := [(.ref y14)]) (rest := []) (lenOf pd7 rfl) rfl rfl (Nat.le_of_eq rfl) (hb hby (eD D13_1_ 1 rfl))
    obtain ⟨rfl, Nq21, Kq21, Eq21, Fm21, Fs21, b21, cb21, Fe21, Vq21, Ex21, Ov21, hz21⟩ := hQ21
    have nq21_a := Nat.ne_of_lt (Nat.lt_of_lt_of_le F15.lt hz21)
    have nq21_dz := Nat.ne_of_lt (Nat.lt_of_lt_of_le F19.lt hz21)
    have nq21_y14 := Nat.ne_of_lt (Nat.lt_of_lt_of_le Yq14.lt hz21)
    have gq21 := Nat.le_trans Zs14 hz21
    have sq21 := Nat.le_trans K14.1 hz21
    have N21 := Fr.app N14 Nq21
    have Zs21 := Nat.le_trans Zs14 Kq21.1
    have F22 := F19.keep Kq21 (ninS n_z nin0)
    have F23 := F20.keep Kq21 (allS g_a all0)
    have F24 := Yq14.keep Kq21 (ninS (Ne.symm nq14_a) nin0)
    have K21 := K14.trans Kq21 (allS (Or.inl (List.mem_of_getElem? (i := 0) rfl)) all0)
    have PP25 : PD Z T21.heap (fun z => z ≠ a) b21 [(own_q xf xh xs (1 : Int32))] := PD.one Vq21 Ov21 F24 ((Ne.symm nq21_a)) ((Ne.symm nq14_a)) (nq21_y14)
    have Fz25 : Fld Z T21.heap a s9_ "size" "I" (.int (own_n [(own_q xf xh xs (1 : Int32))])) := by rw [own_one]; exact Fs21
    refine os st21 ?_
    refine os (fun _ z => XT.pop X21.here hx rfl (hb hby (eD D13_1_ 2 rfl)) rfl rfl z) ?_
    refine gAn X21 hx hby (eD D13_1_ 3 rfl) rfl rfl ?_
    refine gIn X21 hx hby (eD D13_1_ 4 rfl) rfl ?_
    refine gIn X21 hx hby (eD D13_1_ 5 rfl) rfl ?_
    refine gI X21 hx hby (eD D13_1_ 6 rfl) rfl ?_
    refine gIc (x := 1) X21 hx hby (eD D13_1_ 7 rfl) rfl ?_
    obtain ⟨_, T26, L26, X26, hQ26, st26⟩ := own_callSt X21 hx hZ hown (ow57 hw) (ow58 hw) (ow59 hw) (ow60 hw) (by decide) (rpp l Z a0 hw [] xs xr xg (1 : Int32) T21.heap n0 Zs21 (Or.inr rfl)) rfl (W := 1) (by decide) (pc := 24) (ls := #[rv a, iv xh, iv xs, iv xr, iv xv, iv xf, iv xg]) (stk := [(.int 1), (.int xg), (.int xr), (.int xs), (.ref a)]) (by rw [hml]; rfl) (argsL := [(.int xs), (.int xr), (.int xg), (.int 1)]) (rest := [(.ref a)]) (lenOf pd6 rfl) rfl rfl (Nat.le_of_eq rfl) (hb hby (eD D13_1_ 8 rfl))
    obtain ⟨y26, rfl, Nq26, Kq26, Yq26, hz26⟩ := hQ26
    have nq26_a := Nat.ne_of_lt (Nat.lt_of_lt_of_le Eq21.lt hz26)
    have nq26_b21 := Nat.ne_of_lt (Nat.lt_of_lt_of_le PP25.lt hz26)
    have nq26_dz := Nat.ne_of_lt (Nat.lt_of_lt_of_le F22.lt hz26)
    have nq26_y14 := Nat.ne_of_lt (Nat.lt_of_lt_of_le F24.lt hz26)
    have gq26 := Nat.le_trans Zs21 hz26
    have sq26 := Nat.le_trans K21.1 hz26
    have N26 := Fr.app N21 Nq26
    have Zs26 := Nat.le_trans Zs21 Kq26.1
    have F27 := F22.keep Kq26 nin0
    have F28 := F23.keep Kq26 all0
    have F29 := F24.keep Kq26 nin0
    have F30 := Eq21.keep Kq26
    have F31 := Fm21.keep Kq26 nin0
    have F32 := Fe21.keep Kq26 nin0
    have F33 := PP25.keep Kq26 all0
    have F34 := Fz25.keep Kq26 nin0
    have K26 := K21.trans Kq26 all0
    refine os st26 ?_
    obtain ⟨_, T35, L35, X35, hQ35, st35⟩ := own_callVi X26 hx hZ hown (ow27 hw) (ow28 hw) (notFace_of_selects (args := #[]) (mvT hZ (ow30 hw))) (ow30 hw) (ow29 hw) (ow3 hw) (ow31 hw) (by decide) (rpa1 l Z a0 hw [] a b21 (0 + 1) [(own_q xf xh xs (1 : Int32))] y26 (own_q xg xs xr (1 : Int32)) T26.heap n0 Zs26 F30 g_a F31 F34 F32 F33 gq21 nq21_a Yq26 (Ne.symm nq26_a) (Ne.symm nq26_b21) (by simp)) rfl (W := 0) (by decide) F30 (pc := 27) (ls := #[rv a, iv xh, iv xs, iv xr, iv xv, iv xf, iv xg]) (stk := [(.ref y26), (.ref a)]) (by rw [hml]; rfl) (argsL := [(.ref y26)]) (rest := []) (lenOf pd7 rfl) rfl rfl (Nat.le_of_eq rfl) (hb hby (eD D13_1_ 9 rfl))
    obtain ⟨rfl, Nq35, Kq35, Eq35, Fm35, Fs35, Fe35, PP35⟩ := hQ35
    have N35 := Fr.app N26 Nq35
    have Zs35 := Nat.le_trans Zs26 Kq35.1
    have F36 := F27.keep Kq35 (ninS n_z (ninS nq21_dz nin0))
    have F37 := F28.keep Kq35 (allS g_a (allS gq21 all0))
    have F38 := F29.keep Kq35 (ninS (Ne.symm nq14_a) (ninS nq21_y14 nin0))
    have F39 := Yq26.keep Kq35 (ninS (Ne.symm nq26_a) (ninS (Ne.symm nq26_b21) nin0))
    have K35 := K26.trans Kq35 (allS (Or.inl (List.mem_of_getElem? (i := 0) rfl)) (allS (Or.inr sq21) all0))
    refine os st35 ?_
    refine os (fun _ z => XT.pop X35.here hx rfl (hb hby (eD D13_1_ 10 rfl)) rfl rfl z) ?_
    refine gGo (pc := 31) (pc' := 47) X35 hx hby (eD D13_1_ 11 rfl) (by decide) (by decide) ?_
    refine OGo.fin X35 hlk (v := none) (fun _ => rfl) (by decide) (by decide) (fun fs hr => X35.returnOut hx hret (hb hby (eD D13_0_ 10 rfl)) hr) fun U eU hF => hΦ _ _ _ ?_ hF
    rw [eU]
    show Q_rarf Z a dz cz xh xs xr xv xf xg h0 n0 _ _ _
    exact ⟨rfl, N35, K35, Eq35, by simp only [own_arm, own_mc, if_neg hc1]; exact Fm35, _, by simp only [own_arm, own_mc, if_neg hc1]; exact Fs35, Fe35, by simp only [own_arm, own_mc, if_neg hc1]; exact PP35, sq21⟩

theorem pn6 : plainName s5_ = true := by first | (simp [plainName, overriddenIn]; done) | decide +kernel
theorem ef_rni (m : MethodId) (x0 : Addr) (x1 : Addr) (x2 : Addr) (x3 : Addr) (x6 : UInt64) : entryFrame m #[(.ref x0), (.ref x1), (.ref x2), (.ref x3), .null, .null, (.double x6)] 8 = mkF m 0 #[.val (.ref x0), .val (.ref x1), .val (.ref x2), .val (.ref x3), .val .null, .val .null, .val (.double x6), .second] [] := by first | (simp [entryFrame, mkF, argsToLocals, Value.category]; done) | rfl
def Q_rni (Z : State) (a : Addr) (x1 : Addr) (x2 : Addr) (x3 : Addr) (x6 : UInt64) (u0 : Value) (u1 : Value) (u2 : Value) (u3 : Value) (u4 : Value) (u5 : Value) (h0 : Heap) (n0 : Nat) (v : Option Value) (h : Heap) (L : List Loc) : Prop := v = none ∧ Fr n0 L ∧ Keep h0 h [a] ∧ Exa Z h a s5_ ∧ Fld Z h a s5_ "junctions" "Ljava/util/List;" (.ref x1) ∧ Fld Z h a s5_ "reservoirs" "Ljava/util/List;" (.ref x2) ∧ Fld Z h a s5_ "pipes" "Ljava/util/List;" (.ref x3) ∧ Fld Z h a s5_ "flowUnits" "Lcom/example/hydromeme/hydromeme/FlowUnits;" .null ∧ Fld Z h a s5_ "headLoss" "Lcom/example/hydromeme/hydromeme/HeadLoss;" .null ∧ Fld Z h a s5_ "viscosity" "D" (.double x6)
theorem rni (l : Launch) (Z : State) (a0 : Array Value) (hw : OHW Z a0) (ws : List Jvm.Cond) (a : Addr) (x1 : Addr) (x2 : Addr) (x3 : Addr) (x6 : UInt64) (u0 : Value) (u1 : Value) (u2 : Value) (u3 : Value) (u4 : Value) (u5 : Value) (h0 : Heap) (n0 : Nat) (Z0 : n0 ≤ h0.size) (E_a : Exa Z h0 a s5_) (g_a : n0 ≤ a) (F_0 : Fld Z h0 a s5_ "junctions" "Ljava/util/List;" u0) (F_1 : Fld Z h0 a s5_ "reservoirs" "Ljava/util/List;" u1) (F_2 : Fld Z h0 a s5_ "pipes" "Ljava/util/List;" u2) (F_3 : Fld Z h0 a s5_ "flowUnits" "Lcom/example/hydromeme/hydromeme/FlowUnits;" u3) (F_4 : Fld Z h0 a s5_ "headLoss" "Lcom/example/hydromeme/hydromeme/HeadLoss;" u4) (F_5 : Fld Z h0 a s5_ "viscosity" "D" u5) :
    OCon l Z (⟨s5_, "<init>", "(Ljava/util/List;Ljava/util/List;Ljava/util/List;Lcom/example/hydromeme/hydromeme/FlowUnits;Lcom/example/hydromeme/hydromeme/HeadLoss;D)V"⟩ : MethodName) c33_ 8 none ws ({ frames := 2, cells := 0, slots := 0, locals := 24 } : Room) #[(.ref a), (.ref x1), (.ref x2), (.ref x3), .null, .null, (.double x6)] h0 (Q_rni Z a x1 x2 x3 x6 u0 u1 u2 u3 u4 u5 h0 n0) := by
  refine OCon.of (plainFor_of_name pn6) ?_
  intro p e s m below meth c s₁ Φ X0 hx hby hml hown hnm hret hlk hZ e0 hΦ
  have N0 := Fr.nil n0
  refine os (fun _ z => castTop (ef_rni m a x1 x2 x3 x6) z) ?_
  have K0 := Keep.refl h0 [a]
  show OG p e below Φ s₁ m 0 #[rv a, rv x1, rv x2, rv x3, .val .null, .val .null, .val (.double x6), .second] []
  refine gAn X0 hx hby (eD D14_0_ 0 rfl) rfl rfl ?_
  obtain ⟨_, T1, L1, X1, hQ1, st1⟩ := own_callSp X0 hx hZ rfl hown (ow100 hw) (ow68 hw) (ow70 hw) (ow71 hw) (by decide) (rrec l Z a0 hw [] a h0 n0 Z0 ) e0 (W := 0) (by decide) (pc := 1) (ls := #[rv a, rv x1, rv x2, rv x3, .val .null, .val .null, .val (.double x6), .second]) (stk := [(.ref a)]) (by rw [hml]; rfl) (a := a) (argsL := []) (rest := []) (lenOf pd0 rfl) rfl rfl (Nat.le_of_eq rfl) (hb hby (eD D14_0_ 1 rfl))
  obtain ⟨rfl, Nq1, e1⟩ := hQ1
  have N1 := Fr.app N0 Nq1
  refine os st1 ?_
  refine gAn X1 hx hby (eD D14_0_ 2 rfl) rfl rfl ?_
  refine gAn X1 hx hby (eD D14_0_ 3 rfl) rfl rfl ?_
  obtain ⟨T2, h2, X2, e2, W2, st2⟩ := putF X1 hx hZ hown (host := "") (Or.inl (ow101 hw)) Via.refl e1 F_0 E_a (Or.inr ⟨(ow102 hw), rfl, hnm⟩) (ow95 hw) (ty := (.object s11_)) (by decide) rfl rfl (g := (mkF m 6 #[rv a, rv x1, rv x2, rv x3, .val .null, .val .null, .val (.double x6), .second] [(.ref x1), (.ref a)])) rfl rfl (hb hby (eD D14_0_ 4 rfl))
  have F3 := E_a.wr W2
  have F4 := F_0.same W2
  have F5 := F_1.other W2 (Or.inr (slot_ne (Or.inr (ow104 hw)) (Or.inr (ow102 hw)) (by decide) (t := (.object s11_)) (t' := (.object s11_)) (by decide) (by decide)))
  have F6 := F_2.other W2 (Or.inr (slot_ne (Or.inr (ow106 hw)) (Or.inr (ow102 hw)) (by decide) (t := (.object s11_)) (t' := (.object s11_)) (by decide) (by decide)))
  have F7 := F_3.other W2 (Or.inr (slot_ne (Or.inr (ow108 hw)) (Or.inr (ow102 hw)) (by decide) (t := (.object s2_)) (t' := (.object s11_)) (by decide) (by decide)))
  have F8 := F_4.other W2 (Or.inr (slot_ne (Or.inr (ow110 hw)) (Or.inr (ow102 hw)) (by decide) (t := (.object s3_)) (t' := (.object s11_)) (by decide) (by decide)))
  have F9 := F_5.other W2 (Or.inr (slot_ne (Or.inr (ow112 hw)) (Or.inr (ow102 hw)) (by decide) (t := .double) (t' := (.object s11_)) (by decide) (by decide)))
  have K2 := K0.wr W2 (Or.inl (List.mem_of_getElem? (i := 0) rfl))
  have N2 := Fr.snoc X2 N1 g_a
  have Zs2 := ozw W2 Z0
  refine os st2 ?_
  refine gAn X2 hx hby (eD D14_0_ 5 rfl) rfl rfl ?_
  refine gAn X2 hx hby (eD D14_0_ 6 rfl) rfl rfl ?_
  obtain ⟨T10, h10, X10, e10, W10, st10⟩ := putF X2 hx hZ hown (host := "") (Or.inl (ow103 hw)) Via.refl e2 F5 F3 (Or.inr ⟨(ow104 hw), rfl, hnm⟩) (ow95 hw) (ty := (.object s11_)) (by decide) rfl rfl (g := (mkF m 11 #[rv a, rv x1, rv x2, rv x3, .val .null, .val .null, .val (.double x6), .second] [(.ref x2), (.ref a)])) rfl rfl (hb hby (eD D14_0_ 7 rfl))
  have F11 := F3.wr W10
  have F12 := F4.other W10 (Or.inr (slot_ne (Or.inr (ow102 hw)) (Or.inr (ow104 hw)) (by decide) (t := (.object s11_)) (t' := (.object s11_)) (by decide) (by decide)))
  have F13 := F5.same W10
  have F14 := F6.other W10 (Or.inr (slot_ne (Or.inr (ow106 hw)) (Or.inr (ow104 hw)) (by decide) (t := (.object s11_)) (t' := (.object s11_)) (by decide) (by decide)))
  have F15 := F7.other W10 (Or.inr (slot_ne (Or.inr (ow108 hw)) (Or.inr (ow104 hw)) (by decide) (t := (.object s2_)) (t' := (.object s11_)) (by decide) (by decide)))
  have F16 := F8.other W10 (Or.inr (slot_ne (Or.inr (ow110 hw)) (Or.inr (ow104 hw)) (by decide) (t := (.object s3_)) (t' := (.object s11_)) (by decide) (by decide)))
  have F17 := F9.other W10 (Or.inr (slot_ne (Or.inr (ow112 hw)) (Or.inr (ow104 hw)) (by decide) (t := .double) (t' := (.object s11_)) (by decide) (by decide)))
  have K10 := K2.wr W10 (Or.inl (List.mem_of_getElem? (i := 0) rfl))
  have N10 := Fr.snoc X10 N2 g_a
  have Zs10 := ozw W10 Zs2
  refine os st10 ?_
  refine gAn X10 hx hby (eD D14_0_ 8 rfl) rfl rfl ?_
  refine gAn X10 hx hby (eD D14_0_ 9 rfl) rfl rfl ?_
  obtain ⟨T18, h18, X18, e18, W18, st18⟩ := putF X10 hx hZ hown (host := "") (Or.inl (ow105 hw)) Via.refl e10 F14 F11 (Or.inr ⟨(ow106 hw), rfl, hnm⟩) (ow95 hw) (ty := (.object s11_)) (by decide) rfl rfl (g := (mkF m 16 #[rv a, rv x1, rv x2, rv x3, .val .null, .val .null, .val (.double x6), .second] [(.ref x3), (.ref a)])) rfl rfl (hb hby (eD D14_0_ 10 rfl))
  have F19 := F11.wr W18
  have F20 := F12.other W18 (Or.inr (slot_ne (Or.inr (ow102 hw)) (Or.inr (ow106 hw)) (by decide) (t := (.object s11_)) (t' := (.object s11_)) (by decide) (by decide)))
  have F21 := F13.other W18 (Or.inr (slot_ne (Or.inr (ow104 hw)) (Or.inr (ow106 hw)) (by decide) (t := (.object s11_)) (t' := (.object s11_)) (by decide) (by decide)))
  have F22 := F14.same W18
  have F23 := F15.other W18 (Or.inr (slot_ne (Or.inr (ow108 hw)) (Or.inr (ow106 hw)) (by decide) (t := (.object s2_)) (t' := (.object s11_)) (by decide) (by decide)))
  have F24 := F16.other W18 (Or.inr (slot_ne (Or.inr (ow110 hw)) (Or.inr (ow106 hw)) (by decide) (t := (.object s3_)) (t' := (.object s11_)) (by decide) (by decide)))
  have F25 := F17.other W18 (Or.inr (slot_ne (Or.inr (ow112 hw)) (Or.inr (ow106 hw)) (by decide) (t := .double) (t' := (.object s11_)) (by decide) (by decide)))
  have K18 := K10.wr W18 (Or.inl (List.mem_of_getElem? (i := 0) rfl))
  have N18 := Fr.snoc X18 N10 g_a
  have Zs18 := ozw W18 Zs10
  refine os st18 ?_
  refine gAn X18 hx hby (eD D14_0_ 11 rfl) rfl rfl ?_
  refine gA X18 hx hby (eD D14_0_ 12 rfl) rfl rfl ?_
  obtain ⟨T26, h26, X26, e26, W26, st26⟩ := putF X18 hx hZ hown (host := "") (Or.inl (ow107 hw)) Via.refl e18 F23 F19 (Or.inr ⟨(ow108 hw), rfl, hnm⟩) (ow95 hw) (ty := (.object s2_)) (by decide) rfl rfl (g := (mkF m 22 #[rv a, rv x1, rv x2, rv x3, .val .null, .val .null, .val (.double x6), .second] [.null, (.ref a)])) rfl rfl (hb hby (eD D14_0_ 13 rfl))
  have F27 := F19.wr W26
  have F28 := F20.other W26 (Or.inr (slot_ne (Or.inr (ow102 hw)) (Or.inr (ow108 hw)) (by decide) (t := (.object s11_)) (t' := (.object s2_)) (by decide) (by decide)))
  have F29 := F21.other W26 (Or.inr (slot_ne (Or.inr (ow104 hw)) (Or.inr (ow108 hw)) (by decide) (t := (.object s11_)) (t' := (.object s2_)) (by decide) (by decide)))
  have F30 := F22.other W26 (Or.inr (slot_ne (Or.inr (ow106 hw)) (Or.inr (ow108 hw)) (by decide) (t := (.object s11_)) (t' := (.object s2_)) (by decide) (by decide)))
  have F31 := F23.same W26
  have F32 := F24.other W26 (Or.inr (slot_ne (Or.inr (ow110 hw)) (Or.inr (ow108 hw)) (by decide) (t := (.object s3_)) (t' := (.object s2_)) (by decide) (by decide)))
  have F33 := F25.other W26 (Or.inr (slot_ne (Or.inr (ow112 hw)) (Or.inr (ow108 hw)) (by decide) (t := .double) (t' := (.object s2_)) (by decide) (by decide)))
  have K26 := K18.wr W26 (Or.inl (List.mem_of_getElem? (i := 0) rfl))
  have N26 := Fr.snoc X26 N18 g_a
  have Zs26 := ozw W26 Zs18
  refine os st26 ?_
  refine gAn X26 hx hby (eD D14_0_ 14 rfl) rfl rfl ?_
  refine gA X26 hx hby (eD D14_0_ 15 rfl) rfl rfl ?_
  obtain ⟨T34, h34, X34, e34, W34, st34⟩ := putF X26 hx hZ hown (host := "") (Or.inl (ow109 hw)) Via.refl e26 F32 F27 (Or.inr ⟨(ow110 hw), rfl, hnm⟩) (ow95 hw) (ty := (.object s3_)) (by decide) rfl rfl (g := (mkF m 28 #[rv a, rv x1, rv x2, rv x3, .val .null, .val .null, .val (.double x6), .second] [.null, (.ref a)])) rfl rfl (hb hby (eD D14_1_ 0 rfl))
  have F35 := F27.wr W34
  have F36 := F28.other W34 (Or.inr (slot_ne (Or.inr (ow102 hw)) (Or.inr (ow110 hw)) (by decide) (t := (.object s11_)) (t' := (.object s3_)) (by decide) (by decide)))
  have F37 := F29.other W34 (Or.inr (slot_ne (Or.inr (ow104 hw)) (Or.inr (ow110 hw)) (by decide) (t := (.object s11_)) (t' := (.object s3_)) (by decide) (by decide)))
  have F38 := F30.other W34 (Or.inr (slot_ne (Or.inr (ow106 hw)) (Or.inr (ow110 hw)) (by decide) (t := (.object s11_)) (t' := (.object s3_)) (by decide) (by decide)))
  have F39 := F31.other W34 (Or.inr (slot_ne (Or.inr (ow108 hw)) (Or.inr (ow110 hw)) (by decide) (t := (.object s2_)) (t' := (.object s3_)) (by decide) (by decide)))
  have F40 := F32.same W34
  have F41 := F33.other W34 (Or.inr (slot_ne (Or.inr (ow112 hw)) (Or.inr (ow110 hw)) (by decide) (t := .double) (t' := (.object s3_)) (by decide) (by decide)))
  have K34 := K26.wr W34 (Or.inl (List.mem_of_getElem? (i := 0) rfl))
  have N34 := Fr.snoc X34 N26 g_a
  have Zs34 := ozw W34 Zs26
  refine os st34 ?_
  refine gAn X34 hx hby (eD D14_1_ 1 rfl) rfl rfl ?_
  refine os (fun _ z => XS.dload X34.here hx rfl (hb hby (eD D14_1_ 2 rfl)) rfl z) ?_
  obtain ⟨T42, h42, X42, e42, W42, st42⟩ := putF X34 hx hZ hown (host := "") (Or.inl (ow111 hw)) Via.refl e34 F41 F35 (Or.inr ⟨(ow112 hw), rfl, hnm⟩) (ow95 hw) (ty := .double) (by decide) rfl rfl (g := (mkF m 34 #[rv a, rv x1, rv x2, rv x3, .val .null, .val .null, .val (.double x6), .second] [(.double x6), (.ref a)])) rfl rfl (hb hby (eD D14_1_ 3 rfl))
  have F43 := F35.wr W42
  have F44 := F36.other W42 (Or.inr (slot_ne (Or.inr (ow102 hw)) (Or.inr (ow112 hw)) (by decide) (t := (.object s11_)) (t' := .double) (by decide) (by decide)))
  have F45 := F37.other W42 (Or.inr (slot_ne (Or.inr (ow104 hw)) (Or.inr (ow112 hw)) (by decide) (t := (.object s11_)) (t' := .double) (by decide) (by decide)))
  have F46 := F38.other W42 (Or.inr (slot_ne (Or.inr (ow106 hw)) (Or.inr (ow112 hw)) (by decide) (t := (.object s11_)) (t' := .double) (by decide) (by decide)))
  have F47 := F39.other W42 (Or.inr (slot_ne (Or.inr (ow108 hw)) (Or.inr (ow112 hw)) (by decide) (t := (.object s2_)) (t' := .double) (by decide) (by decide)))
  have F48 := F40.other W42 (Or.inr (slot_ne (Or.inr (ow110 hw)) (Or.inr (ow112 hw)) (by decide) (t := (.object s3_)) (t' := .double) (by decide) (by decide)))
  have F49 := F41.same W42
  have K42 := K34.wr W42 (Or.inl (List.mem_of_getElem? (i := 0) rfl))
  have N42 := Fr.snoc X42 N34 g_a
  have Zs42 := ozw W42 Zs34
  refine os st42 ?_
  refine OGo.fin X42 hlk (v := none) (fun _ => rfl) (by decide) (by decide) (fun fs hr => X42.returnOut hx hret (hb hby (eD D14_1_ 4 rfl)) hr) fun U eU hF => hΦ _ _ _ ?_ hF
  rw [eU, e42]
  show Q_rni Z a x1 x2 x3 x6 u0 u1 u2 u3 u4 u5 h0 n0 _ _ _
  exact ⟨rfl, N42, K42, F43, F44, F45, F46, F47, F48, F49⟩

theorem ef_rgn0 (m : MethodId) (x0 : Addr) : entryFrame m #[(.ref x0)] 1 = mkF m 0 #[.val (.ref x0)] [] := by first | (simp [entryFrame, mkF, argsToLocals, Value.category]; done) | rfl
def Q_rgn0 (Z : State) (a : Addr) (qv : Addr) (h0 : Heap) (n0 : Nat) (v : Option Value) (h : Heap) (L : List Loc) : Prop := v = some (.ref qv) ∧ Fr n0 L ∧ h = h0
theorem rgn0 (l : Launch) (Z : State) (a0 : Array Value) (hw : OHW Z a0) (ws : List Jvm.Cond) (a : Addr) (qv : Addr) (h0 : Heap) (n0 : Nat) (Z0 : n0 ≤ h0.size) (F_a : Fld Z h0 a s5_ "junctions" "Ljava/util/List;" (.ref qv)) :
    OCon l Z (⟨s5_, "junctions", "()Ljava/util/List;"⟩ : MethodName) c34_ 1 (some (.object s11_)) ws ({ frames := 0, cells := 0, slots := 0, locals := 0 } : Room) #[(.ref a)] h0 (Q_rgn0 Z a qv h0 n0) := by
  refine OCon.of (plainFor_of_name pn6) ?_
  intro p e s m below meth c s₁ Φ X0 hx hby hml hown hnm hret hlk hZ e0 hΦ
  have N0 := Fr.nil n0
  refine os (fun _ z => castTop (ef_rgn0 m a) z) ?_
  show OG p e below Φ s₁ m 0 #[rv a] []
  refine gAn X0 hx hby (eD D16_0_ 0 rfl) rfl rfl ?_
  obtain ⟨T1, X1, e1, st1⟩ := getF X0 hx hZ hown (host := "") (Or.inl (ow101 hw)) Via.refl e0 F_a (g := (mkF m 1 #[rv a] [(.ref a)])) rfl rfl (hb hby (eD D16_0_ 1 rfl))
  refine os st1 ?_
  refine OGo.fin X1 hlk (v := (some (.ref qv))) (fun h => by rw [hret] at h; cases h) (by decide) (by decide) (fun fs hr => X1.areturnOut hx rfl hret rfl (hb hby (eD D16_0_ 2 rfl)) hr) fun U eU hF => hΦ _ _ _ ?_ hF
  rw [eU, e1]
  show Q_rgn0 Z a qv h0 n0 _ _ _
  exact ⟨rfl, N0, rfl⟩

theorem ef_rgn1 (m : MethodId) (x0 : Addr) : entryFrame m #[(.ref x0)] 1 = mkF m 0 #[.val (.ref x0)] [] := by first | (simp [entryFrame, mkF, argsToLocals, Value.category]; done) | rfl
def Q_rgn1 (Z : State) (a : Addr) (qv : Addr) (h0 : Heap) (n0 : Nat) (v : Option Value) (h : Heap) (L : List Loc) : Prop := v = some (.ref qv) ∧ Fr n0 L ∧ h = h0
theorem rgn1 (l : Launch) (Z : State) (a0 : Array Value) (hw : OHW Z a0) (ws : List Jvm.Cond) (a : Addr) (qv : Addr) (h0 : Heap) (n0 : Nat) (Z0 : n0 ≤ h0.size) (F_a : Fld Z h0 a s5_ "reservoirs" "Ljava/util/List;" (.ref qv)) :
    OCon l Z (⟨s5_, "reservoirs", "()Ljava/util/List;"⟩ : MethodName) c35_ 1 (some (.object s11_)) ws ({ frames := 0, cells := 0, slots := 0, locals := 0 } : Room) #[(.ref a)] h0 (Q_rgn1 Z a qv h0 n0) := by
  refine OCon.of (plainFor_of_name pn6) ?_
  intro p e s m below meth c s₁ Φ X0 hx hby hml hown hnm hret hlk hZ e0 hΦ
  have N0 := Fr.nil n0
  refine os (fun _ z => castTop (ef_rgn1 m a) z) ?_
  show OG p e below Φ s₁ m 0 #[rv a] []
  refine gAn X0 hx hby (eD D18_0_ 0 rfl) rfl rfl ?_
  obtain ⟨T1, X1, e1, st1⟩ := getF X0 hx hZ hown (host := "") (Or.inl (ow103 hw)) Via.refl e0 F_a (g := (mkF m 1 #[rv a] [(.ref a)])) rfl rfl (hb hby (eD D18_0_ 1 rfl))
  refine os st1 ?_
  refine OGo.fin X1 hlk (v := (some (.ref qv))) (fun h => by rw [hret] at h; cases h) (by decide) (by decide) (fun fs hr => X1.areturnOut hx rfl hret rfl (hb hby (eD D18_0_ 2 rfl)) hr) fun U eU hF => hΦ _ _ _ ?_ hF
  rw [eU, e1]
  show Q_rgn1 Z a qv h0 n0 _ _ _
  exact ⟨rfl, N0, rfl⟩

theorem ef_rgn2 (m : MethodId) (x0 : Addr) : entryFrame m #[(.ref x0)] 1 = mkF m 0 #[.val (.ref x0)] [] := by first | (simp [entryFrame, mkF, argsToLocals, Value.category]; done) | rfl
def Q_rgn2 (Z : State) (a : Addr) (qv : Addr) (h0 : Heap) (n0 : Nat) (v : Option Value) (h : Heap) (L : List Loc) : Prop := v = some (.ref qv) ∧ Fr n0 L ∧ h = h0
theorem rgn2 (l : Launch) (Z : State) (a0 : Array Value) (hw : OHW Z a0) (ws : List Jvm.Cond) (a : Addr) (qv : Addr) (h0 : Heap) (n0 : Nat) (Z0 : n0 ≤ h0.size) (F_a : Fld Z h0 a s5_ "pipes" "Ljava/util/List;" (.ref qv)) :
    OCon l Z (⟨s5_, "pipes", "()Ljava/util/List;"⟩ : MethodName) c36_ 1 (some (.object s11_)) ws ({ frames := 0, cells := 0, slots := 0, locals := 0 } : Room) #[(.ref a)] h0 (Q_rgn2 Z a qv h0 n0) := by
  refine OCon.of (plainFor_of_name pn6) ?_
  intro p e s m below meth c s₁ Φ X0 hx hby hml hown hnm hret hlk hZ e0 hΦ
  have N0 := Fr.nil n0
  refine os (fun _ z => castTop (ef_rgn2 m a) z) ?_
  show OG p e below Φ s₁ m 0 #[rv a] []
  refine gAn X0 hx hby (eD D20_0_ 0 rfl) rfl rfl ?_
  obtain ⟨T1, X1, e1, st1⟩ := getF X0 hx hZ hown (host := "") (Or.inl (ow105 hw)) Via.refl e0 F_a (g := (mkF m 1 #[rv a] [(.ref a)])) rfl rfl (hb hby (eD D20_0_ 1 rfl))
  refine os st1 ?_
  refine OGo.fin X1 hlk (v := (some (.ref qv))) (fun h => by rw [hret] at h; cases h) (by decide) (by decide) (fun fs hr => X1.areturnOut hx rfl hret rfl (hb hby (eD D20_0_ 2 rfl)) hr) fun U eU hF => hΦ _ _ _ ?_ hF
  rw [eU, e1]
  show Q_rgn2 Z a qv h0 n0 _ _ _
  exact ⟨rfl, N0, rfl⟩

theorem ef_rgs (m : MethodId) (x0 : Addr) : entryFrame m #[(.ref x0)] 1 = mkF m 0 #[.val (.ref x0)] [] := by first | (simp [entryFrame, mkF, argsToLocals, Value.category]; done) | rfl
def Q_rgs (Z : State) (a : Addr) (qv : Int32) (h0 : Heap) (n0 : Nat) (v : Option Value) (h : Heap) (L : List Loc) : Prop := v = some (.int qv) ∧ Fr n0 L ∧ h = h0
theorem rgs (l : Launch) (Z : State) (a0 : Array Value) (hw : OHW Z a0) (ws : List Jvm.Cond) (a : Addr) (qv : Int32) (h0 : Heap) (n0 : Nat) (Z0 : n0 ≤ h0.size) (F_a : Fld Z h0 a s9_ "size" "I" (.int qv)) :
    OCon l Z (⟨s9_, "size", "()I"⟩ : MethodName) c24_ 1 (some .int) ws ({ frames := 0, cells := 0, slots := 0, locals := 0 } : Room) #[(.ref a)] h0 (Q_rgs Z a qv h0 n0) := by
  refine OCon.of (plainFor_of_name pn5) ?_
  intro p e s m below meth c s₁ Φ X0 hx hby hml hown hnm hret hlk hZ e0 hΦ
  have N0 := Fr.nil n0
  refine os (fun _ z => castTop (ef_rgs m a) z) ?_
  show OG p e below Φ s₁ m 0 #[rv a] []
  refine gAn X0 hx hby (eD D17_0_ 0 rfl) rfl rfl ?_
  obtain ⟨T1, X1, e1, st1⟩ := getF X0 hx hZ hown (host := "") (Or.inl (ow34 hw)) Via.refl e0 F_a (g := (mkF m 1 #[rv a] [(.ref a)])) rfl rfl (hb hby (eD D17_0_ 1 rfl))
  refine os st1 ?_
  refine OGo.fin X1 hlk (v := (some (.int qv))) (fun h => by rw [hret] at h; cases h) (by decide) (by decide) (fun fs hr => X1.ireturnOut hx hret rfl (by simp) (hb hby (eD D17_0_ 2 rfl)) hr) fun U eU hF => hΦ _ _ _ ?_ hF
  rw [eU, e1]
  show Q_rgs Z a qv h0 n0 _ _ _
  exact ⟨rfl, N0, rfl⟩

theorem ef_rgf (m : MethodId) (x0 : Addr) : entryFrame m #[(.ref x0)] 1 = mkF m 0 #[.val (.ref x0)] [] := by first | (simp [entryFrame, mkF, argsToLocals, Value.category]; done) | rfl
def Q_rgf (Z : State) (a : Addr) (qv : Int32) (h0 : Heap) (n0 : Nat) (v : Option Value) (h : Heap) (L : List Loc) : Prop := v = some (.int qv) ∧ Fr n0 L ∧ h = h0
theorem rgf (l : Launch) (Z : State) (a0 : Array Value) (hw : OHW Z a0) (ws : List Jvm.Cond) (a : Addr) (qv : Int32) (h0 : Heap) (n0 : Nat) (Z0 : n0 ≤ h0.size) (F_a : Fld Z h0 a s1_ "from" "I" (.int qv)) :
    OCon l Z (⟨s1_, "from", "()I"⟩ : MethodName) c39_ 1 (some .int) ws ({ frames := 0, cells := 0, slots := 0, locals := 0 } : Room) #[(.ref a)] h0 (Q_rgf Z a qv h0 n0) := by
  refine OCon.of (plainFor_of_name pn1) ?_
  intro p e s m below meth c s₁ Φ X0 hx hby hml hown hnm hret hlk hZ e0 hΦ
  have N0 := Fr.nil n0
  refine os (fun _ z => castTop (ef_rgf m a) z) ?_
  show OG p e below Φ s₁ m 0 #[rv a] []
  refine gAn X0 hx hby (eD D27_0_ 0 rfl) rfl rfl ?_
  obtain ⟨T1, X1, e1, st1⟩ := getF X0 hx hZ hown (host := "") (Or.inl (ow75 hw)) Via.refl e0 F_a (g := (mkF m 1 #[rv a] [(.ref a)])) rfl rfl (hb hby (eD D27_0_ 1 rfl))
  refine os st1 ?_
  refine OGo.fin X1 hlk (v := (some (.int qv))) (fun h => by rw [hret] at h; cases h) (by decide) (by decide) (fun fs hr => X1.ireturnOut hx hret rfl (by simp) (hb hby (eD D27_0_ 2 rfl)) hr) fun U eU hF => hΦ _ _ _ ?_ hF
  rw [eU, e1]
  show Q_rgf Z a qv h0 n0 _ _ _
  exact ⟨rfl, N0, rfl⟩

theorem ef_rgt (m : MethodId) (x0 : Addr) : entryFrame m #[(.ref x0)] 1 = mkF m 0 #[.val (.ref x0)] [] := by first | (simp [entryFrame, mkF, argsToLocals, Value.category]; done) | rfl
def Q_rgt (Z : State) (a : Addr) (qv : Int32) (h0 : Heap) (n0 : Nat) (v : Option Value) (h : Heap) (L : List Loc) : Prop := v = some (.int qv) ∧ Fr n0 L ∧ h = h0
theorem rgt (l : Launch) (Z : State) (a0 : Array Value) (hw : OHW Z a0) (ws : List Jvm.Cond) (a : Addr) (qv : Int32) (h0 : Heap) (n0 : Nat) (Z0 : n0 ≤ h0.size) (F_a : Fld Z h0 a s1_ "to" "I" (.int qv)) :
    OCon l Z (⟨s1_, "to", "()I"⟩ : MethodName) c40_ 1 (some .int) ws ({ frames := 0, cells := 0, slots := 0, locals := 0 } : Room) #[(.ref a)] h0 (Q_rgt Z a qv h0 n0) := by
  refine OCon.of (plainFor_of_name pn1) ?_
  intro p e s m below meth c s₁ Φ X0 hx hby hml hown hnm hret hlk hZ e0 hΦ
  have N0 := Fr.nil n0
  refine os (fun _ z => castTop (ef_rgt m a) z) ?_
  show OG p e below Φ s₁ m 0 #[rv a] []
  refine gAn X0 hx hby (eD D28_0_ 0 rfl) rfl rfl ?_
  obtain ⟨T1, X1, e1, st1⟩ := getF X0 hx hZ hown (host := "") (Or.inl (ow77 hw)) Via.refl e0 F_a (g := (mkF m 1 #[rv a] [(.ref a)])) rfl rfl (hb hby (eD D28_0_ 1 rfl))
  refine os st1 ?_
  refine OGo.fin X1 hlk (v := (some (.int qv))) (fun h => by rw [hret] at h; cases h) (by decide) (by decide) (fun fs hr => X1.ireturnOut hx hret rfl (by simp) (hb hby (eD D28_0_ 2 rfl)) hr) fun U eU hF => hΦ _ _ _ ?_ hF
  rw [eU, e1]
  show Q_rgt Z a qv h0 n0 _ _ _
  exact ⟨rfl, N0, rfl⟩

theorem ef_rgo (m : MethodId) (x0 : Addr) : entryFrame m #[(.ref x0)] 1 = mkF m 0 #[.val (.ref x0)] [] := by first | (simp [entryFrame, mkF, argsToLocals, Value.category]; done) | rfl
def Q_rgo (Z : State) (a : Addr) (qv : Int32) (h0 : Heap) (n0 : Nat) (v : Option Value) (h : Heap) (L : List Loc) : Prop := v = some (.int qv) ∧ Fr n0 L ∧ h = h0
theorem rgo (l : Launch) (Z : State) (a0 : Array Value) (hw : OHW Z a0) (ws : List Jvm.Cond) (a : Addr) (qv : Int32) (h0 : Heap) (n0 : Nat) (Z0 : n0 ≤ h0.size) (F_a : Fld Z h0 a s1_ "open" "Z" (.int qv)) (hqz : qv = 0 ∨ qv = 1) :
    OCon l Z (⟨s1_, "open", "()Z"⟩ : MethodName) c37_ 1 (some .boolean) ws ({ frames := 0, cells := 0, slots := 0, locals := 0 } : Room) #[(.ref a)] h0 (Q_rgo Z a qv h0 n0) := by
  refine OCon.of (plainFor_of_name pn1) ?_
  intro p e s m below meth c s₁ Φ X0 hx hby hml hown hnm hret hlk hZ e0 hΦ
  have N0 := Fr.nil n0
  refine os (fun _ z => castTop (ef_rgo m a) z) ?_
  show OG p e below Φ s₁ m 0 #[rv a] []
  refine gAn X0 hx hby (eD D26_0_ 0 rfl) rfl rfl ?_
  obtain ⟨T1, X1, e1, st1⟩ := getF X0 hx hZ hown (host := "") (Or.inl (ow85 hw)) Via.refl e0 F_a (g := (mkF m 1 #[rv a] [(.ref a)])) rfl rfl (hb hby (eD D26_0_ 1 rfl))
  refine os st1 ?_
  refine OGo.fin X1 hlk (v := (some (.int qv))) (fun h => by rw [hret] at h; cases h) (by decide) (by decide) (fun fs hr => X1.ireturnOut hx hret (own_nz hqz) (by simp) (hb hby (eD D26_0_ 2 rfl)) hr) fun U eU hF => hΦ _ _ _ ?_ hF
  rw [eU, e1]
  show Q_rgo Z a qv h0 n0 _ _ _
  exact ⟨rfl, N0, rfl⟩

def fillK_k5 (xs : List Int32) (xv : Int32) : Nat → Int32 → List Int32 → Option (List Int32)
  | 0 => fun _ _ => none
  | n + 1 => fun i5_2 z5_0 => (if i5_2 < (own_n xs) then (kst z5_0 i5_2 xv fun x3 => (fillK_k5 xs xv n) (i5_2 + 1) x3) else (some z5_0))
def fillK (xs : List Int32) (xv : Int32) : Option (List Int32) := fillK_k5 xs xv  12 (0 : Int32) xs
theorem pn7 : plainName "java/util/Arrays" = true := by first | (simp [plainName, overriddenIn]; done) | decide +kernel
theorem ef_rfi (m : MethodId) (x0 : Addr) (x1 : Int32) : entryFrame m #[(.ref x0), (.int x1)] 4 = mkF m 0 #[.val (.ref x0), .val (.int x1), o_, o_] [] := by first | (simp [entryFrame, mkF, argsToLocals, Value.category]; done) | rfl
def Q_rfi (Z : State) (a : Addr) (xs : List Int32) (xv : Int32) (t_ : List Int32) (h0 : Heap) (n0 : Nat) (v : Option Value) (h : Heap) (L : List Loc) : Prop := v = none ∧ Fr n0 L ∧ Keep h0 h [a] ∧ PA Z h a .int t_
theorem rfi (l : Launch) (Z : State) (a0 : Array Value) (hw : OHW Z a0) (ws : List Jvm.Cond) (a : Addr) (xs : List Int32) (xv : Int32) (t_ : List Int32) (h0 : Heap) (n0 : Nat) (Z0 : n0 ≤ h0.size) (P_a : PA Z h0 a .int xs) (g_a : n0 ≤ a) (hK0 : fillK xs xv = some t_) :
    OCon l Z (⟨"java/util/Arrays", "fill", "([II)V"⟩ : MethodName) c31_ 4 none ws ({ frames := 0, cells := 0, slots := 0, locals := 0 } : Room) #[(.ref a), (.int xv)] h0 (Q_rfi Z a xs xv t_ h0 n0) := by
  refine OCon.of (plainFor_of_name pn7) ?_
  intro p e s m below meth c s₁ Φ X0 hx hby hml hown hnm hret hlk hZ e0 hΦ
  have N0 := Fr.nil n0
  refine os (fun _ z => castTop (ef_rfi m a xv) z) ?_
  have K0 := Keep.refl h0 [a]
  have hK := hK0
  unfold fillK at hK
  show OG p e below Φ s₁ m 0 #[rv a, iv xv, o_, o_] []
  refine gIc (x := 0) X0 hx hby (eD D29_0_ 0 rfl) rfl ?_
  refine gIsn X0 hx hby (eD D29_0_ 1 rfl) (ls' := #[rv a, iv xv, iv 0, o_]) rfl ?_
  refine gAn X0 hx hby (eD D29_0_ 2 rfl) rfl rfl ?_
  obtain ⟨cl1, Aq1, S1, M1⟩ := PA.len P_a
  refine os (fun _ z => X0.arraylength hx (by rw [e0]; exact Aq1.1) (oia hZ Aq1.2.1) (g := (mkF m 3 #[rv a, iv xv, iv 0, o_] [(.ref a)])) rfl rfl (hb hby (eD D29_0_ 3 rfl)) _ z) ?_
  rw [len_of S1 M1]
  show OG p e below Φ s₁ m 4 #[rv a, iv xv, iv 0, o_] [(.int (own_n xs))]
  refine gIsn X0 hx hby (eD D29_0_ 4 rfl) (ls' := #[rv a, iv xv, iv 0, iv (own_n xs)]) rfl ?_
  show OG p e below Φ s₁ m 5 #[rv a, iv xv, iv 0, iv (own_n xs)] []
  have J5 : ∀ (nn5 : Nat) (i5_2 : Int32) (z5_0 : List Int32) (Tj5 : State) (hj5 : Heap) (Lj5 : List Loc), Stand p l e ({ frames := 0, cells := 0, slots := 0, locals := 0 } : Room) s m #[(.ref a), (.int xv)] below meth c Tj5 Lj5 0 0 → Tj5.heap = hj5 → Fr n0 Lj5 → n0 ≤ hj5.size → Keep h0 hj5 [a] → PA Z hj5 a .int z5_0 → fillK_k5 xs xv  nn5 i5_2 z5_0 = some t_ → OG p e below Φ Tj5 m 5 #[rv a, iv xv, iv i5_2, iv (own_n xs)] [] := by
   clear hK
   clear Aq1 S1 M1
   intro nn5
   induction nn5 with
   | zero => intro i5_2 z5_0 Tj5 hj5 Lj5 Xj5 ej5 Nj5 Zj5 Kj5 fj5_0 hK; exact (knone hK).elim
   | succ nn5 ih5 =>
    intro i5_2 z5_0 Tj5 hj5 Lj5 Xj5 ej5 Nj5 Zj5 Kj5 fj5_0 hK
    show OG p e below Φ Tj5 m 5 #[rv a, iv xv, iv i5_2, iv (own_n xs)] []
    refine gIn Xj5 hx hby (eD D29_0_ 5 rfl) rfl ?_
    refine gIn Xj5 hx hby (eD D29_0_ 6 rfl) rfl ?_
    by_cases hc2 : i5_2 < (own_n xs)
    replace hK := kif_t hc2 hK
    refine gCn Xj5 hx hby (eD D29_0_ 7 rfl) (XT.ii_ge_f hc2) ?_
    refine gAn Xj5 hx hby (eD D29_0_ 8 rfl) rfl rfl ?_
    refine gIn Xj5 hx hby (eD D29_0_ 9 rfl) rfl ?_
    refine gIn Xj5 hx hby (eD D29_0_ 10 rfl) rfl ?_
    replace hK := kst_some hK
    obtain ⟨x3, in3, ex3, hK⟩ := hK
    obtain ⟨cl3, Aq3, iq3, -⟩ := PA.get fj5_0 in3 rfl
    obtain ⟨T3, h3, X3, e3, W3, st3⟩ := stI Xj5 hx hZ ej5 Aq3 iq3 (g := (mkF m 13 #[rv a, iv xv, iv i5_2, iv (own_n xs)] [(.int xv), (.int i5_2), (.ref a)])) rfl rfl (hb hby (eD D29_0_ 11 rfl))
    have P3 := PA.set fj5_0 in3 W3 rfl ex3
    have K3 := Kj5.wr W3 (Or.inl (List.mem_of_getElem? (i := 0) rfl))
    have N3 := Fr.snoc X3 Nj5 g_a
    have Zs3 := ozw W3 Zj5
    refine os st3 ?_
    refine os (fun _ z => XS.iinc X3.here hx rfl (hb hby (eD D29_0_ 12 rfl)) rfl (l' := #[rv a, iv xv, iv (i5_2 + 1), iv (own_n xs)]) rfl z) ?_
    show OG p e below Φ T3 m 17 #[rv a, iv xv, iv (i5_2 + 1), iv (own_n xs)] []
    refine gGo (pc := 17) (pc' := 5) X3 hx hby (eD D29_0_ 13 rfl) (by decide) (by decide) ?_
    show OG p e below Φ T3 m 5 #[rv a, iv xv, iv (i5_2 + 1), iv (own_n xs)] []
    exact ih5 ((i5_2 + 1)) x3 _ _ _ X3 e3 N3 Zs3 K3 P3 hK
    replace hK := kif_f hc2 hK
    refine gCy (pc := 7) (pc' := 20) Xj5 hx hby (eD D29_0_ 7 rfl) (XT.ii_ge_t hc2) (by decide) (by decide) ?_
    refine OGo.fin Xj5 hlk (v := none) (fun _ => rfl) (by decide) (by decide) (fun fs hr => Xj5.returnOut hx hret (hb hby (eD D29_0_ 14 rfl)) hr) fun U eU hF => hΦ _ _ _ ?_ hF
    rw [eU, ej5]
    show Q_rfi Z a xs xv t_ h0 n0 _ _ _
    obtain rfl := Option.some.inj hK
    exact ⟨rfl, Nj5, Kj5, fj5_0⟩
  exact J5 12 ((0 : Int32)) xs _ _ _ X0 e0 N0 Z0 K0 P_a hK

def remK_k8 (xs : List Int32) (ts : List Int32) : Nat → Int32 → Option (Int32)
  | 0 => fun _ => none
  | n + 1 => fun i8_4 => (if i8_4 < (own_n xs) then (kld xs i8_4 fun v3 => kld ts v3 fun v4 => (if v4 = 0 then (some v3) else ((remK_k8 xs ts n) (i8_4 + 1)))) else (none))
def remK (xs : List Int32) (ts : List Int32) : Option (Int32) := remK_k8 xs ts  12 (0 : Int32)
theorem pn8 : plainName s4_ = true := by first | (simp [plainName, overriddenIn]; done) | decide +kernel
theorem ef_rre (m : MethodId) (x0 : Addr) (x1 : Addr) : entryFrame m #[(.ref x0), (.ref x1)] 6 = mkF m 0 #[.val (.ref x0), .val (.ref x1), o_, o_, o_, o_] [] := by first | (simp [entryFrame, mkF, argsToLocals, Value.category]; done) | rfl
def Q_rre (Z : State) (a : Addr) (b : Addr) (xs : List Int32) (ts : List Int32) (t_ : Int32) (h0 : Heap) (n0 : Nat) (v : Option Value) (h : Heap) (L : List Loc) : Prop := v = some (.int t_) ∧ Fr n0 L ∧ h = h0
theorem rre (l : Launch) (Z : State) (a0 : Array Value) (hw : OHW Z a0) (ws : List Jvm.Cond) (a : Addr) (b : Addr) (xs : List Int32) (ts : List Int32) (t_ : Int32) (h0 : Heap) (n0 : Nat) (Z0 : n0 ≤ h0.size) (P_a : PA Z h0 a .int xs) (P_b : PA Z h0 b .boolean ts) (hK0 : remK xs ts = some t_) :
    OCon l Z (⟨s4_, "remaining", "([I[Z)I"⟩ : MethodName) c42_ 6 (some .int) ws ({ frames := 0, cells := 0, slots := 0, locals := 0 } : Room) #[(.ref a), (.ref b)] h0 (Q_rre Z a b xs ts t_ h0 n0) := by
  refine OCon.of (plainFor_of_name pn8) ?_
  intro p e s m below meth c s₁ Φ X0 hx hby hml hown hnm hret hlk hZ e0 hΦ
  have N0 := Fr.nil n0
  refine os (fun _ z => castTop (ef_rre m a b) z) ?_
  have hK := hK0
  unfold remK at hK
  show OG p e below Φ s₁ m 0 #[rv a, rv b, o_, o_, o_, o_] []
  refine gAn X0 hx hby (eD D39_0_ 0 rfl) rfl rfl ?_
  refine gAsn X0 hx hby (eD D39_0_ 1 rfl) rfl (ls' := #[rv a, rv b, rv a, o_, o_, o_]) rfl ?_
  refine gAn X0 hx hby (eD D39_0_ 2 rfl) rfl rfl ?_
  obtain ⟨cl1, Aq1, S1, M1⟩ := PA.len P_a
  refine os (fun _ z => X0.arraylength hx (by rw [e0]; exact Aq1.1) (oia hZ Aq1.2.1) (g := (mkF m 3 #[rv a, rv b, rv a, o_, o_, o_] [(.ref a)])) rfl rfl (hb hby (eD D39_0_ 3 rfl)) _ z) ?_
  rw [len_of S1 M1]
  show OG p e below Φ s₁ m 4 #[rv a, rv b, rv a, o_, o_, o_] [(.int (own_n xs))]
  refine gIsn X0 hx hby (eD D39_0_ 4 rfl) (ls' := #[rv a, rv b, rv a, iv (own_n xs), o_, o_]) rfl ?_
  refine gIc (x := 0) X0 hx hby (eD D39_0_ 5 rfl) rfl ?_
  refine gIs X0 hx hby (eD D39_0_ 6 rfl) (ls' := #[rv a, rv b, rv a, iv (own_n xs), iv 0, o_]) rfl ?_
  show OG p e below Φ s₁ m 8 #[rv a, rv b, rv a, iv (own_n xs), iv 0, o_] []
  have J8 : ∀ (nn8 : Nat) (i8_4 : Int32) (s8_5 : Slot) (q8_5 : own_s1 s8_5) (Tj8 : State) (Lj8 : List Loc), Stand p l e ({ frames := 0, cells := 0, slots := 0, locals := 0 } : Room) s m #[(.ref a), (.ref b)] below meth c Tj8 Lj8 0 0 → Tj8.heap = h0 → Fr n0 Lj8 → remK_k8 xs ts  nn8 i8_4 = some t_ → OG p e below Φ Tj8 m 8 #[rv a, rv b, rv a, iv (own_n xs), iv i8_4, s8_5] [] := by
   clear hK
   clear Aq1 S1 M1
   intro nn8
   induction nn8 with
   | zero => intro i8_4 s8_5 q8_5 Tj8 Lj8 Xj8 ej8 Nj8 hK; exact (knone hK).elim
   | succ nn8 ih8 =>
    intro i8_4 s8_5 q8_5 Tj8 Lj8 Xj8 ej8 Nj8 hK
    show OG p e below Φ Tj8 m 8 #[rv a, rv b, rv a, iv (own_n xs), iv i8_4, s8_5] []
    refine gI Xj8 hx hby (eD D39_0_ 7 rfl) rfl ?_
    refine gIn Xj8 hx hby (eD D39_0_ 8 rfl) rfl ?_
    by_cases hc2 : i8_4 < (own_n xs)
    replace hK := kif_t hc2 hK
    refine gCn Xj8 hx hby (eD D39_0_ 9 rfl) (XT.ii_ge_f hc2) ?_
    refine gAn Xj8 hx hby (eD D39_0_ 10 rfl) rfl rfl ?_
    refine gI Xj8 hx hby (eD D39_0_ 11 rfl) rfl ?_
    replace hK := kld_some hK
    obtain ⟨v3, in3, ev3, hK⟩ := hK
    obtain ⟨cl3, Aq3, iq3, at3⟩ := PA.get P_a in3 ev3
    refine os (fun _ z => Xj8.iaload hx (by rw [ej8]; exact Aq3.1) (oia hZ Aq3.2.1) Aq3.2.2 iq3 at3 (g := (mkF m 17 #[rv a, rv b, rv a, iv (own_n xs), iv i8_4, s8_5] [(.int i8_4), (.ref a)])) rfl rfl (hb hby (eD D39_0_ 12 rfl)) _ z) ?_
    refine gIs Xj8 hx hby (eD D39_0_ 13 rfl) (ls' := #[rv a, rv b, rv a, iv (own_n xs), iv i8_4, iv v3]) (XS.store1 rfl q8_5 rfl) ?_
    refine gAn Xj8 hx hby (eD D39_0_ 14 rfl) rfl rfl ?_
    refine gI Xj8 hx hby (eD D39_0_ 15 rfl) rfl ?_
    replace hK := kld_some hK
    obtain ⟨v4, in4, ev4, hK⟩ := hK
    obtain ⟨cl4, Aq4, iq4, at4⟩ := PA.get P_b in4 ev4
    refine os (fun _ z => Xj8.baloadBooleans hx (by rw [ej8]; exact Aq4.1) (oia hZ Aq4.2.1) Aq4.2.2 iq4 at4 (g := (mkF m 23 #[rv a, rv b, rv a, iv (own_n xs), iv i8_4, iv v3] [(.int v3), (.ref b)])) rfl rfl (hb hby (eD D39_1_ 0 rfl)) _ z) ?_
    by_cases hc5 : v4 = 0
    replace hK := kif_t hc5 hK
    refine gFn Xj8 hx hby (eD D39_1_ 1 rfl) (XT.i0_ne_f hc5) ?_
    refine gI Xj8 hx hby (eD D39_1_ 2 rfl) rfl ?_
    refine OGo.fin Xj8 hlk (v := (some (.int v3))) (fun h => by rw [hret] at h; cases h) (by decide) (by decide) (fun fs hr => Xj8.ireturnOut hx hret rfl (by simp) (hb hby (eD D39_1_ 3 rfl)) hr) fun U eU hF => hΦ _ _ _ ?_ hF
    rw [eU, ej8]
    show Q_rre Z a b xs ts t_ h0 n0 _ _ _
    obtain rfl := Option.some.inj hK
    exact ⟨rfl, Nj8, rfl⟩
    replace hK := kif_f hc5 hK
    refine gFy (pc := 24) (pc' := 30) Xj8 hx hby (eD D39_1_ 1 rfl) (XT.i0_ne_t hc5) (by decide) (by decide) ?_
    refine os (fun _ z => XS.iinc Xj8.here hx rfl (hb hby (eD D39_1_ 4 rfl)) rfl (l' := #[rv a, rv b, rv a, iv (own_n xs), iv (i8_4 + 1), iv v3]) rfl z) ?_
    show OG p e below Φ Tj8 m 33 #[rv a, rv b, rv a, iv (own_n xs), iv (i8_4 + 1), iv v3] []
    refine gGo (pc := 33) (pc' := 8) Xj8 hx hby (eD D39_1_ 5 rfl) (by decide) (by decide) ?_
    show OG p e below Φ Tj8 m 8 #[rv a, rv b, rv a, iv (own_n xs), iv (i8_4 + 1), iv v3] []
    exact ih8 ((i8_4 + 1)) (iv v3) (Or.inr ⟨_, rfl, rfl⟩) _ _ Xj8 ej8 Nj8 hK
    replace hK := kif_f hc2 hK
    refine gCy (pc := 11) (pc' := 36) Xj8 hx hby (eD D39_0_ 9 rfl) (XT.ii_ge_t hc2) (by decide) (by decide) ?_
    show OG p e below Φ Tj8 m 36 #[rv a, rv b, rv a, iv (own_n xs), iv i8_4, s8_5] []
    exact (knone hK).elim
  exact J8 12 ((0 : Int32)) (o_) (Or.inl rfl) _ _ X0 e0 N0 hK

theorem pn9 : plainName "jdk/internal/util/Preconditions" = true := by first | (simp [plainName, overriddenIn]; done) | decide +kernel
theorem ef_rlcpi (m : MethodId) (x0 : Int32) (x1 : Int32) : entryFrame m #[(.int x0), (.int x1), .null] 3 = mkF m 0 #[.val (.int x0), .val (.int x1), .val .null] [] := by first | (simp [entryFrame, mkF, argsToLocals, Value.category]; done) | rfl
def Q_rlcpi (Z : State) (xi : Int32) (xn : Int32) (h0 : Heap) (n0 : Nat) (v : Option Value) (h : Heap) (L : List Loc) : Prop := v = some (.int xi) ∧ Fr n0 L ∧ h = h0
theorem rlcpi (l : Launch) (Z : State) (a0 : Array Value) (hw : OHW Z a0) (ws : List Jvm.Cond) (xi : Int32) (xn : Int32) (h0 : Heap) (n0 : Nat) (Z0 : n0 ≤ h0.size) (q0 : ¬ xi < 0) (q1 : xi < xn) :
    OCon l Z (⟨"jdk/internal/util/Preconditions", "checkIndex", "(IILjava/util/function/BiFunction;)I"⟩ : MethodName) c26_ 3 (some .int) ws ({ frames := 0, cells := 0, slots := 0, locals := 0 } : Room) #[(.int xi), (.int xn), .null] h0 (Q_rlcpi Z xi xn h0 n0) := by
  refine OCon.of (plainFor_of_name pn9) ?_
  intro p e s m below meth c s₁ Φ X0 hx hby hml hown hnm hret hlk hZ e0 hΦ
  have N0 := Fr.nil n0
  refine os (fun _ z => castTop (ef_rlcpi m xi xn) z) ?_
  show OG p e below Φ s₁ m 0 #[iv xi, iv xn, .val .null] []
  refine gIn X0 hx hby (eD D32_0_ 0 rfl) rfl ?_
  refine gFn X0 hx hby (eD D32_0_ 1 rfl) (XT.i0_lt_f q0) ?_
  refine gIn X0 hx hby (eD D32_0_ 2 rfl) rfl ?_
  refine gIn X0 hx hby (eD D32_0_ 3 rfl) rfl ?_
  refine gCy (pc := 6) (pc' := 16) X0 hx hby (eD D32_0_ 4 rfl) (XT.ii_lt_t q1) (by decide) (by decide) ?_
  refine gIn X0 hx hby (eD D32_0_ 5 rfl) rfl ?_
  refine OGo.fin X0 hlk (v := (some (.int xi))) (fun h => by rw [hret] at h; cases h) (by decide) (by decide) (fun fs hr => X0.ireturnOut hx hret rfl (by simp) (hb hby (eD D32_0_ 6 rfl)) hr) fun U eU hF => hΦ _ _ _ ?_ hF
  rw [eU, e0]
  show Q_rlcpi Z xi xn h0 n0 _ _ _
  exact ⟨rfl, N0, rfl⟩

theorem pn10 : plainName "java/util/Objects" = true := by first | (simp [plainName, overriddenIn]; done) | decide +kernel
theorem pd8 : parseMethodDescriptor "(IILjava/util/function/BiFunction;)I" = some ⟨[.int, .int, (.object "java/util/function/BiFunction")], some .int⟩ := by decide +kernel
theorem ef_rlcoi (m : MethodId) (x0 : Int32) (x1 : Int32) : entryFrame m #[(.int x0), (.int x1)] 2 = mkF m 0 #[.val (.int x0), .val (.int x1)] [] := by first | (simp [entryFrame, mkF, argsToLocals, Value.category]; done) | rfl
def Q_rlcoi (Z : State) (xi : Int32) (xn : Int32) (h0 : Heap) (n0 : Nat) (v : Option Value) (h : Heap) (L : List Loc) : Prop := v = some (.int xi) ∧ Fr n0 L ∧ h = h0
theorem rlcoi (l : Launch) (Z : State) (a0 : Array Value) (hw : OHW Z a0) (ws : List Jvm.Cond) (xi : Int32) (xn : Int32) (h0 : Heap) (n0 : Nat) (Z0 : n0 ≤ h0.size) (q0 : ¬ xi < 0) (q1 : xi < xn) :
    OCon l Z (⟨"java/util/Objects", "checkIndex", "(II)I"⟩ : MethodName) c13_ 2 (some .int) ws ({ frames := 1, cells := 0, slots := 0, locals := 14 } : Room) #[(.int xi), (.int xn)] h0 (Q_rlcoi Z xi xn h0 n0) := by
  refine OCon.of (plainFor_of_name pn10) ?_
  intro p e s m below meth c s₁ Φ X0 hx hby hml hown hnm hret hlk hZ e0 hΦ
  have N0 := Fr.nil n0
  refine os (fun _ z => castTop (ef_rlcoi m xi xn) z) ?_
  show OG p e below Φ s₁ m 0 #[iv xi, iv xn] []
  refine gIn X0 hx hby (eD D31_0_ 0 rfl) rfl ?_
  refine gIn X0 hx hby (eD D31_0_ 1 rfl) rfl ?_
  refine os (fun _ z => XS.aconstNull X0.here hx rfl (hb hby (eD D31_0_ 2 rfl)) z) ?_
  obtain ⟨_, T1, L1, X1, hQ1, st1⟩ := own_callSt X0 hx hZ hown (ow230 hw) (ow231 hw) (ow232 hw) (ow233 hw) (by decide) (rlcpi l Z a0 hw [] xi xn h0 n0 Z0 q0 q1) e0 (W := 0) (by decide) (pc := 3) (ls := #[iv xi, iv xn]) (stk := [.null, (.int xn), (.int xi)]) (by rw [hml]; rfl) (argsL := [(.int xi), (.int xn), .null]) (rest := []) (lenOf pd8 rfl) rfl rfl (Nat.le_of_eq rfl) (hb hby (eD D31_0_ 3 rfl))
  obtain ⟨rfl, Nq1, e1⟩ := hQ1
  have N1 := Fr.app N0 Nq1
  refine os st1 ?_
  refine OGo.fin X1 hlk (v := (some (.int xi))) (fun h => by rw [hret] at h; cases h) (by decide) (by decide) (fun fs hr => X1.ireturnOut hx hret rfl (by simp) (hb hby (eD D31_0_ 4 rfl)) hr) fun U eU hF => hΦ _ _ _ ?_ hF
  rw [eU, e1]
  show Q_rlcoi Z xi xn h0 n0 _ _ _
  exact ⟨rfl, N1, rfl⟩

theorem ef_rgel (m : MethodId) (x0 : Addr) (x1 : Int32) : entryFrame m #[(.ref x0), (.int x1)] 2 = mkF m 0 #[.val (.ref x0), .val (.int x1)] [] := by first | (simp [entryFrame, mkF, argsToLocals, Value.category]; done) | rfl
def Q_rgel (Z : State) (S : Addr → Prop) (a : Addr) (d : Addr) (mc : Int32) (ps : List (Int32 × Int32 × Int32)) (xi : Int32) (q : Int32 × Int32 × Int32) (h0 : Heap) (n0 : Nat) (v : Option Value) (h : Heap) (L : List Loc) : Prop := ∃ y, v = some (.ref y) ∧ Fr n0 L ∧ h = h0 ∧ PipeV Z h y q ∧ S y
theorem rgel (l : Launch) (Z : State) (a0 : Array Value) (hw : OHW Z a0) (ws : List Jvm.Cond) (S : Addr → Prop) (a : Addr) (d : Addr) (mc : Int32) (ps : List (Int32 × Int32 × Int32)) (xi : Int32) (q : Int32 × Int32 × Int32) (h0 : Heap) (n0 : Nat) (Z0 : n0 ≤ h0.size) (E_a : Exa Z h0 a s9_) (F_m : Fld Z h0 a s7_ "modCount" "I" (.int mc)) (F_s : Fld Z h0 a s9_ "size" "I" (.int (own_n ps))) (F_e : Fld Z h0 a s9_ "elementData" "[Ljava/lang/Object;" (.ref d)) (P_d : PD Z h0 S d ps) (hi : InB ps.length xi) (hq : ps.getD xi.toNatClampNeg own_pz = q) :
    OCon l Z (⟨s9_, "elementData", "(I)Ljava/lang/Object;"⟩ : MethodName) c16_ 2 (some (.object "java/lang/Object")) ws ({ frames := 0, cells := 0, slots := 0, locals := 0 } : Room) #[(.ref a), (.int xi)] h0 (Q_rgel Z S a d mc ps xi q h0 n0) := by
  refine OCon.of (plainFor_of_name pn5) ?_
  intro p e s m below meth c s₁ Φ X0 hx hby hml hown hnm hret hlk hZ e0 hΦ
  have N0 := Fr.nil n0
  refine os (fun _ z => castTop (ef_rgel m a xi) z) ?_
  show OG p e below Φ s₁ m 0 #[rv a, iv xi] []
  refine gAn X0 hx hby (eD D33_0_ 0 rfl) rfl rfl ?_
  obtain ⟨T1, X1, e1, st1⟩ := getF X0 hx hZ hown (host := "") (Or.inl (ow25 hw)) Via.refl e0 F_e (g := (mkF m 1 #[rv a, iv xi] [(.ref a)])) rfl rfl (hb hby (eD D33_0_ 1 rfl))
  refine os st1 ?_
  refine gIn X1 hx hby (eD D33_0_ 2 rfl) rfl ?_
  show OG p e below Φ T1 m 5 #[rv a, iv xi] [(.int xi), (.ref d)]
  obtain ⟨cl2, y2, Aq2, iq2, at2, Y2, s2⟩ := PD.at P_d hi hq
  refine os (fun _ z => X1.aaload hx (by rw [e1]; exact Aq2.1) (oia hZ Aq2.2.1) rfl Aq2.2.2 iq2 at2 (g := (mkF m 5 #[rv a, iv xi] [(.int xi), (.ref d)])) rfl rfl (hb hby (eD D33_0_ 3 rfl)) _ z) ?_
  refine OGo.fin X1 hlk (v := (some (.ref y2))) (fun h => by rw [hret] at h; cases h) (by decide) (by decide) (fun fs hr => X1.areturnOut hx rfl hret rfl (hb hby (eD D33_0_ 4 rfl)) hr) fun U eU hF => hΦ _ _ _ ?_ hF
  rw [eU, e1]
  show Q_rgel Z S a d mc ps xi q h0 n0 _ _ _
  exact ⟨_, rfl, N0, rfl, Y2, s2⟩

theorem pd9 : parseMethodDescriptor "(I)Ljava/lang/Object;" = some ⟨[.int], some (.object "java/lang/Object")⟩ := by decide +kernel
theorem ef_rget (m : MethodId) (x0 : Addr) (x1 : Int32) : entryFrame m #[(.ref x0), (.int x1)] 2 = mkF m 0 #[.val (.ref x0), .val (.int x1)] [] := by first | (simp [entryFrame, mkF, argsToLocals, Value.category]; done) | rfl
def Q_rget (Z : State) (S : Addr → Prop) (a : Addr) (d : Addr) (mc : Int32) (ps : List (Int32 × Int32 × Int32)) (xi : Int32) (q : Int32 × Int32 × Int32) (h0 : Heap) (n0 : Nat) (v : Option Value) (h : Heap) (L : List Loc) : Prop := ∃ y, v = some (.ref y) ∧ Fr n0 L ∧ h = h0 ∧ PipeV Z h y q ∧ S y
theorem rget (l : Launch) (Z : State) (a0 : Array Value) (hw : OHW Z a0) (ws : List Jvm.Cond) (S : Addr → Prop) (a : Addr) (d : Addr) (mc : Int32) (ps : List (Int32 × Int32 × Int32)) (xi : Int32) (q : Int32 × Int32 × Int32) (h0 : Heap) (n0 : Nat) (Z0 : n0 ≤ h0.size) (E_a : Exa Z h0 a s9_) (F_m : Fld Z h0 a s7_ "modCount" "I" (.int mc)) (F_s : Fld Z h0 a s9_ "size" "I" (.int (own_n ps))) (F_e : Fld Z h0 a s9_ "elementData" "[Ljava/lang/Object;" (.ref d)) (P_d : PD Z h0 S d ps) (hi : InB ps.length xi) (hq : ps.getD xi.toNatClampNeg own_pz = q) :
    OCon l Z (⟨s9_, "get", "(I)Ljava/lang/Object;"⟩ : MethodName) c17_ 2 (some (.object "java/lang/Object")) ws ({ frames := 2, cells := 0, slots := 0, locals := 27 } : Room) #[(.ref a), (.int xi)] h0 (Q_rget Z S a d mc ps xi q h0 n0) := by
  refine OCon.of (plainFor_of_name pn5) ?_
  intro p e s m below meth c s₁ Φ X0 hx hby hml hown hnm hret hlk hZ e0 hΦ
  have N0 := Fr.nil n0
  refine os (fun _ z => castTop (ef_rget m a xi) z) ?_
  show OG p e below Φ s₁ m 0 #[rv a, iv xi] []
  refine gIn X0 hx hby (eD D30_0_ 0 rfl) rfl ?_
  refine gAn X0 hx hby (eD D30_0_ 1 rfl) rfl rfl ?_
  obtain ⟨T1, X1, e1, st1⟩ := getF X0 hx hZ hown (host := "") (Or.inl (ow34 hw)) Via.refl e0 F_s (g := (mkF m 2 #[rv a, iv xi] [(.ref a), (.int xi)])) rfl rfl (hb hby (eD D30_0_ 2 rfl))
  refine os st1 ?_
  obtain ⟨_, T2, L2, X2, hQ2, st2⟩ := own_callSt X1 hx hZ hown (ow226 hw) (ow227 hw) (ow228 hw) (ow229 hw) (by decide) (rlcoi l Z a0 hw [] xi (own_n ps) h0 n0 Z0 (InB.lt hi P_d.1).1 (InB.lt hi P_d.1).2) e1 (W := 0) (by decide) (pc := 5) (ls := #[rv a, iv xi]) (stk := [(.int (own_n ps)), (.int xi)]) (by rw [hml]; rfl) (argsL := [(.int xi), (.int (own_n ps))]) (rest := []) (lenOf pd2 rfl) rfl rfl (Nat.le_of_eq rfl) (hb hby (eD D30_0_ 3 rfl))
  obtain ⟨rfl, Nq2, e2⟩ := hQ2
  have N2 := Fr.app N0 Nq2
  refine os st2 ?_
  refine os (fun _ z => XT.pop X2.here hx rfl (hb hby (eD D30_0_ 4 rfl)) rfl rfl z) ?_
  refine gAn X2 hx hby (eD D30_0_ 5 rfl) rfl rfl ?_
  refine gIn X2 hx hby (eD D30_0_ 6 rfl) rfl ?_
  obtain ⟨_, T3, L3, X3, hQ3, st3⟩ := own_callVi X2 hx hZ hown (ow234 hw) (ow235 hw) (notFace_of_selects (args := #[]) (mvT hZ (ow237 hw))) (ow237 hw) (ow236 hw) (ow3 hw) (ow238 hw) (by decide) (rgel l Z a0 hw [] S a d mc ps xi q h0 n0 Z0 E_a F_m F_s F_e P_d hi hq) e2 (W := 0) (by decide) E_a (pc := 11) (ls := #[rv a, iv xi]) (stk := [(.int xi), (.ref a)]) (by rw [hml]; rfl) (argsL := [(.int xi)]) (rest := []) (lenOf pd9 rfl) rfl rfl (Nat.le_of_eq rfl) (hb hby (eD D30_0_ 7 rfl))
  obtain ⟨y3, rfl, Nq3, e3, Y3, sy3⟩ := hQ3
  have N3 := Fr.app N2 Nq3
  rw [e3] at Y3
  refine os st3 ?_
  refine OGo.fin X3 hlk (v := (some (.ref y3))) (fun h => by rw [hret] at h; cases h) (by decide) (by decide) (fun fs hr => X3.areturnOut hx rfl hret rfl (hb hby (eD D30_0_ 8 rfl)) hr) fun U eU hF => hΦ _ _ _ ?_ hF
  rw [eU, e3]
  show Q_rget Z S a d mc ps xi q h0 n0 _ _ _
  exact ⟨_, rfl, N3, rfl, Y3, sy3⟩

def oeK (ps : List (Int32 × Int32 × Int32)) (xp : Int32) (xn : Int32) : Option (Int32) := kpp ps xp fun q2 => (if q2.1 = xn then (some q2.2.1) else (kas (q2.2.1 = xn) <| some q2.1))
theorem pd10 : parseMethodDescriptor "()Ljava/util/List;" = some ⟨[], some (.object s11_)⟩ := by decide +kernel
theorem pd11 : parseMethodDescriptor "()I" = some ⟨[], some .int⟩ := by decide +kernel
theorem ef_roe (m : MethodId) (x0 : Addr) (x1 : Int32) (x2 : Int32) : entryFrame m #[(.ref x0), (.int x1), (.int x2)] 4 = mkF m 0 #[.val (.ref x0), .val (.int x1), .val (.int x2), o_] [] := by first | (simp [entryFrame, mkF, argsToLocals, Value.category]; done) | rfl
def Q_roe (Z : State) (S : Addr → Prop) (net : Addr) (lj : Addr) (lr : Addr) (lp : Addr) (d : Addr) (mc : Int32) (ps : List (Int32 × Int32 × Int32)) (xp : Int32) (xn : Int32) (t_ : Int32) (h0 : Heap) (n0 : Nat) (v : Option Value) (h : Heap) (L : List Loc) : Prop := v = some (.int t_) ∧ Fr n0 L ∧ h = h0
theorem roe (l : Launch) (Z : State) (a0 : Array Value) (hw : OHW Z a0) (ws : List Jvm.Cond) (S : Addr → Prop) (net : Addr) (lj : Addr) (lr : Addr) (lp : Addr) (d : Addr) (mc : Int32) (ps : List (Int32 × Int32 × Int32)) (xp : Int32) (xn : Int32) (t_ : Int32) (h0 : Heap) (n0 : Nat) (Z0 : n0 ≤ h0.size) (N_p : NetP Z h0 S net lj lr lp d mc ps) (hK0 : oeK ps xp xn = some t_) :
    OCon l Z (⟨s4_, "otherEnd", "(Lcom/example/hydromeme/hydromeme/Network;II)I"⟩ : MethodName) c43_ 4 (some .int) ws ({ frames := 3, cells := 0, slots := 0, locals := 40 } : Room) #[(.ref net), (.int xp), (.int xn)] h0 (Q_roe Z S net lj lr lp d mc ps xp xn t_ h0 n0) := by
  refine OCon.of (plainFor_of_name pn8) ?_
  intro p e s m below meth c s₁ Φ X0 hx hby hml hown hnm hret hlk hZ e0 hΦ
  have N0 := Fr.nil n0
  refine os (fun _ z => castTop (ef_roe m net xp xn) z) ?_
  have hK := hK0
  unfold oeK at hK
  show OG p e below Φ s₁ m 0 #[rv net, iv xp, iv xn, o_] []
  refine gAn X0 hx hby (eD D38_0_ 0 rfl) rfl rfl ?_
  obtain ⟨_, T1, L1, X1, hQ1, st1⟩ := own_callVi X0 hx hZ hown (ow140 hw) (ow141 hw) (notFace_of_selects (args := #[]) (mvT hZ (ow143 hw))) (ow143 hw) (ow142 hw) (ow96 hw) (ow144 hw) (by decide) (rgn2 l Z a0 hw [] net lp h0 n0 Z0 N_p.2.2.2.2.1) e0 (W := 0) (by decide) N_p.2.1 (pc := 1) (ls := #[rv net, iv xp, iv xn, o_]) (stk := [(.ref net)]) (by rw [hml]; rfl) (argsL := []) (rest := []) (lenOf pd10 rfl) rfl rfl (Nat.le_of_eq rfl) (hb hby (eD D38_0_ 1 rfl))
  obtain ⟨rfl, Nq1, e1⟩ := hQ1
  have N1 := Fr.app N0 Nq1
  refine os st1 ?_
  refine gIn X1 hx hby (eD D38_0_ 2 rfl) rfl ?_
  replace hK := kpp_some hK
  obtain ⟨q2, in2, eq2, hK⟩ := hK
  obtain ⟨_, T2, L2, X2, hQ2, st2⟩ := own_callIf X1 hx hZ hown (ow218 hw) (ow219 hw) (mvT hZ (ow220 hw)) (ow221 hw) (ow222 hw) (ow223 hw) (ow224 hw) (ow129 hw) (ow3 hw) (ow225 hw) (by decide) (rget l Z a0 hw [] S lp d mc ps xp q2 h0 n0 Z0 N_p.2.2.2.2.2.2.2.2.2.1 N_p.2.2.2.2.2.2.2.2.2.2.1 N_p.2.2.2.2.2.2.2.2.2.2.2.1 N_p.2.2.2.2.2.2.2.2.2.2.2.2.1 N_p.2.2.2.2.2.2.2.2.2.2.2.2.2 in2 eq2) e1 (W := 0) (by decide) N_p.2.2.2.2.2.2.2.2.2.1 (pc := 5) (ls := #[rv net, iv xp, iv xn, o_]) (stk := [(.int xp), (.ref lp)]) (by rw [hml]; rfl) (argsL := [(.int xp)]) (rest := []) (lenOf pd9 rfl) rfl rfl (Nat.le_of_eq rfl) (hb hby (eD D38_0_ 3 rfl))
  obtain ⟨y2, rfl, Nq2, e2, Y2, sy2⟩ := hQ2
  have N2 := Fr.app N1 Nq2
  rw [e2] at Y2
  refine os st2 ?_
  obtain ⟨T3, X3, e3, st3⟩ := castY X2 hx hZ hown (ow194 hw) e2 (Ins.self Y2.1) (g := (mkF m 10 #[rv net, iv xp, iv xn, o_] [(.ref y2)])) rfl rfl (hb hby (eD D38_0_ 4 rfl))
  refine os st3 ?_
  refine gAsn X3 hx hby (eD D38_0_ 5 rfl) rfl (ls' := #[rv net, iv xp, iv xn, rv y2]) rfl ?_
  refine gAn X3 hx hby (eD D38_0_ 6 rfl) rfl rfl ?_
  obtain ⟨_, T4, L4, X4, hQ4, st4⟩ := own_callVi X3 hx hZ hown (ow201 hw) (ow202 hw) (notFace_of_selects (args := #[]) (mvT hZ (ow204 hw))) (ow204 hw) (ow203 hw) (ow63 hw) (ow205 hw) (by decide) (rgf l Z a0 hw [] y2 q2.1 h0 n0 Z0 Y2.2.1) e3 (W := 0) (by decide) Y2.1 (pc := 15) (ls := #[rv net, iv xp, iv xn, rv y2]) (stk := [(.ref y2)]) (by rw [hml]; rfl) (argsL := []) (rest := []) (lenOf pd11 rfl) rfl rfl (Nat.le_of_eq rfl) (hb hby (eD D38_0_ 7 rfl))
  obtain ⟨rfl, Nq4, e4⟩ := hQ4
  have N4 := Fr.app N2 Nq4
  refine os st4 ?_
  refine gIn X4 hx hby (eD D38_0_ 8 rfl) rfl ?_
  by_cases hc5 : q2.1 = xn
  replace hK := kif_t hc5 hK
  refine gCn X4 hx hby (eD D38_0_ 9 rfl) (XT.ii_ne_f hc5) ?_
  refine gAn X4 hx hby (eD D38_0_ 10 rfl) rfl rfl ?_
  obtain ⟨_, T6, L6, X6, hQ6, st6⟩ := own_callVi X4 hx hZ hown (ow206 hw) (ow207 hw) (notFace_of_selects (args := #[]) (mvT hZ (ow209 hw))) (ow209 hw) (ow208 hw) (ow63 hw) (ow210 hw) (by decide) (rgt l Z a0 hw [] y2 q2.2.1 h0 n0 Z0 Y2.2.2.1) e4 (W := 0) (by decide) Y2.1 (pc := 23) (ls := #[rv net, iv xp, iv xn, rv y2]) (stk := [(.ref y2)]) (by rw [hml]; rfl) (argsL := []) (rest := []) (lenOf pd11 rfl) rfl rfl (Nat.le_of_eq rfl) (hb hby (eD D38_0_ 11 rfl))
  obtain ⟨rfl, Nq6, e6⟩ := hQ6
  have N6 := Fr.app N4 Nq6
  refine os st6 ?_
  refine gGo (pc := 26) (pc' := 33) X6 hx hby (eD D38_0_ 12 rfl) (by decide) (by decide) ?_
  refine OGo.fin X6 hlk (v := (some (.int q2.2.1))) (fun h => by rw [hret] at h; cases h) (by decide) (by decide) (fun fs hr => X6.ireturnOut hx hret rfl (by simp) (hb hby (eD D38_0_ 13 rfl)) hr) fun U eU hF => hΦ _ _ _ ?_ hF
  rw [eU, e6]
  show Q_roe Z S net lj lr lp d mc ps xp xn t_ h0 n0 _ _ _
  obtain rfl := Option.some.inj hK
  exact ⟨rfl, N6, rfl⟩
  replace hK := kif_f hc5 hK
  refine gCy (pc := 19) (pc' := 29) X4 hx hby (eD D38_0_ 9 rfl) (XT.ii_ne_t hc5) (by decide) (by decide) ?_
  refine gAn X4 hx hby (eD D38_0_ 14 rfl) rfl rfl ?_
  obtain ⟨_, T7, L7, X7, hQ7, st7⟩ := own_callVi X4 hx hZ hown (ow201 hw) (ow202 hw) (notFace_of_selects (args := #[]) (mvT hZ (ow204 hw))) (ow204 hw) (ow203 hw) (ow63 hw) (ow205 hw) (by decide) (rgf l Z a0 hw [] y2 q2.1 h0 n0 Z0 Y2.2.1) e4 (W := 0) (by decide) Y2.1 (pc := 30) (ls := #[rv net, iv xp, iv xn, rv y2]) (stk := [(.ref y2)]) (by rw [hml]; rfl) (argsL := []) (rest := []) (lenOf pd11 rfl) rfl rfl (Nat.le_of_eq rfl) (hb hby (eD D38_0_ 15 rfl))
  obtain ⟨rfl, Nq7, e7⟩ := hQ7
  have N7 := Fr.app N4 Nq7
  refine os st7 ?_
  refine OGo.fin X7 hlk (v := (some (.int q2.1))) (fun h => by rw [hret] at h; cases h) (by decide) (by decide) (fun fs hr => X7.ireturnOut hx hret rfl (by simp) (hb hby (eD D38_0_ 13 rfl)) hr) fun U eU hF => hΦ _ _ _ ?_ hF
  rw [eU, e7]
  show Q_roe Z S net lj lr lp d mc ps xp xn t_ h0 n0 _ _ _
  replace hK := kas_some hK
  obtain ⟨-, hK⟩ := hK
  obtain rfl := Option.some.inj hK
  exact ⟨rfl, N7, rfl⟩

theorem pn11 : plainName s6_ = true := by first | (simp [plainName, overriddenIn]; done) | decide +kernel
theorem ef_riti (m : MethodId) (x0 : Addr) (x1 : Addr) : entryFrame m #[(.ref x0), (.ref x1)] 2 = mkF m 0 #[.val (.ref x0), .val (.ref x1)] [] := by first | (simp [entryFrame, mkF, argsToLocals, Value.category]; done) | rfl
def Q_riti (Z : State) (it : Addr) (a : Addr) (mc : Int32) (h0 : Heap) (n0 : Nat) (v : Option Value) (h : Heap) (L : List Loc) : Prop := v = none ∧ Fr n0 L ∧ Keep h0 h [it] ∧ Exa Z h it s6_ ∧ Fld Z h it s6_ "cursor" "I" (.int (0 : Int32)) ∧ Fld Z h it s6_ "lastRet" "I" (.int (-1 : Int32)) ∧ Fld Z h it s6_ "expectedModCount" "I" (.int mc) ∧ Fld Z h it s6_ "this$0" "Ljava/util/ArrayList;" (.ref a)
theorem riti (l : Launch) (Z : State) (a0 : Array Value) (hw : OHW Z a0) (ws : List Jvm.Cond) (it : Addr) (a : Addr) (mc : Int32) (h0 : Heap) (n0 : Nat) (Z0 : n0 ≤ h0.size) (E_i : Exa Z h0 it s6_) (g_i : n0 ≤ it) (I_c : Fld Z h0 it s6_ "cursor" "I" (.int (0 : Int32))) (I_l : Fld Z h0 it s6_ "lastRet" "I" (.int (0 : Int32))) (I_e : Fld Z h0 it s6_ "expectedModCount" "I" (.int (0 : Int32))) (I_t : Fld Z h0 it s6_ "this$0" "Ljava/util/ArrayList;" .null) (F_m : Fld Z h0 a s7_ "modCount" "I" (.int mc)) (nai : a ≠ it) :
    OCon l Z (⟨s6_, "<init>", "(Ljava/util/ArrayList;)V"⟩ : MethodName) c27_ 2 none ws ({ frames := 1, cells := 0, slots := 0, locals := 12 } : Room) #[(.ref it), (.ref a)] h0 (Q_riti Z it a mc h0 n0) := by
  refine OCon.of (plainFor_of_name pn11) ?_
  intro p e s m below meth c s₁ Φ X0 hx hby hml hown hnm hret hlk hZ e0 hΦ
  have N0 := Fr.nil n0
  refine os (fun _ z => castTop (ef_riti m it a) z) ?_
  have K0 := Keep.refl h0 [it]
  show OG p e below Φ s₁ m 0 #[rv it, rv a] []
  refine gAn X0 hx hby (eD D22_0_ 0 rfl) rfl rfl ?_
  refine gAn X0 hx hby (eD D22_0_ 1 rfl) rfl rfl ?_
  obtain ⟨T1, h1, X1, e1, W1, st1⟩ := putF X0 hx hZ hown (host := "") (Or.inl (ow160 hw)) Via.refl e0 I_t E_i (Or.inr ⟨(ow161 hw), rfl, hnm⟩) (ow154 hw) (ty := (.object s9_)) (by decide) rfl rfl (g := (mkF m 2 #[rv it, rv a] [(.ref a), (.ref it)])) rfl rfl (hb hby (eD D22_0_ 2 rfl))
  have F2 := E_i.wr W1
  have F3 := I_c.other W1 (Or.inr (slot_ne (Or.inl (ow178 hw)) (Or.inr (ow161 hw)) (by decide) (t := .int) (t' := (.object s9_)) (by decide) (by decide)))
  have F4 := I_l.other W1 (Or.inr (slot_ne (Or.inl (ow164 hw)) (Or.inr (ow161 hw)) (by decide) (t := .int) (t' := (.object s9_)) (by decide) (by decide)))
  have F5 := I_e.other W1 (Or.inr (slot_ne (Or.inl (ow167 hw)) (Or.inr (ow161 hw)) (by decide) (t := .int) (t' := (.object s9_)) (by decide) (by decide)))
  have F6 := I_t.same W1
  have F7 := F_m.other W1 (Or.inl nai)
  have K1 := K0.wr W1 (Or.inl (List.mem_of_getElem? (i := 0) rfl))
  have N1 := Fr.snoc X1 N0 g_i
  have Zs1 := ozw W1 Z0
  refine os st1 ?_
  refine gAn X1 hx hby (eD D22_0_ 3 rfl) rfl rfl ?_
  obtain ⟨T8, X8, e8, st8⟩ := initO X1 hx hZ hown (ow162 hw) (ow20 hw) (ow21 hw) e1 (g := (mkF m 6 #[rv it, rv a] [(.ref it)])) rfl (by rw [hml]; rfl) rfl (hb hby (eD D22_0_ 4 rfl)) (by decide) (W := 0) (Nat.le_of_eq rfl) (by decide)
  refine os st8 ?_
  refine gAn X8 hx hby (eD D22_0_ 5 rfl) rfl rfl ?_
  refine gIc (x := -1) X8 hx hby (eD D22_0_ 6 rfl) rfl ?_
  obtain ⟨T9, h9, X9, e9, W9, st9⟩ := putF X8 hx hZ hown (host := "") (Or.inl (ow163 hw)) Via.refl e8 F4 F2 (Or.inl (ow164 hw)) (ow154 hw) (ty := .int) (by decide) rfl rfl (g := (mkF m 11 #[rv it, rv a] [(.int (-1)), (.ref it)])) rfl rfl (hb hby (eD D22_0_ 7 rfl))
  have F10 := F2.wr W9
  have F11 := F3.other W9 (Or.inr (slot_ne (Or.inl (ow178 hw)) (Or.inl (ow164 hw)) (by decide) (t := .int) (t' := .int) (by decide) (by decide)))
  have F12 := F4.same W9
  have F13 := F5.other W9 (Or.inr (slot_ne (Or.inl (ow167 hw)) (Or.inl (ow164 hw)) (by decide) (t := .int) (t' := .int) (by decide) (by decide)))
  have F14 := F6.other W9 (Or.inr (slot_ne (Or.inr (ow161 hw)) (Or.inl (ow164 hw)) (by decide) (t := (.object s9_)) (t' := .int) (by decide) (by decide)))
  have F15 := F7.other W9 (Or.inl nai)
  have K9 := K1.wr W9 (Or.inl (List.mem_of_getElem? (i := 0) rfl))
  have N9 := Fr.snoc X9 N1 g_i
  have Zs9 := ozw W9 Zs1
  refine os st9 ?_
  refine gAn X9 hx hby (eD D22_0_ 8 rfl) rfl rfl ?_
  refine gAn X9 hx hby (eD D22_0_ 9 rfl) rfl rfl ?_
  obtain ⟨T16, X16, e16, st16⟩ := getF X9 hx hZ hown (host := "") (Or.inl (ow160 hw)) Via.refl e9 F14 (g := (mkF m 16 #[rv it, rv a] [(.ref it), (.ref it)])) rfl rfl (hb hby (eD D22_0_ 10 rfl))
  refine os st16 ?_
  obtain ⟨T17, X17, e17, st17⟩ := getF X16 hx hZ hown (host := "") (Or.inl (ow165 hw)) (Via.of (ow33 hw)) e16 F15 (g := (mkF m 19 #[rv it, rv a] [(.ref a), (.ref it)])) rfl rfl (hb hby (eD D22_0_ 11 rfl))
  refine os st17 ?_
  obtain ⟨T18, h18, X18, e18, W18, st18⟩ := putF X17 hx hZ hown (host := "") (Or.inl (ow166 hw)) Via.refl e17 F13 F10 (Or.inl (ow167 hw)) (ow154 hw) (ty := .int) (by decide) rfl rfl (g := (mkF m 22 #[rv it, rv a] [(.int mc), (.ref it)])) rfl rfl (hb hby (eD D22_0_ 12 rfl))
  have F19 := F10.wr W18
  have F20 := F11.other W18 (Or.inr (slot_ne (Or.inl (ow178 hw)) (Or.inl (ow167 hw)) (by decide) (t := .int) (t' := .int) (by decide) (by decide)))
  have F21 := F12.other W18 (Or.inr (slot_ne (Or.inl (ow164 hw)) (Or.inl (ow167 hw)) (by decide) (t := .int) (t' := .int) (by decide) (by decide)))
  have F22 := F13.same W18
  have F23 := F14.other W18 (Or.inr (slot_ne (Or.inr (ow161 hw)) (Or.inl (ow167 hw)) (by decide) (t := (.object s9_)) (t' := .int) (by decide) (by decide)))
  have F24 := F15.other W18 (Or.inl nai)
  have K18 := K9.wr W18 (Or.inl (List.mem_of_getElem? (i := 0) rfl))
  have N18 := Fr.snoc X18 N9 g_i
  have Zs18 := ozw W18 Zs9
  refine os st18 ?_
  refine OGo.fin X18 hlk (v := none) (fun _ => rfl) (by decide) (by decide) (fun fs hr => X18.returnOut hx hret (hb hby (eD D22_0_ 13 rfl)) hr) fun U eU hF => hΦ _ _ _ ?_ hF
  rw [eU, e18]
  show Q_riti Z it a mc h0 n0 _ _ _
  exact ⟨rfl, N18, K18, F19, F20, F21, F22, F23⟩

theorem pd12 : parseMethodDescriptor "(Ljava/util/ArrayList;)V" = some ⟨[(.object s9_)], none⟩ := by decide +kernel
theorem ef_rit (m : MethodId) (x0 : Addr) : entryFrame m #[(.ref x0)] 1 = mkF m 0 #[.val (.ref x0)] [] := by first | (simp [entryFrame, mkF, argsToLocals, Value.category]; done) | rfl
def Q_rit (Z : State) (a : Addr) (mc : Int32) (h0 : Heap) (n0 : Nat) (v : Option Value) (h : Heap) (L : List Loc) : Prop := ∃ it, v = some (.ref it) ∧ Fr n0 L ∧ Keep h0 h [] ∧ Exa Z h it s6_ ∧ Fld Z h it s6_ "cursor" "I" (.int (0 : Int32)) ∧ Fld Z h it s6_ "lastRet" "I" (.int (-1 : Int32)) ∧ Fld Z h it s6_ "expectedModCount" "I" (.int mc) ∧ Fld Z h it s6_ "this$0" "Ljava/util/ArrayList;" (.ref a) ∧ h0.size ≤ it
theorem rit (l : Launch) (Z : State) (a0 : Array Value) (hw : OHW Z a0) (ws : List Jvm.Cond) (a : Addr) (mc : Int32) (h0 : Heap) (n0 : Nat) (Z0 : n0 ≤ h0.size) (F_m : Fld Z h0 a s7_ "modCount" "I" (.int mc)) :
    OCon l Z (⟨s9_, "iterator", "()Ljava/util/Iterator;"⟩ : MethodName) c21_ 1 (some (.object s10_)) ws ({ frames := 2, cells := 1, slots := 4, locals := 26 } : Room) #[(.ref a)] h0 (Q_rit Z a mc h0 n0) := by
  refine OCon.of (plainFor_of_name pn5) ?_
  intro p e s m below meth c s₁ Φ X0 hx hby hml hown hnm hret hlk hZ e0 hΦ
  have N0 := Fr.nil n0
  refine os (fun _ z => castTop (ef_rit m a) z) ?_
  have K0 := Keep.refl h0 []
  show OG p e below Φ s₁ m 0 #[rv a] []
  obtain ⟨T1, h1, X1, e1, E1, A1, D1, U1, st1⟩ := newO X0 hx hZ hown (ow153 hw) (ow154 hw) (ow155 hw) e0 (g := (mkF m 0 #[rv a] [])) rfl (hb hby (eD D21_0_ 0 rfl)) (by decide) (by decide)
  obtain ⟨b1, g1⟩ : ∃ z, z = h0.size := ⟨_, rfl⟩
  rw [← g1] at A1 D1 st1 U1
  have ne1_a := one_ g1 F_m.lt
  have F2 := F_m.ext E1
  have gb1 := Nat.le_trans Z0 (Nat.le_of_eq g1.symm)
  have K1 := K0.ext E1
  have sz1 := Nat.le_trans K0.1 (Nat.le_of_eq g1.symm)
  have Zs1 := Nat.le_trans Z0 E1.1
  have F1_161 : Fld Z h1 b1 s6_ "this$0" "Ljava/util/ArrayList;" .null := D1 (Or.inr (ow161 hw)) (ty := (.object s9_)) (by decide)
  have F1_164 : Fld Z h1 b1 s6_ "lastRet" "I" (.int (0 : Int32)) := D1 (Or.inl (ow164 hw)) (ty := .int) (by decide)
  have F1_167 : Fld Z h1 b1 s6_ "expectedModCount" "I" (.int (0 : Int32)) := D1 (Or.inl (ow167 hw)) (ty := .int) (by decide)
  have F1_178 : Fld Z h1 b1 s6_ "cursor" "I" (.int (0 : Int32)) := D1 (Or.inl (ow178 hw)) (ty := .int) (by decide)
  refine os (st1) ?_
  show OG p e below Φ T1 m 3 #[rv a] [(.ref b1)]
  refine gDu X1 hx hby (eD D21_0_ 1 rfl) rfl ?_
  refine gAn X1 hx hby (eD D21_0_ 2 rfl) rfl rfl ?_
  obtain ⟨_, T3, L3, X3, hQ3, st3⟩ := own_callSp X1 hx hZ rfl hown (ow156 hw) (ow157 hw) (ow155 hw) (ow159 hw) (by decide) (riti l Z a0 hw [] b1 a mc h1 n0 Zs1 A1 gb1 F1_178 F1_164 F1_167 F1_161 F2 ne1_a) e1 (W := 1) (by decide) (pc := 5) (ls := #[rv a]) (stk := [(.ref a), (.ref b1), (.ref b1)]) (by rw [hml]; rfl) (a := b1) (argsL := [(.ref a)]) (rest := [(.ref b1)]) (lenOf pd12 rfl) rfl rfl (Nat.le_of_eq rfl) (hb hby (eD D21_0_ 3 rfl))
  obtain ⟨rfl, Nq3, Kq3, Eq3, I_c3, I_l3, I_e3, I_t3⟩ := hQ3
  have N3 := Fr.app N0 Nq3
  have Zs3 := Nat.le_trans Zs1 Kq3.1
  have F4 := F2.keep Kq3 (ninS ne1_a nin0)
  have K3 := K1.trans Kq3 (allS (Or.inr sz1) all0)
  refine os st3 ?_
  refine OGo.fin X3 hlk (v := (some (.ref b1))) (fun h => by rw [hret] at h; cases h) (by decide) (by decide) (fun fs hr => X3.areturnOut hx rfl hret rfl (hb hby (eD D21_0_ 4 rfl)) hr) fun U eU hF => hΦ _ _ _ ?_ hF
  rw [eU]
  show Q_rit Z a mc h0 n0 _ _ _
  exact ⟨_, rfl, N3, K3, Eq3, I_c3, I_l3, I_e3, I_t3, sz1⟩

theorem ef_rihn (m : MethodId) (x0 : Addr) : entryFrame m #[(.ref x0)] 1 = mkF m 0 #[.val (.ref x0)] [] := by first | (simp [entryFrame, mkF, argsToLocals, Value.category]; done) | rfl
def Q_rihn (Z : State) (it : Addr) (a : Addr) (xi : Int32) (xn : Int32) (h0 : Heap) (n0 : Nat) (v : Option Value) (h : Heap) (L : List Loc) : Prop := v = some (.int (own_hn xi xn)) ∧ Fr n0 L ∧ h = h0
theorem rihn (l : Launch) (Z : State) (a0 : Array Value) (hw : OHW Z a0) (ws : List Jvm.Cond) (it : Addr) (a : Addr) (xi : Int32) (xn : Int32) (h0 : Heap) (n0 : Nat) (Z0 : n0 ≤ h0.size) (I_c : Fld Z h0 it s6_ "cursor" "I" (.int xi)) (I_t : Fld Z h0 it s6_ "this$0" "Ljava/util/ArrayList;" (.ref a)) (F_s : Fld Z h0 a s9_ "size" "I" (.int xn)) :
    OCon l Z (⟨s6_, "hasNext", "()Z"⟩ : MethodName) c28_ 1 (some .boolean) ws ({ frames := 0, cells := 0, slots := 0, locals := 0 } : Room) #[(.ref it)] h0 (Q_rihn Z it a xi xn h0 n0) := by
  refine OCon.of (plainFor_of_name pn11) ?_
  intro p e s m below meth c s₁ Φ X0 hx hby hml hown hnm hret hlk hZ e0 hΦ
  have N0 := Fr.nil n0
  refine os (fun _ z => castTop (ef_rihn m it) z) ?_
  show OG p e below Φ s₁ m 0 #[rv it] []
  refine gAn X0 hx hby (eD D23_0_ 0 rfl) rfl rfl ?_
  obtain ⟨T1, X1, e1, st1⟩ := getF X0 hx hZ hown (host := "") (Or.inl (ow177 hw)) Via.refl e0 I_c (g := (mkF m 1 #[rv it] [(.ref it)])) rfl rfl (hb hby (eD D23_0_ 1 rfl))
  refine os st1 ?_
  refine gAn X1 hx hby (eD D23_0_ 2 rfl) rfl rfl ?_
  obtain ⟨T2, X2, e2, st2⟩ := getF X1 hx hZ hown (host := "") (Or.inl (ow160 hw)) Via.refl e1 I_t (g := (mkF m 5 #[rv it] [(.ref it), (.int xi)])) rfl rfl (hb hby (eD D23_0_ 3 rfl))
  refine os st2 ?_
  obtain ⟨T3, X3, e3, st3⟩ := getF X2 hx hZ hown (host := s9_) (Or.inr (ow179 hw)) Via.refl e2 F_s (g := (mkF m 8 #[rv it] [(.ref a), (.int xi)])) rfl rfl (hb hby (eD D23_0_ 4 rfl))
  refine os st3 ?_
  by_cases hc4 : xi = xn
  · refine gCy (pc := 11) (pc' := 18) X3 hx hby (eD D23_0_ 5 rfl) (XT.ii_eq_t hc4) (by decide) (by decide) ?_
    refine gIc (x := 0) X3 hx hby (eD D23_0_ 6 rfl) rfl ?_
    refine OGo.fin X3 hlk (v := (some (.int 0))) (fun h => by rw [hret] at h; cases h) (by decide) (by decide) (fun fs hr => X3.ireturnOut hx hret rfl (by simp) (hb hby (eD D23_0_ 7 rfl)) hr) fun U eU hF => hΦ _ _ _ ?_ hF
    rw [eU, e3]
    show Q_rihn Z it a xi xn h0 n0 _ _ _
    exact ⟨by simp [own_hn, hc4], N0, rfl⟩
  · refine gCn X3 hx hby (eD D23_0_ 5 rfl) (XT.ii_eq_f hc4) ?_
    refine gIc (x := 1) X3 hx hby (eD D23_0_ 8 rfl) rfl ?_
    refine gGo (pc := 15) (pc' := 19) X3 hx hby (eD D23_0_ 9 rfl) (by decide) (by decide) ?_
    refine OGo.fin X3 hlk (v := (some (.int 1))) (fun h => by rw [hret] at h; cases h) (by decide) (by decide) (fun fs hr => X3.ireturnOut hx hret rfl (by simp) (hb hby (eD D23_0_ 7 rfl)) hr) fun U eU hF => hΦ _ _ _ ?_ hF
    rw [eU, e3]
    show Q_rihn Z it a xi xn h0 n0 _ _ _
    exact ⟨by simp [own_hn, hc4], N0, rfl⟩

theorem ef_ricc (m : MethodId) (x0 : Addr) : entryFrame m #[(.ref x0)] 1 = mkF m 0 #[.val (.ref x0)] [] := by first | (simp [entryFrame, mkF, argsToLocals, Value.category]; done) | rfl
def Q_ricc (Z : State) (it : Addr) (a : Addr) (mc : Int32) (h0 : Heap) (n0 : Nat) (v : Option Value) (h : Heap) (L : List Loc) : Prop := v = none ∧ Fr n0 L ∧ h = h0
theorem ricc (l : Launch) (Z : State) (a0 : Array Value) (hw : OHW Z a0) (ws : List Jvm.Cond) (it : Addr) (a : Addr) (mc : Int32) (h0 : Heap) (n0 : Nat) (Z0 : n0 ≤ h0.size) (I_e : Fld Z h0 it s6_ "expectedModCount" "I" (.int mc)) (I_t : Fld Z h0 it s6_ "this$0" "Ljava/util/ArrayList;" (.ref a)) (F_m : Fld Z h0 a s7_ "modCount" "I" (.int mc)) :
    OCon l Z (⟨s6_, "checkForComodification", "()V"⟩ : MethodName) c30_ 1 none ws ({ frames := 0, cells := 0, slots := 0, locals := 0 } : Room) #[(.ref it)] h0 (Q_ricc Z it a mc h0 n0) := by
  refine OCon.of (plainFor_of_name pn11) ?_
  intro p e s m below meth c s₁ Φ X0 hx hby hml hown hnm hret hlk hZ e0 hΦ
  have N0 := Fr.nil n0
  refine os (fun _ z => castTop (ef_ricc m it) z) ?_
  show OG p e below Φ s₁ m 0 #[rv it] []
  refine gAn X0 hx hby (eD D25_0_ 0 rfl) rfl rfl ?_
  obtain ⟨T1, X1, e1, st1⟩ := getF X0 hx hZ hown (host := "") (Or.inl (ow160 hw)) Via.refl e0 I_t (g := (mkF m 1 #[rv it] [(.ref it)])) rfl rfl (hb hby (eD D25_0_ 1 rfl))
  refine os st1 ?_
  obtain ⟨T2, X2, e2, st2⟩ := getF X1 hx hZ hown (host := "") (Or.inl (ow165 hw)) (Via.of (ow33 hw)) e1 F_m (g := (mkF m 4 #[rv it] [(.ref a)])) rfl rfl (hb hby (eD D25_0_ 2 rfl))
  refine os st2 ?_
  refine gAn X2 hx hby (eD D25_0_ 3 rfl) rfl rfl ?_
  obtain ⟨T3, X3, e3, st3⟩ := getF X2 hx hZ hown (host := "") (Or.inl (ow166 hw)) Via.refl e2 I_e (g := (mkF m 8 #[rv it] [(.ref it), (.int mc)])) rfl rfl (hb hby (eD D25_0_ 4 rfl))
  refine os st3 ?_
  refine gCy (pc := 11) (pc' := 22) X3 hx hby (eD D25_0_ 5 rfl) (XT.ii_eq_t rfl) (by decide) (by decide) ?_
  refine OGo.fin X3 hlk (v := none) (fun _ => rfl) (by decide) (by decide) (fun fs hr => X3.returnOut hx hret (hb hby (eD D25_0_ 6 rfl)) hr) fun U eU hF => hΦ _ _ _ ?_ hF
  rw [eU, e3]
  show Q_ricc Z it a mc h0 n0 _ _ _
  exact ⟨rfl, N0, rfl⟩

theorem ef_rinx (m : MethodId) (x0 : Addr) : entryFrame m #[(.ref x0)] 3 = mkF m 0 #[.val (.ref x0), o_, o_] [] := by first | (simp [entryFrame, mkF, argsToLocals, Value.category]; done) | rfl
def Q_rinx (Z : State) (S : Addr → Prop) (it : Addr) (a : Addr) (d : Addr) (xi : Int32) (xl : Int32) (mc : Int32) (ps : List (Int32 × Int32 × Int32)) (q : Int32 × Int32 × Int32) (h0 : Heap) (n0 : Nat) (v : Option Value) (h : Heap) (L : List Loc) : Prop := ∃ y, v = some (.ref y) ∧ Fr n0 L ∧ Keep h0 h [it] ∧ Exa Z h it s6_ ∧ Fld Z h it s6_ "cursor" "I" (.int (xi + 1)) ∧ Fld Z h it s6_ "lastRet" "I" (.int xi) ∧ Fld Z h it s6_ "expectedModCount" "I" (.int mc) ∧ Fld Z h it s6_ "this$0" "Ljava/util/ArrayList;" (.ref a) ∧ PipeV Z h y q ∧ S y
theorem rinx (l : Launch) (Z : State) (a0 : Array Value) (hw : OHW Z a0) (ws : List Jvm.Cond) (S : Addr → Prop) (it : Addr) (a : Addr) (d : Addr) (xi : Int32) (xl : Int32) (mc : Int32) (ps : List (Int32 × Int32 × Int32)) (q : Int32 × Int32 × Int32) (h0 : Heap) (n0 : Nat) (Z0 : n0 ≤ h0.size) (E_i : Exa Z h0 it s6_) (g_i : n0 ≤ it) (I_c : Fld Z h0 it s6_ "cursor" "I" (.int xi)) (I_l : Fld Z h0 it s6_ "lastRet" "I" (.int xl)) (I_e : Fld Z h0 it s6_ "expectedModCount" "I" (.int mc)) (I_t : Fld Z h0 it s6_ "this$0" "Ljava/util/ArrayList;" (.ref a)) (F_m : Fld Z h0 a s7_ "modCount" "I" (.int mc)) (F_s : Fld Z h0 a s9_ "size" "I" (.int (own_n ps))) (F_e : Fld Z h0 a s9_ "elementData" "[Ljava/lang/Object;" (.ref d)) (P_d : PD Z h0 S d ps) (hi : InB ps.length xi) (hq : ps.getD xi.toNatClampNeg own_pz = q) (nsi : ¬ S it) (nai : a ≠ it) :
    OCon l Z (⟨s6_, "next", "()Ljava/lang/Object;"⟩ : MethodName) c29_ 3 (some (.object "java/lang/Object")) ws ({ frames := 1, cells := 0, slots := 0, locals := 12 } : Room) #[(.ref it)] h0 (Q_rinx Z S it a d xi xl mc ps q h0 n0) := by
  refine OCon.of (plainFor_of_name pn11) ?_
  intro p e s m below meth c s₁ Φ X0 hx hby hml hown hnm hret hlk hZ e0 hΦ
  have N0 := Fr.nil n0
  refine os (fun _ z => castTop (ef_rinx m it) z) ?_
  have K0 := Keep.refl h0 [it]
  have lt1 := (InB.lt hi P_d.1).2
  have lt2 := InB.lt10 hi P_d.1
  show OG p e below Φ s₁ m 0 #[rv it, o_, o_] []
  refine gAn X0 hx hby (eD D24_0_ 0 rfl) rfl rfl ?_
  obtain ⟨_, T1, L1, X1, hQ1, st1⟩ := own_callVi X0 hx hZ hown (ow188 hw) (ow189 hw) (notFace_of_selects (args := #[]) (mvT hZ (ow191 hw))) (ow191 hw) (ow190 hw) (ow155 hw) (ow192 hw) (by decide) (ricc l Z a0 hw [] it a mc h0 n0 Z0 I_e I_t F_m) e0 (W := 0) (by decide) E_i (pc := 1) (ls := #[rv it, o_, o_]) (stk := [(.ref it)]) (by rw [hml]; rfl) (argsL := []) (rest := []) (lenOf pd0 rfl) rfl rfl (Nat.le_of_eq rfl) (hb hby (eD D24_0_ 1 rfl))
  obtain ⟨rfl, Nq1, e1⟩ := hQ1
  have N1 := Fr.app N0 Nq1
  refine os st1 ?_
  refine gAn X1 hx hby (eD D24_0_ 2 rfl) rfl rfl ?_
  obtain ⟨T2, X2, e2, st2⟩ := getF X1 hx hZ hown (host := "") (Or.inl (ow177 hw)) Via.refl e1 I_c (g := (mkF m 5 #[rv it, o_, o_] [(.ref it)])) rfl rfl (hb hby (eD D24_0_ 3 rfl))
  refine os st2 ?_
  refine gIsn X2 hx hby (eD D24_0_ 4 rfl) (ls' := #[rv it, iv xi, o_]) rfl ?_
  refine gIn X2 hx hby (eD D24_0_ 5 rfl) rfl ?_
  refine gAn X2 hx hby (eD D24_0_ 6 rfl) rfl rfl ?_
  obtain ⟨T3, X3, e3, st3⟩ := getF X2 hx hZ hown (host := "") (Or.inl (ow160 hw)) Via.refl e2 I_t (g := (mkF m 11 #[rv it, iv xi, o_] [(.ref it), (.int xi)])) rfl rfl (hb hby (eD D24_0_ 7 rfl))
  refine os st3 ?_
  obtain ⟨T4, X4, e4, st4⟩ := getF X3 hx hZ hown (host := s9_) (Or.inr (ow179 hw)) Via.refl e3 F_s (g := (mkF m 14 #[rv it, iv xi, o_] [(.ref a), (.int xi)])) rfl rfl (hb hby (eD D24_0_ 8 rfl))
  refine os st4 ?_
  refine gCy (pc := 17) (pc' := 28) X4 hx hby (eD D24_0_ 9 rfl) (XT.ii_lt_t lt1) (by decide) (by decide) ?_
  refine gAn X4 hx hby (eD D24_0_ 10 rfl) rfl rfl ?_
  obtain ⟨T5, X5, e5, st5⟩ := getF X4 hx hZ hown (host := "") (Or.inl (ow160 hw)) Via.refl e4 I_t (g := (mkF m 29 #[rv it, iv xi, o_] [(.ref it)])) rfl rfl (hb hby (eD D24_0_ 11 rfl))
  refine os st5 ?_
  obtain ⟨T6, X6, e6, st6⟩ := getF X5 hx hZ hown (host := "") (Or.inl (ow193 hw)) Via.refl e5 F_e (g := (mkF m 32 #[rv it, iv xi, o_] [(.ref a)])) rfl rfl (hb hby (eD D24_0_ 12 rfl))
  refine os st6 ?_
  refine gAsn X6 hx hby (eD D24_0_ 13 rfl) rfl (ls' := #[rv it, iv xi, rv d]) rfl ?_
  refine gIn X6 hx hby (eD D24_0_ 14 rfl) rfl ?_
  refine gAn X6 hx hby (eD D24_0_ 15 rfl) rfl rfl ?_
  obtain ⟨cl7, Aq7, S7, M7⟩ := PD.len P_d
  refine os (fun _ z => X6.arraylength hx (by rw [e6]; exact Aq7.1) (oia hZ Aq7.2.1) (g := (mkF m 38 #[rv it, iv xi, rv d] [(.ref d), (.int xi)])) rfl rfl (hb hby (eD D24_1_ 0 rfl)) _ z) ?_
  rw [len_of S7 M7]
  show OG p e below Φ T6 m 39 #[rv it, iv xi, rv d] [(.int 10), (.int xi)]
  refine gCy (pc := 39) (pc' := 50) X6 hx hby (eD D24_1_ 1 rfl) (XT.ii_lt_t lt2) (by decide) (by decide) ?_
  refine gAn X6 hx hby (eD D24_1_ 2 rfl) rfl rfl ?_
  refine gIn X6 hx hby (eD D24_1_ 3 rfl) rfl ?_
  refine gIc (x := 1) X6 hx hby (eD D24_1_ 4 rfl) rfl ?_
  refine os (fun _ z => XS.iadd X6.here hx rfl (hb hby (eD D24_1_ 5 rfl)) rfl z) ?_
  obtain ⟨T8, h8, X8, e8, W8, st8⟩ := putF X6 hx hZ hown (host := "") (Or.inl (ow177 hw)) Via.refl e6 I_c E_i (Or.inl (ow178 hw)) (ow154 hw) (ty := .int) (by decide) rfl rfl (g := (mkF m 54 #[rv it, iv xi, rv d] [(.int (xi + 1)), (.ref it)])) rfl rfl (hb hby (eD D24_1_ 6 rfl))
  have F9 := E_i.wr W8
  have F10 := I_c.same W8
  have F11 := I_l.other W8 (Or.inr (slot_ne (Or.inl (ow164 hw)) (Or.inl (ow178 hw)) (by decide) (t := .int) (t' := .int) (by decide) (by decide)))
  have F12 := I_e.other W8 (Or.inr (slot_ne (Or.inl (ow167 hw)) (Or.inl (ow178 hw)) (by decide) (t := .int) (t' := .int) (by decide) (by decide)))
  have F13 := I_t.other W8 (Or.inr (slot_ne (Or.inr (ow161 hw)) (Or.inl (ow178 hw)) (by decide) (t := (.object s9_)) (t' := .int) (by decide) (by decide)))
  have F14 := F_m.other W8 (Or.inl nai)
  have F15 := F_s.other W8 (Or.inl nai)
  have F16 := F_e.other W8 (Or.inl nai)
  have F17 := P_d.other W8 nsi
  have K8 := K0.wr W8 (Or.inl (List.mem_of_getElem? (i := 0) rfl))
  have N8 := Fr.snoc X8 N1 g_i
  have Zs8 := ozw W8 Z0
  refine os st8 ?_
  refine gAn X8 hx hby (eD D24_1_ 7 rfl) rfl rfl ?_
  refine gAn X8 hx hby (eD D24_1_ 8 rfl) rfl rfl ?_
  refine gIn X8 hx hby (eD D24_1_ 9 rfl) rfl ?_
  refine os (fun _ z => XT.dupX1 X8.here hx rfl (hb hby (eD D24_1_ 10 rfl)) rfl rfl rfl z) ?_
  obtain ⟨T18, h18, X18, e18, W18, st18⟩ := putF X8 hx hZ hown (host := "") (Or.inl (ow163 hw)) Via.refl e8 F11 F9 (Or.inl (ow164 hw)) (ow154 hw) (ty := .int) (by decide) rfl rfl (g := (mkF m 61 #[rv it, iv xi, rv d] [(.int xi), (.ref it), (.int xi), (.ref d)])) rfl rfl (hb hby (eD D24_1_ 11 rfl))
  have F19 := F9.wr W18
  have F20 := F10.other W18 (Or.inr (slot_ne (Or.inl (ow178 hw)) (Or.inl (ow164 hw)) (by decide) (t := .int) (t' := .int) (by decide) (by decide)))
  have F21 := F11.same W18
  have F22 := F12.other W18 (Or.inr (slot_ne (Or.inl (ow167 hw)) (Or.inl (ow164 hw)) (by decide) (t := .int) (t' := .int) (by decide) (by decide)))
  have F23 := F13.other W18 (Or.inr (slot_ne (Or.inr (ow161 hw)) (Or.inl (ow164 hw)) (by decide) (t := (.object s9_)) (t' := .int) (by decide) (by decide)))
  have F24 := F14.other W18 (Or.inl nai)
  have F25 := F15.other W18 (Or.inl nai)
  have F26 := F16.other W18 (Or.inl nai)
  have F27 := F17.other W18 nsi
  have K18 := K8.wr W18 (Or.inl (List.mem_of_getElem? (i := 0) rfl))
  have N18 := Fr.snoc X18 N8 g_i
  have Zs18 := ozw W18 Zs8
  refine os st18 ?_
  show OG p e below Φ T18 m 64 #[rv it, iv xi, rv d] [(.int xi), (.ref d)]
  obtain ⟨cl28, y28, Aq28, iq28, at28, Y28, s28⟩ := PD.at F27 hi hq
  refine os (fun _ z => X18.aaload hx (by rw [e18]; exact Aq28.1) (oia hZ Aq28.2.1) rfl Aq28.2.2 iq28 at28 (g := (mkF m 64 #[rv it, iv xi, rv d] [(.int xi), (.ref d)])) rfl rfl (hb hby (eD D24_1_ 12 rfl)) _ z) ?_
  refine OGo.fin X18 hlk (v := (some (.ref y28))) (fun h => by rw [hret] at h; cases h) (by decide) (by decide) (fun fs hr => X18.areturnOut hx rfl hret rfl (hb hby (eD D24_1_ 13 rfl)) hr) fun U eU hF => hΦ _ _ _ ?_ hF
  rw [eU, e18]
  show Q_rinx Z S it a d xi xl mc ps q h0 n0 _ _ _
  exact ⟨_, rfl, N18, K18, F19, F20, F21, F22, F23, Y28, s28⟩

def incK_k136 (ps : List (Int32 × Int32 × Int32)) : Nat → Int32 → List Int32 → List (List Int32) → Option (List (List Int32))
  | 0 => fun _ _ _ => none
  | n + 1 => fun i136_4 z136_0 zz136_0 => (if i136_4 < (own_n ps) then (kpp ps i136_4 fun q156 => (if q156.2.2 = 0 then ((incK_k136 ps n) (i136_4 + 1) z136_0 zz136_0) else (kll zz136_0 q156.1 fun r161 => kld z136_0 q156.1 fun v163 => kst z136_0 q156.1 (v163 + 1) fun x164 => kst r161 v163 i136_4 fun x169 => kll (setR zz136_0 q156.1.toNatClampNeg x169) q156.2.1 fun r174 => kld x164 q156.2.1 fun v176 => kst x164 q156.2.1 (v176 + 1) fun x177 => kst r174 v176 i136_4 fun x182 => (incK_k136 ps n) (i136_4 + 1) x177 (setR (setR zz136_0 q156.1.toNatClampNeg x169) q156.2.1.toNatClampNeg x182)))) else (some zz136_0))
theorem incK_k136_s (ps : List (Int32 × Int32 × Int32)) (n : Nat) (i136_4 : Int32) (z136_0 : List Int32) (zz136_0 : List (List Int32)) : incK_k136 ps (n + 1) i136_4 z136_0 zz136_0 = (if i136_4 < (own_n ps) then (kpp ps i136_4 fun q156 => (if q156.2.2 = 0 then (incK_k136 ps n (i136_4 + 1) z136_0 zz136_0) else (kll zz136_0 q156.1 fun r161 => kld z136_0 q156.1 fun v163 => kst z136_0 q156.1 (v163 + 1) fun x164 => kst r161 v163 i136_4 fun x169 => kll (setR zz136_0 q156.1.toNatClampNeg x169) q156.2.1 fun r174 => kld x164 q156.2.1 fun v176 => kst x164 q156.2.1 (v176 + 1) fun x177 => kst r174 v176 i136_4 fun x182 => incK_k136 ps n (i136_4 + 1) x177 (setR (setR zz136_0 q156.1.toNatClampNeg x169) q156.2.1.toNatClampNeg x182)))) else (some zz136_0)) := rfl
def incK_k14 (ps : List (Int32 × Int32 × Int32)) : Nat → Int32 → Int32 → List Int32 → Option (List (List Int32))
  | 0 => fun _ _ _ => none
  | n + 1 => fun f14_cursor f14_lastRet z14_0 => (if (own_hn f14_cursor (own_n ps)) = 0 then (kld z14_0 (0 : Int32) fun v12 => kgd v12 8 <| kld z14_0 (1 : Int32) fun v22 => kgd v22 8 <| kld z14_0 (2 : Int32) fun v34 => kgd v34 8 <| kld z14_0 (3 : Int32) fun v48 => kgd v48 8 <| kld z14_0 (4 : Int32) fun v64 => kgd v64 8 <| kld z14_0 (5 : Int32) fun v82 => kgd v82 8 <| kld z14_0 (6 : Int32) fun v102 => kgd v102 8 <| kld z14_0 (7 : Int32) fun v124 => kgd v124 8 <| kbd (fillK z14_0 (0 : Int32)) fun v149 => incK_k136 ps  12 (0 : Int32) v149 [(List.replicate v12.toNatClampNeg (0 : Int32)), (List.replicate v22.toNatClampNeg (0 : Int32)), (List.replicate v34.toNatClampNeg (0 : Int32)), (List.replicate v48.toNatClampNeg (0 : Int32)), (List.replicate v64.toNatClampNeg (0 : Int32)), (List.replicate v82.toNatClampNeg (0 : Int32)), (List.replicate v102.toNatClampNeg (0 : Int32)), (List.replicate v124.toNatClampNeg (0 : Int32))]) else (kpp ps f14_cursor fun q186 => (if q186.2.2 = 0 then ((incK_k14 ps n) (f14_cursor + 1) f14_cursor z14_0) else ((if q186.1 = q186.2.1 then (none) else (kld z14_0 q186.1 fun v196 => kst z14_0 q186.1 (v196 + 1) fun x197 => kld x197 q186.2.1 fun v206 => kst x197 q186.2.1 (v206 + 1) fun x207 => (incK_k14 ps n) (f14_cursor + 1) f14_cursor x207))))))
theorem incK_k14_s (ps : List (Int32 × Int32 × Int32)) (n : Nat) (f14_cursor : Int32) (f14_lastRet : Int32) (z14_0 : List Int32) : incK_k14 ps (n + 1) f14_cursor f14_lastRet z14_0 = (if (own_hn f14_cursor (own_n ps)) = 0 then (kld z14_0 (0 : Int32) fun v12 => kgd v12 8 <| kld z14_0 (1 : Int32) fun v22 => kgd v22 8 <| kld z14_0 (2 : Int32) fun v34 => kgd v34 8 <| kld z14_0 (3 : Int32) fun v48 => kgd v48 8 <| kld z14_0 (4 : Int32) fun v64 => kgd v64 8 <| kld z14_0 (5 : Int32) fun v82 => kgd v82 8 <| kld z14_0 (6 : Int32) fun v102 => kgd v102 8 <| kld z14_0 (7 : Int32) fun v124 => kgd v124 8 <| kbd (fillK z14_0 (0 : Int32)) fun v149 => incK_k136 ps  12 (0 : Int32) v149 [(List.replicate v12.toNatClampNeg (0 : Int32)), (List.replicate v22.toNatClampNeg (0 : Int32)), (List.replicate v34.toNatClampNeg (0 : Int32)), (List.replicate v48.toNatClampNeg (0 : Int32)), (List.replicate v64.toNatClampNeg (0 : Int32)), (List.replicate v82.toNatClampNeg (0 : Int32)), (List.replicate v102.toNatClampNeg (0 : Int32)), (List.replicate v124.toNatClampNeg (0 : Int32))]) else (kpp ps f14_cursor fun q186 => (if q186.2.2 = 0 then (incK_k14 ps n (f14_cursor + 1) f14_cursor z14_0) else ((if q186.1 = q186.2.1 then (none) else (kld z14_0 q186.1 fun v196 => kst z14_0 q186.1 (v196 + 1) fun x197 => kld x197 q186.2.1 fun v206 => kst x197 q186.2.1 (v206 + 1) fun x207 => incK_k14 ps n (f14_cursor + 1) f14_cursor x207)))))) := rfl
def incK (ps : List (Int32 × Int32 × Int32)) : Option (List (List Int32)) := incK_k14 ps  12 (0 : Int32) (-1 : Int32) (List.replicate 8 (0 : Int32))
theorem pd13 : parseMethodDescriptor "()Ljava/util/Iterator;" = some ⟨[], some (.object s10_)⟩ := by decide +kernel
theorem pd14 : parseMethodDescriptor "()Z" = some ⟨[], some .boolean⟩ := by decide +kernel
theorem pd15 : parseMethodDescriptor "([II)V" = some ⟨[(.array .int), .int], none⟩ := by decide +kernel
theorem pd16 : parseMethodDescriptor "()Ljava/lang/Object;" = some ⟨[], some (.object "java/lang/Object")⟩ := by decide +kernel
theorem ef_rin (m : MethodId) (x0 : Addr) (x1 : Int32) : entryFrame m #[(.ref x0), (.int x1)] 6 = mkF m 0 #[.val (.ref x0), .val (.int x1), o_, o_, o_, o_] [] := by first | (simp [entryFrame, mkF, argsToLocals, Value.category]; done) | rfl
def Q_rin (Z : State) (S : Addr → Prop) (net : Addr) (lj : Addr) (lr : Addr) (lp : Addr) (d : Addr) (mc : Int32) (ps : List (Int32 × Int32 × Int32)) (t_ : List (List Int32)) (h0 : Heap) (n0 : Nat) (v : Option Value) (h : Heap) (L : List Loc) : Prop := ∃ b bs, v = some (.ref b) ∧ Fr n0 L ∧ Keep h0 h [] ∧ AA Z h b bs t_ ∧ h0.size ≤ b ∧ ∀ x, x < h0.size → x ≠ b ∧ x ∉ bs
theorem rin (l : Launch) (Z : State) (a0 : Array Value) (hw : OHW Z a0) (ws : List Jvm.Cond) (S : Addr → Prop) (net : Addr) (lj : Addr) (lr : Addr) (lp : Addr) (d : Addr) (mc : Int32) (ps : List (Int32 × Int32 × Int32)) (t_ : List (List Int32)) (h0 : Heap) (n0 : Nat) (Z0 : n0 ≤ h0.size) (N_p : NetP Z h0 S net lj lr lp d mc ps) (hS2 : ∀ x, h0.size ≤ x → ¬ S x) (hK0 : incK ps = some t_) :
    OCon l Z (⟨s4_, "incidence", "(Lcom/example/hydromeme/hydromeme/Network;I)[[I"⟩ : MethodName) c41_ 6 (some (.array (.array .int))) ws ({ frames := 3, cells := 11, slots := 84, locals := 40 } : Room) #[(.ref net), (.int (8 : Int32))] h0 (Q_rin Z S net lj lr lp d mc ps t_ h0 n0) := by
  refine OCon.of (plainFor_of_name pn8) ?_
  intro p e s m below meth c s₁ Φ X0 hx hby hml hown hnm hret hlk hZ e0 hΦ
  have N0 := Fr.nil n0
  refine os (fun _ z => castTop (ef_rin m net (8 : Int32)) z) ?_
  have K0 := Keep.refl h0 []
  have hK := hK0
  unfold incK at hK
  show OG p e below Φ s₁ m 0 #[rv net, iv 8, o_, o_, o_, o_] []
  refine gIn X0 hx hby (eD D19_0_ 0 rfl) rfl ?_
  obtain ⟨T1, h1, c1, X1, e1, E1, Ar1, st1⟩ := newP (aty := .int) X0 hx hZ (ow139 hw) e0 (g := (mkF m 1 #[rv net, iv 8, o_, o_, o_, o_] [(.int 8)])) rfl (hb hby (eD D19_0_ 1 rfl)) rfl (by decide) (cap := 8) (by decide) (by decide) (by decide) (by decide)
  obtain ⟨b1, g1⟩ : ∃ z, z = h0.size := ⟨_, rfl⟩
  rw [← g1] at Ar1 st1
  have F2 := N_p.ext E1
  have gb1 := Nat.le_trans Z0 (Nat.le_of_eq g1.symm)
  have sz1 := Nat.le_trans K0.1 (Nat.le_of_eq g1.symm)
  have K1 := K0.ext E1
  have Zs1 := Nat.le_trans Z0 E1.1
  have P1 : PA Z h1 b1 .int (List.replicate 8 (0 : Int32)) := PA.new Ar1 (by decide) rfl (by decide)
  refine os st1 ?_
  refine gAsn X1 hx hby (eD D19_0_ 2 rfl) rfl (ls' := #[rv net, iv 8, rv b1, o_, o_, o_]) rfl ?_
  refine gAn X1 hx hby (eD D19_0_ 3 rfl) rfl rfl ?_
  obtain ⟨_, T3, L3, X3, hQ3, st3⟩ := own_callVi X1 hx hZ hown (ow140 hw) (ow141 hw) (notFace_of_selects (args := #[]) (mvT hZ (ow143 hw))) (ow143 hw) (ow142 hw) (ow96 hw) (ow144 hw) (by decide) (rgn2 l Z a0 hw [] net lp h1 n0 Zs1 F2.2.2.2.2.1) e1 (W := 0) (by decide) F2.2.1 (pc := 5) (ls := #[rv net, iv 8, rv b1, o_, o_, o_]) (stk := [(.ref net)]) (by rw [hml]; rfl) (argsL := []) (rest := []) (lenOf pd10 rfl) rfl rfl (Nat.le_of_eq rfl) (hb hby (eD D19_0_ 4 rfl))
  obtain ⟨rfl, Nq3, e3⟩ := hQ3
  have N3 := Fr.app N0 Nq3
  refine os st3 ?_
  obtain ⟨_, T4, L4, X4, hQ4, st4⟩ := own_callIf X3 hx hZ hown (ow145 hw) (ow146 hw) (mvT hZ (ow147 hw)) (ow148 hw) (ow149 hw) (ow150 hw) (ow151 hw) (ow129 hw) (ow3 hw) (ow152 hw) (by decide) (rit l Z a0 hw [] lp mc h1 n0 Zs1 F2.2.2.2.2.2.2.2.2.2.2.1) e3 (W := 0) (by decide) F2.2.2.2.2.2.2.2.2.2.1 (pc := 8) (ls := #[rv net, iv 8, rv b1, o_, o_, o_]) (stk := [(.ref lp)]) (by rw [hml]; rfl) (argsL := []) (rest := []) (lenOf pd13 rfl) rfl rfl (Nat.le_of_eq rfl) (hb hby (eD D19_0_ 5 rfl))
  obtain ⟨it4, rfl, Nq4, Kq4, Eq4, I_c4, I_l4, I_e4, I_t4, hz4⟩ := hQ4
  have nq4_b1 := Nat.ne_of_lt (Nat.lt_of_lt_of_le P1.lt hz4)
  have gq4 := Nat.le_trans Zs1 hz4
  have sq4 := Nat.le_trans K1.1 hz4
  have N4 := Fr.app N3 Nq4
  have Zs4 := Nat.le_trans Zs1 Kq4.1
  have F5 := F2.keep Kq4 all0
  have F6 := P1.keep Kq4 nin0
  have K4 := K1.trans Kq4 all0
  refine os st4 ?_
  refine gAsn X4 hx hby (eD D19_0_ 6 rfl) rfl (ls' := #[rv net, iv 8, rv b1, rv it4, o_, o_]) rfl ?_
  show OG p e below Φ T4 m 14 #[rv net, iv 8, rv b1, rv it4, o_, o_] []
  have J14 : ∀ (nn14 : Nat) (f14_cursor : Int32) (f14_lastRet : Int32) (z14_0 : List Int32) (s14_4 : Slot) (q14_4 : own_s1 s14_4) (Tj14 : State) (hj14 : Heap) (Lj14 : List Loc), Stand p l e ({ frames := 3, cells := 11, slots := 84, locals := 40 } : Room) s m #[(.ref net), (.int (8 : Int32))] below meth c Tj14 Lj14 2 12 → Tj14.heap = hj14 → Fr n0 Lj14 → n0 ≤ hj14.size → Keep h0 hj14 [] → NetP Z hj14 S net lj lr lp d mc ps → PA Z hj14 b1 .int z14_0 → Exa Z hj14 it4 s6_ → Fld Z hj14 it4 s6_ "cursor" "I" (.int f14_cursor) → Fld Z hj14 it4 s6_ "lastRet" "I" (.int f14_lastRet) → Fld Z hj14 it4 s6_ "expectedModCount" "I" (.int mc) → Fld Z hj14 it4 s6_ "this$0" "Ljava/util/ArrayList;" (.ref lp) → incK_k14 ps  nn14 f14_cursor f14_lastRet z14_0 = some t_ → OG p e below Φ Tj14 m 14 #[rv net, iv (8 : Int32), rv b1, rv it4, s14_4, o_] [] := by
   clear hK
   clear X1 e1 E1 Ar1 st1 g1 F2 K1 Zs1 P1 X3 st3 Nq3 e3 N3 X4 st4 Nq4 Kq4 Eq4 hz4 N4 Zs4 F5 F6 K4
   intro nn14
   induction nn14 with
   | zero => intro f14_cursor f14_lastRet z14_0 s14_4 q14_4 Tj14 hj14 Lj14 Xj14 ej14 Nj14 Zj14 Kj14 fj14_0 fj14_1 fj14_2 fj14_3 fj14_4 fj14_5 fj14_6 hK; exact (knone hK).elim
   | succ nn14 ih14 =>
    intro f14_cursor f14_lastRet z14_0 s14_4 q14_4 Tj14 hj14 Lj14 Xj14 ej14 Nj14 Zj14 Kj14 fj14_0 fj14_1 fj14_2 fj14_3 fj14_4 fj14_5 fj14_6 hK
    show OG p e below Φ Tj14 m 14 #[rv net, iv 8, rv b1, rv it4, s14_4, o_] []
    refine gAn Xj14 hx hby (eD D19_0_ 7 rfl) rfl rfl ?_
    obtain ⟨_, T7, L7, X7, hQ7, st7⟩ := own_callIf Xj14 hx hZ hown (ow168 hw) (ow169 hw) (mvT hZ (ow170 hw)) (ow171 hw) (ow172 hw) (ow173 hw) (ow174 hw) (ow175 hw) (ow155 hw) (ow176 hw) (by decide) (rihn l Z a0 hw [] it4 lp f14_cursor (own_n ps) hj14 n0 Zj14 fj14_3 fj14_6 fj14_0.2.2.2.2.2.2.2.2.2.2.2.1) ej14 (W := 0) (by decide) fj14_2 (pc := 15) (ls := #[rv net, iv 8, rv b1, rv it4, s14_4, o_]) (stk := [(.ref it4)]) (by rw [hml]; rfl) (argsL := []) (rest := []) (lenOf pd14 rfl) rfl rfl (Nat.le_of_eq rfl) (hb hby (eD D19_0_ 8 rfl))
    obtain ⟨rfl, Nq7, e7⟩ := hQ7
    have N7 := Fr.app Nj14 Nq7
    refine os st7 ?_
    by_cases hc8 : (own_hn f14_cursor (own_n ps)) = 0
    replace hK := kif_t hc8 hK
    refine gFy (pc := 20) (pc' := 98) X7 hx hby (eD D19_0_ 9 rfl) (XT.i0_eq_t hc8) (by decide) (by decide) ?_
    show OG p e below Φ T7 m 98 #[rv net, iv 8, rv b1, rv it4, s14_4, o_] []
    refine gIn X7 hx hby (eD D19_0_ 10 rfl) rfl ?_
    obtain ⟨T9, h9, c9, X9, e9, E9, Ar9, Ex9, Ov9, st9⟩ := newRA X7 hx hZ hown (ty := .int) (by decide) (ow211 hw) (ow212 hw) e7 (g := (mkF m 99 #[rv net, iv 8, rv b1, rv it4, s14_4, o_] [(.int 8)])) rfl (hb hby (eD D19_0_ 11 rfl)) rfl (by decide) (cap := 8) (by decide) (by decide) (by decide) (by decide) (ad := "[[I") (by decide)
    obtain ⟨b9, g9⟩ : ∃ z, z = hj14.size := ⟨_, rfl⟩
    rw [← g9] at Ar9 Ex9 st9
    have ne9_b1 := one_ g9 fj14_1.lt
    have F10 := fj14_0.ext E9
    have F11 := fj14_1.ext E9
    have gb9 := Nat.le_trans Zj14 (Nat.le_of_eq g9.symm)
    have sz9 := Nat.le_trans Kj14.1 (Nat.le_of_eq g9.symm)
    have K9 := Kj14.ext E9
    have Zs9 := Nat.le_trans Zj14 E9.1
    have V9 : Arv Z h9 b9 c9 (.array .int) (8 : Int32) [.null, .null, .null, .null, .null, .null, .null, .null] .null := (Arv.new Ar9 (by decide)).pad (pad_rep [] _ 8)
    refine os st9 ?_
    refine gAsn X9 hx hby (eD D19_0_ 12 rfl) rfl (ls' := #[rv net, iv 8, rv b1, rv b9, s14_4, o_]) rfl ?_
    refine gIc (x := 0) X9 hx hby (eD D19_0_ 13 rfl) rfl ?_
    refine gIs X9 hx hby (eD D19_0_ 14 rfl) (ls' := #[rv net, iv 8, rv b1, rv b9, iv 0, o_]) (XS.store1 rfl q14_4 rfl) ?_
    refine gI X9 hx hby (eD D19_0_ 15 rfl) rfl ?_
    refine gIn X9 hx hby (eD D19_1_ 0 rfl) rfl ?_
    refine gCn X9 hx hby (eD D19_1_ 1 rfl) (XT.ii_ge_f (by decide)) ?_
    refine gAn X9 hx hby (eD D19_1_ 2 rfl) rfl rfl ?_
    refine gI X9 hx hby (eD D19_1_ 3 rfl) rfl ?_
    refine gAn X9 hx hby (eD D19_1_ 4 rfl) rfl rfl ?_
    refine gI X9 hx hby (eD D19_1_ 5 rfl) rfl ?_
    replace hK := kld_some hK
    obtain ⟨v12, in12, ev12, hK⟩ := hK
    obtain ⟨cl12, Aq12, iq12, at12⟩ := PA.get F11 in12 ev12
    refine os (fun _ z => X9.iaload hx (by rw [e9]; exact Aq12.1) (oia hZ Aq12.2.1) Aq12.2.2 iq12 at12 (g := (mkF m 118 #[rv net, iv 8, rv b1, rv b9, iv 0, o_] [(.int 0), (.ref b1), (.int 0), (.ref b9)])) rfl rfl (hb hby (eD D19_1_ 6 rfl)) _ z) ?_
    replace hK := kgd_some hK
    obtain ⟨gn13, gc13, hK⟩ := hK
    obtain ⟨T13, h13, c13, X13, e13, E13, Ar13, Ex13, st13⟩ := newPE (aty := .int) X9 hx hZ (ow139 hw) e9 (g := (mkF m 119 #[rv net, iv 8, rv b1, rv b9, iv 0, o_] [(.int v12), (.int 0), (.ref b9)])) rfl (hb hby (eD D19_1_ 7 rfl)) rfl gn13 (cap := 8) gc13 (by decide) (by decide) (by decide) (ad := "[I") (by decide)
    obtain ⟨b13, g13⟩ : ∃ z, z = h9.size := ⟨_, rfl⟩
    rw [← g13] at Ar13 Ex13 st13
    have ne13_b1 := one_ g13 F11.lt
    have ne13_b9 := one_ g13 V9.lt
    have F14 := F10.ext E13
    have F15 := F11.ext E13
    have F16 := V9.ext E13
    have gb13 := Nat.le_trans Zs9 (Nat.le_of_eq g13.symm)
    have sz13 := Nat.le_trans K9.1 (Nat.le_of_eq g13.symm)
    have K13 := K9.ext E13
    have Zs13 := Nat.le_trans Zs9 E13.1
    have P13 : PA Z h13 b13 .int (List.replicate v12.toNatClampNeg (0 : Int32)) := PA.new Ar13 gn13 rfl rfl
    refine os st13 ?_
    obtain ⟨cl17, Aq17, Cq17, S17, M17, H17, G17⟩ := id F16
    have in17 : ¬ ((0 : Int32) < 0 ∨ cl17.slots.size ≤ (0 : Int32).toNatClampNeg) := inb_of S17 ⟨by decide, by decide⟩
    obtain ⟨T17, h17, X17, e17, W17, st17⟩ := stR X13 hx hZ e13 Aq17 in17 rfl (Sto.ofVA Aq17 Cq17 Ov9 (Ins.self Ex13)) (g := (mkF m 121 #[rv net, iv 8, rv b1, rv b9, iv 0, o_] [(.ref b13), (.int 0), (.ref b9)])) rfl rfl (hb hby (eD D19_1_ 8 rfl))
    have F18 := F14.other W17 (hS2 _ sz9)
    have F19 := F15.other W17 ne9_b1
    have F20 := P13.other W17 (Ne.symm ne13_b9)
    have F21 := Ex13.wr W17
    have V17 : Arv Z h17 b9 c9 (.array .int) (8 : Int32) [(.ref b13), .null, .null, .null, .null, .null, .null, .null] .null := Arv.set Aq17 Cq17 S17 M17 H17 G17 rfl W17 0 (by decide) (by show 0 < 8; decide)
    have K17 := K13.wr W17 (Or.inr sz9)
    have N17 := Fr.snoc X17 N7 gb9
    have Zs17 := ozw W17 Zs13
    refine os st17 ?_
    show OG p e below Φ T17 m 122 #[rv net, iv 8, rv b1, rv b9, iv 0, o_] []
    refine os (fun _ z => XS.iinc X17.here hx rfl (hb hby (eD D19_1_ 9 rfl)) rfl (l' := #[rv net, iv 8, rv b1, rv b9, iv (0 + 1), o_]) rfl z) ?_
    show OG p e below Φ T17 m 125 #[rv net, iv 8, rv b1, rv b9, iv 1, o_] []
    refine gGo (pc := 125) (pc' := 106) X17 hx hby (eD D19_1_ 10 rfl) (by decide) (by decide) ?_
    refine gI X17 hx hby (eD D19_0_ 15 rfl) rfl ?_
    refine gIn X17 hx hby (eD D19_1_ 0 rfl) rfl ?_
    refine gCn X17 hx hby (eD D19_1_ 1 rfl) (XT.ii_ge_f (by decide)) ?_
    refine gAn X17 hx hby (eD D19_1_ 2 rfl) rfl rfl ?_
    refine gI X17 hx hby (eD D19_1_ 3 rfl) rfl ?_
    refine gAn X17 hx hby (eD D19_1_ 4 rfl) rfl rfl ?_
    refine gI X17 hx hby (eD D19_1_ 5 rfl) rfl ?_
    replace hK := kld_some hK
    obtain ⟨v22, in22, ev22, hK⟩ := hK
    obtain ⟨cl22, Aq22, iq22, at22⟩ := PA.get F19 in22 ev22
    refine os (fun _ z => X17.iaload hx (by rw [e17]; exact Aq22.1) (oia hZ Aq22.2.1) Aq22.2.2 iq22 at22 (g := (mkF m 118 #[rv net, iv 8, rv b1, rv b9, iv 1, o_] [(.int 1), (.ref b1), (.int 1), (.ref b9)])) rfl rfl (hb hby (eD D19_1_ 6 rfl)) _ z) ?_
    replace hK := kgd_some hK
    obtain ⟨gn23, gc23, hK⟩ := hK
    obtain ⟨T23, h23, c23, X23, e23, E23, Ar23, Ex23, st23⟩ := newPE (aty := .int) X17 hx hZ (ow139 hw) e17 (g := (mkF m 119 #[rv net, iv 8, rv b1, rv b9, iv 1, o_] [(.int v22), (.int 1), (.ref b9)])) rfl (hb hby (eD D19_1_ 7 rfl)) rfl gn23 (cap := 8) gc23 (by decide) (by decide) (by decide) (ad := "[I") (by decide)
    obtain ⟨b23, g23⟩ : ∃ z, z = h17.size := ⟨_, rfl⟩
    rw [← g23] at Ar23 Ex23 st23
    have ne23_b1 := one_ g23 F19.lt
    have ne23_b13 := one_ g23 F20.lt
    have ne23_b9 := one_ g23 V17.lt
    have F24 := F18.ext E23
    have F25 := F19.ext E23
    have F26 := F20.ext E23
    have F27 := V17.ext E23
    have gb23 := Nat.le_trans Zs17 (Nat.le_of_eq g23.symm)
    have sz23 := Nat.le_trans K17.1 (Nat.le_of_eq g23.symm)
    have K23 := K17.ext E23
    have Zs23 := Nat.le_trans Zs17 E23.1
    have P23 : PA Z h23 b23 .int (List.replicate v22.toNatClampNeg (0 : Int32)) := PA.new Ar23 gn23 rfl rfl
    refine os st23 ?_
    obtain ⟨cl28, Aq28, Cq28, S28, M28, H28, G28⟩ := id F27
    have in28 : ¬ ((1 : Int32) < 0 ∨ cl28.slots.size ≤ (1 : Int32).toNatClampNeg) := inb_of S28 ⟨by decide, by decide⟩
    obtain ⟨T28, h28, X28, e28, W28, st28⟩ := stR X23 hx hZ e23 Aq28 in28 rfl (Sto.ofVA Aq28 Cq28 Ov9 (Ins.self Ex23)) (g := (mkF m 121 #[rv net, iv 8, rv b1, rv b9, iv 1, o_] [(.ref b23), (.int 1), (.ref b9)])) rfl rfl (hb hby (eD D19_1_ 8 rfl))
    have F29 := F24.other W28 (hS2 _ sz9)
    have F30 := F25.other W28 ne9_b1
    have F31 := F26.other W28 (Ne.symm ne13_b9)
    have F32 := P23.other W28 (Ne.symm ne23_b9)
    have F33 := Ex23.wr W28
    have V28 : Arv Z h28 b9 c9 (.array .int) (8 : Int32) [(.ref b13), (.ref b23), .null, .null, .null, .null, .null, .null] .null := Arv.set Aq28 Cq28 S28 M28 H28 G28 rfl W28 1 (by decide) (by show 1 < 8; decide)
    have K28 := K23.wr W28 (Or.inr sz9)
    have N28 := Fr.snoc X28 N17 gb9
    have Zs28 := ozw W28 Zs23
    refine os st28 ?_
    show OG p e below Φ T28 m 122 #[rv net, iv 8, rv b1, rv b9, iv 1, o_] []
    refine os (fun _ z => XS.iinc X28.here hx rfl (hb hby (eD D19_1_ 9 rfl)) rfl (l' := #[rv net, iv 8, rv b1, rv b9, iv (1 + 1), o_]) rfl z) ?_
    show OG p e below Φ T28 m 125 #[rv net, iv 8, rv b1, rv b9, iv 2, o_] []
    refine gGo (pc := 125) (pc' := 106) X28 hx hby (eD D19_1_ 10 rfl) (by decide) (by decide) ?_
    refine gI X28 hx hby (eD D19_0_ 15 rfl) rfl ?_
    refine gIn X28 hx hby (eD D19_1_ 0 rfl) rfl ?_
    refine gCn X28 hx hby (eD D19_1_ 1 rfl) (XT.ii_ge_f (by decide)) ?_
    refine gAn X28 hx hby (eD D19_1_ 2 rfl) rfl rfl ?_
    refine gI X28 hx hby (eD D19_1_ 3 rfl) rfl ?_
    refine gAn X28 hx hby (eD D19_1_ 4 rfl) rfl rfl ?_
    refine gI X28 hx hby (eD D19_1_ 5 rfl) rfl ?_
    replace hK := kld_some hK
    obtain ⟨v34, in34, ev34, hK⟩ := hK
    obtain ⟨cl34, Aq34, iq34, at34⟩ := PA.get F30 in34 ev34
    refine os (fun _ z => X28.iaload hx (by rw [e28]; exact Aq34.1) (oia hZ Aq34.2.1) Aq34.2.2 iq34 at34 (g := (mkF m 118 #[rv net, iv 8, rv b1, rv b9, iv 2, o_] [(.int 2), (.ref b1), (.int 2), (.ref b9)])) rfl rfl (hb hby (eD D19_1_ 6 rfl)) _ z) ?_
    replace hK := kgd_some hK
    obtain ⟨gn35, gc35, hK⟩ := hK
    obtain ⟨T35, h35, c35, X35, e35, E35, Ar35, Ex35, st35⟩ := newPE (aty := .int) X28 hx hZ (ow139 hw) e28 (g := (mkF m 119 #[rv net, iv 8, rv b1, rv b9, iv 2, o_] [(.int v34), (.int 2), (.ref b9)])) rfl (hb hby (eD D19_1_ 7 rfl)) rfl gn35 (cap := 8) gc35 (by decide) (by decide) (by decide) (ad := "[I") (by decide)
    obtain ⟨b35, g35⟩ : ∃ z, z = h28.size := ⟨_, rfl⟩
    rw [← g35] at Ar35 Ex35 st35
    have ne35_b1 := one_ g35 F30.lt
    have ne35_b13 := one_ g35 F31.lt
    have ne35_b23 := one_ g35 F32.lt
    have ne35_b9 := one_ g35 V28.lt
    have F36 := F29.ext E35
    have F37 := F30.ext E35
    have F38 := F31.ext E35
    have F39 := F32.ext E35
    have F40 := V28.ext E35
    have gb35 := Nat.le_trans Zs28 (Nat.le_of_eq g35.symm)
    have sz35 := Nat.le_trans K28.1 (Nat.le_of_eq g35.symm)
    have K35 := K28.ext E35
    have Zs35 := Nat.le_trans Zs28 E35.1
    have P35 : PA Z h35 b35 .int (List.replicate v34.toNatClampNeg (0 : Int32)) := PA.new Ar35 gn35 rfl rfl
    refine os st35 ?_
    obtain ⟨cl41, Aq41, Cq41, S41, M41, H41, G41⟩ := id F40
    have in41 : ¬ ((2 : Int32) < 0 ∨ cl41.slots.size ≤ (2 : Int32).toNatClampNeg) := inb_of S41 ⟨by decide, by decide⟩
    obtain ⟨T41, h41, X41, e41, W41, st41⟩ := stR X35 hx hZ e35 Aq41 in41 rfl (Sto.ofVA Aq41 Cq41 Ov9 (Ins.self Ex35)) (g := (mkF m 121 #[rv net, iv 8, rv b1, rv b9, iv 2, o_] [(.ref b35), (.int 2), (.ref b9)])) rfl rfl (hb hby (eD D19_1_ 8 rfl))
    have F42 := F36.other W41 (hS2 _ sz9)
    have F43 := F37.other W41 ne9_b1
    have F44 := F38.other W41 (Ne.symm ne13_b9)
    have F45 := F39.other W41 (Ne.symm ne23_b9)
    have F46 := P35.other W41 (Ne.symm ne35_b9)
    have F47 := Ex35.wr W41
    have V41 : Arv Z h41 b9 c9 (.array .int) (8 : Int32) [(.ref b13), (.ref b23), (.ref b35), .null, .null, .null, .null, .null] .null := Arv.set Aq41 Cq41 S41 M41 H41 G41 rfl W41 2 (by decide) (by show 2 < 8; decide)
    have K41 := K35.wr W41 (Or.inr sz9)
    have N41 := Fr.snoc X41 N28 gb9
    have Zs41 := ozw W41 Zs35
    refine os st41 ?_
    show OG p e below Φ T41 m 122 #[rv net, iv 8, rv b1, rv b9, iv 2, o_] []
    refine os (fun _ z => XS.iinc X41.here hx rfl (hb hby (eD D19_1_ 9 rfl)) rfl (l' := #[rv net, iv 8, rv b1, rv b9, iv (2 + 1), o_]) rfl z) ?_
    show OG p e below Φ T41 m 125 #[rv net, iv 8, rv b1, rv b9, iv 3, o_] []
    refine gGo (pc := 125) (pc' := 106) X41 hx hby (eD D19_1_ 10 rfl) (by decide) (by decide) ?_
    refine gI X41 hx hby (eD D19_0_ 15 rfl) rfl ?_
    refine gIn X41 hx hby (eD D19_1_ 0 rfl) rfl ?_
    refine gCn X41 hx hby (eD D19_1_ 1 rfl) (XT.ii_ge_f (by decide)) ?_
    refine gAn X41 hx hby (eD D19_1_ 2 rfl) rfl rfl ?_
    refine gI X41 hx hby (eD D19_1_ 3 rfl) rfl ?_
    refine gAn X41 hx hby (eD D19_1_ 4 rfl) rfl rfl ?_
    refine gI X41 hx hby (eD D19_1_ 5 rfl) rfl ?_
    replace hK := kld_some hK
    obtain ⟨v48, in48, ev48, hK⟩ := hK
    obtain ⟨cl48, Aq48, iq48, at48⟩ := PA.get F43 in48 ev48
    refine os (fun _ z => X41.iaload hx (by rw [e41]; exact Aq48.1) (oia hZ Aq48.2.1) Aq48.2.2 iq48 at48 (g := (mkF m 118 #[rv net, iv 8, rv b1, rv b9, iv 3, o_] [(.int 3), (.ref b1), (.int 3), (.ref b9)])) rfl rfl (hb hby (eD D19_1_ 6 rfl)) _ z) ?_
    replace hK := kgd_some hK
    obtain ⟨gn49, gc49, hK⟩ := hK
    obtain ⟨T49, h49, c49, X49, e49, E49, Ar49, Ex49, st49⟩ := newPE (aty := .int) X41 hx hZ (ow139 hw) e41 (g := (mkF m 119 #[rv net, iv 8, rv b1, rv b9, iv 3, o_] [(.int v48), (.int 3), (.ref b9)])) rfl (hb hby (eD D19_1_ 7 rfl)) rfl gn49 (cap := 8) gc49 (by decide) (by decide) (by decide) (ad := "[I") (by decide)
    obtain ⟨b49, g49⟩ : ∃ z, z = h41.size := ⟨_, rfl⟩
    rw [← g49] at Ar49 Ex49 st49
    have ne49_b1 := one_ g49 F43.lt
    have ne49_b13 := one_ g49 F44.lt
    have ne49_b23 := one_ g49 F45.lt
    have ne49_b35 := one_ g49 F46.lt
    have ne49_b9 := one_ g49 V41.lt
    have F50 := F42.ext E49
    have F51 := F43.ext E49
    have F52 := F44.ext E49
    have F53 := F45.ext E49
    have F54 := F46.ext E49
    have F55 := V41.ext E49
    have gb49 := Nat.le_trans Zs41 (Nat.le_of_eq g49.symm)
    have sz49 := Nat.le_trans K41.1 (Nat.le_of_eq g49.symm)
    have K49 := K41.ext E49
    have Zs49 := Nat.le_trans Zs41 E49.1
    have P49 : PA Z h49 b49 .int (List.replicate v48.toNatClampNeg (0 : Int32)) := PA.new Ar49 gn49 rfl rfl
    refine os st49 ?_
    obtain ⟨cl56, Aq56, Cq56, S56, M56, H56, G56⟩ := id F55
    have in56 : ¬ ((3 : Int32) < 0 ∨ cl56.slots.size ≤ (3 : Int32).toNatClampNeg) := inb_of S56 ⟨by decide, by decide⟩
    obtain ⟨T56, h56, X56, e56, W56, st56⟩ := stR X49 hx hZ e49 Aq56 in56 rfl (Sto.ofVA Aq56 Cq56 Ov9 (Ins.self Ex49)) (g := (mkF m 121 #[rv net, iv 8, rv b1, rv b9, iv 3, o_] [(.ref b49), (.int 3), (.ref b9)])) rfl rfl (hb hby (eD D19_1_ 8 rfl))
    have F57 := F50.other W56 (hS2 _ sz9)
    have F58 := F51.other W56 ne9_b1
    have F59 := F52.other W56 (Ne.symm ne13_b9)
    have F60 := F53.other W56 (Ne.symm ne23_b9)
    have F61 := F54.other W56 (Ne.symm ne35_b9)
    have F62 := P49.other W56 (Ne.symm ne49_b9)
    have F63 := Ex49.wr W56
    have V56 : Arv Z h56 b9 c9 (.array .int) (8 : Int32) [(.ref b13), (.ref b23), (.ref b35), (.ref b49), .null, .null, .null, .null] .null := Arv.set Aq56 Cq56 S56 M56 H56 G56 rfl W56 3 (by decide) (by show 3 < 8; decide)
    have K56 := K49.wr W56 (Or.inr sz9)
    have N56 := Fr.snoc X56 N41 gb9
    have Zs56 := ozw W56 Zs49
    refine os st56 ?_
    show OG p e below Φ T56 m 122 #[rv net, iv 8, rv b1, rv b9, iv 3, o_] []
    refine os (fun _ z => XS.iinc X56.here hx rfl (hb hby (eD D19_1_ 9 rfl)) rfl (l' := #[rv net, iv 8, rv b1, rv b9, iv (3 + 1), o_]) rfl z) ?_
    show OG p e below Φ T56 m 125 #[rv net, iv 8, rv b1, rv b9, iv 4, o_] []
    refine gGo (pc := 125) (pc' := 106) X56 hx hby (eD D19_1_ 10 rfl) (by decide) (by decide) ?_
    refine gI X56 hx hby (eD D19_0_ 15 rfl) rfl ?_
    refine gIn X56 hx hby (eD D19_1_ 0 rfl) rfl ?_
    refine gCn X56 hx hby (eD D19_1_ 1 rfl) (XT.ii_ge_f (by decide)) ?_
    refine gAn X56 hx hby (eD D19_1_ 2 rfl) rfl rfl ?_
    refine gI X56 hx hby (eD D19_1_ 3 rfl) rfl ?_
    refine gAn X56 hx hby (eD D19_1_ 4 rfl) rfl rfl ?_
    refine gI X56 hx hby (eD D19_1_ 5 rfl) rfl ?_
    replace hK := kld_some hK
    obtain ⟨v64, in64, ev64, hK⟩ := hK
    obtain ⟨cl64, Aq64, iq64, at64⟩ := PA.get F58 in64 ev64
    refine os (fun _ z => X56.iaload hx (by rw [e56]; exact Aq64.1) (oia hZ Aq64.2.1) Aq64.2.2 iq64 at64 (g := (mkF m 118 #[rv net, iv 8, rv b1, rv b9, iv 4, o_] [(.int 4), (.ref b1), (.int 4), (.ref b9)])) rfl rfl (hb hby (eD D19_1_ 6 rfl)) _ z) ?_
    replace hK := kgd_some hK
    obtain ⟨gn65, gc65, hK⟩ := hK
    obtain ⟨T65, h65, c65, X65, e65, E65, Ar65, Ex65, st65⟩ := newPE (aty := .int) X56 hx hZ (ow139 hw) e56 (g := (mkF m 119 #[rv net, iv 8, rv b1, rv b9, iv 4, o_] [(.int v64), (.int 4), (.ref b9)])) rfl (hb hby (eD D19_1_ 7 rfl)) rfl gn65 (cap := 8) gc65 (by decide) (by decide) (by decide) (ad := "[I") (by decide)
    obtain ⟨b65, g65⟩ : ∃ z, z = h56.size := ⟨_, rfl⟩
    rw [← g65] at Ar65 Ex65 st65
    have ne65_b1 := one_ g65 F58.lt
    have ne65_b13 := one_ g65 F59.lt
    have ne65_b23 := one_ g65 F60.lt
    have ne65_b35 := one_ g65 F61.lt
    have ne65_b49 := one_ g65 F62.lt
    have ne65_b9 := one_ g65 V56.lt
    have F66 := F57.ext E65
    have F67 := F58.ext E65
    have F68 := F59.ext E65
    have F69 := F60.ext E65
    have F70 := F61.ext E65
    have F71 := F62.ext E65
    have F72 := V56.ext E65
    have gb65 := Nat.le_trans Zs56 (Nat.le_of_eq g65.symm)
    have sz65 := Nat.le_trans K56.1 (Nat.le_of_eq g65.symm)
    have K65 := K56.ext E65
    have Zs65 := Nat.le_trans Zs56 E65.1
    have P65 : PA Z h65 b65 .int (List.replicate v64.toNatClampNeg (0 : Int32)) := PA.new Ar65 gn65 rfl rfl
    refine os st65 ?_
    obtain ⟨cl73, Aq73, Cq73, S73, M73, H73, G73⟩ := id F72
    have in73 : ¬ ((4 : Int32) < 0 ∨ cl73.slots.size ≤ (4 : Int32).toNatClampNeg) := inb_of S73 ⟨by decide, by decide⟩
    obtain ⟨T73, h73, X73, e73, W73, st73⟩ := stR X65 hx hZ e65 Aq73 in73 rfl (Sto.ofVA Aq73 Cq73 Ov9 (Ins.self Ex65)) (g := (mkF m 121 #[rv net, iv 8, rv b1, rv b9, iv 4, o_] [(.ref b65), (.int 4), (.ref b9)])) rfl rfl (hb hby (eD D19_1_ 8 rfl))
    have F74 := F66.other W73 (hS2 _ sz9)
    have F75 := F67.other W73 ne9_b1
    have F76 := F68.other W73 (Ne.symm ne13_b9)
    have F77 := F69.other W73 (Ne.symm ne23_b9)
    have F78 := F70.other W73 (Ne.symm ne35_b9)
    have F79 := F71.other W73 (Ne.symm ne49_b9)
    have F80 := P65.other W73 (Ne.symm ne65_b9)
    have F81 := Ex65.wr W73
    have V73 : Arv Z h73 b9 c9 (.array .int) (8 : Int32) [(.ref b13), (.ref b23), (.ref b35), (.ref b49), (.ref b65), .null, .null, .null] .null := Arv.set Aq73 Cq73 S73 M73 H73 G73 rfl W73 4 (by decide) (by show 4 < 8; decide)
    have K73 := K65.wr W73 (Or.inr sz9)
    have N73 := Fr.snoc X73 N56 gb9
    have Zs73 := ozw W73 Zs65
    refine os st73 ?_
    show OG p e below Φ T73 m 122 #[rv net, iv 8, rv b1, rv b9, iv 4, o_] []
    refine os (fun _ z => XS.iinc X73.here hx rfl (hb hby (eD D19_1_ 9 rfl)) rfl (l' := #[rv net, iv 8, rv b1, rv b9, iv (4 + 1), o_]) rfl z) ?_
    show OG p e below Φ T73 m 125 #[rv net, iv 8, rv b1, rv b9, iv 5, o_] []
    refine gGo (pc := 125) (pc' := 106) X73 hx hby (eD D19_1_ 10 rfl) (by decide) (by decide) ?_
    refine gI X73 hx hby (eD D19_0_ 15 rfl) rfl ?_
    refine gIn X73 hx hby (eD D19_1_ 0 rfl) rfl ?_
    refine gCn X73 hx hby (eD D19_1_ 1 rfl) (XT.ii_ge_f (by decide)) ?_
    refine gAn X73 hx hby (eD D19_1_ 2 rfl) rfl rfl ?_
    refine gI X73 hx hby (eD D19_1_ 3 rfl) rfl ?_
    refine gAn X73 hx hby (eD D19_1_ 4 rfl) rfl rfl ?_
    refine gI X73 hx hby (eD D19_1_ 5 rfl) rfl ?_
    replace hK := kld_some hK
    obtain ⟨v82, in82, ev82, hK⟩ := hK
    obtain ⟨cl82, Aq82, iq82, at82⟩ := PA.get F75 in82 ev82
    refine os (fun _ z => X73.iaload hx (by rw [e73]; exact Aq82.1) (oia hZ Aq82.2.1) Aq82.2.2 iq82 at82 (g := (mkF m 118 #[rv net, iv 8, rv b1, rv b9, iv 5, o_] [(.int 5), (.ref b1), (.int 5), (.ref b9)])) rfl rfl (hb hby (eD D19_1_ 6 rfl)) _ z) ?_
    replace hK := kgd_some hK
    obtain ⟨gn83, gc83, hK⟩ := hK
    obtain ⟨T83, h83, c83, X83, e83, E83, Ar83, Ex83, st83⟩ := newPE (aty := .int) X73 hx hZ (ow139 hw) e73 (g := (mkF m 119 #[rv net, iv 8, rv b1, rv b9, iv 5, o_] [(.int v82), (.int 5), (.ref b9)])) rfl (hb hby (eD D19_1_ 7 rfl)) rfl gn83 (cap := 8) gc83 (by decide) (by decide) (by decide) (ad := "[I") (by decide)
    obtain ⟨b83, g83⟩ : ∃ z, z = h73.size := ⟨_, rfl⟩
    rw [← g83] at Ar83 Ex83 st83
    have ne83_b1 := one_ g83 F75.lt
    have ne83_b13 := one_ g83 F76.lt
    have ne83_b23 := one_ g83 F77.lt
    have ne83_b35 := one_ g83 F78.lt
    have ne83_b49 := one_ g83 F79.lt
    have ne83_b65 := one_ g83 F80.lt
    have ne83_b9 := one_ g83 V73.lt
    have F84 := F74.ext E83
    have F85 := F75.ext E83
    have F86 := F76.ext E83
    have F87 := F77.ext E83
    have F88 := F78.ext E83
    have F89 := F79.ext E83
    have F90 := F80.ext E83
    have F91 := V73.ext E83
    have gb83 := Nat.le_trans Zs73 (Nat.le_of_eq g83.symm)
    have sz83 := Nat.le_trans K73.1 (Nat.le_of_eq g83.symm)
    have K83 := K73.ext E83
    have Zs83 := Nat.le_trans Zs73 E83.1
    have P83 : PA Z h83 b83 .int (List.replicate v82.toNatClampNeg (0 : Int32)) := PA.new Ar83 gn83 rfl rfl
    refine os st83 ?_
    obtain ⟨cl92, Aq92, Cq92, S92, M92, H92, G92⟩ := id F91
    have in92 : ¬ ((5 : Int32) < 0 ∨ cl92.slots.size ≤ (5 : Int32).toNatClampNeg) := inb_of S92 ⟨by decide, by decide⟩
    obtain ⟨T92, h92, X92, e92, W92, st92⟩ := stR X83 hx hZ e83 Aq92 in92 rfl (Sto.ofVA Aq92 Cq92 Ov9 (Ins.self Ex83)) (g := (mkF m 121 #[rv net, iv 8, rv b1, rv b9, iv 5, o_] [(.ref b83), (.int 5), (.ref b9)])) rfl rfl (hb hby (eD D19_1_ 8 rfl))
    have F93 := F84.other W92 (hS2 _ sz9)
    have F94 := F85.other W92 ne9_b1
    have F95 := F86.other W92 (Ne.symm ne13_b9)
    have F96 := F87.other W92 (Ne.symm ne23_b9)
    have F97 := F88.other W92 (Ne.symm ne35_b9)
    have F98 := F89.other W92 (Ne.symm ne49_b9)
    have F99 := F90.other W92 (Ne.symm ne65_b9)
    have F100 := P83.other W92 (Ne.symm ne83_b9)
    have F101 := Ex83.wr W92
    have V92 : Arv Z h92 b9 c9 (.array .int) (8 : Int32) [(.ref b13), (.ref b23), (.ref b35), (.ref b49), (.ref b65), (.ref b83), .null, .null] .null := Arv.set Aq92 Cq92 S92 M92 H92 G92 rfl W92 5 (by decide) (by show 5 < 8; decide)
    have K92 := K83.wr W92 (Or.inr sz9)
    have N92 := Fr.snoc X92 N73 gb9
    have Zs92 := ozw W92 Zs83
    refine os st92 ?_
    show OG p e below Φ T92 m 122 #[rv net, iv 8, rv b1, rv b9, iv 5, o_] []
    refine os (fun _ z => XS.iinc X92.here hx rfl (hb hby (eD D19_1_ 9 rfl)) rfl (l' := #[rv net, iv 8, rv b1, rv b9, iv (5 + 1), o_]) rfl z) ?_
    show OG p e below Φ T92 m 125 #[rv net, iv 8, rv b1, rv b9, iv 6, o_] []
    refine gGo (pc := 125) (pc' := 106) X92 hx hby (eD D19_1_ 10 rfl) (by decide) (by decide) ?_
    refine gI X92 hx hby (eD D19_0_ 15 rfl) rfl ?_
    refine gIn X92 hx hby (eD D19_1_ 0 rfl) rfl ?_
    refine gCn X92 hx hby (eD D19_1_ 1 rfl) (XT.ii_ge_f (by decide)) ?_
    refine gAn X92 hx hby (eD D19_1_ 2 rfl) rfl rfl ?_
    refine gI X92 hx hby (eD D19_1_ 3 rfl) rfl ?_
    refine gAn X92 hx hby (eD D19_1_ 4 rfl) rfl rfl ?_
    refine gI X92 hx hby (eD D19_1_ 5 rfl) rfl ?_
    replace hK := kld_some hK
    obtain ⟨v102, in102, ev102, hK⟩ := hK
    obtain ⟨cl102, Aq102, iq102, at102⟩ := PA.get F94 in102 ev102
    refine os (fun _ z => X92.iaload hx (by rw [e92]; exact Aq102.1) (oia hZ Aq102.2.1) Aq102.2.2 iq102 at102 (g := (mkF m 118 #[rv net, iv 8, rv b1, rv b9, iv 6, o_] [(.int 6), (.ref b1), (.int 6), (.ref b9)])) rfl rfl (hb hby (eD D19_1_ 6 rfl)) _ z) ?_
    replace hK := kgd_some hK
    obtain ⟨gn103, gc103, hK⟩ := hK
    obtain ⟨T103, h103, c103, X103, e103, E103, Ar103, Ex103, st103⟩ := newPE (aty := .int) X92 hx hZ (ow139 hw) e92 (g := (mkF m 119 #[rv net, iv 8, rv b1, rv b9, iv 6, o_] [(.int v102), (.int 6), (.ref b9)])) rfl (hb hby (eD D19_1_ 7 rfl)) rfl gn103 (cap := 8) gc103 (by decide) (by decide) (by decide) (ad := "[I") (by decide)
    obtain ⟨b103, g103⟩ : ∃ z, z = h92.size := ⟨_, rfl⟩
    rw [← g103] at Ar103 Ex103 st103
    have ne103_b1 := one_ g103 F94.lt
    have ne103_b13 := one_ g103 F95.lt
    have ne103_b23 := one_ g103 F96.lt
    have ne103_b35 := one_ g103 F97.lt
    have ne103_b49 := one_ g103 F98.lt
    have ne103_b65 := one_ g103 F99.lt
    have ne103_b83 := one_ g103 F100.lt
    have ne103_b9 := one_ g103 V92.lt
    have F104 := F93.ext E103
    have F105 := F94.ext E103
    have F106 := F95.ext E103
    have F107 := F96.ext E103
    have F108 := F97.ext E103
    have F109 := F98.ext E103
    have F110 := F99.ext E103
    have F111 := F100.ext E103
    have F112 := V92.ext E103
    have gb103 := Nat.le_trans Zs92 (Nat.le_of_eq g103.symm)
    have sz103 := Nat.le_trans K92.1 (Nat.le_of_eq g103.symm)
    have K103 := K92.ext E103
    have Zs103 := Nat.le_trans Zs92 E103.1
    have P103 : PA Z h103 b103 .int (List.replicate v102.toNatClampNeg (0 : Int32)) := PA.new Ar103 gn103 rfl rfl
    refine os st103 ?_
    obtain ⟨cl113, Aq113, Cq113, S113, M113, H113, G113⟩ := id F112
    have in113 : ¬ ((6 : Int32) < 0 ∨ cl113.slots.size ≤ (6 : Int32).toNatClampNeg) := inb_of S113 ⟨by decide, by decide⟩
    obtain ⟨T113, h113, X113, e113, W113, st113⟩ := stR X103 hx hZ e103 Aq113 in113 rfl (Sto.ofVA Aq113 Cq113 Ov9 (Ins.self Ex103)) (g := (mkF m 121 #[rv net, iv 8, rv b1, rv b9, iv 6, o_] [(.ref b103), (.int 6), (.ref b9)])) rfl rfl (hb hby (eD D19_1_ 8 rfl))
    have F114 := F104.other W113 (hS2 _ sz9)
    have F115 := F105.other W113 ne9_b1
    have F116 := F106.other W113 (Ne.symm ne13_b9)
    have F117 := F107.other W113 (Ne.symm ne23_b9)
    have F118 := F108.other W113 (Ne.symm ne35_b9)
    have F119 := F109.other W113 (Ne.symm ne49_b9)
    have F120 := F110.other W113 (Ne.symm ne65_b9)
    have F121 := F111.other W113 (Ne.symm ne83_b9)
    have F122 := P103.other W113 (Ne.symm ne103_b9)
    have F123 := Ex103.wr W113
    have V113 : Arv Z h113 b9 c9 (.array .int) (8 : Int32) [(.ref b13), (.ref b23), (.ref b35), (.ref b49), (.ref b65), (.ref b83), (.ref b103), .null] .null := Arv.set Aq113 Cq113 S113 M113 H113 G113 rfl W113 6 (by decide) (by show 6 < 8; decide)
    have K113 := K103.wr W113 (Or.inr sz9)
    have N113 := Fr.snoc X113 N92 gb9
    have Zs113 := ozw W113 Zs103
    refine os st113 ?_
    show OG p e below Φ T113 m 122 #[rv net, iv 8, rv b1, rv b9, iv 6, o_] []
    refine os (fun _ z => XS.iinc X113.here hx rfl (hb hby (eD D19_1_ 9 rfl)) rfl (l' := #[rv net, iv 8, rv b1, rv b9, iv (6 + 1), o_]) rfl z) ?_
    show OG p e below Φ T113 m 125 #[rv net, iv 8, rv b1, rv b9, iv 7, o_] []
    refine gGo (pc := 125) (pc' := 106) X113 hx hby (eD D19_1_ 10 rfl) (by decide) (by decide) ?_
    refine gI X113 hx hby (eD D19_0_ 15 rfl) rfl ?_
    refine gIn X113 hx hby (eD D19_1_ 0 rfl) rfl ?_
    refine gCn X113 hx hby (eD D19_1_ 1 rfl) (XT.ii_ge_f (by decide)) ?_
    refine gAn X113 hx hby (eD D19_1_ 2 rfl) rfl rfl ?_
    refine gI X113 hx hby (eD D19_1_ 3 rfl) rfl ?_
    refine gAn X113 hx hby (eD D19_1_ 4 rfl) rfl rfl ?_
    refine gI X113 hx hby (eD D19_1_ 5 rfl) rfl ?_
    replace hK := kld_some hK
    obtain ⟨v124, in124, ev124, hK⟩ := hK
    obtain ⟨cl124, Aq124, iq124, at124⟩ := PA.get F115 in124 ev124
    refine os (fun _ z => X113.iaload hx (by rw [e113]; exact Aq124.1) (oia hZ Aq124.2.1) Aq124.2.2 iq124 at124 (g := (mkF m 118 #[rv net, iv 8, rv b1, rv b9, iv 7, o_] [(.int 7), (.ref b1), (.int 7), (.ref b9)])) rfl rfl (hb hby (eD D19_1_ 6 rfl)) _ z) ?_
    replace hK := kgd_some hK
    obtain ⟨gn125, gc125, hK⟩ := hK
    obtain ⟨T125, h125, c125, X125, e125, E125, Ar125, Ex125, st125⟩ := newPE (aty := .int) X113 hx hZ (ow139 hw) e113 (g := (mkF m 119 #[rv net, iv 8, rv b1, rv b9, iv 7, o_] [(.int v124), (.int 7), (.ref b9)])) rfl (hb hby (eD D19_1_ 7 rfl)) rfl gn125 (cap := 8) gc125 (by decide) (by decide) (by decide) (ad := "[I") (by decide)
    obtain ⟨b125, g125⟩ : ∃ z, z = h113.size := ⟨_, rfl⟩
    rw [← g125] at Ar125 Ex125 st125
    have ne125_b1 := one_ g125 F115.lt
    have ne125_b103 := one_ g125 F122.lt
    have ne125_b13 := one_ g125 F116.lt
    have ne125_b23 := one_ g125 F117.lt
    have ne125_b35 := one_ g125 F118.lt
    have ne125_b49 := one_ g125 F119.lt
    have ne125_b65 := one_ g125 F120.lt
    have ne125_b83 := one_ g125 F121.lt
    have ne125_b9 := one_ g125 V113.lt
    have F126 := F114.ext E125
    have F127 := F115.ext E125
    have F128 := F116.ext E125
    have F129 := F117.ext E125
    have F130 := F118.ext E125
    have F131 := F119.ext E125
    have F132 := F120.ext E125
    have F133 := F121.ext E125
    have F134 := F122.ext E125
    have F135 := V113.ext E125
    have gb125 := Nat.le_trans Zs113 (Nat.le_of_eq g125.symm)
    have sz125 := Nat.le_trans K113.1 (Nat.le_of_eq g125.symm)
    have K125 := K113.ext E125
    have Zs125 := Nat.le_trans Zs113 E125.1
    have P125 : PA Z h125 b125 .int (List.replicate v124.toNatClampNeg (0 : Int32)) := PA.new Ar125 gn125 rfl rfl
    refine os st125 ?_
    obtain ⟨cl136, Aq136, Cq136, S136, M136, H136, G136⟩ := id F135
    have in136 : ¬ ((7 : Int32) < 0 ∨ cl136.slots.size ≤ (7 : Int32).toNatClampNeg) := inb_of S136 ⟨by decide, by decide⟩
    obtain ⟨T136, h136, X136, e136, W136, st136⟩ := stR X125 hx hZ e125 Aq136 in136 rfl (Sto.ofVA Aq136 Cq136 Ov9 (Ins.self Ex125)) (g := (mkF m 121 #[rv net, iv 8, rv b1, rv b9, iv 7, o_] [(.ref b125), (.int 7), (.ref b9)])) rfl rfl (hb hby (eD D19_1_ 8 rfl))
    have F137 := F126.other W136 (hS2 _ sz9)
    have F138 := F127.other W136 ne9_b1
    have F139 := F128.other W136 (Ne.symm ne13_b9)
    have F140 := F129.other W136 (Ne.symm ne23_b9)
    have F141 := F130.other W136 (Ne.symm ne35_b9)
    have F142 := F131.other W136 (Ne.symm ne49_b9)
    have F143 := F132.other W136 (Ne.symm ne65_b9)
    have F144 := F133.other W136 (Ne.symm ne83_b9)
    have F145 := F134.other W136 (Ne.symm ne103_b9)
    have F146 := P125.other W136 (Ne.symm ne125_b9)
    have F147 := Ex125.wr W136
    have V136 : Arv Z h136 b9 c9 (.array .int) (8 : Int32) [(.ref b13), (.ref b23), (.ref b35), (.ref b49), (.ref b65), (.ref b83), (.ref b103), (.ref b125)] .null := Arv.set Aq136 Cq136 S136 M136 H136 G136 rfl W136 7 (by decide) (by show 7 < 8; decide)
    have K136 := K125.wr W136 (Or.inr sz9)
    have N136 := Fr.snoc X136 N113 gb9
    have Zs136 := ozw W136 Zs125
    refine os st136 ?_
    show OG p e below Φ T136 m 122 #[rv net, iv 8, rv b1, rv b9, iv 7, o_] []
    refine os (fun _ z => XS.iinc X136.here hx rfl (hb hby (eD D19_1_ 9 rfl)) rfl (l' := #[rv net, iv 8, rv b1, rv b9, iv (7 + 1), o_]) rfl z) ?_
    show OG p e below Φ T136 m 125 #[rv net, iv 8, rv b1, rv b9, iv 8, o_] []
    refine gGo (pc := 125) (pc' := 106) X136 hx hby (eD D19_1_ 10 rfl) (by decide) (by decide) ?_
    refine gI X136 hx hby (eD D19_0_ 15 rfl) rfl ?_
    refine gIn X136 hx hby (eD D19_1_ 0 rfl) rfl ?_
    refine gCy (pc := 109) (pc' := 128) X136 hx hby (eD D19_1_ 1 rfl) (XT.ii_ge_t (by decide)) (by decide) (by decide) ?_
    show OG p e below Φ T136 m 128 #[rv net, iv 8, rv b1, rv b9, iv 8, o_] []
    have AA148 := AA.mk8 V136 F139 F140 F141 F142 F143 F144 F145 F146 (by simp [ne23_b13, ne35_b13, ne49_b13, ne65_b13, ne83_b13, ne103_b13, ne125_b13, ne35_b23, ne49_b23, ne65_b23, ne83_b23, ne103_b23, ne125_b23, ne49_b35, ne65_b35, ne83_b35, ne103_b35, ne125_b35, ne65_b49, ne83_b49, ne103_b49, ne125_b49, ne83_b65, ne103_b65, ne125_b65, ne103_b83, ne125_b83, ne125_b103]) (by simp [ne13_b9, ne23_b9, ne35_b9, ne49_b9, ne65_b9, ne83_b9, ne103_b9, ne125_b9])
    have ni148 : b1 ≠ b9 ∧ b1 ∉ [b13, b23, b35, b49, b65, b83, b103, b125] := ⟨ne9_b1, by simp [ne13_b1, ne23_b1, ne35_b1, ne49_b1, ne65_b1, ne83_b1, ne103_b1, ne125_b1]⟩
    have lo148 : ∀ x ∈ [b13, b23, b35, b49, b65, b83, b103, b125], h0.size ≤ x := by simp only [List.mem_cons, List.not_mem_nil, or_false]; rintro x (rfl | rfl | rfl | rfl | rfl | rfl | rfl | rfl) <;> assumption
    refine gAn X136 hx hby (eD D19_1_ 11 rfl) rfl rfl ?_
    refine gIc (x := 0) X136 hx hby (eD D19_1_ 12 rfl) rfl ?_
    replace hK := kbd_some hK
    obtain ⟨v149, kb149, hK⟩ := hK
    obtain ⟨_, T149, L149, X149, hQ149, st149⟩ := own_callSt X136 hx hZ hown (ow214 hw) (ow215 hw) (ow216 hw) (ow217 hw) (by decide) (rfi l Z a0 hw [] b1 z14_0 (0 : Int32) v149 h136 n0 Zs136 F138 gb1 kb149) e136 (W := 0) (by decide) (pc := 130) (ls := #[rv net, iv 8, rv b1, rv b9, iv 8, o_]) (stk := [(.int 0), (.ref b1)]) (by rw [hml]; rfl) (argsL := [(.ref b1), (.int 0)]) (rest := []) (lenOf pd15 rfl) rfl rfl (Nat.le_of_eq rfl) (hb hby (eD D19_1_ 13 rfl))
    obtain ⟨rfl, Nq149, Kq149, Pq149⟩ := hQ149
    have N149 := Fr.app N136 Nq149
    have Zs149 := Nat.le_trans Zs136 Kq149.1
    have F150 := F137.keep Kq149 (allS (hS2 _ sz1) all0)
    have F151 := AA148.keep Kq149 (allS ni148 all0)
    have K149 := K136.trans Kq149 (allS (Or.inr sz1) all0)
    refine os st149 ?_
    refine gIc (x := 0) X149 hx hby (eD D19_1_ 14 rfl) rfl ?_
    refine gIs X149 hx hby (eD D19_1_ 15 rfl) (ls' := #[rv net, iv 8, rv b1, rv b9, iv 0, o_]) rfl ?_
    show OG p e below Φ T149 m 136 #[rv net, iv 8, rv b1, rv b9, iv 0, o_] []
    have J136 : ∀ (nn136 : Nat) (i136_4 : Int32) (z136_0 : List Int32) (zz136_0 : List (List Int32)) (s136_5 : Slot) (q136_5 : own_s1 s136_5) (Tj136 : State) (hj136 : Heap) (Lj136 : List Loc), Stand p l e ({ frames := 3, cells := 11, slots := 84, locals := 40 } : Room) s m #[(.ref net), (.int (8 : Int32))] below meth c Tj136 Lj136 11 84 → Tj136.heap = hj136 → Fr n0 Lj136 → n0 ≤ hj136.size → Keep h0 hj136 [] → NetP Z hj136 S net lj lr lp d mc ps → AA Z hj136 b9 [b13, b23, b35, b49, b65, b83, b103, b125] zz136_0 → PA Z hj136 b1 .int z136_0 → incK_k136 ps  nn136 i136_4 z136_0 zz136_0 = some t_ → OG p e below Φ Tj136 m 136 #[rv net, iv (8 : Int32), rv b1, rv b9, iv i136_4, s136_5] [] := by
     clear hK
     clear nq4_b1 gq4 sq4 Xj14 ej14 Nj14 Zj14 Kj14 fj14_0 fj14_1 fj14_2 fj14_3 fj14_4 fj14_5 fj14_6 X7 st7 Nq7 e7 N7 X9 e9 E9 Ar9 Ex9 Ov9 st9 g9 ne9_b1 F10 F11 gb9 K9 Zs9 V9 in12 ev12 Aq12 iq12 at12 gn13 gc13 X13 e13 E13 Ar13 Ex13 st13 g13 ne13_b1 ne13_b9 F14 F15 F16 gb13 sz13 K13 Zs13 P13 Aq17 S17 M17 in17 X17 e17 W17 st17 F18 F19 F20 F21 V17 K17 N17 Zs17 in22 ev22 Aq22 iq22 at22 gn23 gc23 X23 e23 E23 Ar23 Ex23 st23 g23 ne23_b1 ne23_b13 ne23_b9 F24 F25 F26 F27 gb23 sz23 K23 Zs23 P23 Aq28 S28 M28 in28 X28 e28 W28 st28 F29 F30 F31 F32 F33 V28 K28 N28 Zs28 in34 ev34 Aq34 iq34 at34 gn35 gc35 X35 e35 E35 Ar35 Ex35 st35 g35 ne35_b1 ne35_b13 ne35_b23 ne35_b9 F36 F37 F38 F39 F40 gb35 sz35 K35 Zs35 P35 Aq41 S41 M41 in41 X41 e41 W41 st41 F42 F43 F44 F45 F46 F47 V41 K41 N41 Zs41 in48 ev48 Aq48 iq48 at48 gn49 gc49 X49 e49 E49 Ar49 Ex49 st49 g49 ne49_b1 ne49_b13 ne49_b23 ne49_b35 ne49_b9 F50 F51 F52 F53 F54 F55 gb49 sz49 K49 Zs49 P49 Aq56 S56 M56 in56 X56 e56 W56 st56 F57 F58 F59 F60 F61 F62 F63 V56 K56 N56 Zs56 in64 ev64 Aq64 iq64 at64 gn65 gc65 X65 e65 E65 Ar65 Ex65 st65 g65 ne65_b1 ne65_b13 ne65_b23 ne65_b35 ne65_b49 ne65_b9 F66 F67 F68 F69 F70 F71 F72 gb65 sz65 K65 Zs65 P65 Aq73 S73 M73 in73 X73 e73 W73 st73 F74 F75 F76 F77 F78 F79 F80 F81 V73 K73 N73 Zs73 in82 ev82 Aq82 iq82 at82 gn83 gc83 X83 e83 E83 Ar83 Ex83 st83 g83 ne83_b1 ne83_b13 ne83_b23 ne83_b35 ne83_b49 ne83_b65 ne83_b9 F84 F85 F86 F87 F88 F89 F90 F91 gb83 sz83 K83 Zs83 P83 Aq92 S92 M92 in92 X92 e92 W92 st92 F93 F94 F95 F96 F97 F98 F99 F100 F101 V92 K92 N92 Zs92 in102 ev102 Aq102 iq102 at102 gn103 gc103 X103 e103 E103 Ar103 Ex103 st103 g103 ne103_b1 ne103_b13 ne103_b23 ne103_b35 ne103_b49 ne103_b65 ne103_b83 ne103_b9 F104 F105 F106 F107 F108 F109 F110 F111 F112 gb103 sz103 K103 Zs103 P103 Aq113 S113 M113 in113 X113 e113 W113 st113 F114 F115 F116 F117 F118 F119 F120 F121 F122 F123 V113 K113 N113 Zs113 in124 ev124 Aq124 iq124 at124 gn125 gc125 X125 e125 E125 Ar125 Ex125 st125 g125 ne125_b1 ne125_b103 ne125_b13 ne125_b23 ne125_b35 ne125_b49 ne125_b65 ne125_b83 ne125_b9 F126 F127 F128 F129 F130 F131 F132 F133 F134 F135 gb125 sz125 K125 Zs125 P125 Aq136 S136 M136 in136 X136 e136 W136 st136 F137 F138 F139 F140 F141 F142 F143 F144 F145 F146 F147 V136 K136 N136 Zs136 AA148 kb149 X149 st149 Nq149 Kq149 Pq149 N149 Zs149 F150 F151 K149
     intro nn136
     induction nn136 with
     | zero => intro i136_4 z136_0 zz136_0 s136_5 q136_5 Tj136 hj136 Lj136 Xj136 ej136 Nj136 Zj136 Kj136 fj136_0 fj136_1 fj136_2 hK; exact (knone hK).elim
     | succ nn136 ih136 =>
      intro i136_4 z136_0 zz136_0 s136_5 q136_5 Tj136 hj136 Lj136 Xj136 ej136 Nj136 Zj136 Kj136 fj136_0 fj136_1 fj136_2 hK
      show OG p e below Φ Tj136 m 136 #[rv net, iv 8, rv b1, rv b9, iv i136_4, s136_5] []
      refine gI Xj136 hx hby (eD D19_2_ 0 rfl) rfl ?_
      refine gAn Xj136 hx hby (eD D19_2_ 1 rfl) rfl rfl ?_
      obtain ⟨_, T152, L152, X152, hQ152, st152⟩ := own_callVi Xj136 hx hZ hown (ow140 hw) (ow141 hw) (notFace_of_selects (args := #[]) (mvT hZ (ow143 hw))) (ow143 hw) (ow142 hw) (ow96 hw) (ow144 hw) (by decide) (rgn2 l Z a0 hw [] net lp hj136 n0 Zj136 fj136_0.2.2.2.2.1) ej136 (W := 1) (by decide) fj136_0.2.1 (pc := 139) (ls := #[rv net, iv 8, rv b1, rv b9, iv i136_4, s136_5]) (stk := [(.ref net), (.int i136_4)]) (by rw [hml]; rfl) (argsL := []) (rest := [(.int i136_4)]) (lenOf pd10 rfl) rfl rfl (Nat.le_of_eq rfl) (hb hby (eD D19_2_ 2 rfl))
      obtain ⟨rfl, Nq152, e152⟩ := hQ152
      have N152 := Fr.app Nj136 Nq152
      refine os st152 ?_
      obtain ⟨_, T153, L153, X153, hQ153, st153⟩ := own_callIf X152 hx hZ hown (ow122 hw) (ow123 hw) (mvT hZ (ow124 hw)) (ow125 hw) (ow126 hw) (ow127 hw) (ow128 hw) (ow129 hw) (ow3 hw) (ow130 hw) (by decide) (rgs l Z a0 hw [] lp (own_n ps) hj136 n0 Zj136 fj136_0.2.2.2.2.2.2.2.2.2.2.2.1) e152 (W := 1) (by decide) fj136_0.2.2.2.2.2.2.2.2.2.1 (pc := 142) (ls := #[rv net, iv 8, rv b1, rv b9, iv i136_4, s136_5]) (stk := [(.ref lp), (.int i136_4)]) (by rw [hml]; rfl) (argsL := []) (rest := [(.int i136_4)]) (lenOf pd11 rfl) rfl rfl (Nat.le_of_eq rfl) (hb hby (eD D19_2_ 3 rfl))
      obtain ⟨rfl, Nq153, e153⟩ := hQ153
      have N153 := Fr.app N152 Nq153
      refine os st153 ?_
      by_cases hc154 : i136_4 < (own_n ps)
      replace hK := kif_t hc154 hK
      refine gCn X153 hx hby (eD D19_2_ 4 rfl) (XT.ii_ge_f hc154) ?_
      refine gAn X153 hx hby (eD D19_2_ 5 rfl) rfl rfl ?_
      obtain ⟨_, T155, L155, X155, hQ155, st155⟩ := own_callVi X153 hx hZ hown (ow140 hw) (ow141 hw) (notFace_of_selects (args := #[]) (mvT hZ (ow143 hw))) (ow143 hw) (ow142 hw) (ow96 hw) (ow144 hw) (by decide) (rgn2 l Z a0 hw [] net lp hj136 n0 Zj136 fj136_0.2.2.2.2.1) e153 (W := 0) (by decide) fj136_0.2.1 (pc := 151) (ls := #[rv net, iv 8, rv b1, rv b9, iv i136_4, s136_5]) (stk := [(.ref net)]) (by rw [hml]; rfl) (argsL := []) (rest := []) (lenOf pd10 rfl) rfl rfl (Nat.le_of_eq rfl) (hb hby (eD D19_2_ 6 rfl))
      obtain ⟨rfl, Nq155, e155⟩ := hQ155
      have N155 := Fr.app N153 Nq155
      refine os st155 ?_
      refine gI X155 hx hby (eD D19_2_ 7 rfl) rfl ?_
      replace hK := kpp_some hK
      obtain ⟨q156, in156, eq156, hK⟩ := hK
      obtain ⟨_, T156, L156, X156, hQ156, st156⟩ := own_callIf X155 hx hZ hown (ow218 hw) (ow219 hw) (mvT hZ (ow220 hw)) (ow221 hw) (ow222 hw) (ow223 hw) (ow224 hw) (ow129 hw) (ow3 hw) (ow225 hw) (by decide) (rget l Z a0 hw [] S lp d mc ps i136_4 q156 hj136 n0 Zj136 fj136_0.2.2.2.2.2.2.2.2.2.1 fj136_0.2.2.2.2.2.2.2.2.2.2.1 fj136_0.2.2.2.2.2.2.2.2.2.2.2.1 fj136_0.2.2.2.2.2.2.2.2.2.2.2.2.1 fj136_0.2.2.2.2.2.2.2.2.2.2.2.2.2 in156 eq156) e155 (W := 0) (by decide) fj136_0.2.2.2.2.2.2.2.2.2.1 (pc := 156) (ls := #[rv net, iv 8, rv b1, rv b9, iv i136_4, s136_5]) (stk := [(.int i136_4), (.ref lp)]) (by rw [hml]; rfl) (argsL := [(.int i136_4)]) (rest := []) (lenOf pd9 rfl) rfl rfl (Nat.le_of_eq rfl) (hb hby (eD D19_2_ 8 rfl))
      obtain ⟨y156, rfl, Nq156, e156, Y156, sy156⟩ := hQ156
      have N156 := Fr.app N155 Nq156
      rw [e156] at Y156
      refine os st156 ?_
      obtain ⟨T157, X157, e157, st157⟩ := castY X156 hx hZ hown (ow194 hw) e156 (Ins.self Y156.1) (g := (mkF m 161 #[rv net, iv 8, rv b1, rv b9, iv i136_4, s136_5] [(.ref y156)])) rfl rfl (hb hby (eD D19_2_ 9 rfl))
      refine os st157 ?_
      refine gAs X157 hx hby (eD D19_2_ 10 rfl) rfl (ls' := #[rv net, iv 8, rv b1, rv b9, iv i136_4, rv y156]) (XS.store1 rfl q136_5 rfl) ?_
      refine gA X157 hx hby (eD D19_2_ 11 rfl) rfl rfl ?_
      obtain ⟨_, T158, L158, X158, hQ158, st158⟩ := own_callVi X157 hx hZ hown (ow196 hw) (ow197 hw) (notFace_of_selects (args := #[]) (mvT hZ (ow199 hw))) (ow199 hw) (ow198 hw) (ow63 hw) (ow200 hw) (by decide) (rgo l Z a0 hw [] y156 q156.2.2 hj136 n0 Zj136 Y156.2.2.2.1 (PipeV.op Y156)) e157 (W := 0) (by decide) Y156.1 (pc := 168) (ls := #[rv net, iv 8, rv b1, rv b9, iv i136_4, rv y156]) (stk := [(.ref y156)]) (by rw [hml]; rfl) (argsL := []) (rest := []) (lenOf pd14 rfl) rfl rfl (Nat.le_of_eq rfl) (hb hby (eD D19_2_ 12 rfl))
      obtain ⟨rfl, Nq158, e158⟩ := hQ158
      have N158 := Fr.app N156 Nq158
      refine os st158 ?_
      by_cases hc159 : q156.2.2 = 0
      replace hK := kif_t hc159 hK
      refine gFy (pc := 171) (pc' := 218) X158 hx hby (eD D19_2_ 13 rfl) (XT.i0_eq_t hc159) (by decide) (by decide) ?_
      refine os (fun _ z => XS.iinc X158.here hx rfl (hb hby (eD D19_2_ 14 rfl)) rfl (l' := #[rv net, iv 8, rv b1, rv b9, iv (i136_4 + 1), rv y156]) rfl z) ?_
      show OG p e below Φ T158 m 221 #[rv net, iv 8, rv b1, rv b9, iv (i136_4 + 1), rv y156] []
      refine gGo (pc := 221) (pc' := 136) X158 hx hby (eD D19_2_ 15 rfl) (by decide) (by decide) ?_
      show OG p e below Φ T158 m 136 #[rv net, iv 8, rv b1, rv b9, iv (i136_4 + 1), rv y156] []
      exact ih136 ((i136_4 + 1)) z136_0 zz136_0 (rv y156) (Or.inr ⟨_, rfl, rfl⟩) _ _ _ X158 e158 N158 Zj136 Kj136 fj136_0 fj136_1 fj136_2 hK
      replace hK := kif_f hc159 hK
      refine gFn X158 hx hby (eD D19_2_ 13 rfl) (XT.i0_eq_f hc159) ?_
      refine gAn X158 hx hby (eD D19_3_ 0 rfl) rfl rfl ?_
      refine gA X158 hx hby (eD D19_3_ 1 rfl) rfl rfl ?_
      obtain ⟨_, T160, L160, X160, hQ160, st160⟩ := own_callVi X158 hx hZ hown (ow201 hw) (ow202 hw) (notFace_of_selects (args := #[]) (mvT hZ (ow204 hw))) (ow204 hw) (ow203 hw) (ow63 hw) (ow205 hw) (by decide) (rgf l Z a0 hw [] y156 q156.1 hj136 n0 Zj136 Y156.2.1) e158 (W := 1) (by decide) Y156.1 (pc := 177) (ls := #[rv net, iv 8, rv b1, rv b9, iv i136_4, rv y156]) (stk := [(.ref y156), (.ref b9)]) (by rw [hml]; rfl) (argsL := []) (rest := [(.ref b9)]) (lenOf pd11 rfl) rfl rfl (Nat.le_of_eq rfl) (hb hby (eD D19_3_ 2 rfl))
      obtain ⟨rfl, Nq160, e160⟩ := hQ160
      have N160 := Fr.app N158 Nq160
      refine os st160 ?_
      replace hK := kll_some hK
      obtain ⟨r161, in161, er161, hK⟩ := hK
      obtain ⟨b161, hb161⟩ : ∃ z, z = [b13, b23, b35, b49, b65, b83, b103, b125].getD q156.1.toNatClampNeg 0 := ⟨_, rfl⟩
      obtain ⟨cl161, Aq161, iq161, at161⟩ := AA.at fj136_1 in161 hb161
      have P161 := AA.row fj136_1 in161 hb161 er161
      have mb161 := AA.mem fj136_1 in161 hb161
      refine os (fun _ z => X160.aaload hx (by rw [e160]; exact Aq161.1) (oia hZ Aq161.2.1) rfl Aq161.2.2 iq161 at161 (g := (mkF m 180 #[rv net, iv 8, rv b1, rv b9, iv i136_4, rv y156] [(.int q156.1), (.ref b9)])) rfl rfl (hb hby (eD D19_3_ 3 rfl)) _ z) ?_
      refine gAn X160 hx hby (eD D19_3_ 4 rfl) rfl rfl ?_
      refine gA X160 hx hby (eD D19_3_ 5 rfl) rfl rfl ?_
      obtain ⟨_, T162, L162, X162, hQ162, st162⟩ := own_callVi X160 hx hZ hown (ow201 hw) (ow202 hw) (notFace_of_selects (args := #[]) (mvT hZ (ow204 hw))) (ow204 hw) (ow203 hw) (ow63 hw) (ow205 hw) (by decide) (rgf l Z a0 hw [] y156 q156.1 hj136 n0 Zj136 Y156.2.1) e160 (W := 2) (by decide) Y156.1 (pc := 184) (ls := #[rv net, iv 8, rv b1, rv b9, iv i136_4, rv y156]) (stk := [(.ref y156), (.ref b1), (.ref b161)]) (by rw [hml]; rfl) (argsL := []) (rest := [(.ref b1), (.ref b161)]) (lenOf pd11 rfl) rfl rfl (Nat.le_of_eq rfl) (hb hby (eD D19_3_ 6 rfl))
      obtain ⟨rfl, Nq162, e162⟩ := hQ162
      have N162 := Fr.app N160 Nq162
      refine os st162 ?_
      refine os (fun _ z => XT.dup2 X162.here hx rfl (hb hby (eD D19_3_ 7 rfl)) rfl rfl rfl z) ?_
      replace hK := kld_some hK
      obtain ⟨v163, in163, ev163, hK⟩ := hK
      obtain ⟨cl163, Aq163, iq163, at163⟩ := PA.get fj136_2 in163 ev163
      refine os (fun _ z => X162.iaload hx (by rw [e162]; exact Aq163.1) (oia hZ Aq163.2.1) Aq163.2.2 iq163 at163 (g := (mkF m 188 #[rv net, iv 8, rv b1, rv b9, iv i136_4, rv y156] [(.int q156.1), (.ref b1), (.int q156.1), (.ref b1), (.ref b161)])) rfl rfl (hb hby (eD D19_3_ 8 rfl)) _ z) ?_
      refine os (fun _ z => own_dupX2 X162.here hx rfl (hb hby (eD D19_3_ 9 rfl)) rfl rfl rfl rfl z) ?_
      refine gIc (x := 1) X162 hx hby (eD D19_3_ 10 rfl) rfl ?_
      refine os (fun _ z => XS.iadd X162.here hx rfl (hb hby (eD D19_3_ 11 rfl)) rfl z) ?_
      replace hK := kst_some hK
      obtain ⟨x164, in164, ex164, hK⟩ := hK
      obtain ⟨cl164, Aq164, iq164, -⟩ := PA.get fj136_2 in164 rfl
      obtain ⟨T164, h164, X164, e164, W164, st164⟩ := stI X162 hx hZ e162 Aq164 iq164 (g := (mkF m 192 #[rv net, iv 8, rv b1, rv b9, iv i136_4, rv y156] [(.int (v163 + 1)), (.int q156.1), (.ref b1), (.int v163), (.ref b161)])) rfl rfl (hb hby (eD D19_3_ 12 rfl))
      have F165 := fj136_0.other W164 (hS2 _ sz1)
      have F166 := fj136_1.other W164 ni148
      have F167 := Y156.other W164 (own_sne sy156 (hS2 _ sz1))
      have F168 := P161.other W164 (own_nbx mb161.1 ni148)
      have P164 := PA.set fj136_2 in164 W164 rfl ex164
      have K164 := Kj136.wr W164 (Or.inr sz1)
      have N164 := Fr.snoc X164 N162 gb1
      have Zs164 := ozw W164 Zj136
      refine os st164 ?_
      refine gI X164 hx hby (eD D19_3_ 13 rfl) rfl ?_
      replace hK := kst_some hK
      obtain ⟨x169, in169, ex169, hK⟩ := hK
      obtain ⟨cl169, Aq169, iq169, -⟩ := PA.get F168 in169 rfl
      obtain ⟨T169, h169, X169, e169, W169, st169⟩ := stI X164 hx hZ e164 Aq169 iq169 (g := (mkF m 195 #[rv net, iv 8, rv b1, rv b9, iv i136_4, rv y156] [(.int i136_4), (.int v163), (.ref b161)])) rfl rfl (hb hby (eD D19_3_ 14 rfl))
      have F170 := F165.other W169 (hS2 _ (lo148 _ mb161.1))
      have F171 := F167.other W169 (own_sne sy156 (hS2 _ (lo148 _ mb161.1)))
      have F172 := P164.other W169 (Ne.symm (own_nbx mb161.1 ni148))
      have P169 := PA.set F168 in169 W169 rfl ex169
      have AA169 := AA.set F166 in161 hb161 W169 P169
      have K169 := K164.wr W169 (Or.inr (lo148 _ mb161.1))
      have N169 := Fr.snoc X169 N164 (Nat.le_trans Z0 (lo148 _ mb161.1))
      have Zs169 := ozw W169 Zs164
      refine os st169 ?_
      refine gAn X169 hx hby (eD D19_3_ 15 rfl) rfl rfl ?_
      refine gA X169 hx hby (eD D19_4_ 0 rfl) rfl rfl ?_
      obtain ⟨_, T173, L173, X173, hQ173, st173⟩ := own_callVi X169 hx hZ hown (ow206 hw) (ow207 hw) (notFace_of_selects (args := #[]) (mvT hZ (ow209 hw))) (ow209 hw) (ow208 hw) (ow63 hw) (ow210 hw) (by decide) (rgt l Z a0 hw [] y156 q156.2.1 h169 n0 Zs169 F171.2.2.1) e169 (W := 1) (by decide) F171.1 (pc := 199) (ls := #[rv net, iv 8, rv b1, rv b9, iv i136_4, rv y156]) (stk := [(.ref y156), (.ref b9)]) (by rw [hml]; rfl) (argsL := []) (rest := [(.ref b9)]) (lenOf pd11 rfl) rfl rfl (Nat.le_of_eq rfl) (hb hby (eD D19_4_ 1 rfl))
      obtain ⟨rfl, Nq173, e173⟩ := hQ173
      have N173 := Fr.app N169 Nq173
      refine os st173 ?_
      replace hK := kll_some hK
      obtain ⟨r174, in174, er174, hK⟩ := hK
      obtain ⟨b174, hb174⟩ : ∃ z, z = [b13, b23, b35, b49, b65, b83, b103, b125].getD q156.2.1.toNatClampNeg 0 := ⟨_, rfl⟩
      obtain ⟨cl174, Aq174, iq174, at174⟩ := AA.at AA169 in174 hb174
      have P174 := AA.row AA169 in174 hb174 er174
      have mb174 := AA.mem AA169 in174 hb174
      refine os (fun _ z => X173.aaload hx (by rw [e173]; exact Aq174.1) (oia hZ Aq174.2.1) rfl Aq174.2.2 iq174 at174 (g := (mkF m 202 #[rv net, iv 8, rv b1, rv b9, iv i136_4, rv y156] [(.int q156.2.1), (.ref b9)])) rfl rfl (hb hby (eD D19_4_ 2 rfl)) _ z) ?_
      refine gAn X173 hx hby (eD D19_4_ 3 rfl) rfl rfl ?_
      refine gA X173 hx hby (eD D19_4_ 4 rfl) rfl rfl ?_
      obtain ⟨_, T175, L175, X175, hQ175, st175⟩ := own_callVi X173 hx hZ hown (ow206 hw) (ow207 hw) (notFace_of_selects (args := #[]) (mvT hZ (ow209 hw))) (ow209 hw) (ow208 hw) (ow63 hw) (ow210 hw) (by decide) (rgt l Z a0 hw [] y156 q156.2.1 h169 n0 Zs169 F171.2.2.1) e173 (W := 2) (by decide) F171.1 (pc := 206) (ls := #[rv net, iv 8, rv b1, rv b9, iv i136_4, rv y156]) (stk := [(.ref y156), (.ref b1), (.ref b174)]) (by rw [hml]; rfl) (argsL := []) (rest := [(.ref b1), (.ref b174)]) (lenOf pd11 rfl) rfl rfl (Nat.le_of_eq rfl) (hb hby (eD D19_4_ 5 rfl))
      obtain ⟨rfl, Nq175, e175⟩ := hQ175
      have N175 := Fr.app N173 Nq175
      refine os st175 ?_
      refine os (fun _ z => XT.dup2 X175.here hx rfl (hb hby (eD D19_4_ 6 rfl)) rfl rfl rfl z) ?_
      replace hK := kld_some hK
      obtain ⟨v176, in176, ev176, hK⟩ := hK
      obtain ⟨cl176, Aq176, iq176, at176⟩ := PA.get F172 in176 ev176
      refine os (fun _ z => X175.iaload hx (by rw [e175]; exact Aq176.1) (oia hZ Aq176.2.1) Aq176.2.2 iq176 at176 (g := (mkF m 210 #[rv net, iv 8, rv b1, rv b9, iv i136_4, rv y156] [(.int q156.2.1), (.ref b1), (.int q156.2.1), (.ref b1), (.ref b174)])) rfl rfl (hb hby (eD D19_4_ 7 rfl)) _ z) ?_
      refine os (fun _ z => own_dupX2 X175.here hx rfl (hb hby (eD D19_4_ 8 rfl)) rfl rfl rfl rfl z) ?_
      show OG p e below Φ T175 m 212 #[rv net, iv 8, rv b1, rv b9, iv i136_4, rv y156] [(.int v176), (.int q156.2.1), (.ref b1), (.int v176), (.ref b174)]
      refine gIc (x := 1) X175 hx hby (eD D19_4_ 9 rfl) rfl ?_
      refine os (fun _ z => XS.iadd X175.here hx rfl (hb hby (eD D19_4_ 10 rfl)) rfl z) ?_
      replace hK := kst_some hK
      obtain ⟨x177, in177, ex177, hK⟩ := hK
      obtain ⟨cl177, Aq177, iq177, -⟩ := PA.get F172 in177 rfl
      obtain ⟨T177, h177, X177, e177, W177, st177⟩ := stI X175 hx hZ e175 Aq177 iq177 (g := (mkF m 214 #[rv net, iv 8, rv b1, rv b9, iv i136_4, rv y156] [(.int (v176 + 1)), (.int q156.2.1), (.ref b1), (.int v176), (.ref b174)])) rfl rfl (hb hby (eD D19_4_ 11 rfl))
      have F178 := F170.other W177 (hS2 _ sz1)
      have F179 := F171.other W177 (own_sne sy156 (hS2 _ sz1))
      have F180 := AA169.other W177 ni148
      have F181 := P174.other W177 (own_nbx mb174.1 ni148)
      have P177 := PA.set F172 in177 W177 rfl ex177
      have K177 := K169.wr W177 (Or.inr sz1)
      have N177 := Fr.snoc X177 N175 gb1
      have Zs177 := ozw W177 Zs169
      refine os st177 ?_
      refine gI X177 hx hby (eD D19_4_ 12 rfl) rfl ?_
      replace hK := kst_some hK
      obtain ⟨x182, in182, ex182, hK⟩ := hK
      obtain ⟨cl182, Aq182, iq182, -⟩ := PA.get F181 in182 rfl
      obtain ⟨T182, h182, X182, e182, W182, st182⟩ := stI X177 hx hZ e177 Aq182 iq182 (g := (mkF m 217 #[rv net, iv 8, rv b1, rv b9, iv i136_4, rv y156] [(.int i136_4), (.int v176), (.ref b174)])) rfl rfl (hb hby (eD D19_4_ 13 rfl))
      have F183 := F178.other W182 (hS2 _ (lo148 _ mb174.1))
      have F184 := F179.other W182 (own_sne sy156 (hS2 _ (lo148 _ mb174.1)))
      have F185 := P177.other W182 (Ne.symm (own_nbx mb174.1 ni148))
      have P182 := PA.set F181 in182 W182 rfl ex182
      have AA182 := AA.set F180 in174 hb174 W182 P182
      have K182 := K177.wr W182 (Or.inr (lo148 _ mb174.1))
      have N182 := Fr.snoc X182 N177 (Nat.le_trans Z0 (lo148 _ mb174.1))
      have Zs182 := ozw W182 Zs177
      refine os st182 ?_
      refine os (fun _ z => XS.iinc X182.here hx rfl (hb hby (eD D19_2_ 14 rfl)) rfl (l' := #[rv net, iv 8, rv b1, rv b9, iv (i136_4 + 1), rv y156]) rfl z) ?_
      show OG p e below Φ T182 m 221 #[rv net, iv 8, rv b1, rv b9, iv (i136_4 + 1), rv y156] []
      refine gGo (pc := 221) (pc' := 136) X182 hx hby (eD D19_2_ 15 rfl) (by decide) (by decide) ?_
      show OG p e below Φ T182 m 136 #[rv net, iv 8, rv b1, rv b9, iv (i136_4 + 1), rv y156] []
      exact ih136 ((i136_4 + 1)) x177 ((setR (setR zz136_0 q156.1.toNatClampNeg x169) q156.2.1.toNatClampNeg x182)) (rv y156) (Or.inr ⟨_, rfl, rfl⟩) _ _ _ X182 e182 N182 Zs182 K182 F183 AA182 F185 hK
      replace hK := kif_f hc154 hK
      refine gCy (pc := 147) (pc' := 224) X153 hx hby (eD D19_2_ 4 rfl) (XT.ii_ge_t hc154) (by decide) (by decide) ?_
      refine gAn X153 hx hby (eD D19_4_ 14 rfl) rfl rfl ?_
      refine OGo.fin X153 hlk (v := (some (.ref b9))) (fun h => by rw [hret] at h; cases h) (by decide) (by decide) (fun fs hr => X153.areturnOut hx rfl hret rfl (hb hby (eD D19_4_ 15 rfl)) hr) fun U eU hF => hΦ _ _ _ ?_ hF
      rw [eU, e153]
      show Q_rin Z S net lj lr lp d mc ps t_ h0 n0 _ _ _
      obtain rfl := Option.some.inj hK
      exact ⟨_, _, rfl, N153, Kj136, fj136_1, sz9, own_low sz9 lo148⟩
    exact J136 12 ((0 : Int32)) v149 ([(List.replicate v12.toNatClampNeg (0 : Int32)), (List.replicate v22.toNatClampNeg (0 : Int32)), (List.replicate v34.toNatClampNeg (0 : Int32)), (List.replicate v48.toNatClampNeg (0 : Int32)), (List.replicate v64.toNatClampNeg (0 : Int32)), (List.replicate v82.toNatClampNeg (0 : Int32)), (List.replicate v102.toNatClampNeg (0 : Int32)), (List.replicate v124.toNatClampNeg (0 : Int32))]) (o_) (Or.inl rfl) _ _ _ X149 rfl N149 Zs149 K149 F150 F151 Pq149 hK
    replace hK := kif_f hc8 hK
    refine gFn X7 hx hby (eD D19_0_ 9 rfl) (XT.i0_eq_f hc8) ?_
    refine gAn X7 hx hby (eD D19_5_ 0 rfl) rfl rfl ?_
    replace hK := kpp_some hK
    obtain ⟨q186, in186, eq186, hK⟩ := hK
    obtain ⟨_, T186, L186, X186, hQ186, st186⟩ := own_callIf X7 hx hZ hown (ow180 hw) (ow181 hw) (mvT hZ (ow182 hw)) (ow183 hw) (ow184 hw) (ow185 hw) (ow186 hw) (ow175 hw) (ow155 hw) (ow187 hw) (by decide) (rinx l Z a0 hw [] S it4 lp d f14_cursor f14_lastRet mc ps q186 hj14 n0 Zj14 fj14_2 gq4 fj14_3 fj14_4 fj14_5 fj14_6 fj14_0.2.2.2.2.2.2.2.2.2.2.1 fj14_0.2.2.2.2.2.2.2.2.2.2.2.1 fj14_0.2.2.2.2.2.2.2.2.2.2.2.2.1 fj14_0.2.2.2.2.2.2.2.2.2.2.2.2.2 in186 eq186 (hS2 _ sq4) (own_sne fj14_0.1.2.2.2 (hS2 _ sq4))) e7 (W := 0) (by decide) fj14_2 (pc := 24) (ls := #[rv net, iv 8, rv b1, rv it4, s14_4, o_]) (stk := [(.ref it4)]) (by rw [hml]; rfl) (argsL := []) (rest := []) (lenOf pd16 rfl) rfl rfl (Nat.le_of_eq rfl) (hb hby (eD D19_5_ 1 rfl))
    obtain ⟨y186, rfl, Nq186, Kq186, Eq186, I_c186, I_l186, I_e186, I_t186, Y186, sy186⟩ := hQ186
    have N186 := Fr.app N7 Nq186
    have Zs186 := Nat.le_trans Zj14 Kq186.1
    have F187 := fj14_0.keep Kq186 (allS (hS2 _ sq4) all0)
    have F188 := fj14_1.keep Kq186 (ninS nq4_b1 nin0)
    have K186 := Kj14.trans Kq186 (allS (Or.inr sq4) all0)
    refine os st186 ?_
    obtain ⟨T189, X189, e189, st189⟩ := castY X186 hx hZ hown (ow194 hw) rfl (Ins.self Y186.1) (g := (mkF m 29 #[rv net, iv 8, rv b1, rv it4, s14_4, o_] [(.ref y186)])) rfl rfl (hb hby (eD D19_5_ 2 rfl))
    refine os st189 ?_
    refine gAs X189 hx hby (eD D19_5_ 3 rfl) rfl (ls' := #[rv net, iv 8, rv b1, rv it4, rv y186, o_]) (XS.store1 rfl q14_4 rfl) ?_
    refine gA X189 hx hby (eD D19_5_ 4 rfl) rfl rfl ?_
    obtain ⟨_, T190, L190, X190, hQ190, st190⟩ := own_callVi X189 hx hZ hown (ow196 hw) (ow197 hw) (notFace_of_selects (args := #[]) (mvT hZ (ow199 hw))) (ow199 hw) (ow198 hw) (ow63 hw) (ow200 hw) (by decide) (rgo l Z a0 hw [] y186 q186.2.2 T186.heap n0 Zs186 Y186.2.2.2.1 (PipeV.op Y186)) e189 (W := 0) (by decide) Y186.1 (pc := 36) (ls := #[rv net, iv 8, rv b1, rv it4, rv y186, o_]) (stk := [(.ref y186)]) (by rw [hml]; rfl) (argsL := []) (rest := []) (lenOf pd14 rfl) rfl rfl (Nat.le_of_eq rfl) (hb hby (eD D19_5_ 5 rfl))
    obtain ⟨rfl, Nq190, e190⟩ := hQ190
    have N190 := Fr.app N186 Nq190
    refine os st190 ?_
    by_cases hc191 : q186.2.2 = 0
    replace hK := kif_t hc191 hK
    refine gFy (pc := 39) (pc' := 95) X190 hx hby (eD D19_5_ 6 rfl) (XT.i0_eq_t hc191) (by decide) (by decide) ?_
    refine gGo (pc := 95) (pc' := 14) X190 hx hby (eD D19_5_ 7 rfl) (by decide) (by decide) ?_
    show OG p e below Φ T190 m 14 #[rv net, iv 8, rv b1, rv it4, rv y186, o_] []
    exact ih14 ((f14_cursor + 1)) f14_cursor z14_0 (rv y186) (Or.inr ⟨_, rfl, rfl⟩) _ _ _ X190 e190 N190 Zs186 K186 F187 F188 Eq186 I_c186 I_l186 I_e186 I_t186 hK
    replace hK := kif_f hc191 hK
    refine gFn X190 hx hby (eD D19_5_ 6 rfl) (XT.i0_eq_f hc191) ?_
    refine gA X190 hx hby (eD D19_5_ 8 rfl) rfl rfl ?_
    obtain ⟨_, T192, L192, X192, hQ192, st192⟩ := own_callVi X190 hx hZ hown (ow201 hw) (ow202 hw) (notFace_of_selects (args := #[]) (mvT hZ (ow204 hw))) (ow204 hw) (ow203 hw) (ow63 hw) (ow205 hw) (by decide) (rgf l Z a0 hw [] y186 q186.1 T186.heap n0 Zs186 Y186.2.1) e190 (W := 0) (by decide) Y186.1 (pc := 44) (ls := #[rv net, iv 8, rv b1, rv it4, rv y186, o_]) (stk := [(.ref y186)]) (by rw [hml]; rfl) (argsL := []) (rest := []) (lenOf pd11 rfl) rfl rfl (Nat.le_of_eq rfl) (hb hby (eD D19_5_ 9 rfl))
    obtain ⟨rfl, Nq192, e192⟩ := hQ192
    have N192 := Fr.app N190 Nq192
    refine os st192 ?_
    refine gA X192 hx hby (eD D19_5_ 10 rfl) rfl rfl ?_
    obtain ⟨_, T193, L193, X193, hQ193, st193⟩ := own_callVi X192 hx hZ hown (ow206 hw) (ow207 hw) (notFace_of_selects (args := #[]) (mvT hZ (ow209 hw))) (ow209 hw) (ow208 hw) (ow63 hw) (ow210 hw) (by decide) (rgt l Z a0 hw [] y186 q186.2.1 T186.heap n0 Zs186 Y186.2.2.1) e192 (W := 1) (by decide) Y186.1 (pc := 49) (ls := #[rv net, iv 8, rv b1, rv it4, rv y186, o_]) (stk := [(.ref y186), (.int q186.1)]) (by rw [hml]; rfl) (argsL := []) (rest := [(.int q186.1)]) (lenOf pd11 rfl) rfl rfl (Nat.le_of_eq rfl) (hb hby (eD D19_5_ 11 rfl))
    obtain ⟨rfl, Nq193, e193⟩ := hQ193
    have N193 := Fr.app N192 Nq193
    refine os st193 ?_
    by_cases hc194 : q186.1 = q186.2.1
    replace hK := kif_t hc194 hK
    refine gCn X193 hx hby (eD D19_5_ 12 rfl) (XT.ii_ne_f hc194) ?_
    show OG p e below Φ T193 m 55 #[rv net, iv 8, rv b1, rv it4, rv y186, o_] []
    exact (knone hK).elim
    replace hK := kif_f hc194 hK
    refine gCy (pc := 52) (pc' := 73) X193 hx hby (eD D19_5_ 12 rfl) (XT.ii_ne_t hc194) (by decide) (by decide) ?_
    refine gAn X193 hx hby (eD D19_5_ 14 rfl) rfl rfl ?_
    refine gA X193 hx hby (eD D19_5_ 15 rfl) rfl rfl ?_
    obtain ⟨_, T195, L195, X195, hQ195, st195⟩ := own_callVi X193 hx hZ hown (ow201 hw) (ow202 hw) (notFace_of_selects (args := #[]) (mvT hZ (ow204 hw))) (ow204 hw) (ow203 hw) (ow63 hw) (ow205 hw) (by decide) (rgf l Z a0 hw [] y186 q186.1 T186.heap n0 Zs186 Y186.2.1) e193 (W := 1) (by decide) Y186.1 (pc := 76) (ls := #[rv net, iv 8, rv b1, rv it4, rv y186, o_]) (stk := [(.ref y186), (.ref b1)]) (by rw [hml]; rfl) (argsL := []) (rest := [(.ref b1)]) (lenOf pd11 rfl) rfl rfl (Nat.le_of_eq rfl) (hb hby (eD D19_6_ 0 rfl))
    obtain ⟨rfl, Nq195, e195⟩ := hQ195
    have N195 := Fr.app N193 Nq195
    refine os st195 ?_
    refine os (fun _ z => XT.dup2 X195.here hx rfl (hb hby (eD D19_6_ 1 rfl)) rfl rfl rfl z) ?_
    replace hK := kld_some hK
    obtain ⟨v196, in196, ev196, hK⟩ := hK
    obtain ⟨cl196, Aq196, iq196, at196⟩ := PA.get F188 in196 ev196
    refine os (fun _ z => X195.iaload hx (by rw [e195]; exact Aq196.1) (oia hZ Aq196.2.1) Aq196.2.2 iq196 at196 (g := (mkF m 80 #[rv net, iv 8, rv b1, rv it4, rv y186, o_] [(.int q186.1), (.ref b1), (.int q186.1), (.ref b1)])) rfl rfl (hb hby (eD D19_6_ 2 rfl)) _ z) ?_
    refine gIc (x := 1) X195 hx hby (eD D19_6_ 3 rfl) rfl ?_
    refine os (fun _ z => XS.iadd X195.here hx rfl (hb hby (eD D19_6_ 4 rfl)) rfl z) ?_
    replace hK := kst_some hK
    obtain ⟨x197, in197, ex197, hK⟩ := hK
    obtain ⟨cl197, Aq197, iq197, -⟩ := PA.get F188 in197 rfl
    obtain ⟨T197, h197, X197, e197, W197, st197⟩ := stI X195 hx hZ e195 Aq197 iq197 (g := (mkF m 83 #[rv net, iv 8, rv b1, rv it4, rv y186, o_] [(.int (v196 + 1)), (.int q186.1), (.ref b1)])) rfl rfl (hb hby (eD D19_6_ 5 rfl))
    have F198 := F187.other W197 (hS2 _ sz1)
    have F199 := Eq186.wr W197
    have F200 := I_c186.other W197 (Or.inl (Ne.symm nq4_b1))
    have F201 := I_l186.other W197 (Or.inl (Ne.symm nq4_b1))
    have F202 := I_e186.other W197 (Or.inl (Ne.symm nq4_b1))
    have F203 := I_t186.other W197 (Or.inl (Ne.symm nq4_b1))
    have F204 := Y186.other W197 (own_sne sy186 (hS2 _ sz1))
    have P197 := PA.set F188 in197 W197 rfl ex197
    have K197 := K186.wr W197 (Or.inr sz1)
    have N197 := Fr.snoc X197 N195 gb1
    have Zs197 := ozw W197 Zs186
    refine os st197 ?_
    refine gAn X197 hx hby (eD D19_6_ 6 rfl) rfl rfl ?_
    refine gA X197 hx hby (eD D19_6_ 7 rfl) rfl rfl ?_
    obtain ⟨_, T205, L205, X205, hQ205, st205⟩ := own_callVi X197 hx hZ hown (ow206 hw) (ow207 hw) (notFace_of_selects (args := #[]) (mvT hZ (ow209 hw))) (ow209 hw) (ow208 hw) (ow63 hw) (ow210 hw) (by decide) (rgt l Z a0 hw [] y186 q186.2.1 h197 n0 Zs197 F204.2.2.1) e197 (W := 1) (by decide) F204.1 (pc := 87) (ls := #[rv net, iv 8, rv b1, rv it4, rv y186, o_]) (stk := [(.ref y186), (.ref b1)]) (by rw [hml]; rfl) (argsL := []) (rest := [(.ref b1)]) (lenOf pd11 rfl) rfl rfl (Nat.le_of_eq rfl) (hb hby (eD D19_6_ 8 rfl))
    obtain ⟨rfl, Nq205, e205⟩ := hQ205
    have N205 := Fr.app N197 Nq205
    refine os st205 ?_
    refine os (fun _ z => XT.dup2 X205.here hx rfl (hb hby (eD D19_6_ 9 rfl)) rfl rfl rfl z) ?_
    replace hK := kld_some hK
    obtain ⟨v206, in206, ev206, hK⟩ := hK
    obtain ⟨cl206, Aq206, iq206, at206⟩ := PA.get P197 in206 ev206
    refine os (fun _ z => X205.iaload hx (by rw [e205]; exact Aq206.1) (oia hZ Aq206.2.1) Aq206.2.2 iq206 at206 (g := (mkF m 91 #[rv net, iv 8, rv b1, rv it4, rv y186, o_] [(.int q186.2.1), (.ref b1), (.int q186.2.1), (.ref b1)])) rfl rfl (hb hby (eD D19_6_ 10 rfl)) _ z) ?_
    refine gIc (x := 1) X205 hx hby (eD D19_6_ 11 rfl) rfl ?_
    refine os (fun _ z => XS.iadd X205.here hx rfl (hb hby (eD D19_6_ 12 rfl)) rfl z) ?_
    replace hK := kst_some hK
    obtain ⟨x207, in207, ex207, hK⟩ := hK
    obtain ⟨cl207, Aq207, iq207, -⟩ := PA.get P197 in207 rfl
    obtain ⟨T207, h207, X207, e207, W207, st207⟩ := stI X205 hx hZ e205 Aq207 iq207 (g := (mkF m 94 #[rv net, iv 8, rv b1, rv it4, rv y186, o_] [(.int (v206 + 1)), (.int q186.2.1), (.ref b1)])) rfl rfl (hb hby (eD D19_6_ 13 rfl))
    have F208 := F198.other W207 (hS2 _ sz1)
    have F209 := F199.wr W207
    have F210 := F200.other W207 (Or.inl (Ne.symm nq4_b1))
    have F211 := F201.other W207 (Or.inl (Ne.symm nq4_b1))
    have F212 := F202.other W207 (Or.inl (Ne.symm nq4_b1))
    have F213 := F203.other W207 (Or.inl (Ne.symm nq4_b1))
    have F214 := F204.other W207 (own_sne sy186 (hS2 _ sz1))
    have P207 := PA.set P197 in207 W207 rfl ex207
    have K207 := K197.wr W207 (Or.inr sz1)
    have N207 := Fr.snoc X207 N205 gb1
    have Zs207 := ozw W207 Zs197
    refine os st207 ?_
    refine gGo (pc := 95) (pc' := 14) X207 hx hby (eD D19_5_ 7 rfl) (by decide) (by decide) ?_
    show OG p e below Φ T207 m 14 #[rv net, iv 8, rv b1, rv it4, rv y186, o_] []
    exact ih14 ((f14_cursor + 1)) f14_cursor x207 (rv y186) (Or.inr ⟨_, rfl, rfl⟩) _ _ _ X207 e207 N207 Zs207 K207 F208 P207 F209 F210 F211 F212 F213 hK
  exact J14 12 ((0 : Int32)) ((-1 : Int32)) ((List.replicate 8 (0 : Int32))) (o_) (Or.inl rfl) _ _ _ X4 rfl N4 Zs4 K4 F5 F6 Eq4 I_c4 I_l4 I_e4 I_t4 hK

theorem pn12 : plainName "java/lang/Integer" = true := by first | (simp [plainName, overriddenIn]; done) | decide +kernel
theorem ef_rvo (m : MethodId) (x0 : Int32) : entryFrame m #[(.int x0)] 1 = mkF m 0 #[.val (.int x0)] [] := by first | (simp [entryFrame, mkF, argsToLocals, Value.category]; done) | rfl
def Q_rvo (Z : State) (x1 : Int32) (ac : Addr) (cc : Cell) (h0 : Heap) (n0 : Nat) (v : Option Value) (h : Heap) (L : List Loc) : Prop := ∃ b, v = some (.ref b) ∧ Fr n0 L ∧ h = h0 ∧ BoxV Z b x1
theorem rvo (l : Launch) (Z : State) (a0 : Array Value) (hw : OHW Z a0) (ws : List Jvm.Cond) (x1 : Int32) (ac : Addr) (cc : Cell) (h0 : Heap) (n0 : Nat) (Z0 : n0 ≤ h0.size) (S_h : Sta Z h0 "java/lang/Integer$IntegerCache" "high" "I" (.int (127 : Int32))) (S_c : Sta Z h0 "java/lang/Integer$IntegerCache" "cache" "[Ljava/lang/Integer;" (.ref ac)) (O_x : Ext Z.heap h0) (B_x : Bxs Z ac cc "java/lang/Integer" "I" (256 : Int32) (fun z => .int (z - 128))) (h1 : ¬ x1 < -128) (h2 : ¬ 127 < x1) :
    OCon l Z (⟨"java/lang/Integer", "valueOf", "(I)Ljava/lang/Integer;"⟩ : MethodName) c14_ 1 (some (.object "java/lang/Integer")) ws ({ frames := 0, cells := 0, slots := 0, locals := 0 } : Room) #[(.int x1)] h0 (Q_rvo Z x1 ac cc h0 n0) := by
  refine OCon.of (plainFor_of_name pn12) ?_
  intro p e s m below meth c s₁ Φ X0 hx hby hml hown hnm hret hlk hZ e0 hΦ
  have N0 := Fr.nil n0
  refine os (fun _ z => castTop (ef_rvo m x1) z) ?_
  show OG p e below Φ s₁ m 0 #[iv x1] []
  refine gIn X0 hx hby (eD D41_0_ 0 rfl) rfl ?_
  refine os (fun _ z => XS.bipush X0.here hx rfl (hb hby (eD D41_0_ 1 rfl)) z) ?_
  refine gCn X0 hx hby (eD D41_0_ 2 rfl) (XT.ii_lt_f h1) ?_
  refine gIn X0 hx hby (eD D41_0_ 3 rfl) rfl ?_
  obtain ⟨T1, X1, e1, st1⟩ := getS2 X0 hx hZ hown (host := "") (Or.inl (ow314 hw)) Via.refl e0 S_h (g := (mkF m 7 #[iv x1] [(.int x1)])) rfl (hb hby (eD D41_0_ 4 rfl))
  refine os st1 ?_
  refine gCn X1 hx hby (eD D41_0_ 5 rfl) (XT.ii_gt_f h2) ?_
  obtain ⟨T2, X2, e2, st2⟩ := getS2 X1 hx hZ hown (host := "") (Or.inl (ow316 hw)) Via.refl e1 S_c (g := (mkF m 13 #[iv x1] [])) rfl (hb hby (eD D41_0_ 6 rfl))
  refine os st2 ?_
  refine gIn X2 hx hby (eD D41_0_ 7 rfl) rfl ?_
  refine os (fun _ z => XS.sipush X2.here hx rfl (hb hby (eD D41_0_ 8 rfl)) z) ?_
  refine os (fun _ z => XS.iadd X2.here hx rfl (hb hby (eD D41_0_ 9 rfl)) rfl z) ?_
  show OG p e below Φ T2 m 21 #[iv x1] [(.int (x1 + 128)), (.ref ac)]
  have in3 := own_bxin h1 h2 B_x.2.1
  obtain ⟨bq, at3, Ex3, Fx3⟩ := B_x.2.2.2 _ in3
  refine os (fun _ z => X2.aaload hx (by rw [e2]; exact (B_x.1.ext O_x).1) (oia hZ B_x.1.2.1) rfl B_x.1.2.2 in3 at3 (g := (mkF m 21 #[iv x1] [(.int (x1 + 128)), (.ref ac)])) rfl rfl (hb hby (eD D41_0_ 10 rfl)) _ z) ?_
  refine OGo.fin X2 hlk (v := (some (.ref bq))) (fun h => by rw [hret] at h; cases h) (by decide) (by decide) (fun fs hr => X2.areturnOut hx rfl hret rfl (hb hby (eD D41_0_ 11 rfl)) hr) fun U eU hF => hΦ _ _ _ ?_ hF
  rw [eU, e2]
  show Q_rvo Z x1 ac cc h0 n0 _ _ _
  exact ⟨_, rfl, N0, rfl, Ex3, by have q : Fld Z Z.heap bq "java/lang/Integer" "value" "I" (.int (x1 + 128 - 128)) := Fx3; rw [show x1 + 128 - 128 = x1 from Int32.add_sub_cancel x1 128] at q; exact q⟩

theorem ef_riv (m : MethodId) (x0 : Addr) : entryFrame m #[(.ref x0)] 1 = mkF m 0 #[.val (.ref x0)] [] := by first | (simp [entryFrame, mkF, argsToLocals, Value.category]; done) | rfl
def Q_riv (Z : State) (a : Addr) (qv : Int32) (h0 : Heap) (n0 : Nat) (v : Option Value) (h : Heap) (L : List Loc) : Prop := v = some (.int qv) ∧ Fr n0 L ∧ h = h0
theorem riv (l : Launch) (Z : State) (a0 : Array Value) (hw : OHW Z a0) (ws : List Jvm.Cond) (a : Addr) (qv : Int32) (h0 : Heap) (n0 : Nat) (Z0 : n0 ≤ h0.size) (F_a : Fld Z h0 a "java/lang/Integer" "value" "I" (.int qv)) :
    OCon l Z (⟨"java/lang/Integer", "intValue", "()I"⟩ : MethodName) c15_ 1 (some .int) ws ({ frames := 0, cells := 0, slots := 0, locals := 0 } : Room) #[(.ref a)] h0 (Q_riv Z a qv h0 n0) := by
  refine OCon.of (plainFor_of_name pn12) ?_
  intro p e s m below meth c s₁ Φ X0 hx hby hml hown hnm hret hlk hZ e0 hΦ
  have N0 := Fr.nil n0
  refine os (fun _ z => castTop (ef_riv m a) z) ?_
  show OG p e below Φ s₁ m 0 #[rv a] []
  refine gAn X0 hx hby (eD D49_0_ 0 rfl) rfl rfl ?_
  obtain ⟨T1, X1, e1, st1⟩ := getF X0 hx hZ hown (host := "") (Or.inl (ow356 hw)) Via.refl e0 F_a (g := (mkF m 1 #[rv a] [(.ref a)])) rfl rfl (hb hby (eD D49_0_ 1 rfl))
  refine os st1 ?_
  refine OGo.fin X1 hlk (v := (some (.int qv))) (fun h => by rw [hret] at h; cases h) (by decide) (by decide) (fun fs hr => X1.ireturnOut hx hret rfl (by simp) (hb hby (eD D49_0_ 2 rfl)) hr) fun U eU hF => hΦ _ _ _ ?_ hF
  rw [eU, e1]
  show Q_riv Z a qv h0 n0 _ _ _
  exact ⟨rfl, N0, rfl⟩

theorem ef_rabc2 (m : MethodId) (x0 : Addr) : entryFrame m #[(.ref x0)] 1 = mkF m 0 #[.val (.ref x0)] [] := by first | (simp [entryFrame, mkF, argsToLocals, Value.category]; done) | rfl
def Q_rabc2 (Z : State) (a : Addr) (h0 : Heap) (n0 : Nat) (v : Option Value) (h : Heap) (L : List Loc) : Prop := v = none ∧ Fr n0 L ∧ h = h0
theorem rabc2 (l : Launch) (Z : State) (a0 : Array Value) (hw : OHW Z a0) (ws : List Jvm.Cond) (a : Addr) (h0 : Heap) (n0 : Nat) (Z0 : n0 ≤ h0.size)  :
    OCon l Z (⟨"java/util/AbstractCollection", "<init>", "()V"⟩ : MethodName) c9_ 1 none ws ({ frames := 1, cells := 0, slots := 0, locals := 12 } : Room) #[(.ref a)] h0 (Q_rabc2 Z a h0 n0) := by
  refine OCon.of (plainFor_of_name pn3) ?_
  intro p e s m below meth c s₁ Φ X0 hx hby hml hown hnm hret hlk hZ e0 hΦ
  have N0 := Fr.nil n0
  refine os (fun _ z => castTop (ef_rabc2 m a) z) ?_
  show OG p e below Φ s₁ m 0 #[rv a] []
  refine gAn X0 hx hby (eD D3_0_ 0 rfl) rfl rfl ?_
  obtain ⟨T1, X1, e1, st1⟩ := initO X0 hx hZ hown (ow19 hw) (ow20 hw) (ow21 hw) e0 (g := (mkF m 1 #[rv a] [(.ref a)])) rfl (by rw [hml]; rfl) rfl (hb hby (eD D3_0_ 1 rfl)) (by decide) (W := 0) (Nat.le_of_eq rfl) (by decide)
  refine os st1 ?_
  refine OGo.fin X1 hlk (v := none) (fun _ => rfl) (by decide) (by decide) (fun fs hr => X1.returnOut hx hret (hb hby (eD D3_0_ 2 rfl)) hr) fun U eU hF => hΦ _ _ _ ?_ hF
  rw [eU, e1]
  show Q_rabc2 Z a h0 n0 _ _ _
  exact ⟨rfl, N0, rfl⟩

theorem pn13 : plainName s8_ = true := by first | (simp [plainName, overriddenIn]; done) | decide +kernel
theorem ef_rdi (m : MethodId) (x0 : Addr) : entryFrame m #[(.ref x0)] 1 = mkF m 0 #[.val (.ref x0)] [] := by first | (simp [entryFrame, mkF, argsToLocals, Value.category]; done) | rfl
def Q_rdi (Z : State) (a : Addr) (h0 : Heap) (n0 : Nat) (v : Option Value) (h : Heap) (L : List Loc) : Prop := v = none ∧ Fr n0 L ∧ Keep h0 h [a] ∧ ∃ d, DQ Z h a d 0 0 ∧ h0.size ≤ d
theorem rdi (l : Launch) (Z : State) (a0 : Array Value) (hw : OHW Z a0) (ws : List Jvm.Cond) (a : Addr) (h0 : Heap) (n0 : Nat) (Z0 : n0 ≤ h0.size) (E_a : Exa Z h0 a s8_) (g_a : n0 ≤ a) (D_e : Fld Z h0 a s8_ "elements" "[Ljava/lang/Object;" .null) (D_h : Fld Z h0 a s8_ "head" "I" (.int (0 : Int32))) (D_t : Fld Z h0 a s8_ "tail" "I" (.int (0 : Int32))) :
    OCon l Z (⟨s8_, "<init>", "()V"⟩ : MethodName) c7_ 1 none ws ({ frames := 2, cells := 1, slots := 17, locals := 24 } : Room) #[(.ref a)] h0 (Q_rdi Z a h0 n0) := by
  refine OCon.of (plainFor_of_name pn13) ?_
  intro p e s m below meth c s₁ Φ X0 hx hby hml hown hnm hret hlk hZ e0 hΦ
  have N0 := Fr.nil n0
  refine os (fun _ z => castTop (ef_rdi m a) z) ?_
  have K0 := Keep.refl h0 [a]
  show OG p e below Φ s₁ m 0 #[rv a] []
  refine gAn X0 hx hby (eD D34_0_ 0 rfl) rfl rfl ?_
  obtain ⟨_, T1, L1, X1, hQ1, st1⟩ := own_callSp X0 hx hZ rfl hown (ow246 hw) (ow14 hw) (ow17 hw) (ow18 hw) (by decide) (rabc2 l Z a0 hw [] a h0 n0 Z0 ) e0 (W := 0) (by decide) (pc := 1) (ls := #[rv a]) (stk := [(.ref a)]) (by rw [hml]; rfl) (a := a) (argsL := []) (rest := []) (lenOf pd0 rfl) rfl rfl (Nat.le_of_eq rfl) (hb hby (eD D34_0_ 1 rfl))
  obtain ⟨rfl, Nq1, e1⟩ := hQ1
  have N1 := Fr.app N0 Nq1
  refine os st1 ?_
  refine gAn X1 hx hby (eD D34_0_ 2 rfl) rfl rfl ?_
  refine os (fun _ z => XS.bipush X1.here hx rfl (hb hby (eD D34_0_ 3 rfl)) z) ?_
  obtain ⟨T2, h2, c2, X2, e2, E2, Ar2, Ex2, Ov2, st2⟩ := newRE X1 hx hZ hown (ow248 hw) (ow56 hw) e1 (g := (mkF m 7 #[rv a] [(.int 17), (.ref a)])) rfl (hb hby (eD D34_0_ 4 rfl)) rfl (by decide) (cap := 17) (by decide) (by decide) (by decide) (by decide) (ad := "[Ljava/lang/Object;") (by decide)
  obtain ⟨b2, g2⟩ : ∃ z, z = h0.size := ⟨_, rfl⟩
  rw [← g2] at Ar2 Ex2 st2
  have ne2_a := one_ g2 E_a.lt
  have F3 := E_a.ext E2
  have F4 := D_e.ext E2
  have F5 := D_h.ext E2
  have F6 := D_t.ext E2
  have gb2 := Nat.le_trans Z0 (Nat.le_of_eq g2.symm)
  have sz2 := Nat.le_trans K0.1 (Nat.le_of_eq g2.symm)
  have K2 := K0.ext E2
  have Zs2 := Nat.le_trans Z0 E2.1
  have V2 : Arv Z h2 b2 c2 (.object "java/lang/Object") (17 : Int32) [.null, .null, .null, .null, .null, .null, .null, .null, .null, .null, .null, .null, .null, .null, .null, .null, .null] .null := (Arv.new Ar2 (by decide)).pad (pad_rep [] _ 17)
  refine os st2 ?_
  obtain ⟨T7, h7, X7, e7, W7, st7⟩ := putF X2 hx hZ hown (host := "") (Or.inl (ow249 hw)) Via.refl e2 F4 F3 (Or.inl (ow250 hw)) (ow241 hw) (ty := (.array (.object "java/lang/Object"))) (by decide) rfl rfl (g := (mkF m 10 #[rv a] [(.ref b2), (.ref a)])) rfl rfl (hb hby (eD D34_0_ 5 rfl))
  have F8 := F3.wr W7
  have F9 := F4.same W7
  have F10 := F5.other W7 (Or.inr (slot_ne (Or.inl (ow257 hw)) (Or.inl (ow250 hw)) (by decide) (t := .int) (t' := (.array (.object "java/lang/Object"))) (by decide) (by decide)))
  have F11 := F6.other W7 (Or.inr (slot_ne (Or.inl (ow259 hw)) (Or.inl (ow250 hw)) (by decide) (t := .int) (t' := (.array (.object "java/lang/Object"))) (by decide) (by decide)))
  have F12 := V2.other W7 (Ne.symm ne2_a)
  have F13 := Ex2.wr W7
  have K7 := K2.wr W7 (Or.inl (List.mem_of_getElem? (i := 0) rfl))
  have N7 := Fr.snoc X7 N1 g_a
  have Zs7 := ozw W7 Zs2
  refine os st7 ?_
  refine OGo.fin X7 hlk (v := none) (fun _ => rfl) (by decide) (by decide) (fun fs hr => X7.returnOut hx hret (hb hby (eD D34_0_ 6 rfl)) hr) fun U eU hF => hΦ _ _ _ ?_ hF
  rw [eU, e7]
  show Q_rdi Z a h0 n0 _ _ _
  exact ⟨rfl, N7, K7, _, ⟨F8, F9, ne2_a, _, 0, Ov2, Or.inl ⟨rfl, F10, F11, F12⟩⟩, sz2⟩

theorem ef_rde (m : MethodId) (x0 : Addr) : entryFrame m #[(.ref x0)] 1 = mkF m 0 #[.val (.ref x0)] [] := by first | (simp [entryFrame, mkF, argsToLocals, Value.category]; done) | rfl
def Q_rde (Z : State) (a : Addr) (d : Addr) (qs : Int32) (qj : Int32) (h0 : Heap) (n0 : Nat) (v : Option Value) (h : Heap) (L : List Loc) : Prop := v = some (.int (own_ie qs)) ∧ Fr n0 L ∧ h = h0
theorem rde (l : Launch) (Z : State) (a0 : Array Value) (hw : OHW Z a0) (ws : List Jvm.Cond) (a : Addr) (d : Addr) (qs : Int32) (qj : Int32) (h0 : Heap) (n0 : Nat) (Z0 : n0 ≤ h0.size) (D_q : DQ Z h0 a d qs qj) :
    OCon l Z (⟨s8_, "isEmpty", "()Z"⟩ : MethodName) c6_ 1 (some .boolean) ws ({ frames := 0, cells := 0, slots := 0, locals := 0 } : Room) #[(.ref a)] h0 (Q_rde Z a d qs qj h0 n0) := by
  refine OCon.of (plainFor_of_name pn13) ?_
  intro p e s m below meth c s₁ Φ X0 hx hby hml hown hnm hret hlk hZ e0 hΦ
  have N0 := Fr.nil n0
  refine os (fun _ z => castTop (ef_rde m a) z) ?_
  show OG p e below Φ s₁ m 0 #[rv a] []
  obtain ⟨E_a, D_e, n_d, kd, bd, o_d, ⟨hqs, D_h, D_t, V_d⟩ | ⟨hqs, D_h, D_t, B_d, V_d⟩ | ⟨hqs, D_h, D_t, V_d⟩⟩ := id D_q
  · show OG p e below Φ s₁ m 0 #[rv a] []
    refine gAn X0 hx hby (eD D35_0_ 0 rfl) rfl rfl ?_
    obtain ⟨T1, X1, e1, st1⟩ := getF X0 hx hZ hown (host := "") (Or.inl (ow256 hw)) Via.refl e0 D_h (g := (mkF m 1 #[rv a] [(.ref a)])) rfl rfl (hb hby (eD D35_0_ 1 rfl))
    refine os st1 ?_
    refine gAn X1 hx hby (eD D35_0_ 2 rfl) rfl rfl ?_
    obtain ⟨T2, X2, e2, st2⟩ := getF X1 hx hZ hown (host := "") (Or.inl (ow258 hw)) Via.refl e1 D_t (g := (mkF m 5 #[rv a] [(.ref a), (.int 0)])) rfl rfl (hb hby (eD D35_0_ 3 rfl))
    refine os st2 ?_
    refine gCn X2 hx hby (eD D35_0_ 4 rfl) (XT.ii_ne_f (by decide)) ?_
    refine gIc (x := 1) X2 hx hby (eD D35_0_ 5 rfl) rfl ?_
    refine gGo (pc := 12) (pc' := 16) X2 hx hby (eD D35_0_ 6 rfl) (by decide) (by decide) ?_
    refine OGo.fin X2 hlk (v := (some (.int 1))) (fun h => by rw [hret] at h; cases h) (by decide) (by decide) (fun fs hr => X2.ireturnOut hx hret rfl (by simp) (hb hby (eD D35_0_ 7 rfl)) hr) fun U eU hF => hΦ _ _ _ ?_ hF
    rw [eU, e2]
    show Q_rde Z a d qs qj h0 n0 _ _ _
    exact ⟨by rw [hqs]; rfl, N0, rfl⟩
  · show OG p e below Φ s₁ m 0 #[rv a] []
    refine gAn X0 hx hby (eD D35_0_ 0 rfl) rfl rfl ?_
    obtain ⟨T3, X3, e3, st3⟩ := getF X0 hx hZ hown (host := "") (Or.inl (ow256 hw)) Via.refl e0 D_h (g := (mkF m 1 #[rv a] [(.ref a)])) rfl rfl (hb hby (eD D35_0_ 1 rfl))
    refine os st3 ?_
    refine gAn X3 hx hby (eD D35_0_ 2 rfl) rfl rfl ?_
    obtain ⟨T4, X4, e4, st4⟩ := getF X3 hx hZ hown (host := "") (Or.inl (ow258 hw)) Via.refl e3 D_t (g := (mkF m 5 #[rv a] [(.ref a), (.int 0)])) rfl rfl (hb hby (eD D35_0_ 3 rfl))
    refine os st4 ?_
    refine gCy (pc := 8) (pc' := 15) X4 hx hby (eD D35_0_ 4 rfl) (XT.ii_ne_t (by decide)) (by decide) (by decide) ?_
    refine gIc (x := 0) X4 hx hby (eD D35_0_ 8 rfl) rfl ?_
    refine OGo.fin X4 hlk (v := (some (.int 0))) (fun h => by rw [hret] at h; cases h) (by decide) (by decide) (fun fs hr => X4.ireturnOut hx hret rfl (by simp) (hb hby (eD D35_0_ 7 rfl)) hr) fun U eU hF => hΦ _ _ _ ?_ hF
    rw [eU, e4]
    show Q_rde Z a d qs qj h0 n0 _ _ _
    exact ⟨by rw [hqs]; rfl, N0, rfl⟩
  · show OG p e below Φ s₁ m 0 #[rv a] []
    refine gAn X0 hx hby (eD D35_0_ 0 rfl) rfl rfl ?_
    obtain ⟨T5, X5, e5, st5⟩ := getF X0 hx hZ hown (host := "") (Or.inl (ow256 hw)) Via.refl e0 D_h (g := (mkF m 1 #[rv a] [(.ref a)])) rfl rfl (hb hby (eD D35_0_ 1 rfl))
    refine os st5 ?_
    refine gAn X5 hx hby (eD D35_0_ 2 rfl) rfl rfl ?_
    obtain ⟨T6, X6, e6, st6⟩ := getF X5 hx hZ hown (host := "") (Or.inl (ow258 hw)) Via.refl e5 D_t (g := (mkF m 5 #[rv a] [(.ref a), (.int 1)])) rfl rfl (hb hby (eD D35_0_ 3 rfl))
    refine os st6 ?_
    refine gCn X6 hx hby (eD D35_0_ 4 rfl) (XT.ii_ne_f (by decide)) ?_
    refine gIc (x := 1) X6 hx hby (eD D35_0_ 5 rfl) rfl ?_
    refine gGo (pc := 12) (pc' := 16) X6 hx hby (eD D35_0_ 6 rfl) (by decide) (by decide) ?_
    refine OGo.fin X6 hlk (v := (some (.int 1))) (fun h => by rw [hret] at h; cases h) (by decide) (by decide) (fun fs hr => X6.ireturnOut hx hret rfl (by simp) (hb hby (eD D35_0_ 7 rfl)) hr) fun U eU hF => hΦ _ _ _ ?_ hF
    rw [eU, e6]
    show Q_rde Z a d qs qj h0 n0 _ _ _
    exact ⟨by rw [hqs]; rfl, N0, rfl⟩

theorem ef_rdc (m : MethodId) (x0 : Int32) (x1 : Int32) : entryFrame m #[(.int x0), (.int x1)] 2 = mkF m 0 #[.val (.int x0), .val (.int x1)] [] := by first | (simp [entryFrame, mkF, argsToLocals, Value.category]; done) | rfl
def Q_rdc (Z : State)  (h0 : Heap) (n0 : Nat) (v : Option Value) (h : Heap) (L : List Loc) : Prop := v = some (.int (1 : Int32)) ∧ Fr n0 L ∧ h = h0
theorem rdc (l : Launch) (Z : State) (a0 : Array Value) (hw : OHW Z a0) (ws : List Jvm.Cond)  (h0 : Heap) (n0 : Nat) (Z0 : n0 ≤ h0.size)  :
    OCon l Z (⟨s8_, "inc", "(II)I"⟩ : MethodName) c8_ 2 (some .int) ws ({ frames := 0, cells := 0, slots := 0, locals := 0 } : Room) #[(.int (0 : Int32)), (.int (17 : Int32))] h0 (Q_rdc Z  h0 n0) := by
  refine OCon.of (plainFor_of_name pn13) ?_
  intro p e s m below meth c s₁ Φ X0 hx hby hml hown hnm hret hlk hZ e0 hΦ
  have N0 := Fr.nil n0
  refine os (fun _ z => castTop (ef_rdc m (0 : Int32) (17 : Int32)) z) ?_
  show OG p e below Φ s₁ m 0 #[iv 0, iv 17] []
  refine os (fun _ z => XS.iinc X0.here hx rfl (hb hby (eD D44_0_ 0 rfl)) rfl (l' := #[iv (0 + 1), iv 17]) rfl z) ?_
  show OG p e below Φ s₁ m 3 #[iv 1, iv 17] []
  refine gIn X0 hx hby (eD D44_0_ 1 rfl) rfl ?_
  refine gIn X0 hx hby (eD D44_0_ 2 rfl) rfl ?_
  refine gCy (pc := 5) (pc' := 10) X0 hx hby (eD D44_0_ 3 rfl) (XT.ii_lt_t (by decide)) (by decide) (by decide) ?_
  refine gIn X0 hx hby (eD D44_0_ 4 rfl) rfl ?_
  refine OGo.fin X0 hlk (v := (some (.int 1))) (fun h => by rw [hret] at h; cases h) (by decide) (by decide) (fun fs hr => X0.ireturnOut hx hret rfl (by simp) (hb hby (eD D44_0_ 5 rfl)) hr) fun U eU hF => hΦ _ _ _ ?_ hF
  rw [eU, e0]
  show Q_rdc Z  h0 n0 _ _ _
  exact ⟨rfl, N0, rfl⟩

theorem ef_rdl (m : MethodId) (x0 : Addr) (x1 : Addr) : entryFrame m #[(.ref x0), (.ref x1)] 3 = mkF m 0 #[.val (.ref x0), .val (.ref x1), o_] [] := by first | (simp [entryFrame, mkF, argsToLocals, Value.category]; done) | rfl
def Q_rdl (Z : State) (a : Addr) (d : Addr) (kd : ClassId) (b : Addr) (xj : Int32) (h0 : Heap) (n0 : Nat) (v : Option Value) (h : Heap) (L : List Loc) : Prop := v = none ∧ Fr n0 L ∧ Keep h0 h [a, d] ∧ Exa Z h a s8_ ∧ Fld Z h a s8_ "elements" "[Ljava/lang/Object;" (.ref d) ∧ Fld Z h a s8_ "head" "I" (.int (0 : Int32)) ∧ Fld Z h a s8_ "tail" "I" (.int (1 : Int32)) ∧ Arv Z h d kd (.object "java/lang/Object") 17 (own_17b b) .null
theorem rdl (l : Launch) (Z : State) (a0 : Array Value) (hw : OHW Z a0) (ws : List Jvm.Cond) (a : Addr) (d : Addr) (kd : ClassId) (b : Addr) (xj : Int32) (h0 : Heap) (n0 : Nat) (Z0 : n0 ≤ h0.size) (E_a : Exa Z h0 a s8_) (D_e : Fld Z h0 a s8_ "elements" "[Ljava/lang/Object;" (.ref d)) (D_h : Fld Z h0 a s8_ "head" "I" (.int (0 : Int32))) (D_t : Fld Z h0 a s8_ "tail" "I" (.int (0 : Int32))) (n_d : a ≠ d) (o_d : Ovr Z kd "java/lang/Object") (V_d : Arv Z h0 d kd (.object "java/lang/Object") 17 own_17 .null) (B_b : BoxV Z b xj) (O_x : Ext Z.heap h0) (g_a : n0 ≤ a) (g_d : n0 ≤ d) :
    OCon l Z (⟨s8_, "addLast", "(Ljava/lang/Object;)V"⟩ : MethodName) c1_ 3 none ws ({ frames := 1, cells := 0, slots := 0, locals := 15 } : Room) #[(.ref a), (.ref b)] h0 (Q_rdl Z a d kd b xj h0 n0) := by
  refine OCon.of (plainFor_of_name pn13) ?_
  intro p e s m below meth c s₁ Φ X0 hx hby hml hown hnm hret hlk hZ e0 hΦ
  have N0 := Fr.nil n0
  refine os (fun _ z => castTop (ef_rdl m a b) z) ?_
  have K0 := Keep.refl h0 [a, d]
  have E_b := B_b.1.ext O_x
  show OG p e below Φ s₁ m 0 #[rv a, rv b, o_] []
  refine gAn X0 hx hby (eD D43_0_ 0 rfl) rfl rfl ?_
  refine os (fun _ z => XT.ifnonnullYes X0.here hx rfl (pc0 := 1) (pc' := 12) rfl (hb hby (eD D43_0_ 1 rfl)) rfl (by decide) (by decide) z) ?_
  refine gAn X0 hx hby (eD D43_0_ 2 rfl) rfl rfl ?_
  obtain ⟨T1, X1, e1, st1⟩ := getF X0 hx hZ hown (host := "") (Or.inl (ow249 hw)) Via.refl e0 D_e (g := (mkF m 13 #[rv a, rv b, o_] [(.ref a)])) rfl rfl (hb hby (eD D43_0_ 3 rfl))
  refine os st1 ?_
  refine gAsn X1 hx hby (eD D43_0_ 4 rfl) rfl (ls' := #[rv a, rv b, rv d]) rfl ?_
  refine gAn X1 hx hby (eD D43_0_ 5 rfl) rfl rfl ?_
  refine gAn X1 hx hby (eD D43_0_ 6 rfl) rfl rfl ?_
  obtain ⟨T2, X2, e2, st2⟩ := getF X1 hx hZ hown (host := "") (Or.inl (ow258 hw)) Via.refl e1 D_t (g := (mkF m 19 #[rv a, rv b, rv d] [(.ref a), (.ref d)])) rfl rfl (hb hby (eD D43_0_ 7 rfl))
  refine os st2 ?_
  refine gAn X2 hx hby (eD D43_0_ 8 rfl) rfl rfl ?_
  obtain ⟨cl3, Aq3, Cq3, S3, M3, H3, G3⟩ := id V_d
  have in3 : ¬ ((0 : Int32) < 0 ∨ cl3.slots.size ≤ (0 : Int32).toNatClampNeg) := inb_of S3 ⟨by decide, by decide⟩
  obtain ⟨T3, h3, X3, e3, W3, st3⟩ := stR X2 hx hZ e2 Aq3 in3 rfl (Sto.ofV Aq3 Cq3 o_d (Ins.of_exa E_b (ow327 hw))) (g := (mkF m 23 #[rv a, rv b, rv d] [(.ref b), (.int 0), (.ref d)])) rfl rfl (hb hby (eD D43_0_ 9 rfl))
  have F4 := E_a.wr W3
  have F5 := E_b.wr W3
  have F6 := D_e.other W3 (Or.inl n_d)
  have F7 := D_h.other W3 (Or.inl n_d)
  have F8 := D_t.other W3 (Or.inl n_d)
  have V3 : Arv Z h3 d kd (.object "java/lang/Object") (17 : Int32) [(.ref b), .null, .null, .null, .null, .null, .null, .null, .null, .null, .null, .null, .null, .null, .null, .null, .null] .null := Arv.set Aq3 Cq3 S3 M3 H3 G3 rfl W3 0 (by decide) (by show 0 < 17; decide)
  have K3 := K0.wr W3 (Or.inl (List.mem_of_getElem? (i := 1) rfl))
  have N3 := Fr.snoc X3 N0 g_d
  have Zs3 := ozw W3 Z0
  refine os st3 ?_
  refine gAn X3 hx hby (eD D43_0_ 10 rfl) rfl rfl ?_
  obtain ⟨T9, X9, e9, st9⟩ := getF X3 hx hZ hown (host := "") (Or.inl (ow256 hw)) Via.refl e3 F7 (g := (mkF m 25 #[rv a, rv b, rv d] [(.ref a)])) rfl rfl (hb hby (eD D43_0_ 11 rfl))
  refine os st9 ?_
  refine gAn X9 hx hby (eD D43_0_ 12 rfl) rfl rfl ?_
  refine gAn X9 hx hby (eD D43_0_ 13 rfl) rfl rfl ?_
  obtain ⟨T10, X10, e10, st10⟩ := getF X9 hx hZ hown (host := "") (Or.inl (ow258 hw)) Via.refl e9 F8 (g := (mkF m 30 #[rv a, rv b, rv d] [(.ref a), (.ref a), (.int 0)])) rfl rfl (hb hby (eD D43_0_ 14 rfl))
  refine os st10 ?_
  refine gAn X10 hx hby (eD D43_0_ 15 rfl) rfl rfl ?_
  obtain ⟨cl11, Aq11, -, S11, M11, -, -⟩ := id V3
  refine os (fun _ z => X10.arraylength hx (by rw [e10]; exact Aq11.1) (oia hZ Aq11.2.1) (g := (mkF m 34 #[rv a, rv b, rv d] [(.ref d), (.int 0), (.ref a), (.int 0)])) rfl rfl (hb hby (eD D43_1_ 0 rfl)) _ z) ?_
  rw [len_of S11 M11]
  show OG p e below Φ T10 m 35 #[rv a, rv b, rv d] [(.int 17), (.int 0), (.ref a), (.int 0)]
  obtain ⟨_, T12, L12, X12, hQ12, st12⟩ := own_callSt X10 hx hZ hown (ow328 hw) (ow329 hw) (ow242 hw) (ow330 hw) (by decide) (rdc l Z a0 hw []  h3 n0 Zs3 ) e10 (W := 2) (by decide) (pc := 35) (ls := #[rv a, rv b, rv d]) (stk := [(.int 17), (.int 0), (.ref a), (.int 0)]) (by rw [hml]; rfl) (argsL := [(.int 0), (.int 17)]) (rest := [(.ref a), (.int 0)]) (lenOf pd2 rfl) rfl rfl (Nat.le_of_eq rfl) (hb hby (eD D43_1_ 1 rfl))
  obtain ⟨rfl, Nq12, e12⟩ := hQ12
  have N12 := Fr.app N3 Nq12
  refine os st12 ?_
  refine os (fun _ z => XT.dupX1 X12.here hx rfl (hb hby (eD D43_1_ 2 rfl)) rfl rfl rfl z) ?_
  obtain ⟨T13, h13, X13, e13, W13, st13⟩ := putF X12 hx hZ hown (host := "") (Or.inl (ow258 hw)) Via.refl e12 F8 F4 (Or.inl (ow259 hw)) (ow241 hw) (ty := .int) (by decide) rfl rfl (g := (mkF m 39 #[rv a, rv b, rv d] [(.int 1), (.ref a), (.int 1), (.int 0)])) rfl rfl (hb hby (eD D43_1_ 3 rfl))
  have F14 := F4.wr W13
  have F15 := F5.wr W13
  have F16 := F6.other W13 (Or.inr (slot_ne (Or.inl (ow250 hw)) (Or.inl (ow259 hw)) (by decide) (t := (.array (.object "java/lang/Object"))) (t' := .int) (by decide) (by decide)))
  have F17 := F7.other W13 (Or.inr (slot_ne (Or.inl (ow257 hw)) (Or.inl (ow259 hw)) (by decide) (t := .int) (t' := .int) (by decide) (by decide)))
  have F18 := F8.same W13
  have F19 := V3.other W13 (Ne.symm n_d)
  have K13 := K3.wr W13 (Or.inl (List.mem_of_getElem? (i := 0) rfl))
  have N13 := Fr.snoc X13 N12 g_a
  have Zs13 := ozw W13 Zs3
  refine os st13 ?_
  refine gCy (pc := 42) (pc' := 50) X13 hx hby (eD D43_1_ 4 rfl) (XT.ii_ne_t (by decide)) (by decide) (by decide) ?_
  refine OGo.fin X13 hlk (v := none) (fun _ => rfl) (by decide) (by decide) (fun fs hr => X13.returnOut hx hret (hb hby (eD D43_1_ 5 rfl)) hr) fun U eU hF => hΦ _ _ _ ?_ hF
  rw [eU, e13]
  show Q_rdl Z a d kd b xj h0 n0 _ _ _
  exact ⟨rfl, N13, K13, F14, F16, F17, F18, F19⟩

theorem pd17 : parseMethodDescriptor "(Ljava/lang/Object;)V" = some ⟨[(.object "java/lang/Object")], none⟩ := by decide +kernel
theorem ef_rda (m : MethodId) (x0 : Addr) (x1 : Addr) : entryFrame m #[(.ref x0), (.ref x1)] 2 = mkF m 0 #[.val (.ref x0), .val (.ref x1)] [] := by first | (simp [entryFrame, mkF, argsToLocals, Value.category]; done) | rfl
def Q_rda (Z : State) (a : Addr) (d : Addr) (kd : ClassId) (b : Addr) (xj : Int32) (h0 : Heap) (n0 : Nat) (v : Option Value) (h : Heap) (L : List Loc) : Prop := v = some (.int (1 : Int32)) ∧ Fr n0 L ∧ Keep h0 h [a, d] ∧ Exa Z h a s8_ ∧ Fld Z h a s8_ "elements" "[Ljava/lang/Object;" (.ref d) ∧ Fld Z h a s8_ "head" "I" (.int (0 : Int32)) ∧ Fld Z h a s8_ "tail" "I" (.int (1 : Int32)) ∧ Arv Z h d kd (.object "java/lang/Object") 17 (own_17b b) .null
theorem rda (l : Launch) (Z : State) (a0 : Array Value) (hw : OHW Z a0) (ws : List Jvm.Cond) (a : Addr) (d : Addr) (kd : ClassId) (b : Addr) (xj : Int32) (h0 : Heap) (n0 : Nat) (Z0 : n0 ≤ h0.size) (E_a : Exa Z h0 a s8_) (D_e : Fld Z h0 a s8_ "elements" "[Ljava/lang/Object;" (.ref d)) (D_h : Fld Z h0 a s8_ "head" "I" (.int (0 : Int32))) (D_t : Fld Z h0 a s8_ "tail" "I" (.int (0 : Int32))) (n_d : a ≠ d) (o_d : Ovr Z kd "java/lang/Object") (V_d : Arv Z h0 d kd (.object "java/lang/Object") 17 own_17 .null) (B_b : BoxV Z b xj) (O_x : Ext Z.heap h0) (g_a : n0 ≤ a) (g_d : n0 ≤ d) :
    OCon l Z (⟨s8_, "add", "(Ljava/lang/Object;)Z"⟩ : MethodName) c4_ 2 (some .boolean) ws ({ frames := 2, cells := 0, slots := 0, locals := 29 } : Room) #[(.ref a), (.ref b)] h0 (Q_rda Z a d kd b xj h0 n0) := by
  refine OCon.of (plainFor_of_name pn13) ?_
  intro p e s m below meth c s₁ Φ X0 hx hby hml hown hnm hret hlk hZ e0 hΦ
  have N0 := Fr.nil n0
  refine os (fun _ z => castTop (ef_rda m a b) z) ?_
  have K0 := Keep.refl h0 [a, d]
  have E_b := B_b.1.ext O_x
  show OG p e below Φ s₁ m 0 #[rv a, rv b] []
  refine gAn X0 hx hby (eD D42_0_ 0 rfl) rfl rfl ?_
  refine gAn X0 hx hby (eD D42_0_ 1 rfl) rfl rfl ?_
  obtain ⟨_, T1, L1, X1, hQ1, st1⟩ := own_callVi X0 hx hZ hown (ow322 hw) (ow323 hw) (notFace_of_selects (args := #[]) (mvT hZ (ow325 hw))) (ow325 hw) (ow324 hw) (ow242 hw) (ow326 hw) (by decide) (rdl l Z a0 hw [] a d kd b xj h0 n0 Z0 E_a D_e D_h D_t n_d o_d V_d B_b O_x g_a g_d) e0 (W := 0) (by decide) E_a (pc := 2) (ls := #[rv a, rv b]) (stk := [(.ref b), (.ref a)]) (by rw [hml]; rfl) (argsL := [(.ref b)]) (rest := []) (lenOf pd17 rfl) rfl rfl (Nat.le_of_eq rfl) (hb hby (eD D42_0_ 2 rfl))
  obtain ⟨rfl, Nq1, Kq1, Eq1, De1, Dh1, Dt1, Vq1⟩ := hQ1
  have N1 := Fr.app N0 Nq1
  have Zs1 := Nat.le_trans Z0 Kq1.1
  have F2 := E_b.keep Kq1
  have K1 := K0.trans Kq1 (allS (Or.inl (List.mem_of_getElem? (i := 0) rfl)) (allS (Or.inl (List.mem_of_getElem? (i := 1) rfl)) all0))
  refine os st1 ?_
  refine gIc (x := 1) X1 hx hby (eD D42_0_ 3 rfl) rfl ?_
  refine OGo.fin X1 hlk (v := (some (.int 1))) (fun h => by rw [hret] at h; cases h) (by decide) (by decide) (fun fs hr => X1.ireturnOut hx hret rfl (by simp) (hb hby (eD D42_0_ 4 rfl)) hr) fun U eU hF => hΦ _ _ _ ?_ hF
  rw [eU]
  show Q_rda Z a d kd b xj h0 n0 _ _ _
  exact ⟨rfl, N1, K1, Eq1, De1, Dh1, Dt1, Vq1⟩

theorem ef_rdt (m : MethodId) (x0 : Addr) (x1 : Int32) : entryFrame m #[(.ref x0), (.int x1)] 2 = mkF m 0 #[.val (.ref x0), .val (.int x1)] [] := by first | (simp [entryFrame, mkF, argsToLocals, Value.category]; done) | rfl
def Q_rdt (Z : State) (a : Addr) (d : Addr) (kd : ClassId) (b : Addr) (xj : Int32) (h0 : Heap) (n0 : Nat) (v : Option Value) (h : Heap) (L : List Loc) : Prop := v = some (.ref b) ∧ Fr n0 L ∧ h = h0
theorem rdt (l : Launch) (Z : State) (a0 : Array Value) (hw : OHW Z a0) (ws : List Jvm.Cond) (a : Addr) (d : Addr) (kd : ClassId) (b : Addr) (xj : Int32) (h0 : Heap) (n0 : Nat) (Z0 : n0 ≤ h0.size) (V_d : Arv Z h0 d kd (.object "java/lang/Object") 17 (own_17b b) .null) :
    OCon l Z (⟨s8_, "elementAt", "([Ljava/lang/Object;I)Ljava/lang/Object;"⟩ : MethodName) c0_ 2 (some (.object "java/lang/Object")) ws ({ frames := 0, cells := 0, slots := 0, locals := 0 } : Room) #[(.ref d), (.int (0 : Int32))] h0 (Q_rdt Z a d kd b xj h0 n0) := by
  refine OCon.of (plainFor_of_name pn13) ?_
  intro p e s m below meth c s₁ Φ X0 hx hby hml hown hnm hret hlk hZ e0 hΦ
  have N0 := Fr.nil n0
  refine os (fun _ z => castTop (ef_rdt m d (0 : Int32)) z) ?_
  show OG p e below Φ s₁ m 0 #[rv d, iv 0] []
  refine gAn X0 hx hby (eD D48_0_ 0 rfl) rfl rfl ?_
  refine gIn X0 hx hby (eD D48_0_ 1 rfl) rfl ?_
  obtain ⟨cl1, Aq1, -, S1, M1, H1, -⟩ := id V_d
  have in1 : ¬ ((0 : Int32) < 0 ∨ cl1.slots.size ≤ (0 : Int32).toNatClampNeg) := inb_of S1 ⟨by decide, by decide⟩
  have at1 : cl1.slots[(0 : Int32).toNatClampNeg]? = some (.ref b) := H1.at in1 rfl
  refine os (fun _ z => X0.aaload hx (by rw [e0]; exact Aq1.1) (oia hZ Aq1.2.1) rfl Aq1.2.2 in1 at1 (g := (mkF m 2 #[rv d, iv 0] [(.int 0), (.ref d)])) rfl rfl (hb hby (eD D48_0_ 2 rfl)) _ z) ?_
  refine OGo.fin X0 hlk (v := (some (.ref b))) (fun h => by rw [hret] at h; cases h) (by decide) (by decide) (fun fs hr => X0.areturnOut hx rfl hret rfl (hb hby (eD D48_0_ 3 rfl)) hr) fun U eU hF => hΦ _ _ _ ?_ hF
  rw [eU, e0]
  show Q_rdt Z a d kd b xj h0 n0 _ _ _
  exact ⟨rfl, N0, rfl⟩

theorem pd18 : parseMethodDescriptor "([Ljava/lang/Object;I)Ljava/lang/Object;" = some ⟨[(.array (.object "java/lang/Object")), .int], some (.object "java/lang/Object")⟩ := by decide +kernel
theorem ef_rdp (m : MethodId) (x0 : Addr) : entryFrame m #[(.ref x0)] 4 = mkF m 0 #[.val (.ref x0), o_, o_, o_] [] := by first | (simp [entryFrame, mkF, argsToLocals, Value.category]; done) | rfl
def Q_rdp (Z : State) (a : Addr) (d : Addr) (kd : ClassId) (b : Addr) (xj : Int32) (h0 : Heap) (n0 : Nat) (v : Option Value) (h : Heap) (L : List Loc) : Prop := v = some (.ref b) ∧ Fr n0 L ∧ Keep h0 h [a, d] ∧ Exa Z h a s8_ ∧ Fld Z h a s8_ "elements" "[Ljava/lang/Object;" (.ref d) ∧ Fld Z h a s8_ "head" "I" (.int (1 : Int32)) ∧ Fld Z h a s8_ "tail" "I" (.int (1 : Int32)) ∧ Arv Z h d kd (.object "java/lang/Object") 17 own_17 .null
theorem rdp (l : Launch) (Z : State) (a0 : Array Value) (hw : OHW Z a0) (ws : List Jvm.Cond) (a : Addr) (d : Addr) (kd : ClassId) (b : Addr) (xj : Int32) (h0 : Heap) (n0 : Nat) (Z0 : n0 ≤ h0.size) (E_a : Exa Z h0 a s8_) (D_e : Fld Z h0 a s8_ "elements" "[Ljava/lang/Object;" (.ref d)) (D_h : Fld Z h0 a s8_ "head" "I" (.int (0 : Int32))) (D_t : Fld Z h0 a s8_ "tail" "I" (.int (1 : Int32))) (n_d : a ≠ d) (o_d : Ovr Z kd "java/lang/Object") (V_d : Arv Z h0 d kd (.object "java/lang/Object") 17 (own_17b b) .null) (B_b : BoxV Z b xj) (O_x : Ext Z.heap h0) (g_a : n0 ≤ a) (g_d : n0 ≤ d) :
    OCon l Z (⟨s8_, "pollFirst", "()Ljava/lang/Object;"⟩ : MethodName) c3_ 4 (some (.object "java/lang/Object")) ws ({ frames := 1, cells := 0, slots := 0, locals := 14 } : Room) #[(.ref a)] h0 (Q_rdp Z a d kd b xj h0 n0) := by
  refine OCon.of (plainFor_of_name pn13) ?_
  intro p e s m below meth c s₁ Φ X0 hx hby hml hown hnm hret hlk hZ e0 hΦ
  have N0 := Fr.nil n0
  refine os (fun _ z => castTop (ef_rdp m a) z) ?_
  have K0 := Keep.refl h0 [a, d]
  have E_b := B_b.1.ext O_x
  show OG p e below Φ s₁ m 0 #[rv a, o_, o_, o_] []
  refine gAn X0 hx hby (eD D47_0_ 0 rfl) rfl rfl ?_
  obtain ⟨T1, X1, e1, st1⟩ := getF X0 hx hZ hown (host := "") (Or.inl (ow249 hw)) Via.refl e0 D_e (g := (mkF m 1 #[rv a, o_, o_, o_] [(.ref a)])) rfl rfl (hb hby (eD D47_0_ 1 rfl))
  refine os st1 ?_
  refine gDu X1 hx hby (eD D47_0_ 2 rfl) rfl ?_
  refine gAsn X1 hx hby (eD D47_0_ 3 rfl) rfl (ls' := #[rv a, rv d, o_, o_]) rfl ?_
  refine gAn X1 hx hby (eD D47_0_ 4 rfl) rfl rfl ?_
  obtain ⟨T2, X2, e2, st2⟩ := getF X1 hx hZ hown (host := "") (Or.inl (ow256 hw)) Via.refl e1 D_h (g := (mkF m 7 #[rv a, rv d, o_, o_] [(.ref a), (.ref d)])) rfl rfl (hb hby (eD D47_0_ 5 rfl))
  refine os st2 ?_
  refine gDu X2 hx hby (eD D47_0_ 6 rfl) rfl ?_
  refine gIsn X2 hx hby (eD D47_0_ 7 rfl) (ls' := #[rv a, rv d, iv 0, o_]) rfl ?_
  obtain ⟨_, T3, L3, X3, hQ3, st3⟩ := own_callSt X2 hx hZ hown (ow346 hw) (ow347 hw) (ow242 hw) (ow348 hw) (by decide) (rdt l Z a0 hw [] a d kd b xj h0 n0 Z0 V_d) e2 (W := 0) (by decide) (pc := 12) (ls := #[rv a, rv d, iv 0, o_]) (stk := [(.int 0), (.ref d)]) (by rw [hml]; rfl) (argsL := [(.ref d), (.int 0)]) (rest := []) (lenOf pd18 rfl) rfl rfl (Nat.le_of_eq rfl) (hb hby (eD D47_0_ 8 rfl))
  obtain ⟨rfl, Nq3, e3⟩ := hQ3
  have N3 := Fr.app N0 Nq3
  refine os st3 ?_
  refine gAsn X3 hx hby (eD D47_0_ 9 rfl) rfl (ls' := #[rv a, rv d, iv 0, rv b]) rfl ?_
  refine gAn X3 hx hby (eD D47_0_ 10 rfl) rfl rfl ?_
  refine os (fun _ z => XS.ifnullNo X3.here hx rfl (hb hby (eD D47_0_ 11 rfl)) rfl z) ?_
  refine gAn X3 hx hby (eD D47_0_ 12 rfl) rfl rfl ?_
  refine gIn X3 hx hby (eD D47_0_ 13 rfl) rfl ?_
  refine os (fun _ z => XS.aconstNull X3.here hx rfl (hb hby (eD D47_0_ 14 rfl)) z) ?_
  obtain ⟨cl4, Aq4, Cq4, S4, M4, H4, G4⟩ := id V_d
  have in4 : ¬ ((0 : Int32) < 0 ∨ cl4.slots.size ≤ (0 : Int32).toNatClampNeg) := inb_of S4 ⟨by decide, by decide⟩
  obtain ⟨T4, h4, X4, e4, W4, st4⟩ := stR X3 hx hZ e3 Aq4 in4 rfl (Or.inl rfl) (g := (mkF m 23 #[rv a, rv d, iv 0, rv b] [.null, (.int 0), (.ref d)])) rfl rfl (hb hby (eD D47_0_ 15 rfl))
  have F5 := E_a.wr W4
  have F6 := E_b.wr W4
  have F7 := D_e.other W4 (Or.inl n_d)
  have F8 := D_h.other W4 (Or.inl n_d)
  have F9 := D_t.other W4 (Or.inl n_d)
  have V4 : Arv Z h4 d kd (.object "java/lang/Object") (17 : Int32) [.null, .null, .null, .null, .null, .null, .null, .null, .null, .null, .null, .null, .null, .null, .null, .null, .null] .null := Arv.set Aq4 Cq4 S4 M4 H4 G4 rfl W4 0 (by decide) (by show 0 < 17; decide)
  have K4 := K0.wr W4 (Or.inl (List.mem_of_getElem? (i := 1) rfl))
  have N4 := Fr.snoc X4 N3 g_d
  have Zs4 := ozw W4 Z0
  refine os st4 ?_
  refine gAn X4 hx hby (eD D47_1_ 0 rfl) rfl rfl ?_
  refine gIn X4 hx hby (eD D47_1_ 1 rfl) rfl ?_
  refine gAn X4 hx hby (eD D47_1_ 2 rfl) rfl rfl ?_
  obtain ⟨cl10, Aq10, -, S10, M10, -, -⟩ := id V4
  refine os (fun _ z => X4.arraylength hx (by rw [e4]; exact Aq10.1) (oia hZ Aq10.2.1) (g := (mkF m 27 #[rv a, rv d, iv 0, rv b] [(.ref d), (.int 0), (.ref a)])) rfl rfl (hb hby (eD D47_1_ 3 rfl)) _ z) ?_
  rw [len_of S10 M10]
  show OG p e below Φ T4 m 28 #[rv a, rv d, iv 0, rv b] [(.int 17), (.int 0), (.ref a)]
  obtain ⟨_, T11, L11, X11, hQ11, st11⟩ := own_callSt X4 hx hZ hown (ow328 hw) (ow329 hw) (ow242 hw) (ow330 hw) (by decide) (rdc l Z a0 hw []  h4 n0 Zs4 ) e4 (W := 1) (by decide) (pc := 28) (ls := #[rv a, rv d, iv 0, rv b]) (stk := [(.int 17), (.int 0), (.ref a)]) (by rw [hml]; rfl) (argsL := [(.int 0), (.int 17)]) (rest := [(.ref a)]) (lenOf pd2 rfl) rfl rfl (Nat.le_of_eq rfl) (hb hby (eD D47_1_ 4 rfl))
  obtain ⟨rfl, Nq11, e11⟩ := hQ11
  have N11 := Fr.app N4 Nq11
  refine os st11 ?_
  obtain ⟨T12, h12, X12, e12, W12, st12⟩ := putF X11 hx hZ hown (host := "") (Or.inl (ow256 hw)) Via.refl e11 F8 F5 (Or.inl (ow257 hw)) (ow241 hw) (ty := .int) (by decide) rfl rfl (g := (mkF m 31 #[rv a, rv d, iv 0, rv b] [(.int 1), (.ref a)])) rfl rfl (hb hby (eD D47_1_ 5 rfl))
  have F13 := F5.wr W12
  have F14 := F6.wr W12
  have F15 := F7.other W12 (Or.inr (slot_ne (Or.inl (ow250 hw)) (Or.inl (ow257 hw)) (by decide) (t := (.array (.object "java/lang/Object"))) (t' := .int) (by decide) (by decide)))
  have F16 := F8.same W12
  have F17 := F9.other W12 (Or.inr (slot_ne (Or.inl (ow259 hw)) (Or.inl (ow257 hw)) (by decide) (t := .int) (t' := .int) (by decide) (by decide)))
  have F18 := V4.other W12 (Ne.symm n_d)
  have K12 := K4.wr W12 (Or.inl (List.mem_of_getElem? (i := 0) rfl))
  have N12 := Fr.snoc X12 N11 g_a
  have Zs12 := ozw W12 Zs4
  refine os st12 ?_
  refine gAn X12 hx hby (eD D47_1_ 6 rfl) rfl rfl ?_
  refine OGo.fin X12 hlk (v := (some (.ref b))) (fun h => by rw [hret] at h; cases h) (by decide) (by decide) (fun fs hr => X12.areturnOut hx rfl hret rfl (hb hby (eD D47_1_ 7 rfl)) hr) fun U eU hF => hΦ _ _ _ ?_ hF
  rw [eU, e12]
  show Q_rdp Z a d kd b xj h0 n0 _ _ _
  exact ⟨rfl, N12, K12, F13, F15, F16, F17, F18⟩

theorem ef_rdf (m : MethodId) (x0 : Addr) : entryFrame m #[(.ref x0)] 2 = mkF m 0 #[.val (.ref x0), o_] [] := by first | (simp [entryFrame, mkF, argsToLocals, Value.category]; done) | rfl
def Q_rdf (Z : State) (a : Addr) (d : Addr) (kd : ClassId) (b : Addr) (xj : Int32) (h0 : Heap) (n0 : Nat) (v : Option Value) (h : Heap) (L : List Loc) : Prop := v = some (.ref b) ∧ Fr n0 L ∧ Keep h0 h [a, d] ∧ Exa Z h a s8_ ∧ Fld Z h a s8_ "elements" "[Ljava/lang/Object;" (.ref d) ∧ Fld Z h a s8_ "head" "I" (.int (1 : Int32)) ∧ Fld Z h a s8_ "tail" "I" (.int (1 : Int32)) ∧ Arv Z h d kd (.object "java/lang/Object") 17 own_17 .null
theorem rdf (l : Launch) (Z : State) (a0 : Array Value) (hw : OHW Z a0) (ws : List Jvm.Cond) (a : Addr) (d : Addr) (kd : ClassId) (b : Addr) (xj : Int32) (h0 : Heap) (n0 : Nat) (Z0 : n0 ≤ h0.size) (E_a : Exa Z h0 a s8_) (D_e : Fld Z h0 a s8_ "elements" "[Ljava/lang/Object;" (.ref d)) (D_h : Fld Z h0 a s8_ "head" "I" (.int (0 : Int32))) (D_t : Fld Z h0 a s8_ "tail" "I" (.int (1 : Int32))) (n_d : a ≠ d) (o_d : Ovr Z kd "java/lang/Object") (V_d : Arv Z h0 d kd (.object "java/lang/Object") 17 (own_17b b) .null) (B_b : BoxV Z b xj) (O_x : Ext Z.heap h0) (g_a : n0 ≤ a) (g_d : n0 ≤ d) :
    OCon l Z (⟨s8_, "removeFirst", "()Ljava/lang/Object;"⟩ : MethodName) c2_ 2 (some (.object "java/lang/Object")) ws ({ frames := 2, cells := 0, slots := 0, locals := 29 } : Room) #[(.ref a)] h0 (Q_rdf Z a d kd b xj h0 n0) := by
  refine OCon.of (plainFor_of_name pn13) ?_
  intro p e s m below meth c s₁ Φ X0 hx hby hml hown hnm hret hlk hZ e0 hΦ
  have N0 := Fr.nil n0
  refine os (fun _ z => castTop (ef_rdf m a) z) ?_
  have K0 := Keep.refl h0 [a, d]
  have E_b := B_b.1.ext O_x
  show OG p e below Φ s₁ m 0 #[rv a, o_] []
  refine gAn X0 hx hby (eD D46_0_ 0 rfl) rfl rfl ?_
  obtain ⟨_, T1, L1, X1, hQ1, st1⟩ := own_callVi X0 hx hZ hown (ow341 hw) (ow342 hw) (notFace_of_selects (args := #[]) (mvT hZ (ow344 hw))) (ow344 hw) (ow343 hw) (ow242 hw) (ow345 hw) (by decide) (rdp l Z a0 hw [] a d kd b xj h0 n0 Z0 E_a D_e D_h D_t n_d o_d V_d B_b O_x g_a g_d) e0 (W := 0) (by decide) E_a (pc := 1) (ls := #[rv a, o_]) (stk := [(.ref a)]) (by rw [hml]; rfl) (argsL := []) (rest := []) (lenOf pd16 rfl) rfl rfl (Nat.le_of_eq rfl) (hb hby (eD D46_0_ 1 rfl))
  obtain ⟨rfl, Nq1, Kq1, Eq1, De1, Dh1, Dt1, Vq1⟩ := hQ1
  have N1 := Fr.app N0 Nq1
  have Zs1 := Nat.le_trans Z0 Kq1.1
  have F2 := E_b.keep Kq1
  have K1 := K0.trans Kq1 (allS (Or.inl (List.mem_of_getElem? (i := 0) rfl)) (allS (Or.inl (List.mem_of_getElem? (i := 1) rfl)) all0))
  refine os st1 ?_
  refine gAsn X1 hx hby (eD D46_0_ 2 rfl) rfl (ls' := #[rv a, rv b]) rfl ?_
  refine gAn X1 hx hby (eD D46_0_ 3 rfl) rfl rfl ?_
  refine os (fun _ z => XT.ifnonnullYes X1.here hx rfl (pc0 := 6) (pc' := 17) rfl (hb hby (eD D46_0_ 4 rfl)) rfl (by decide) (by decide) z) ?_
  refine gAn X1 hx hby (eD D46_0_ 5 rfl) rfl rfl ?_
  refine OGo.fin X1 hlk (v := (some (.ref b))) (fun h => by rw [hret] at h; cases h) (by decide) (by decide) (fun fs hr => X1.areturnOut hx rfl hret rfl (hb hby (eD D46_0_ 6 rfl)) hr) fun U eU hF => hΦ _ _ _ ?_ hF
  rw [eU]
  show Q_rdf Z a d kd b xj h0 n0 _ _ _
  exact ⟨rfl, N1, K1, Eq1, De1, Dh1, Dt1, Vq1⟩

theorem ef_rdr (m : MethodId) (x0 : Addr) : entryFrame m #[(.ref x0)] 1 = mkF m 0 #[.val (.ref x0)] [] := by first | (simp [entryFrame, mkF, argsToLocals, Value.category]; done) | rfl
def Q_rdr (Z : State) (a : Addr) (d : Addr) (kd : ClassId) (b : Addr) (xj : Int32) (h0 : Heap) (n0 : Nat) (v : Option Value) (h : Heap) (L : List Loc) : Prop := v = some (.ref b) ∧ Fr n0 L ∧ Keep h0 h [a, d] ∧ Exa Z h a s8_ ∧ Fld Z h a s8_ "elements" "[Ljava/lang/Object;" (.ref d) ∧ Fld Z h a s8_ "head" "I" (.int (1 : Int32)) ∧ Fld Z h a s8_ "tail" "I" (.int (1 : Int32)) ∧ Arv Z h d kd (.object "java/lang/Object") 17 own_17 .null
theorem rdr (l : Launch) (Z : State) (a0 : Array Value) (hw : OHW Z a0) (ws : List Jvm.Cond) (a : Addr) (d : Addr) (kd : ClassId) (b : Addr) (xj : Int32) (h0 : Heap) (n0 : Nat) (Z0 : n0 ≤ h0.size) (E_a : Exa Z h0 a s8_) (D_e : Fld Z h0 a s8_ "elements" "[Ljava/lang/Object;" (.ref d)) (D_h : Fld Z h0 a s8_ "head" "I" (.int (0 : Int32))) (D_t : Fld Z h0 a s8_ "tail" "I" (.int (1 : Int32))) (n_d : a ≠ d) (o_d : Ovr Z kd "java/lang/Object") (V_d : Arv Z h0 d kd (.object "java/lang/Object") 17 (own_17b b) .null) (B_b : BoxV Z b xj) (O_x : Ext Z.heap h0) (g_a : n0 ≤ a) (g_d : n0 ≤ d) :
    OCon l Z (⟨s8_, "remove", "()Ljava/lang/Object;"⟩ : MethodName) c5_ 1 (some (.object "java/lang/Object")) ws ({ frames := 3, cells := 0, slots := 0, locals := 42 } : Room) #[(.ref a)] h0 (Q_rdr Z a d kd b xj h0 n0) := by
  refine OCon.of (plainFor_of_name pn13) ?_
  intro p e s m below meth c s₁ Φ X0 hx hby hml hown hnm hret hlk hZ e0 hΦ
  have N0 := Fr.nil n0
  refine os (fun _ z => castTop (ef_rdr m a) z) ?_
  have K0 := Keep.refl h0 [a, d]
  have E_b := B_b.1.ext O_x
  show OG p e below Φ s₁ m 0 #[rv a] []
  refine gAn X0 hx hby (eD D45_0_ 0 rfl) rfl rfl ?_
  obtain ⟨_, T1, L1, X1, hQ1, st1⟩ := own_callVi X0 hx hZ hown (ow336 hw) (ow337 hw) (notFace_of_selects (args := #[]) (mvT hZ (ow339 hw))) (ow339 hw) (ow338 hw) (ow242 hw) (ow340 hw) (by decide) (rdf l Z a0 hw [] a d kd b xj h0 n0 Z0 E_a D_e D_h D_t n_d o_d V_d B_b O_x g_a g_d) e0 (W := 0) (by decide) E_a (pc := 1) (ls := #[rv a]) (stk := [(.ref a)]) (by rw [hml]; rfl) (argsL := []) (rest := []) (lenOf pd16 rfl) rfl rfl (Nat.le_of_eq rfl) (hb hby (eD D45_0_ 1 rfl))
  obtain ⟨rfl, Nq1, Kq1, Eq1, De1, Dh1, Dt1, Vq1⟩ := hQ1
  have N1 := Fr.app N0 Nq1
  have Zs1 := Nat.le_trans Z0 Kq1.1
  have F2 := E_b.keep Kq1
  have K1 := K0.trans Kq1 (allS (Or.inl (List.mem_of_getElem? (i := 0) rfl)) (allS (Or.inl (List.mem_of_getElem? (i := 1) rfl)) all0))
  refine os st1 ?_
  refine OGo.fin X1 hlk (v := (some (.ref b))) (fun h => by rw [hret] at h; cases h) (by decide) (by decide) (fun fs hr => X1.areturnOut hx rfl hret rfl (hb hby (eD D45_0_ 2 rfl)) hr) fun U eU hF => hΦ _ _ _ ?_ hF
  rw [eU]
  show Q_rdr Z a d kd b xj h0 n0 _ _ _
  exact ⟨rfl, N1, K1, Eq1, De1, Dh1, Dt1, Vq1⟩

theorem pf_rmn : plainFor (⟨"java/lang/Math", "min", "(II)I"⟩ : MethodName) = true := by decide +kernel
theorem ef_rmn (m : MethodId) (x0 : Int32) (x1 : Int32) : entryFrame m #[(.int x0), (.int x1)] 2 = mkF m 0 #[.val (.int x0), .val (.int x1)] [] := by first | (simp [entryFrame, mkF, argsToLocals, Value.category]; done) | rfl
def Q_rmn (Z : State) (x0 : Int32) (x1 : Int32) (h0 : Heap) (n0 : Nat) (v : Option Value) (h : Heap) (L : List Loc) : Prop := v = some (.int (own_min x0 x1)) ∧ Fr n0 L ∧ h = h0
theorem rmn (l : Launch) (Z : State) (a0 : Array Value) (hw : OHW Z a0) (ws : List Jvm.Cond) (x0 : Int32) (x1 : Int32) (h0 : Heap) (n0 : Nat) (Z0 : n0 ≤ h0.size)  :
    OCon l Z (⟨"java/lang/Math", "min", "(II)I"⟩ : MethodName) c11_ 2 (some .int) ws ({ frames := 0, cells := 0, slots := 0, locals := 0 } : Room) #[(.int x0), (.int x1)] h0 (Q_rmn Z x0 x1 h0 n0) := by
  refine OCon.of pf_rmn ?_
  intro p e s m below meth c s₁ Φ X0 hx hby hml hown hnm hret hlk hZ e0 hΦ
  have N0 := Fr.nil n0
  refine os (fun _ z => castTop (ef_rmn m x0 x1) z) ?_
  show OG p e below Φ s₁ m 0 #[iv x0, iv x1] []
  refine gIn X0 hx hby (eD D37_0_ 0 rfl) rfl ?_
  refine gIn X0 hx hby (eD D37_0_ 1 rfl) rfl ?_
  by_cases hc1 : x1 < x0
  · refine gCy (pc := 2) (pc' := 9) X0 hx hby (eD D37_0_ 2 rfl) (XT.ii_gt_t hc1) (by decide) (by decide) ?_
    refine gIn X0 hx hby (eD D37_0_ 3 rfl) rfl ?_
    refine OGo.fin X0 hlk (v := (some (.int x1))) (fun h => by rw [hret] at h; cases h) (by decide) (by decide) (fun fs hr => X0.ireturnOut hx hret rfl (by simp) (hb hby (eD D37_0_ 4 rfl)) hr) fun U eU hF => hΦ _ _ _ ?_ hF
    rw [eU, e0]
    show Q_rmn Z x0 x1 h0 n0 _ _ _
    exact ⟨by simp [own_min, hc1], N0, rfl⟩
  · refine gCn X0 hx hby (eD D37_0_ 2 rfl) (XT.ii_gt_f hc1) ?_
    refine gIn X0 hx hby (eD D37_0_ 5 rfl) rfl ?_
    refine gGo (pc := 6) (pc' := 10) X0 hx hby (eD D37_0_ 6 rfl) (by decide) (by decide) ?_
    refine OGo.fin X0 hlk (v := (some (.int x0))) (fun h => by rw [hret] at h; cases h) (by decide) (by decide) (fun fs hr => X0.ireturnOut hx hret rfl (by simp) (hb hby (eD D37_0_ 4 rfl)) hr) fun U eU hF => hΦ _ _ _ ?_ hF
    rw [eU, e0]
    show Q_rmn Z x0 x1 h0 n0 _ _ _
    exact ⟨by simp [own_min, hc1], N0, rfl⟩

def copK (xs : List Int32) (xn : Int32) : Option (List Int32) := (if xn = (own_n xs) then (none) else (kgd xn 10 <| kas (xn.toNatClampNeg ≤ xs.length) <| some (xs.take xn.toNatClampNeg)))
theorem ef_rcp (m : MethodId) (x0 : Addr) (x1 : Int32) : entryFrame m #[(.ref x0), (.int x1)] 3 = mkF m 0 #[.val (.ref x0), .val (.int x1), o_] [] := by first | (simp [entryFrame, mkF, argsToLocals, Value.category]; done) | rfl
def Q_rcp (Z : State) (a : Addr) (xs : List Int32) (xn : Int32) (t_ : List Int32) (h0 : Heap) (n0 : Nat) (v : Option Value) (h : Heap) (L : List Loc) : Prop := ∃ b, v = some (.ref b) ∧ Fr n0 L ∧ Keep h0 h [] ∧ PA Z h b .int t_ ∧ h0.size ≤ b
theorem rcp (l : Launch) (Z : State) (a0 : Array Value) (hw : OHW Z a0) (ws : List Jvm.Cond) (a : Addr) (xs : List Int32) (xn : Int32) (t_ : List Int32) (h0 : Heap) (n0 : Nat) (Z0 : n0 ≤ h0.size) (P_a : PA Z h0 a .int xs) (hK0 : copK xs xn = some t_) :
    OCon l Z (⟨"java/util/Arrays", "copyOf", "([II)[I"⟩ : MethodName) c32_ 3 (some (.array .int)) ws ({ frames := 1, cells := 1, slots := 10, locals := 40 } : Room) #[(.ref a), (.int xn)] h0 (Q_rcp Z a xs xn t_ h0 n0) := by
  refine OCon.of (plainFor_of_name pn7) ?_
  intro p e s m below meth c s₁ Φ X0 hx hby hml hown hnm hret hlk hZ e0 hΦ
  have N0 := Fr.nil n0
  refine os (fun _ z => castTop (ef_rcp m a xn) z) ?_
  have K0 := Keep.refl h0 []
  have hK := hK0
  unfold copK at hK
  show OG p e below Φ s₁ m 0 #[rv a, iv xn, o_] []
  refine gIn X0 hx hby (eD D36_0_ 0 rfl) rfl ?_
  refine gAn X0 hx hby (eD D36_0_ 1 rfl) rfl rfl ?_
  obtain ⟨cl1, Aq1, S1, M1⟩ := PA.len P_a
  refine os (fun _ z => X0.arraylength hx (by rw [e0]; exact Aq1.1) (oia hZ Aq1.2.1) (g := (mkF m 2 #[rv a, iv xn, o_] [(.ref a), (.int xn)])) rfl rfl (hb hby (eD D36_0_ 2 rfl)) _ z) ?_
  rw [len_of S1 M1]
  show OG p e below Φ s₁ m 3 #[rv a, iv xn, o_] [(.int (own_n xs)), (.int xn)]
  by_cases hc2 : xn = (own_n xs)
  replace hK := kif_t hc2 hK
  refine gCn X0 hx hby (eD D36_0_ 3 rfl) (XT.ii_ne_f hc2) ?_
  show OG p e below Φ s₁ m 6 #[rv a, iv xn, o_] []
  exact (knone hK).elim
  replace hK := kif_f hc2 hK
  refine gCy (pc := 3) (pc' := 14) X0 hx hby (eD D36_0_ 3 rfl) (XT.ii_ne_t hc2) (by decide) (by decide) ?_
  refine gIn X0 hx hby (eD D36_0_ 5 rfl) rfl ?_
  replace hK := kgd_some hK
  obtain ⟨gn3, gc3, hK⟩ := hK
  obtain ⟨T3, h3, c3, X3, e3, E3, Ar3, st3⟩ := newP (aty := .int) X0 hx hZ (ow139 hw) e0 (g := (mkF m 15 #[rv a, iv xn, o_] [(.int xn)])) rfl (hb hby (eD D36_0_ 6 rfl)) rfl gn3 (cap := 10) gc3 (by decide) (by decide) (by decide)
  obtain ⟨b3, g3⟩ : ∃ z, z = h0.size := ⟨_, rfl⟩
  rw [← g3] at Ar3 st3
  have ne3_a := one_ g3 P_a.lt
  have F4 := P_a.ext E3
  have gb3 := Nat.le_trans Z0 (Nat.le_of_eq g3.symm)
  have sz3 := Nat.le_trans K0.1 (Nat.le_of_eq g3.symm)
  have K3 := K0.ext E3
  have Zs3 := Nat.le_trans Z0 E3.1
  have P3 : PA Z h3 b3 .int (List.replicate xn.toNatClampNeg (0 : Int32)) := PA.new Ar3 gn3 rfl rfl
  refine os st3 ?_
  refine gAsn X3 hx hby (eD D36_0_ 7 rfl) rfl (ls' := #[rv a, iv xn, rv b3]) rfl ?_
  refine gAn X3 hx hby (eD D36_0_ 8 rfl) rfl rfl ?_
  refine gIc (x := 0) X3 hx hby (eD D36_0_ 9 rfl) rfl ?_
  refine gAn X3 hx hby (eD D36_0_ 10 rfl) rfl rfl ?_
  refine gIc (x := 0) X3 hx hby (eD D36_0_ 11 rfl) rfl ?_
  refine gAn X3 hx hby (eD D36_0_ 12 rfl) rfl rfl ?_
  obtain ⟨cl5, Aq5, S5, M5⟩ := PA.len F4
  refine os (fun _ z => X3.arraylength hx (by rw [e3]; exact Aq5.1) (oia hZ Aq5.2.1) (g := (mkF m 23 #[rv a, iv xn, rv b3] [(.ref a), (.int 0), (.ref b3), (.int 0), (.ref a)])) rfl rfl (hb hby (eD D36_0_ 13 rfl)) _ z) ?_
  rw [len_of S5 M5]
  show OG p e below Φ T3 m 24 #[rv a, iv xn, rv b3] [(.int (own_n xs)), (.int 0), (.ref b3), (.int 0), (.ref a)]
  refine gIn X3 hx hby (eD D36_0_ 14 rfl) rfl ?_
  obtain ⟨_, T6, L6, X6, hQ6, st6⟩ := own_callSt X3 hx hZ hown (ow263 hw) (ow264 hw) (ow53 hw) (ow265 hw) (by decide) (rmn l Z a0 hw [] (own_n xs) xn h3 n0 Zs3 ) e3 (W := 4) (by decide) (pc := 25) (ls := #[rv a, iv xn, rv b3]) (stk := [(.int xn), (.int (own_n xs)), (.int 0), (.ref b3), (.int 0), (.ref a)]) (by rw [hml]; rfl) (argsL := [(.int (own_n xs)), (.int xn)]) (rest := [(.int 0), (.ref b3), (.int 0), (.ref a)]) (lenOf pd2 rfl) rfl rfl (Nat.le_of_eq rfl) (hb hby (eD D36_0_ 15 rfl))
  obtain ⟨rfl, Nq6, e6⟩ := hQ6
  have N6 := Fr.app N0 Nq6
  refine os st6 ?_
  show OG p e below Φ T6 m 28 #[rv a, iv xn, rv b3] [(.int (own_min (own_n xs) xn)), (.int 0), (.ref b3), (.int 0), (.ref a)]
  replace hK := kas_some hK
  obtain ⟨as8, hK⟩ := hK
  obtain ⟨ka7, VA7, la7⟩ := PA.nn F4
  have mm7 : own_min (own_n xs) xn = xn := own_mine gn3 as8 (own_nn F4)
  rw [mm7]
  have AB7 := PA.newV Ar3 gn3
  obtain ⟨T7, h7, L7, X7, e7, N7, Kq7, V7, st7⟩ := cpA X6 hx hZ hown (ow266 hw) (ow269 hw) (ow267 hw) (ow268 hw) e6 (dp := 0) (sp := 0) (nn := xn) VA7 AB7 (Or.inl ⟨rfl, rfl⟩) (by decide) (by decide) gn3 (by rw [la7]; simpa using as8) (by simp) rfl (by simp) N6 gb3 (g := (mkF m 28 #[rv a, iv xn, rv b3] [(.int xn), (.int 0), (.ref b3), (.int 0), (.ref a)])) rfl (by rw [hml]; rfl) rfl (hb hby (eD D36_1_ 0 rfl)) (by decide) (W := 0) (by show 2 * 0 + _ ≤ _; exact Nat.le_of_eq rfl) (by decide)
  have P7 := own_cp as8 V7
  have Zs7 := Nat.le_trans Zs3 Kq7.1
  have F9 := F4.keep Kq7 (ninS ne3_a nin0)
  have K7 := K3.trans Kq7 (allS (Or.inr sz3) all0)
  refine os st7 ?_
  refine gAn X7 hx hby (eD D36_1_ 1 rfl) rfl rfl ?_
  refine OGo.fin X7 hlk (v := (some (.ref b3))) (fun h => by rw [hret] at h; cases h) (by decide) (by decide) (fun fs hr => X7.areturnOut hx rfl hret rfl (hb hby (eD D36_1_ 2 rfl)) hr) fun U eU hF => hΦ _ _ _ ?_ hF
  rw [eU, e7]
  show Q_rcp Z a xs xn t_ h0 n0 _ _ _
  obtain rfl := Option.some.inj hK
  exact ⟨_, rfl, N7, K7, P7, sz3⟩

def topK_k582 (oe : Int32 → Int32 → Option Int32) (r6 : List (List Int32)) (z335_0 : List Int32) (i542_24 : Int32) (i542_19 : Int32) (z542_3 : List Int32) (x577 : List Int32) (kc496 : Int32 → Int32 → Int32 → List Int32 → List Int32 → List Int32 → List Int32 → List Int32 → List Int32 → Option (List Int32 × List Int32)) (kc542 : Int32 → Int32 → Int32 → List Int32 → List Int32 → List Int32 → List Int32 → List Int32 → List Int32 → Option (List Int32 × List Int32)) : Nat → Int32 → Int32 → Int32 → List Int32 → List Int32 → List Int32 → List Int32 → Option (List Int32 × List Int32)
  | 0 => fun _ _ _ _ _ _ _ => none
  | n + 1 => fun i582_20 i582_26 i582_27 z582_0 z582_1 z582_2 z582_3 => kst z582_0 i582_27 (1 : Int32) fun x591 => kbd (oe i582_27 i582_26) fun v605 => kst z582_2 i582_20 i582_27 fun x606 => kst z582_3 i582_20 v605 fun x620 => kst z582_1 v605 (1 : Int32) fun x634 => (if v605 < (5 : Int32) then (kld z335_0 v605 fun v650 => (if v650 < 0 then (kll r6 v605 fun r652 => kbd (remK r652 x591) fun v653 => (topK_k582 oe r6 z335_0 i542_24 i542_19 z542_3 x577 kc496 kc542 n) (i582_20 + 1) v605 v653 x591 x634 x606 x620) else (kst z542_3 (i542_19 + 1) (i582_20 + 1) fun x654 => kc542 (i542_24 + 1) (i542_19 + 1) (i582_20 + 1) x591 x634 x577 x654 x606 x620))) else (kst z542_3 (i542_19 + 1) (i582_20 + 1) fun x668 => kc542 (i542_24 + 1) (i542_19 + 1) (i582_20 + 1) x591 x634 x577 x668 x606 x620))
def topK_k542 (oe : Int32 → Int32 → Option Int32) (r6 : List (List Int32)) (z335_0 : List Int32) (i521_21 : Int32) (r571 : List Int32) (kc496 : Int32 → Int32 → Int32 → List Int32 → List Int32 → List Int32 → List Int32 → List Int32 → List Int32 → Option (List Int32 × List Int32)) : Nat → Int32 → Int32 → Int32 → List Int32 → List Int32 → List Int32 → List Int32 → List Int32 → List Int32 → Option (List Int32 × List Int32)
  | 0 => fun _ _ _ _ _ _ _ _ _ => none
  | n + 1 => fun i542_24 i542_19 i542_20 z542_0 z542_1 z542_2 z542_3 z542_4 z542_5 => (if i542_24 < (own_n r571) then (kld r571 i542_24 fun v574 => kld z542_0 v574 fun v575 => (if v575 = 0 then (kst z542_2 i542_19 i521_21 fun x577 => topK_k582 oe r6 z335_0 i542_24 i542_19 z542_3 x577 kc496 (topK_k542 oe r6 z335_0 i521_21 r571 kc496 n) 12 i542_20 i521_21 v574 z542_0 z542_1 z542_4 z542_5) else ((topK_k542 oe r6 z335_0 i521_21 r571 kc496 n) (i542_24 + 1) i542_19 i542_20 z542_0 z542_1 z542_2 z542_3 z542_4 z542_5))) else (kc496 i542_19 i542_20 (i521_21 + 1) z542_0 z542_1 z542_2 z542_3 z542_4 z542_5))
def topK_k521 (oe : Int32 → Int32 → Option Int32) (r6 : List (List Int32)) (z335_0 : List Int32) (i496_19 : Int32) (i496_20 : Int32) (z496_0 : List Int32) (z496_1 : List Int32) (z496_2 : List Int32) (z496_3 : List Int32) (z496_4 : List Int32) (z496_5 : List Int32) (kc496 : Int32 → Int32 → Int32 → List Int32 → List Int32 → List Int32 → List Int32 → List Int32 → List Int32 → Option (List Int32 × List Int32)) : Nat → Int32 → Option (List Int32 × List Int32)
  | 0 => fun _ => none
  | n + 1 => fun i521_21 => kst z496_1 i521_21 (1 : Int32) fun x558 => kll r6 i521_21 fun r571 => topK_k542 oe r6 z335_0 i521_21 r571 kc496 12 (0 : Int32) i496_19 i496_20 z496_0 x558 z496_2 z496_3 z496_4 z496_5
def topK_k731 (z496_1 : List Int32) (v721 : List Int32) (v793 : List Int32) : Nat → Int32 → Int32 → Option (List Int32 × List Int32)
  | 0 => fun _ _ => none
  | n + 1 => fun i731_21 i731_22 => (if i731_22 < 0 then (some (v721, v793)) else (kld z496_1 i731_22 fun v849 => (if v849 = 0 then ((topK_k731 z496_1 v721 v793 n) i731_22 (i731_22 + (-1 : Int32))) else ((topK_k731 z496_1 v721 v793 n) i731_21 (i731_22 + (-1 : Int32))))))
def topK_k496 (oe : Int32 → Int32 → Option Int32) (r6 : List (List Int32)) (z335_0 : List Int32) : Nat → Int32 → Int32 → Int32 → List Int32 → List Int32 → List Int32 → List Int32 → List Int32 → List Int32 → Option (List Int32 × List Int32)
  | 0 => fun _ _ _ _ _ _ _ _ _ => none
  | n + 1 => fun i496_19 i496_20 i496_21 z496_0 z496_1 z496_2 z496_3 z496_4 z496_5 => (if i496_21 < (8 : Int32) then ((if i496_21 < (5 : Int32) then (kld z335_0 i496_21 fun v684 => (if v684 < 0 then ((topK_k496 oe r6 z335_0 n) i496_19 i496_20 (i496_21 + 1) z496_0 z496_1 z496_2 z496_3 z496_4 z496_5) else (topK_k521 oe r6 z335_0 i496_19 i496_20 z496_0 z496_1 z496_2 z496_3 z496_4 z496_5 (topK_k496 oe r6 z335_0 n) 1 i496_21))) else (topK_k521 oe r6 z335_0 i496_19 i496_20 z496_0 z496_1 z496_2 z496_3 z496_4 z496_5 (topK_k496 oe r6 z335_0 n) 1 i496_21))) else (kbd (copK z496_2 i496_19) fun v686 => kbd (copK z496_3 (i496_19 + 1)) fun v721 => kbd (copK z496_4 i496_20) fun v756 => kbd (copK z496_5 i496_20) fun v793 => topK_k731 z496_1 v721 v793  12 (-1 : Int32) (4 : Int32)))
def topK_k387 (np : Int32) (oe : Int32 → Int32 → Option Int32) (r6 : List (List Int32)) (z144_1 : List Int32) (z144_2 : List Int32) (z335_0 : List Int32) : Nat → Int32 → List Int32 → Option (List Int32 × List Int32)
  | 0 => fun _ _ => none
  | n + 1 => fun i387_14 z387_0 => (if i387_14 < (5 : Int32) then (kld z335_0 i387_14 fun v476 => (if v476 < 0 then ((topK_k387 np oe r6 z144_1 z144_2 z335_0 n) (i387_14 + 1) z387_0) else (kld z335_0 i387_14 fun v480 => kst z387_0 v480 i387_14 fun x481 => (topK_k387 np oe r6 z144_1 z144_2 z335_0 n) (i387_14 + 1) x481))) else (kgd (own_n z144_2) 8 <| kgd np 11 <| kgd (np + 1) 11 <| kgd np 11 <| kgd np 11 <| topK_k496 oe r6 z335_0  12 (0 : Int32) (0 : Int32) (0 : Int32) z144_1 z144_2 (List.replicate np.toNatClampNeg (0 : Int32)) (List.replicate (np + 1).toNatClampNeg (0 : Int32)) (List.replicate np.toNatClampNeg (0 : Int32)) (List.replicate np.toNatClampNeg (0 : Int32))))
def topK_k335 (np : Int32) (oe : Int32 → Int32 → Option Int32) (r6 : List (List Int32)) (z144_0 : List Int32) (z144_1 : List Int32) (z144_2 : List Int32) : Nat → Int32 → Int32 → List Int32 → Option (List Int32 × List Int32)
  | 0 => fun _ _ _ => none
  | n + 1 => fun i335_13 i335_14 z335_0 => (if i335_14 < (5 : Int32) then (kld z144_2 i335_14 fun v428 => (if v428 = 0 then (kld z144_0 i335_14 fun v430 => (if (2 : Int32) < v430 then (kst z335_0 i335_14 i335_13 fun x433 => (topK_k335 np oe r6 z144_0 z144_1 z144_2 n) (i335_13 + 1) (i335_14 + 1) x433) else ((topK_k335 np oe r6 z144_0 z144_1 z144_2 n) i335_13 (i335_14 + 1) z335_0))) else ((topK_k335 np oe r6 z144_0 z144_1 z144_2 n) i335_13 (i335_14 + 1) z335_0))) else (kgd i335_13 11 <| topK_k387 np oe r6 z144_1 z144_2 z335_0  12 (0 : Int32) (List.replicate i335_13.toNatClampNeg (0 : Int32))))
def topK_k144 (np : Int32) (oe : Int32 → Int32 → Option Int32) (r6 : List (List Int32)) : Nat → Int32 → List Int32 → List Int32 → List Int32 → List Int32 → List Int32 → List Int32 → Int32 → Int32 → Option (List Int32 × List Int32)
  | 0 => fun _ _ _ _ _ _ _ _ _ => none
  | n + 1 => fun i144_11 z144_0 z144_1 z144_2 z144_3 z144_4 z144_5 ds144_0 dj144_0 => (if (own_ie ds144_0) = 0 then (kas (ds144_0 = 1) <| kld z144_0 dj144_0 fun v142 => (if v142 = 0 then ((topK_k144 np oe r6 n) i144_11 z144_0 z144_1 z144_2 z144_3 z144_4 z144_5 (2 : Int32) dj144_0) else (kll r6 dj144_0 fun r144 => kbd (remK r144 z144_1) fun v145 => kbd (oe v145 dj144_0) fun v146 => kst z144_1 v145 (1 : Int32) fun x147 => kst z144_2 dj144_0 (1 : Int32) fun x161 => kld z144_0 dj144_0 fun v175 => kst z144_0 dj144_0 (v175 - 1) fun x176 => kld x176 v146 fun v190 => kst x176 v146 (v190 - 1) fun x191 => kst z144_3 i144_11 v145 fun x205 => kst z144_4 i144_11 dj144_0 fun x219 => kst z144_5 i144_11 v146 fun x233 => (if v146 < (5 : Int32) then (kld x191 v146 fun v248 => (if v248 = (1 : Int32) then (kas (¬ v146 < -128 ∧ ¬ 127 < v146) <| kas ((2 : Int32) = 0) <| (topK_k144 np oe r6 n) (i144_11 + 1) x191 x147 x161 x205 x219 x233 (1 : Int32) v146) else ((topK_k144 np oe r6 n) (i144_11 + 1) x191 x147 x161 x205 x219 x233 (2 : Int32) dj144_0))) else ((topK_k144 np oe r6 n) (i144_11 + 1) x191 x147 x161 x205 x219 x233 (2 : Int32) dj144_0))))) else (kbd (copK z144_3 i144_11) fun v268 => kbd (copK z144_4 i144_11) fun v307 => kbd (copK z144_5 i144_11) fun v346 => kbd (fillK (List.replicate 8 (0 : Int32)) (-1 : Int32)) fun v417 => topK_k335 np oe r6 z144_0 z144_1 z144_2  12 (0 : Int32) (0 : Int32) v417))
def topK_k112 (np : Int32) (oe : Int32 → Int32 → Option Int32) (r6 : List (List Int32)) (z41_0 : List Int32) : Nat → Int32 → Int32 → Int32 → Option (List Int32 × List Int32)
  | 0 => fun _ _ _ => none
  | n + 1 => fun i112_13 ds112_0 dj112_0 => (if i112_13 < (5 : Int32) then (kld z41_0 i112_13 fun v104 => (if v104 = (1 : Int32) then (kas (¬ i112_13 < -128 ∧ ¬ 127 < i112_13) <| kas (ds112_0 = 0) <| (topK_k112 np oe r6 z41_0 n) (i112_13 + 1) (1 : Int32) i112_13) else ((topK_k112 np oe r6 z41_0 n) (i112_13 + 1) ds112_0 dj112_0))) else (topK_k144 np oe r6  9 (0 : Int32) z41_0 (List.replicate np.toNatClampNeg (0 : Int32)) (List.replicate 8 (0 : Int32)) (List.replicate 5 (0 : Int32)) (List.replicate 5 (0 : Int32)) (List.replicate 5 (0 : Int32)) ds112_0 dj112_0))
def topK_k41 (np : Int32) (oe : Int32 → Int32 → Option Int32) (r6 : List (List Int32)) : Nat → Int32 → List Int32 → Option (List Int32 × List Int32)
  | 0 => fun _ _ => none
  | n + 1 => fun i41_6 z41_0 => (if i41_6 < (8 : Int32) then (kll r6 i41_6 fun r18 => kst z41_0 i41_6 (own_n r18) fun x20 => (topK_k41 np oe r6 n) (i41_6 + 1) x20) else (kgd np 11 <| topK_k112 np oe r6 z41_0  12 (0 : Int32) (0 : Int32) (0 : Int32)))
def topK (ri : Option (List (List Int32))) (np : Int32) (oe : Int32 → Int32 → Option Int32) : Option (List Int32 × List Int32) := kbd ri fun r6 => topK_k41 np oe r6  12 (0 : Int32) (List.replicate 8 (0 : Int32))
theorem pd19 : parseMethodDescriptor "(Lcom/example/hydromeme/hydromeme/Network;I)[[I" = some ⟨[(.object s5_), .int], some (.array (.array .int))⟩ := by decide +kernel
theorem pd20 : parseMethodDescriptor "(I)Ljava/lang/Integer;" = some ⟨[.int], some (.object "java/lang/Integer")⟩ := by decide +kernel
theorem pd21 : parseMethodDescriptor "([I[Z)I" = some ⟨[(.array .int), (.array .boolean)], some .int⟩ := by decide +kernel
theorem pd22 : parseMethodDescriptor "(Lcom/example/hydromeme/hydromeme/Network;II)I" = some ⟨[(.object s5_), .int, .int], some .int⟩ := by decide +kernel
theorem pd23 : parseMethodDescriptor "([II)[I" = some ⟨[(.array .int), .int], some (.array .int)⟩ := by decide +kernel
theorem ef_rti (m : MethodId) (x0 : Addr) (x1 : Addr) : entryFrame m #[(.ref x0), (.ref x1)] 28 = mkF m 0 #[.val (.ref x0), .val (.ref x1), o_, o_, o_, o_, o_, o_, o_, o_, o_, o_, o_, o_, o_, o_, o_, o_, o_, o_, o_, o_, o_, o_, o_, o_, o_, o_] [] := by first | (simp [entryFrame, mkF, argsToLocals, Value.category]; done) | rfl
def Q_rti (Z : State) (S : Addr → Prop) (net : Addr) (lj : Addr) (lr : Addr) (lp : Addr) (d : Addr) (mc : Int32) (ps : List (Int32 × Int32 × Int32)) (tt : Addr) (ac : Addr) (cc : Cell) (t_ : List Int32 × List Int32) (h0 : Heap) (n0 : Nat) (v : Option Value) (h : Heap) (L : List Loc) : Prop := v = none ∧ Fr n0 L ∧ Keep h0 h [tt] ∧ Exa Z h tt s4_ ∧ ∃ b1 b2, Fld Z h tt s4_ "chainBounds" "[I" (.ref b1) ∧ Fld Z h tt s4_ "chainNodes" "[I" (.ref b2) ∧ PA Z h b1 .int t_.1 ∧ PA Z h b2 .int t_.2
theorem rti (l : Launch) (Z : State) (a0 : Array Value) (hw : OHW Z a0) (ws : List Jvm.Cond) (S : Addr → Prop) (net : Addr) (lj : Addr) (lr : Addr) (lp : Addr) (d : Addr) (mc : Int32) (ps : List (Int32 × Int32 × Int32)) (tt : Addr) (ac : Addr) (cc : Cell) (t_ : List Int32 × List Int32) (h0 : Heap) (n0 : Nat) (Z0 : n0 ≤ h0.size) (N_p : NetP Z h0 S net lj lr lp d mc ps) (hS2 : ∀ x, h0.size ≤ x → ¬ S x) (hS1 : ¬ S tt) (E_t : Exa Z h0 tt s4_) (g_t : n0 ≤ tt) (F_s : FS Z h0 tt .null .null .null .null .null .null .null .null .null (.int (0 : Int32))) (O_0 : Old Z n0 h0) (S_hi : Sta Z Z.heap "java/lang/Integer$IntegerCache" "high" "I" (.int (127 : Int32))) (S_ca : Sta Z Z.heap "java/lang/Integer$IntegerCache" "cache" "[Ljava/lang/Integer;" (.ref ac)) (B_x : Bxs Z ac cc "java/lang/Integer" "I" (256 : Int32) (fun z => .int (z - 128))) (hK0 : topK (incK ps) (own_n ps) (oeK ps) = some t_) :
    OCon l Z (⟨s4_, "<init>", "(Lcom/example/hydromeme/hydromeme/Network;)V"⟩ : MethodName) c44_ 28 none ws ({ frames := 4, cells := 33, slots := 287, locals := 57 } : Room) #[(.ref tt), (.ref net)] h0 (Q_rti Z S net lj lr lp d mc ps tt ac cc t_ h0 n0) := by
  refine OCon.of (plainFor_of_name pn8) ?_
  intro p e s m below meth c s₁ Φ X0 hx hby hml hown hnm hret hlk hZ e0 hΦ
  have N0 := Fr.nil n0
  refine os (fun _ z => castTop (ef_rti m tt net) z) ?_
  have K0 := Keep.refl h0 [tt]
  have hK := hK0
  unfold topK at hK
  show OG p e below Φ s₁ m 0 #[rv tt, rv net, o_, o_, o_, o_, o_, o_, o_, o_, o_, o_, o_, o_, o_, o_, o_, o_, o_, o_, o_, o_, o_, o_, o_, o_, o_, o_] []
  refine gAn X0 hx hby (eD D15_0_ 0 rfl) rfl rfl ?_
  obtain ⟨T1, X1, e1, st1⟩ := initO X0 hx hZ hown (ow116 hw) (ow20 hw) (ow21 hw) e0 (g := (mkF m 1 #[rv tt, rv net, o_, o_, o_, o_, o_, o_, o_, o_, o_, o_, o_, o_, o_, o_, o_, o_, o_, o_, o_, o_, o_, o_, o_, o_, o_, o_] [(.ref tt)])) rfl (by rw [hml]; rfl) rfl (hb hby (eD D15_0_ 1 rfl)) (by decide) (W := 0) (Nat.le_of_eq rfl) (by decide)
  refine os st1 ?_
  refine gAn X1 hx hby (eD D15_0_ 2 rfl) rfl rfl ?_
  obtain ⟨_, T2, L2, X2, hQ2, st2⟩ := own_callVi X1 hx hZ hown (ow117 hw) (ow118 hw) (notFace_of_selects (args := #[]) (mvT hZ (ow120 hw))) (ow120 hw) (ow119 hw) (ow96 hw) (ow121 hw) (by decide) (rgn0 l Z a0 hw [] net lj h0 n0 Z0 N_p.2.2.1) e1 (W := 0) (by decide) N_p.2.1 (pc := 5) (ls := #[rv tt, rv net, o_, o_, o_, o_, o_, o_, o_, o_, o_, o_, o_, o_, o_, o_, o_, o_, o_, o_, o_, o_, o_, o_, o_, o_, o_, o_]) (stk := [(.ref net)]) (by rw [hml]; rfl) (argsL := []) (rest := []) (lenOf pd10 rfl) rfl rfl (Nat.le_of_eq rfl) (hb hby (eD D15_0_ 3 rfl))
  obtain ⟨rfl, Nq2, e2⟩ := hQ2
  have N2 := Fr.app N0 Nq2
  refine os st2 ?_
  obtain ⟨_, T3, L3, X3, hQ3, st3⟩ := own_callIf X2 hx hZ hown (ow122 hw) (ow123 hw) (mvT hZ (ow124 hw)) (ow125 hw) (ow126 hw) (ow127 hw) (ow128 hw) (ow129 hw) (ow3 hw) (ow130 hw) (by decide) (rgs l Z a0 hw [] lj (5 : Int32) h0 n0 Z0 N_p.2.2.2.2.2.2.1) e2 (W := 0) (by decide) N_p.2.2.2.2.2.1 (pc := 8) (ls := #[rv tt, rv net, o_, o_, o_, o_, o_, o_, o_, o_, o_, o_, o_, o_, o_, o_, o_, o_, o_, o_, o_, o_, o_, o_, o_, o_, o_, o_]) (stk := [(.ref lj)]) (by rw [hml]; rfl) (argsL := []) (rest := []) (lenOf pd11 rfl) rfl rfl (Nat.le_of_eq rfl) (hb hby (eD D15_0_ 4 rfl))
  obtain ⟨rfl, Nq3, e3⟩ := hQ3
  have N3 := Fr.app N2 Nq3
  refine os st3 ?_
  refine gIsn X3 hx hby (eD D15_0_ 5 rfl) (ls' := #[rv tt, rv net, iv 5, o_, o_, o_, o_, o_, o_, o_, o_, o_, o_, o_, o_, o_, o_, o_, o_, o_, o_, o_, o_, o_, o_, o_, o_, o_]) rfl ?_
  refine gIn X3 hx hby (eD D15_0_ 6 rfl) rfl ?_
  refine gAn X3 hx hby (eD D15_0_ 7 rfl) rfl rfl ?_
  obtain ⟨_, T4, L4, X4, hQ4, st4⟩ := own_callVi X3 hx hZ hown (ow131 hw) (ow132 hw) (notFace_of_selects (args := #[]) (mvT hZ (ow134 hw))) (ow134 hw) (ow133 hw) (ow96 hw) (ow135 hw) (by decide) (rgn1 l Z a0 hw [] net lr h0 n0 Z0 N_p.2.2.2.1) e3 (W := 1) (by decide) N_p.2.1 (pc := 16) (ls := #[rv tt, rv net, iv 5, o_, o_, o_, o_, o_, o_, o_, o_, o_, o_, o_, o_, o_, o_, o_, o_, o_, o_, o_, o_, o_, o_, o_, o_, o_]) (stk := [(.ref net), (.int 5)]) (by rw [hml]; rfl) (argsL := []) (rest := [(.int 5)]) (lenOf pd10 rfl) rfl rfl (Nat.le_of_eq rfl) (hb hby (eD D15_0_ 8 rfl))
  obtain ⟨rfl, Nq4, e4⟩ := hQ4
  have N4 := Fr.app N3 Nq4
  refine os st4 ?_
  obtain ⟨_, T5, L5, X5, hQ5, st5⟩ := own_callIf X4 hx hZ hown (ow122 hw) (ow123 hw) (mvT hZ (ow124 hw)) (ow125 hw) (ow126 hw) (ow127 hw) (ow128 hw) (ow129 hw) (ow3 hw) (ow130 hw) (by decide) (rgs l Z a0 hw [] lr (3 : Int32) h0 n0 Z0 N_p.2.2.2.2.2.2.2.2.1) e4 (W := 1) (by decide) N_p.2.2.2.2.2.2.2.1 (pc := 19) (ls := #[rv tt, rv net, iv 5, o_, o_, o_, o_, o_, o_, o_, o_, o_, o_, o_, o_, o_, o_, o_, o_, o_, o_, o_, o_, o_, o_, o_, o_, o_]) (stk := [(.ref lr), (.int 5)]) (by rw [hml]; rfl) (argsL := []) (rest := [(.int 5)]) (lenOf pd11 rfl) rfl rfl (Nat.le_of_eq rfl) (hb hby (eD D15_0_ 9 rfl))
  obtain ⟨rfl, Nq5, e5⟩ := hQ5
  have N5 := Fr.app N4 Nq5
  refine os st5 ?_
  refine os (fun _ z => XS.iadd X5.here hx rfl (hb hby (eD D15_0_ 10 rfl)) rfl z) ?_
  show OG p e below Φ T5 m 25 #[rv tt, rv net, iv 5, o_, o_, o_, o_, o_, o_, o_, o_, o_, o_, o_, o_, o_, o_, o_, o_, o_, o_, o_, o_, o_, o_, o_, o_, o_] [(.int 8)]
  refine gIsn X5 hx hby (eD D15_0_ 11 rfl) (ls' := #[rv tt, rv net, iv 5, iv 8, o_, o_, o_, o_, o_, o_, o_, o_, o_, o_, o_, o_, o_, o_, o_, o_, o_, o_, o_, o_, o_, o_, o_, o_]) rfl ?_
  refine gAn X5 hx hby (eD D15_0_ 12 rfl) rfl rfl ?_
  refine gIn X5 hx hby (eD D15_0_ 13 rfl) rfl ?_
  replace hK := kbd_some hK
  obtain ⟨r6, kb6, hK⟩ := hK
  obtain ⟨_, T6, L6, X6, hQ6, st6⟩ := own_callSt X5 hx hZ hown (ow136 hw) (ow137 hw) (ow93 hw) (ow138 hw) (by decide) (rin l Z a0 hw [] S net lj lr lp d mc ps r6 h0 n0 Z0 N_p (fun x q => hS2 x (Nat.le_trans K0.1 q)) kb6) e5 (W := 0) (by decide) (pc := 28) (ls := #[rv tt, rv net, iv 5, iv 8, o_, o_, o_, o_, o_, o_, o_, o_, o_, o_, o_, o_, o_, o_, o_, o_, o_, o_, o_, o_, o_, o_, o_, o_]) (stk := [(.int 8), (.ref net)]) (by rw [hml]; rfl) (argsL := [(.ref net), (.int 8)]) (rest := []) (lenOf pd19 rfl) rfl rfl (Nat.le_of_eq rfl) (hb hby (eD D15_0_ 14 rfl))
  obtain ⟨b6, bs6, rfl, Nq6, Kq6, AAq6, hz6, hl6⟩ := hQ6
  have nit6 := hl6 tt E_t.lt
  have nq6_tt := Nat.ne_of_lt (Nat.lt_of_lt_of_le E_t.lt hz6)
  have gq6 := Nat.le_trans Z0 hz6
  have sq6 := Nat.le_trans K0.1 hz6
  have N6 := Fr.app N5 Nq6
  have Zs6 := Nat.le_trans Z0 Kq6.1
  have F7 := N_p.keep Kq6 all0
  have F8 := E_t.keep Kq6
  have F9 := O_0.keep Kq6 all0
  have F10 := F_s.keep Kq6 nin0
  have K6 := K0.trans Kq6 all0
  refine os st6 ?_
  refine gAs X6 hx hby (eD D15_0_ 15 rfl) rfl (ls' := #[rv tt, rv net, iv 5, iv 8, rv b6, o_, o_, o_, o_, o_, o_, o_, o_, o_, o_, o_, o_, o_, o_, o_, o_, o_, o_, o_, o_, o_, o_, o_]) rfl ?_
  refine gIn X6 hx hby (eD D15_1_ 0 rfl) rfl ?_
  obtain ⟨T11, h11, c11, X11, e11, E11, Ar11, st11⟩ := newP (aty := .int) X6 hx hZ (ow139 hw) rfl (g := (mkF m 34 #[rv tt, rv net, iv 5, iv 8, rv b6, o_, o_, o_, o_, o_, o_, o_, o_, o_, o_, o_, o_, o_, o_, o_, o_, o_, o_, o_, o_, o_, o_, o_] [(.int 8)])) rfl (hb hby (eD D15_1_ 1 rfl)) rfl (by decide) (cap := 8) (by decide) (by decide) (by decide) (by decide)
  obtain ⟨b11, g11⟩ : ∃ z, z = T6.heap.size := ⟨_, rfl⟩
  rw [← g11] at Ar11 st11
  have ni11_b6 := AAq6.freshle (Nat.le_of_eq g11.symm)
  have ne11_b6 := one_ g11 AAq6.lt
  have ne11_tt := one_ g11 F8.lt
  have F12 := F7.ext E11
  have F13 := F8.ext E11
  have F14 := F9.ext E11
  have F15 := F10.ext E11
  have F16 := AAq6.ext E11
  have gb11 := Nat.le_trans Zs6 (Nat.le_of_eq g11.symm)
  have sz11 := Nat.le_trans K6.1 (Nat.le_of_eq g11.symm)
  have K11 := K6.ext E11
  have Zs11 := Nat.le_trans Zs6 E11.1
  have P11 : PA Z h11 b11 .int (List.replicate 8 (0 : Int32)) := PA.new Ar11 (by decide) rfl (by decide)
  refine os st11 ?_
  refine gAs X11 hx hby (eD D15_1_ 2 rfl) rfl (ls' := #[rv tt, rv net, iv 5, iv 8, rv b6, rv b11, o_, o_, o_, o_, o_, o_, o_, o_, o_, o_, o_, o_, o_, o_, o_, o_, o_, o_, o_, o_, o_, o_]) rfl ?_
  refine gIc (x := 0) X11 hx hby (eD D15_1_ 3 rfl) rfl ?_
  refine gIs X11 hx hby (eD D15_1_ 4 rfl) (ls' := #[rv tt, rv net, iv 5, iv 8, rv b6, rv b11, iv 0, o_, o_, o_, o_, o_, o_, o_, o_, o_, o_, o_, o_, o_, o_, o_, o_, o_, o_, o_, o_, o_]) rfl ?_
  show OG p e below Φ T11 m 41 #[rv tt, rv net, iv 5, iv 8, rv b6, rv b11, iv 0, o_, o_, o_, o_, o_, o_, o_, o_, o_, o_, o_, o_, o_, o_, o_, o_, o_, o_, o_, o_, o_] []
  have J41 : ∀ (nn41 : Nat) (i41_6 : Int32) (z41_0 : List Int32) (Tj41 : State) (hj41 : Heap) (Lj41 : List Loc), Stand p l e ({ frames := 4, cells := 33, slots := 287, locals := 57 } : Room) s m #[(.ref tt), (.ref net)] below meth c Tj41 Lj41 12 92 → Tj41.heap = hj41 → Fr n0 Lj41 → n0 ≤ hj41.size → Keep h0 hj41 [tt] → NetP Z hj41 S net lj lr lp d mc ps → Exa Z hj41 tt s4_ → Old Z n0 hj41 → FS Z hj41 tt .null .null .null .null .null .null .null .null .null (.int (0 : Int32)) → AA Z hj41 b6 bs6 r6 → PA Z hj41 b11 .int z41_0 → topK_k41 (own_n ps) (oeK ps) r6  nn41 i41_6 z41_0 = some t_ → OG p e below Φ Tj41 m 41 #[rv tt, rv net, iv (5 : Int32), iv (8 : Int32), rv b6, rv b11, iv i41_6, o_, o_, o_, o_, o_, o_, o_, o_, o_, o_, o_, o_, o_, o_, o_, o_, o_, o_, o_, o_, o_] [] := by
   clear hK
   clear X1 e1 st1 X2 st2 Nq2 e2 N2 X3 st3 Nq3 e3 N3 X4 st4 Nq4 e4 N4 X5 st5 Nq5 e5 N5 kb6 X6 st6 Nq6 Kq6 AAq6 hz6 hl6 nq6_tt gq6 sq6 N6 Zs6 F7 F8 F9 F10 K6 X11 e11 E11 Ar11 st11 g11 ne11_b6 F12 F13 F14 F15 F16 K11 Zs11 P11
   intro nn41
   induction nn41 with
   | zero => intro i41_6 z41_0 Tj41 hj41 Lj41 Xj41 ej41 Nj41 Zj41 Kj41 fj41_0 fj41_1 fj41_2 fj41_3 fj41_4 fj41_5 hK; exact (knone hK).elim
   | succ nn41 ih41 =>
    intro i41_6 z41_0 Tj41 hj41 Lj41 Xj41 ej41 Nj41 Zj41 Kj41 fj41_0 fj41_1 fj41_2 fj41_3 fj41_4 fj41_5 hK
    show OG p e below Φ Tj41 m 41 #[rv tt, rv net, iv 5, iv 8, rv b6, rv b11, iv i41_6, o_, o_, o_, o_, o_, o_, o_, o_, o_, o_, o_, o_, o_, o_, o_, o_, o_, o_, o_, o_, o_] []
    refine gI Xj41 hx hby (eD D15_1_ 5 rfl) rfl ?_
    refine gIn Xj41 hx hby (eD D15_1_ 6 rfl) rfl ?_
    by_cases hc17 : i41_6 < (8 : Int32)
    replace hK := kif_t hc17 hK
    refine gCn Xj41 hx hby (eD D15_1_ 7 rfl) (XT.ii_ge_f hc17) ?_
    refine gA Xj41 hx hby (eD D15_1_ 8 rfl) rfl rfl ?_
    refine gI Xj41 hx hby (eD D15_1_ 9 rfl) rfl ?_
    refine gA Xj41 hx hby (eD D15_1_ 10 rfl) rfl rfl ?_
    refine gI Xj41 hx hby (eD D15_1_ 11 rfl) rfl ?_
    replace hK := kll_some hK
    obtain ⟨r18, in18, er18, hK⟩ := hK
    obtain ⟨b18, hb18⟩ : ∃ z, z = bs6.getD i41_6.toNatClampNeg 0 := ⟨_, rfl⟩
    obtain ⟨cl18, Aq18, iq18, at18⟩ := AA.at fj41_4 in18 hb18
    have P18 := AA.row fj41_4 in18 hb18 er18
    have mb18 := AA.mem fj41_4 in18 hb18
    refine os (fun _ z => Xj41.aaload hx (by rw [ej41]; exact Aq18.1) (oia hZ Aq18.2.1) rfl Aq18.2.2 iq18 at18 (g := (mkF m 55 #[rv tt, rv net, iv 5, iv 8, rv b6, rv b11, iv i41_6, o_, o_, o_, o_, o_, o_, o_, o_, o_, o_, o_, o_, o_, o_, o_, o_, o_, o_, o_, o_, o_] [(.int i41_6), (.ref b6), (.int i41_6), (.ref b11)])) rfl rfl (hb hby (eD D15_1_ 12 rfl)) _ z) ?_
    obtain ⟨cl19, Aq19, S19, M19⟩ := PA.len P18
    refine os (fun _ z => Xj41.arraylength hx (by rw [ej41]; exact Aq19.1) (oia hZ Aq19.2.1) (g := (mkF m 56 #[rv tt, rv net, iv 5, iv 8, rv b6, rv b11, iv i41_6, o_, o_, o_, o_, o_, o_, o_, o_, o_, o_, o_, o_, o_, o_, o_, o_, o_, o_, o_, o_, o_] [(.ref b18), (.int i41_6), (.ref b11)])) rfl rfl (hb hby (eD D15_1_ 13 rfl)) _ z) ?_
    rw [len_of S19 M19]
    show OG p e below Φ Tj41 m 57 #[rv tt, rv net, iv 5, iv 8, rv b6, rv b11, iv i41_6, o_, o_, o_, o_, o_, o_, o_, o_, o_, o_, o_, o_, o_, o_, o_, o_, o_, o_, o_, o_, o_] [(.int (own_n r18)), (.int i41_6), (.ref b11)]
    replace hK := kst_some hK
    obtain ⟨x20, in20, ex20, hK⟩ := hK
    obtain ⟨cl20, Aq20, iq20, -⟩ := PA.get fj41_5 in20 rfl
    obtain ⟨T20, h20, X20, e20, W20, st20⟩ := stI Xj41 hx hZ ej41 Aq20 iq20 (g := (mkF m 57 #[rv tt, rv net, iv 5, iv 8, rv b6, rv b11, iv i41_6, o_, o_, o_, o_, o_, o_, o_, o_, o_, o_, o_, o_, o_, o_, o_, o_, o_, o_, o_, o_, o_] [(.int (own_n r18)), (.int i41_6), (.ref b11)])) rfl rfl (hb hby (eD D15_1_ 14 rfl))
    have F21 := fj41_0.other W20 (hS2 _ sz11)
    have F22 := fj41_1.wr W20
    have F23 := fj41_2.wr W20 gb11
    have F24 := fj41_3.other W20 ne11_tt
    have F25 := fj41_4.other W20 ni11_b6
    have F26 := P18.other W20 (own_nbx mb18.1 ni11_b6)
    have P20 := PA.set fj41_5 in20 W20 rfl ex20
    have K20 := Kj41.wr W20 (Or.inr sz11)
    have N20 := Fr.snoc X20 Nj41 gb11
    have Zs20 := ozw W20 Zj41
    refine os st20 ?_
    refine os (fun _ z => XS.iinc X20.here hx rfl (hb hby (eD D15_1_ 15 rfl)) rfl (l' := #[rv tt, rv net, iv 5, iv 8, rv b6, rv b11, iv (i41_6 + 1), o_, o_, o_, o_, o_, o_, o_, o_, o_, o_, o_, o_, o_, o_, o_, o_, o_, o_, o_, o_, o_]) rfl z) ?_
    show OG p e below Φ T20 m 61 #[rv tt, rv net, iv 5, iv 8, rv b6, rv b11, iv (i41_6 + 1), o_, o_, o_, o_, o_, o_, o_, o_, o_, o_, o_, o_, o_, o_, o_, o_, o_, o_, o_, o_, o_] []
    refine gGo (pc := 61) (pc' := 41) X20 hx hby (eD D15_2_ 0 rfl) (by decide) (by decide) ?_
    show OG p e below Φ T20 m 41 #[rv tt, rv net, iv 5, iv 8, rv b6, rv b11, iv (i41_6 + 1), o_, o_, o_, o_, o_, o_, o_, o_, o_, o_, o_, o_, o_, o_, o_, o_, o_, o_, o_, o_, o_] []
    exact ih41 ((i41_6 + 1)) x20 _ _ _ X20 e20 N20 Zs20 K20 F21 F22 F23 F24 F25 P20 hK
    replace hK := kif_f hc17 hK
    refine gCy (pc := 44) (pc' := 64) Xj41 hx hby (eD D15_1_ 7 rfl) (XT.ii_ge_t hc17) (by decide) (by decide) ?_
    refine gAn Xj41 hx hby (eD D15_2_ 1 rfl) rfl rfl ?_
    obtain ⟨_, T27, L27, X27, hQ27, st27⟩ := own_callVi Xj41 hx hZ hown (ow140 hw) (ow141 hw) (notFace_of_selects (args := #[]) (mvT hZ (ow143 hw))) (ow143 hw) (ow142 hw) (ow96 hw) (ow144 hw) (by decide) (rgn2 l Z a0 hw [] net lp hj41 n0 Zj41 fj41_0.2.2.2.2.1) ej41 (W := 0) (by decide) fj41_0.2.1 (pc := 65) (ls := #[rv tt, rv net, iv 5, iv 8, rv b6, rv b11, iv i41_6, o_, o_, o_, o_, o_, o_, o_, o_, o_, o_, o_, o_, o_, o_, o_, o_, o_, o_, o_, o_, o_]) (stk := [(.ref net)]) (by rw [hml]; rfl) (argsL := []) (rest := []) (lenOf pd10 rfl) rfl rfl (Nat.le_of_eq rfl) (hb hby (eD D15_2_ 2 rfl))
    obtain ⟨rfl, Nq27, e27⟩ := hQ27
    have N27 := Fr.app Nj41 Nq27
    refine os st27 ?_
    obtain ⟨_, T28, L28, X28, hQ28, st28⟩ := own_callIf X27 hx hZ hown (ow122 hw) (ow123 hw) (mvT hZ (ow124 hw)) (ow125 hw) (ow126 hw) (ow127 hw) (ow128 hw) (ow129 hw) (ow3 hw) (ow130 hw) (by decide) (rgs l Z a0 hw [] lp (own_n ps) hj41 n0 Zj41 fj41_0.2.2.2.2.2.2.2.2.2.2.2.1) e27 (W := 0) (by decide) fj41_0.2.2.2.2.2.2.2.2.2.1 (pc := 68) (ls := #[rv tt, rv net, iv 5, iv 8, rv b6, rv b11, iv i41_6, o_, o_, o_, o_, o_, o_, o_, o_, o_, o_, o_, o_, o_, o_, o_, o_, o_, o_, o_, o_, o_]) (stk := [(.ref lp)]) (by rw [hml]; rfl) (argsL := []) (rest := []) (lenOf pd11 rfl) rfl rfl (Nat.le_of_eq rfl) (hb hby (eD D15_2_ 3 rfl))
    obtain ⟨rfl, Nq28, e28⟩ := hQ28
    have N28 := Fr.app N27 Nq28
    refine os st28 ?_
    replace hK := kgd_some hK
    obtain ⟨gn29, gc29, hK⟩ := hK
    obtain ⟨T29, h29, c29, X29, e29, E29, Ar29, st29⟩ := newP (aty := .boolean) X28 hx hZ (ow239 hw) e28 (g := (mkF m 73 #[rv tt, rv net, iv 5, iv 8, rv b6, rv b11, iv i41_6, o_, o_, o_, o_, o_, o_, o_, o_, o_, o_, o_, o_, o_, o_, o_, o_, o_, o_, o_, o_, o_] [(.int (own_n ps))])) rfl (hb hby (eD D15_2_ 4 rfl)) rfl gn29 (cap := 11) gc29 (by decide) (by decide) (by decide)
    obtain ⟨b29, g29⟩ : ∃ z, z = hj41.size := ⟨_, rfl⟩
    rw [← g29] at Ar29 st29
    have ni29_b6 := fj41_4.freshle (Nat.le_of_eq g29.symm)
    have ne29_b11 := one_ g29 fj41_5.lt
    have ne29_b6 := one_ g29 fj41_4.lt
    have ne29_tt := one_ g29 fj41_1.lt
    have F30 := fj41_0.ext E29
    have F31 := fj41_1.ext E29
    have F32 := fj41_2.ext E29
    have F33 := fj41_3.ext E29
    have F34 := fj41_4.ext E29
    have F35 := fj41_5.ext E29
    have gb29 := Nat.le_trans Zj41 (Nat.le_of_eq g29.symm)
    have sz29 := Nat.le_trans Kj41.1 (Nat.le_of_eq g29.symm)
    have K29 := Kj41.ext E29
    have Zs29 := Nat.le_trans Zj41 E29.1
    have P29 : PA Z h29 b29 .boolean (List.replicate (own_n ps).toNatClampNeg (0 : Int32)) := PA.new Ar29 gn29 rfl rfl
    refine os st29 ?_
    refine gAs X29 hx hby (eD D15_2_ 5 rfl) rfl (ls' := #[rv tt, rv net, iv 5, iv 8, rv b6, rv b11, rv b29, o_, o_, o_, o_, o_, o_, o_, o_, o_, o_, o_, o_, o_, o_, o_, o_, o_, o_, o_, o_, o_]) rfl ?_
    refine gIn X29 hx hby (eD D15_2_ 6 rfl) rfl ?_
    obtain ⟨T36, h36, c36, X36, e36, E36, Ar36, Ex36, st36⟩ := newPE (aty := .boolean) X29 hx hZ (ow239 hw) e29 (g := (mkF m 78 #[rv tt, rv net, iv 5, iv 8, rv b6, rv b11, rv b29, o_, o_, o_, o_, o_, o_, o_, o_, o_, o_, o_, o_, o_, o_, o_, o_, o_, o_, o_, o_, o_] [(.int 8)])) rfl (hb hby (eD D15_2_ 7 rfl)) rfl (by decide) (cap := 8) (by decide) (by decide) (by decide) (by decide) (ad := "[Z") (by decide)
    obtain ⟨b36, g36⟩ : ∃ z, z = h29.size := ⟨_, rfl⟩
    rw [← g36] at Ar36 Ex36 st36
    have ni36_b6 := F34.freshle (Nat.le_of_eq g36.symm)
    have ne36_b11 := one_ g36 F35.lt
    have ne36_b29 := one_ g36 P29.lt
    have ne36_b6 := one_ g36 F34.lt
    have ne36_tt := one_ g36 F31.lt
    have F37 := F30.ext E36
    have F38 := F31.ext E36
    have F39 := F32.ext E36
    have F40 := F33.ext E36
    have F41 := F34.ext E36
    have F42 := F35.ext E36
    have F43 := P29.ext E36
    have gb36 := Nat.le_trans Zs29 (Nat.le_of_eq g36.symm)
    have sz36 := Nat.le_trans K29.1 (Nat.le_of_eq g36.symm)
    have K36 := K29.ext E36
    have Zs36 := Nat.le_trans Zs29 E36.1
    have P36 : PA Z h36 b36 .boolean (List.replicate 8 (0 : Int32)) := PA.new Ar36 (by decide) rfl (by decide)
    refine os st36 ?_
    refine gAs X36 hx hby (eD D15_2_ 8 rfl) rfl (ls' := #[rv tt, rv net, iv 5, iv 8, rv b6, rv b11, rv b29, rv b36, o_, o_, o_, o_, o_, o_, o_, o_, o_, o_, o_, o_, o_, o_, o_, o_, o_, o_, o_, o_]) rfl ?_
    refine gIn X36 hx hby (eD D15_2_ 9 rfl) rfl ?_
    obtain ⟨T44, h44, c44, X44, e44, E44, Ar44, st44⟩ := newP (aty := .int) X36 hx hZ (ow139 hw) e36 (g := (mkF m 83 #[rv tt, rv net, iv 5, iv 8, rv b6, rv b11, rv b29, rv b36, o_, o_, o_, o_, o_, o_, o_, o_, o_, o_, o_, o_, o_, o_, o_, o_, o_, o_, o_, o_] [(.int 5)])) rfl (hb hby (eD D15_2_ 10 rfl)) rfl (by decide) (cap := 5) (by decide) (by decide) (by decide) (by decide)
    obtain ⟨b44, g44⟩ : ∃ z, z = h36.size := ⟨_, rfl⟩
    rw [← g44] at Ar44 st44
    have ni44_b6 := F41.freshle (Nat.le_of_eq g44.symm)
    have ne44_b11 := one_ g44 F42.lt
    have ne44_b29 := one_ g44 F43.lt
    have ne44_b36 := one_ g44 P36.lt
    have ne44_b6 := one_ g44 F41.lt
    have ne44_tt := one_ g44 F38.lt
    have F45 := F37.ext E44
    have F46 := F38.ext E44
    have F47 := F39.ext E44
    have F48 := F40.ext E44
    have F49 := F41.ext E44
    have F50 := F42.ext E44
    have F51 := F43.ext E44
    have F52 := P36.ext E44
    have F53 := Ex36.ext E44
    have gb44 := Nat.le_trans Zs36 (Nat.le_of_eq g44.symm)
    have sz44 := Nat.le_trans K36.1 (Nat.le_of_eq g44.symm)
    have K44 := K36.ext E44
    have Zs44 := Nat.le_trans Zs36 E44.1
    have P44 : PA Z h44 b44 .int (List.replicate 5 (0 : Int32)) := PA.new Ar44 (by decide) rfl (by decide)
    refine os st44 ?_
    refine gAs X44 hx hby (eD D15_2_ 11 rfl) rfl (ls' := #[rv tt, rv net, iv 5, iv 8, rv b6, rv b11, rv b29, rv b36, rv b44, o_, o_, o_, o_, o_, o_, o_, o_, o_, o_, o_, o_, o_, o_, o_, o_, o_, o_, o_]) rfl ?_
    refine gIn X44 hx hby (eD D15_2_ 12 rfl) rfl ?_
    obtain ⟨T54, h54, c54, X54, e54, E54, Ar54, st54⟩ := newP (aty := .int) X44 hx hZ (ow139 hw) e44 (g := (mkF m 88 #[rv tt, rv net, iv 5, iv 8, rv b6, rv b11, rv b29, rv b36, rv b44, o_, o_, o_, o_, o_, o_, o_, o_, o_, o_, o_, o_, o_, o_, o_, o_, o_, o_, o_] [(.int 5)])) rfl (hb hby (eD D15_2_ 13 rfl)) rfl (by decide) (cap := 5) (by decide) (by decide) (by decide) (by decide)
    obtain ⟨b54, g54⟩ : ∃ z, z = h44.size := ⟨_, rfl⟩
    rw [← g54] at Ar54 st54
    have ni54_b6 := F49.freshle (Nat.le_of_eq g54.symm)
    have ne54_b11 := one_ g54 F50.lt
    have ne54_b29 := one_ g54 F51.lt
    have ne54_b36 := one_ g54 F52.lt
    have ne54_b44 := one_ g54 P44.lt
    have ne54_b6 := one_ g54 F49.lt
    have ne54_tt := one_ g54 F46.lt
    have F55 := F45.ext E54
    have F56 := F46.ext E54
    have F57 := F47.ext E54
    have F58 := F48.ext E54
    have F59 := F49.ext E54
    have F60 := F50.ext E54
    have F61 := F51.ext E54
    have F62 := F52.ext E54
    have F63 := F53.ext E54
    have F64 := P44.ext E54
    have gb54 := Nat.le_trans Zs44 (Nat.le_of_eq g54.symm)
    have sz54 := Nat.le_trans K44.1 (Nat.le_of_eq g54.symm)
    have K54 := K44.ext E54
    have Zs54 := Nat.le_trans Zs44 E54.1
    have P54 : PA Z h54 b54 .int (List.replicate 5 (0 : Int32)) := PA.new Ar54 (by decide) rfl (by decide)
    refine os st54 ?_
    refine gAs X54 hx hby (eD D15_2_ 14 rfl) rfl (ls' := #[rv tt, rv net, iv 5, iv 8, rv b6, rv b11, rv b29, rv b36, rv b44, rv b54, o_, o_, o_, o_, o_, o_, o_, o_, o_, o_, o_, o_, o_, o_, o_, o_, o_, o_]) rfl ?_
    refine gIn X54 hx hby (eD D15_2_ 15 rfl) rfl ?_
    obtain ⟨T65, h65, c65, X65, e65, E65, Ar65, st65⟩ := newP (aty := .int) X54 hx hZ (ow139 hw) e54 (g := (mkF m 93 #[rv tt, rv net, iv 5, iv 8, rv b6, rv b11, rv b29, rv b36, rv b44, rv b54, o_, o_, o_, o_, o_, o_, o_, o_, o_, o_, o_, o_, o_, o_, o_, o_, o_, o_] [(.int 5)])) rfl (hb hby (eD D15_3_ 0 rfl)) rfl (by decide) (cap := 5) (by decide) (by decide) (by decide) (by decide)
    obtain ⟨b65, g65⟩ : ∃ z, z = h54.size := ⟨_, rfl⟩
    rw [← g65] at Ar65 st65
    have ni65_b6 := F59.freshle (Nat.le_of_eq g65.symm)
    have ne65_b11 := one_ g65 F60.lt
    have ne65_b29 := one_ g65 F61.lt
    have ne65_b36 := one_ g65 F62.lt
    have ne65_b44 := one_ g65 F64.lt
    have ne65_b54 := one_ g65 P54.lt
    have ne65_b6 := one_ g65 F59.lt
    have ne65_tt := one_ g65 F56.lt
    have F66 := F55.ext E65
    have F67 := F56.ext E65
    have F68 := F57.ext E65
    have F69 := F58.ext E65
    have F70 := F59.ext E65
    have F71 := F60.ext E65
    have F72 := F61.ext E65
    have F73 := F62.ext E65
    have F74 := F63.ext E65
    have F75 := F64.ext E65
    have F76 := P54.ext E65
    have gb65 := Nat.le_trans Zs54 (Nat.le_of_eq g65.symm)
    have sz65 := Nat.le_trans K54.1 (Nat.le_of_eq g65.symm)
    have K65 := K54.ext E65
    have Zs65 := Nat.le_trans Zs54 E65.1
    have P65 : PA Z h65 b65 .int (List.replicate 5 (0 : Int32)) := PA.new Ar65 (by decide) rfl (by decide)
    refine os st65 ?_
    refine gAs X65 hx hby (eD D15_3_ 1 rfl) rfl (ls' := #[rv tt, rv net, iv 5, iv 8, rv b6, rv b11, rv b29, rv b36, rv b44, rv b54, rv b65, o_, o_, o_, o_, o_, o_, o_, o_, o_, o_, o_, o_, o_, o_, o_, o_, o_]) rfl ?_
    refine gIc (x := 0) X65 hx hby (eD D15_3_ 2 rfl) rfl ?_
    refine gIs X65 hx hby (eD D15_3_ 3 rfl) (ls' := #[rv tt, rv net, iv 5, iv 8, rv b6, rv b11, rv b29, rv b36, rv b44, rv b54, rv b65, iv 0, o_, o_, o_, o_, o_, o_, o_, o_, o_, o_, o_, o_, o_, o_, o_, o_]) rfl ?_
    obtain ⟨T77, h77, X77, e77, E77, A77, D77, U77, st77⟩ := newO X65 hx hZ hown (ow240 hw) (ow241 hw) (ow242 hw) e65 (g := (mkF m 100 #[rv tt, rv net, iv 5, iv 8, rv b6, rv b11, rv b29, rv b36, rv b44, rv b54, rv b65, iv 0, o_, o_, o_, o_, o_, o_, o_, o_, o_, o_, o_, o_, o_, o_, o_, o_] [])) rfl (hb hby (eD D15_3_ 4 rfl)) (by decide) (by decide)
    obtain ⟨b77, g77⟩ : ∃ z, z = h65.size := ⟨_, rfl⟩
    rw [← g77] at A77 D77 st77 U77
    have ni77_b6 := F70.freshle (Nat.le_of_eq g77.symm)
    have ne77_b11 := one_ g77 F71.lt
    have ne77_b29 := one_ g77 F72.lt
    have ne77_b36 := one_ g77 F73.lt
    have ne77_b44 := one_ g77 F75.lt
    have ne77_b54 := one_ g77 F76.lt
    have ne77_b6 := one_ g77 F70.lt
    have ne77_b65 := one_ g77 P65.lt
    have ne77_tt := one_ g77 F67.lt
    have F78 := F66.ext E77
    have F79 := F67.ext E77
    have F80 := F68.ext E77
    have F81 := F69.ext E77
    have F82 := F70.ext E77
    have F83 := F71.ext E77
    have F84 := F72.ext E77
    have F85 := F73.ext E77
    have F86 := F74.ext E77
    have F87 := F75.ext E77
    have F88 := F76.ext E77
    have F89 := P65.ext E77
    have gb77 := Nat.le_trans Zs65 (Nat.le_of_eq g77.symm)
    have K77 := K65.ext E77
    have sz77 := Nat.le_trans K65.1 (Nat.le_of_eq g77.symm)
    have Zs77 := Nat.le_trans Zs65 E77.1
    have F77_250 : Fld Z h77 b77 s8_ "elements" "[Ljava/lang/Object;" .null := D77 (Or.inl (ow250 hw)) (ty := (.array (.object "java/lang/Object"))) (by decide)
    have F77_257 : Fld Z h77 b77 s8_ "head" "I" (.int (0 : Int32)) := D77 (Or.inl (ow257 hw)) (ty := .int) (by decide)
    have F77_259 : Fld Z h77 b77 s8_ "tail" "I" (.int (0 : Int32)) := D77 (Or.inl (ow259 hw)) (ty := .int) (by decide)
    refine os (st77) ?_
    show OG p e below Φ T77 m 103 #[rv tt, rv net, iv 5, iv 8, rv b6, rv b11, rv b29, rv b36, rv b44, rv b54, rv b65, iv 0, o_, o_, o_, o_, o_, o_, o_, o_, o_, o_, o_, o_, o_, o_, o_, o_] [(.ref b77)]
    refine gDu X77 hx hby (eD D15_3_ 5 rfl) rfl ?_
    obtain ⟨_, T90, L90, X90, hQ90, st90⟩ := own_callSp X77 hx hZ rfl hown (ow243 hw) (ow244 hw) (ow242 hw) (ow245 hw) (by decide) (rdi l Z a0 hw [] b77 h77 n0 Zs77 A77 gb77 F77_250 F77_257 F77_259) e77 (W := 1) (by decide) (pc := 104) (ls := #[rv tt, rv net, iv 5, iv 8, rv b6, rv b11, rv b29, rv b36, rv b44, rv b54, rv b65, iv 0, o_, o_, o_, o_, o_, o_, o_, o_, o_, o_, o_, o_, o_, o_, o_, o_]) (stk := [(.ref b77), (.ref b77)]) (by rw [hml]; rfl) (a := b77) (argsL := []) (rest := [(.ref b77)]) (lenOf pd0 rfl) rfl rfl (Nat.le_of_eq rfl) (hb hby (eD D15_3_ 6 rfl))
    obtain ⟨rfl, Nq90, Kq90, d90, Dq90, hz90⟩ := hQ90
    have ni90_b6 := F82.freshle hz90
    have nq90_b11 := Nat.ne_of_lt (Nat.lt_of_lt_of_le F83.lt hz90)
    have nq90_b29 := Nat.ne_of_lt (Nat.lt_of_lt_of_le F84.lt hz90)
    have nq90_b36 := Nat.ne_of_lt (Nat.lt_of_lt_of_le F85.lt hz90)
    have nq90_b44 := Nat.ne_of_lt (Nat.lt_of_lt_of_le F87.lt hz90)
    have nq90_b54 := Nat.ne_of_lt (Nat.lt_of_lt_of_le F88.lt hz90)
    have nq90_b6 := Nat.ne_of_lt (Nat.lt_of_lt_of_le F82.lt hz90)
    have nq90_b65 := Nat.ne_of_lt (Nat.lt_of_lt_of_le F89.lt hz90)
    have nq90_b77 := Nat.ne_of_lt (Nat.lt_of_lt_of_le A77.lt hz90)
    have nq90_tt := Nat.ne_of_lt (Nat.lt_of_lt_of_le F79.lt hz90)
    have gq90 := Nat.le_trans Zs77 hz90
    have sq90 := Nat.le_trans K77.1 hz90
    have N90 := Fr.app N28 Nq90
    have Zs90 := Nat.le_trans Zs77 Kq90.1
    have F91 := F78.keep Kq90 (allS (hS2 _ sz77) all0)
    have F92 := F79.keep Kq90
    have F93 := F80.keep Kq90 (allS gb77 all0)
    have F94 := F81.keep Kq90 (ninS ne77_tt nin0)
    have F95 := F82.keep Kq90 (allS ni77_b6 all0)
    have F96 := F83.keep Kq90 (ninS ne77_b11 nin0)
    have F97 := F84.keep Kq90 (ninS ne77_b29 nin0)
    have F98 := F85.keep Kq90 (ninS ne77_b36 nin0)
    have F99 := F86.keep Kq90
    have F100 := F87.keep Kq90 (ninS ne77_b44 nin0)
    have F101 := F88.keep Kq90 (ninS ne77_b54 nin0)
    have F102 := F89.keep Kq90 (ninS ne77_b65 nin0)
    have K90 := K77.trans Kq90 (allS (Or.inr sz77) all0)
    refine os st90 ?_
    refine gAs X90 hx hby (eD D15_3_ 7 rfl) rfl (ls' := #[rv tt, rv net, iv 5, iv 8, rv b6, rv b11, rv b29, rv b36, rv b44, rv b54, rv b65, iv 0, rv b77, o_, o_, o_, o_, o_, o_, o_, o_, o_, o_, o_, o_, o_, o_, o_]) rfl ?_
    refine gIc (x := 0) X90 hx hby (eD D15_3_ 8 rfl) rfl ?_
    refine gIs X90 hx hby (eD D15_3_ 9 rfl) (ls' := #[rv tt, rv net, iv 5, iv 8, rv b6, rv b11, rv b29, rv b36, rv b44, rv b54, rv b65, iv 0, rv b77, iv 0, o_, o_, o_, o_, o_, o_, o_, o_, o_, o_, o_, o_, o_, o_]) rfl ?_
    show OG p e below Φ T90 m 112 #[rv tt, rv net, iv 5, iv 8, rv b6, rv b11, rv b29, rv b36, rv b44, rv b54, rv b65, iv 0, rv b77, iv 0, o_, o_, o_, o_, o_, o_, o_, o_, o_, o_, o_, o_, o_, o_] []
    have J112 : ∀ (nn112 : Nat) (i112_13 : Int32) (ds112_0 : Int32) (dj112_0 : Int32) (Tj112 : State) (hj112 : Heap) (Lj112 : List Loc), Stand p l e ({ frames := 4, cells := 33, slots := 287, locals := 57 } : Room) s m #[(.ref tt), (.ref net)] below meth c Tj112 Lj112 19 146 → Tj112.heap = hj112 → Fr n0 Lj112 → n0 ≤ hj112.size → Keep h0 hj112 [tt] → NetP Z hj112 S net lj lr lp d mc ps → Exa Z hj112 tt s4_ → Old Z n0 hj112 → FS Z hj112 tt .null .null .null .null .null .null .null .null .null (.int (0 : Int32)) → AA Z hj112 b6 bs6 r6 → PA Z hj112 b11 .int z41_0 → PA Z hj112 b29 .boolean (List.replicate (own_n ps).toNatClampNeg (0 : Int32)) → PA Z hj112 b36 .boolean (List.replicate 8 (0 : Int32)) → Exa Z hj112 b36 "[Z" → PA Z hj112 b44 .int (List.replicate 5 (0 : Int32)) → PA Z hj112 b54 .int (List.replicate 5 (0 : Int32)) → PA Z hj112 b65 .int (List.replicate 5 (0 : Int32)) → DQ Z hj112 b77 d90 ds112_0 dj112_0 → topK_k112 (own_n ps) (oeK ps) r6 z41_0  nn112 i112_13 ds112_0 dj112_0 = some t_ → OG p e below Φ Tj112 m 112 #[rv tt, rv net, iv (5 : Int32), iv (8 : Int32), rv b6, rv b11, rv b29, rv b36, rv b44, rv b54, rv b65, iv (0 : Int32), rv b77, iv i112_13, o_, o_, o_, o_, o_, o_, o_, o_, o_, o_, o_, o_, o_, o_] [] := by
     clear hK
     clear Xj41 ej41 Nj41 Zj41 Kj41 fj41_0 fj41_1 fj41_2 fj41_3 fj41_4 fj41_5 X27 st27 Nq27 e27 N27 X28 st28 Nq28 e28 N28 gn29 gc29 X29 e29 E29 Ar29 st29 g29 ne29_b6 F30 F31 F32 F33 F34 F35 K29 Zs29 P29 X36 e36 E36 Ar36 Ex36 st36 g36 ne36_b6 F37 F38 F39 F40 F41 F42 F43 K36 Zs36 P36 X44 e44 E44 Ar44 st44 g44 ne44_b6 F45 F46 F47 F48 F49 F50 F51 F52 F53 K44 Zs44 P44 X54 e54 E54 Ar54 st54 g54 ne54_b6 F55 F56 F57 F58 F59 F60 F61 F62 F63 F64 K54 Zs54 P54 X65 e65 E65 Ar65 st65 g65 ne65_b6 F66 F67 F68 F69 F70 F71 F72 F73 F74 F75 F76 K65 Zs65 P65 X77 e77 E77 A77 D77 U77 st77 g77 ne77_b6 F78 F79 F80 F81 F82 F83 F84 F85 F86 F87 F88 F89 K77 Zs77 F77_250 F77_257 F77_259 X90 st90 Nq90 Kq90 Dq90 hz90 nq90_b6 nq90_b77 N90 Zs90 F91 F92 F93 F94 F95 F96 F97 F98 F99 F100 F101 F102 K90
     intro nn112
     induction nn112 with
     | zero => intro i112_13 ds112_0 dj112_0 Tj112 hj112 Lj112 Xj112 ej112 Nj112 Zj112 Kj112 fj112_0 fj112_1 fj112_2 fj112_3 fj112_4 fj112_5 fj112_6 fj112_7 fj112_8 fj112_9 fj112_10 fj112_11 fj112_12 hK; exact (knone hK).elim
     | succ nn112 ih112 =>
      intro i112_13 ds112_0 dj112_0 Tj112 hj112 Lj112 Xj112 ej112 Nj112 Zj112 Kj112 fj112_0 fj112_1 fj112_2 fj112_3 fj112_4 fj112_5 fj112_6 fj112_7 fj112_8 fj112_9 fj112_10 fj112_11 fj112_12 hK
      show OG p e below Φ Tj112 m 112 #[rv tt, rv net, iv 5, iv 8, rv b6, rv b11, rv b29, rv b36, rv b44, rv b54, rv b65, iv 0, rv b77, iv i112_13, o_, o_, o_, o_, o_, o_, o_, o_, o_, o_, o_, o_, o_, o_] []
      refine gI Xj112 hx hby (eD D15_3_ 10 rfl) rfl ?_
      refine gIn Xj112 hx hby (eD D15_3_ 11 rfl) rfl ?_
      by_cases hc103 : i112_13 < (5 : Int32)
      replace hK := kif_t hc103 hK
      refine gCn Xj112 hx hby (eD D15_3_ 12 rfl) (XT.ii_ge_f hc103) ?_
      refine gA Xj112 hx hby (eD D15_3_ 13 rfl) rfl rfl ?_
      refine gI Xj112 hx hby (eD D15_3_ 14 rfl) rfl ?_
      replace hK := kld_some hK
      obtain ⟨v104, in104, ev104, hK⟩ := hK
      obtain ⟨cl104, Aq104, iq104, at104⟩ := PA.get fj112_5 in104 ev104
      refine os (fun _ z => Xj112.iaload hx (by rw [ej112]; exact Aq104.1) (oia hZ Aq104.2.1) Aq104.2.2 iq104 at104 (g := (mkF m 122 #[rv tt, rv net, iv 5, iv 8, rv b6, rv b11, rv b29, rv b36, rv b44, rv b54, rv b65, iv 0, rv b77, iv i112_13, o_, o_, o_, o_, o_, o_, o_, o_, o_, o_, o_, o_, o_, o_] [(.int i112_13), (.ref b11)])) rfl rfl (hb hby (eD D15_3_ 15 rfl)) _ z) ?_
      refine gIc (x := 1) Xj112 hx hby (eD D15_4_ 0 rfl) rfl ?_
      by_cases hc105 : v104 = (1 : Int32)
      replace hK := kif_t hc105 hK
      refine gCn Xj112 hx hby (eD D15_4_ 1 rfl) (XT.ii_ne_f hc105) ?_
      refine gA Xj112 hx hby (eD D15_4_ 2 rfl) rfl rfl ?_
      refine gI Xj112 hx hby (eD D15_4_ 3 rfl) rfl ?_
      replace hK := kas_some hK
      obtain ⟨as107, hK⟩ := hK
      obtain ⟨_, T106, L106, X106, hQ106, st106⟩ := own_callSt Xj112 hx hZ hown (ow310 hw) (ow311 hw) (ow312 hw) (ow313 hw) (by decide) (rvo l Z a0 hw [] i112_13 ac cc hj112 n0 Zj112 (S_hi.ext fj112_2.2) (S_ca.ext fj112_2.2) fj112_2.2 B_x as107.1 as107.2) ej112 (W := 1) (by decide) (pc := 131) (ls := #[rv tt, rv net, iv 5, iv 8, rv b6, rv b11, rv b29, rv b36, rv b44, rv b54, rv b65, iv 0, rv b77, iv i112_13, o_, o_, o_, o_, o_, o_, o_, o_, o_, o_, o_, o_, o_, o_]) (stk := [(.int i112_13), (.ref b77)]) (by rw [hml]; rfl) (argsL := [(.int i112_13)]) (rest := [(.ref b77)]) (lenOf pd20 rfl) rfl rfl (Nat.le_of_eq rfl) (hb hby (eD D15_4_ 4 rfl))
      obtain ⟨bx106, rfl, Nq106, e106, Bv106⟩ := hQ106
      have N106 := Fr.app Nj112 Nq106
      refine os st106 ?_
      replace hK := kas_some hK
      obtain ⟨as109, hK⟩ := hK
      obtain ⟨qE110, qe110, qn110, kd110, -, qo110, qh110, qt110, qV110⟩ := DQ.new fj112_12 as109
      obtain ⟨_, T108, L108, X108, hQ108, st108⟩ := own_callVi X106 hx hZ hown (ow317 hw) (ow318 hw) (notFace_of_selects (args := #[]) (mvT hZ (ow320 hw))) (ow320 hw) (ow319 hw) (ow242 hw) (ow321 hw) (by decide) (rda l Z a0 hw [] b77 d90 _ bx106 i112_13 hj112 n0 Zj112 qE110 qe110 qh110 qt110 qn110 qo110 qV110 Bv106 fj112_2.2 gb77 gq90) e106 (W := 0) (by decide) fj112_12.1 (pc := 134) (ls := #[rv tt, rv net, iv 5, iv 8, rv b6, rv b11, rv b29, rv b36, rv b44, rv b54, rv b65, iv 0, rv b77, iv i112_13, o_, o_, o_, o_, o_, o_, o_, o_, o_, o_, o_, o_, o_, o_]) (stk := [(.ref bx106), (.ref b77)]) (by rw [hml]; rfl) (argsL := [(.ref bx106)]) (rest := []) (lenOf pd7 rfl) rfl rfl (Nat.le_of_eq rfl) (hb hby (eD D15_4_ 5 rfl))
      obtain ⟨rfl, Nq108, Kq108, Eq108, De108, Dh108, Dt108, Vq108⟩ := hQ108
      have N108 := Fr.app N106 Nq108
      have Zs108 := Nat.le_trans Zj112 Kq108.1
      have F111 := fj112_0.keep Kq108 (allS (hS2 _ sz77) (allS (hS2 _ sq90) all0))
      have F112 := fj112_1.keep Kq108
      have F113 := fj112_2.keep Kq108 (allS gb77 (allS gq90 all0))
      have F114 := fj112_3.keep Kq108 (ninS ne77_tt (ninS nq90_tt nin0))
      have F115 := fj112_4.keep Kq108 (allS ni77_b6 (allS ni90_b6 all0))
      have F116 := fj112_5.keep Kq108 (ninS ne77_b11 (ninS nq90_b11 nin0))
      have F117 := fj112_6.keep Kq108 (ninS ne77_b29 (ninS nq90_b29 nin0))
      have F118 := fj112_7.keep Kq108 (ninS ne77_b36 (ninS nq90_b36 nin0))
      have F119 := fj112_8.keep Kq108
      have F120 := fj112_9.keep Kq108 (ninS ne77_b44 (ninS nq90_b44 nin0))
      have F121 := fj112_10.keep Kq108 (ninS ne77_b54 (ninS nq90_b54 nin0))
      have F122 := fj112_11.keep Kq108 (ninS ne77_b65 (ninS nq90_b65 nin0))
      have K108 := Kj112.trans Kq108 (allS (Or.inr sz77) (allS (Or.inr sq90) all0))
      have DQ108 : DQ Z T108.heap b77 d90 1 i112_13 := ⟨Eq108, De108, qn110, _, _, qo110, Or.inr (Or.inl ⟨rfl, Dh108, Dt108, Bv106, Vq108⟩)⟩
      refine os st108 ?_
      refine os (fun _ z => XT.pop X108.here hx rfl (hb hby (eD D15_4_ 6 rfl)) rfl rfl z) ?_
      refine os (fun _ z => XS.iinc X108.here hx rfl (hb hby (eD D15_4_ 7 rfl)) rfl (l' := #[rv tt, rv net, iv 5, iv 8, rv b6, rv b11, rv b29, rv b36, rv b44, rv b54, rv b65, iv 0, rv b77, iv (i112_13 + 1), o_, o_, o_, o_, o_, o_, o_, o_, o_, o_, o_, o_, o_, o_]) rfl z) ?_
      show OG p e below Φ T108 m 141 #[rv tt, rv net, iv 5, iv 8, rv b6, rv b11, rv b29, rv b36, rv b44, rv b54, rv b65, iv 0, rv b77, iv (i112_13 + 1), o_, o_, o_, o_, o_, o_, o_, o_, o_, o_, o_, o_, o_, o_] []
      refine gGo (pc := 141) (pc' := 112) X108 hx hby (eD D15_4_ 8 rfl) (by decide) (by decide) ?_
      show OG p e below Φ T108 m 112 #[rv tt, rv net, iv 5, iv 8, rv b6, rv b11, rv b29, rv b36, rv b44, rv b54, rv b65, iv 0, rv b77, iv (i112_13 + 1), o_, o_, o_, o_, o_, o_, o_, o_, o_, o_, o_, o_, o_, o_] []
      exact ih112 ((i112_13 + 1)) ((1 : Int32)) i112_13 _ _ _ X108 rfl N108 Zs108 K108 F111 F112 F113 F114 F115 F116 F117 F118 F119 F120 F121 F122 DQ108 hK
      replace hK := kif_f hc105 hK
      refine gCy (pc := 124) (pc' := 138) Xj112 hx hby (eD D15_4_ 1 rfl) (XT.ii_ne_t hc105) (by decide) (by decide) ?_
      refine os (fun _ z => XS.iinc Xj112.here hx rfl (hb hby (eD D15_4_ 7 rfl)) rfl (l' := #[rv tt, rv net, iv 5, iv 8, rv b6, rv b11, rv b29, rv b36, rv b44, rv b54, rv b65, iv 0, rv b77, iv (i112_13 + 1), o_, o_, o_, o_, o_, o_, o_, o_, o_, o_, o_, o_, o_, o_]) rfl z) ?_
      show OG p e below Φ Tj112 m 141 #[rv tt, rv net, iv 5, iv 8, rv b6, rv b11, rv b29, rv b36, rv b44, rv b54, rv b65, iv 0, rv b77, iv (i112_13 + 1), o_, o_, o_, o_, o_, o_, o_, o_, o_, o_, o_, o_, o_, o_] []
      refine gGo (pc := 141) (pc' := 112) Xj112 hx hby (eD D15_4_ 8 rfl) (by decide) (by decide) ?_
      show OG p e below Φ Tj112 m 112 #[rv tt, rv net, iv 5, iv 8, rv b6, rv b11, rv b29, rv b36, rv b44, rv b54, rv b65, iv 0, rv b77, iv (i112_13 + 1), o_, o_, o_, o_, o_, o_, o_, o_, o_, o_, o_, o_, o_, o_] []
      exact ih112 ((i112_13 + 1)) ds112_0 dj112_0 _ _ _ Xj112 ej112 Nj112 Zj112 Kj112 fj112_0 fj112_1 fj112_2 fj112_3 fj112_4 fj112_5 fj112_6 fj112_7 fj112_8 fj112_9 fj112_10 fj112_11 fj112_12 hK
      replace hK := kif_f hc103 hK
      refine gCy (pc := 115) (pc' := 144) Xj112 hx hby (eD D15_3_ 12 rfl) (XT.ii_ge_t hc103) (by decide) (by decide) ?_
      show OG p e below Φ Tj112 m 144 #[rv tt, rv net, iv 5, iv 8, rv b6, rv b11, rv b29, rv b36, rv b44, rv b54, rv b65, iv 0, rv b77, iv i112_13, o_, o_, o_, o_, o_, o_, o_, o_, o_, o_, o_, o_, o_, o_] []
      have J144 : ∀ (nn144 : Nat) (i144_11 : Int32) (z144_0 : List Int32) (z144_1 : List Int32) (z144_2 : List Int32) (z144_3 : List Int32) (z144_4 : List Int32) (z144_5 : List Int32) (ds144_0 : Int32) (dj144_0 : Int32) (s144_13 : Slot) (q144_13 : own_s1 s144_13) (s144_14 : Slot) (q144_14 : own_s1 s144_14) (s144_15 : Slot) (q144_15 : own_s1 s144_15) (Tj144 : State) (hj144 : Heap) (Lj144 : List Loc), Stand p l e ({ frames := 4, cells := 33, slots := 287, locals := 57 } : Room) s m #[(.ref tt), (.ref net)] below meth c Tj144 Lj144 19 146 → Tj144.heap = hj144 → Fr n0 Lj144 → n0 ≤ hj144.size → Keep h0 hj144 [tt] → NetP Z hj144 S net lj lr lp d mc ps → Exa Z hj144 tt s4_ → Old Z n0 hj144 → FS Z hj144 tt .null .null .null .null .null .null .null .null .null (.int (0 : Int32)) → AA Z hj144 b6 bs6 r6 → PA Z hj144 b11 .int z144_0 → PA Z hj144 b29 .boolean z144_1 → PA Z hj144 b36 .boolean z144_2 → Exa Z hj144 b36 "[Z" → PA Z hj144 b44 .int z144_3 → PA Z hj144 b54 .int z144_4 → PA Z hj144 b65 .int z144_5 → DQ Z hj144 b77 d90 ds144_0 dj144_0 → topK_k144 (own_n ps) (oeK ps) r6  nn144 i144_11 z144_0 z144_1 z144_2 z144_3 z144_4 z144_5 ds144_0 dj144_0 = some t_ → OG p e below Φ Tj144 m 144 #[rv tt, rv net, iv (5 : Int32), iv (8 : Int32), rv b6, rv b11, rv b29, rv b36, rv b44, rv b54, rv b65, iv i144_11, rv b77, s144_13, s144_14, s144_15, o_, o_, o_, o_, o_, o_, o_, o_, o_, o_, o_, o_] [] := by
       clear hK
       clear Xj112 ej112 Nj112 Zj112 Kj112 fj112_0 fj112_1 fj112_2 fj112_3 fj112_4 fj112_5 fj112_6 fj112_7 fj112_8 fj112_9 fj112_10 fj112_11 fj112_12
       intro nn144
       induction nn144 with
       | zero => intro i144_11 z144_0 z144_1 z144_2 z144_3 z144_4 z144_5 ds144_0 dj144_0 s144_13 q144_13 s144_14 q144_14 s144_15 q144_15 Tj144 hj144 Lj144 Xj144 ej144 Nj144 Zj144 Kj144 fj144_0 fj144_1 fj144_2 fj144_3 fj144_4 fj144_5 fj144_6 fj144_7 fj144_8 fj144_9 fj144_10 fj144_11 fj144_12 hK; exact (knone hK).elim
       | succ nn144 ih144 =>
        intro i144_11 z144_0 z144_1 z144_2 z144_3 z144_4 z144_5 ds144_0 dj144_0 s144_13 q144_13 s144_14 q144_14 s144_15 q144_15 Tj144 hj144 Lj144 Xj144 ej144 Nj144 Zj144 Kj144 fj144_0 fj144_1 fj144_2 fj144_3 fj144_4 fj144_5 fj144_6 fj144_7 fj144_8 fj144_9 fj144_10 fj144_11 fj144_12 hK
        show OG p e below Φ Tj144 m 144 #[rv tt, rv net, iv 5, iv 8, rv b6, rv b11, rv b29, rv b36, rv b44, rv b54, rv b65, iv i144_11, rv b77, s144_13, s144_14, s144_15, o_, o_, o_, o_, o_, o_, o_, o_, o_, o_, o_, o_] []
        refine gA Xj144 hx hby (eD D15_4_ 9 rfl) rfl rfl ?_
        obtain ⟨_, T123, L123, X123, hQ123, st123⟩ := own_callVi Xj144 hx hZ hown (ow251 hw) (ow252 hw) (notFace_of_selects (args := #[]) (mvT hZ (ow254 hw))) (ow254 hw) (ow253 hw) (ow242 hw) (ow255 hw) (by decide) (rde l Z a0 hw [] b77 d90 ds144_0 dj144_0 hj144 n0 Zj144 fj144_12) ej144 (W := 0) (by decide) fj144_12.1 (pc := 146) (ls := #[rv tt, rv net, iv 5, iv 8, rv b6, rv b11, rv b29, rv b36, rv b44, rv b54, rv b65, iv i144_11, rv b77, s144_13, s144_14, s144_15, o_, o_, o_, o_, o_, o_, o_, o_, o_, o_, o_, o_]) (stk := [(.ref b77)]) (by rw [hml]; rfl) (argsL := []) (rest := []) (lenOf pd14 rfl) rfl rfl (Nat.le_of_eq rfl) (hb hby (eD D15_4_ 10 rfl))
        obtain ⟨rfl, Nq123, e123⟩ := hQ123
        have N123 := Fr.app Nj144 Nq123
        refine os st123 ?_
        by_cases hc124 : (own_ie ds144_0) = 0
        replace hK := kif_t hc124 hK
        refine gFn X123 hx hby (eD D15_4_ 11 rfl) (XT.i0_ne_f hc124) ?_
        refine gA X123 hx hby (eD D15_4_ 12 rfl) rfl rfl ?_
        replace hK := kas_some hK
        obtain ⟨as126, hK⟩ := hK
        obtain ⟨qE127, qe127, qn127, kd127, bx127, qo127, qh127, qt127, qB127, qV127⟩ := DQ.full fj144_12 as126
        obtain ⟨_, T125, L125, X125, hQ125, st125⟩ := own_callVi X123 hx hZ hown (ow331 hw) (ow332 hw) (notFace_of_selects (args := #[]) (mvT hZ (ow334 hw))) (ow334 hw) (ow333 hw) (ow242 hw) (ow335 hw) (by decide) (rdr l Z a0 hw [] b77 d90 _ bx127 dj144_0 hj144 n0 Zj144 qE127 qe127 qh127 qt127 qn127 qo127 qV127 qB127 fj144_2.2 gb77 gq90) e123 (W := 0) (by decide) fj144_12.1 (pc := 154) (ls := #[rv tt, rv net, iv 5, iv 8, rv b6, rv b11, rv b29, rv b36, rv b44, rv b54, rv b65, iv i144_11, rv b77, s144_13, s144_14, s144_15, o_, o_, o_, o_, o_, o_, o_, o_, o_, o_, o_, o_]) (stk := [(.ref b77)]) (by rw [hml]; rfl) (argsL := []) (rest := []) (lenOf pd16 rfl) rfl rfl (Nat.le_of_eq rfl) (hb hby (eD D15_4_ 13 rfl))
        obtain ⟨rfl, Nq125, Kq125, Eq125, De125, Dh125, Dt125, Vq125⟩ := hQ125
        have N125 := Fr.app N123 Nq125
        have Zs125 := Nat.le_trans Zj144 Kq125.1
        have F128 := fj144_0.keep Kq125 (allS (hS2 _ sz77) (allS (hS2 _ sq90) all0))
        have F129 := fj144_1.keep Kq125
        have F130 := fj144_2.keep Kq125 (allS gb77 (allS gq90 all0))
        have F131 := fj144_3.keep Kq125 (ninS ne77_tt (ninS nq90_tt nin0))
        have F132 := fj144_4.keep Kq125 (allS ni77_b6 (allS ni90_b6 all0))
        have F133 := fj144_5.keep Kq125 (ninS ne77_b11 (ninS nq90_b11 nin0))
        have F134 := fj144_6.keep Kq125 (ninS ne77_b29 (ninS nq90_b29 nin0))
        have F135 := fj144_7.keep Kq125 (ninS ne77_b36 (ninS nq90_b36 nin0))
        have F136 := fj144_8.keep Kq125
        have F137 := fj144_9.keep Kq125 (ninS ne77_b44 (ninS nq90_b44 nin0))
        have F138 := fj144_10.keep Kq125 (ninS ne77_b54 (ninS nq90_b54 nin0))
        have F139 := fj144_11.keep Kq125 (ninS ne77_b65 (ninS nq90_b65 nin0))
        have K125 := Kj144.trans Kq125 (allS (Or.inr sz77) (allS (Or.inr sq90) all0))
        have DQ125 : DQ Z T125.heap b77 d90 2 dj144_0 := ⟨Eq125, De125, qn127, _, 0, qo127, Or.inr (Or.inr ⟨rfl, Dh125, Dt125, Vq125⟩)⟩
        have Eb125 := qB127.1.ext F130.2
        refine os st125 ?_
        obtain ⟨T140, X140, e140, st140⟩ := castY X125 hx hZ hown (ow349 hw) rfl (Ins.self Eb125) (g := (mkF m 157 #[rv tt, rv net, iv 5, iv 8, rv b6, rv b11, rv b29, rv b36, rv b44, rv b54, rv b65, iv i144_11, rv b77, s144_13, s144_14, s144_15, o_, o_, o_, o_, o_, o_, o_, o_, o_, o_, o_, o_] [(.ref bx127)])) rfl rfl (hb hby (eD D15_4_ 14 rfl))
        refine os st140 ?_
        obtain ⟨_, T141, L141, X141, hQ141, st141⟩ := own_callVi X140 hx hZ hown (ow351 hw) (ow352 hw) (notFace_of_selects (args := #[]) (mvT hZ (ow354 hw))) (ow354 hw) (ow353 hw) (ow312 hw) (ow355 hw) (by decide) (riv l Z a0 hw [] bx127 dj144_0 T125.heap n0 Zs125 (qB127.2.ext F130.2)) e140 (W := 0) (by decide) Eb125 (pc := 160) (ls := #[rv tt, rv net, iv 5, iv 8, rv b6, rv b11, rv b29, rv b36, rv b44, rv b54, rv b65, iv i144_11, rv b77, s144_13, s144_14, s144_15, o_, o_, o_, o_, o_, o_, o_, o_, o_, o_, o_, o_]) (stk := [(.ref bx127)]) (by rw [hml]; rfl) (argsL := []) (rest := []) (lenOf pd11 rfl) rfl rfl (Nat.le_of_eq rfl) (hb hby (eD D15_4_ 15 rfl))
        obtain ⟨rfl, Nq141, e141⟩ := hQ141
        have N141 := Fr.app N125 Nq141
        refine os st141 ?_
        refine gIs X141 hx hby (eD D15_5_ 0 rfl) (ls' := #[rv tt, rv net, iv 5, iv 8, rv b6, rv b11, rv b29, rv b36, rv b44, rv b54, rv b65, iv i144_11, rv b77, iv dj144_0, s144_14, s144_15, o_, o_, o_, o_, o_, o_, o_, o_, o_, o_, o_, o_]) (XS.store1 rfl q144_13 rfl) ?_
        show OG p e below Φ T141 m 165 #[rv tt, rv net, iv 5, iv 8, rv b6, rv b11, rv b29, rv b36, rv b44, rv b54, rv b65, iv i144_11, rv b77, iv dj144_0, s144_14, s144_15, o_, o_, o_, o_, o_, o_, o_, o_, o_, o_, o_, o_] []
        refine gA X141 hx hby (eD D15_5_ 1 rfl) rfl rfl ?_
        refine gI X141 hx hby (eD D15_5_ 2 rfl) rfl ?_
        replace hK := kld_some hK
        obtain ⟨v142, in142, ev142, hK⟩ := hK
        obtain ⟨cl142, Aq142, iq142, at142⟩ := PA.get F133 in142 ev142
        refine os (fun _ z => X141.iaload hx (by rw [e141]; exact Aq142.1) (oia hZ Aq142.2.1) Aq142.2.2 iq142 at142 (g := (mkF m 169 #[rv tt, rv net, iv 5, iv 8, rv b6, rv b11, rv b29, rv b36, rv b44, rv b54, rv b65, iv i144_11, rv b77, iv dj144_0, s144_14, s144_15, o_, o_, o_, o_, o_, o_, o_, o_, o_, o_, o_, o_] [(.int dj144_0), (.ref b11)])) rfl rfl (hb hby (eD D15_5_ 3 rfl)) _ z) ?_
        by_cases hc143 : v142 = 0
        replace hK := kif_t hc143 hK
        refine gFn X141 hx hby (eD D15_5_ 4 rfl) (XT.i0_ne_f hc143) ?_
        refine gGo (pc := 173) (pc' := 144) X141 hx hby (eD D15_5_ 5 rfl) (by decide) (by decide) ?_
        show OG p e below Φ T141 m 144 #[rv tt, rv net, iv 5, iv 8, rv b6, rv b11, rv b29, rv b36, rv b44, rv b54, rv b65, iv i144_11, rv b77, iv dj144_0, s144_14, s144_15, o_, o_, o_, o_, o_, o_, o_, o_, o_, o_, o_, o_] []
        exact ih144 i144_11 z144_0 z144_1 z144_2 z144_3 z144_4 z144_5 ((2 : Int32)) dj144_0 (iv dj144_0) (Or.inr ⟨_, rfl, rfl⟩) (s144_14) q144_14 (s144_15) q144_15 _ _ _ X141 e141 N141 Zs125 K125 F128 F129 F130 F131 F132 F133 F134 F135 F136 F137 F138 F139 DQ125 hK
        replace hK := kif_f hc143 hK
        refine gFy (pc := 170) (pc' := 176) X141 hx hby (eD D15_5_ 4 rfl) (XT.i0_ne_t hc143) (by decide) (by decide) ?_
        refine gA X141 hx hby (eD D15_5_ 6 rfl) rfl rfl ?_
        refine gI X141 hx hby (eD D15_5_ 7 rfl) rfl ?_
        replace hK := kll_some hK
        obtain ⟨r144, in144, er144, hK⟩ := hK
        obtain ⟨b144, hb144⟩ : ∃ z, z = bs6.getD dj144_0.toNatClampNeg 0 := ⟨_, rfl⟩
        obtain ⟨cl144, Aq144, iq144, at144⟩ := AA.at F132 in144 hb144
        have P144 := AA.row F132 in144 hb144 er144
        have mb144 := AA.mem F132 in144 hb144
        refine os (fun _ z => X141.aaload hx (by rw [e141]; exact Aq144.1) (oia hZ Aq144.2.1) rfl Aq144.2.2 iq144 at144 (g := (mkF m 180 #[rv tt, rv net, iv 5, iv 8, rv b6, rv b11, rv b29, rv b36, rv b44, rv b54, rv b65, iv i144_11, rv b77, iv dj144_0, s144_14, s144_15, o_, o_, o_, o_, o_, o_, o_, o_, o_, o_, o_, o_] [(.int dj144_0), (.ref b6)])) rfl rfl (hb hby (eD D15_5_ 8 rfl)) _ z) ?_
        refine gA X141 hx hby (eD D15_5_ 9 rfl) rfl rfl ?_
        replace hK := kbd_some hK
        obtain ⟨v145, kb145, hK⟩ := hK
        obtain ⟨_, T145, L145, X145, hQ145, st145⟩ := own_callSt X141 hx hZ hown (ow292 hw) (ow293 hw) (ow93 hw) (ow294 hw) (by decide) (rre l Z a0 hw [] b144 b29 r144 z144_1 v145 T125.heap n0 Zs125 P144 F134 kb145) e141 (W := 0) (by decide) (pc := 183) (ls := #[rv tt, rv net, iv 5, iv 8, rv b6, rv b11, rv b29, rv b36, rv b44, rv b54, rv b65, iv i144_11, rv b77, iv dj144_0, s144_14, s144_15, o_, o_, o_, o_, o_, o_, o_, o_, o_, o_, o_, o_]) (stk := [(.ref b29), (.ref b144)]) (by rw [hml]; rfl) (argsL := [(.ref b144), (.ref b29)]) (rest := []) (lenOf pd21 rfl) rfl rfl (Nat.le_of_eq rfl) (hb hby (eD D15_5_ 10 rfl))
        obtain ⟨rfl, Nq145, e145⟩ := hQ145
        have N145 := Fr.app N141 Nq145
        refine os st145 ?_
        refine gIs X145 hx hby (eD D15_5_ 11 rfl) (ls' := #[rv tt, rv net, iv 5, iv 8, rv b6, rv b11, rv b29, rv b36, rv b44, rv b54, rv b65, iv i144_11, rv b77, iv dj144_0, iv v145, s144_15, o_, o_, o_, o_, o_, o_, o_, o_, o_, o_, o_, o_]) (XS.store1 rfl q144_14 rfl) ?_
        refine gAn X145 hx hby (eD D15_5_ 12 rfl) rfl rfl ?_
        refine gI X145 hx hby (eD D15_5_ 13 rfl) rfl ?_
        refine gI X145 hx hby (eD D15_5_ 14 rfl) rfl ?_
        replace hK := kbd_some hK
        obtain ⟨v146, kb146, hK⟩ := hK
        obtain ⟨_, T146, L146, X146, hQ146, st146⟩ := own_callSt X145 hx hZ hown (ow289 hw) (ow290 hw) (ow93 hw) (ow291 hw) (by decide) (roe l Z a0 hw [] S net lj lr lp d mc ps v145 dj144_0 v146 T125.heap n0 Zs125 F128 kb146) e145 (W := 0) (by decide) (pc := 193) (ls := #[rv tt, rv net, iv 5, iv 8, rv b6, rv b11, rv b29, rv b36, rv b44, rv b54, rv b65, iv i144_11, rv b77, iv dj144_0, iv v145, s144_15, o_, o_, o_, o_, o_, o_, o_, o_, o_, o_, o_, o_]) (stk := [(.int dj144_0), (.int v145), (.ref net)]) (by rw [hml]; rfl) (argsL := [(.ref net), (.int v145), (.int dj144_0)]) (rest := []) (lenOf pd22 rfl) rfl rfl (Nat.le_of_eq rfl) (hb hby (eD D15_5_ 15 rfl))
        obtain ⟨rfl, Nq146, e146⟩ := hQ146
        have N146 := Fr.app N145 Nq146
        refine os st146 ?_
        refine gIs X146 hx hby (eD D15_6_ 0 rfl) (ls' := #[rv tt, rv net, iv 5, iv 8, rv b6, rv b11, rv b29, rv b36, rv b44, rv b54, rv b65, iv i144_11, rv b77, iv dj144_0, iv v145, iv v146, o_, o_, o_, o_, o_, o_, o_, o_, o_, o_, o_, o_]) (XS.store1 rfl q144_15 rfl) ?_
        refine gA X146 hx hby (eD D15_6_ 1 rfl) rfl rfl ?_
        refine gI X146 hx hby (eD D15_6_ 2 rfl) rfl ?_
        refine gIc (x := 1) X146 hx hby (eD D15_6_ 3 rfl) rfl ?_
        replace hK := kst_some hK
        obtain ⟨x147, in147, ex147, hK⟩ := hK
        obtain ⟨cl147, Aq147, iq147, -⟩ := PA.get F134 in147 rfl
        obtain ⟨T147, h147, X147, e147, W147, st147⟩ := stZ X146 hx hZ e146 Aq147 iq147 (g := (mkF m 203 #[rv tt, rv net, iv 5, iv 8, rv b6, rv b11, rv b29, rv b36, rv b44, rv b54, rv b65, iv i144_11, rv b77, iv dj144_0, iv v145, iv v146, o_, o_, o_, o_, o_, o_, o_, o_, o_, o_, o_, o_] [(.int 1), (.int v145), (.ref b29)])) rfl rfl (hb hby (eD D15_6_ 4 rfl))
        have W147 : Wr T125.heap h147 b29 v145.toNatClampNeg (.int (1 : Int32)) := W147
        have F148 := F128.other W147 (hS2 _ sz29)
        have F149 := F129.wr W147
        have F150 := F130.wr W147 gb29
        have F151 := F131.other W147 ne29_tt
        have F152 := F132.other W147 ni29_b6
        have F153 := F133.other W147 ne29_b11
        have F154 := F135.other W147 (Ne.symm ne36_b29)
        have F155 := F136.wr W147
        have F156 := F137.other W147 (Ne.symm ne44_b29)
        have F157 := F138.other W147 (Ne.symm ne54_b29)
        have F158 := F139.other W147 (Ne.symm ne65_b29)
        have F159 := DQ125.other W147 ⟨ne77_b29, nq90_b29⟩
        have F160 := P144.other W147 (own_nbx mb144.1 ni29_b6)
        have P147 := PA.set F134 in147 W147 (by decide) ex147
        have K147 := K125.wr W147 (Or.inr sz29)
        have N147 := Fr.snoc X147 N146 gb29
        have Zs147 := ozw W147 Zs125
        refine os st147 ?_
        refine gA X147 hx hby (eD D15_6_ 5 rfl) rfl rfl ?_
        refine gI X147 hx hby (eD D15_6_ 6 rfl) rfl ?_
        refine gIc (x := 1) X147 hx hby (eD D15_6_ 7 rfl) rfl ?_
        replace hK := kst_some hK
        obtain ⟨x161, in161, ex161, hK⟩ := hK
        obtain ⟨cl161, Aq161, iq161, -⟩ := PA.get F154 in161 rfl
        obtain ⟨T161, h161, X161, e161, W161, st161⟩ := stZ X147 hx hZ e147 Aq161 iq161 (g := (mkF m 209 #[rv tt, rv net, iv 5, iv 8, rv b6, rv b11, rv b29, rv b36, rv b44, rv b54, rv b65, iv i144_11, rv b77, iv dj144_0, iv v145, iv v146, o_, o_, o_, o_, o_, o_, o_, o_, o_, o_, o_, o_] [(.int 1), (.int dj144_0), (.ref b36)])) rfl rfl (hb hby (eD D15_6_ 8 rfl))
        have W161 : Wr h147 h161 b36 dj144_0.toNatClampNeg (.int (1 : Int32)) := W161
        have F162 := F148.other W161 (hS2 _ sz36)
        have F163 := F149.wr W161
        have F164 := F150.wr W161 gb36
        have F165 := F151.other W161 ne36_tt
        have F166 := F152.other W161 ni36_b6
        have F167 := F153.other W161 ne36_b11
        have F168 := F155.wr W161
        have F169 := F156.other W161 (Ne.symm ne44_b36)
        have F170 := F157.other W161 (Ne.symm ne54_b36)
        have F171 := F158.other W161 (Ne.symm ne65_b36)
        have F172 := F159.other W161 ⟨ne77_b36, nq90_b36⟩
        have F173 := F160.other W161 (own_nbx mb144.1 ni36_b6)
        have F174 := P147.other W161 ne36_b29
        have P161 := PA.set F154 in161 W161 (by decide) ex161
        have K161 := K147.wr W161 (Or.inr sz36)
        have N161 := Fr.snoc X161 N147 gb36
        have Zs161 := ozw W161 Zs147
        refine os st161 ?_
        refine gA X161 hx hby (eD D15_6_ 9 rfl) rfl rfl ?_
        refine gI X161 hx hby (eD D15_6_ 10 rfl) rfl ?_
        refine os (fun _ z => XT.dup2 X161.here hx rfl (hb hby (eD D15_6_ 11 rfl)) rfl rfl rfl z) ?_
        replace hK := kld_some hK
        obtain ⟨v175, in175, ev175, hK⟩ := hK
        obtain ⟨cl175, Aq175, iq175, at175⟩ := PA.get F167 in175 ev175
        refine os (fun _ z => X161.iaload hx (by rw [e161]; exact Aq175.1) (oia hZ Aq175.2.1) Aq175.2.2 iq175 at175 (g := (mkF m 215 #[rv tt, rv net, iv 5, iv 8, rv b6, rv b11, rv b29, rv b36, rv b44, rv b54, rv b65, iv i144_11, rv b77, iv dj144_0, iv v145, iv v146, o_, o_, o_, o_, o_, o_, o_, o_, o_, o_, o_, o_] [(.int dj144_0), (.ref b11), (.int dj144_0), (.ref b11)])) rfl rfl (hb hby (eD D15_6_ 12 rfl)) _ z) ?_
        refine gIc (x := 1) X161 hx hby (eD D15_6_ 13 rfl) rfl ?_
        refine os (fun _ z => XS.isub X161.here hx rfl (hb hby (eD D15_6_ 14 rfl)) rfl z) ?_
        replace hK := kst_some hK
        obtain ⟨x176, in176, ex176, hK⟩ := hK
        obtain ⟨cl176, Aq176, iq176, -⟩ := PA.get F167 in176 rfl
        obtain ⟨T176, h176, X176, e176, W176, st176⟩ := stI X161 hx hZ e161 Aq176 iq176 (g := (mkF m 218 #[rv tt, rv net, iv 5, iv 8, rv b6, rv b11, rv b29, rv b36, rv b44, rv b54, rv b65, iv i144_11, rv b77, iv dj144_0, iv v145, iv v146, o_, o_, o_, o_, o_, o_, o_, o_, o_, o_, o_, o_] [(.int (v175 - 1)), (.int dj144_0), (.ref b11)])) rfl rfl (hb hby (eD D15_6_ 15 rfl))
        have F177 := F162.other W176 (hS2 _ sz11)
        have F178 := F163.wr W176
        have F179 := F164.wr W176 gb11
        have F180 := F165.other W176 ne11_tt
        have F181 := F166.other W176 ni11_b6
        have F182 := F168.wr W176
        have F183 := F169.other W176 (Ne.symm ne44_b11)
        have F184 := F170.other W176 (Ne.symm ne54_b11)
        have F185 := F171.other W176 (Ne.symm ne65_b11)
        have F186 := F172.other W176 ⟨ne77_b11, nq90_b11⟩
        have F187 := F173.other W176 (own_nbx mb144.1 ni11_b6)
        have F188 := F174.other W176 (Ne.symm ne29_b11)
        have F189 := P161.other W176 (Ne.symm ne36_b11)
        have P176 := PA.set F167 in176 W176 rfl ex176
        have K176 := K161.wr W176 (Or.inr sz11)
        have N176 := Fr.snoc X176 N161 gb11
        have Zs176 := ozw W176 Zs161
        refine os st176 ?_
        show OG p e below Φ T176 m 219 #[rv tt, rv net, iv 5, iv 8, rv b6, rv b11, rv b29, rv b36, rv b44, rv b54, rv b65, iv i144_11, rv b77, iv dj144_0, iv v145, iv v146, o_, o_, o_, o_, o_, o_, o_, o_, o_, o_, o_, o_] []
        refine gA X176 hx hby (eD D15_7_ 0 rfl) rfl rfl ?_
        refine gI X176 hx hby (eD D15_7_ 1 rfl) rfl ?_
        refine os (fun _ z => XT.dup2 X176.here hx rfl (hb hby (eD D15_7_ 2 rfl)) rfl rfl rfl z) ?_
        replace hK := kld_some hK
        obtain ⟨v190, in190, ev190, hK⟩ := hK
        obtain ⟨cl190, Aq190, iq190, at190⟩ := PA.get P176 in190 ev190
        refine os (fun _ z => X176.iaload hx (by rw [e176]; exact Aq190.1) (oia hZ Aq190.2.1) Aq190.2.2 iq190 at190 (g := (mkF m 224 #[rv tt, rv net, iv 5, iv 8, rv b6, rv b11, rv b29, rv b36, rv b44, rv b54, rv b65, iv i144_11, rv b77, iv dj144_0, iv v145, iv v146, o_, o_, o_, o_, o_, o_, o_, o_, o_, o_, o_, o_] [(.int v146), (.ref b11), (.int v146), (.ref b11)])) rfl rfl (hb hby (eD D15_7_ 3 rfl)) _ z) ?_
        refine gIc (x := 1) X176 hx hby (eD D15_7_ 4 rfl) rfl ?_
        refine os (fun _ z => XS.isub X176.here hx rfl (hb hby (eD D15_7_ 5 rfl)) rfl z) ?_
        replace hK := kst_some hK
        obtain ⟨x191, in191, ex191, hK⟩ := hK
        obtain ⟨cl191, Aq191, iq191, -⟩ := PA.get P176 in191 rfl
        obtain ⟨T191, h191, X191, e191, W191, st191⟩ := stI X176 hx hZ e176 Aq191 iq191 (g := (mkF m 227 #[rv tt, rv net, iv 5, iv 8, rv b6, rv b11, rv b29, rv b36, rv b44, rv b54, rv b65, iv i144_11, rv b77, iv dj144_0, iv v145, iv v146, o_, o_, o_, o_, o_, o_, o_, o_, o_, o_, o_, o_] [(.int (v190 - 1)), (.int v146), (.ref b11)])) rfl rfl (hb hby (eD D15_7_ 6 rfl))
        have F192 := F177.other W191 (hS2 _ sz11)
        have F193 := F178.wr W191
        have F194 := F179.wr W191 gb11
        have F195 := F180.other W191 ne11_tt
        have F196 := F181.other W191 ni11_b6
        have F197 := F182.wr W191
        have F198 := F183.other W191 (Ne.symm ne44_b11)
        have F199 := F184.other W191 (Ne.symm ne54_b11)
        have F200 := F185.other W191 (Ne.symm ne65_b11)
        have F201 := F186.other W191 ⟨ne77_b11, nq90_b11⟩
        have F202 := F187.other W191 (own_nbx mb144.1 ni11_b6)
        have F203 := F188.other W191 (Ne.symm ne29_b11)
        have F204 := F189.other W191 (Ne.symm ne36_b11)
        have P191 := PA.set P176 in191 W191 rfl ex191
        have K191 := K176.wr W191 (Or.inr sz11)
        have N191 := Fr.snoc X191 N176 gb11
        have Zs191 := ozw W191 Zs176
        refine os st191 ?_
        refine gA X191 hx hby (eD D15_7_ 7 rfl) rfl rfl ?_
        refine gI X191 hx hby (eD D15_7_ 8 rfl) rfl ?_
        refine gI X191 hx hby (eD D15_7_ 9 rfl) rfl ?_
        replace hK := kst_some hK
        obtain ⟨x205, in205, ex205, hK⟩ := hK
        obtain ⟨cl205, Aq205, iq205, -⟩ := PA.get F198 in205 rfl
        obtain ⟨T205, h205, X205, e205, W205, st205⟩ := stI X191 hx hZ e191 Aq205 iq205 (g := (mkF m 234 #[rv tt, rv net, iv 5, iv 8, rv b6, rv b11, rv b29, rv b36, rv b44, rv b54, rv b65, iv i144_11, rv b77, iv dj144_0, iv v145, iv v146, o_, o_, o_, o_, o_, o_, o_, o_, o_, o_, o_, o_] [(.int v145), (.int i144_11), (.ref b44)])) rfl rfl (hb hby (eD D15_7_ 10 rfl))
        have F206 := F192.other W205 (hS2 _ sz44)
        have F207 := F193.wr W205
        have F208 := F194.wr W205 gb44
        have F209 := F195.other W205 ne44_tt
        have F210 := F196.other W205 ni44_b6
        have F211 := F197.wr W205
        have F212 := F199.other W205 (Ne.symm ne54_b44)
        have F213 := F200.other W205 (Ne.symm ne65_b44)
        have F214 := F201.other W205 ⟨ne77_b44, nq90_b44⟩
        have F215 := F202.other W205 (own_nbx mb144.1 ni44_b6)
        have F216 := F203.other W205 ne44_b29
        have F217 := F204.other W205 ne44_b36
        have F218 := P191.other W205 ne44_b11
        have P205 := PA.set F198 in205 W205 rfl ex205
        have K205 := K191.wr W205 (Or.inr sz44)
        have N205 := Fr.snoc X205 N191 gb44
        have Zs205 := ozw W205 Zs191
        refine os st205 ?_
        refine gA X205 hx hby (eD D15_7_ 11 rfl) rfl rfl ?_
        refine gI X205 hx hby (eD D15_7_ 12 rfl) rfl ?_
        refine gI X205 hx hby (eD D15_7_ 13 rfl) rfl ?_
        replace hK := kst_some hK
        obtain ⟨x219, in219, ex219, hK⟩ := hK
        obtain ⟨cl219, Aq219, iq219, -⟩ := PA.get F212 in219 rfl
        obtain ⟨T219, h219, X219, e219, W219, st219⟩ := stI X205 hx hZ e205 Aq219 iq219 (g := (mkF m 241 #[rv tt, rv net, iv 5, iv 8, rv b6, rv b11, rv b29, rv b36, rv b44, rv b54, rv b65, iv i144_11, rv b77, iv dj144_0, iv v145, iv v146, o_, o_, o_, o_, o_, o_, o_, o_, o_, o_, o_, o_] [(.int dj144_0), (.int i144_11), (.ref b54)])) rfl rfl (hb hby (eD D15_7_ 14 rfl))
        have F220 := F206.other W219 (hS2 _ sz54)
        have F221 := F207.wr W219
        have F222 := F208.wr W219 gb54
        have F223 := F209.other W219 ne54_tt
        have F224 := F210.other W219 ni54_b6
        have F225 := F211.wr W219
        have F226 := F213.other W219 (Ne.symm ne65_b54)
        have F227 := F214.other W219 ⟨ne77_b54, nq90_b54⟩
        have F228 := F215.other W219 (own_nbx mb144.1 ni54_b6)
        have F229 := F216.other W219 ne54_b29
        have F230 := F217.other W219 ne54_b36
        have F231 := F218.other W219 ne54_b11
        have F232 := P205.other W219 ne54_b44
        have P219 := PA.set F212 in219 W219 rfl ex219
        have K219 := K205.wr W219 (Or.inr sz54)
        have N219 := Fr.snoc X219 N205 gb54
        have Zs219 := ozw W219 Zs205
        refine os st219 ?_
        refine gA X219 hx hby (eD D15_7_ 15 rfl) rfl rfl ?_
        refine gI X219 hx hby (eD D15_8_ 0 rfl) rfl ?_
        refine os (fun _ z => XS.iinc X219.here hx rfl (hb hby (eD D15_8_ 1 rfl)) rfl (l' := #[rv tt, rv net, iv 5, iv 8, rv b6, rv b11, rv b29, rv b36, rv b44, rv b54, rv b65, iv (i144_11 + 1), rv b77, iv dj144_0, iv v145, iv v146, o_, o_, o_, o_, o_, o_, o_, o_, o_, o_, o_, o_]) rfl z) ?_
        show OG p e below Φ T219 m 249 #[rv tt, rv net, iv 5, iv 8, rv b6, rv b11, rv b29, rv b36, rv b44, rv b54, rv b65, iv (i144_11 + 1), rv b77, iv dj144_0, iv v145, iv v146, o_, o_, o_, o_, o_, o_, o_, o_, o_, o_, o_, o_] [(.int i144_11), (.ref b65)]
        refine gI X219 hx hby (eD D15_8_ 2 rfl) rfl ?_
        replace hK := kst_some hK
        obtain ⟨x233, in233, ex233, hK⟩ := hK
        obtain ⟨cl233, Aq233, iq233, -⟩ := PA.get F226 in233 rfl
        obtain ⟨T233, h233, X233, e233, W233, st233⟩ := stI X219 hx hZ e219 Aq233 iq233 (g := (mkF m 251 #[rv tt, rv net, iv 5, iv 8, rv b6, rv b11, rv b29, rv b36, rv b44, rv b54, rv b65, iv (i144_11 + 1), rv b77, iv dj144_0, iv v145, iv v146, o_, o_, o_, o_, o_, o_, o_, o_, o_, o_, o_, o_] [(.int v146), (.int i144_11), (.ref b65)])) rfl rfl (hb hby (eD D15_8_ 3 rfl))
        have F234 := F220.other W233 (hS2 _ sz65)
        have F235 := F221.wr W233
        have F236 := F222.wr W233 gb65
        have F237 := F223.other W233 ne65_tt
        have F238 := F224.other W233 ni65_b6
        have F239 := F225.wr W233
        have F240 := F227.other W233 ⟨ne77_b65, nq90_b65⟩
        have F241 := F228.other W233 (own_nbx mb144.1 ni65_b6)
        have F242 := F229.other W233 ne65_b29
        have F243 := F230.other W233 ne65_b36
        have F244 := F231.other W233 ne65_b11
        have F245 := F232.other W233 ne65_b44
        have F246 := P219.other W233 ne65_b54
        have P233 := PA.set F226 in233 W233 rfl ex233
        have K233 := K219.wr W233 (Or.inr sz65)
        have N233 := Fr.snoc X233 N219 gb65
        have Zs233 := ozw W233 Zs219
        refine os st233 ?_
        refine gI X233 hx hby (eD D15_8_ 4 rfl) rfl ?_
        refine gIn X233 hx hby (eD D15_8_ 5 rfl) rfl ?_
        by_cases hc247 : v146 < (5 : Int32)
        replace hK := kif_t hc247 hK
        refine gCn X233 hx hby (eD D15_8_ 6 rfl) (XT.ii_ge_f hc247) ?_
        refine gA X233 hx hby (eD D15_8_ 7 rfl) rfl rfl ?_
        refine gI X233 hx hby (eD D15_8_ 8 rfl) rfl ?_
        replace hK := kld_some hK
        obtain ⟨v248, in248, ev248, hK⟩ := hK
        obtain ⟨cl248, Aq248, iq248, at248⟩ := PA.get F244 in248 ev248
        refine os (fun _ z => X233.iaload hx (by rw [e233]; exact Aq248.1) (oia hZ Aq248.2.1) Aq248.2.2 iq248 at248 (g := (mkF m 262 #[rv tt, rv net, iv 5, iv 8, rv b6, rv b11, rv b29, rv b36, rv b44, rv b54, rv b65, iv (i144_11 + 1), rv b77, iv dj144_0, iv v145, iv v146, o_, o_, o_, o_, o_, o_, o_, o_, o_, o_, o_, o_] [(.int v146), (.ref b11)])) rfl rfl (hb hby (eD D15_8_ 9 rfl)) _ z) ?_
        refine gIc (x := 1) X233 hx hby (eD D15_8_ 10 rfl) rfl ?_
        by_cases hc249 : v248 = (1 : Int32)
        replace hK := kif_t hc249 hK
        refine gCn X233 hx hby (eD D15_8_ 11 rfl) (XT.ii_ne_f hc249) ?_
        refine gA X233 hx hby (eD D15_8_ 12 rfl) rfl rfl ?_
        refine gI X233 hx hby (eD D15_8_ 13 rfl) rfl ?_
        replace hK := kas_some hK
        obtain ⟨as251, hK⟩ := hK
        obtain ⟨_, T250, L250, X250, hQ250, st250⟩ := own_callSt X233 hx hZ hown (ow310 hw) (ow311 hw) (ow312 hw) (ow313 hw) (by decide) (rvo l Z a0 hw [] v146 ac cc h233 n0 Zs233 (S_hi.ext F236.2) (S_ca.ext F236.2) F236.2 B_x as251.1 as251.2) e233 (W := 1) (by decide) (pc := 271) (ls := #[rv tt, rv net, iv 5, iv 8, rv b6, rv b11, rv b29, rv b36, rv b44, rv b54, rv b65, iv (i144_11 + 1), rv b77, iv dj144_0, iv v145, iv v146, o_, o_, o_, o_, o_, o_, o_, o_, o_, o_, o_, o_]) (stk := [(.int v146), (.ref b77)]) (by rw [hml]; rfl) (argsL := [(.int v146)]) (rest := [(.ref b77)]) (lenOf pd20 rfl) rfl rfl (Nat.le_of_eq rfl) (hb hby (eD D15_8_ 14 rfl))
        obtain ⟨bx250, rfl, Nq250, e250, Bv250⟩ := hQ250
        have N250 := Fr.app N233 Nq250
        refine os st250 ?_
        replace hK := kas_some hK
        obtain ⟨as253, hK⟩ := hK
        obtain ⟨qE254, qe254, qn254, kd254, -, qo254, qh254, qt254, qV254⟩ := DQ.new F240 as253
        obtain ⟨_, T252, L252, X252, hQ252, st252⟩ := own_callVi X250 hx hZ hown (ow317 hw) (ow318 hw) (notFace_of_selects (args := #[]) (mvT hZ (ow320 hw))) (ow320 hw) (ow319 hw) (ow242 hw) (ow321 hw) (by decide) (rda l Z a0 hw [] b77 d90 _ bx250 v146 h233 n0 Zs233 qE254 qe254 qh254 qt254 qn254 qo254 qV254 Bv250 F236.2 gb77 gq90) e250 (W := 0) (by decide) F240.1 (pc := 274) (ls := #[rv tt, rv net, iv 5, iv 8, rv b6, rv b11, rv b29, rv b36, rv b44, rv b54, rv b65, iv (i144_11 + 1), rv b77, iv dj144_0, iv v145, iv v146, o_, o_, o_, o_, o_, o_, o_, o_, o_, o_, o_, o_]) (stk := [(.ref bx250), (.ref b77)]) (by rw [hml]; rfl) (argsL := [(.ref bx250)]) (rest := []) (lenOf pd7 rfl) rfl rfl (Nat.le_of_eq rfl) (hb hby (eD D15_8_ 15 rfl))
        obtain ⟨rfl, Nq252, Kq252, Eq252, De252, Dh252, Dt252, Vq252⟩ := hQ252
        have N252 := Fr.app N250 Nq252
        have Zs252 := Nat.le_trans Zs233 Kq252.1
        have F255 := F234.keep Kq252 (allS (hS2 _ sz77) (allS (hS2 _ sq90) all0))
        have F256 := F235.keep Kq252
        have F257 := F236.keep Kq252 (allS gb77 (allS gq90 all0))
        have F258 := F237.keep Kq252 (ninS ne77_tt (ninS nq90_tt nin0))
        have F259 := F238.keep Kq252 (allS ni77_b6 (allS ni90_b6 all0))
        have F260 := F239.keep Kq252
        have F261 := F241.keep Kq252 (ninS (own_nbx mb144.1 ni77_b6) (ninS (own_nbx mb144.1 ni90_b6) nin0))
        have F262 := F242.keep Kq252 (ninS ne77_b29 (ninS nq90_b29 nin0))
        have F263 := F243.keep Kq252 (ninS ne77_b36 (ninS nq90_b36 nin0))
        have F264 := F244.keep Kq252 (ninS ne77_b11 (ninS nq90_b11 nin0))
        have F265 := F245.keep Kq252 (ninS ne77_b44 (ninS nq90_b44 nin0))
        have F266 := F246.keep Kq252 (ninS ne77_b54 (ninS nq90_b54 nin0))
        have F267 := P233.keep Kq252 (ninS ne77_b65 (ninS nq90_b65 nin0))
        have K252 := K233.trans Kq252 (allS (Or.inr sz77) (allS (Or.inr sq90) all0))
        have DQ252 : DQ Z T252.heap b77 d90 1 v146 := ⟨Eq252, De252, qn254, _, _, qo254, Or.inr (Or.inl ⟨rfl, Dh252, Dt252, Bv250, Vq252⟩)⟩
        refine os st252 ?_
        refine os (fun _ z => XT.pop X252.here hx rfl (hb hby (eD D15_9_ 0 rfl)) rfl rfl z) ?_
        refine gGo (pc := 278) (pc' := 144) X252 hx hby (eD D15_9_ 1 rfl) (by decide) (by decide) ?_
        show OG p e below Φ T252 m 144 #[rv tt, rv net, iv 5, iv 8, rv b6, rv b11, rv b29, rv b36, rv b44, rv b54, rv b65, iv (i144_11 + 1), rv b77, iv dj144_0, iv v145, iv v146, o_, o_, o_, o_, o_, o_, o_, o_, o_, o_, o_, o_] []
        exact ih144 ((i144_11 + 1)) x191 x147 x161 x205 x219 x233 ((1 : Int32)) v146 (iv dj144_0) (Or.inr ⟨_, rfl, rfl⟩) (iv v145) (Or.inr ⟨_, rfl, rfl⟩) (iv v146) (Or.inr ⟨_, rfl, rfl⟩) _ _ _ X252 rfl N252 Zs252 K252 F255 F256 F257 F258 F259 F264 F262 F263 F260 F265 F266 F267 DQ252 hK
        replace hK := kif_f hc249 hK
        refine gCy (pc := 264) (pc' := 278) X233 hx hby (eD D15_8_ 11 rfl) (XT.ii_ne_t hc249) (by decide) (by decide) ?_
        refine gGo (pc := 278) (pc' := 144) X233 hx hby (eD D15_9_ 1 rfl) (by decide) (by decide) ?_
        show OG p e below Φ T233 m 144 #[rv tt, rv net, iv 5, iv 8, rv b6, rv b11, rv b29, rv b36, rv b44, rv b54, rv b65, iv (i144_11 + 1), rv b77, iv dj144_0, iv v145, iv v146, o_, o_, o_, o_, o_, o_, o_, o_, o_, o_, o_, o_] []
        exact ih144 ((i144_11 + 1)) x191 x147 x161 x205 x219 x233 ((2 : Int32)) dj144_0 (iv dj144_0) (Or.inr ⟨_, rfl, rfl⟩) (iv v145) (Or.inr ⟨_, rfl, rfl⟩) (iv v146) (Or.inr ⟨_, rfl, rfl⟩) _ _ _ X233 e233 N233 Zs233 K233 F234 F235 F236 F237 F238 F244 F242 F243 F239 F245 F246 P233 F240 hK
        replace hK := kif_f hc247 hK
        refine gCy (pc := 255) (pc' := 278) X233 hx hby (eD D15_8_ 6 rfl) (XT.ii_ge_t hc247) (by decide) (by decide) ?_
        refine gGo (pc := 278) (pc' := 144) X233 hx hby (eD D15_9_ 1 rfl) (by decide) (by decide) ?_
        show OG p e below Φ T233 m 144 #[rv tt, rv net, iv 5, iv 8, rv b6, rv b11, rv b29, rv b36, rv b44, rv b54, rv b65, iv (i144_11 + 1), rv b77, iv dj144_0, iv v145, iv v146, o_, o_, o_, o_, o_, o_, o_, o_, o_, o_, o_, o_] []
        exact ih144 ((i144_11 + 1)) x191 x147 x161 x205 x219 x233 ((2 : Int32)) dj144_0 (iv dj144_0) (Or.inr ⟨_, rfl, rfl⟩) (iv v145) (Or.inr ⟨_, rfl, rfl⟩) (iv v146) (Or.inr ⟨_, rfl, rfl⟩) _ _ _ X233 e233 N233 Zs233 K233 F234 F235 F236 F237 F238 F244 F242 F243 F239 F245 F246 P233 F240 hK
        replace hK := kif_f hc124 hK
        refine gFy (pc := 149) (pc' := 281) X123 hx hby (eD D15_4_ 11 rfl) (XT.i0_ne_t hc124) (by decide) (by decide) ?_
        refine gAn X123 hx hby (eD D15_9_ 2 rfl) rfl rfl ?_
        refine gA X123 hx hby (eD D15_9_ 3 rfl) rfl rfl ?_
        refine gI X123 hx hby (eD D15_9_ 4 rfl) rfl ?_
        replace hK := kbd_some hK
        obtain ⟨v268, kb268, hK⟩ := hK
        obtain ⟨_, T268, L268, X268, hQ268, st268⟩ := own_callSt X123 hx hZ hown (ow260 hw) (ow261 hw) (ow216 hw) (ow262 hw) (by decide) (rcp l Z a0 hw [] b44 z144_3 i144_11 v268 hj144 n0 Zj144 fj144_9 kb268) e123 (W := 1) (by decide) (pc := 286) (ls := #[rv tt, rv net, iv 5, iv 8, rv b6, rv b11, rv b29, rv b36, rv b44, rv b54, rv b65, iv i144_11, rv b77, s144_13, s144_14, s144_15, o_, o_, o_, o_, o_, o_, o_, o_, o_, o_, o_, o_]) (stk := [(.int i144_11), (.ref b44), (.ref tt)]) (by rw [hml]; rfl) (argsL := [(.ref b44), (.int i144_11)]) (rest := [(.ref tt)]) (lenOf pd23 rfl) rfl rfl (Nat.le_of_eq rfl) (hb hby (eD D15_9_ 5 rfl))
        obtain ⟨b268, rfl, Nq268, Kq268, Pq268, hz268⟩ := hQ268
        have ni268_b6 := fj144_4.freshle hz268
        have ni268_b77 := fj144_12.freshle hz268
        have nq268_b11 := Nat.ne_of_lt (Nat.lt_of_lt_of_le fj144_5.lt hz268)
        have nq268_b29 := Nat.ne_of_lt (Nat.lt_of_lt_of_le fj144_6.lt hz268)
        have nq268_b36 := Nat.ne_of_lt (Nat.lt_of_lt_of_le fj144_7.lt hz268)
        have nq268_b44 := Nat.ne_of_lt (Nat.lt_of_lt_of_le fj144_9.lt hz268)
        have nq268_b54 := Nat.ne_of_lt (Nat.lt_of_lt_of_le fj144_10.lt hz268)
        have nq268_b6 := Nat.ne_of_lt (Nat.lt_of_lt_of_le fj144_4.lt hz268)
        have nq268_b65 := Nat.ne_of_lt (Nat.lt_of_lt_of_le fj144_11.lt hz268)
        have nq268_b77 := Nat.ne_of_lt (Nat.lt_of_lt_of_le fj144_12.lt hz268)
        have nq268_tt := Nat.ne_of_lt (Nat.lt_of_lt_of_le fj144_1.lt hz268)
        have gq268 := Nat.le_trans Zj144 hz268
        have sq268 := Nat.le_trans Kj144.1 hz268
        have N268 := Fr.app N123 Nq268
        have Zs268 := Nat.le_trans Zj144 Kq268.1
        have F269 := fj144_0.keep Kq268 all0
        have F270 := fj144_1.keep Kq268
        have F271 := fj144_2.keep Kq268 all0
        have F272 := fj144_3.keep Kq268 nin0
        have F273 := fj144_4.keep Kq268 all0
        have F274 := fj144_5.keep Kq268 nin0
        have F275 := fj144_6.keep Kq268 nin0
        have F276 := fj144_7.keep Kq268 nin0
        have F277 := fj144_8.keep Kq268
        have F278 := fj144_9.keep Kq268 nin0
        have F279 := fj144_10.keep Kq268 nin0
        have F280 := fj144_11.keep Kq268 nin0
        have F281 := fj144_12.keep Kq268 all0
        have K268 := Kj144.trans Kq268 all0
        refine os st268 ?_
        obtain ⟨u282_0, u282_1, u282_2, u282_3, u282_4, u282_5, u282_6, u282_7, u282_8, u282_9⟩ := id F272
        obtain ⟨T283, h283, X283, e283, W283, st283⟩ := putF X268 hx hZ hown (host := "") (Or.inl (ow270 hw)) Via.refl rfl u282_0 F270 (Or.inr ⟨(ow271 hw), rfl, hnm⟩) (ow92 hw) (ty := (.array .int)) (by decide) rfl rfl (g := (mkF m 289 #[rv tt, rv net, iv 5, iv 8, rv b6, rv b11, rv b29, rv b36, rv b44, rv b54, rv b65, iv i144_11, rv b77, s144_13, s144_14, s144_15, o_, o_, o_, o_, o_, o_, o_, o_, o_, o_, o_, o_] [(.ref b268), (.ref tt)])) rfl rfl (hb hby (eD D15_9_ 6 rfl))
        have F284 := F269.other W283 hS1
        have F285 := F270.wr W283
        have F286 := F271.wr W283 g_t
        have F287 := F273.other W283 nit6
        have F288 := F274.other W283 (Ne.symm ne11_tt)
        have F289 := F275.other W283 (Ne.symm ne29_tt)
        have F290 := F276.other W283 (Ne.symm ne36_tt)
        have F291 := F277.wr W283
        have F292 := F278.other W283 (Ne.symm ne44_tt)
        have F293 := F279.other W283 (Ne.symm ne54_tt)
        have F294 := F280.other W283 (Ne.symm ne65_tt)
        have F295 := F281.other W283 ⟨ne77_tt, nq90_tt⟩
        have F296 := Pq268.other W283 (Ne.symm nq268_tt)
        have F297 := u282_0.same W283
        have F298 := u282_1.other W283 (Or.inr (slot_ne (Or.inr (ow273 hw)) (Or.inr (ow271 hw)) (by decide) (t := (.array .int)) (t' := (.array .int)) (by decide) (by decide)))
        have F299 := u282_2.other W283 (Or.inr (slot_ne (Or.inr (ow275 hw)) (Or.inr (ow271 hw)) (by decide) (t := (.array .int)) (t' := (.array .int)) (by decide) (by decide)))
        have F300 := u282_3.other W283 (Or.inr (slot_ne (Or.inr (ow296 hw)) (Or.inr (ow271 hw)) (by decide) (t := (.array .int)) (t' := (.array .int)) (by decide) (by decide)))
        have F301 := u282_4.other W283 (Or.inr (slot_ne (Or.inr (ow298 hw)) (Or.inr (ow271 hw)) (by decide) (t := (.array .int)) (t' := (.array .int)) (by decide) (by decide)))
        have F302 := u282_5.other W283 (Or.inr (slot_ne (Or.inr (ow300 hw)) (Or.inr (ow271 hw)) (by decide) (t := (.array .int)) (t' := (.array .int)) (by decide) (by decide)))
        have F303 := u282_6.other W283 (Or.inr (slot_ne (Or.inr (ow302 hw)) (Or.inr (ow271 hw)) (by decide) (t := (.array .int)) (t' := (.array .int)) (by decide) (by decide)))
        have F304 := u282_7.other W283 (Or.inr (slot_ne (Or.inr (ow277 hw)) (Or.inr (ow271 hw)) (by decide) (t := (.array .int)) (t' := (.array .int)) (by decide) (by decide)))
        have F305 := u282_8.other W283 (Or.inr (slot_ne (Or.inr (ow279 hw)) (Or.inr (ow271 hw)) (by decide) (t := (.array .int)) (t' := (.array .int)) (by decide) (by decide)))
        have F306 := u282_9.other W283 (Or.inr (slot_ne (Or.inr (ow304 hw)) (Or.inr (ow271 hw)) (by decide) (t := .int) (t' := (.array .int)) (by decide) (by decide)))
        have K283 := K268.wr W283 (Or.inl (List.mem_of_getElem? (i := 0) rfl))
        have N283 := Fr.snoc X283 N268 g_t
        have Zs283 := ozw W283 Zs268
        refine os st283 ?_
        have FS282 : FS Z h283 tt (.ref b268) .null .null .null .null .null .null .null .null (.int (0 : Int32)) := ⟨F297, F298, F299, F300, F301, F302, F303, F304, F305, F306⟩
        show OG p e below Φ T283 m 292 #[rv tt, rv net, iv 5, iv 8, rv b6, rv b11, rv b29, rv b36, rv b44, rv b54, rv b65, iv i144_11, rv b77, s144_13, s144_14, s144_15, o_, o_, o_, o_, o_, o_, o_, o_, o_, o_, o_, o_] []
        refine gAn X283 hx hby (eD D15_9_ 7 rfl) rfl rfl ?_
        refine gA X283 hx hby (eD D15_9_ 8 rfl) rfl rfl ?_
        refine gI X283 hx hby (eD D15_9_ 9 rfl) rfl ?_
        replace hK := kbd_some hK
        obtain ⟨v307, kb307, hK⟩ := hK
        obtain ⟨_, T307, L307, X307, hQ307, st307⟩ := own_callSt X283 hx hZ hown (ow260 hw) (ow261 hw) (ow216 hw) (ow262 hw) (by decide) (rcp l Z a0 hw [] b54 z144_4 i144_11 v307 h283 n0 Zs283 F293 kb307) e283 (W := 1) (by decide) (pc := 297) (ls := #[rv tt, rv net, iv 5, iv 8, rv b6, rv b11, rv b29, rv b36, rv b44, rv b54, rv b65, iv i144_11, rv b77, s144_13, s144_14, s144_15, o_, o_, o_, o_, o_, o_, o_, o_, o_, o_, o_, o_]) (stk := [(.int i144_11), (.ref b54), (.ref tt)]) (by rw [hml]; rfl) (argsL := [(.ref b54), (.int i144_11)]) (rest := [(.ref tt)]) (lenOf pd23 rfl) rfl rfl (Nat.le_of_eq rfl) (hb hby (eD D15_9_ 10 rfl))
        obtain ⟨b307, rfl, Nq307, Kq307, Pq307, hz307⟩ := hQ307
        have ni307_b6 := F287.freshle hz307
        have ni307_b77 := F295.freshle hz307
        have nq307_b11 := Nat.ne_of_lt (Nat.lt_of_lt_of_le F288.lt hz307)
        have nq307_b29 := Nat.ne_of_lt (Nat.lt_of_lt_of_le F289.lt hz307)
        have nq307_b36 := Nat.ne_of_lt (Nat.lt_of_lt_of_le F290.lt hz307)
        have nq307_b44 := Nat.ne_of_lt (Nat.lt_of_lt_of_le F292.lt hz307)
        have nq307_b54 := Nat.ne_of_lt (Nat.lt_of_lt_of_le F293.lt hz307)
        have nq307_b6 := Nat.ne_of_lt (Nat.lt_of_lt_of_le F287.lt hz307)
        have nq307_b65 := Nat.ne_of_lt (Nat.lt_of_lt_of_le F294.lt hz307)
        have nq307_b77 := Nat.ne_of_lt (Nat.lt_of_lt_of_le F295.lt hz307)
        have nq307_tt := Nat.ne_of_lt (Nat.lt_of_lt_of_le F285.lt hz307)
        have gq307 := Nat.le_trans Zs283 hz307
        have sq307 := Nat.le_trans K283.1 hz307
        have N307 := Fr.app N283 Nq307
        have Zs307 := Nat.le_trans Zs283 Kq307.1
        have F308 := F284.keep Kq307 all0
        have F309 := F285.keep Kq307
        have F310 := F286.keep Kq307 all0
        have F311 := F287.keep Kq307 all0
        have F312 := F288.keep Kq307 nin0
        have F313 := F289.keep Kq307 nin0
        have F314 := F290.keep Kq307 nin0
        have F315 := F291.keep Kq307
        have F316 := F292.keep Kq307 nin0
        have F317 := F293.keep Kq307 nin0
        have F318 := F294.keep Kq307 nin0
        have F319 := F295.keep Kq307 all0
        have F320 := FS282.keep Kq307 nin0
        have K307 := K283.trans Kq307 all0
        refine os st307 ?_
        obtain ⟨u321_0, u321_1, u321_2, u321_3, u321_4, u321_5, u321_6, u321_7, u321_8, u321_9⟩ := id F320
        obtain ⟨T322, h322, X322, e322, W322, st322⟩ := putF X307 hx hZ hown (host := "") (Or.inl (ow272 hw)) Via.refl rfl u321_1 F309 (Or.inr ⟨(ow273 hw), rfl, hnm⟩) (ow92 hw) (ty := (.array .int)) (by decide) rfl rfl (g := (mkF m 300 #[rv tt, rv net, iv 5, iv 8, rv b6, rv b11, rv b29, rv b36, rv b44, rv b54, rv b65, iv i144_11, rv b77, s144_13, s144_14, s144_15, o_, o_, o_, o_, o_, o_, o_, o_, o_, o_, o_, o_] [(.ref b307), (.ref tt)])) rfl rfl (hb hby (eD D15_9_ 11 rfl))
        have F323 := F308.other W322 hS1
        have F324 := F309.wr W322
        have F325 := F310.wr W322 g_t
        have F326 := F311.other W322 nit6
        have F327 := F312.other W322 (Ne.symm ne11_tt)
        have F328 := F313.other W322 (Ne.symm ne29_tt)
        have F329 := F314.other W322 (Ne.symm ne36_tt)
        have F330 := F315.wr W322
        have F331 := F316.other W322 (Ne.symm ne44_tt)
        have F332 := F317.other W322 (Ne.symm ne54_tt)
        have F333 := F318.other W322 (Ne.symm ne65_tt)
        have F334 := F319.other W322 ⟨ne77_tt, nq90_tt⟩
        have F335 := Pq307.other W322 (Ne.symm nq307_tt)
        have F336 := u321_0.other W322 (Or.inr (slot_ne (Or.inr (ow271 hw)) (Or.inr (ow273 hw)) (by decide) (t := (.array .int)) (t' := (.array .int)) (by decide) (by decide)))
        have F337 := u321_1.same W322
        have F338 := u321_2.other W322 (Or.inr (slot_ne (Or.inr (ow275 hw)) (Or.inr (ow273 hw)) (by decide) (t := (.array .int)) (t' := (.array .int)) (by decide) (by decide)))
        have F339 := u321_3.other W322 (Or.inr (slot_ne (Or.inr (ow296 hw)) (Or.inr (ow273 hw)) (by decide) (t := (.array .int)) (t' := (.array .int)) (by decide) (by decide)))
        have F340 := u321_4.other W322 (Or.inr (slot_ne (Or.inr (ow298 hw)) (Or.inr (ow273 hw)) (by decide) (t := (.array .int)) (t' := (.array .int)) (by decide) (by decide)))
        have F341 := u321_5.other W322 (Or.inr (slot_ne (Or.inr (ow300 hw)) (Or.inr (ow273 hw)) (by decide) (t := (.array .int)) (t' := (.array .int)) (by decide) (by decide)))
        have F342 := u321_6.other W322 (Or.inr (slot_ne (Or.inr (ow302 hw)) (Or.inr (ow273 hw)) (by decide) (t := (.array .int)) (t' := (.array .int)) (by decide) (by decide)))
        have F343 := u321_7.other W322 (Or.inr (slot_ne (Or.inr (ow277 hw)) (Or.inr (ow273 hw)) (by decide) (t := (.array .int)) (t' := (.array .int)) (by decide) (by decide)))
        have F344 := u321_8.other W322 (Or.inr (slot_ne (Or.inr (ow279 hw)) (Or.inr (ow273 hw)) (by decide) (t := (.array .int)) (t' := (.array .int)) (by decide) (by decide)))
        have F345 := u321_9.other W322 (Or.inr (slot_ne (Or.inr (ow304 hw)) (Or.inr (ow273 hw)) (by decide) (t := .int) (t' := (.array .int)) (by decide) (by decide)))
        have K322 := K307.wr W322 (Or.inl (List.mem_of_getElem? (i := 0) rfl))
        have N322 := Fr.snoc X322 N307 g_t
        have Zs322 := ozw W322 Zs307
        refine os st322 ?_
        have FS321 : FS Z h322 tt (.ref b268) (.ref b307) .null .null .null .null .null .null .null (.int (0 : Int32)) := ⟨F336, F337, F338, F339, F340, F341, F342, F343, F344, F345⟩
        show OG p e below Φ T322 m 303 #[rv tt, rv net, iv 5, iv 8, rv b6, rv b11, rv b29, rv b36, rv b44, rv b54, rv b65, iv i144_11, rv b77, s144_13, s144_14, s144_15, o_, o_, o_, o_, o_, o_, o_, o_, o_, o_, o_, o_] []
        refine gAn X322 hx hby (eD D15_9_ 12 rfl) rfl rfl ?_
        refine gA X322 hx hby (eD D15_9_ 13 rfl) rfl rfl ?_
        refine gI X322 hx hby (eD D15_9_ 14 rfl) rfl ?_
        replace hK := kbd_some hK
        obtain ⟨v346, kb346, hK⟩ := hK
        obtain ⟨_, T346, L346, X346, hQ346, st346⟩ := own_callSt X322 hx hZ hown (ow260 hw) (ow261 hw) (ow216 hw) (ow262 hw) (by decide) (rcp l Z a0 hw [] b65 z144_5 i144_11 v346 h322 n0 Zs322 F333 kb346) e322 (W := 1) (by decide) (pc := 308) (ls := #[rv tt, rv net, iv 5, iv 8, rv b6, rv b11, rv b29, rv b36, rv b44, rv b54, rv b65, iv i144_11, rv b77, s144_13, s144_14, s144_15, o_, o_, o_, o_, o_, o_, o_, o_, o_, o_, o_, o_]) (stk := [(.int i144_11), (.ref b65), (.ref tt)]) (by rw [hml]; rfl) (argsL := [(.ref b65), (.int i144_11)]) (rest := [(.ref tt)]) (lenOf pd23 rfl) rfl rfl (Nat.le_of_eq rfl) (hb hby (eD D15_9_ 15 rfl))
        obtain ⟨b346, rfl, Nq346, Kq346, Pq346, hz346⟩ := hQ346
        have ni346_b6 := F326.freshle hz346
        have ni346_b77 := F334.freshle hz346
        have nq346_b11 := Nat.ne_of_lt (Nat.lt_of_lt_of_le F327.lt hz346)
        have nq346_b29 := Nat.ne_of_lt (Nat.lt_of_lt_of_le F328.lt hz346)
        have nq346_b36 := Nat.ne_of_lt (Nat.lt_of_lt_of_le F329.lt hz346)
        have nq346_b44 := Nat.ne_of_lt (Nat.lt_of_lt_of_le F331.lt hz346)
        have nq346_b54 := Nat.ne_of_lt (Nat.lt_of_lt_of_le F332.lt hz346)
        have nq346_b6 := Nat.ne_of_lt (Nat.lt_of_lt_of_le F326.lt hz346)
        have nq346_b65 := Nat.ne_of_lt (Nat.lt_of_lt_of_le F333.lt hz346)
        have nq346_b77 := Nat.ne_of_lt (Nat.lt_of_lt_of_le F334.lt hz346)
        have nq346_tt := Nat.ne_of_lt (Nat.lt_of_lt_of_le F324.lt hz346)
        have gq346 := Nat.le_trans Zs322 hz346
        have sq346 := Nat.le_trans K322.1 hz346
        have N346 := Fr.app N322 Nq346
        have Zs346 := Nat.le_trans Zs322 Kq346.1
        have F347 := F323.keep Kq346 all0
        have F348 := F324.keep Kq346
        have F349 := F325.keep Kq346 all0
        have F350 := F326.keep Kq346 all0
        have F351 := F327.keep Kq346 nin0
        have F352 := F328.keep Kq346 nin0
        have F353 := F329.keep Kq346 nin0
        have F354 := F330.keep Kq346
        have F355 := F331.keep Kq346 nin0
        have F356 := F332.keep Kq346 nin0
        have F357 := F333.keep Kq346 nin0
        have F358 := F334.keep Kq346 all0
        have F359 := FS321.keep Kq346 nin0
        have K346 := K322.trans Kq346 all0
        refine os st346 ?_
        obtain ⟨u360_0, u360_1, u360_2, u360_3, u360_4, u360_5, u360_6, u360_7, u360_8, u360_9⟩ := id F359
        obtain ⟨T361, h361, X361, e361, W361, st361⟩ := putF X346 hx hZ hown (host := "") (Or.inl (ow274 hw)) Via.refl rfl u360_2 F348 (Or.inr ⟨(ow275 hw), rfl, hnm⟩) (ow92 hw) (ty := (.array .int)) (by decide) rfl rfl (g := (mkF m 311 #[rv tt, rv net, iv 5, iv 8, rv b6, rv b11, rv b29, rv b36, rv b44, rv b54, rv b65, iv i144_11, rv b77, s144_13, s144_14, s144_15, o_, o_, o_, o_, o_, o_, o_, o_, o_, o_, o_, o_] [(.ref b346), (.ref tt)])) rfl rfl (hb hby (eD D15_10_ 0 rfl))
        have F362 := F347.other W361 hS1
        have F363 := F348.wr W361
        have F364 := F349.wr W361 g_t
        have F365 := F350.other W361 nit6
        have F366 := F351.other W361 (Ne.symm ne11_tt)
        have F367 := F352.other W361 (Ne.symm ne29_tt)
        have F368 := F353.other W361 (Ne.symm ne36_tt)
        have F369 := F354.wr W361
        have F370 := F355.other W361 (Ne.symm ne44_tt)
        have F371 := F356.other W361 (Ne.symm ne54_tt)
        have F372 := F357.other W361 (Ne.symm ne65_tt)
        have F373 := F358.other W361 ⟨ne77_tt, nq90_tt⟩
        have F374 := Pq346.other W361 (Ne.symm nq346_tt)
        have F375 := u360_0.other W361 (Or.inr (slot_ne (Or.inr (ow271 hw)) (Or.inr (ow275 hw)) (by decide) (t := (.array .int)) (t' := (.array .int)) (by decide) (by decide)))
        have F376 := u360_1.other W361 (Or.inr (slot_ne (Or.inr (ow273 hw)) (Or.inr (ow275 hw)) (by decide) (t := (.array .int)) (t' := (.array .int)) (by decide) (by decide)))
        have F377 := u360_2.same W361
        have F378 := u360_3.other W361 (Or.inr (slot_ne (Or.inr (ow296 hw)) (Or.inr (ow275 hw)) (by decide) (t := (.array .int)) (t' := (.array .int)) (by decide) (by decide)))
        have F379 := u360_4.other W361 (Or.inr (slot_ne (Or.inr (ow298 hw)) (Or.inr (ow275 hw)) (by decide) (t := (.array .int)) (t' := (.array .int)) (by decide) (by decide)))
        have F380 := u360_5.other W361 (Or.inr (slot_ne (Or.inr (ow300 hw)) (Or.inr (ow275 hw)) (by decide) (t := (.array .int)) (t' := (.array .int)) (by decide) (by decide)))
        have F381 := u360_6.other W361 (Or.inr (slot_ne (Or.inr (ow302 hw)) (Or.inr (ow275 hw)) (by decide) (t := (.array .int)) (t' := (.array .int)) (by decide) (by decide)))
        have F382 := u360_7.other W361 (Or.inr (slot_ne (Or.inr (ow277 hw)) (Or.inr (ow275 hw)) (by decide) (t := (.array .int)) (t' := (.array .int)) (by decide) (by decide)))
        have F383 := u360_8.other W361 (Or.inr (slot_ne (Or.inr (ow279 hw)) (Or.inr (ow275 hw)) (by decide) (t := (.array .int)) (t' := (.array .int)) (by decide) (by decide)))
        have F384 := u360_9.other W361 (Or.inr (slot_ne (Or.inr (ow304 hw)) (Or.inr (ow275 hw)) (by decide) (t := .int) (t' := (.array .int)) (by decide) (by decide)))
        have K361 := K346.wr W361 (Or.inl (List.mem_of_getElem? (i := 0) rfl))
        have N361 := Fr.snoc X361 N346 g_t
        have Zs361 := ozw W361 Zs346
        refine os st361 ?_
        have FS360 : FS Z h361 tt (.ref b268) (.ref b307) (.ref b346) .null .null .null .null .null .null (.int (0 : Int32)) := ⟨F375, F376, F377, F378, F379, F380, F381, F382, F383, F384⟩
        show OG p e below Φ T361 m 314 #[rv tt, rv net, iv 5, iv 8, rv b6, rv b11, rv b29, rv b36, rv b44, rv b54, rv b65, iv i144_11, rv b77, s144_13, s144_14, s144_15, o_, o_, o_, o_, o_, o_, o_, o_, o_, o_, o_, o_] []
        refine gAn X361 hx hby (eD D15_10_ 1 rfl) rfl rfl ?_
        refine gIn X361 hx hby (eD D15_10_ 2 rfl) rfl ?_
        obtain ⟨T385, h385, c385, X385, e385, E385, Ar385, st385⟩ := newP (aty := .int) X361 hx hZ (ow139 hw) e361 (g := (mkF m 316 #[rv tt, rv net, iv 5, iv 8, rv b6, rv b11, rv b29, rv b36, rv b44, rv b54, rv b65, iv i144_11, rv b77, s144_13, s144_14, s144_15, o_, o_, o_, o_, o_, o_, o_, o_, o_, o_, o_, o_] [(.int 8), (.ref tt)])) rfl (hb hby (eD D15_10_ 3 rfl)) rfl (by decide) (cap := 8) (by decide) (by decide) (by decide) (by decide)
        obtain ⟨b385, g385⟩ : ∃ z, z = h361.size := ⟨_, rfl⟩
        rw [← g385] at Ar385 st385
        have ni385_b6 := F365.freshle (Nat.le_of_eq g385.symm)
        have ne385_b11 := one_ g385 F366.lt
        have ne385_b29 := one_ g385 F367.lt
        have ne385_b36 := one_ g385 F368.lt
        have ne385_b6 := one_ g385 F365.lt
        have ne385_tt := one_ g385 F363.lt
        have F386 := F362.ext E385
        have F387 := F363.ext E385
        have F388 := F364.ext E385
        have F389 := F365.ext E385
        have F390 := F366.ext E385
        have F391 := F367.ext E385
        have F392 := F368.ext E385
        have F393 := F369.ext E385
        have F394 := FS360.ext E385
        have gb385 := Nat.le_trans Zs361 (Nat.le_of_eq g385.symm)
        have sz385 := Nat.le_trans K361.1 (Nat.le_of_eq g385.symm)
        have K385 := K361.ext E385
        have Zs385 := Nat.le_trans Zs361 E385.1
        have P385 : PA Z h385 b385 .int (List.replicate 8 (0 : Int32)) := PA.new Ar385 (by decide) rfl (by decide)
        refine os st385 ?_
        obtain ⟨u395_0, u395_1, u395_2, u395_3, u395_4, u395_5, u395_6, u395_7, u395_8, u395_9⟩ := id F394
        obtain ⟨T396, h396, X396, e396, W396, st396⟩ := putF X385 hx hZ hown (host := "") (Or.inl (ow276 hw)) Via.refl e385 u395_7 F387 (Or.inr ⟨(ow277 hw), rfl, hnm⟩) (ow92 hw) (ty := (.array .int)) (by decide) rfl rfl (g := (mkF m 318 #[rv tt, rv net, iv 5, iv 8, rv b6, rv b11, rv b29, rv b36, rv b44, rv b54, rv b65, iv i144_11, rv b77, s144_13, s144_14, s144_15, o_, o_, o_, o_, o_, o_, o_, o_, o_, o_, o_, o_] [(.ref b385), (.ref tt)])) rfl rfl (hb hby (eD D15_10_ 4 rfl))
        have F397 := F386.other W396 hS1
        have F398 := F387.wr W396
        have F399 := F388.wr W396 g_t
        have F400 := F389.other W396 nit6
        have F401 := F390.other W396 (Ne.symm ne11_tt)
        have F402 := F391.other W396 (Ne.symm ne29_tt)
        have F403 := F392.other W396 (Ne.symm ne36_tt)
        have F404 := F393.wr W396
        have F405 := P385.other W396 (Ne.symm ne385_tt)
        have F406 := u395_0.other W396 (Or.inr (slot_ne (Or.inr (ow271 hw)) (Or.inr (ow277 hw)) (by decide) (t := (.array .int)) (t' := (.array .int)) (by decide) (by decide)))
        have F407 := u395_1.other W396 (Or.inr (slot_ne (Or.inr (ow273 hw)) (Or.inr (ow277 hw)) (by decide) (t := (.array .int)) (t' := (.array .int)) (by decide) (by decide)))
        have F408 := u395_2.other W396 (Or.inr (slot_ne (Or.inr (ow275 hw)) (Or.inr (ow277 hw)) (by decide) (t := (.array .int)) (t' := (.array .int)) (by decide) (by decide)))
        have F409 := u395_3.other W396 (Or.inr (slot_ne (Or.inr (ow296 hw)) (Or.inr (ow277 hw)) (by decide) (t := (.array .int)) (t' := (.array .int)) (by decide) (by decide)))
        have F410 := u395_4.other W396 (Or.inr (slot_ne (Or.inr (ow298 hw)) (Or.inr (ow277 hw)) (by decide) (t := (.array .int)) (t' := (.array .int)) (by decide) (by decide)))
        have F411 := u395_5.other W396 (Or.inr (slot_ne (Or.inr (ow300 hw)) (Or.inr (ow277 hw)) (by decide) (t := (.array .int)) (t' := (.array .int)) (by decide) (by decide)))
        have F412 := u395_6.other W396 (Or.inr (slot_ne (Or.inr (ow302 hw)) (Or.inr (ow277 hw)) (by decide) (t := (.array .int)) (t' := (.array .int)) (by decide) (by decide)))
        have F413 := u395_7.same W396
        have F414 := u395_8.other W396 (Or.inr (slot_ne (Or.inr (ow279 hw)) (Or.inr (ow277 hw)) (by decide) (t := (.array .int)) (t' := (.array .int)) (by decide) (by decide)))
        have F415 := u395_9.other W396 (Or.inr (slot_ne (Or.inr (ow304 hw)) (Or.inr (ow277 hw)) (by decide) (t := .int) (t' := (.array .int)) (by decide) (by decide)))
        have K396 := K385.wr W396 (Or.inl (List.mem_of_getElem? (i := 0) rfl))
        have N396 := Fr.snoc X396 N361 g_t
        have Zs396 := ozw W396 Zs385
        refine os st396 ?_
        have FS395 : FS Z h396 tt (.ref b268) (.ref b307) (.ref b346) .null .null .null .null (.ref b385) .null (.int (0 : Int32)) := ⟨F406, F407, F408, F409, F410, F411, F412, F413, F414, F415⟩
        show OG p e below Φ T396 m 321 #[rv tt, rv net, iv 5, iv 8, rv b6, rv b11, rv b29, rv b36, rv b44, rv b54, rv b65, iv i144_11, rv b77, s144_13, s144_14, s144_15, o_, o_, o_, o_, o_, o_, o_, o_, o_, o_, o_, o_] []
        refine gAn X396 hx hby (eD D15_10_ 5 rfl) rfl rfl ?_
        obtain ⟨T416, X416, e416, st416⟩ := getF X396 hx hZ hown (host := "") (Or.inl (ow276 hw)) Via.refl e396 FS395.2.2.2.2.2.2.2.1 (g := (mkF m 322 #[rv tt, rv net, iv 5, iv 8, rv b6, rv b11, rv b29, rv b36, rv b44, rv b54, rv b65, iv i144_11, rv b77, s144_13, s144_14, s144_15, o_, o_, o_, o_, o_, o_, o_, o_, o_, o_, o_, o_] [(.ref tt)])) rfl rfl (hb hby (eD D15_10_ 6 rfl))
        refine os st416 ?_
        refine gIc (x := -1) X416 hx hby (eD D15_10_ 7 rfl) rfl ?_
        replace hK := kbd_some hK
        obtain ⟨v417, kb417, hK⟩ := hK
        obtain ⟨_, T417, L417, X417, hQ417, st417⟩ := own_callSt X416 hx hZ hown (ow214 hw) (ow215 hw) (ow216 hw) (ow217 hw) (by decide) (rfi l Z a0 hw [] b385 (List.replicate 8 (0 : Int32)) (-1 : Int32) v417 h396 n0 Zs396 F405 gb385 kb417) e416 (W := 0) (by decide) (pc := 326) (ls := #[rv tt, rv net, iv 5, iv 8, rv b6, rv b11, rv b29, rv b36, rv b44, rv b54, rv b65, iv i144_11, rv b77, s144_13, s144_14, s144_15, o_, o_, o_, o_, o_, o_, o_, o_, o_, o_, o_, o_]) (stk := [(.int (-1)), (.ref b385)]) (by rw [hml]; rfl) (argsL := [(.ref b385), (.int (-1))]) (rest := []) (lenOf pd15 rfl) rfl rfl (Nat.le_of_eq rfl) (hb hby (eD D15_10_ 8 rfl))
        obtain ⟨rfl, Nq417, Kq417, Pq417⟩ := hQ417
        have N417 := Fr.app N396 Nq417
        have Zs417 := Nat.le_trans Zs396 Kq417.1
        have F418 := F397.keep Kq417 (allS (hS2 _ sz385) all0)
        have F419 := F398.keep Kq417
        have F420 := F399.keep Kq417 (allS gb385 all0)
        have F421 := F400.keep Kq417 (allS ni385_b6 all0)
        have F422 := F401.keep Kq417 (ninS ne385_b11 nin0)
        have F423 := F402.keep Kq417 (ninS ne385_b29 nin0)
        have F424 := F403.keep Kq417 (ninS ne385_b36 nin0)
        have F425 := F404.keep Kq417
        have F426 := FS395.keep Kq417 (ninS ne385_tt nin0)
        have K417 := K396.trans Kq417 (allS (Or.inr sz385) all0)
        refine os st417 ?_
        refine gIc (x := 0) X417 hx hby (eD D15_10_ 9 rfl) rfl ?_
        refine gIs X417 hx hby (eD D15_10_ 10 rfl) (ls' := #[rv tt, rv net, iv 5, iv 8, rv b6, rv b11, rv b29, rv b36, rv b44, rv b54, rv b65, iv i144_11, rv b77, iv 0, s144_14, s144_15, o_, o_, o_, o_, o_, o_, o_, o_, o_, o_, o_, o_]) (XS.store1 rfl q144_13 rfl) ?_
        refine gIc (x := 0) X417 hx hby (eD D15_10_ 11 rfl) rfl ?_
        refine gIs X417 hx hby (eD D15_10_ 12 rfl) (ls' := #[rv tt, rv net, iv 5, iv 8, rv b6, rv b11, rv b29, rv b36, rv b44, rv b54, rv b65, iv i144_11, rv b77, iv 0, iv 0, s144_15, o_, o_, o_, o_, o_, o_, o_, o_, o_, o_, o_, o_]) (XS.store1 rfl q144_14 rfl) ?_
        show OG p e below Φ T417 m 335 #[rv tt, rv net, iv 5, iv 8, rv b6, rv b11, rv b29, rv b36, rv b44, rv b54, rv b65, iv i144_11, rv b77, iv 0, iv 0, s144_15, o_, o_, o_, o_, o_, o_, o_, o_, o_, o_, o_, o_] []
        have J335 : ∀ (nn335 : Nat) (i335_13 : Int32) (i335_14 : Int32) (z335_0 : List Int32) (Tj335 : State) (hj335 : Heap) (Lj335 : List Loc), Stand p l e ({ frames := 4, cells := 33, slots := 287, locals := 57 } : Room) s m #[(.ref tt), (.ref net)] below meth c Tj335 Lj335 23 184 → Tj335.heap = hj335 → Fr n0 Lj335 → n0 ≤ hj335.size → Keep h0 hj335 [tt] → NetP Z hj335 S net lj lr lp d mc ps → Exa Z hj335 tt s4_ → Old Z n0 hj335 → AA Z hj335 b6 bs6 r6 → PA Z hj335 b11 .int z144_0 → PA Z hj335 b29 .boolean z144_1 → PA Z hj335 b36 .boolean z144_2 → Exa Z hj335 b36 "[Z" → FS Z hj335 tt (.ref b268) (.ref b307) (.ref b346) .null .null .null .null (.ref b385) .null (.int (0 : Int32)) → PA Z hj335 b385 .int z335_0 → topK_k335 (own_n ps) (oeK ps) r6 z144_0 z144_1 z144_2  nn335 i335_13 i335_14 z335_0 = some t_ → OG p e below Φ Tj335 m 335 #[rv tt, rv net, iv (5 : Int32), iv (8 : Int32), rv b6, rv b11, rv b29, rv b36, rv b44, rv b54, rv b65, iv i144_11, rv b77, iv i335_13, iv i335_14, s144_15, o_, o_, o_, o_, o_, o_, o_, o_, o_, o_, o_, o_] [] := by
         clear hK
         clear ni11_b6 ne11_tt gb11 sz11 ne29_b11 ni36_b6 ne36_b11 ne36_b29 gb36 sz36 ni44_b6 ne44_b11 ne44_b29 ne44_b36 ne44_tt gb44 sz44 ni54_b6 ne54_b11 ne54_b29 ne54_b36 ne54_b44 ne54_tt gb54 sz54 ni65_b6 ne65_b11 ne65_b29 ne65_b36 ne65_b44 ne65_b54 ne65_tt gb65 sz65 ni77_b6 ne77_b11 ne77_b29 ne77_b36 ne77_b44 ne77_b54 ne77_b65 ne77_tt gb77 sz77 ni90_b6 nq90_b11 nq90_b29 nq90_b36 nq90_b44 nq90_b54 nq90_b65 nq90_tt gq90 sq90 Xj144 ej144 Nj144 Zj144 Kj144 fj144_0 fj144_1 fj144_2 fj144_3 fj144_4 fj144_5 fj144_6 fj144_7 fj144_8 fj144_9 fj144_10 fj144_11 fj144_12 X123 st123 Nq123 e123 N123 kb268 X268 st268 Nq268 Kq268 Pq268 hz268 ni268_b6 ni268_b77 nq268_b11 nq268_b29 nq268_b36 nq268_b44 nq268_b54 nq268_b6 nq268_b65 nq268_b77 nq268_tt gq268 sq268 N268 Zs268 F269 F270 F271 F272 F273 F274 F275 F276 F277 F278 F279 F280 F281 K268 u282_0 u282_1 u282_2 u282_3 u282_4 u282_5 u282_6 u282_7 u282_8 u282_9 X283 e283 W283 st283 F284 F285 F286 F287 F288 F289 F290 F291 F292 F293 F294 F295 F296 F297 F298 F299 F300 F301 F302 F303 F304 F305 F306 K283 N283 Zs283 FS282 kb307 X307 st307 Nq307 Kq307 Pq307 hz307 ni307_b6 ni307_b77 nq307_b11 nq307_b29 nq307_b36 nq307_b44 nq307_b54 nq307_b6 nq307_b65 nq307_b77 nq307_tt gq307 sq307 N307 Zs307 F308 F309 F310 F311 F312 F313 F314 F315 F316 F317 F318 F319 F320 K307 u321_0 u321_1 u321_2 u321_3 u321_4 u321_5 u321_6 u321_7 u321_8 u321_9 X322 e322 W322 st322 F323 F324 F325 F326 F327 F328 F329 F330 F331 F332 F333 F334 F335 F336 F337 F338 F339 F340 F341 F342 F343 F344 F345 K322 N322 Zs322 FS321 kb346 X346 st346 Nq346 Kq346 Pq346 hz346 ni346_b6 ni346_b77 nq346_b11 nq346_b29 nq346_b36 nq346_b44 nq346_b54 nq346_b6 nq346_b65 nq346_b77 nq346_tt gq346 sq346 N346 Zs346 F347 F348 F349 F350 F351 F352 F353 F354 F355 F356 F357 F358 F359 K346 u360_0 u360_1 u360_2 u360_3 u360_4 u360_5 u360_6 u360_7 u360_8 u360_9 X361 e361 W361 st361 F362 F363 F364 F365 F366 F367 F368 F369 F370 F371 F372 F373 F374 F375 F376 F377 F378 F379 F380 F381 F382 F383 F384 K361 N361 Zs361 FS360 X385 e385 E385 Ar385 st385 g385 ne385_b6 F386 F387 F388 F389 F390 F391 F392 F393 F394 K385 Zs385 P385 u395_0 u395_1 u395_2 u395_3 u395_4 u395_5 u395_6 u395_7 u395_8 u395_9 X396 e396 W396 st396 F397 F398 F399 F400 F401 F402 F403 F404 F405 F406 F407 F408 F409 F410 F411 F412 F413 F414 F415 K396 N396 Zs396 FS395 X416 e416 st416 kb417 X417 st417 Nq417 Kq417 Pq417 N417 Zs417 F418 F419 F420 F421 F422 F423 F424 F425 F426 K417
         intro nn335
         induction nn335 with
         | zero => intro i335_13 i335_14 z335_0 Tj335 hj335 Lj335 Xj335 ej335 Nj335 Zj335 Kj335 fj335_0 fj335_1 fj335_2 fj335_3 fj335_4 fj335_5 fj335_6 fj335_7 fj335_8 fj335_9 hK; exact (knone hK).elim
         | succ nn335 ih335 =>
          intro i335_13 i335_14 z335_0 Tj335 hj335 Lj335 Xj335 ej335 Nj335 Zj335 Kj335 fj335_0 fj335_1 fj335_2 fj335_3 fj335_4 fj335_5 fj335_6 fj335_7 fj335_8 fj335_9 hK
          show OG p e below Φ Tj335 m 335 #[rv tt, rv net, iv 5, iv 8, rv b6, rv b11, rv b29, rv b36, rv b44, rv b54, rv b65, iv i144_11, rv b77, iv i335_13, iv i335_14, s144_15, o_, o_, o_, o_, o_, o_, o_, o_, o_, o_, o_, o_] []
          refine gI Xj335 hx hby (eD D15_10_ 13 rfl) rfl ?_
          refine gIn Xj335 hx hby (eD D15_10_ 14 rfl) rfl ?_
          by_cases hc427 : i335_14 < (5 : Int32)
          replace hK := kif_t hc427 hK
          refine gCn Xj335 hx hby (eD D15_10_ 15 rfl) (XT.ii_ge_f hc427) ?_
          refine gA Xj335 hx hby (eD D15_11_ 0 rfl) rfl rfl ?_
          refine gI Xj335 hx hby (eD D15_11_ 1 rfl) rfl ?_
          replace hK := kld_some hK
          obtain ⟨v428, in428, ev428, hK⟩ := hK
          obtain ⟨cl428, Aq428, iq428, at428⟩ := PA.get fj335_6 in428 ev428
          refine os (fun _ z => Xj335.baloadBooleans hx (by rw [ej335]; exact Aq428.1) (oia hZ Aq428.2.1) Aq428.2.2 iq428 at428 (g := (mkF m 345 #[rv tt, rv net, iv 5, iv 8, rv b6, rv b11, rv b29, rv b36, rv b44, rv b54, rv b65, iv i144_11, rv b77, iv i335_13, iv i335_14, s144_15, o_, o_, o_, o_, o_, o_, o_, o_, o_, o_, o_, o_] [(.int i335_14), (.ref b36)])) rfl rfl (hb hby (eD D15_11_ 2 rfl)) _ z) ?_
          by_cases hc429 : v428 = 0
          replace hK := kif_t hc429 hK
          refine gFn Xj335 hx hby (eD D15_11_ 3 rfl) (XT.i0_ne_f hc429) ?_
          refine gA Xj335 hx hby (eD D15_11_ 4 rfl) rfl rfl ?_
          refine gI Xj335 hx hby (eD D15_11_ 5 rfl) rfl ?_
          replace hK := kld_some hK
          obtain ⟨v430, in430, ev430, hK⟩ := hK
          obtain ⟨cl430, Aq430, iq430, at430⟩ := PA.get fj335_4 in430 ev430
          refine os (fun _ z => Xj335.iaload hx (by rw [ej335]; exact Aq430.1) (oia hZ Aq430.2.1) Aq430.2.2 iq430 at430 (g := (mkF m 353 #[rv tt, rv net, iv 5, iv 8, rv b6, rv b11, rv b29, rv b36, rv b44, rv b54, rv b65, iv i144_11, rv b77, iv i335_13, iv i335_14, s144_15, o_, o_, o_, o_, o_, o_, o_, o_, o_, o_, o_, o_] [(.int i335_14), (.ref b11)])) rfl rfl (hb hby (eD D15_11_ 6 rfl)) _ z) ?_
          refine gIc (x := 2) Xj335 hx hby (eD D15_11_ 7 rfl) rfl ?_
          by_cases hc431 : (2 : Int32) < v430
          replace hK := kif_t hc431 hK
          refine gCn Xj335 hx hby (eD D15_11_ 8 rfl) (XT.ii_le_f hc431) ?_
          refine gAn Xj335 hx hby (eD D15_11_ 9 rfl) rfl rfl ?_
          obtain ⟨T432, X432, e432, st432⟩ := getF Xj335 hx hZ hown (host := "") (Or.inl (ow276 hw)) Via.refl ej335 fj335_8.2.2.2.2.2.2.2.1 (g := (mkF m 359 #[rv tt, rv net, iv 5, iv 8, rv b6, rv b11, rv b29, rv b36, rv b44, rv b54, rv b65, iv i144_11, rv b77, iv i335_13, iv i335_14, s144_15, o_, o_, o_, o_, o_, o_, o_, o_, o_, o_, o_, o_] [(.ref tt)])) rfl rfl (hb hby (eD D15_11_ 10 rfl))
          refine os st432 ?_
          refine gI X432 hx hby (eD D15_11_ 11 rfl) rfl ?_
          refine gI X432 hx hby (eD D15_11_ 12 rfl) rfl ?_
          refine os (fun _ z => XS.iinc X432.here hx rfl (hb hby (eD D15_11_ 13 rfl)) rfl (l' := #[rv tt, rv net, iv 5, iv 8, rv b6, rv b11, rv b29, rv b36, rv b44, rv b54, rv b65, iv i144_11, rv b77, iv (i335_13 + 1), iv i335_14, s144_15, o_, o_, o_, o_, o_, o_, o_, o_, o_, o_, o_, o_]) rfl z) ?_
          show OG p e below Φ T432 m 369 #[rv tt, rv net, iv 5, iv 8, rv b6, rv b11, rv b29, rv b36, rv b44, rv b54, rv b65, iv i144_11, rv b77, iv (i335_13 + 1), iv i335_14, s144_15, o_, o_, o_, o_, o_, o_, o_, o_, o_, o_, o_, o_] [(.int i335_13), (.int i335_14), (.ref b385)]
          replace hK := kst_some hK
          obtain ⟨x433, in433, ex433, hK⟩ := hK
          obtain ⟨cl433, Aq433, iq433, -⟩ := PA.get fj335_9 in433 rfl
          obtain ⟨T433, h433, X433, e433, W433, st433⟩ := stI X432 hx hZ e432 Aq433 iq433 (g := (mkF m 369 #[rv tt, rv net, iv 5, iv 8, rv b6, rv b11, rv b29, rv b36, rv b44, rv b54, rv b65, iv i144_11, rv b77, iv (i335_13 + 1), iv i335_14, s144_15, o_, o_, o_, o_, o_, o_, o_, o_, o_, o_, o_, o_] [(.int i335_13), (.int i335_14), (.ref b385)])) rfl rfl (hb hby (eD D15_11_ 14 rfl))
          have F434 := fj335_0.other W433 (hS2 _ sz385)
          have F435 := fj335_1.wr W433
          have F436 := fj335_2.wr W433 gb385
          have F437 := fj335_3.other W433 ni385_b6
          have F438 := fj335_4.other W433 ne385_b11
          have F439 := fj335_5.other W433 ne385_b29
          have F440 := fj335_6.other W433 ne385_b36
          have F441 := fj335_7.wr W433
          have F442 := fj335_8.other W433 ne385_tt
          have P433 := PA.set fj335_9 in433 W433 rfl ex433
          have K433 := Kj335.wr W433 (Or.inr sz385)
          have N433 := Fr.snoc X433 Nj335 gb385
          have Zs433 := ozw W433 Zj335
          refine os st433 ?_
          refine os (fun _ z => XS.iinc X433.here hx rfl (hb hby (eD D15_11_ 15 rfl)) rfl (l' := #[rv tt, rv net, iv 5, iv 8, rv b6, rv b11, rv b29, rv b36, rv b44, rv b54, rv b65, iv i144_11, rv b77, iv (i335_13 + 1), iv (i335_14 + 1), s144_15, o_, o_, o_, o_, o_, o_, o_, o_, o_, o_, o_, o_]) rfl z) ?_
          show OG p e below Φ T433 m 373 #[rv tt, rv net, iv 5, iv 8, rv b6, rv b11, rv b29, rv b36, rv b44, rv b54, rv b65, iv i144_11, rv b77, iv (i335_13 + 1), iv (i335_14 + 1), s144_15, o_, o_, o_, o_, o_, o_, o_, o_, o_, o_, o_, o_] []
          refine gGo (pc := 373) (pc' := 335) X433 hx hby (eD D15_12_ 0 rfl) (by decide) (by decide) ?_
          show OG p e below Φ T433 m 335 #[rv tt, rv net, iv 5, iv 8, rv b6, rv b11, rv b29, rv b36, rv b44, rv b54, rv b65, iv i144_11, rv b77, iv (i335_13 + 1), iv (i335_14 + 1), s144_15, o_, o_, o_, o_, o_, o_, o_, o_, o_, o_, o_, o_] []
          exact ih335 ((i335_13 + 1)) ((i335_14 + 1)) x433 _ _ _ X433 e433 N433 Zs433 K433 F434 F435 F436 F437 F438 F439 F440 F441 F442 P433 hK
          replace hK := kif_f hc431 hK
          refine gCy (pc := 355) (pc' := 370) Xj335 hx hby (eD D15_11_ 8 rfl) (XT.ii_le_t hc431) (by decide) (by decide) ?_
          refine os (fun _ z => XS.iinc Xj335.here hx rfl (hb hby (eD D15_11_ 15 rfl)) rfl (l' := #[rv tt, rv net, iv 5, iv 8, rv b6, rv b11, rv b29, rv b36, rv b44, rv b54, rv b65, iv i144_11, rv b77, iv i335_13, iv (i335_14 + 1), s144_15, o_, o_, o_, o_, o_, o_, o_, o_, o_, o_, o_, o_]) rfl z) ?_
          show OG p e below Φ Tj335 m 373 #[rv tt, rv net, iv 5, iv 8, rv b6, rv b11, rv b29, rv b36, rv b44, rv b54, rv b65, iv i144_11, rv b77, iv i335_13, iv (i335_14 + 1), s144_15, o_, o_, o_, o_, o_, o_, o_, o_, o_, o_, o_, o_] []
          refine gGo (pc := 373) (pc' := 335) Xj335 hx hby (eD D15_12_ 0 rfl) (by decide) (by decide) ?_
          show OG p e below Φ Tj335 m 335 #[rv tt, rv net, iv 5, iv 8, rv b6, rv b11, rv b29, rv b36, rv b44, rv b54, rv b65, iv i144_11, rv b77, iv i335_13, iv (i335_14 + 1), s144_15, o_, o_, o_, o_, o_, o_, o_, o_, o_, o_, o_, o_] []
          exact ih335 i335_13 ((i335_14 + 1)) z335_0 _ _ _ Xj335 ej335 Nj335 Zj335 Kj335 fj335_0 fj335_1 fj335_2 fj335_3 fj335_4 fj335_5 fj335_6 fj335_7 fj335_8 fj335_9 hK
          replace hK := kif_f hc429 hK
          refine gFy (pc := 346) (pc' := 370) Xj335 hx hby (eD D15_11_ 3 rfl) (XT.i0_ne_t hc429) (by decide) (by decide) ?_
          refine os (fun _ z => XS.iinc Xj335.here hx rfl (hb hby (eD D15_11_ 15 rfl)) rfl (l' := #[rv tt, rv net, iv 5, iv 8, rv b6, rv b11, rv b29, rv b36, rv b44, rv b54, rv b65, iv i144_11, rv b77, iv i335_13, iv (i335_14 + 1), s144_15, o_, o_, o_, o_, o_, o_, o_, o_, o_, o_, o_, o_]) rfl z) ?_
          show OG p e below Φ Tj335 m 373 #[rv tt, rv net, iv 5, iv 8, rv b6, rv b11, rv b29, rv b36, rv b44, rv b54, rv b65, iv i144_11, rv b77, iv i335_13, iv (i335_14 + 1), s144_15, o_, o_, o_, o_, o_, o_, o_, o_, o_, o_, o_, o_] []
          refine gGo (pc := 373) (pc' := 335) Xj335 hx hby (eD D15_12_ 0 rfl) (by decide) (by decide) ?_
          show OG p e below Φ Tj335 m 335 #[rv tt, rv net, iv 5, iv 8, rv b6, rv b11, rv b29, rv b36, rv b44, rv b54, rv b65, iv i144_11, rv b77, iv i335_13, iv (i335_14 + 1), s144_15, o_, o_, o_, o_, o_, o_, o_, o_, o_, o_, o_, o_] []
          exact ih335 i335_13 ((i335_14 + 1)) z335_0 _ _ _ Xj335 ej335 Nj335 Zj335 Kj335 fj335_0 fj335_1 fj335_2 fj335_3 fj335_4 fj335_5 fj335_6 fj335_7 fj335_8 fj335_9 hK
          replace hK := kif_f hc427 hK
          refine gCy (pc := 338) (pc' := 376) Xj335 hx hby (eD D15_10_ 15 rfl) (XT.ii_ge_t hc427) (by decide) (by decide) ?_
          show OG p e below Φ Tj335 m 376 #[rv tt, rv net, iv 5, iv 8, rv b6, rv b11, rv b29, rv b36, rv b44, rv b54, rv b65, iv i144_11, rv b77, iv i335_13, iv i335_14, s144_15, o_, o_, o_, o_, o_, o_, o_, o_, o_, o_, o_, o_] []
          refine gAn Xj335 hx hby (eD D15_12_ 1 rfl) rfl rfl ?_
          refine gI Xj335 hx hby (eD D15_12_ 2 rfl) rfl ?_
          replace hK := kgd_some hK
          obtain ⟨gn443, gc443, hK⟩ := hK
          obtain ⟨T443, h443, c443, X443, e443, E443, Ar443, st443⟩ := newP (aty := .int) Xj335 hx hZ (ow139 hw) ej335 (g := (mkF m 379 #[rv tt, rv net, iv 5, iv 8, rv b6, rv b11, rv b29, rv b36, rv b44, rv b54, rv b65, iv i144_11, rv b77, iv i335_13, iv i335_14, s144_15, o_, o_, o_, o_, o_, o_, o_, o_, o_, o_, o_, o_] [(.int i335_13), (.ref tt)])) rfl (hb hby (eD D15_12_ 3 rfl)) rfl gn443 (cap := 11) gc443 (by decide) (by decide) (by decide)
          obtain ⟨b443, g443⟩ : ∃ z, z = hj335.size := ⟨_, rfl⟩
          rw [← g443] at Ar443 st443
          have ni443_b6 := fj335_3.freshle (Nat.le_of_eq g443.symm)
          have ne443_b29 := one_ g443 fj335_5.lt
          have ne443_b36 := one_ g443 fj335_6.lt
          have ne443_b385 := one_ g443 fj335_9.lt
          have ne443_b6 := one_ g443 fj335_3.lt
          have ne443_tt := one_ g443 fj335_1.lt
          have F444 := fj335_0.ext E443
          have F445 := fj335_1.ext E443
          have F446 := fj335_2.ext E443
          have F447 := fj335_3.ext E443
          have F448 := fj335_5.ext E443
          have F449 := fj335_6.ext E443
          have F450 := fj335_7.ext E443
          have F451 := fj335_8.ext E443
          have F452 := fj335_9.ext E443
          have gb443 := Nat.le_trans Zj335 (Nat.le_of_eq g443.symm)
          have sz443 := Nat.le_trans Kj335.1 (Nat.le_of_eq g443.symm)
          have K443 := Kj335.ext E443
          have Zs443 := Nat.le_trans Zj335 E443.1
          have P443 : PA Z h443 b443 .int (List.replicate i335_13.toNatClampNeg (0 : Int32)) := PA.new Ar443 gn443 rfl rfl
          refine os st443 ?_
          obtain ⟨u453_0, u453_1, u453_2, u453_3, u453_4, u453_5, u453_6, u453_7, u453_8, u453_9⟩ := id F451
          obtain ⟨T454, h454, X454, e454, W454, st454⟩ := putF X443 hx hZ hown (host := "") (Or.inl (ow278 hw)) Via.refl e443 u453_8 F445 (Or.inr ⟨(ow279 hw), rfl, hnm⟩) (ow92 hw) (ty := (.array .int)) (by decide) rfl rfl (g := (mkF m 381 #[rv tt, rv net, iv 5, iv 8, rv b6, rv b11, rv b29, rv b36, rv b44, rv b54, rv b65, iv i144_11, rv b77, iv i335_13, iv i335_14, s144_15, o_, o_, o_, o_, o_, o_, o_, o_, o_, o_, o_, o_] [(.ref b443), (.ref tt)])) rfl rfl (hb hby (eD D15_12_ 4 rfl))
          have F455 := F444.other W454 hS1
          have F456 := F445.wr W454
          have F457 := F446.wr W454 g_t
          have F458 := F447.other W454 nit6
          have F459 := F448.other W454 (Ne.symm ne29_tt)
          have F460 := F449.other W454 (Ne.symm ne36_tt)
          have F461 := F450.wr W454
          have F462 := F452.other W454 (Ne.symm ne385_tt)
          have F463 := P443.other W454 (Ne.symm ne443_tt)
          have F464 := u453_0.other W454 (Or.inr (slot_ne (Or.inr (ow271 hw)) (Or.inr (ow279 hw)) (by decide) (t := (.array .int)) (t' := (.array .int)) (by decide) (by decide)))
          have F465 := u453_1.other W454 (Or.inr (slot_ne (Or.inr (ow273 hw)) (Or.inr (ow279 hw)) (by decide) (t := (.array .int)) (t' := (.array .int)) (by decide) (by decide)))
          have F466 := u453_2.other W454 (Or.inr (slot_ne (Or.inr (ow275 hw)) (Or.inr (ow279 hw)) (by decide) (t := (.array .int)) (t' := (.array .int)) (by decide) (by decide)))
          have F467 := u453_3.other W454 (Or.inr (slot_ne (Or.inr (ow296 hw)) (Or.inr (ow279 hw)) (by decide) (t := (.array .int)) (t' := (.array .int)) (by decide) (by decide)))
          have F468 := u453_4.other W454 (Or.inr (slot_ne (Or.inr (ow298 hw)) (Or.inr (ow279 hw)) (by decide) (t := (.array .int)) (t' := (.array .int)) (by decide) (by decide)))
          have F469 := u453_5.other W454 (Or.inr (slot_ne (Or.inr (ow300 hw)) (Or.inr (ow279 hw)) (by decide) (t := (.array .int)) (t' := (.array .int)) (by decide) (by decide)))
          have F470 := u453_6.other W454 (Or.inr (slot_ne (Or.inr (ow302 hw)) (Or.inr (ow279 hw)) (by decide) (t := (.array .int)) (t' := (.array .int)) (by decide) (by decide)))
          have F471 := u453_7.other W454 (Or.inr (slot_ne (Or.inr (ow277 hw)) (Or.inr (ow279 hw)) (by decide) (t := (.array .int)) (t' := (.array .int)) (by decide) (by decide)))
          have F472 := u453_8.same W454
          have F473 := u453_9.other W454 (Or.inr (slot_ne (Or.inr (ow304 hw)) (Or.inr (ow279 hw)) (by decide) (t := .int) (t' := (.array .int)) (by decide) (by decide)))
          have K454 := K443.wr W454 (Or.inl (List.mem_of_getElem? (i := 0) rfl))
          have N454 := Fr.snoc X454 Nj335 g_t
          have Zs454 := ozw W454 Zs443
          refine os st454 ?_
          have FS453 : FS Z h454 tt (.ref b268) (.ref b307) (.ref b346) .null .null .null .null (.ref b385) (.ref b443) (.int (0 : Int32)) := ⟨F464, F465, F466, F467, F468, F469, F470, F471, F472, F473⟩
          show OG p e below Φ T454 m 384 #[rv tt, rv net, iv 5, iv 8, rv b6, rv b11, rv b29, rv b36, rv b44, rv b54, rv b65, iv i144_11, rv b77, iv i335_13, iv i335_14, s144_15, o_, o_, o_, o_, o_, o_, o_, o_, o_, o_, o_, o_] []
          refine gIc (x := 0) X454 hx hby (eD D15_12_ 5 rfl) rfl ?_
          refine gIs X454 hx hby (eD D15_12_ 6 rfl) (ls' := #[rv tt, rv net, iv 5, iv 8, rv b6, rv b11, rv b29, rv b36, rv b44, rv b54, rv b65, iv i144_11, rv b77, iv i335_13, iv 0, s144_15, o_, o_, o_, o_, o_, o_, o_, o_, o_, o_, o_, o_]) rfl ?_
          show OG p e below Φ T454 m 387 #[rv tt, rv net, iv 5, iv 8, rv b6, rv b11, rv b29, rv b36, rv b44, rv b54, rv b65, iv i144_11, rv b77, iv i335_13, iv 0, s144_15, o_, o_, o_, o_, o_, o_, o_, o_, o_, o_, o_, o_] []
          have J387 : ∀ (nn387 : Nat) (i387_14 : Int32) (z387_0 : List Int32) (Tj387 : State) (hj387 : Heap) (Lj387 : List Loc), Stand p l e ({ frames := 4, cells := 33, slots := 287, locals := 57 } : Room) s m #[(.ref tt), (.ref net)] below meth c Tj387 Lj387 24 195 → Tj387.heap = hj387 → Fr n0 Lj387 → n0 ≤ hj387.size → Keep h0 hj387 [tt] → NetP Z hj387 S net lj lr lp d mc ps → Exa Z hj387 tt s4_ → Old Z n0 hj387 → AA Z hj387 b6 bs6 r6 → PA Z hj387 b29 .boolean z144_1 → PA Z hj387 b36 .boolean z144_2 → Exa Z hj387 b36 "[Z" → PA Z hj387 b385 .int z335_0 → PA Z hj387 b443 .int z387_0 → FS Z hj387 tt (.ref b268) (.ref b307) (.ref b346) .null .null .null .null (.ref b385) (.ref b443) (.int (0 : Int32)) → topK_k387 (own_n ps) (oeK ps) r6 z144_1 z144_2 z335_0  nn387 i387_14 z387_0 = some t_ → OG p e below Φ Tj387 m 387 #[rv tt, rv net, iv (5 : Int32), iv (8 : Int32), rv b6, rv b11, rv b29, rv b36, rv b44, rv b54, rv b65, iv i144_11, rv b77, iv i335_13, iv i387_14, s144_15, o_, o_, o_, o_, o_, o_, o_, o_, o_, o_, o_, o_] [] := by
           clear hK
           clear nit6 ne36_tt ni385_b6 ne385_b11 ne385_b36 gb385 sz385 Xj335 ej335 Nj335 Zj335 Kj335 fj335_0 fj335_1 fj335_2 fj335_3 fj335_4 fj335_5 fj335_6 fj335_7 fj335_8 fj335_9 gn443 gc443 X443 e443 E443 Ar443 st443 g443 ne443_b6 F444 F445 F446 F447 F448 F449 F450 F451 F452 K443 Zs443 P443 u453_0 u453_1 u453_2 u453_3 u453_4 u453_5 u453_6 u453_7 u453_8 u453_9 X454 e454 W454 st454 F455 F456 F457 F458 F459 F460 F461 F462 F463 F464 F465 F466 F467 F468 F469 F470 F471 F472 F473 K454 N454 Zs454 FS453
           intro nn387
           induction nn387 with
           | zero => intro i387_14 z387_0 Tj387 hj387 Lj387 Xj387 ej387 Nj387 Zj387 Kj387 fj387_0 fj387_1 fj387_2 fj387_3 fj387_4 fj387_5 fj387_6 fj387_7 fj387_8 fj387_9 hK; exact (knone hK).elim
           | succ nn387 ih387 =>
            intro i387_14 z387_0 Tj387 hj387 Lj387 Xj387 ej387 Nj387 Zj387 Kj387 fj387_0 fj387_1 fj387_2 fj387_3 fj387_4 fj387_5 fj387_6 fj387_7 fj387_8 fj387_9 hK
            show OG p e below Φ Tj387 m 387 #[rv tt, rv net, iv 5, iv 8, rv b6, rv b11, rv b29, rv b36, rv b44, rv b54, rv b65, iv i144_11, rv b77, iv i335_13, iv i387_14, s144_15, o_, o_, o_, o_, o_, o_, o_, o_, o_, o_, o_, o_] []
            refine gI Xj387 hx hby (eD D15_12_ 7 rfl) rfl ?_
            refine gIn Xj387 hx hby (eD D15_12_ 8 rfl) rfl ?_
            by_cases hc474 : i387_14 < (5 : Int32)
            replace hK := kif_t hc474 hK
            refine gCn Xj387 hx hby (eD D15_12_ 9 rfl) (XT.ii_ge_f hc474) ?_
            refine gAn Xj387 hx hby (eD D15_12_ 10 rfl) rfl rfl ?_
            obtain ⟨T475, X475, e475, st475⟩ := getF Xj387 hx hZ hown (host := "") (Or.inl (ow276 hw)) Via.refl ej387 fj387_9.2.2.2.2.2.2.2.1 (g := (mkF m 394 #[rv tt, rv net, iv 5, iv 8, rv b6, rv b11, rv b29, rv b36, rv b44, rv b54, rv b65, iv i144_11, rv b77, iv i335_13, iv i387_14, s144_15, o_, o_, o_, o_, o_, o_, o_, o_, o_, o_, o_, o_] [(.ref tt)])) rfl rfl (hb hby (eD D15_12_ 11 rfl))
            refine os st475 ?_
            refine gI X475 hx hby (eD D15_12_ 12 rfl) rfl ?_
            replace hK := kld_some hK
            obtain ⟨v476, in476, ev476, hK⟩ := hK
            obtain ⟨cl476, Aq476, iq476, at476⟩ := PA.get fj387_7 in476 ev476
            refine os (fun _ z => X475.iaload hx (by rw [e475]; exact Aq476.1) (oia hZ Aq476.2.1) Aq476.2.2 iq476 at476 (g := (mkF m 399 #[rv tt, rv net, iv 5, iv 8, rv b6, rv b11, rv b29, rv b36, rv b44, rv b54, rv b65, iv i144_11, rv b77, iv i335_13, iv i387_14, s144_15, o_, o_, o_, o_, o_, o_, o_, o_, o_, o_, o_, o_] [(.int i387_14), (.ref b385)])) rfl rfl (hb hby (eD D15_12_ 13 rfl)) _ z) ?_
            by_cases hc477 : v476 < 0
            replace hK := kif_t hc477 hK
            refine gFy (pc := 400) (pc' := 417) X475 hx hby (eD D15_12_ 14 rfl) (XT.i0_lt_t hc477) (by decide) (by decide) ?_
            refine os (fun _ z => XS.iinc X475.here hx rfl (hb hby (eD D15_12_ 15 rfl)) rfl (l' := #[rv tt, rv net, iv 5, iv 8, rv b6, rv b11, rv b29, rv b36, rv b44, rv b54, rv b65, iv i144_11, rv b77, iv i335_13, iv (i387_14 + 1), s144_15, o_, o_, o_, o_, o_, o_, o_, o_, o_, o_, o_, o_]) rfl z) ?_
            show OG p e below Φ T475 m 420 #[rv tt, rv net, iv 5, iv 8, rv b6, rv b11, rv b29, rv b36, rv b44, rv b54, rv b65, iv i144_11, rv b77, iv i335_13, iv (i387_14 + 1), s144_15, o_, o_, o_, o_, o_, o_, o_, o_, o_, o_, o_, o_] []
            refine gGo (pc := 420) (pc' := 387) X475 hx hby (eD D15_13_ 0 rfl) (by decide) (by decide) ?_
            show OG p e below Φ T475 m 387 #[rv tt, rv net, iv 5, iv 8, rv b6, rv b11, rv b29, rv b36, rv b44, rv b54, rv b65, iv i144_11, rv b77, iv i335_13, iv (i387_14 + 1), s144_15, o_, o_, o_, o_, o_, o_, o_, o_, o_, o_, o_, o_] []
            exact ih387 ((i387_14 + 1)) z387_0 _ _ _ X475 e475 Nj387 Zj387 Kj387 fj387_0 fj387_1 fj387_2 fj387_3 fj387_4 fj387_5 fj387_6 fj387_7 fj387_8 fj387_9 hK
            replace hK := kif_f hc477 hK
            refine gFn X475 hx hby (eD D15_12_ 14 rfl) (XT.i0_lt_f hc477) ?_
            refine gAn X475 hx hby (eD D15_13_ 1 rfl) rfl rfl ?_
            obtain ⟨T478, X478, e478, st478⟩ := getF X475 hx hZ hown (host := "") (Or.inl (ow278 hw)) Via.refl e475 fj387_9.2.2.2.2.2.2.2.2.1 (g := (mkF m 404 #[rv tt, rv net, iv 5, iv 8, rv b6, rv b11, rv b29, rv b36, rv b44, rv b54, rv b65, iv i144_11, rv b77, iv i335_13, iv i387_14, s144_15, o_, o_, o_, o_, o_, o_, o_, o_, o_, o_, o_, o_] [(.ref tt)])) rfl rfl (hb hby (eD D15_13_ 2 rfl))
            refine os st478 ?_
            refine gAn X478 hx hby (eD D15_13_ 3 rfl) rfl rfl ?_
            obtain ⟨T479, X479, e479, st479⟩ := getF X478 hx hZ hown (host := "") (Or.inl (ow276 hw)) Via.refl e478 fj387_9.2.2.2.2.2.2.2.1 (g := (mkF m 408 #[rv tt, rv net, iv 5, iv 8, rv b6, rv b11, rv b29, rv b36, rv b44, rv b54, rv b65, iv i144_11, rv b77, iv i335_13, iv i387_14, s144_15, o_, o_, o_, o_, o_, o_, o_, o_, o_, o_, o_, o_] [(.ref tt), (.ref b443)])) rfl rfl (hb hby (eD D15_13_ 4 rfl))
            refine os st479 ?_
            refine gI X479 hx hby (eD D15_13_ 5 rfl) rfl ?_
            replace hK := kld_some hK
            obtain ⟨v480, in480, ev480, hK⟩ := hK
            obtain ⟨cl480, Aq480, iq480, at480⟩ := PA.get fj387_7 in480 ev480
            refine os (fun _ z => X479.iaload hx (by rw [e479]; exact Aq480.1) (oia hZ Aq480.2.1) Aq480.2.2 iq480 at480 (g := (mkF m 413 #[rv tt, rv net, iv 5, iv 8, rv b6, rv b11, rv b29, rv b36, rv b44, rv b54, rv b65, iv i144_11, rv b77, iv i335_13, iv i387_14, s144_15, o_, o_, o_, o_, o_, o_, o_, o_, o_, o_, o_, o_] [(.int i387_14), (.ref b385), (.ref b443)])) rfl rfl (hb hby (eD D15_13_ 6 rfl)) _ z) ?_
            refine gI X479 hx hby (eD D15_13_ 7 rfl) rfl ?_
            replace hK := kst_some hK
            obtain ⟨x481, in481, ex481, hK⟩ := hK
            obtain ⟨cl481, Aq481, iq481, -⟩ := PA.get fj387_8 in481 rfl
            obtain ⟨T481, h481, X481, e481, W481, st481⟩ := stI X479 hx hZ e479 Aq481 iq481 (g := (mkF m 416 #[rv tt, rv net, iv 5, iv 8, rv b6, rv b11, rv b29, rv b36, rv b44, rv b54, rv b65, iv i144_11, rv b77, iv i335_13, iv i387_14, s144_15, o_, o_, o_, o_, o_, o_, o_, o_, o_, o_, o_, o_] [(.int i387_14), (.int v480), (.ref b443)])) rfl rfl (hb hby (eD D15_13_ 8 rfl))
            have F482 := fj387_0.other W481 (hS2 _ sz443)
            have F483 := fj387_1.wr W481
            have F484 := fj387_2.wr W481 gb443
            have F485 := fj387_3.other W481 ni443_b6
            have F486 := fj387_4.other W481 ne443_b29
            have F487 := fj387_5.other W481 ne443_b36
            have F488 := fj387_6.wr W481
            have F489 := fj387_7.other W481 ne443_b385
            have F490 := fj387_9.other W481 ne443_tt
            have P481 := PA.set fj387_8 in481 W481 rfl ex481
            have K481 := Kj387.wr W481 (Or.inr sz443)
            have N481 := Fr.snoc X481 Nj387 gb443
            have Zs481 := ozw W481 Zj387
            refine os st481 ?_
            refine os (fun _ z => XS.iinc X481.here hx rfl (hb hby (eD D15_12_ 15 rfl)) rfl (l' := #[rv tt, rv net, iv 5, iv 8, rv b6, rv b11, rv b29, rv b36, rv b44, rv b54, rv b65, iv i144_11, rv b77, iv i335_13, iv (i387_14 + 1), s144_15, o_, o_, o_, o_, o_, o_, o_, o_, o_, o_, o_, o_]) rfl z) ?_
            show OG p e below Φ T481 m 420 #[rv tt, rv net, iv 5, iv 8, rv b6, rv b11, rv b29, rv b36, rv b44, rv b54, rv b65, iv i144_11, rv b77, iv i335_13, iv (i387_14 + 1), s144_15, o_, o_, o_, o_, o_, o_, o_, o_, o_, o_, o_, o_] []
            refine gGo (pc := 420) (pc' := 387) X481 hx hby (eD D15_13_ 0 rfl) (by decide) (by decide) ?_
            show OG p e below Φ T481 m 387 #[rv tt, rv net, iv 5, iv 8, rv b6, rv b11, rv b29, rv b36, rv b44, rv b54, rv b65, iv i144_11, rv b77, iv i335_13, iv (i387_14 + 1), s144_15, o_, o_, o_, o_, o_, o_, o_, o_, o_, o_, o_, o_] []
            exact ih387 ((i387_14 + 1)) x481 _ _ _ X481 e481 N481 Zs481 K481 F482 F483 F484 F485 F486 F487 F488 F489 P481 F490 hK
            replace hK := kif_f hc474 hK
            refine gCy (pc := 390) (pc' := 423) Xj387 hx hby (eD D15_12_ 9 rfl) (XT.ii_ge_t hc474) (by decide) (by decide) ?_
            refine gA Xj387 hx hby (eD D15_13_ 9 rfl) rfl rfl ?_
            show OG p e below Φ Tj387 m 425 #[rv tt, rv net, iv 5, iv 8, rv b6, rv b11, rv b29, rv b36, rv b44, rv b54, rv b65, iv i144_11, rv b77, iv i335_13, iv i387_14, s144_15, o_, o_, o_, o_, o_, o_, o_, o_, o_, o_, o_, o_] [(.ref b36)]
            replace hK := kgd_some hK
            obtain ⟨gn491, gc491, hK⟩ := hK
            obtain ⟨ka491, Ah491, la491⟩ := PA.arh fj387_5
            obtain ⟨T491, h491, X491, e491, E491, Ai491, Ex491, st491⟩ := cloneH Xj387 hx hZ hown (ow280 hw) (ow281 hw) (ow285 hw) (ow283 hw) (ow284 hw) (ow286 hw) ej387 Ah491 fj387_6 (g := (mkF m 425 #[rv tt, rv net, iv 5, iv 8, rv b6, rv b11, rv b29, rv b36, rv b44, rv b54, rv b65, iv i144_11, rv b77, iv i335_13, iv i387_14, s144_15, o_, o_, o_, o_, o_, o_, o_, o_, o_, o_, o_, o_] [(.ref b36)])) rfl (by rw [hml]; rfl) rfl (hb hby (eD D15_13_ 10 rfl)) (by decide) (W := 0) (cap := 8) (by show 2 * 0 + _ ≤ _; exact Nat.le_of_eq rfl) (by decide) gc491 (by decide) (by decide)
            obtain ⟨b491, g491⟩ : ∃ z, z = hj387.size := ⟨_, rfl⟩
            rw [← g491] at Ai491 Ex491 st491
            have ni491_b6 := fj387_3.freshle (Nat.le_of_eq g491.symm)
            have ne491_b29 := one_ g491 fj387_4.lt
            have ne491_b36 := one_ g491 fj387_5.lt
            have ne491_b385 := one_ g491 fj387_7.lt
            have ne491_b443 := one_ g491 fj387_8.lt
            have ne491_b6 := one_ g491 fj387_3.lt
            have ne491_tt := one_ g491 fj387_1.lt
            have F492 := fj387_0.ext E491
            have F493 := fj387_1.ext E491
            have F494 := fj387_2.ext E491
            have F495 := fj387_3.ext E491
            have F496 := fj387_4.ext E491
            have F497 := fj387_5.ext E491
            have F498 := fj387_6.ext E491
            have F499 := fj387_7.ext E491
            have F500 := fj387_8.ext E491
            have F501 := fj387_9.ext E491
            have gb491 := Nat.le_trans Zj387 (Nat.le_of_eq g491.symm)
            have sz491 := Nat.le_trans Kj387.1 (Nat.le_of_eq g491.symm)
            have K491 := Kj387.ext E491
            have Zs491 := Nat.le_trans Zj387 E491.1
            have P491 := PA.ofArh Ai491 la491
            refine os st491 ?_
            obtain ⟨T502, X502, e502, st502⟩ := castY X491 hx hZ hown (ow287 hw) e491 (Ins.self Ex491) (g := (mkF m 428 #[rv tt, rv net, iv 5, iv 8, rv b6, rv b11, rv b29, rv b36, rv b44, rv b54, rv b65, iv i144_11, rv b77, iv i335_13, iv i387_14, s144_15, o_, o_, o_, o_, o_, o_, o_, o_, o_, o_, o_, o_] [(.ref b491)])) rfl rfl (hb hby (eD D15_13_ 11 rfl))
            refine os st502 ?_
            refine gAs X502 hx hby (eD D15_13_ 12 rfl) rfl (ls' := #[rv tt, rv net, iv 5, iv 8, rv b6, rv b11, rv b29, rv b36, rv b44, rv b54, rv b65, iv i144_11, rv b77, iv i335_13, rv b491, s144_15, o_, o_, o_, o_, o_, o_, o_, o_, o_, o_, o_, o_]) rfl ?_
            show OG p e below Φ T502 m 433 #[rv tt, rv net, iv 5, iv 8, rv b6, rv b11, rv b29, rv b36, rv b44, rv b54, rv b65, iv i144_11, rv b77, iv i335_13, rv b491, s144_15, o_, o_, o_, o_, o_, o_, o_, o_, o_, o_, o_, o_] []
            refine gAn X502 hx hby (eD D15_13_ 13 rfl) rfl rfl ?_
            obtain ⟨_, T503, L503, X503, hQ503, st503⟩ := own_callVi X502 hx hZ hown (ow140 hw) (ow141 hw) (notFace_of_selects (args := #[]) (mvT hZ (ow143 hw))) (ow143 hw) (ow142 hw) (ow96 hw) (ow144 hw) (by decide) (rgn2 l Z a0 hw [] net lp h491 n0 Zs491 F492.2.2.2.2.1) e502 (W := 0) (by decide) F492.2.1 (pc := 434) (ls := #[rv tt, rv net, iv 5, iv 8, rv b6, rv b11, rv b29, rv b36, rv b44, rv b54, rv b65, iv i144_11, rv b77, iv i335_13, rv b491, s144_15, o_, o_, o_, o_, o_, o_, o_, o_, o_, o_, o_, o_]) (stk := [(.ref net)]) (by rw [hml]; rfl) (argsL := []) (rest := []) (lenOf pd10 rfl) rfl rfl (Nat.le_of_eq rfl) (hb hby (eD D15_13_ 14 rfl))
            obtain ⟨rfl, Nq503, e503⟩ := hQ503
            have N503 := Fr.app Nj387 Nq503
            refine os st503 ?_
            obtain ⟨_, T504, L504, X504, hQ504, st504⟩ := own_callIf X503 hx hZ hown (ow122 hw) (ow123 hw) (mvT hZ (ow124 hw)) (ow125 hw) (ow126 hw) (ow127 hw) (ow128 hw) (ow129 hw) (ow3 hw) (ow130 hw) (by decide) (rgs l Z a0 hw [] lp (own_n ps) h491 n0 Zs491 F492.2.2.2.2.2.2.2.2.2.2.2.1) e503 (W := 0) (by decide) F492.2.2.2.2.2.2.2.2.2.1 (pc := 437) (ls := #[rv tt, rv net, iv 5, iv 8, rv b6, rv b11, rv b29, rv b36, rv b44, rv b54, rv b65, iv i144_11, rv b77, iv i335_13, rv b491, s144_15, o_, o_, o_, o_, o_, o_, o_, o_, o_, o_, o_, o_]) (stk := [(.ref lp)]) (by rw [hml]; rfl) (argsL := []) (rest := []) (lenOf pd11 rfl) rfl rfl (Nat.le_of_eq rfl) (hb hby (eD D15_13_ 15 rfl))
            obtain ⟨rfl, Nq504, e504⟩ := hQ504
            have N504 := Fr.app N503 Nq504
            refine os st504 ?_
            replace hK := kgd_some hK
            obtain ⟨gn505, gc505, hK⟩ := hK
            obtain ⟨T505, h505, c505, X505, e505, E505, Ar505, st505⟩ := newP (aty := .int) X504 hx hZ (ow139 hw) e504 (g := (mkF m 442 #[rv tt, rv net, iv 5, iv 8, rv b6, rv b11, rv b29, rv b36, rv b44, rv b54, rv b65, iv i144_11, rv b77, iv i335_13, rv b491, s144_15, o_, o_, o_, o_, o_, o_, o_, o_, o_, o_, o_, o_] [(.int (own_n ps))])) rfl (hb hby (eD D15_14_ 0 rfl)) rfl gn505 (cap := 11) gc505 (by decide) (by decide) (by decide)
            obtain ⟨b505, g505⟩ : ∃ z, z = h491.size := ⟨_, rfl⟩
            rw [← g505] at Ar505 st505
            have ni505_b6 := F495.freshle (Nat.le_of_eq g505.symm)
            have ne505_b29 := one_ g505 F496.lt
            have ne505_b385 := one_ g505 F499.lt
            have ne505_b491 := one_ g505 P491.lt
            have ne505_b6 := one_ g505 F495.lt
            have ne505_tt := one_ g505 F493.lt
            have F506 := F492.ext E505
            have F507 := F493.ext E505
            have F508 := F494.ext E505
            have F509 := F495.ext E505
            have F510 := F496.ext E505
            have F511 := F499.ext E505
            have F512 := F501.ext E505
            have F513 := P491.ext E505
            have F514 := Ex491.ext E505
            have gb505 := Nat.le_trans Zs491 (Nat.le_of_eq g505.symm)
            have sz505 := Nat.le_trans K491.1 (Nat.le_of_eq g505.symm)
            have K505 := K491.ext E505
            have Zs505 := Nat.le_trans Zs491 E505.1
            have P505 : PA Z h505 b505 .int (List.replicate (own_n ps).toNatClampNeg (0 : Int32)) := PA.new Ar505 gn505 rfl rfl
            refine os st505 ?_
            refine gAs X505 hx hby (eD D15_14_ 1 rfl) rfl (ls' := #[rv tt, rv net, iv 5, iv 8, rv b6, rv b11, rv b29, rv b36, rv b44, rv b54, rv b65, iv i144_11, rv b77, iv i335_13, rv b491, rv b505, o_, o_, o_, o_, o_, o_, o_, o_, o_, o_, o_, o_]) (XS.store1 rfl q144_15 rfl) ?_
            refine gAn X505 hx hby (eD D15_14_ 2 rfl) rfl rfl ?_
            obtain ⟨_, T515, L515, X515, hQ515, st515⟩ := own_callVi X505 hx hZ hown (ow140 hw) (ow141 hw) (notFace_of_selects (args := #[]) (mvT hZ (ow143 hw))) (ow143 hw) (ow142 hw) (ow96 hw) (ow144 hw) (by decide) (rgn2 l Z a0 hw [] net lp h505 n0 Zs505 F506.2.2.2.2.1) e505 (W := 0) (by decide) F506.2.1 (pc := 447) (ls := #[rv tt, rv net, iv 5, iv 8, rv b6, rv b11, rv b29, rv b36, rv b44, rv b54, rv b65, iv i144_11, rv b77, iv i335_13, rv b491, rv b505, o_, o_, o_, o_, o_, o_, o_, o_, o_, o_, o_, o_]) (stk := [(.ref net)]) (by rw [hml]; rfl) (argsL := []) (rest := []) (lenOf pd10 rfl) rfl rfl (Nat.le_of_eq rfl) (hb hby (eD D15_14_ 3 rfl))
            obtain ⟨rfl, Nq515, e515⟩ := hQ515
            have N515 := Fr.app N504 Nq515
            refine os st515 ?_
            obtain ⟨_, T516, L516, X516, hQ516, st516⟩ := own_callIf X515 hx hZ hown (ow122 hw) (ow123 hw) (mvT hZ (ow124 hw)) (ow125 hw) (ow126 hw) (ow127 hw) (ow128 hw) (ow129 hw) (ow3 hw) (ow130 hw) (by decide) (rgs l Z a0 hw [] lp (own_n ps) h505 n0 Zs505 F506.2.2.2.2.2.2.2.2.2.2.2.1) e515 (W := 0) (by decide) F506.2.2.2.2.2.2.2.2.2.1 (pc := 450) (ls := #[rv tt, rv net, iv 5, iv 8, rv b6, rv b11, rv b29, rv b36, rv b44, rv b54, rv b65, iv i144_11, rv b77, iv i335_13, rv b491, rv b505, o_, o_, o_, o_, o_, o_, o_, o_, o_, o_, o_, o_]) (stk := [(.ref lp)]) (by rw [hml]; rfl) (argsL := []) (rest := []) (lenOf pd11 rfl) rfl rfl (Nat.le_of_eq rfl) (hb hby (eD D15_14_ 4 rfl))
            obtain ⟨rfl, Nq516, e516⟩ := hQ516
            have N516 := Fr.app N515 Nq516
            refine os st516 ?_
            refine gIc (x := 1) X516 hx hby (eD D15_14_ 5 rfl) rfl ?_
            refine os (fun _ z => XS.iadd X516.here hx rfl (hb hby (eD D15_14_ 6 rfl)) rfl z) ?_
            replace hK := kgd_some hK
            obtain ⟨gn517, gc517, hK⟩ := hK
            obtain ⟨T517, h517, c517, X517, e517, E517, Ar517, st517⟩ := newP (aty := .int) X516 hx hZ (ow139 hw) e516 (g := (mkF m 457 #[rv tt, rv net, iv 5, iv 8, rv b6, rv b11, rv b29, rv b36, rv b44, rv b54, rv b65, iv i144_11, rv b77, iv i335_13, rv b491, rv b505, o_, o_, o_, o_, o_, o_, o_, o_, o_, o_, o_, o_] [(.int ((own_n ps) + 1))])) rfl (hb hby (eD D15_14_ 7 rfl)) rfl gn517 (cap := 11) gc517 (by decide) (by decide) (by decide)
            obtain ⟨b517, g517⟩ : ∃ z, z = h505.size := ⟨_, rfl⟩
            rw [← g517] at Ar517 st517
            have ni517_b6 := F509.freshle (Nat.le_of_eq g517.symm)
            have ne517_b29 := one_ g517 F510.lt
            have ne517_b385 := one_ g517 F511.lt
            have ne517_b491 := one_ g517 F513.lt
            have ne517_b505 := one_ g517 P505.lt
            have ne517_b6 := one_ g517 F509.lt
            have ne517_tt := one_ g517 F507.lt
            have F518 := F506.ext E517
            have F519 := F507.ext E517
            have F520 := F508.ext E517
            have F521 := F509.ext E517
            have F522 := F510.ext E517
            have F523 := F511.ext E517
            have F524 := F512.ext E517
            have F525 := F513.ext E517
            have F526 := F514.ext E517
            have F527 := P505.ext E517
            have gb517 := Nat.le_trans Zs505 (Nat.le_of_eq g517.symm)
            have sz517 := Nat.le_trans K505.1 (Nat.le_of_eq g517.symm)
            have K517 := K505.ext E517
            have Zs517 := Nat.le_trans Zs505 E517.1
            have P517 : PA Z h517 b517 .int (List.replicate ((own_n ps) + 1).toNatClampNeg (0 : Int32)) := PA.new Ar517 gn517 rfl rfl
            refine os st517 ?_
            refine gAs X517 hx hby (eD D15_14_ 8 rfl) rfl (ls' := #[rv tt, rv net, iv 5, iv 8, rv b6, rv b11, rv b29, rv b36, rv b44, rv b54, rv b65, iv i144_11, rv b77, iv i335_13, rv b491, rv b505, rv b517, o_, o_, o_, o_, o_, o_, o_, o_, o_, o_, o_]) rfl ?_
            refine gAn X517 hx hby (eD D15_14_ 9 rfl) rfl rfl ?_
            obtain ⟨_, T528, L528, X528, hQ528, st528⟩ := own_callVi X517 hx hZ hown (ow140 hw) (ow141 hw) (notFace_of_selects (args := #[]) (mvT hZ (ow143 hw))) (ow143 hw) (ow142 hw) (ow96 hw) (ow144 hw) (by decide) (rgn2 l Z a0 hw [] net lp h517 n0 Zs517 F518.2.2.2.2.1) e517 (W := 0) (by decide) F518.2.1 (pc := 462) (ls := #[rv tt, rv net, iv 5, iv 8, rv b6, rv b11, rv b29, rv b36, rv b44, rv b54, rv b65, iv i144_11, rv b77, iv i335_13, rv b491, rv b505, rv b517, o_, o_, o_, o_, o_, o_, o_, o_, o_, o_, o_]) (stk := [(.ref net)]) (by rw [hml]; rfl) (argsL := []) (rest := []) (lenOf pd10 rfl) rfl rfl (Nat.le_of_eq rfl) (hb hby (eD D15_14_ 10 rfl))
            obtain ⟨rfl, Nq528, e528⟩ := hQ528
            have N528 := Fr.app N516 Nq528
            refine os st528 ?_
            obtain ⟨_, T529, L529, X529, hQ529, st529⟩ := own_callIf X528 hx hZ hown (ow122 hw) (ow123 hw) (mvT hZ (ow124 hw)) (ow125 hw) (ow126 hw) (ow127 hw) (ow128 hw) (ow129 hw) (ow3 hw) (ow130 hw) (by decide) (rgs l Z a0 hw [] lp (own_n ps) h517 n0 Zs517 F518.2.2.2.2.2.2.2.2.2.2.2.1) e528 (W := 0) (by decide) F518.2.2.2.2.2.2.2.2.2.1 (pc := 465) (ls := #[rv tt, rv net, iv 5, iv 8, rv b6, rv b11, rv b29, rv b36, rv b44, rv b54, rv b65, iv i144_11, rv b77, iv i335_13, rv b491, rv b505, rv b517, o_, o_, o_, o_, o_, o_, o_, o_, o_, o_, o_]) (stk := [(.ref lp)]) (by rw [hml]; rfl) (argsL := []) (rest := []) (lenOf pd11 rfl) rfl rfl (Nat.le_of_eq rfl) (hb hby (eD D15_14_ 11 rfl))
            obtain ⟨rfl, Nq529, e529⟩ := hQ529
            have N529 := Fr.app N528 Nq529
            refine os st529 ?_
            replace hK := kgd_some hK
            obtain ⟨gn530, gc530, hK⟩ := hK
            obtain ⟨T530, h530, c530, X530, e530, E530, Ar530, st530⟩ := newP (aty := .int) X529 hx hZ (ow139 hw) e529 (g := (mkF m 470 #[rv tt, rv net, iv 5, iv 8, rv b6, rv b11, rv b29, rv b36, rv b44, rv b54, rv b65, iv i144_11, rv b77, iv i335_13, rv b491, rv b505, rv b517, o_, o_, o_, o_, o_, o_, o_, o_, o_, o_, o_] [(.int (own_n ps))])) rfl (hb hby (eD D15_14_ 12 rfl)) rfl gn530 (cap := 11) gc530 (by decide) (by decide) (by decide)
            obtain ⟨b530, g530⟩ : ∃ z, z = h517.size := ⟨_, rfl⟩
            rw [← g530] at Ar530 st530
            have ni530_b6 := F521.freshle (Nat.le_of_eq g530.symm)
            have ne530_b29 := one_ g530 F522.lt
            have ne530_b385 := one_ g530 F523.lt
            have ne530_b491 := one_ g530 F525.lt
            have ne530_b505 := one_ g530 F527.lt
            have ne530_b517 := one_ g530 P517.lt
            have ne530_b6 := one_ g530 F521.lt
            have ne530_tt := one_ g530 F519.lt
            have F531 := F518.ext E530
            have F532 := F519.ext E530
            have F533 := F520.ext E530
            have F534 := F521.ext E530
            have F535 := F522.ext E530
            have F536 := F523.ext E530
            have F537 := F524.ext E530
            have F538 := F525.ext E530
            have F539 := F526.ext E530
            have F540 := F527.ext E530
            have F541 := P517.ext E530
            have gb530 := Nat.le_trans Zs517 (Nat.le_of_eq g530.symm)
            have sz530 := Nat.le_trans K517.1 (Nat.le_of_eq g530.symm)
            have K530 := K517.ext E530
            have Zs530 := Nat.le_trans Zs517 E530.1
            have P530 : PA Z h530 b530 .int (List.replicate (own_n ps).toNatClampNeg (0 : Int32)) := PA.new Ar530 gn530 rfl rfl
            refine os st530 ?_
            refine gAs X530 hx hby (eD D15_14_ 13 rfl) rfl (ls' := #[rv tt, rv net, iv 5, iv 8, rv b6, rv b11, rv b29, rv b36, rv b44, rv b54, rv b65, iv i144_11, rv b77, iv i335_13, rv b491, rv b505, rv b517, rv b530, o_, o_, o_, o_, o_, o_, o_, o_, o_, o_]) rfl ?_
            refine gAn X530 hx hby (eD D15_14_ 14 rfl) rfl rfl ?_
            obtain ⟨_, T542, L542, X542, hQ542, st542⟩ := own_callVi X530 hx hZ hown (ow140 hw) (ow141 hw) (notFace_of_selects (args := #[]) (mvT hZ (ow143 hw))) (ow143 hw) (ow142 hw) (ow96 hw) (ow144 hw) (by decide) (rgn2 l Z a0 hw [] net lp h530 n0 Zs530 F531.2.2.2.2.1) e530 (W := 0) (by decide) F531.2.1 (pc := 475) (ls := #[rv tt, rv net, iv 5, iv 8, rv b6, rv b11, rv b29, rv b36, rv b44, rv b54, rv b65, iv i144_11, rv b77, iv i335_13, rv b491, rv b505, rv b517, rv b530, o_, o_, o_, o_, o_, o_, o_, o_, o_, o_]) (stk := [(.ref net)]) (by rw [hml]; rfl) (argsL := []) (rest := []) (lenOf pd10 rfl) rfl rfl (Nat.le_of_eq rfl) (hb hby (eD D15_14_ 15 rfl))
            obtain ⟨rfl, Nq542, e542⟩ := hQ542
            have N542 := Fr.app N529 Nq542
            refine os st542 ?_
            obtain ⟨_, T543, L543, X543, hQ543, st543⟩ := own_callIf X542 hx hZ hown (ow122 hw) (ow123 hw) (mvT hZ (ow124 hw)) (ow125 hw) (ow126 hw) (ow127 hw) (ow128 hw) (ow129 hw) (ow3 hw) (ow130 hw) (by decide) (rgs l Z a0 hw [] lp (own_n ps) h530 n0 Zs530 F531.2.2.2.2.2.2.2.2.2.2.2.1) e542 (W := 0) (by decide) F531.2.2.2.2.2.2.2.2.2.1 (pc := 478) (ls := #[rv tt, rv net, iv 5, iv 8, rv b6, rv b11, rv b29, rv b36, rv b44, rv b54, rv b65, iv i144_11, rv b77, iv i335_13, rv b491, rv b505, rv b517, rv b530, o_, o_, o_, o_, o_, o_, o_, o_, o_, o_]) (stk := [(.ref lp)]) (by rw [hml]; rfl) (argsL := []) (rest := []) (lenOf pd11 rfl) rfl rfl (Nat.le_of_eq rfl) (hb hby (eD D15_15_ 0 rfl))
            obtain ⟨rfl, Nq543, e543⟩ := hQ543
            have N543 := Fr.app N542 Nq543
            refine os st543 ?_
            replace hK := kgd_some hK
            obtain ⟨gn544, gc544, hK⟩ := hK
            obtain ⟨T544, h544, c544, X544, e544, E544, Ar544, st544⟩ := newP (aty := .int) X543 hx hZ (ow139 hw) e543 (g := (mkF m 483 #[rv tt, rv net, iv 5, iv 8, rv b6, rv b11, rv b29, rv b36, rv b44, rv b54, rv b65, iv i144_11, rv b77, iv i335_13, rv b491, rv b505, rv b517, rv b530, o_, o_, o_, o_, o_, o_, o_, o_, o_, o_] [(.int (own_n ps))])) rfl (hb hby (eD D15_15_ 1 rfl)) rfl gn544 (cap := 11) gc544 (by decide) (by decide) (by decide)
            obtain ⟨b544, g544⟩ : ∃ z, z = h530.size := ⟨_, rfl⟩
            rw [← g544] at Ar544 st544
            have ni544_b6 := F534.freshle (Nat.le_of_eq g544.symm)
            have ne544_b29 := one_ g544 F535.lt
            have ne544_b385 := one_ g544 F536.lt
            have ne544_b491 := one_ g544 F538.lt
            have ne544_b505 := one_ g544 F540.lt
            have ne544_b517 := one_ g544 F541.lt
            have ne544_b530 := one_ g544 P530.lt
            have ne544_b6 := one_ g544 F534.lt
            have ne544_tt := one_ g544 F532.lt
            have F545 := F531.ext E544
            have F546 := F532.ext E544
            have F547 := F533.ext E544
            have F548 := F534.ext E544
            have F549 := F535.ext E544
            have F550 := F536.ext E544
            have F551 := F537.ext E544
            have F552 := F538.ext E544
            have F553 := F539.ext E544
            have F554 := F540.ext E544
            have F555 := F541.ext E544
            have F556 := P530.ext E544
            have gb544 := Nat.le_trans Zs530 (Nat.le_of_eq g544.symm)
            have sz544 := Nat.le_trans K530.1 (Nat.le_of_eq g544.symm)
            have K544 := K530.ext E544
            have Zs544 := Nat.le_trans Zs530 E544.1
            have P544 : PA Z h544 b544 .int (List.replicate (own_n ps).toNatClampNeg (0 : Int32)) := PA.new Ar544 gn544 rfl rfl
            refine os st544 ?_
            refine gAs X544 hx hby (eD D15_15_ 2 rfl) rfl (ls' := #[rv tt, rv net, iv 5, iv 8, rv b6, rv b11, rv b29, rv b36, rv b44, rv b54, rv b65, iv i144_11, rv b77, iv i335_13, rv b491, rv b505, rv b517, rv b530, rv b544, o_, o_, o_, o_, o_, o_, o_, o_, o_]) rfl ?_
            refine gIc (x := 0) X544 hx hby (eD D15_15_ 3 rfl) rfl ?_
            refine gIs X544 hx hby (eD D15_15_ 4 rfl) (ls' := #[rv tt, rv net, iv 5, iv 8, rv b6, rv b11, rv b29, rv b36, rv b44, rv b54, rv b65, iv i144_11, rv b77, iv i335_13, rv b491, rv b505, rv b517, rv b530, rv b544, iv 0, o_, o_, o_, o_, o_, o_, o_, o_]) rfl ?_
            refine gIc (x := 0) X544 hx hby (eD D15_15_ 5 rfl) rfl ?_
            refine gIs X544 hx hby (eD D15_15_ 6 rfl) (ls' := #[rv tt, rv net, iv 5, iv 8, rv b6, rv b11, rv b29, rv b36, rv b44, rv b54, rv b65, iv i144_11, rv b77, iv i335_13, rv b491, rv b505, rv b517, rv b530, rv b544, iv 0, iv 0, o_, o_, o_, o_, o_, o_, o_]) rfl ?_
            refine gIc (x := 0) X544 hx hby (eD D15_15_ 7 rfl) rfl ?_
            refine gIs X544 hx hby (eD D15_15_ 8 rfl) (ls' := #[rv tt, rv net, iv 5, iv 8, rv b6, rv b11, rv b29, rv b36, rv b44, rv b54, rv b65, iv i144_11, rv b77, iv i335_13, rv b491, rv b505, rv b517, rv b530, rv b544, iv 0, iv 0, iv 0, o_, o_, o_, o_, o_, o_]) rfl ?_
            show OG p e below Φ T544 m 496 #[rv tt, rv net, iv 5, iv 8, rv b6, rv b11, rv b29, rv b36, rv b44, rv b54, rv b65, iv i144_11, rv b77, iv i335_13, rv b491, rv b505, rv b517, rv b530, rv b544, iv 0, iv 0, iv 0, o_, o_, o_, o_, o_, o_] []
            have J496 : ∀ (nn496 : Nat) (i496_19 : Int32) (i496_20 : Int32) (i496_21 : Int32) (z496_0 : List Int32) (z496_1 : List Int32) (z496_2 : List Int32) (z496_3 : List Int32) (z496_4 : List Int32) (z496_5 : List Int32) (s496_22 : Slot) (q496_22 : own_s1 s496_22) (s496_23 : Slot) (q496_23 : own_s1 s496_23) (s496_24 : Slot) (q496_24 : own_s1 s496_24) (s496_25 : Slot) (q496_25 : own_s1 s496_25) (s496_26 : Slot) (q496_26 : own_s1 s496_26) (s496_27 : Slot) (q496_27 : own_s1 s496_27) (Tj496 : State) (hj496 : Heap) (Lj496 : List Loc), Stand p l e ({ frames := 4, cells := 33, slots := 287, locals := 57 } : Room) s m #[(.ref tt), (.ref net)] below meth c Tj496 Lj496 29 247 → Tj496.heap = hj496 → Fr n0 Lj496 → n0 ≤ hj496.size → Keep h0 hj496 [tt] → NetP Z hj496 S net lj lr lp d mc ps → Exa Z hj496 tt s4_ → Old Z n0 hj496 → AA Z hj496 b6 bs6 r6 → PA Z hj496 b29 .boolean z496_0 → PA Z hj496 b385 .int z335_0 → FS Z hj496 tt (.ref b268) (.ref b307) (.ref b346) .null .null .null .null (.ref b385) (.ref b443) (.int (0 : Int32)) → PA Z hj496 b491 .boolean z496_1 → Exa Z hj496 b491 "[Z" → PA Z hj496 b505 .int z496_2 → PA Z hj496 b517 .int z496_3 → PA Z hj496 b530 .int z496_4 → PA Z hj496 b544 .int z496_5 → topK_k496 (oeK ps) r6 z335_0  nn496 i496_19 i496_20 i496_21 z496_0 z496_1 z496_2 z496_3 z496_4 z496_5 = some t_ → OG p e below Φ Tj496 m 496 #[rv tt, rv net, iv (5 : Int32), iv (8 : Int32), rv b6, rv b11, rv b29, rv b36, rv b44, rv b54, rv b65, iv i144_11, rv b77, iv i335_13, rv b491, rv b505, rv b517, rv b530, rv b544, iv i496_19, iv i496_20, iv i496_21, s496_22, s496_23, s496_24, s496_25, s496_26, s496_27] [] := by
             clear hK
             clear ni443_b6 ne443_b29 ne443_b36 ne443_b385 ne443_tt gb443 sz443 Xj387 ej387 Nj387 Zj387 Kj387 fj387_0 fj387_1 fj387_2 fj387_3 fj387_4 fj387_5 fj387_6 fj387_7 fj387_8 fj387_9 gn491 gc491 Ah491 la491 X491 e491 E491 Ai491 Ex491 st491 g491 ne491_b36 ne491_b443 ne491_b6 F492 F493 F494 F495 F496 F497 F498 F499 F500 F501 K491 Zs491 P491 X502 e502 st502 X503 st503 Nq503 e503 N503 X504 st504 Nq504 e504 N504 gn505 gc505 X505 e505 E505 Ar505 st505 g505 ne505_b6 F506 F507 F508 F509 F510 F511 F512 F513 F514 K505 Zs505 P505 X515 st515 Nq515 e515 N515 X516 st516 Nq516 e516 N516 gn517 gc517 X517 e517 E517 Ar517 st517 g517 ne517_b6 F518 F519 F520 F521 F522 F523 F524 F525 F526 F527 K517 Zs517 P517 X528 st528 Nq528 e528 N528 X529 st529 Nq529 e529 N529 gn530 gc530 X530 e530 E530 Ar530 st530 g530 ne530_b6 F531 F532 F533 F534 F535 F536 F537 F538 F539 F540 F541 K530 Zs530 P530 X542 st542 Nq542 e542 N542 X543 st543 Nq543 e543 N543 gn544 gc544 X544 e544 E544 Ar544 st544 g544 ne544_b6 F545 F546 F547 F548 F549 F550 F551 F552 F553 F554 F555 F556 K544 Zs544 P544
             intro nn496
             induction nn496 with
             | zero => intro i496_19 i496_20 i496_21 z496_0 z496_1 z496_2 z496_3 z496_4 z496_5 s496_22 q496_22 s496_23 q496_23 s496_24 q496_24 s496_25 q496_25 s496_26 q496_26 s496_27 q496_27 Tj496 hj496 Lj496 Xj496 ej496 Nj496 Zj496 Kj496 fj496_0 fj496_1 fj496_2 fj496_3 fj496_4 fj496_5 fj496_6 fj496_7 fj496_8 fj496_9 fj496_10 fj496_11 fj496_12 hK; exact (knone hK).elim
             | succ nn496 ih496 =>
              intro i496_19 i496_20 i496_21 z496_0 z496_1 z496_2 z496_3 z496_4 z496_5 s496_22 q496_22 s496_23 q496_23 s496_24 q496_24 s496_25 q496_25 s496_26 q496_26 s496_27 q496_27 Tj496 hj496 Lj496 Xj496 ej496 Nj496 Zj496 Kj496 fj496_0 fj496_1 fj496_2 fj496_3 fj496_4 fj496_5 fj496_6 fj496_7 fj496_8 fj496_9 fj496_10 fj496_11 fj496_12 hK
              show OG p e below Φ Tj496 m 496 #[rv tt, rv net, iv 5, iv 8, rv b6, rv b11, rv b29, rv b36, rv b44, rv b54, rv b65, iv i144_11, rv b77, iv i335_13, rv b491, rv b505, rv b517, rv b530, rv b544, iv i496_19, iv i496_20, iv i496_21, s496_22, s496_23, s496_24, s496_25, s496_26, s496_27] []
              refine gI Xj496 hx hby (eD D15_15_ 9 rfl) rfl ?_
              refine gIn Xj496 hx hby (eD D15_15_ 10 rfl) rfl ?_
              by_cases hc557 : i496_21 < (8 : Int32)
              replace hK := kif_t hc557 hK
              refine gCn Xj496 hx hby (eD D15_15_ 11 rfl) (XT.ii_ge_f hc557) ?_
              show OG p e below Φ Tj496 m 502 #[rv tt, rv net, iv 5, iv 8, rv b6, rv b11, rv b29, rv b36, rv b44, rv b54, rv b65, iv i144_11, rv b77, iv i335_13, rv b491, rv b505, rv b517, rv b530, rv b544, iv i496_19, iv i496_20, iv i496_21, s496_22, s496_23, s496_24, s496_25, s496_26, s496_27] []
              have J521 : ∀ (nn521 : Nat) (i521_21 : Int32) (Tj521 : State) (hj521 : Heap) (Lj521 : List Loc), Stand p l e ({ frames := 4, cells := 33, slots := 287, locals := 57 } : Room) s m #[(.ref tt), (.ref net)] below meth c Tj521 Lj521 29 247 → Tj521.heap = hj521 → Fr n0 Lj521 → n0 ≤ hj521.size → Keep h0 hj521 [tt] → NetP Z hj521 S net lj lr lp d mc ps → Exa Z hj521 tt s4_ → Old Z n0 hj521 → AA Z hj521 b6 bs6 r6 → PA Z hj521 b29 .boolean z496_0 → PA Z hj521 b385 .int z335_0 → FS Z hj521 tt (.ref b268) (.ref b307) (.ref b346) .null .null .null .null (.ref b385) (.ref b443) (.int (0 : Int32)) → PA Z hj521 b491 .boolean z496_1 → Exa Z hj521 b491 "[Z" → PA Z hj521 b505 .int z496_2 → PA Z hj521 b517 .int z496_3 → PA Z hj521 b530 .int z496_4 → PA Z hj521 b544 .int z496_5 → topK_k521 (oeK ps) r6 z335_0 i496_19 i496_20 z496_0 z496_1 z496_2 z496_3 z496_4 z496_5 (topK_k496 (oeK ps) r6 z335_0  nn496) nn521 i521_21 = some t_ → OG p e below Φ Tj521 m 521 #[rv tt, rv net, iv (5 : Int32), iv (8 : Int32), rv b6, rv b11, rv b29, rv b36, rv b44, rv b54, rv b65, iv i144_11, rv b77, iv i335_13, rv b491, rv b505, rv b517, rv b530, rv b544, iv i496_19, iv i496_20, iv i521_21, s496_22, s496_23, s496_24, s496_25, s496_26, s496_27] [] := by
               clear hK
               clear ne385_tt Xj496 ej496 Nj496 Zj496 Kj496 fj496_0 fj496_1 fj496_2 fj496_3 fj496_4 fj496_5 fj496_6 fj496_7 fj496_8 fj496_9 fj496_10 fj496_11 fj496_12
               intro nn521
               induction nn521 with
               | zero => intro i521_21 Tj521 hj521 Lj521 Xj521 ej521 Nj521 Zj521 Kj521 fj521_0 fj521_1 fj521_2 fj521_3 fj521_4 fj521_5 fj521_6 fj521_7 fj521_8 fj521_9 fj521_10 fj521_11 fj521_12 hK; exact (knone hK).elim
               | succ nn521 ih521 =>
                intro i521_21 Tj521 hj521 Lj521 Xj521 ej521 Nj521 Zj521 Kj521 fj521_0 fj521_1 fj521_2 fj521_3 fj521_4 fj521_5 fj521_6 fj521_7 fj521_8 fj521_9 fj521_10 fj521_11 fj521_12 hK
                rw [topK_k521] at hK
                show OG p e below Φ Tj521 m 521 #[rv tt, rv net, iv 5, iv 8, rv b6, rv b11, rv b29, rv b36, rv b44, rv b54, rv b65, iv i144_11, rv b77, iv i335_13, rv b491, rv b505, rv b517, rv b530, rv b544, iv i496_19, iv i496_20, iv i521_21, s496_22, s496_23, s496_24, s496_25, s496_26, s496_27] []
                refine gA Xj521 hx hby (eD D15_15_ 13 rfl) rfl rfl ?_
                refine gI Xj521 hx hby (eD D15_15_ 14 rfl) rfl ?_
                refine gIc (x := 1) Xj521 hx hby (eD D15_15_ 15 rfl) rfl ?_
                replace hK := kst_some hK
                obtain ⟨x558, in558, ex558, hK⟩ := hK
                obtain ⟨cl558, Aq558, iq558, -⟩ := PA.get fj521_7 in558 rfl
                obtain ⟨T558, h558, X558, e558, W558, st558⟩ := stZ Xj521 hx hZ ej521 Aq558 iq558 (g := (mkF m 526 #[rv tt, rv net, iv 5, iv 8, rv b6, rv b11, rv b29, rv b36, rv b44, rv b54, rv b65, iv i144_11, rv b77, iv i335_13, rv b491, rv b505, rv b517, rv b530, rv b544, iv i496_19, iv i496_20, iv i521_21, s496_22, s496_23, s496_24, s496_25, s496_26, s496_27] [(.int 1), (.int i521_21), (.ref b491)])) rfl rfl (hb hby (eD D15_16_ 0 rfl))
                have W558 : Wr hj521 h558 b491 i521_21.toNatClampNeg (.int (1 : Int32)) := W558
                have F559 := fj521_0.other W558 (hS2 _ sz491)
                have F560 := fj521_1.wr W558
                have F561 := fj521_2.wr W558 gb491
                have F562 := fj521_3.other W558 ni491_b6
                have F563 := fj521_4.other W558 ne491_b29
                have F564 := fj521_5.other W558 ne491_b385
                have F565 := fj521_6.other W558 ne491_tt
                have F566 := fj521_8.wr W558
                have F567 := fj521_9.other W558 (Ne.symm ne505_b491)
                have F568 := fj521_10.other W558 (Ne.symm ne517_b491)
                have F569 := fj521_11.other W558 (Ne.symm ne530_b491)
                have F570 := fj521_12.other W558 (Ne.symm ne544_b491)
                have P558 := PA.set fj521_7 in558 W558 (by decide) ex558
                have K558 := Kj521.wr W558 (Or.inr sz491)
                have N558 := Fr.snoc X558 Nj521 gb491
                have Zs558 := ozw W558 Zj521
                refine os st558 ?_
                refine gA X558 hx hby (eD D15_16_ 1 rfl) rfl rfl ?_
                refine gI X558 hx hby (eD D15_16_ 2 rfl) rfl ?_
                replace hK := kll_some hK
                obtain ⟨r571, in571, er571, hK⟩ := hK
                obtain ⟨b571, hb571⟩ : ∃ z, z = bs6.getD i521_21.toNatClampNeg 0 := ⟨_, rfl⟩
                obtain ⟨cl571, Aq571, iq571, at571⟩ := AA.at F562 in571 hb571
                have P571 := AA.row F562 in571 hb571 er571
                have mb571 := AA.mem F562 in571 hb571
                refine os (fun _ z => X558.aaload hx (by rw [e558]; exact Aq571.1) (oia hZ Aq571.2.1) rfl Aq571.2.2 iq571 at571 (g := (mkF m 531 #[rv tt, rv net, iv 5, iv 8, rv b6, rv b11, rv b29, rv b36, rv b44, rv b54, rv b65, iv i144_11, rv b77, iv i335_13, rv b491, rv b505, rv b517, rv b530, rv b544, iv i496_19, iv i496_20, iv i521_21, s496_22, s496_23, s496_24, s496_25, s496_26, s496_27] [(.int i521_21), (.ref b6)])) rfl rfl (hb hby (eD D15_16_ 3 rfl)) _ z) ?_
                refine gAs X558 hx hby (eD D15_16_ 4 rfl) rfl (ls' := #[rv tt, rv net, iv 5, iv 8, rv b6, rv b11, rv b29, rv b36, rv b44, rv b54, rv b65, iv i144_11, rv b77, iv i335_13, rv b491, rv b505, rv b517, rv b530, rv b544, iv i496_19, iv i496_20, iv i521_21, rv b571, s496_23, s496_24, s496_25, s496_26, s496_27]) (XS.store1 rfl q496_22 rfl) ?_
                refine gA X558 hx hby (eD D15_16_ 5 rfl) rfl rfl ?_
                obtain ⟨cl572, Aq572, S572, M572⟩ := PA.len P571
                refine os (fun _ z => X558.arraylength hx (by rw [e558]; exact Aq572.1) (oia hZ Aq572.2.1) (g := (mkF m 536 #[rv tt, rv net, iv 5, iv 8, rv b6, rv b11, rv b29, rv b36, rv b44, rv b54, rv b65, iv i144_11, rv b77, iv i335_13, rv b491, rv b505, rv b517, rv b530, rv b544, iv i496_19, iv i496_20, iv i521_21, rv b571, s496_23, s496_24, s496_25, s496_26, s496_27] [(.ref b571)])) rfl rfl (hb hby (eD D15_16_ 6 rfl)) _ z) ?_
                rw [len_of S572 M572]
                show OG p e below Φ T558 m 537 #[rv tt, rv net, iv 5, iv 8, rv b6, rv b11, rv b29, rv b36, rv b44, rv b54, rv b65, iv i144_11, rv b77, iv i335_13, rv b491, rv b505, rv b517, rv b530, rv b544, iv i496_19, iv i496_20, iv i521_21, rv b571, s496_23, s496_24, s496_25, s496_26, s496_27] [(.int (own_n r571))]
                refine gIs X558 hx hby (eD D15_16_ 7 rfl) (ls' := #[rv tt, rv net, iv 5, iv 8, rv b6, rv b11, rv b29, rv b36, rv b44, rv b54, rv b65, iv i144_11, rv b77, iv i335_13, rv b491, rv b505, rv b517, rv b530, rv b544, iv i496_19, iv i496_20, iv i521_21, rv b571, iv (own_n r571), s496_24, s496_25, s496_26, s496_27]) (XS.store1 rfl q496_23 rfl) ?_
                refine gIc (x := 0) X558 hx hby (eD D15_16_ 8 rfl) rfl ?_
                refine gIs X558 hx hby (eD D15_16_ 9 rfl) (ls' := #[rv tt, rv net, iv 5, iv 8, rv b6, rv b11, rv b29, rv b36, rv b44, rv b54, rv b65, iv i144_11, rv b77, iv i335_13, rv b491, rv b505, rv b517, rv b530, rv b544, iv i496_19, iv i496_20, iv i521_21, rv b571, iv (own_n r571), iv 0, s496_25, s496_26, s496_27]) (XS.store1 rfl q496_24 rfl) ?_
                show OG p e below Φ T558 m 542 #[rv tt, rv net, iv 5, iv 8, rv b6, rv b11, rv b29, rv b36, rv b44, rv b54, rv b65, iv i144_11, rv b77, iv i335_13, rv b491, rv b505, rv b517, rv b530, rv b544, iv i496_19, iv i496_20, iv i521_21, rv b571, iv (own_n r571), iv 0, s496_25, s496_26, s496_27] []
                have J542 : ∀ (nn542 : Nat) (i542_24 : Int32) (i542_19 : Int32) (i542_20 : Int32) (z542_0 : List Int32) (z542_1 : List Int32) (z542_2 : List Int32) (z542_3 : List Int32) (z542_4 : List Int32) (z542_5 : List Int32) (s542_25 : Slot) (q542_25 : own_s1 s542_25) (s542_26 : Slot) (q542_26 : own_s1 s542_26) (s542_27 : Slot) (q542_27 : own_s1 s542_27) (Tj542 : State) (hj542 : Heap) (Lj542 : List Loc), Stand p l e ({ frames := 4, cells := 33, slots := 287, locals := 57 } : Room) s m #[(.ref tt), (.ref net)] below meth c Tj542 Lj542 29 247 → Tj542.heap = hj542 → Fr n0 Lj542 → n0 ≤ hj542.size → Keep h0 hj542 [tt] → NetP Z hj542 S net lj lr lp d mc ps → Exa Z hj542 tt s4_ → Old Z n0 hj542 → AA Z hj542 b6 bs6 r6 → PA Z hj542 b29 .boolean z542_0 → PA Z hj542 b385 .int z335_0 → FS Z hj542 tt (.ref b268) (.ref b307) (.ref b346) .null .null .null .null (.ref b385) (.ref b443) (.int (0 : Int32)) → Exa Z hj542 b491 "[Z" → PA Z hj542 b505 .int z542_2 → PA Z hj542 b517 .int z542_3 → PA Z hj542 b530 .int z542_4 → PA Z hj542 b544 .int z542_5 → PA Z hj542 b491 .boolean z542_1 → PA Z hj542 b571 .int r571 → topK_k542 (oeK ps) r6 z335_0 i521_21 r571 (topK_k496 (oeK ps) r6 z335_0  nn496) nn542 i542_24 i542_19 i542_20 z542_0 z542_1 z542_2 z542_3 z542_4 z542_5 = some t_ → OG p e below Φ Tj542 m 542 #[rv tt, rv net, iv (5 : Int32), iv (8 : Int32), rv b6, rv b11, rv b29, rv b36, rv b44, rv b54, rv b65, iv i144_11, rv b77, iv i335_13, rv b491, rv b505, rv b517, rv b530, rv b544, iv i542_19, iv i542_20, iv i521_21, rv b571, iv (own_n r571), iv i542_24, s542_25, s542_26, s542_27] [] := by
                 clear hK
                 clear Xj521 ej521 Nj521 Zj521 Kj521 fj521_0 fj521_1 fj521_2 fj521_3 fj521_4 fj521_5 fj521_6 fj521_7 fj521_8 fj521_9 fj521_10 fj521_11 fj521_12 in558 ex558 Aq558 iq558 X558 e558 W558 st558 F559 F560 F561 F562 F563 F564 F565 F566 F567 F568 F569 F570 P558 K558 N558 Zs558 in571 er571 hb571 Aq571 iq571 at571 P571 Aq572 S572 M572
                 intro nn542
                 induction nn542 with
                 | zero => intro i542_24 i542_19 i542_20 z542_0 z542_1 z542_2 z542_3 z542_4 z542_5 s542_25 q542_25 s542_26 q542_26 s542_27 q542_27 Tj542 hj542 Lj542 Xj542 ej542 Nj542 Zj542 Kj542 fj542_0 fj542_1 fj542_2 fj542_3 fj542_4 fj542_5 fj542_6 fj542_7 fj542_8 fj542_9 fj542_10 fj542_11 fj542_12 fj542_13 hK; exact (knone hK).elim
                 | succ nn542 ih542 =>
                  intro i542_24 i542_19 i542_20 z542_0 z542_1 z542_2 z542_3 z542_4 z542_5 s542_25 q542_25 s542_26 q542_26 s542_27 q542_27 Tj542 hj542 Lj542 Xj542 ej542 Nj542 Zj542 Kj542 fj542_0 fj542_1 fj542_2 fj542_3 fj542_4 fj542_5 fj542_6 fj542_7 fj542_8 fj542_9 fj542_10 fj542_11 fj542_12 fj542_13 hK
                  show OG p e below Φ Tj542 m 542 #[rv tt, rv net, iv 5, iv 8, rv b6, rv b11, rv b29, rv b36, rv b44, rv b54, rv b65, iv i144_11, rv b77, iv i335_13, rv b491, rv b505, rv b517, rv b530, rv b544, iv i542_19, iv i542_20, iv i521_21, rv b571, iv (own_n r571), iv i542_24, s542_25, s542_26, s542_27] []
                  refine gI Xj542 hx hby (eD D15_16_ 10 rfl) rfl ?_
                  refine gI Xj542 hx hby (eD D15_16_ 11 rfl) rfl ?_
                  by_cases hc573 : i542_24 < (own_n r571)
                  replace hK := kif_t hc573 hK
                  refine gCn Xj542 hx hby (eD D15_16_ 12 rfl) (XT.ii_ge_f hc573) ?_
                  refine gA Xj542 hx hby (eD D15_16_ 13 rfl) rfl rfl ?_
                  refine gI Xj542 hx hby (eD D15_16_ 14 rfl) rfl ?_
                  replace hK := kld_some hK
                  obtain ⟨v574, in574, ev574, hK⟩ := hK
                  obtain ⟨cl574, Aq574, iq574, at574⟩ := PA.get fj542_13 in574 ev574
                  refine os (fun _ z => Xj542.iaload hx (by rw [ej542]; exact Aq574.1) (oia hZ Aq574.2.1) Aq574.2.2 iq574 at574 (g := (mkF m 553 #[rv tt, rv net, iv 5, iv 8, rv b6, rv b11, rv b29, rv b36, rv b44, rv b54, rv b65, iv i144_11, rv b77, iv i335_13, rv b491, rv b505, rv b517, rv b530, rv b544, iv i542_19, iv i542_20, iv i521_21, rv b571, iv (own_n r571), iv i542_24, s542_25, s542_26, s542_27] [(.int i542_24), (.ref b571)])) rfl rfl (hb hby (eD D15_16_ 15 rfl)) _ z) ?_
                  refine gIs Xj542 hx hby (eD D15_17_ 0 rfl) (ls' := #[rv tt, rv net, iv 5, iv 8, rv b6, rv b11, rv b29, rv b36, rv b44, rv b54, rv b65, iv i144_11, rv b77, iv i335_13, rv b491, rv b505, rv b517, rv b530, rv b544, iv i542_19, iv i542_20, iv i521_21, rv b571, iv (own_n r571), iv i542_24, iv v574, s542_26, s542_27]) (XS.store1 rfl q542_25 rfl) ?_
                  refine gA Xj542 hx hby (eD D15_17_ 1 rfl) rfl rfl ?_
                  refine gI Xj542 hx hby (eD D15_17_ 2 rfl) rfl ?_
                  replace hK := kld_some hK
                  obtain ⟨v575, in575, ev575, hK⟩ := hK
                  obtain ⟨cl575, Aq575, iq575, at575⟩ := PA.get fj542_4 in575 ev575
                  refine os (fun _ z => Xj542.baloadBooleans hx (by rw [ej542]; exact Aq575.1) (oia hZ Aq575.2.1) Aq575.2.2 iq575 at575 (g := (mkF m 560 #[rv tt, rv net, iv 5, iv 8, rv b6, rv b11, rv b29, rv b36, rv b44, rv b54, rv b65, iv i144_11, rv b77, iv i335_13, rv b491, rv b505, rv b517, rv b530, rv b544, iv i542_19, iv i542_20, iv i521_21, rv b571, iv (own_n r571), iv i542_24, iv v574, s542_26, s542_27] [(.int v574), (.ref b29)])) rfl rfl (hb hby (eD D15_17_ 3 rfl)) _ z) ?_
                  by_cases hc576 : v575 = 0
                  replace hK := kif_t hc576 hK
                  refine gFy (pc := 561) (pc' := 567) Xj542 hx hby (eD D15_17_ 4 rfl) (XT.i0_eq_t hc576) (by decide) (by decide) ?_
                  refine gA Xj542 hx hby (eD D15_17_ 5 rfl) rfl rfl ?_
                  refine gI Xj542 hx hby (eD D15_17_ 6 rfl) rfl ?_
                  refine gI Xj542 hx hby (eD D15_17_ 7 rfl) rfl ?_
                  replace hK := kst_some hK
                  obtain ⟨x577, in577, ex577, hK⟩ := hK
                  obtain ⟨cl577, Aq577, iq577, -⟩ := PA.get fj542_8 in577 rfl
                  obtain ⟨T577, h577, X577, e577, W577, st577⟩ := stI Xj542 hx hZ ej542 Aq577 iq577 (g := (mkF m 573 #[rv tt, rv net, iv 5, iv 8, rv b6, rv b11, rv b29, rv b36, rv b44, rv b54, rv b65, iv i144_11, rv b77, iv i335_13, rv b491, rv b505, rv b517, rv b530, rv b544, iv i542_19, iv i542_20, iv i521_21, rv b571, iv (own_n r571), iv i542_24, iv v574, s542_26, s542_27] [(.int i521_21), (.int i542_19), (.ref b505)])) rfl rfl (hb hby (eD D15_17_ 8 rfl))
                  have F578 := fj542_0.other W577 (hS2 _ sz505)
                  have F579 := fj542_1.wr W577
                  have F580 := fj542_2.wr W577 gb505
                  have F581 := fj542_3.other W577 ni505_b6
                  have F582 := fj542_4.other W577 ne505_b29
                  have F583 := fj542_5.other W577 ne505_b385
                  have F584 := fj542_6.other W577 ne505_tt
                  have F585 := fj542_7.wr W577
                  have F586 := fj542_9.other W577 (Ne.symm ne517_b505)
                  have F587 := fj542_10.other W577 (Ne.symm ne530_b505)
                  have F588 := fj542_11.other W577 (Ne.symm ne544_b505)
                  have F589 := fj542_12.other W577 ne505_b491
                  have F590 := fj542_13.other W577 (own_nbx mb571.1 ni505_b6)
                  have P577 := PA.set fj542_8 in577 W577 rfl ex577
                  have K577 := Kj542.wr W577 (Or.inr sz505)
                  have N577 := Fr.snoc X577 Nj542 gb505
                  have Zs577 := ozw W577 Zj542
                  refine os st577 ?_
                  refine gI X577 hx hby (eD D15_17_ 9 rfl) rfl ?_
                  refine gIs X577 hx hby (eD D15_17_ 10 rfl) (ls' := #[rv tt, rv net, iv 5, iv 8, rv b6, rv b11, rv b29, rv b36, rv b44, rv b54, rv b65, iv i144_11, rv b77, iv i335_13, rv b491, rv b505, rv b517, rv b530, rv b544, iv i542_19, iv i542_20, iv i521_21, rv b571, iv (own_n r571), iv i542_24, iv v574, iv i521_21, s542_27]) (XS.store1 rfl q542_26 rfl) ?_
                  refine gI X577 hx hby (eD D15_17_ 11 rfl) rfl ?_
                  refine gIs X577 hx hby (eD D15_17_ 12 rfl) (ls' := #[rv tt, rv net, iv 5, iv 8, rv b6, rv b11, rv b29, rv b36, rv b44, rv b54, rv b65, iv i144_11, rv b77, iv i335_13, rv b491, rv b505, rv b517, rv b530, rv b544, iv i542_19, iv i542_20, iv i521_21, rv b571, iv (own_n r571), iv i542_24, iv v574, iv i521_21, iv v574]) (XS.store1 rfl q542_27 rfl) ?_
                  show OG p e below Φ T577 m 582 #[rv tt, rv net, iv 5, iv 8, rv b6, rv b11, rv b29, rv b36, rv b44, rv b54, rv b65, iv i144_11, rv b77, iv i335_13, rv b491, rv b505, rv b517, rv b530, rv b544, iv i542_19, iv i542_20, iv i521_21, rv b571, iv (own_n r571), iv i542_24, iv v574, iv i521_21, iv v574] []
                  have J582 : ∀ (nn582 : Nat) (i582_20 : Int32) (i582_26 : Int32) (i582_27 : Int32) (z582_0 : List Int32) (z582_1 : List Int32) (z582_2 : List Int32) (z582_3 : List Int32) (Tj582 : State) (hj582 : Heap) (Lj582 : List Loc), Stand p l e ({ frames := 4, cells := 33, slots := 287, locals := 57 } : Room) s m #[(.ref tt), (.ref net)] below meth c Tj582 Lj582 29 247 → Tj582.heap = hj582 → Fr n0 Lj582 → n0 ≤ hj582.size → Keep h0 hj582 [tt] → NetP Z hj582 S net lj lr lp d mc ps → Exa Z hj582 tt s4_ → Old Z n0 hj582 → AA Z hj582 b6 bs6 r6 → PA Z hj582 b29 .boolean z582_0 → PA Z hj582 b385 .int z335_0 → FS Z hj582 tt (.ref b268) (.ref b307) (.ref b346) .null .null .null .null (.ref b385) (.ref b443) (.int (0 : Int32)) → Exa Z hj582 b491 "[Z" → PA Z hj582 b517 .int z542_3 → PA Z hj582 b530 .int z582_2 → PA Z hj582 b544 .int z582_3 → PA Z hj582 b491 .boolean z582_1 → PA Z hj582 b571 .int r571 → PA Z hj582 b505 .int x577 → topK_k582 (oeK ps) r6 z335_0 i542_24 i542_19 z542_3 x577 (topK_k496 (oeK ps) r6 z335_0  nn496) (topK_k542 (oeK ps) r6 z335_0 i521_21 r571 (topK_k496 (oeK ps) r6 z335_0  nn496) nn542) nn582 i582_20 i582_26 i582_27 z582_0 z582_1 z582_2 z582_3 = some t_ → OG p e below Φ Tj582 m 582 #[rv tt, rv net, iv (5 : Int32), iv (8 : Int32), rv b6, rv b11, rv b29, rv b36, rv b44, rv b54, rv b65, iv i144_11, rv b77, iv i335_13, rv b491, rv b505, rv b517, rv b530, rv b544, iv i542_19, iv i582_20, iv i521_21, rv b571, iv (own_n r571), iv i542_24, iv v574, iv i582_26, iv i582_27] [] := by
                   clear hK
                   clear ni505_b6 ne505_b385 ne505_tt gb505 sz505 Xj542 ej542 Nj542 Zj542 Kj542 fj542_0 fj542_1 fj542_2 fj542_3 fj542_4 fj542_5 fj542_6 fj542_7 fj542_8 fj542_9 fj542_10 fj542_11 fj542_12 fj542_13 in574 ev574 Aq574 iq574 at574 in575 ev575 Aq575 iq575 at575 in577 ex577 Aq577 iq577 X577 e577 W577 st577 F578 F579 F580 F581 F582 F583 F584 F585 F586 F587 F588 F589 F590 P577 K577 N577 Zs577
                   intro nn582
                   induction nn582 with
                   | zero => intro i582_20 i582_26 i582_27 z582_0 z582_1 z582_2 z582_3 Tj582 hj582 Lj582 Xj582 ej582 Nj582 Zj582 Kj582 fj582_0 fj582_1 fj582_2 fj582_3 fj582_4 fj582_5 fj582_6 fj582_7 fj582_8 fj582_9 fj582_10 fj582_11 fj582_12 fj582_13 hK; exact (knone hK).elim
                   | succ nn582 ih582 =>
                    intro i582_20 i582_26 i582_27 z582_0 z582_1 z582_2 z582_3 Tj582 hj582 Lj582 Xj582 ej582 Nj582 Zj582 Kj582 fj582_0 fj582_1 fj582_2 fj582_3 fj582_4 fj582_5 fj582_6 fj582_7 fj582_8 fj582_9 fj582_10 fj582_11 fj582_12 fj582_13 hK
                    rw [topK_k582] at hK
                    show OG p e below Φ Tj582 m 582 #[rv tt, rv net, iv 5, iv 8, rv b6, rv b11, rv b29, rv b36, rv b44, rv b54, rv b65, iv i144_11, rv b77, iv i335_13, rv b491, rv b505, rv b517, rv b530, rv b544, iv i542_19, iv i582_20, iv i521_21, rv b571, iv (own_n r571), iv i542_24, iv v574, iv i582_26, iv i582_27] []
                    refine gA Xj582 hx hby (eD D15_17_ 13 rfl) rfl rfl ?_
                    refine gI Xj582 hx hby (eD D15_17_ 14 rfl) rfl ?_
                    refine gIc (x := 1) Xj582 hx hby (eD D15_17_ 15 rfl) rfl ?_
                    replace hK := kst_some hK
                    obtain ⟨x591, in591, ex591, hK⟩ := hK
                    obtain ⟨cl591, Aq591, iq591, -⟩ := PA.get fj582_4 in591 rfl
                    obtain ⟨T591, h591, X591, e591, W591, st591⟩ := stZ Xj582 hx hZ ej582 Aq591 iq591 (g := (mkF m 587 #[rv tt, rv net, iv 5, iv 8, rv b6, rv b11, rv b29, rv b36, rv b44, rv b54, rv b65, iv i144_11, rv b77, iv i335_13, rv b491, rv b505, rv b517, rv b530, rv b544, iv i542_19, iv i582_20, iv i521_21, rv b571, iv (own_n r571), iv i542_24, iv v574, iv i582_26, iv i582_27] [(.int 1), (.int i582_27), (.ref b29)])) rfl rfl (hb hby (eD D15_18_ 0 rfl))
                    have W591 : Wr hj582 h591 b29 i582_27.toNatClampNeg (.int (1 : Int32)) := W591
                    have F592 := fj582_0.other W591 (hS2 _ sz29)
                    have F593 := fj582_1.wr W591
                    have F594 := fj582_2.wr W591 gb29
                    have F595 := fj582_3.other W591 ni29_b6
                    have F596 := fj582_5.other W591 (Ne.symm ne385_b29)
                    have F597 := fj582_6.other W591 ne29_tt
                    have F598 := fj582_7.wr W591
                    have F599 := fj582_8.other W591 (Ne.symm ne517_b29)
                    have F600 := fj582_9.other W591 (Ne.symm ne530_b29)
                    have F601 := fj582_10.other W591 (Ne.symm ne544_b29)
                    have F602 := fj582_11.other W591 (Ne.symm ne491_b29)
                    have F603 := fj582_12.other W591 (own_nbx mb571.1 ni29_b6)
                    have F604 := fj582_13.other W591 (Ne.symm ne505_b29)
                    have P591 := PA.set fj582_4 in591 W591 (by decide) ex591
                    have K591 := Kj582.wr W591 (Or.inr sz29)
                    have N591 := Fr.snoc X591 Nj582 gb29
                    have Zs591 := ozw W591 Zj582
                    refine os st591 ?_
                    refine gAn X591 hx hby (eD D15_18_ 1 rfl) rfl rfl ?_
                    refine gI X591 hx hby (eD D15_18_ 2 rfl) rfl ?_
                    refine gI X591 hx hby (eD D15_18_ 3 rfl) rfl ?_
                    replace hK := kbd_some hK
                    obtain ⟨v605, kb605, hK⟩ := hK
                    obtain ⟨_, T605, L605, X605, hQ605, st605⟩ := own_callSt X591 hx hZ hown (ow289 hw) (ow290 hw) (ow93 hw) (ow291 hw) (by decide) (roe l Z a0 hw [] S net lj lr lp d mc ps i582_27 i582_26 v605 h591 n0 Zs591 F592 kb605) e591 (W := 0) (by decide) (pc := 593) (ls := #[rv tt, rv net, iv 5, iv 8, rv b6, rv b11, rv b29, rv b36, rv b44, rv b54, rv b65, iv i144_11, rv b77, iv i335_13, rv b491, rv b505, rv b517, rv b530, rv b544, iv i542_19, iv i582_20, iv i521_21, rv b571, iv (own_n r571), iv i542_24, iv v574, iv i582_26, iv i582_27]) (stk := [(.int i582_26), (.int i582_27), (.ref net)]) (by rw [hml]; rfl) (argsL := [(.ref net), (.int i582_27), (.int i582_26)]) (rest := []) (lenOf pd22 rfl) rfl rfl (Nat.le_of_eq rfl) (hb hby (eD D15_18_ 4 rfl))
                    obtain ⟨rfl, Nq605, e605⟩ := hQ605
                    have N605 := Fr.app N591 Nq605
                    refine os st605 ?_
                    refine gIs X605 hx hby (eD D15_18_ 5 rfl) (ls' := #[rv tt, rv net, iv 5, iv 8, rv b6, rv b11, rv b29, rv b36, rv b44, rv b54, rv b65, iv i144_11, rv b77, iv i335_13, rv b491, rv b505, rv b517, rv b530, rv b544, iv i542_19, iv i582_20, iv i521_21, rv b571, iv (own_n r571), iv i542_24, iv v574, iv v605, iv i582_27]) rfl ?_
                    refine gA X605 hx hby (eD D15_18_ 6 rfl) rfl rfl ?_
                    refine gI X605 hx hby (eD D15_18_ 7 rfl) rfl ?_
                    refine gI X605 hx hby (eD D15_18_ 8 rfl) rfl ?_
                    replace hK := kst_some hK
                    obtain ⟨x606, in606, ex606, hK⟩ := hK
                    obtain ⟨cl606, Aq606, iq606, -⟩ := PA.get F600 in606 rfl
                    obtain ⟨T606, h606, X606, e606, W606, st606⟩ := stI X605 hx hZ e605 Aq606 iq606 (g := (mkF m 604 #[rv tt, rv net, iv 5, iv 8, rv b6, rv b11, rv b29, rv b36, rv b44, rv b54, rv b65, iv i144_11, rv b77, iv i335_13, rv b491, rv b505, rv b517, rv b530, rv b544, iv i542_19, iv i582_20, iv i521_21, rv b571, iv (own_n r571), iv i542_24, iv v574, iv v605, iv i582_27] [(.int i582_27), (.int i582_20), (.ref b530)])) rfl rfl (hb hby (eD D15_18_ 9 rfl))
                    have F607 := F592.other W606 (hS2 _ sz530)
                    have F608 := F593.wr W606
                    have F609 := F594.wr W606 gb530
                    have F610 := F595.other W606 ni530_b6
                    have F611 := F596.other W606 ne530_b385
                    have F612 := F597.other W606 ne530_tt
                    have F613 := F598.wr W606
                    have F614 := F599.other W606 ne530_b517
                    have F615 := F601.other W606 (Ne.symm ne544_b530)
                    have F616 := F602.other W606 ne530_b491
                    have F617 := F603.other W606 (own_nbx mb571.1 ni530_b6)
                    have F618 := F604.other W606 ne530_b505
                    have F619 := P591.other W606 ne530_b29
                    have P606 := PA.set F600 in606 W606 rfl ex606
                    have K606 := K591.wr W606 (Or.inr sz530)
                    have N606 := Fr.snoc X606 N605 gb530
                    have Zs606 := ozw W606 Zs591
                    refine os st606 ?_
                    refine gA X606 hx hby (eD D15_18_ 10 rfl) rfl rfl ?_
                    refine gI X606 hx hby (eD D15_18_ 11 rfl) rfl ?_
                    refine os (fun _ z => XS.iinc X606.here hx rfl (hb hby (eD D15_18_ 12 rfl)) rfl (l' := #[rv tt, rv net, iv 5, iv 8, rv b6, rv b11, rv b29, rv b36, rv b44, rv b54, rv b65, iv i144_11, rv b77, iv i335_13, rv b491, rv b505, rv b517, rv b530, rv b544, iv i542_19, iv (i582_20 + 1), iv i521_21, rv b571, iv (own_n r571), iv i542_24, iv v574, iv v605, iv i582_27]) rfl z) ?_
                    show OG p e below Φ T606 m 612 #[rv tt, rv net, iv 5, iv 8, rv b6, rv b11, rv b29, rv b36, rv b44, rv b54, rv b65, iv i144_11, rv b77, iv i335_13, rv b491, rv b505, rv b517, rv b530, rv b544, iv i542_19, iv (i582_20 + 1), iv i521_21, rv b571, iv (own_n r571), iv i542_24, iv v574, iv v605, iv i582_27] [(.int i582_20), (.ref b544)]
                    refine gI X606 hx hby (eD D15_18_ 13 rfl) rfl ?_
                    replace hK := kst_some hK
                    obtain ⟨x620, in620, ex620, hK⟩ := hK
                    obtain ⟨cl620, Aq620, iq620, -⟩ := PA.get F615 in620 rfl
                    obtain ⟨T620, h620, X620, e620, W620, st620⟩ := stI X606 hx hZ e606 Aq620 iq620 (g := (mkF m 614 #[rv tt, rv net, iv 5, iv 8, rv b6, rv b11, rv b29, rv b36, rv b44, rv b54, rv b65, iv i144_11, rv b77, iv i335_13, rv b491, rv b505, rv b517, rv b530, rv b544, iv i542_19, iv (i582_20 + 1), iv i521_21, rv b571, iv (own_n r571), iv i542_24, iv v574, iv v605, iv i582_27] [(.int v605), (.int i582_20), (.ref b544)])) rfl rfl (hb hby (eD D15_18_ 14 rfl))
                    have F621 := F607.other W620 (hS2 _ sz544)
                    have F622 := F608.wr W620
                    have F623 := F609.wr W620 gb544
                    have F624 := F610.other W620 ni544_b6
                    have F625 := F611.other W620 ne544_b385
                    have F626 := F612.other W620 ne544_tt
                    have F627 := F613.wr W620
                    have F628 := F614.other W620 ne544_b517
                    have F629 := F616.other W620 ne544_b491
                    have F630 := F617.other W620 (own_nbx mb571.1 ni544_b6)
                    have F631 := F618.other W620 ne544_b505
                    have F632 := F619.other W620 ne544_b29
                    have F633 := P606.other W620 ne544_b530
                    have P620 := PA.set F615 in620 W620 rfl ex620
                    have K620 := K606.wr W620 (Or.inr sz544)
                    have N620 := Fr.snoc X620 N606 gb544
                    have Zs620 := ozw W620 Zs606
                    refine os st620 ?_
                    refine gA X620 hx hby (eD D15_18_ 15 rfl) rfl rfl ?_
                    refine gI X620 hx hby (eD D15_19_ 0 rfl) rfl ?_
                    refine gIc (x := 1) X620 hx hby (eD D15_19_ 1 rfl) rfl ?_
                    replace hK := kst_some hK
                    obtain ⟨x634, in634, ex634, hK⟩ := hK
                    obtain ⟨cl634, Aq634, iq634, -⟩ := PA.get F629 in634 rfl
                    obtain ⟨T634, h634, X634, e634, W634, st634⟩ := stZ X620 hx hZ e620 Aq634 iq634 (g := (mkF m 620 #[rv tt, rv net, iv 5, iv 8, rv b6, rv b11, rv b29, rv b36, rv b44, rv b54, rv b65, iv i144_11, rv b77, iv i335_13, rv b491, rv b505, rv b517, rv b530, rv b544, iv i542_19, iv (i582_20 + 1), iv i521_21, rv b571, iv (own_n r571), iv i542_24, iv v574, iv v605, iv i582_27] [(.int 1), (.int v605), (.ref b491)])) rfl rfl (hb hby (eD D15_19_ 2 rfl))
                    have W634 : Wr h620 h634 b491 v605.toNatClampNeg (.int (1 : Int32)) := W634
                    have F635 := F621.other W634 (hS2 _ sz491)
                    have F636 := F622.wr W634
                    have F637 := F623.wr W634 gb491
                    have F638 := F624.other W634 ni491_b6
                    have F639 := F625.other W634 ne491_b385
                    have F640 := F626.other W634 ne491_tt
                    have F641 := F627.wr W634
                    have F642 := F628.other W634 (Ne.symm ne517_b491)
                    have F643 := F630.other W634 (own_nbx mb571.1 ni491_b6)
                    have F644 := F631.other W634 (Ne.symm ne505_b491)
                    have F645 := F632.other W634 ne491_b29
                    have F646 := F633.other W634 (Ne.symm ne530_b491)
                    have F647 := P620.other W634 (Ne.symm ne544_b491)
                    have P634 := PA.set F629 in634 W634 (by decide) ex634
                    have K634 := K620.wr W634 (Or.inr sz491)
                    have N634 := Fr.snoc X634 N620 gb491
                    have Zs634 := ozw W634 Zs620
                    refine os st634 ?_
                    refine gI X634 hx hby (eD D15_19_ 3 rfl) rfl ?_
                    refine gIn X634 hx hby (eD D15_19_ 4 rfl) rfl ?_
                    by_cases hc648 : v605 < (5 : Int32)
                    replace hK := kif_t hc648 hK
                    refine gCn X634 hx hby (eD D15_19_ 5 rfl) (XT.ii_ge_f hc648) ?_
                    refine gAn X634 hx hby (eD D15_19_ 6 rfl) rfl rfl ?_
                    obtain ⟨T649, X649, e649, st649⟩ := getF X634 hx hZ hown (host := "") (Or.inl (ow276 hw)) Via.refl e634 F640.2.2.2.2.2.2.2.1 (g := (mkF m 628 #[rv tt, rv net, iv 5, iv 8, rv b6, rv b11, rv b29, rv b36, rv b44, rv b54, rv b65, iv i144_11, rv b77, iv i335_13, rv b491, rv b505, rv b517, rv b530, rv b544, iv i542_19, iv (i582_20 + 1), iv i521_21, rv b571, iv (own_n r571), iv i542_24, iv v574, iv v605, iv i582_27] [(.ref tt)])) rfl rfl (hb hby (eD D15_19_ 7 rfl))
                    refine os st649 ?_
                    refine gI X649 hx hby (eD D15_19_ 8 rfl) rfl ?_
                    replace hK := kld_some hK
                    obtain ⟨v650, in650, ev650, hK⟩ := hK
                    obtain ⟨cl650, Aq650, iq650, at650⟩ := PA.get F639 in650 ev650
                    refine os (fun _ z => X649.iaload hx (by rw [e649]; exact Aq650.1) (oia hZ Aq650.2.1) Aq650.2.2 iq650 at650 (g := (mkF m 633 #[rv tt, rv net, iv 5, iv 8, rv b6, rv b11, rv b29, rv b36, rv b44, rv b54, rv b65, iv i144_11, rv b77, iv i335_13, rv b491, rv b505, rv b517, rv b530, rv b544, iv i542_19, iv (i582_20 + 1), iv i521_21, rv b571, iv (own_n r571), iv i542_24, iv v574, iv v605, iv i582_27] [(.int v605), (.ref b385)])) rfl rfl (hb hby (eD D15_19_ 9 rfl)) _ z) ?_
                    by_cases hc651 : v650 < 0
                    replace hK := kif_t hc651 hK
                    refine gFy (pc := 634) (pc' := 640) X649 hx hby (eD D15_19_ 10 rfl) (XT.i0_lt_t hc651) (by decide) (by decide) ?_
                    refine gA X649 hx hby (eD D15_19_ 11 rfl) rfl rfl ?_
                    refine gI X649 hx hby (eD D15_19_ 12 rfl) rfl ?_
                    replace hK := kll_some hK
                    obtain ⟨r652, in652, er652, hK⟩ := hK
                    obtain ⟨b652, hb652⟩ : ∃ z, z = bs6.getD v605.toNatClampNeg 0 := ⟨_, rfl⟩
                    obtain ⟨cl652, Aq652, iq652, at652⟩ := AA.at F638 in652 hb652
                    have P652 := AA.row F638 in652 hb652 er652
                    have mb652 := AA.mem F638 in652 hb652
                    refine os (fun _ z => X649.aaload hx (by rw [e649]; exact Aq652.1) (oia hZ Aq652.2.1) rfl Aq652.2.2 iq652 at652 (g := (mkF m 644 #[rv tt, rv net, iv 5, iv 8, rv b6, rv b11, rv b29, rv b36, rv b44, rv b54, rv b65, iv i144_11, rv b77, iv i335_13, rv b491, rv b505, rv b517, rv b530, rv b544, iv i542_19, iv (i582_20 + 1), iv i521_21, rv b571, iv (own_n r571), iv i542_24, iv v574, iv v605, iv i582_27] [(.int v605), (.ref b6)])) rfl rfl (hb hby (eD D15_19_ 13 rfl)) _ z) ?_
                    refine gA X649 hx hby (eD D15_19_ 14 rfl) rfl rfl ?_
                    replace hK := kbd_some hK
                    obtain ⟨v653, kb653, hK⟩ := hK
                    obtain ⟨_, T653, L653, X653, hQ653, st653⟩ := own_callSt X649 hx hZ hown (ow292 hw) (ow293 hw) (ow93 hw) (ow294 hw) (by decide) (rre l Z a0 hw [] b652 b29 r652 x591 v653 h634 n0 Zs634 P652 F645 kb653) e649 (W := 0) (by decide) (pc := 647) (ls := #[rv tt, rv net, iv 5, iv 8, rv b6, rv b11, rv b29, rv b36, rv b44, rv b54, rv b65, iv i144_11, rv b77, iv i335_13, rv b491, rv b505, rv b517, rv b530, rv b544, iv i542_19, iv (i582_20 + 1), iv i521_21, rv b571, iv (own_n r571), iv i542_24, iv v574, iv v605, iv i582_27]) (stk := [(.ref b29), (.ref b652)]) (by rw [hml]; rfl) (argsL := [(.ref b652), (.ref b29)]) (rest := []) (lenOf pd21 rfl) rfl rfl (Nat.le_of_eq rfl) (hb hby (eD D15_19_ 15 rfl))
                    obtain ⟨rfl, Nq653, e653⟩ := hQ653
                    have N653 := Fr.app N634 Nq653
                    refine os st653 ?_
                    refine gIs X653 hx hby (eD D15_20_ 0 rfl) (ls' := #[rv tt, rv net, iv 5, iv 8, rv b6, rv b11, rv b29, rv b36, rv b44, rv b54, rv b65, iv i144_11, rv b77, iv i335_13, rv b491, rv b505, rv b517, rv b530, rv b544, iv i542_19, iv (i582_20 + 1), iv i521_21, rv b571, iv (own_n r571), iv i542_24, iv v574, iv v605, iv v653]) rfl ?_
                    refine gGo (pc := 652) (pc' := 582) X653 hx hby (eD D15_20_ 1 rfl) (by decide) (by decide) ?_
                    show OG p e below Φ T653 m 582 #[rv tt, rv net, iv 5, iv 8, rv b6, rv b11, rv b29, rv b36, rv b44, rv b54, rv b65, iv i144_11, rv b77, iv i335_13, rv b491, rv b505, rv b517, rv b530, rv b544, iv i542_19, iv (i582_20 + 1), iv i521_21, rv b571, iv (own_n r571), iv i542_24, iv v574, iv v605, iv v653] []
                    exact ih582 ((i582_20 + 1)) v605 v653 x591 x634 x606 x620 _ _ _ X653 e653 N653 Zs634 K634 F635 F636 F637 F638 F645 F639 F640 F641 F642 F646 F647 P634 F643 F644 hK
                    replace hK := kif_f hc651 hK
                    refine gFn X649 hx hby (eD D15_19_ 10 rfl) (XT.i0_lt_f hc651) ?_
                    refine gGo (pc := 637) (pc' := 655) X649 hx hby (eD D15_20_ 2 rfl) (by decide) (by decide) ?_
                    refine gA X649 hx hby (eD D15_20_ 3 rfl) rfl rfl ?_
                    refine os (fun _ z => XS.iinc X649.here hx rfl (hb hby (eD D15_20_ 4 rfl)) rfl (l' := #[rv tt, rv net, iv 5, iv 8, rv b6, rv b11, rv b29, rv b36, rv b44, rv b54, rv b65, iv i144_11, rv b77, iv i335_13, rv b491, rv b505, rv b517, rv b530, rv b544, iv (i542_19 + 1), iv (i582_20 + 1), iv i521_21, rv b571, iv (own_n r571), iv i542_24, iv v574, iv v605, iv i582_27]) rfl z) ?_
                    show OG p e below Φ T649 m 660 #[rv tt, rv net, iv 5, iv 8, rv b6, rv b11, rv b29, rv b36, rv b44, rv b54, rv b65, iv i144_11, rv b77, iv i335_13, rv b491, rv b505, rv b517, rv b530, rv b544, iv (i542_19 + 1), iv (i582_20 + 1), iv i521_21, rv b571, iv (own_n r571), iv i542_24, iv v574, iv v605, iv i582_27] [(.ref b517)]
                    refine gI X649 hx hby (eD D15_20_ 5 rfl) rfl ?_
                    refine gI X649 hx hby (eD D15_20_ 6 rfl) rfl ?_
                    replace hK := kst_some hK
                    obtain ⟨x654, in654, ex654, hK⟩ := hK
                    obtain ⟨cl654, Aq654, iq654, -⟩ := PA.get F642 in654 rfl
                    obtain ⟨T654, h654, X654, e654, W654, st654⟩ := stI X649 hx hZ e649 Aq654 iq654 (g := (mkF m 664 #[rv tt, rv net, iv 5, iv 8, rv b6, rv b11, rv b29, rv b36, rv b44, rv b54, rv b65, iv i144_11, rv b77, iv i335_13, rv b491, rv b505, rv b517, rv b530, rv b544, iv (i542_19 + 1), iv (i582_20 + 1), iv i521_21, rv b571, iv (own_n r571), iv i542_24, iv v574, iv v605, iv i582_27] [(.int (i582_20 + 1)), (.int (i542_19 + 1)), (.ref b517)])) rfl rfl (hb hby (eD D15_20_ 7 rfl))
                    have F655 := F635.other W654 (hS2 _ sz517)
                    have F656 := F636.wr W654
                    have F657 := F637.wr W654 gb517
                    have F658 := F638.other W654 ni517_b6
                    have F659 := F639.other W654 ne517_b385
                    have F660 := F640.other W654 ne517_tt
                    have F661 := F641.wr W654
                    have F662 := F643.other W654 (own_nbx mb571.1 ni517_b6)
                    have F663 := F644.other W654 ne517_b505
                    have F664 := F645.other W654 ne517_b29
                    have F665 := F646.other W654 (Ne.symm ne530_b517)
                    have F666 := F647.other W654 (Ne.symm ne544_b517)
                    have F667 := P634.other W654 ne517_b491
                    have P654 := PA.set F642 in654 W654 rfl ex654
                    have K654 := K634.wr W654 (Or.inr sz517)
                    have N654 := Fr.snoc X654 N634 gb517
                    have Zs654 := ozw W654 Zs634
                    refine os st654 ?_
                    refine os (fun _ z => XS.iinc X654.here hx rfl (hb hby (eD D15_20_ 8 rfl)) rfl (l' := #[rv tt, rv net, iv 5, iv 8, rv b6, rv b11, rv b29, rv b36, rv b44, rv b54, rv b65, iv i144_11, rv b77, iv i335_13, rv b491, rv b505, rv b517, rv b530, rv b544, iv (i542_19 + 1), iv (i582_20 + 1), iv i521_21, rv b571, iv (own_n r571), iv (i542_24 + 1), iv v574, iv v605, iv i582_27]) rfl z) ?_
                    show OG p e below Φ T654 m 668 #[rv tt, rv net, iv 5, iv 8, rv b6, rv b11, rv b29, rv b36, rv b44, rv b54, rv b65, iv i144_11, rv b77, iv i335_13, rv b491, rv b505, rv b517, rv b530, rv b544, iv (i542_19 + 1), iv (i582_20 + 1), iv i521_21, rv b571, iv (own_n r571), iv (i542_24 + 1), iv v574, iv v605, iv i582_27] []
                    refine gGo (pc := 668) (pc' := 542) X654 hx hby (eD D15_20_ 9 rfl) (by decide) (by decide) ?_
                    show OG p e below Φ T654 m 542 #[rv tt, rv net, iv 5, iv 8, rv b6, rv b11, rv b29, rv b36, rv b44, rv b54, rv b65, iv i144_11, rv b77, iv i335_13, rv b491, rv b505, rv b517, rv b530, rv b544, iv (i542_19 + 1), iv (i582_20 + 1), iv i521_21, rv b571, iv (own_n r571), iv (i542_24 + 1), iv v574, iv v605, iv i582_27] []
                    exact ih542 ((i542_24 + 1)) ((i542_19 + 1)) ((i582_20 + 1)) x591 x634 x577 x654 x606 x620 (iv v574) (Or.inr ⟨_, rfl, rfl⟩) (iv v605) (Or.inr ⟨_, rfl, rfl⟩) (iv i582_27) (Or.inr ⟨_, rfl, rfl⟩) _ _ _ X654 e654 N654 Zs654 K654 F655 F656 F657 F658 F664 F659 F660 F661 F663 P654 F665 F666 F667 F662 hK
                    replace hK := kif_f hc648 hK
                    refine gCy (pc := 624) (pc' := 655) X634 hx hby (eD D15_19_ 5 rfl) (XT.ii_ge_t hc648) (by decide) (by decide) ?_
                    refine gA X634 hx hby (eD D15_20_ 3 rfl) rfl rfl ?_
                    refine os (fun _ z => XS.iinc X634.here hx rfl (hb hby (eD D15_20_ 4 rfl)) rfl (l' := #[rv tt, rv net, iv 5, iv 8, rv b6, rv b11, rv b29, rv b36, rv b44, rv b54, rv b65, iv i144_11, rv b77, iv i335_13, rv b491, rv b505, rv b517, rv b530, rv b544, iv (i542_19 + 1), iv (i582_20 + 1), iv i521_21, rv b571, iv (own_n r571), iv i542_24, iv v574, iv v605, iv i582_27]) rfl z) ?_
                    show OG p e below Φ T634 m 660 #[rv tt, rv net, iv 5, iv 8, rv b6, rv b11, rv b29, rv b36, rv b44, rv b54, rv b65, iv i144_11, rv b77, iv i335_13, rv b491, rv b505, rv b517, rv b530, rv b544, iv (i542_19 + 1), iv (i582_20 + 1), iv i521_21, rv b571, iv (own_n r571), iv i542_24, iv v574, iv v605, iv i582_27] [(.ref b517)]
                    refine gI X634 hx hby (eD D15_20_ 5 rfl) rfl ?_
                    refine gI X634 hx hby (eD D15_20_ 6 rfl) rfl ?_
                    replace hK := kst_some hK
                    obtain ⟨x668, in668, ex668, hK⟩ := hK
                    obtain ⟨cl668, Aq668, iq668, -⟩ := PA.get F642 in668 rfl
                    obtain ⟨T668, h668, X668, e668, W668, st668⟩ := stI X634 hx hZ e634 Aq668 iq668 (g := (mkF m 664 #[rv tt, rv net, iv 5, iv 8, rv b6, rv b11, rv b29, rv b36, rv b44, rv b54, rv b65, iv i144_11, rv b77, iv i335_13, rv b491, rv b505, rv b517, rv b530, rv b544, iv (i542_19 + 1), iv (i582_20 + 1), iv i521_21, rv b571, iv (own_n r571), iv i542_24, iv v574, iv v605, iv i582_27] [(.int (i582_20 + 1)), (.int (i542_19 + 1)), (.ref b517)])) rfl rfl (hb hby (eD D15_20_ 7 rfl))
                    have F669 := F635.other W668 (hS2 _ sz517)
                    have F670 := F636.wr W668
                    have F671 := F637.wr W668 gb517
                    have F672 := F638.other W668 ni517_b6
                    have F673 := F639.other W668 ne517_b385
                    have F674 := F640.other W668 ne517_tt
                    have F675 := F641.wr W668
                    have F676 := F643.other W668 (own_nbx mb571.1 ni517_b6)
                    have F677 := F644.other W668 ne517_b505
                    have F678 := F645.other W668 ne517_b29
                    have F679 := F646.other W668 (Ne.symm ne530_b517)
                    have F680 := F647.other W668 (Ne.symm ne544_b517)
                    have F681 := P634.other W668 ne517_b491
                    have P668 := PA.set F642 in668 W668 rfl ex668
                    have K668 := K634.wr W668 (Or.inr sz517)
                    have N668 := Fr.snoc X668 N634 gb517
                    have Zs668 := ozw W668 Zs634
                    refine os st668 ?_
                    refine os (fun _ z => XS.iinc X668.here hx rfl (hb hby (eD D15_20_ 8 rfl)) rfl (l' := #[rv tt, rv net, iv 5, iv 8, rv b6, rv b11, rv b29, rv b36, rv b44, rv b54, rv b65, iv i144_11, rv b77, iv i335_13, rv b491, rv b505, rv b517, rv b530, rv b544, iv (i542_19 + 1), iv (i582_20 + 1), iv i521_21, rv b571, iv (own_n r571), iv (i542_24 + 1), iv v574, iv v605, iv i582_27]) rfl z) ?_
                    show OG p e below Φ T668 m 668 #[rv tt, rv net, iv 5, iv 8, rv b6, rv b11, rv b29, rv b36, rv b44, rv b54, rv b65, iv i144_11, rv b77, iv i335_13, rv b491, rv b505, rv b517, rv b530, rv b544, iv (i542_19 + 1), iv (i582_20 + 1), iv i521_21, rv b571, iv (own_n r571), iv (i542_24 + 1), iv v574, iv v605, iv i582_27] []
                    refine gGo (pc := 668) (pc' := 542) X668 hx hby (eD D15_20_ 9 rfl) (by decide) (by decide) ?_
                    show OG p e below Φ T668 m 542 #[rv tt, rv net, iv 5, iv 8, rv b6, rv b11, rv b29, rv b36, rv b44, rv b54, rv b65, iv i144_11, rv b77, iv i335_13, rv b491, rv b505, rv b517, rv b530, rv b544, iv (i542_19 + 1), iv (i582_20 + 1), iv i521_21, rv b571, iv (own_n r571), iv (i542_24 + 1), iv v574, iv v605, iv i582_27] []
                    exact ih542 ((i542_24 + 1)) ((i542_19 + 1)) ((i582_20 + 1)) x591 x634 x577 x668 x606 x620 (iv v574) (Or.inr ⟨_, rfl, rfl⟩) (iv v605) (Or.inr ⟨_, rfl, rfl⟩) (iv i582_27) (Or.inr ⟨_, rfl, rfl⟩) _ _ _ X668 e668 N668 Zs668 K668 F669 F670 F671 F672 F678 F673 F674 F675 F677 P668 F679 F680 F681 F676 hK
                  exact J582 12 i542_20 i521_21 v574 z542_0 z542_1 z542_4 z542_5 _ _ _ X577 e577 N577 Zs577 K577 F578 F579 F580 F581 F582 F583 F584 F585 F586 F587 F588 F589 F590 P577 hK
                  replace hK := kif_f hc576 hK
                  refine gFn Xj542 hx hby (eD D15_17_ 4 rfl) (XT.i0_eq_f hc576) ?_
                  refine gGo (pc := 564) (pc' := 665) Xj542 hx hby (eD D15_20_ 10 rfl) (by decide) (by decide) ?_
                  refine os (fun _ z => XS.iinc Xj542.here hx rfl (hb hby (eD D15_20_ 8 rfl)) rfl (l' := #[rv tt, rv net, iv 5, iv 8, rv b6, rv b11, rv b29, rv b36, rv b44, rv b54, rv b65, iv i144_11, rv b77, iv i335_13, rv b491, rv b505, rv b517, rv b530, rv b544, iv i542_19, iv i542_20, iv i521_21, rv b571, iv (own_n r571), iv (i542_24 + 1), iv v574, s542_26, s542_27]) rfl z) ?_
                  show OG p e below Φ Tj542 m 668 #[rv tt, rv net, iv 5, iv 8, rv b6, rv b11, rv b29, rv b36, rv b44, rv b54, rv b65, iv i144_11, rv b77, iv i335_13, rv b491, rv b505, rv b517, rv b530, rv b544, iv i542_19, iv i542_20, iv i521_21, rv b571, iv (own_n r571), iv (i542_24 + 1), iv v574, s542_26, s542_27] []
                  refine gGo (pc := 668) (pc' := 542) Xj542 hx hby (eD D15_20_ 9 rfl) (by decide) (by decide) ?_
                  show OG p e below Φ Tj542 m 542 #[rv tt, rv net, iv 5, iv 8, rv b6, rv b11, rv b29, rv b36, rv b44, rv b54, rv b65, iv i144_11, rv b77, iv i335_13, rv b491, rv b505, rv b517, rv b530, rv b544, iv i542_19, iv i542_20, iv i521_21, rv b571, iv (own_n r571), iv (i542_24 + 1), iv v574, s542_26, s542_27] []
                  exact ih542 ((i542_24 + 1)) i542_19 i542_20 z542_0 z542_1 z542_2 z542_3 z542_4 z542_5 (iv v574) (Or.inr ⟨_, rfl, rfl⟩) (s542_26) q542_26 (s542_27) q542_27 _ _ _ Xj542 ej542 Nj542 Zj542 Kj542 fj542_0 fj542_1 fj542_2 fj542_3 fj542_4 fj542_5 fj542_6 fj542_7 fj542_8 fj542_9 fj542_10 fj542_11 fj542_12 fj542_13 hK
                  replace hK := kif_f hc573 hK
                  refine gCy (pc := 546) (pc' := 671) Xj542 hx hby (eD D15_16_ 12 rfl) (XT.ii_ge_t hc573) (by decide) (by decide) ?_
                  refine os (fun _ z => XS.iinc Xj542.here hx rfl (hb hby (eD D15_20_ 11 rfl)) rfl (l' := #[rv tt, rv net, iv 5, iv 8, rv b6, rv b11, rv b29, rv b36, rv b44, rv b54, rv b65, iv i144_11, rv b77, iv i335_13, rv b491, rv b505, rv b517, rv b530, rv b544, iv i542_19, iv i542_20, iv (i521_21 + 1), rv b571, iv (own_n r571), iv i542_24, s542_25, s542_26, s542_27]) rfl z) ?_
                  show OG p e below Φ Tj542 m 674 #[rv tt, rv net, iv 5, iv 8, rv b6, rv b11, rv b29, rv b36, rv b44, rv b54, rv b65, iv i144_11, rv b77, iv i335_13, rv b491, rv b505, rv b517, rv b530, rv b544, iv i542_19, iv i542_20, iv (i521_21 + 1), rv b571, iv (own_n r571), iv i542_24, s542_25, s542_26, s542_27] []
                  refine gGo (pc := 674) (pc' := 496) Xj542 hx hby (eD D15_20_ 12 rfl) (by decide) (by decide) ?_
                  show OG p e below Φ Tj542 m 496 #[rv tt, rv net, iv 5, iv 8, rv b6, rv b11, rv b29, rv b36, rv b44, rv b54, rv b65, iv i144_11, rv b77, iv i335_13, rv b491, rv b505, rv b517, rv b530, rv b544, iv i542_19, iv i542_20, iv (i521_21 + 1), rv b571, iv (own_n r571), iv i542_24, s542_25, s542_26, s542_27] []
                  exact ih496 i542_19 i542_20 ((i521_21 + 1)) z542_0 z542_1 z542_2 z542_3 z542_4 z542_5 (rv b571) (Or.inr ⟨_, rfl, rfl⟩) (iv (own_n r571)) (Or.inr ⟨_, rfl, rfl⟩) (iv i542_24) (Or.inr ⟨_, rfl, rfl⟩) (s542_25) q542_25 (s542_26) q542_26 (s542_27) q542_27 _ _ _ Xj542 ej542 Nj542 Zj542 Kj542 fj542_0 fj542_1 fj542_2 fj542_3 fj542_4 fj542_5 fj542_6 fj542_12 fj542_7 fj542_8 fj542_9 fj542_10 fj542_11 hK
                exact J542 12 ((0 : Int32)) i496_19 i496_20 z496_0 x558 z496_2 z496_3 z496_4 z496_5 (s496_25) q496_25 (s496_26) q496_26 (s496_27) q496_27 _ _ _ X558 e558 N558 Zs558 K558 F559 F560 F561 F562 F563 F564 F565 F566 F567 F568 F569 F570 P558 P571 hK
              refine gI Xj496 hx hby (eD D15_15_ 12 rfl) rfl ?_
              refine gIn Xj496 hx hby (eD D15_20_ 13 rfl) rfl ?_
              by_cases hc682 : i496_21 < (5 : Int32)
              replace hK := kif_t hc682 hK
              refine gCn Xj496 hx hby (eD D15_20_ 14 rfl) (XT.ii_ge_f hc682) ?_
              refine gAn Xj496 hx hby (eD D15_20_ 15 rfl) rfl rfl ?_
              obtain ⟨T683, X683, e683, st683⟩ := getF Xj496 hx hZ hown (host := "") (Or.inl (ow276 hw)) Via.refl ej496 fj496_6.2.2.2.2.2.2.2.1 (g := (mkF m 509 #[rv tt, rv net, iv 5, iv 8, rv b6, rv b11, rv b29, rv b36, rv b44, rv b54, rv b65, iv i144_11, rv b77, iv i335_13, rv b491, rv b505, rv b517, rv b530, rv b544, iv i496_19, iv i496_20, iv i496_21, s496_22, s496_23, s496_24, s496_25, s496_26, s496_27] [(.ref tt)])) rfl rfl (hb hby (eD D15_21_ 0 rfl))
              refine os st683 ?_
              refine gI X683 hx hby (eD D15_21_ 1 rfl) rfl ?_
              replace hK := kld_some hK
              obtain ⟨v684, in684, ev684, hK⟩ := hK
              obtain ⟨cl684, Aq684, iq684, at684⟩ := PA.get fj496_5 in684 ev684
              refine os (fun _ z => X683.iaload hx (by rw [e683]; exact Aq684.1) (oia hZ Aq684.2.1) Aq684.2.2 iq684 at684 (g := (mkF m 514 #[rv tt, rv net, iv 5, iv 8, rv b6, rv b11, rv b29, rv b36, rv b44, rv b54, rv b65, iv i144_11, rv b77, iv i335_13, rv b491, rv b505, rv b517, rv b530, rv b544, iv i496_19, iv i496_20, iv i496_21, s496_22, s496_23, s496_24, s496_25, s496_26, s496_27] [(.int i496_21), (.ref b385)])) rfl rfl (hb hby (eD D15_21_ 2 rfl)) _ z) ?_
              by_cases hc685 : v684 < 0
              replace hK := kif_t hc685 hK
              refine gFn X683 hx hby (eD D15_21_ 3 rfl) (XT.i0_ge_f hc685) ?_
              refine gGo (pc := 518) (pc' := 671) X683 hx hby (eD D15_21_ 4 rfl) (by decide) (by decide) ?_
              refine os (fun _ z => XS.iinc X683.here hx rfl (hb hby (eD D15_20_ 11 rfl)) rfl (l' := #[rv tt, rv net, iv 5, iv 8, rv b6, rv b11, rv b29, rv b36, rv b44, rv b54, rv b65, iv i144_11, rv b77, iv i335_13, rv b491, rv b505, rv b517, rv b530, rv b544, iv i496_19, iv i496_20, iv (i496_21 + 1), s496_22, s496_23, s496_24, s496_25, s496_26, s496_27]) rfl z) ?_
              show OG p e below Φ T683 m 674 #[rv tt, rv net, iv 5, iv 8, rv b6, rv b11, rv b29, rv b36, rv b44, rv b54, rv b65, iv i144_11, rv b77, iv i335_13, rv b491, rv b505, rv b517, rv b530, rv b544, iv i496_19, iv i496_20, iv (i496_21 + 1), s496_22, s496_23, s496_24, s496_25, s496_26, s496_27] []
              refine gGo (pc := 674) (pc' := 496) X683 hx hby (eD D15_20_ 12 rfl) (by decide) (by decide) ?_
              show OG p e below Φ T683 m 496 #[rv tt, rv net, iv 5, iv 8, rv b6, rv b11, rv b29, rv b36, rv b44, rv b54, rv b65, iv i144_11, rv b77, iv i335_13, rv b491, rv b505, rv b517, rv b530, rv b544, iv i496_19, iv i496_20, iv (i496_21 + 1), s496_22, s496_23, s496_24, s496_25, s496_26, s496_27] []
              exact ih496 i496_19 i496_20 ((i496_21 + 1)) z496_0 z496_1 z496_2 z496_3 z496_4 z496_5 (s496_22) q496_22 (s496_23) q496_23 (s496_24) q496_24 (s496_25) q496_25 (s496_26) q496_26 (s496_27) q496_27 _ _ _ X683 e683 Nj496 Zj496 Kj496 fj496_0 fj496_1 fj496_2 fj496_3 fj496_4 fj496_5 fj496_6 fj496_7 fj496_8 fj496_9 fj496_10 fj496_11 fj496_12 hK
              replace hK := kif_f hc685 hK
              refine gFy (pc := 515) (pc' := 521) X683 hx hby (eD D15_21_ 3 rfl) (XT.i0_ge_t hc685) (by decide) (by decide) ?_
              show OG p e below Φ T683 m 521 #[rv tt, rv net, iv 5, iv 8, rv b6, rv b11, rv b29, rv b36, rv b44, rv b54, rv b65, iv i144_11, rv b77, iv i335_13, rv b491, rv b505, rv b517, rv b530, rv b544, iv i496_19, iv i496_20, iv i496_21, s496_22, s496_23, s496_24, s496_25, s496_26, s496_27] []
              exact J521 1 i496_21 _ _ _ X683 e683 Nj496 Zj496 Kj496 fj496_0 fj496_1 fj496_2 fj496_3 fj496_4 fj496_5 fj496_6 fj496_7 fj496_8 fj496_9 fj496_10 fj496_11 fj496_12 hK
              replace hK := kif_f hc682 hK
              refine gCy (pc := 505) (pc' := 521) Xj496 hx hby (eD D15_20_ 14 rfl) (XT.ii_ge_t hc682) (by decide) (by decide) ?_
              show OG p e below Φ Tj496 m 521 #[rv tt, rv net, iv 5, iv 8, rv b6, rv b11, rv b29, rv b36, rv b44, rv b54, rv b65, iv i144_11, rv b77, iv i335_13, rv b491, rv b505, rv b517, rv b530, rv b544, iv i496_19, iv i496_20, iv i496_21, s496_22, s496_23, s496_24, s496_25, s496_26, s496_27] []
              exact J521 1 i496_21 _ _ _ Xj496 ej496 Nj496 Zj496 Kj496 fj496_0 fj496_1 fj496_2 fj496_3 fj496_4 fj496_5 fj496_6 fj496_7 fj496_8 fj496_9 fj496_10 fj496_11 fj496_12 hK
              replace hK := kif_f hc557 hK
              refine gCy (pc := 499) (pc' := 677) Xj496 hx hby (eD D15_15_ 11 rfl) (XT.ii_ge_t hc557) (by decide) (by decide) ?_
              show OG p e below Φ Tj496 m 677 #[rv tt, rv net, iv 5, iv 8, rv b6, rv b11, rv b29, rv b36, rv b44, rv b54, rv b65, iv i144_11, rv b77, iv i335_13, rv b491, rv b505, rv b517, rv b530, rv b544, iv i496_19, iv i496_20, iv i496_21, s496_22, s496_23, s496_24, s496_25, s496_26, s496_27] []
              refine gAn Xj496 hx hby (eD D15_21_ 5 rfl) rfl rfl ?_
              refine gA Xj496 hx hby (eD D15_21_ 6 rfl) rfl rfl ?_
              refine gI Xj496 hx hby (eD D15_21_ 7 rfl) rfl ?_
              replace hK := kbd_some hK
              obtain ⟨v686, kb686, hK⟩ := hK
              obtain ⟨_, T686, L686, X686, hQ686, st686⟩ := own_callSt Xj496 hx hZ hown (ow260 hw) (ow261 hw) (ow216 hw) (ow262 hw) (by decide) (rcp l Z a0 hw [] b505 z496_2 i496_19 v686 hj496 n0 Zj496 fj496_9 kb686) ej496 (W := 1) (by decide) (pc := 682) (ls := #[rv tt, rv net, iv 5, iv 8, rv b6, rv b11, rv b29, rv b36, rv b44, rv b54, rv b65, iv i144_11, rv b77, iv i335_13, rv b491, rv b505, rv b517, rv b530, rv b544, iv i496_19, iv i496_20, iv i496_21, s496_22, s496_23, s496_24, s496_25, s496_26, s496_27]) (stk := [(.int i496_19), (.ref b505), (.ref tt)]) (by rw [hml]; rfl) (argsL := [(.ref b505), (.int i496_19)]) (rest := [(.ref tt)]) (lenOf pd23 rfl) rfl rfl (Nat.le_of_eq rfl) (hb hby (eD D15_21_ 8 rfl))
              obtain ⟨b686, rfl, Nq686, Kq686, Pq686, hz686⟩ := hQ686
              have nq686_b29 := Nat.ne_of_lt (Nat.lt_of_lt_of_le fj496_4.lt hz686)
              have nq686_b385 := Nat.ne_of_lt (Nat.lt_of_lt_of_le fj496_5.lt hz686)
              have nq686_b491 := Nat.ne_of_lt (Nat.lt_of_lt_of_le fj496_7.lt hz686)
              have nq686_b505 := Nat.ne_of_lt (Nat.lt_of_lt_of_le fj496_9.lt hz686)
              have nq686_b517 := Nat.ne_of_lt (Nat.lt_of_lt_of_le fj496_10.lt hz686)
              have nq686_b530 := Nat.ne_of_lt (Nat.lt_of_lt_of_le fj496_11.lt hz686)
              have nq686_b544 := Nat.ne_of_lt (Nat.lt_of_lt_of_le fj496_12.lt hz686)
              have nq686_tt := Nat.ne_of_lt (Nat.lt_of_lt_of_le fj496_1.lt hz686)
              have gq686 := Nat.le_trans Zj496 hz686
              have sq686 := Nat.le_trans Kj496.1 hz686
              have N686 := Fr.app Nj496 Nq686
              have Zs686 := Nat.le_trans Zj496 Kq686.1
              have F687 := fj496_1.keep Kq686
              have F688 := fj496_2.keep Kq686 all0
              have F689 := fj496_4.keep Kq686 nin0
              have F690 := fj496_5.keep Kq686 nin0
              have F691 := fj496_6.keep Kq686 nin0
              have F692 := fj496_7.keep Kq686 nin0
              have F693 := fj496_8.keep Kq686
              have F694 := fj496_9.keep Kq686 nin0
              have F695 := fj496_10.keep Kq686 nin0
              have F696 := fj496_11.keep Kq686 nin0
              have F697 := fj496_12.keep Kq686 nin0
              have K686 := Kj496.trans Kq686 all0
              refine os st686 ?_
              obtain ⟨u698_0, u698_1, u698_2, u698_3, u698_4, u698_5, u698_6, u698_7, u698_8, u698_9⟩ := id F691
              obtain ⟨T699, h699, X699, e699, W699, st699⟩ := putF X686 hx hZ hown (host := "") (Or.inl (ow295 hw)) Via.refl rfl u698_3 F687 (Or.inr ⟨(ow296 hw), rfl, hnm⟩) (ow92 hw) (ty := (.array .int)) (by decide) rfl rfl (g := (mkF m 685 #[rv tt, rv net, iv 5, iv 8, rv b6, rv b11, rv b29, rv b36, rv b44, rv b54, rv b65, iv i144_11, rv b77, iv i335_13, rv b491, rv b505, rv b517, rv b530, rv b544, iv i496_19, iv i496_20, iv i496_21, s496_22, s496_23, s496_24, s496_25, s496_26, s496_27] [(.ref b686), (.ref tt)])) rfl rfl (hb hby (eD D15_21_ 9 rfl))
              have F700 := F687.wr W699
              have F701 := F688.wr W699 g_t
              have F702 := F689.other W699 (Ne.symm ne29_tt)
              have F703 := F690.other W699 (Ne.symm ne385_tt)
              have F704 := F692.other W699 (Ne.symm ne491_tt)
              have F705 := F693.wr W699
              have F706 := F694.other W699 (Ne.symm ne505_tt)
              have F707 := F695.other W699 (Ne.symm ne517_tt)
              have F708 := F696.other W699 (Ne.symm ne530_tt)
              have F709 := F697.other W699 (Ne.symm ne544_tt)
              have F710 := Pq686.other W699 (Ne.symm nq686_tt)
              have F711 := u698_0.other W699 (Or.inr (slot_ne (Or.inr (ow271 hw)) (Or.inr (ow296 hw)) (by decide) (t := (.array .int)) (t' := (.array .int)) (by decide) (by decide)))
              have F712 := u698_1.other W699 (Or.inr (slot_ne (Or.inr (ow273 hw)) (Or.inr (ow296 hw)) (by decide) (t := (.array .int)) (t' := (.array .int)) (by decide) (by decide)))
              have F713 := u698_2.other W699 (Or.inr (slot_ne (Or.inr (ow275 hw)) (Or.inr (ow296 hw)) (by decide) (t := (.array .int)) (t' := (.array .int)) (by decide) (by decide)))
              have F714 := u698_3.same W699
              have F715 := u698_4.other W699 (Or.inr (slot_ne (Or.inr (ow298 hw)) (Or.inr (ow296 hw)) (by decide) (t := (.array .int)) (t' := (.array .int)) (by decide) (by decide)))
              have F716 := u698_5.other W699 (Or.inr (slot_ne (Or.inr (ow300 hw)) (Or.inr (ow296 hw)) (by decide) (t := (.array .int)) (t' := (.array .int)) (by decide) (by decide)))
              have F717 := u698_6.other W699 (Or.inr (slot_ne (Or.inr (ow302 hw)) (Or.inr (ow296 hw)) (by decide) (t := (.array .int)) (t' := (.array .int)) (by decide) (by decide)))
              have F718 := u698_7.other W699 (Or.inr (slot_ne (Or.inr (ow277 hw)) (Or.inr (ow296 hw)) (by decide) (t := (.array .int)) (t' := (.array .int)) (by decide) (by decide)))
              have F719 := u698_8.other W699 (Or.inr (slot_ne (Or.inr (ow279 hw)) (Or.inr (ow296 hw)) (by decide) (t := (.array .int)) (t' := (.array .int)) (by decide) (by decide)))
              have F720 := u698_9.other W699 (Or.inr (slot_ne (Or.inr (ow304 hw)) (Or.inr (ow296 hw)) (by decide) (t := .int) (t' := (.array .int)) (by decide) (by decide)))
              have K699 := K686.wr W699 (Or.inl (List.mem_of_getElem? (i := 0) rfl))
              have N699 := Fr.snoc X699 N686 g_t
              have Zs699 := ozw W699 Zs686
              refine os st699 ?_
              have FS698 : FS Z h699 tt (.ref b268) (.ref b307) (.ref b346) (.ref b686) .null .null .null (.ref b385) (.ref b443) (.int (0 : Int32)) := ⟨F711, F712, F713, F714, F715, F716, F717, F718, F719, F720⟩
              show OG p e below Φ T699 m 688 #[rv tt, rv net, iv 5, iv 8, rv b6, rv b11, rv b29, rv b36, rv b44, rv b54, rv b65, iv i144_11, rv b77, iv i335_13, rv b491, rv b505, rv b517, rv b530, rv b544, iv i496_19, iv i496_20, iv i496_21, s496_22, s496_23, s496_24, s496_25, s496_26, s496_27] []
              refine gAn X699 hx hby (eD D15_21_ 10 rfl) rfl rfl ?_
              refine gA X699 hx hby (eD D15_21_ 11 rfl) rfl rfl ?_
              refine gI X699 hx hby (eD D15_21_ 12 rfl) rfl ?_
              refine gIc (x := 1) X699 hx hby (eD D15_21_ 13 rfl) rfl ?_
              refine os (fun _ z => XS.iadd X699.here hx rfl (hb hby (eD D15_21_ 14 rfl)) rfl z) ?_
              replace hK := kbd_some hK
              obtain ⟨v721, kb721, hK⟩ := hK
              obtain ⟨_, T721, L721, X721, hQ721, st721⟩ := own_callSt X699 hx hZ hown (ow260 hw) (ow261 hw) (ow216 hw) (ow262 hw) (by decide) (rcp l Z a0 hw [] b517 z496_3 (i496_19 + 1) v721 h699 n0 Zs699 F707 kb721) e699 (W := 1) (by decide) (pc := 695) (ls := #[rv tt, rv net, iv 5, iv 8, rv b6, rv b11, rv b29, rv b36, rv b44, rv b54, rv b65, iv i144_11, rv b77, iv i335_13, rv b491, rv b505, rv b517, rv b530, rv b544, iv i496_19, iv i496_20, iv i496_21, s496_22, s496_23, s496_24, s496_25, s496_26, s496_27]) (stk := [(.int (i496_19 + 1)), (.ref b517), (.ref tt)]) (by rw [hml]; rfl) (argsL := [(.ref b517), (.int (i496_19 + 1))]) (rest := [(.ref tt)]) (lenOf pd23 rfl) rfl rfl (Nat.le_of_eq rfl) (hb hby (eD D15_21_ 15 rfl))
              obtain ⟨b721, rfl, Nq721, Kq721, Pq721, hz721⟩ := hQ721
              have nq721_b29 := Nat.ne_of_lt (Nat.lt_of_lt_of_le F702.lt hz721)
              have nq721_b385 := Nat.ne_of_lt (Nat.lt_of_lt_of_le F703.lt hz721)
              have nq721_b491 := Nat.ne_of_lt (Nat.lt_of_lt_of_le F704.lt hz721)
              have nq721_b505 := Nat.ne_of_lt (Nat.lt_of_lt_of_le F706.lt hz721)
              have nq721_b517 := Nat.ne_of_lt (Nat.lt_of_lt_of_le F707.lt hz721)
              have nq721_b530 := Nat.ne_of_lt (Nat.lt_of_lt_of_le F708.lt hz721)
              have nq721_b544 := Nat.ne_of_lt (Nat.lt_of_lt_of_le F709.lt hz721)
              have nq721_tt := Nat.ne_of_lt (Nat.lt_of_lt_of_le F700.lt hz721)
              have gq721 := Nat.le_trans Zs699 hz721
              have sq721 := Nat.le_trans K699.1 hz721
              have N721 := Fr.app N699 Nq721
              have Zs721 := Nat.le_trans Zs699 Kq721.1
              have F722 := F700.keep Kq721
              have F723 := F701.keep Kq721 all0
              have F724 := F702.keep Kq721 nin0
              have F725 := F703.keep Kq721 nin0
              have F726 := F704.keep Kq721 nin0
              have F727 := F705.keep Kq721
              have F728 := F706.keep Kq721 nin0
              have F729 := F707.keep Kq721 nin0
              have F730 := F708.keep Kq721 nin0
              have F731 := F709.keep Kq721 nin0
              have F732 := FS698.keep Kq721 nin0
              have K721 := K699.trans Kq721 all0
              refine os st721 ?_
              obtain ⟨u733_0, u733_1, u733_2, u733_3, u733_4, u733_5, u733_6, u733_7, u733_8, u733_9⟩ := id F732
              obtain ⟨T734, h734, X734, e734, W734, st734⟩ := putF X721 hx hZ hown (host := "") (Or.inl (ow297 hw)) Via.refl rfl u733_4 F722 (Or.inr ⟨(ow298 hw), rfl, hnm⟩) (ow92 hw) (ty := (.array .int)) (by decide) rfl rfl (g := (mkF m 698 #[rv tt, rv net, iv 5, iv 8, rv b6, rv b11, rv b29, rv b36, rv b44, rv b54, rv b65, iv i144_11, rv b77, iv i335_13, rv b491, rv b505, rv b517, rv b530, rv b544, iv i496_19, iv i496_20, iv i496_21, s496_22, s496_23, s496_24, s496_25, s496_26, s496_27] [(.ref b721), (.ref tt)])) rfl rfl (hb hby (eD D15_22_ 0 rfl))
              have F735 := F722.wr W734
              have F736 := F723.wr W734 g_t
              have F737 := F724.other W734 (Ne.symm ne29_tt)
              have F738 := F725.other W734 (Ne.symm ne385_tt)
              have F739 := F726.other W734 (Ne.symm ne491_tt)
              have F740 := F727.wr W734
              have F741 := F728.other W734 (Ne.symm ne505_tt)
              have F742 := F729.other W734 (Ne.symm ne517_tt)
              have F743 := F730.other W734 (Ne.symm ne530_tt)
              have F744 := F731.other W734 (Ne.symm ne544_tt)
              have F745 := Pq721.other W734 (Ne.symm nq721_tt)
              have F746 := u733_0.other W734 (Or.inr (slot_ne (Or.inr (ow271 hw)) (Or.inr (ow298 hw)) (by decide) (t := (.array .int)) (t' := (.array .int)) (by decide) (by decide)))
              have F747 := u733_1.other W734 (Or.inr (slot_ne (Or.inr (ow273 hw)) (Or.inr (ow298 hw)) (by decide) (t := (.array .int)) (t' := (.array .int)) (by decide) (by decide)))
              have F748 := u733_2.other W734 (Or.inr (slot_ne (Or.inr (ow275 hw)) (Or.inr (ow298 hw)) (by decide) (t := (.array .int)) (t' := (.array .int)) (by decide) (by decide)))
              have F749 := u733_3.other W734 (Or.inr (slot_ne (Or.inr (ow296 hw)) (Or.inr (ow298 hw)) (by decide) (t := (.array .int)) (t' := (.array .int)) (by decide) (by decide)))
              have F750 := u733_4.same W734
              have F751 := u733_5.other W734 (Or.inr (slot_ne (Or.inr (ow300 hw)) (Or.inr (ow298 hw)) (by decide) (t := (.array .int)) (t' := (.array .int)) (by decide) (by decide)))
              have F752 := u733_6.other W734 (Or.inr (slot_ne (Or.inr (ow302 hw)) (Or.inr (ow298 hw)) (by decide) (t := (.array .int)) (t' := (.array .int)) (by decide) (by decide)))
              have F753 := u733_7.other W734 (Or.inr (slot_ne (Or.inr (ow277 hw)) (Or.inr (ow298 hw)) (by decide) (t := (.array .int)) (t' := (.array .int)) (by decide) (by decide)))
              have F754 := u733_8.other W734 (Or.inr (slot_ne (Or.inr (ow279 hw)) (Or.inr (ow298 hw)) (by decide) (t := (.array .int)) (t' := (.array .int)) (by decide) (by decide)))
              have F755 := u733_9.other W734 (Or.inr (slot_ne (Or.inr (ow304 hw)) (Or.inr (ow298 hw)) (by decide) (t := .int) (t' := (.array .int)) (by decide) (by decide)))
              have K734 := K721.wr W734 (Or.inl (List.mem_of_getElem? (i := 0) rfl))
              have N734 := Fr.snoc X734 N721 g_t
              have Zs734 := ozw W734 Zs721
              refine os st734 ?_
              have FS733 : FS Z h734 tt (.ref b268) (.ref b307) (.ref b346) (.ref b686) (.ref b721) .null .null (.ref b385) (.ref b443) (.int (0 : Int32)) := ⟨F746, F747, F748, F749, F750, F751, F752, F753, F754, F755⟩
              show OG p e below Φ T734 m 701 #[rv tt, rv net, iv 5, iv 8, rv b6, rv b11, rv b29, rv b36, rv b44, rv b54, rv b65, iv i144_11, rv b77, iv i335_13, rv b491, rv b505, rv b517, rv b530, rv b544, iv i496_19, iv i496_20, iv i496_21, s496_22, s496_23, s496_24, s496_25, s496_26, s496_27] []
              refine gAn X734 hx hby (eD D15_22_ 1 rfl) rfl rfl ?_
              refine gA X734 hx hby (eD D15_22_ 2 rfl) rfl rfl ?_
              refine gI X734 hx hby (eD D15_22_ 3 rfl) rfl ?_
              replace hK := kbd_some hK
              obtain ⟨v756, kb756, hK⟩ := hK
              obtain ⟨_, T756, L756, X756, hQ756, st756⟩ := own_callSt X734 hx hZ hown (ow260 hw) (ow261 hw) (ow216 hw) (ow262 hw) (by decide) (rcp l Z a0 hw [] b530 z496_4 i496_20 v756 h734 n0 Zs734 F743 kb756) e734 (W := 1) (by decide) (pc := 706) (ls := #[rv tt, rv net, iv 5, iv 8, rv b6, rv b11, rv b29, rv b36, rv b44, rv b54, rv b65, iv i144_11, rv b77, iv i335_13, rv b491, rv b505, rv b517, rv b530, rv b544, iv i496_19, iv i496_20, iv i496_21, s496_22, s496_23, s496_24, s496_25, s496_26, s496_27]) (stk := [(.int i496_20), (.ref b530), (.ref tt)]) (by rw [hml]; rfl) (argsL := [(.ref b530), (.int i496_20)]) (rest := [(.ref tt)]) (lenOf pd23 rfl) rfl rfl (Nat.le_of_eq rfl) (hb hby (eD D15_22_ 4 rfl))
              obtain ⟨b756, rfl, Nq756, Kq756, Pq756, hz756⟩ := hQ756
              have nq756_b29 := Nat.ne_of_lt (Nat.lt_of_lt_of_le F737.lt hz756)
              have nq756_b385 := Nat.ne_of_lt (Nat.lt_of_lt_of_le F738.lt hz756)
              have nq756_b491 := Nat.ne_of_lt (Nat.lt_of_lt_of_le F739.lt hz756)
              have nq756_b505 := Nat.ne_of_lt (Nat.lt_of_lt_of_le F741.lt hz756)
              have nq756_b517 := Nat.ne_of_lt (Nat.lt_of_lt_of_le F742.lt hz756)
              have nq756_b530 := Nat.ne_of_lt (Nat.lt_of_lt_of_le F743.lt hz756)
              have nq756_b544 := Nat.ne_of_lt (Nat.lt_of_lt_of_le F744.lt hz756)
              have nq756_b721 := Nat.ne_of_lt (Nat.lt_of_lt_of_le F745.lt hz756)
              have nq756_tt := Nat.ne_of_lt (Nat.lt_of_lt_of_le F735.lt hz756)
              have gq756 := Nat.le_trans Zs734 hz756
              have sq756 := Nat.le_trans K734.1 hz756
              have N756 := Fr.app N734 Nq756
              have Zs756 := Nat.le_trans Zs734 Kq756.1
              have F757 := F735.keep Kq756
              have F758 := F736.keep Kq756 all0
              have F759 := F737.keep Kq756 nin0
              have F760 := F738.keep Kq756 nin0
              have F761 := F739.keep Kq756 nin0
              have F762 := F740.keep Kq756
              have F763 := F741.keep Kq756 nin0
              have F764 := F742.keep Kq756 nin0
              have F765 := F743.keep Kq756 nin0
              have F766 := F744.keep Kq756 nin0
              have F767 := F745.keep Kq756 nin0
              have F768 := FS733.keep Kq756 nin0
              have K756 := K734.trans Kq756 all0
              refine os st756 ?_
              obtain ⟨u769_0, u769_1, u769_2, u769_3, u769_4, u769_5, u769_6, u769_7, u769_8, u769_9⟩ := id F768
              obtain ⟨T770, h770, X770, e770, W770, st770⟩ := putF X756 hx hZ hown (host := "") (Or.inl (ow299 hw)) Via.refl rfl u769_5 F757 (Or.inr ⟨(ow300 hw), rfl, hnm⟩) (ow92 hw) (ty := (.array .int)) (by decide) rfl rfl (g := (mkF m 709 #[rv tt, rv net, iv 5, iv 8, rv b6, rv b11, rv b29, rv b36, rv b44, rv b54, rv b65, iv i144_11, rv b77, iv i335_13, rv b491, rv b505, rv b517, rv b530, rv b544, iv i496_19, iv i496_20, iv i496_21, s496_22, s496_23, s496_24, s496_25, s496_26, s496_27] [(.ref b756), (.ref tt)])) rfl rfl (hb hby (eD D15_22_ 5 rfl))
              have F771 := F757.wr W770
              have F772 := F758.wr W770 g_t
              have F773 := F759.other W770 (Ne.symm ne29_tt)
              have F774 := F760.other W770 (Ne.symm ne385_tt)
              have F775 := F761.other W770 (Ne.symm ne491_tt)
              have F776 := F762.wr W770
              have F777 := F763.other W770 (Ne.symm ne505_tt)
              have F778 := F764.other W770 (Ne.symm ne517_tt)
              have F779 := F765.other W770 (Ne.symm ne530_tt)
              have F780 := F766.other W770 (Ne.symm ne544_tt)
              have F781 := F767.other W770 (Ne.symm nq721_tt)
              have F782 := Pq756.other W770 (Ne.symm nq756_tt)
              have F783 := u769_0.other W770 (Or.inr (slot_ne (Or.inr (ow271 hw)) (Or.inr (ow300 hw)) (by decide) (t := (.array .int)) (t' := (.array .int)) (by decide) (by decide)))
              have F784 := u769_1.other W770 (Or.inr (slot_ne (Or.inr (ow273 hw)) (Or.inr (ow300 hw)) (by decide) (t := (.array .int)) (t' := (.array .int)) (by decide) (by decide)))
              have F785 := u769_2.other W770 (Or.inr (slot_ne (Or.inr (ow275 hw)) (Or.inr (ow300 hw)) (by decide) (t := (.array .int)) (t' := (.array .int)) (by decide) (by decide)))
              have F786 := u769_3.other W770 (Or.inr (slot_ne (Or.inr (ow296 hw)) (Or.inr (ow300 hw)) (by decide) (t := (.array .int)) (t' := (.array .int)) (by decide) (by decide)))
              have F787 := u769_4.other W770 (Or.inr (slot_ne (Or.inr (ow298 hw)) (Or.inr (ow300 hw)) (by decide) (t := (.array .int)) (t' := (.array .int)) (by decide) (by decide)))
              have F788 := u769_5.same W770
              have F789 := u769_6.other W770 (Or.inr (slot_ne (Or.inr (ow302 hw)) (Or.inr (ow300 hw)) (by decide) (t := (.array .int)) (t' := (.array .int)) (by decide) (by decide)))
              have F790 := u769_7.other W770 (Or.inr (slot_ne (Or.inr (ow277 hw)) (Or.inr (ow300 hw)) (by decide) (t := (.array .int)) (t' := (.array .int)) (by decide) (by decide)))
              have F791 := u769_8.other W770 (Or.inr (slot_ne (Or.inr (ow279 hw)) (Or.inr (ow300 hw)) (by decide) (t := (.array .int)) (t' := (.array .int)) (by decide) (by decide)))
              have F792 := u769_9.other W770 (Or.inr (slot_ne (Or.inr (ow304 hw)) (Or.inr (ow300 hw)) (by decide) (t := .int) (t' := (.array .int)) (by decide) (by decide)))
              have K770 := K756.wr W770 (Or.inl (List.mem_of_getElem? (i := 0) rfl))
              have N770 := Fr.snoc X770 N756 g_t
              have Zs770 := ozw W770 Zs756
              refine os st770 ?_
              have FS769 : FS Z h770 tt (.ref b268) (.ref b307) (.ref b346) (.ref b686) (.ref b721) (.ref b756) .null (.ref b385) (.ref b443) (.int (0 : Int32)) := ⟨F783, F784, F785, F786, F787, F788, F789, F790, F791, F792⟩
              show OG p e below Φ T770 m 712 #[rv tt, rv net, iv 5, iv 8, rv b6, rv b11, rv b29, rv b36, rv b44, rv b54, rv b65, iv i144_11, rv b77, iv i335_13, rv b491, rv b505, rv b517, rv b530, rv b544, iv i496_19, iv i496_20, iv i496_21, s496_22, s496_23, s496_24, s496_25, s496_26, s496_27] []
              refine gAn X770 hx hby (eD D15_22_ 6 rfl) rfl rfl ?_
              refine gA X770 hx hby (eD D15_22_ 7 rfl) rfl rfl ?_
              refine gI X770 hx hby (eD D15_22_ 8 rfl) rfl ?_
              replace hK := kbd_some hK
              obtain ⟨v793, kb793, hK⟩ := hK
              obtain ⟨_, T793, L793, X793, hQ793, st793⟩ := own_callSt X770 hx hZ hown (ow260 hw) (ow261 hw) (ow216 hw) (ow262 hw) (by decide) (rcp l Z a0 hw [] b544 z496_5 i496_20 v793 h770 n0 Zs770 F780 kb793) e770 (W := 1) (by decide) (pc := 717) (ls := #[rv tt, rv net, iv 5, iv 8, rv b6, rv b11, rv b29, rv b36, rv b44, rv b54, rv b65, iv i144_11, rv b77, iv i335_13, rv b491, rv b505, rv b517, rv b530, rv b544, iv i496_19, iv i496_20, iv i496_21, s496_22, s496_23, s496_24, s496_25, s496_26, s496_27]) (stk := [(.int i496_20), (.ref b544), (.ref tt)]) (by rw [hml]; rfl) (argsL := [(.ref b544), (.int i496_20)]) (rest := [(.ref tt)]) (lenOf pd23 rfl) rfl rfl (Nat.le_of_eq rfl) (hb hby (eD D15_22_ 9 rfl))
              obtain ⟨b793, rfl, Nq793, Kq793, Pq793, hz793⟩ := hQ793
              have nq793_b29 := Nat.ne_of_lt (Nat.lt_of_lt_of_le F773.lt hz793)
              have nq793_b385 := Nat.ne_of_lt (Nat.lt_of_lt_of_le F774.lt hz793)
              have nq793_b491 := Nat.ne_of_lt (Nat.lt_of_lt_of_le F775.lt hz793)
              have nq793_b505 := Nat.ne_of_lt (Nat.lt_of_lt_of_le F777.lt hz793)
              have nq793_b517 := Nat.ne_of_lt (Nat.lt_of_lt_of_le F778.lt hz793)
              have nq793_b530 := Nat.ne_of_lt (Nat.lt_of_lt_of_le F779.lt hz793)
              have nq793_b544 := Nat.ne_of_lt (Nat.lt_of_lt_of_le F780.lt hz793)
              have nq793_b721 := Nat.ne_of_lt (Nat.lt_of_lt_of_le F781.lt hz793)
              have nq793_tt := Nat.ne_of_lt (Nat.lt_of_lt_of_le F771.lt hz793)
              have gq793 := Nat.le_trans Zs770 hz793
              have sq793 := Nat.le_trans K770.1 hz793
              have N793 := Fr.app N770 Nq793
              have Zs793 := Nat.le_trans Zs770 Kq793.1
              have F794 := F771.keep Kq793
              have F795 := F772.keep Kq793 all0
              have F796 := F773.keep Kq793 nin0
              have F797 := F774.keep Kq793 nin0
              have F798 := F775.keep Kq793 nin0
              have F799 := F776.keep Kq793
              have F800 := F777.keep Kq793 nin0
              have F801 := F778.keep Kq793 nin0
              have F802 := F779.keep Kq793 nin0
              have F803 := F780.keep Kq793 nin0
              have F804 := F781.keep Kq793 nin0
              have F805 := FS769.keep Kq793 nin0
              have K793 := K770.trans Kq793 all0
              refine os st793 ?_
              obtain ⟨u806_0, u806_1, u806_2, u806_3, u806_4, u806_5, u806_6, u806_7, u806_8, u806_9⟩ := id F805
              obtain ⟨T807, h807, X807, e807, W807, st807⟩ := putF X793 hx hZ hown (host := "") (Or.inl (ow301 hw)) Via.refl rfl u806_6 F794 (Or.inr ⟨(ow302 hw), rfl, hnm⟩) (ow92 hw) (ty := (.array .int)) (by decide) rfl rfl (g := (mkF m 720 #[rv tt, rv net, iv 5, iv 8, rv b6, rv b11, rv b29, rv b36, rv b44, rv b54, rv b65, iv i144_11, rv b77, iv i335_13, rv b491, rv b505, rv b517, rv b530, rv b544, iv i496_19, iv i496_20, iv i496_21, s496_22, s496_23, s496_24, s496_25, s496_26, s496_27] [(.ref b793), (.ref tt)])) rfl rfl (hb hby (eD D15_22_ 10 rfl))
              have F808 := F794.wr W807
              have F809 := F795.wr W807 g_t
              have F810 := F796.other W807 (Ne.symm ne29_tt)
              have F811 := F797.other W807 (Ne.symm ne385_tt)
              have F812 := F798.other W807 (Ne.symm ne491_tt)
              have F813 := F799.wr W807
              have F814 := F800.other W807 (Ne.symm ne505_tt)
              have F815 := F801.other W807 (Ne.symm ne517_tt)
              have F816 := F802.other W807 (Ne.symm ne530_tt)
              have F817 := F803.other W807 (Ne.symm ne544_tt)
              have F818 := F804.other W807 (Ne.symm nq721_tt)
              have F819 := Pq793.other W807 (Ne.symm nq793_tt)
              have F820 := u806_0.other W807 (Or.inr (slot_ne (Or.inr (ow271 hw)) (Or.inr (ow302 hw)) (by decide) (t := (.array .int)) (t' := (.array .int)) (by decide) (by decide)))
              have F821 := u806_1.other W807 (Or.inr (slot_ne (Or.inr (ow273 hw)) (Or.inr (ow302 hw)) (by decide) (t := (.array .int)) (t' := (.array .int)) (by decide) (by decide)))
              have F822 := u806_2.other W807 (Or.inr (slot_ne (Or.inr (ow275 hw)) (Or.inr (ow302 hw)) (by decide) (t := (.array .int)) (t' := (.array .int)) (by decide) (by decide)))
              have F823 := u806_3.other W807 (Or.inr (slot_ne (Or.inr (ow296 hw)) (Or.inr (ow302 hw)) (by decide) (t := (.array .int)) (t' := (.array .int)) (by decide) (by decide)))
              have F824 := u806_4.other W807 (Or.inr (slot_ne (Or.inr (ow298 hw)) (Or.inr (ow302 hw)) (by decide) (t := (.array .int)) (t' := (.array .int)) (by decide) (by decide)))
              have F825 := u806_5.other W807 (Or.inr (slot_ne (Or.inr (ow300 hw)) (Or.inr (ow302 hw)) (by decide) (t := (.array .int)) (t' := (.array .int)) (by decide) (by decide)))
              have F826 := u806_6.same W807
              have F827 := u806_7.other W807 (Or.inr (slot_ne (Or.inr (ow277 hw)) (Or.inr (ow302 hw)) (by decide) (t := (.array .int)) (t' := (.array .int)) (by decide) (by decide)))
              have F828 := u806_8.other W807 (Or.inr (slot_ne (Or.inr (ow279 hw)) (Or.inr (ow302 hw)) (by decide) (t := (.array .int)) (t' := (.array .int)) (by decide) (by decide)))
              have F829 := u806_9.other W807 (Or.inr (slot_ne (Or.inr (ow304 hw)) (Or.inr (ow302 hw)) (by decide) (t := .int) (t' := (.array .int)) (by decide) (by decide)))
              have K807 := K793.wr W807 (Or.inl (List.mem_of_getElem? (i := 0) rfl))
              have N807 := Fr.snoc X807 N793 g_t
              have Zs807 := ozw W807 Zs793
              refine os st807 ?_
              have FS806 : FS Z h807 tt (.ref b268) (.ref b307) (.ref b346) (.ref b686) (.ref b721) (.ref b756) (.ref b793) (.ref b385) (.ref b443) (.int (0 : Int32)) := ⟨F820, F821, F822, F823, F824, F825, F826, F827, F828, F829⟩
              show OG p e below Φ T807 m 723 #[rv tt, rv net, iv 5, iv 8, rv b6, rv b11, rv b29, rv b36, rv b44, rv b54, rv b65, iv i144_11, rv b77, iv i335_13, rv b491, rv b505, rv b517, rv b530, rv b544, iv i496_19, iv i496_20, iv i496_21, s496_22, s496_23, s496_24, s496_25, s496_26, s496_27] []
              refine gIc (x := -1) X807 hx hby (eD D15_22_ 11 rfl) rfl ?_
              refine gIs X807 hx hby (eD D15_22_ 12 rfl) (ls' := #[rv tt, rv net, iv 5, iv 8, rv b6, rv b11, rv b29, rv b36, rv b44, rv b54, rv b65, iv i144_11, rv b77, iv i335_13, rv b491, rv b505, rv b517, rv b530, rv b544, iv i496_19, iv i496_20, iv (-1), s496_22, s496_23, s496_24, s496_25, s496_26, s496_27]) rfl ?_
              refine gIn X807 hx hby (eD D15_22_ 13 rfl) rfl ?_
              refine gIc (x := 1) X807 hx hby (eD D15_22_ 14 rfl) rfl ?_
              refine os (fun _ z => XS.isub X807.here hx rfl (hb hby (eD D15_22_ 15 rfl)) rfl z) ?_
              show OG p e below Φ T807 m 729 #[rv tt, rv net, iv 5, iv 8, rv b6, rv b11, rv b29, rv b36, rv b44, rv b54, rv b65, iv i144_11, rv b77, iv i335_13, rv b491, rv b505, rv b517, rv b530, rv b544, iv i496_19, iv i496_20, iv (-1), s496_22, s496_23, s496_24, s496_25, s496_26, s496_27] [(.int 4)]
              refine gIs X807 hx hby (eD D15_23_ 0 rfl) (ls' := #[rv tt, rv net, iv 5, iv 8, rv b6, rv b11, rv b29, rv b36, rv b44, rv b54, rv b65, iv i144_11, rv b77, iv i335_13, rv b491, rv b505, rv b517, rv b530, rv b544, iv i496_19, iv i496_20, iv (-1), iv 4, s496_23, s496_24, s496_25, s496_26, s496_27]) (XS.store1 rfl q496_22 rfl) ?_
              show OG p e below Φ T807 m 731 #[rv tt, rv net, iv 5, iv 8, rv b6, rv b11, rv b29, rv b36, rv b44, rv b54, rv b65, iv i144_11, rv b77, iv i335_13, rv b491, rv b505, rv b517, rv b530, rv b544, iv i496_19, iv i496_20, iv (-1), iv 4, s496_23, s496_24, s496_25, s496_26, s496_27] []
              have J731 : ∀ (nn731 : Nat) (i731_21 : Int32) (i731_22 : Int32) (Tj731 : State) (hj731 : Heap) (Lj731 : List Loc), Stand p l e ({ frames := 4, cells := 33, slots := 287, locals := 57 } : Room) s m #[(.ref tt), (.ref net)] below meth c Tj731 Lj731 33 287 → Tj731.heap = hj731 → Fr n0 Lj731 → n0 ≤ hj731.size → Keep h0 hj731 [tt] → Exa Z hj731 tt s4_ → Old Z n0 hj731 → PA Z hj731 b491 .boolean z496_1 → Exa Z hj731 b491 "[Z" → PA Z hj731 b721 .int v721 → PA Z hj731 b793 .int v793 → FS Z hj731 tt (.ref b268) (.ref b307) (.ref b346) (.ref b686) (.ref b721) (.ref b756) (.ref b793) (.ref b385) (.ref b443) (.int (0 : Int32)) → topK_k731 z496_1 v721 v793  nn731 i731_21 i731_22 = some t_ → OG p e below Φ Tj731 m 731 #[rv tt, rv net, iv (5 : Int32), iv (8 : Int32), rv b6, rv b11, rv b29, rv b36, rv b44, rv b54, rv b65, iv i144_11, rv b77, iv i335_13, rv b491, rv b505, rv b517, rv b530, rv b544, iv i496_19, iv i496_20, iv i731_21, iv i731_22, s496_23, s496_24, s496_25, s496_26, s496_27] [] := by
               clear hK
               clear ni29_b6 ne29_tt gb29 sz29 ne385_b29 ne385_tt ni491_b6 ne491_b29 ne491_b385 gb491 sz491 ni505_b6 ne505_b29 ne505_b385 ne505_b491 ne505_tt gb505 sz505 ni517_b6 ne517_b29 ne517_b385 ne517_b491 ne517_b505 ne517_tt gb517 sz517 ni530_b6 ne530_b29 ne530_b385 ne530_b491 ne530_b505 ne530_b517 ne530_tt gb530 sz530 ni544_b6 ne544_b29 ne544_b385 ne544_b491 ne544_b505 ne544_b517 ne544_b530 ne544_tt gb544 sz544 Xj496 ej496 Nj496 Zj496 Kj496 fj496_0 fj496_1 fj496_2 fj496_3 fj496_4 fj496_5 fj496_6 fj496_7 fj496_8 fj496_9 fj496_10 fj496_11 fj496_12 kb686 X686 st686 Nq686 Kq686 Pq686 hz686 nq686_b29 nq686_b385 nq686_b491 nq686_b505 nq686_b517 nq686_b530 nq686_b544 nq686_tt gq686 sq686 N686 Zs686 F687 F688 F689 F690 F691 F692 F693 F694 F695 F696 F697 K686 u698_0 u698_1 u698_2 u698_3 u698_4 u698_5 u698_6 u698_7 u698_8 u698_9 X699 e699 W699 st699 F700 F701 F702 F703 F704 F705 F706 F707 F708 F709 F710 F711 F712 F713 F714 F715 F716 F717 F718 F719 F720 K699 N699 Zs699 FS698 kb721 X721 st721 Nq721 Kq721 Pq721 hz721 nq721_b29 nq721_b385 nq721_b491 nq721_b505 nq721_b517 nq721_b530 nq721_b544 gq721 sq721 N721 Zs721 F722 F723 F724 F725 F726 F727 F728 F729 F730 F731 F732 K721 u733_0 u733_1 u733_2 u733_3 u733_4 u733_5 u733_6 u733_7 u733_8 u733_9 X734 e734 W734 st734 F735 F736 F737 F738 F739 F740 F741 F742 F743 F744 F745 F746 F747 F748 F749 F750 F751 F752 F753 F754 F755 K734 N734 Zs734 FS733 kb756 X756 st756 Nq756 Kq756 Pq756 hz756 nq756_b29 nq756_b385 nq756_b491 nq756_b505 nq756_b517 nq756_b530 nq756_b544 nq756_b721 nq756_tt gq756 sq756 N756 Zs756 F757 F758 F759 F760 F761 F762 F763 F764 F765 F766 F767 F768 K756 u769_0 u769_1 u769_2 u769_3 u769_4 u769_5 u769_6 u769_7 u769_8 u769_9 X770 e770 W770 st770 F771 F772 F773 F774 F775 F776 F777 F778 F779 F780 F781 F782 F783 F784 F785 F786 F787 F788 F789 F790 F791 F792 K770 N770 Zs770 FS769 kb793 X793 st793 Nq793 Kq793 Pq793 hz793 nq793_b29 nq793_b385 nq793_b491 nq793_b505 nq793_b517 nq793_b530 nq793_b544 nq793_b721 gq793 sq793 N793 Zs793 F794 F795 F796 F797 F798 F799 F800 F801 F802 F803 F804 F805 K793 u806_0 u806_1 u806_2 u806_3 u806_4 u806_5 u806_6 u806_7 u806_8 u806_9 X807 e807 W807 st807 F808 F809 F810 F811 F812 F813 F814 F815 F816 F817 F818 F819 F820 F821 F822 F823 F824 F825 F826 F827 F828 F829 K807 N807 Zs807 FS806
               intro nn731
               induction nn731 with
               | zero => intro i731_21 i731_22 Tj731 hj731 Lj731 Xj731 ej731 Nj731 Zj731 Kj731 fj731_0 fj731_1 fj731_2 fj731_3 fj731_4 fj731_5 fj731_6 hK; exact (knone hK).elim
               | succ nn731 ih731 =>
                intro i731_21 i731_22 Tj731 hj731 Lj731 Xj731 ej731 Nj731 Zj731 Kj731 fj731_0 fj731_1 fj731_2 fj731_3 fj731_4 fj731_5 fj731_6 hK
                show OG p e below Φ Tj731 m 731 #[rv tt, rv net, iv 5, iv 8, rv b6, rv b11, rv b29, rv b36, rv b44, rv b54, rv b65, iv i144_11, rv b77, iv i335_13, rv b491, rv b505, rv b517, rv b530, rv b544, iv i496_19, iv i496_20, iv i731_21, iv i731_22, s496_23, s496_24, s496_25, s496_26, s496_27] []
                refine gI Xj731 hx hby (eD D15_23_ 1 rfl) rfl ?_
                by_cases hc830 : i731_22 < 0
                replace hK := kif_t hc830 hK
                refine gFy (pc := 733) (pc' := 754) Xj731 hx hby (eD D15_23_ 2 rfl) (XT.i0_lt_t hc830) (by decide) (by decide) ?_
                refine gAn Xj731 hx hby (eD D15_23_ 3 rfl) rfl rfl ?_
                refine gI Xj731 hx hby (eD D15_23_ 4 rfl) rfl ?_
                obtain ⟨u831_0, u831_1, u831_2, u831_3, u831_4, u831_5, u831_6, u831_7, u831_8, u831_9⟩ := id fj731_6
                obtain ⟨T832, h832, X832, e832, W832, st832⟩ := putF Xj731 hx hZ hown (host := "") (Or.inl (ow303 hw)) Via.refl ej731 u831_9 fj731_0 (Or.inr ⟨(ow304 hw), rfl, hnm⟩) (ow92 hw) (ty := .int) (by decide) rfl rfl (g := (mkF m 757 #[rv tt, rv net, iv 5, iv 8, rv b6, rv b11, rv b29, rv b36, rv b44, rv b54, rv b65, iv i144_11, rv b77, iv i335_13, rv b491, rv b505, rv b517, rv b530, rv b544, iv i496_19, iv i496_20, iv i731_21, iv i731_22, s496_23, s496_24, s496_25, s496_26, s496_27] [(.int i731_21), (.ref tt)])) rfl rfl (hb hby (eD D15_23_ 5 rfl))
                have F833 := fj731_0.wr W832
                have F834 := fj731_1.wr W832 g_t
                have F835 := fj731_2.other W832 (Ne.symm ne491_tt)
                have F836 := fj731_3.wr W832
                have F837 := fj731_4.other W832 (Ne.symm nq721_tt)
                have F838 := fj731_5.other W832 (Ne.symm nq793_tt)
                have F839 := u831_0.other W832 (Or.inr (slot_ne (Or.inr (ow271 hw)) (Or.inr (ow304 hw)) (by decide) (t := (.array .int)) (t' := .int) (by decide) (by decide)))
                have F840 := u831_1.other W832 (Or.inr (slot_ne (Or.inr (ow273 hw)) (Or.inr (ow304 hw)) (by decide) (t := (.array .int)) (t' := .int) (by decide) (by decide)))
                have F841 := u831_2.other W832 (Or.inr (slot_ne (Or.inr (ow275 hw)) (Or.inr (ow304 hw)) (by decide) (t := (.array .int)) (t' := .int) (by decide) (by decide)))
                have F842 := u831_3.other W832 (Or.inr (slot_ne (Or.inr (ow296 hw)) (Or.inr (ow304 hw)) (by decide) (t := (.array .int)) (t' := .int) (by decide) (by decide)))
                have F843 := u831_4.other W832 (Or.inr (slot_ne (Or.inr (ow298 hw)) (Or.inr (ow304 hw)) (by decide) (t := (.array .int)) (t' := .int) (by decide) (by decide)))
                have F844 := u831_5.other W832 (Or.inr (slot_ne (Or.inr (ow300 hw)) (Or.inr (ow304 hw)) (by decide) (t := (.array .int)) (t' := .int) (by decide) (by decide)))
                have F845 := u831_6.other W832 (Or.inr (slot_ne (Or.inr (ow302 hw)) (Or.inr (ow304 hw)) (by decide) (t := (.array .int)) (t' := .int) (by decide) (by decide)))
                have F846 := u831_7.other W832 (Or.inr (slot_ne (Or.inr (ow277 hw)) (Or.inr (ow304 hw)) (by decide) (t := (.array .int)) (t' := .int) (by decide) (by decide)))
                have F847 := u831_8.other W832 (Or.inr (slot_ne (Or.inr (ow279 hw)) (Or.inr (ow304 hw)) (by decide) (t := (.array .int)) (t' := .int) (by decide) (by decide)))
                have F848 := u831_9.same W832
                have K832 := Kj731.wr W832 (Or.inl (List.mem_of_getElem? (i := 0) rfl))
                have N832 := Fr.snoc X832 Nj731 g_t
                have Zs832 := ozw W832 Zj731
                refine os st832 ?_
                have FS831 : FS Z h832 tt (.ref b268) (.ref b307) (.ref b346) (.ref b686) (.ref b721) (.ref b756) (.ref b793) (.ref b385) (.ref b443) (.int i731_21) := ⟨F839, F840, F841, F842, F843, F844, F845, F846, F847, F848⟩
                show OG p e below Φ T832 m 760 #[rv tt, rv net, iv 5, iv 8, rv b6, rv b11, rv b29, rv b36, rv b44, rv b54, rv b65, iv i144_11, rv b77, iv i335_13, rv b491, rv b505, rv b517, rv b530, rv b544, iv i496_19, iv i496_20, iv i731_21, iv i731_22, s496_23, s496_24, s496_25, s496_26, s496_27] []
                refine OGo.fin X832 hlk (v := none) (fun _ => rfl) (by decide) (by decide) (fun fs hr => X832.returnOut hx hret (hb hby (eD D15_23_ 6 rfl)) hr) fun U eU hF => hΦ _ _ _ ?_ hF
                rw [eU, e832]
                show Q_rti Z S net lj lr lp d mc ps tt ac cc t_ h0 n0 _ _ _
                obtain rfl := Option.some.inj hK
                exact ⟨rfl, N832, K832, F833, _, _, FS831.2.2.2.2.1, FS831.2.2.2.2.2.2.1, F837, F838⟩
                replace hK := kif_f hc830 hK
                refine gFn Xj731 hx hby (eD D15_23_ 2 rfl) (XT.i0_lt_f hc830) ?_
                refine gA Xj731 hx hby (eD D15_23_ 7 rfl) rfl rfl ?_
                refine gI Xj731 hx hby (eD D15_23_ 8 rfl) rfl ?_
                replace hK := kld_some hK
                obtain ⟨v849, in849, ev849, hK⟩ := hK
                obtain ⟨cl849, Aq849, iq849, at849⟩ := PA.get fj731_2 in849 ev849
                refine os (fun _ z => Xj731.baloadBooleans hx (by rw [ej731]; exact Aq849.1) (oia hZ Aq849.2.1) Aq849.2.2 iq849 at849 (g := (mkF m 740 #[rv tt, rv net, iv 5, iv 8, rv b6, rv b11, rv b29, rv b36, rv b44, rv b54, rv b65, iv i144_11, rv b77, iv i335_13, rv b491, rv b505, rv b517, rv b530, rv b544, iv i496_19, iv i496_20, iv i731_21, iv i731_22, s496_23, s496_24, s496_25, s496_26, s496_27] [(.int i731_22), (.ref b491)])) rfl rfl (hb hby (eD D15_23_ 9 rfl)) _ z) ?_
                by_cases hc850 : v849 = 0
                replace hK := kif_t hc850 hK
                refine gFn Xj731 hx hby (eD D15_23_ 10 rfl) (XT.i0_ne_f hc850) ?_
                refine gI Xj731 hx hby (eD D15_23_ 11 rfl) rfl ?_
                refine gIs Xj731 hx hby (eD D15_23_ 12 rfl) (ls' := #[rv tt, rv net, iv 5, iv 8, rv b6, rv b11, rv b29, rv b36, rv b44, rv b54, rv b65, iv i144_11, rv b77, iv i335_13, rv b491, rv b505, rv b517, rv b530, rv b544, iv i496_19, iv i496_20, iv i731_22, iv i731_22, s496_23, s496_24, s496_25, s496_26, s496_27]) rfl ?_
                refine os (fun _ z => XS.iinc Xj731.here hx rfl (hb hby (eD D15_23_ 13 rfl)) rfl (l' := #[rv tt, rv net, iv 5, iv 8, rv b6, rv b11, rv b29, rv b36, rv b44, rv b54, rv b65, iv i144_11, rv b77, iv i335_13, rv b491, rv b505, rv b517, rv b530, rv b544, iv i496_19, iv i496_20, iv i731_22, iv (i731_22 + (-1 : Int32)), s496_23, s496_24, s496_25, s496_26, s496_27]) rfl z) ?_
                show OG p e below Φ Tj731 m 751 #[rv tt, rv net, iv 5, iv 8, rv b6, rv b11, rv b29, rv b36, rv b44, rv b54, rv b65, iv i144_11, rv b77, iv i335_13, rv b491, rv b505, rv b517, rv b530, rv b544, iv i496_19, iv i496_20, iv i731_22, iv (i731_22 + (-1 : Int32)), s496_23, s496_24, s496_25, s496_26, s496_27] []
                refine gGo (pc := 751) (pc' := 731) Xj731 hx hby (eD D15_23_ 14 rfl) (by decide) (by decide) ?_
                show OG p e below Φ Tj731 m 731 #[rv tt, rv net, iv 5, iv 8, rv b6, rv b11, rv b29, rv b36, rv b44, rv b54, rv b65, iv i144_11, rv b77, iv i335_13, rv b491, rv b505, rv b517, rv b530, rv b544, iv i496_19, iv i496_20, iv i731_22, iv (i731_22 + (-1 : Int32)), s496_23, s496_24, s496_25, s496_26, s496_27] []
                exact ih731 i731_22 ((i731_22 + (-1 : Int32))) _ _ _ Xj731 ej731 Nj731 Zj731 Kj731 fj731_0 fj731_1 fj731_2 fj731_3 fj731_4 fj731_5 fj731_6 hK
                replace hK := kif_f hc850 hK
                refine gFy (pc := 741) (pc' := 748) Xj731 hx hby (eD D15_23_ 10 rfl) (XT.i0_ne_t hc850) (by decide) (by decide) ?_
                refine os (fun _ z => XS.iinc Xj731.here hx rfl (hb hby (eD D15_23_ 13 rfl)) rfl (l' := #[rv tt, rv net, iv 5, iv 8, rv b6, rv b11, rv b29, rv b36, rv b44, rv b54, rv b65, iv i144_11, rv b77, iv i335_13, rv b491, rv b505, rv b517, rv b530, rv b544, iv i496_19, iv i496_20, iv i731_21, iv (i731_22 + (-1 : Int32)), s496_23, s496_24, s496_25, s496_26, s496_27]) rfl z) ?_
                show OG p e below Φ Tj731 m 751 #[rv tt, rv net, iv 5, iv 8, rv b6, rv b11, rv b29, rv b36, rv b44, rv b54, rv b65, iv i144_11, rv b77, iv i335_13, rv b491, rv b505, rv b517, rv b530, rv b544, iv i496_19, iv i496_20, iv i731_21, iv (i731_22 + (-1 : Int32)), s496_23, s496_24, s496_25, s496_26, s496_27] []
                refine gGo (pc := 751) (pc' := 731) Xj731 hx hby (eD D15_23_ 14 rfl) (by decide) (by decide) ?_
                show OG p e below Φ Tj731 m 731 #[rv tt, rv net, iv 5, iv 8, rv b6, rv b11, rv b29, rv b36, rv b44, rv b54, rv b65, iv i144_11, rv b77, iv i335_13, rv b491, rv b505, rv b517, rv b530, rv b544, iv i496_19, iv i496_20, iv i731_21, iv (i731_22 + (-1 : Int32)), s496_23, s496_24, s496_25, s496_26, s496_27] []
                exact ih731 i731_21 ((i731_22 + (-1 : Int32))) _ _ _ Xj731 ej731 Nj731 Zj731 Kj731 fj731_0 fj731_1 fj731_2 fj731_3 fj731_4 fj731_5 fj731_6 hK
              exact J731 12 ((-1 : Int32)) ((4 : Int32)) _ _ _ X807 e807 N807 Zs807 K807 F808 F809 F812 F813 F818 F819 FS806 hK
            exact J496 12 ((0 : Int32)) ((0 : Int32)) ((0 : Int32)) z144_1 z144_2 ((List.replicate (own_n ps).toNatClampNeg (0 : Int32))) ((List.replicate ((own_n ps) + 1).toNatClampNeg (0 : Int32))) ((List.replicate (own_n ps).toNatClampNeg (0 : Int32))) ((List.replicate (own_n ps).toNatClampNeg (0 : Int32))) (o_) (Or.inl rfl) (o_) (Or.inl rfl) (o_) (Or.inl rfl) (o_) (Or.inl rfl) (o_) (Or.inl rfl) (o_) (Or.inl rfl) _ _ _ X544 e544 N543 Zs544 K544 F545 F546 F547 F548 F549 F550 F551 F552 F553 F554 F555 F556 P544 hK
          exact J387 12 ((0 : Int32)) ((List.replicate i335_13.toNatClampNeg (0 : Int32))) _ _ _ X454 e454 N454 Zs454 K454 F455 F456 F457 F458 F459 F460 F461 F462 F463 FS453 hK
        exact J335 12 ((0 : Int32)) ((0 : Int32)) v417 _ _ _ X417 rfl N417 Zs417 K417 F418 F419 F420 F421 F422 F423 F424 F425 F426 Pq417 hK
      exact J144 9 ((0 : Int32)) z41_0 ((List.replicate (own_n ps).toNatClampNeg (0 : Int32))) ((List.replicate 8 (0 : Int32))) ((List.replicate 5 (0 : Int32))) ((List.replicate 5 (0 : Int32))) ((List.replicate 5 (0 : Int32))) ds112_0 dj112_0 (iv i112_13) (Or.inr ⟨_, rfl, rfl⟩) (o_) (Or.inl rfl) (o_) (Or.inl rfl) _ _ _ Xj112 ej112 Nj112 Zj112 Kj112 fj112_0 fj112_1 fj112_2 fj112_3 fj112_4 fj112_5 fj112_6 fj112_7 fj112_8 fj112_9 fj112_10 fj112_11 fj112_12 hK
    exact J112 12 ((0 : Int32)) ((0 : Int32)) ((0 : Int32)) _ _ _ X90 rfl N90 Zs90 K90 F91 F92 F93 F94 F95 F96 F97 F98 F99 F100 F101 F102 Dq90 hK
  exact J41 12 ((0 : Int32)) ((List.replicate 8 (0 : Int32))) _ _ _ X11 e11 N6 Zs11 K11 F12 F13 F14 F15 F16 P11 hK

def endK (xb : List Int32) (xn : List Int32) (xc : Int32) : Option (Int32) := kld xb (xc + 1) fun v3 => kld xn (v3 - 1) fun v4 => some v4
theorem ef_rce (m : MethodId) (x0 : Addr) (x1 : Int32) : entryFrame m #[(.ref x0), (.int x1)] 2 = mkF m 0 #[.val (.ref x0), .val (.int x1)] [] := by first | (simp [entryFrame, mkF, argsToLocals, Value.category]; done) | rfl
def Q_rce (Z : State) (tt : Addr) (b1 : Addr) (b2 : Addr) (xb : List Int32) (xn : List Int32) (xc : Int32) (t_ : Int32) (h0 : Heap) (n0 : Nat) (v : Option Value) (h : Heap) (L : List Loc) : Prop := v = some (.int t_) ∧ Fr n0 L ∧ h = h0
theorem rce (l : Launch) (Z : State) (a0 : Array Value) (hw : OHW Z a0) (ws : List Jvm.Cond) (tt : Addr) (b1 : Addr) (b2 : Addr) (xb : List Int32) (xn : List Int32) (xc : Int32) (t_ : Int32) (h0 : Heap) (n0 : Nat) (Z0 : n0 ≤ h0.size) (F_b : Fld Z h0 tt s4_ "chainBounds" "[I" (.ref b1)) (F_n : Fld Z h0 tt s4_ "chainNodes" "[I" (.ref b2)) (P_1 : PA Z h0 b1 .int xb) (P_2 : PA Z h0 b2 .int xn) (hK0 : endK xb xn xc = some t_) :
    OCon l Z (⟨s4_, "chainEnd", "(I)I"⟩ : MethodName) c45_ 2 (some .int) ws ({ frames := 0, cells := 0, slots := 0, locals := 0 } : Room) #[(.ref tt), (.int xc)] h0 (Q_rce Z tt b1 b2 xb xn xc t_ h0 n0) := by
  refine OCon.of (plainFor_of_name pn8) ?_
  intro p e s m below meth c s₁ Φ X0 hx hby hml hown hnm hret hlk hZ e0 hΦ
  have N0 := Fr.nil n0
  refine os (fun _ z => castTop (ef_rce m tt xc) z) ?_
  have hK := hK0
  unfold endK at hK
  show OG p e below Φ s₁ m 0 #[rv tt, iv xc] []
  refine gAn X0 hx hby (eD D40_0_ 0 rfl) rfl rfl ?_
  obtain ⟨T1, X1, e1, st1⟩ := getF X0 hx hZ hown (host := "") (Or.inl (ow301 hw)) Via.refl e0 F_n (g := (mkF m 1 #[rv tt, iv xc] [(.ref tt)])) rfl rfl (hb hby (eD D40_0_ 1 rfl))
  refine os st1 ?_
  refine gAn X1 hx hby (eD D40_0_ 2 rfl) rfl rfl ?_
  obtain ⟨T2, X2, e2, st2⟩ := getF X1 hx hZ hown (host := "") (Or.inl (ow297 hw)) Via.refl e1 F_b (g := (mkF m 5 #[rv tt, iv xc] [(.ref tt), (.ref b2)])) rfl rfl (hb hby (eD D40_0_ 3 rfl))
  refine os st2 ?_
  refine gIn X2 hx hby (eD D40_0_ 4 rfl) rfl ?_
  refine gIc (x := 1) X2 hx hby (eD D40_0_ 5 rfl) rfl ?_
  refine os (fun _ z => XS.iadd X2.here hx rfl (hb hby (eD D40_0_ 6 rfl)) rfl z) ?_
  replace hK := kld_some hK
  obtain ⟨v3, in3, ev3, hK⟩ := hK
  obtain ⟨cl3, Aq3, iq3, at3⟩ := PA.get P_1 in3 ev3
  refine os (fun _ z => X2.iaload hx (by rw [e2]; exact Aq3.1) (oia hZ Aq3.2.1) Aq3.2.2 iq3 at3 (g := (mkF m 11 #[rv tt, iv xc] [(.int (xc + 1)), (.ref b1), (.ref b2)])) rfl rfl (hb hby (eD D40_0_ 7 rfl)) _ z) ?_
  refine gIc (x := 1) X2 hx hby (eD D40_0_ 8 rfl) rfl ?_
  refine os (fun _ z => XS.isub X2.here hx rfl (hb hby (eD D40_0_ 9 rfl)) rfl z) ?_
  replace hK := kld_some hK
  obtain ⟨v4, in4, ev4, hK⟩ := hK
  obtain ⟨cl4, Aq4, iq4, at4⟩ := PA.get P_2 in4 ev4
  refine os (fun _ z => X2.iaload hx (by rw [e2]; exact Aq4.1) (oia hZ Aq4.2.1) Aq4.2.2 iq4 at4 (g := (mkF m 14 #[rv tt, iv xc] [(.int (v3 - 1)), (.ref b2)])) rfl rfl (hb hby (eD D40_0_ 10 rfl)) _ z) ?_
  refine OGo.fin X2 hlk (v := (some (.int v4))) (fun h => by rw [hret] at h; cases h) (by decide) (by decide) (fun fs hr => X2.ireturnOut hx hret rfl (by simp) (hb hby (eD D40_0_ 11 rfl)) hr) fun U eU hF => hΦ _ _ _ ?_ hF
  rw [eU, e2]
  show Q_rce Z tt b1 b2 xb xn xc t_ h0 n0 _ _ _
  obtain rfl := Option.some.inj hK
  exact ⟨rfl, N0, rfl⟩

section OwnTop
/-- the same pipe, or its ends the other way round -/
def SwP (q q' : Int32 × Int32 × Int32) : Prop := q.1 ≠ q.2.1 ∧ (q' = q ∨ q' = (q.2.1, q.1, q.2.2))
def Sw : List (Int32 × Int32 × Int32) → List (Int32 × Int32 × Int32) → Prop
  | [], [] => True
  | q :: r, q' :: r' => SwP q q' ∧ Sw r r'
  | _, _ => False
theorem Sw.len : ∀ {ps ps' : List (Int32 × Int32 × Int32)}, Sw ps ps' → ps'.length = ps.length
  | [], [], _ => rfl
  | _ :: _, _ :: _, h => by simp [Sw.len h.2]
  | [], _ :: _, h => h.elim
  | _ :: _, [], h => h.elim
theorem Sw.get : ∀ {ps ps' : List (Int32 × Int32 × Int32)}, Sw ps ps' → ∀ i, i < ps.length → SwP (ps.getD i own_pz) (ps'.getD i own_pz)
  | [], [], _, i, hi => absurd hi (Nat.not_lt_zero _)
  | _ :: _, _ :: _, h, 0, _ => h.1
  | _ :: _, _ :: _, h, i + 1, hi => Sw.get h.2 i (Nat.lt_of_succ_lt_succ hi)
  | [], _ :: _, h, _, _ => h.elim
  | _ :: _, [], h, _, _ => h.elim
theorem Sw.app : ∀ {ps ps' rs rs' : List (Int32 × Int32 × Int32)}, Sw ps ps' → Sw rs rs' → Sw (ps ++ rs) (ps' ++ rs')
  | [], [], _, _, _, k => k
  | _ :: _, _ :: _, _, _, h, k => ⟨h.1, Sw.app h.2 k⟩
  | [], _ :: _, _, _, h, _ => h.elim
  | _ :: _, [], _, _, h, _ => h.elim
theorem own_kpp {α : Type} {ps ps' : List (Int32 × Int32 × Int32)} {j : Int32} {k k' : Int32 × Int32 × Int32 → Option α} (h : Sw ps ps') (hk : ∀ q q', SwP q q' → k q = k' q') : kpp ps j k = kpp ps' j k' := by
  unfold kpp
  simp only [lenR_eq, getR_eq]
  rw [h.len]
  by_cases c : InB ps.length j
  · rw [if_pos c, if_pos c]; exact hk _ _ (h.get _ c.2)
  · rw [if_neg c, if_neg c]
theorem own_nS {ps ps' : List (Int32 × Int32 × Int32)} (h : Sw ps ps') : own_n ps' = own_n ps := by rw [own_n_eq, own_n_eq, h.len]
theorem own_oeS {ps ps' : List (Int32 × Int32 × Int32)} (h : Sw ps ps') : oeK ps = oeK ps' := by
  funext i n
  unfold oeK
  refine own_kpp h fun q q' w => ?_
  obtain ⟨ne, rfl | rfl⟩ := w
  · rfl
  · dsimp only
    unfold kas
    by_cases c1 : q.1 = n
    · have c2 : ¬ q.2.1 = n := fun e => ne (c1.trans e.symm)
      rw [if_pos c1, if_neg c2, if_pos c1]
    · by_cases c2 : q.2.1 = n
      · rw [if_neg c1, if_pos c2, if_pos c2]
      · rw [if_neg c1, if_neg c2, if_neg c2, if_neg c1]
theorem own_toN {a b : Int32} {n : Nat} (ha : InB n a) (hb : InB n b) (h : a ≠ b) : a.toNatClampNeg ≠ b.toNatClampNeg := fun e => h (by
  obtain ⟨a1, -⟩ := ha
  obtain ⟨b1, -⟩ := hb
  rw [Int32.lt_iff_toInt_lt] at a1 b1
  have e0 : (0 : Int32).toInt = 0 := rfl
  simp only [Int32.toNatClampNeg] at e
  apply Int32.toInt_inj.mp; omega)
theorem own_gtS {xs : List Int32} {i : Nat} {b v : Int32} (h : i ≠ b.toNatClampNeg) : own_gt (xs.set i v) b = own_gt xs b := by
  unfold own_gt; rw [getR_eq, getR_eq, List.getD_eq_getElem?_getD, List.getElem?_set_ne h, ← List.getD_eq_getElem?_getD]
/-- count both ends: either first -/
theorem own_c2 {α : Type} {z : List Int32} {a b : Int32} (h : a ≠ b) (k : List Int32 → Option α) :
    (kld z a fun v => kst z a (v + 1) fun x => kld x b fun w => kst x b (w + 1) k) = (kld z b fun v => kst z b (v + 1) fun x => kld x a fun w => kst x a (w + 1) k) := by
  unfold kld kst
  simp only [lenR_eq, setR_eq]
  by_cases ca : InB z.length a
  · by_cases cb : InB z.length b
    · have hn := own_toN ca cb h
      simp only [if_pos ca, if_pos cb, List.length_set]
      rw [own_gtS hn, own_gtS (Ne.symm hn), List.set_comm _ _ hn]
    · simp only [if_pos ca, if_neg cb, List.length_set]
  · by_cases cb : InB z.length b
    · simp only [if_neg ca, if_pos cb, List.length_set]
    · simp only [if_neg ca, if_neg cb]
theorem own_glS {zz : List (List Int32)} {i j : Nat} {v : List Int32} (h : i ≠ j) : (zz.set i v).getD j [] = zz.getD j [] := by rw [List.getD_eq_getElem?_getD, List.getElem?_set_ne h, ← List.getD_eq_getElem?_getD]
/-- lay the pipe's number at both ends: either first -/
theorem own_i2 {α : Type} {z : List Int32} {zz : List (List Int32)} {a b p : Int32} (h : a ≠ b) (k : List Int32 → List (List Int32) → Option α) :
    (kll zz a fun r => kld z a fun v => kst z a (v + 1) fun x => kst r v p fun y => kll (setR zz a.toNatClampNeg y) b fun r' => kld x b fun w => kst x b (w + 1) fun x' => kst r' w p fun y' => k x' (setR (setR zz a.toNatClampNeg y) b.toNatClampNeg y')) =
    (kll zz b fun r => kld z b fun v => kst z b (v + 1) fun x => kst r v p fun y => kll (setR zz b.toNatClampNeg y) a fun r' => kld x a fun w => kst x a (w + 1) fun x' => kst r' w p fun y' => k x' (setR (setR zz b.toNatClampNeg y) a.toNatClampNeg y')) := by
  unfold kll kld kst
  simp only [lenR_eq, getR_eq, setR_eq]
  by_cases la : InB zz.length a
  · by_cases lb : InB zz.length b
    · have hn := own_toN la lb h
      by_cases ca : InB z.length a
      · by_cases cb : InB z.length b
        · simp only [if_pos la, if_pos lb, if_pos ca, if_pos cb, List.length_set]
          rw [own_gtS hn, own_gtS (Ne.symm hn), List.set_comm _ _ hn]
          by_cases ra : InB (zz.getD a.toNatClampNeg []).length (own_gt z a)
          · by_cases rb : InB (zz.getD b.toNatClampNeg []).length (own_gt z b)
            · simp only [if_pos ra, if_pos rb, own_glS hn, own_glS (Ne.symm hn)]
              rw [List.set_comm _ _ hn]
            · simp only [if_pos ra, if_neg rb, own_glS hn]
          · by_cases rb : InB (zz.getD b.toNatClampNeg []).length (own_gt z b)
            · simp only [if_neg ra, if_pos rb, own_glS (Ne.symm hn)]
            · simp only [if_neg ra, if_neg rb]
        · simp only [if_pos la, if_pos lb, if_pos ca, if_neg cb, List.length_set]
          split <;> rfl
      · by_cases cb : InB z.length b
        · simp only [if_pos la, if_pos lb, if_neg ca, if_pos cb, List.length_set]
          split <;> rfl
        · simp only [if_pos la, if_pos lb, if_neg ca, if_neg cb]
    · simp only [if_pos la, if_neg lb, List.length_set]
      split
      · split
        · rfl
        · rfl
      · rfl
  · by_cases lb : InB zz.length b
    · simp only [if_neg la, if_pos lb, List.length_set]
      split
      · split
        · rfl
        · rfl
      · rfl
    · simp only [if_neg la, if_neg lb]
theorem own_i136 {ps ps' : List (Int32 × Int32 × Int32)} (h : Sw ps ps') : ∀ (n : Nat) (i : Int32) (z : List Int32) (zz : List (List Int32)), incK_k136 ps n i z zz = incK_k136 ps' n i z zz
  | 0, _, _, _ => rfl
  | n + 1, i, z, zz => by
    rw [incK_k136_s, incK_k136_s, own_nS h]
    by_cases c : i < own_n ps
    · rw [if_pos c, if_pos c]
      refine own_kpp h fun q q' w => ?_
      obtain ⟨ne, rfl | rfl⟩ := w
      · simp only [own_i136 h n]
      · dsimp only
        by_cases o : q.2.2 = 0
        · rw [if_pos o, if_pos o]; exact own_i136 h n _ _ _
        · rw [if_neg o, if_neg o]; simp only [own_i136 h n]; exact own_i2 ne (fun x y => incK_k136 ps' n (i + 1) x y)
    · rw [if_neg c, if_neg c]
theorem own_i14 {ps ps' : List (Int32 × Int32 × Int32)} (h : Sw ps ps') : ∀ (n : Nat) (i l : Int32) (z : List Int32), incK_k14 ps n i l z = incK_k14 ps' n i l z
  | 0, _, _, _ => rfl
  | n + 1, i, l, z => by
    rw [incK_k14_s, incK_k14_s, own_nS h]
    by_cases c : own_hn i (own_n ps) = 0
    · rw [if_pos c, if_pos c]; simp only [own_i136 h]
    · rw [if_neg c, if_neg c]
      refine own_kpp h fun q q' w => ?_
      obtain ⟨ne, rfl | rfl⟩ := w
      · simp only [own_i14 h n]
      · dsimp only
        by_cases o : q.2.2 = 0
        · rw [if_pos o, if_pos o]; exact own_i14 h n _ _ _
        · rw [if_neg o, if_neg o, if_neg ne, if_neg (Ne.symm ne)]; simp only [own_i14 h n]; exact own_c2 ne (fun x => incK_k14 ps' n (i + 1) i x)
theorem own_incS {ps ps' : List (Int32 × Int32 × Int32)} (h : Sw ps ps') : incK ps = incK ps' := own_i14 h _ _ _ _
def own_top (ps : List (Int32 × Int32 × Int32)) : Option (List Int32 × List Int32) := topK (incK ps) (own_n ps) (oeK ps)
theorem own_topS {ps ps' : List (Int32 × Int32 × Int32)} (h : Sw ps ps') : own_top ps = own_top ps' := by unfold own_top; rw [own_incS h, own_nS h, own_oeS h]
def own_pen (h vop fp : Int32) : List (Int32 × Int32 × Int32) := [own_q fp h ((h + 4) % 5) vop]
def own_psA (h a0 a1 a2 vop fp v0 f0 g0 v1 f1 g1 v2 f2 g2 : Int32) : List (Int32 × Int32 × Int32) := ((own_pen h vop fp ++ own_arm h ((h + 1) % 5) (5 + a0) v0 f0 g0) ++ own_arm h ((h + 2) % 5) (5 + a1) v1 f1 g1) ++ own_arm h ((h + 3) % 5) (5 + a2) v2 f2 g2
def own_psB (h a0 a1 a2 vop fp v0 f0 g0 v1 f1 g1 v2 f2 g2 : Int32) : List (Int32 × Int32 × Int32) := ((own_arm h ((h + 1) % 5) (5 + a0) v0 f0 g0 ++ own_arm h ((h + 2) % 5) (5 + a1) v1 f1 g1) ++ own_arm h ((h + 3) % 5) (5 + a2) v2 f2 g2) ++ own_pen h vop fp
def own_ex (c a0 a1 a2 : Int32) : Int32 := if c = 0 then 5 + a0 else if c = 1 then 5 + a1 else 5 + a2
def own_ok (ps : List (Int32 × Int32 × Int32)) (a0 a1 a2 : Int32) : Bool :=
  match own_top ps with
  | some (b, n) => endK b n 0 == some (5 + a0) && endK b n 1 == some (5 + a1) && endK b n 2 == some (5 + a2)
  | none => false
def all2 (f : Int32 → Bool) : Bool := f 0 && f 1
def all3 (f : Int32 → Bool) : Bool := f 0 && (f 1 && f 2)
theorem all2e {f : Int32 → Bool} {a : Int32} (H : all2 f = true) (h : a = 0 ∨ a = 1) : f a = true := by
  unfold all2 at H; rw [Bool.and_eq_true] at H; rcases h with rfl | rfl; exact H.1; exact H.2
theorem all3e {f : Int32 → Bool} {a : Int32} (H : all3 f = true) (h : a = 0 ∨ a = 1 ∨ a = 2) : f a = true := by
  unfold all3 at H; rw [Bool.and_eq_true, Bool.and_eq_true] at H; rcases h with rfl | rfl | rfl; exact H.1; exact H.2.1; exact H.2.2
def own_all (h : Int32) : Bool := all3 fun a0 => all3 fun a1 => all3 fun a2 => all2 fun vop => all2 fun v0 => all2 fun v1 => all2 fun v2 => own_ok (own_psA h a0 a1 a2 vop 0 v0 0 0 v1 0 0 v2 0 0) a0 a1 a2 && own_ok (own_psB h a0 a1 a2 vop 0 v0 0 0 v1 0 0 v2 0 0) a0 a1 a2
set_option maxRecDepth 65536 in
theorem own_all0 : own_all 0 = true := by decide +kernel
set_option maxRecDepth 65536 in
theorem own_all1 : own_all 1 = true := by decide +kernel
set_option maxRecDepth 65536 in
theorem own_all2 : own_all 2 = true := by decide +kernel
set_option maxRecDepth 65536 in
theorem own_all3 : own_all 3 = true := by decide +kernel
set_option maxRecDepth 65536 in
theorem own_all4 : own_all 4 = true := by decide +kernel
theorem own_allh {h : Int32} (q : h = 0 ∨ h = 1 ∨ h = 2 ∨ h = 3 ∨ h = 4) : own_all h = true := by
  rcases q with rfl | rfl | rfl | rfl | rfl
  · exact own_all0
  · exact own_all1
  · exact own_all2
  · exact own_all3
  · exact own_all4
theorem own_sw1 {x y o f : Int32} (h : x ≠ y) : SwP (own_q f x y o) (own_q 0 x y o) := by
  have e : own_q 0 x y o = (x, y, o) := rfl
  rw [e]
  unfold SwP own_q own_fl
  by_cases c : f = 0
  · simp only [if_pos c]; exact ⟨h, Or.inl trivial⟩
  · simp only [if_neg c]; exact ⟨Ne.symm h, Or.inr trivial⟩
def own_v (v : Int32) : Int32 := if v = 0 then 0 else 1
theorem own_v01 (v : Int32) : own_v v = 0 ∨ own_v v = 1 := by unfold own_v; split; exact Or.inl rfl; exact Or.inr rfl
theorem own_swA {h s r v f g : Int32} (n1 : h ≠ r) (n2 : h ≠ s) (n3 : s ≠ r) : Sw (own_arm h s r v f g) (own_arm h s r (own_v v) 0 0) := by
  unfold own_arm own_v
  by_cases c : v = 0
  · rw [if_pos c, if_pos c, if_pos rfl]; exact ⟨own_sw1 n1, trivial⟩
  · rw [if_neg c, if_neg c, if_neg (by decide)]; exact ⟨own_sw1 n2, own_sw1 n3, trivial⟩
theorem own_swP {h vop fp : Int32} (n : h ≠ (h + 4) % 5) : Sw (own_pen h vop fp) (own_pen h vop 0) := ⟨own_sw1 n, trivial⟩
theorem own_ne1 {h : Int32} (q : h = 0 ∨ h = 1 ∨ h = 2 ∨ h = 3 ∨ h = 4) : h ≠ (h + 4) % 5 ∧ h ≠ (h + 1) % 5 ∧ h ≠ (h + 2) % 5 ∧ h ≠ (h + 3) % 5 := by rcases q with rfl | rfl | rfl | rfl | rfl <;> decide
theorem own_ne2 {h a : Int32} (q : h = 0 ∨ h = 1 ∨ h = 2 ∨ h = 3 ∨ h = 4) (r : a = 0 ∨ a = 1 ∨ a = 2) : h ≠ 5 + a ∧ (h + 1) % 5 ≠ 5 + a ∧ (h + 2) % 5 ≠ 5 + a ∧ (h + 3) % 5 ≠ 5 + a := by rcases q with rfl | rfl | rfl | rfl | rfl <;> rcases r with rfl | rfl | rfl <;> decide
theorem own_okx {ps : List (Int32 × Int32 × Int32)} {a0 a1 a2 c : Int32} (H : own_ok ps a0 a1 a2 = true) (hc : c = 0 ∨ c = 1 ∨ c = 2) : ∃ t, own_top ps = some t ∧ endK t.1 t.2 c = some (own_ex c a0 a1 a2) := by
  unfold own_ok at H
  cases e : own_top ps with
  | none => rw [e] at H; exact absurd (show false = true from H) Bool.false_ne_true
  | some t =>
    rw [e] at H
    obtain ⟨b, n⟩ := t
    simp only [Bool.and_eq_true, beq_iff_eq] at H
    obtain ⟨⟨h1, h2⟩, h3⟩ := H
    refine ⟨(b, n), rfl, ?_⟩
    rcases hc with rfl | rfl | rfl
    · exact h1
    · exact h2
    · exact h3
theorem own_main {h a0 a1 a2 c vop fp v0 f0 g0 v1 f1 g1 v2 f2 g2 : Int32} (hh : h = 0 ∨ h = 1 ∨ h = 2 ∨ h = 3 ∨ h = 4) (q0 : a0 = 0 ∨ a0 = 1 ∨ a0 = 2) (q1 : a1 = 0 ∨ a1 = 1 ∨ a1 = 2) (q2 : a2 = 0 ∨ a2 = 1 ∨ a2 = 2) (hc : c = 0 ∨ c = 1 ∨ c = 2) (hv : vop = 0 ∨ vop = 1) :
    (∃ t, own_top (own_psA h a0 a1 a2 vop fp v0 f0 g0 v1 f1 g1 v2 f2 g2) = some t ∧ endK t.1 t.2 c = some (own_ex c a0 a1 a2)) ∧ (∃ t, own_top (own_psB h a0 a1 a2 vop fp v0 f0 g0 v1 f1 g1 v2 f2 g2) = some t ∧ endK t.1 t.2 c = some (own_ex c a0 a1 a2)) := by
  have H := all2e (all2e (all2e (all2e (all3e (all3e (all3e (own_allh hh) q0) q1) q2) hv) (own_v01 v0)) (own_v01 v1)) (own_v01 v2)
  rw [Bool.and_eq_true] at H
  obtain ⟨n4, n1, n2, n3⟩ := own_ne1 hh
  obtain ⟨m0, m1, -, -⟩ := own_ne2 hh q0
  obtain ⟨k0, -, k2, -⟩ := own_ne2 hh q1
  obtain ⟨j0, -, -, j3⟩ := own_ne2 hh q2
  have s0 := own_swA (v := v0) (f := f0) (g := g0) m0 n1 m1
  have s1 := own_swA (v := v1) (f := f1) (g := g1) k0 n2 k2
  have s2 := own_swA (v := v2) (f := f2) (g := g2) j0 n3 j3
  have sp := own_swP (vop := vop) (fp := fp) n4
  have eA := own_topS (((sp.app s0).app s1).app s2)
  have eB := own_topS (((s0.app s1).app s2).app sp)
  constructor
  · obtain ⟨t, t1, t2⟩ := own_okx H.1 hc; exact ⟨t, eA.trans t1, t2⟩
  · obtain ⟨t, t1, t2⟩ := own_okx H.2 hc; exact ⟨t, eB.trans t1, t2⟩
end OwnTop

theorem own_m5 (x : Int32) : ((x &&& (2147483647 : Int32)) % 5) = 0 ∨ ((x &&& (2147483647 : Int32)) % 5) = 1 ∨ ((x &&& (2147483647 : Int32)) % 5) = 2 ∨ ((x &&& (2147483647 : Int32)) % 5) = 3 ∨ ((x &&& (2147483647 : Int32)) % 5) = 4 := by
  have m := c_mask x 2147483647 31 (by decide) (by decide)
  have e5 : (5 : Int32).toInt = 5 := by decide
  have e : ((x &&& (2147483647 : Int32)) % 5).toInt = (x &&& (2147483647 : Int32)).toInt.tmod 5 := by rw [Int32.toInt_mod, e5]
  rw [Int.tmod_eq_emod_of_nonneg (by omega)] at e
  generalize ((x &&& (2147483647 : Int32)) % 5) = y at e
  have z0 : (0 : Int32).toInt = 0 := by decide
  have z1 : (1 : Int32).toInt = 1 := by decide
  have z2 : (2 : Int32).toInt = 2 := by decide
  have z3 : (3 : Int32).toInt = 3 := by decide
  have z4 : (4 : Int32).toInt = 4 := by decide
  simp only [← Int32.toInt_inj, z0, z1, z2, z3, z4]; omega
theorem own_m3 (x : Int32) : ((x &&& (2147483647 : Int32)) % 3) = 0 ∨ ((x &&& (2147483647 : Int32)) % 3) = 1 ∨ ((x &&& (2147483647 : Int32)) % 3) = 2 := by
  have m := c_mask x 2147483647 31 (by decide) (by decide)
  have e3 : (3 : Int32).toInt = 3 := by decide
  have e : ((x &&& (2147483647 : Int32)) % 3).toInt = (x &&& (2147483647 : Int32)).toInt.tmod 3 := by rw [Int32.toInt_mod, e3]
  rw [Int.tmod_eq_emod_of_nonneg (by omega)] at e
  generalize ((x &&& (2147483647 : Int32)) % 3) = y at e
  have z0 : (0 : Int32).toInt = 0 := by decide
  have z1 : (1 : Int32).toInt = 1 := by decide
  have z2 : (2 : Int32).toInt = 2 := by decide
  simp only [← Int32.toInt_inj, z0, z1, z2]; omega
theorem own_if01 {c : Prop} [Decidable c] {z : Int32} (h : z = if c then 0 else 1) : z = 0 ∨ z = 1 := by by_cases q : c; exact Or.inl (by rw [h, if_pos q]); exact Or.inr (by rw [h, if_neg q])

theorem pd24 : parseMethodDescriptor "(Ljava/util/ArrayList;IIIZZZ)V" = some ⟨[(.object s9_), .int, .int, .int, .boolean, .boolean, .boolean], none⟩ := by decide +kernel
theorem pd25 : parseMethodDescriptor "(Ljava/util/List;Ljava/util/List;Ljava/util/List;Lcom/example/hydromeme/hydromeme/FlowUnits;Lcom/example/hydromeme/hydromeme/HeadLoss;D)V" = some ⟨[(.object s11_), (.object s11_), (.object s11_), (.object s2_), (.object s3_), .double], none⟩ := by decide +kernel
theorem pd26 : parseMethodDescriptor "(Lcom/example/hydromeme/hydromeme/Network;)V" = some ⟨[(.object s5_)], none⟩ := by decide +kernel
theorem pd27 : parseMethodDescriptor "(I)I" = some ⟨[.int], some .int⟩ := by decide +kernel
theorem ef_rm0 (m : MethodId) (x0 : Int32) (x1 : Int32) (x2 : Int32) (x3 : Int32) (x4 : Int32) (x5 : Int32) : entryFrame m #[(.int x0), (.int x1), (.int x2), (.int x3), (.int x4), (.int x5)] maxLocals = mkF m 0 #[.val (.int x0), .val (.int x1), .val (.int x2), .val (.int x3), .val (.int x4), .val (.int x5), o_, o_, o_, o_, o_, o_, o_, o_, o_, o_, o_, o_, o_] [] := by first | (simp [entryFrame, mkF, argsToLocals, Value.category, maxLocals]; done) | rfl
def Q_rm0 (Z : State) (x0_ : Int32) (x1_ : Int32) (x2_ : Int32) (x3_ : Int32) (x4_ : Int32) (x5_ : Int32) (dz : Addr) (cz : ClassId) (ac : Addr) (cc : Cell) (h0 : Heap) (n0 : Nat) (v : Option Value) (h : Heap) (L : List Loc) : Prop := v = some (.int (1 : Int32)) ∧ Fr n0 L
theorem rm0 (l : Launch) (Z : State) (a0 : Array Value) (hw : OHW Z a0) (ws : List Jvm.Cond) (x0_ : Int32) (x1_ : Int32) (x2_ : Int32) (x3_ : Int32) (x4_ : Int32) (x5_ : Int32) (dz : Addr) (cz : ClassId) (ac : Addr) (cc : Cell) (h0 : Heap) (n0 : Nat) (Z0 : n0 ≤ h0.size) (O_0 : Old Z n0 h0) (S_d : Sta Z Z.heap s9_ "DEFAULTCAPACITY_EMPTY_ELEMENTDATA" "[Ljava/lang/Object;" (.ref dz)) (V_z : Arv Z h0 dz cz (.object "java/lang/Object") (0 : Int32) [] .null) (S_hi : Sta Z Z.heap "java/lang/Integer$IntegerCache" "high" "I" (.int (127 : Int32))) (S_ca : Sta Z Z.heap "java/lang/Integer$IntegerCache" "cache" "[Ljava/lang/Integer;" (.ref ac)) (B_x : Bxs Z ac cc "java/lang/Integer" "I" (256 : Int32) (fun z => .int (z - 128))) :
    OCon l Z x code maxLocals ret ws room_1 #[(.int x0_), (.int x1_), (.int x2_), (.int x3_), (.int x4_), (.int x5_)] h0 (Q_rm0 Z x0_ x1_ x2_ x3_ x4_ x5_ dz cz ac cc h0 n0) := by
  refine OCon.of (plainFor_of_name pn2) ?_
  intro p e s m below meth c s₁ Φ X0 hx hby hml hown hnm hret hlk hZ e0 hΦ
  have N0 := Fr.nil n0
  refine os (fun _ z => castTop (ef_rm0 m x0_ x1_ x2_ x3_ x4_ x5_) z) ?_
  show OG p e below Φ s₁ m 0 #[iv x0_, iv x1_, iv x2_, iv x3_, iv x4_, iv x5_, o_, o_, o_, o_, o_, o_, o_, o_, o_, o_, o_, o_, o_] []
  refine gIn X0 hx hby at_0 rfl ?_
  refine os (fun _ z => X0.ldcI hx hown (mvT hZ (ow0 hw)) rfl (hb hby at_1) z) ?_
  refine os (fun _ z => XS.iand X0.here hx rfl (hb hby at_3) rfl z) ?_
  refine gIc (x := 5) X0 hx hby at_4 rfl ?_
  refine os (fun _ z => iremM X0 hx rfl (hb hby at_5) rfl (by decide) z) ?_
  show OG p e below Φ s₁ m 6 #[iv x0_, iv x1_, iv x2_, iv x3_, iv x4_, iv x5_, o_, o_, o_, o_, o_, o_, o_, o_, o_, o_, o_, o_, o_] [(.int ((x0_ &&& (2147483647 : Int32)) % 5))]
  obtain ⟨hh, h_hh⟩ : ∃ z, z = ((x0_ &&& (2147483647 : Int32)) % 5) := ⟨_, rfl⟩
  rw [← h_hh]
  show OG p e below Φ s₁ m 6 #[iv x0_, iv x1_, iv x2_, iv x3_, iv x4_, iv x5_, o_, o_, o_, o_, o_, o_, o_, o_, o_, o_, o_, o_, o_] [(.int hh)]
  refine gIs X0 hx hby at_6 (ls' := #[iv x0_, iv x1_, iv x2_, iv x3_, iv x4_, iv x5_, iv hh, o_, o_, o_, o_, o_, o_, o_, o_, o_, o_, o_, o_]) rfl ?_
  refine gIn X0 hx hby at_8 rfl ?_
  refine os (fun _ z => X0.ldcI hx hown (mvT hZ (ow0 hw)) rfl (hb hby at_9) z) ?_
  refine os (fun _ z => XS.iand X0.here hx rfl (hb hby at_11) rfl z) ?_
  refine gIc (x := 3) X0 hx hby at_12 rfl ?_
  refine os (fun _ z => iremM X0 hx rfl (hb hby at_13) rfl (by decide) z) ?_
  show OG p e below Φ s₁ m 14 #[iv x0_, iv x1_, iv x2_, iv x3_, iv x4_, iv x5_, iv hh, o_, o_, o_, o_, o_, o_, o_, o_, o_, o_, o_, o_] [(.int ((x1_ &&& (2147483647 : Int32)) % 3))]
  obtain ⟨ra0, h_ra0⟩ : ∃ z, z = ((x1_ &&& (2147483647 : Int32)) % 3) := ⟨_, rfl⟩
  rw [← h_ra0]
  show OG p e below Φ s₁ m 14 #[iv x0_, iv x1_, iv x2_, iv x3_, iv x4_, iv x5_, iv hh, o_, o_, o_, o_, o_, o_, o_, o_, o_, o_, o_, o_] [(.int ra0)]
  refine gIs X0 hx hby at_14 (ls' := #[iv x0_, iv x1_, iv x2_, iv x3_, iv x4_, iv x5_, iv hh, iv ra0, o_, o_, o_, o_, o_, o_, o_, o_, o_, o_, o_]) rfl ?_
  refine gIn X0 hx hby at_16 rfl ?_
  refine os (fun _ z => X0.ldcI hx hown (mvT hZ (ow0 hw)) rfl (hb hby at_17) z) ?_
  refine os (fun _ z => XS.iand X0.here hx rfl (hb hby at_19) rfl z) ?_
  refine gIc (x := 3) X0 hx hby at_20 rfl ?_
  refine os (fun _ z => iremM X0 hx rfl (hb hby at_21) rfl (by decide) z) ?_
  show OG p e below Φ s₁ m 22 #[iv x0_, iv x1_, iv x2_, iv x3_, iv x4_, iv x5_, iv hh, iv ra0, o_, o_, o_, o_, o_, o_, o_, o_, o_, o_, o_] [(.int ((x2_ &&& (2147483647 : Int32)) % 3))]
  obtain ⟨ra1, h_ra1⟩ : ∃ z, z = ((x2_ &&& (2147483647 : Int32)) % 3) := ⟨_, rfl⟩
  rw [← h_ra1]
  show OG p e below Φ s₁ m 22 #[iv x0_, iv x1_, iv x2_, iv x3_, iv x4_, iv x5_, iv hh, iv ra0, o_, o_, o_, o_, o_, o_, o_, o_, o_, o_, o_] [(.int ra1)]
  refine gIs X0 hx hby at_22 (ls' := #[iv x0_, iv x1_, iv x2_, iv x3_, iv x4_, iv x5_, iv hh, iv ra0, iv ra1, o_, o_, o_, o_, o_, o_, o_, o_, o_, o_]) rfl ?_
  refine gIn X0 hx hby at_24 rfl ?_
  refine os (fun _ z => X0.ldcI hx hown (mvT hZ (ow0 hw)) rfl (hb hby at_25) z) ?_
  refine os (fun _ z => XS.iand X0.here hx rfl (hb hby at_27) rfl z) ?_
  refine gIc (x := 3) X0 hx hby at_28 rfl ?_
  refine os (fun _ z => iremM X0 hx rfl (hb hby at_29) rfl (by decide) z) ?_
  show OG p e below Φ s₁ m 30 #[iv x0_, iv x1_, iv x2_, iv x3_, iv x4_, iv x5_, iv hh, iv ra0, iv ra1, o_, o_, o_, o_, o_, o_, o_, o_, o_, o_] [(.int ((x3_ &&& (2147483647 : Int32)) % 3))]
  obtain ⟨ra2, h_ra2⟩ : ∃ z, z = ((x3_ &&& (2147483647 : Int32)) % 3) := ⟨_, rfl⟩
  rw [← h_ra2]
  show OG p e below Φ s₁ m 30 #[iv x0_, iv x1_, iv x2_, iv x3_, iv x4_, iv x5_, iv hh, iv ra0, iv ra1, o_, o_, o_, o_, o_, o_, o_, o_, o_, o_] [(.int ra2)]
  refine gIs X0 hx hby at_30 (ls' := #[iv x0_, iv x1_, iv x2_, iv x3_, iv x4_, iv x5_, iv hh, iv ra0, iv ra1, iv ra2, o_, o_, o_, o_, o_, o_, o_, o_, o_]) rfl ?_
  refine gI X0 hx hby at_32 rfl ?_
  refine os (fun _ z => X0.ldcI hx hown (mvT hZ (ow0 hw)) rfl (hb hby at_34) z) ?_
  refine os (fun _ z => XS.iand X0.here hx rfl (hb hby at_36) rfl z) ?_
  refine gIc (x := 3) X0 hx hby at_37 rfl ?_
  refine os (fun _ z => iremM X0 hx rfl (hb hby at_38) rfl (by decide) z) ?_
  show OG p e below Φ s₁ m 39 #[iv x0_, iv x1_, iv x2_, iv x3_, iv x4_, iv x5_, iv hh, iv ra0, iv ra1, iv ra2, o_, o_, o_, o_, o_, o_, o_, o_, o_] [(.int ((x4_ &&& (2147483647 : Int32)) % 3))]
  obtain ⟨cc_, h_cc_⟩ : ∃ z, z = ((x4_ &&& (2147483647 : Int32)) % 3) := ⟨_, rfl⟩
  rw [← h_cc_]
  show OG p e below Φ s₁ m 39 #[iv x0_, iv x1_, iv x2_, iv x3_, iv x4_, iv x5_, iv hh, iv ra0, iv ra1, iv ra2, o_, o_, o_, o_, o_, o_, o_, o_, o_] [(.int cc_)]
  refine gIs X0 hx hby at_39 (ls' := #[iv x0_, iv x1_, iv x2_, iv x3_, iv x4_, iv x5_, iv hh, iv ra0, iv ra1, iv ra2, iv cc_, o_, o_, o_, o_, o_, o_, o_, o_]) rfl ?_
  refine gI X0 hx hby at_41 rfl ?_
  refine os (fun _ z => XS.bipush X0.here hx rfl (hb hby at_43) z) ?_
  refine os (fun _ z => XS.iand X0.here hx rfl (hb hby at_45) rfl z) ?_
  show OG p e below Φ s₁ m 46 #[iv x0_, iv x1_, iv x2_, iv x3_, iv x4_, iv x5_, iv hh, iv ra0, iv ra1, iv ra2, iv cc_, o_, o_, o_, o_, o_, o_, o_, o_] [(.int (x5_ &&& (8 : Int32)))]
  refine gBo X0 hx hby at_46 at_49 at_50 at_53 ?_
  show OG p e below Φ s₁ m 54 #[iv x0_, iv x1_, iv x2_, iv x3_, iv x4_, iv x5_, iv hh, iv ra0, iv ra1, iv ra2, iv cc_, o_, o_, o_, o_, o_, o_, o_, o_] [(.int (if (x5_ &&& (8 : Int32)) = 0 then (0 : Int32) else (1 : Int32)))]
  obtain ⟨vop, h_vop⟩ : ∃ z, z = (if (x5_ &&& (8 : Int32)) = 0 then (0 : Int32) else (1 : Int32)) := ⟨_, rfl⟩
  rw [← h_vop]
  show OG p e below Φ s₁ m 54 #[iv x0_, iv x1_, iv x2_, iv x3_, iv x4_, iv x5_, iv hh, iv ra0, iv ra1, iv ra2, iv cc_, o_, o_, o_, o_, o_, o_, o_, o_] [(.int vop)]
  refine gIs X0 hx hby at_54 (ls' := #[iv x0_, iv x1_, iv x2_, iv x3_, iv x4_, iv x5_, iv hh, iv ra0, iv ra1, iv ra2, iv cc_, iv vop, o_, o_, o_, o_, o_, o_, o_]) rfl ?_
  refine gI X0 hx hby at_56 rfl ?_
  refine os (fun _ z => XS.bipush X0.here hx rfl (hb hby at_58) z) ?_
  refine os (fun _ z => XS.iand X0.here hx rfl (hb hby at_60) rfl z) ?_
  show OG p e below Φ s₁ m 61 #[iv x0_, iv x1_, iv x2_, iv x3_, iv x4_, iv x5_, iv hh, iv ra0, iv ra1, iv ra2, iv cc_, iv vop, o_, o_, o_, o_, o_, o_, o_] [(.int (x5_ &&& (16 : Int32)))]
  refine gBo X0 hx hby at_61 at_64 at_65 at_68 ?_
  show OG p e below Φ s₁ m 69 #[iv x0_, iv x1_, iv x2_, iv x3_, iv x4_, iv x5_, iv hh, iv ra0, iv ra1, iv ra2, iv cc_, iv vop, o_, o_, o_, o_, o_, o_, o_] [(.int (if (x5_ &&& (16 : Int32)) = 0 then (0 : Int32) else (1 : Int32)))]
  obtain ⟨fi, h_fi⟩ : ∃ z, z = (if (x5_ &&& (16 : Int32)) = 0 then (0 : Int32) else (1 : Int32)) := ⟨_, rfl⟩
  rw [← h_fi]
  show OG p e below Φ s₁ m 69 #[iv x0_, iv x1_, iv x2_, iv x3_, iv x4_, iv x5_, iv hh, iv ra0, iv ra1, iv ra2, iv cc_, iv vop, o_, o_, o_, o_, o_, o_, o_] [(.int fi)]
  refine gIs X0 hx hby at_69 (ls' := #[iv x0_, iv x1_, iv x2_, iv x3_, iv x4_, iv x5_, iv hh, iv ra0, iv ra1, iv ra2, iv cc_, iv vop, iv fi, o_, o_, o_, o_, o_, o_]) rfl ?_
  obtain ⟨T1, h1, X1, e1, E1, A1, D1, U1, st1⟩ := newO X0 hx hZ hown (ow1 hw) (ow2 hw) (ow3 hw) e0 (g := (mkF m 71 #[iv x0_, iv x1_, iv x2_, iv x3_, iv x4_, iv x5_, iv hh, iv ra0, iv ra1, iv ra2, iv cc_, iv vop, iv fi, o_, o_, o_, o_, o_, o_] [])) rfl (hb hby at_71) (by decide) (by decide)
  obtain ⟨b1, g1⟩ : ∃ z, z = h0.size := ⟨_, rfl⟩
  rw [← g1] at A1 D1 st1 U1
  have ne1_dz := one_ g1 V_z.lt
  have F2 := O_0.ext E1
  have F3 := V_z.ext E1
  have gb1 := Nat.le_trans Z0 (Nat.le_of_eq g1.symm)
  have Zs1 := Nat.le_trans Z0 E1.1
  have F1_23 : Fld Z h1 b1 s7_ "modCount" "I" (.int (0 : Int32)) := D1 (Or.inl (ow23 hw)) (ty := .int) (by decide)
  have F1_26 : Fld Z h1 b1 s9_ "elementData" "[Ljava/lang/Object;" .null := D1 (Or.inl (ow26 hw)) (ty := (.array (.object "java/lang/Object"))) (by decide)
  have F1_35 : Fld Z h1 b1 s9_ "size" "I" (.int (0 : Int32)) := D1 (Or.inl (ow35 hw)) (ty := .int) (by decide)
  refine os (st1) ?_
  show OG p e below Φ T1 m 74 #[iv x0_, iv x1_, iv x2_, iv x3_, iv x4_, iv x5_, iv hh, iv ra0, iv ra1, iv ra2, iv cc_, iv vop, iv fi, o_, o_, o_, o_, o_, o_] [(.ref b1)]
  refine gDu X1 hx hby at_74 rfl ?_
  obtain ⟨_, T4, L4, X4, hQ4, st4⟩ := own_callSp X1 hx hZ rfl hown (ow4 hw) (ow5 hw) (ow3 hw) (ow6 hw) (by decide) (rliali l Z a0 hw [] b1 dz h1 n0 Zs1 A1 gb1 F1_23 F1_35 F1_26 F2 S_d) e1 (W := 1) (by decide) (pc := 75) (ls := #[iv x0_, iv x1_, iv x2_, iv x3_, iv x4_, iv x5_, iv hh, iv ra0, iv ra1, iv ra2, iv cc_, iv vop, iv fi, o_, o_, o_, o_, o_, o_]) (stk := [(.ref b1), (.ref b1)]) (by rw [hml]; rfl) (a := b1) (argsL := []) (rest := [(.ref b1)]) (lenOf pd0 rfl) rfl rfl (Nat.le_of_eq rfl) (hb hby at_75)
  obtain ⟨rfl, Nq4, Kq4, Eq4, Fm4, Fs4, Fe4⟩ := hQ4
  have N4 := Fr.app N0 Nq4
  have Zs4 := Nat.le_trans Zs1 Kq4.1
  have F5 := F2.keep Kq4 (allS gb1 all0)
  have F6 := F3.keep Kq4 (ninS ne1_dz nin0)
  refine os st4 ?_
  refine gAs X4 hx hby at_78 rfl (ls' := #[iv x0_, iv x1_, iv x2_, iv x3_, iv x4_, iv x5_, iv hh, iv ra0, iv ra1, iv ra2, iv cc_, iv vop, iv fi, rv b1, o_, o_, o_, o_, o_]) rfl ?_
  refine gA X4 hx hby at_80 rfl rfl ?_
  refine os (fun _ z => XS.aconstNull X4.here hx rfl (hb hby at_82) z) ?_
  obtain ⟨_, T7, L7, X7, hQ7, st7⟩ := own_callVi X4 hx hZ hown (ow27 hw) (ow28 hw) (notFace_of_selects (args := #[]) (mvT hZ (ow30 hw))) (ow30 hw) (ow29 hw) (ow3 hw) (ow31 hw) (by decide) (rln0a1 l Z a0 hw [] b1 (0 : Int32) dz cz T4.heap n0 Zs4 Eq4 gb1 Fm4 Fs4 Fe4 F6 ne1_dz (S_d.ext F5.2)) rfl (W := 0) (by decide) Eq4 (pc := 83) (ls := #[iv x0_, iv x1_, iv x2_, iv x3_, iv x4_, iv x5_, iv hh, iv ra0, iv ra1, iv ra2, iv cc_, iv vop, iv fi, rv b1, o_, o_, o_, o_, o_]) (stk := [.null, (.ref b1)]) (by rw [hml]; rfl) (argsL := [.null]) (rest := []) (lenOf pd7 rfl) rfl rfl (Nat.le_of_eq rfl) (hb hby at_83)
  obtain ⟨rfl, Nq7, Kq7, Eq7, Fm7, Fs7, b7, cb7, Fe7, Vq7, Ex7, Ov7, hz7⟩ := hQ7
  have nq7_b1 := Nat.ne_of_lt (Nat.lt_of_lt_of_le Eq4.lt hz7)
  have nq7_dz := Nat.ne_of_lt (Nat.lt_of_lt_of_le F6.lt hz7)
  have gq7 := Nat.le_trans Zs4 hz7
  have N7 := Fr.app N4 Nq7
  have Zs7 := Nat.le_trans Zs4 Kq7.1
  have F8 := F5.keep Kq7 (allS gb1 all0)
  have F9 := F6.keep Kq7 (ninS ne1_dz nin0)
  refine os st7 ?_
  refine os (fun _ z => XT.pop X7.here hx rfl (hb hby at_86) rfl rfl z) ?_
  refine gA X7 hx hby at_87 rfl rfl ?_
  refine os (fun _ z => XS.aconstNull X7.here hx rfl (hb hby at_89) z) ?_
  obtain ⟨_, T10, L10, X10, hQ10, st10⟩ := own_callVi X7 hx hZ hown (ow27 hw) (ow28 hw) (notFace_of_selects (args := #[]) (mvT hZ (ow30 hw))) (ow30 hw) (ow29 hw) (ow3 hw) (ow31 hw) (by decide) (rln1a1 l Z a0 hw [] b1 (1 : Int32) b7 cb7 T7.heap n0 Zs7 Eq7 gb1 Fm7 Fs7 Fe7 Vq7 Ex7 Ov7 gq7 nq7_b1) rfl (W := 0) (by decide) Eq7 (pc := 90) (ls := #[iv x0_, iv x1_, iv x2_, iv x3_, iv x4_, iv x5_, iv hh, iv ra0, iv ra1, iv ra2, iv cc_, iv vop, iv fi, rv b1, o_, o_, o_, o_, o_]) (stk := [.null, (.ref b1)]) (by rw [hml]; rfl) (argsL := [.null]) (rest := []) (lenOf pd7 rfl) rfl rfl (Nat.le_of_eq rfl) (hb hby at_90)
  obtain ⟨rfl, Nq10, Kq10, Eq10, Fm10, Fs10, Fe10, Vq10, Ex10⟩ := hQ10
  have N10 := Fr.app N7 Nq10
  have Zs10 := Nat.le_trans Zs7 Kq10.1
  have F11 := F8.keep Kq10 (allS gb1 (allS gq7 all0))
  have F12 := F9.keep Kq10 (ninS ne1_dz (ninS nq7_dz nin0))
  refine os st10 ?_
  refine os (fun _ z => XT.pop X10.here hx rfl (hb hby at_93) rfl rfl z) ?_
  refine gA X10 hx hby at_94 rfl rfl ?_
  refine os (fun _ z => XS.aconstNull X10.here hx rfl (hb hby at_96) z) ?_
  obtain ⟨_, T13, L13, X13, hQ13, st13⟩ := own_callVi X10 hx hZ hown (ow27 hw) (ow28 hw) (notFace_of_selects (args := #[]) (mvT hZ (ow30 hw))) (ow30 hw) (ow29 hw) (ow3 hw) (ow31 hw) (by decide) (rln2a1 l Z a0 hw [] b1 (2 : Int32) b7 cb7 T10.heap n0 Zs10 Eq10 gb1 Fm10 Fs10 Fe10 Vq10 Ex10 Ov7 gq7 nq7_b1) rfl (W := 0) (by decide) Eq10 (pc := 97) (ls := #[iv x0_, iv x1_, iv x2_, iv x3_, iv x4_, iv x5_, iv hh, iv ra0, iv ra1, iv ra2, iv cc_, iv vop, iv fi, rv b1, o_, o_, o_, o_, o_]) (stk := [.null, (.ref b1)]) (by rw [hml]; rfl) (argsL := [.null]) (rest := []) (lenOf pd7 rfl) rfl rfl (Nat.le_of_eq rfl) (hb hby at_97)
  obtain ⟨rfl, Nq13, Kq13, Eq13, Fm13, Fs13, Fe13, Vq13, Ex13⟩ := hQ13
  have N13 := Fr.app N10 Nq13
  have Zs13 := Nat.le_trans Zs10 Kq13.1
  have F14 := F11.keep Kq13 (allS gb1 (allS gq7 all0))
  have F15 := F12.keep Kq13 (ninS ne1_dz (ninS nq7_dz nin0))
  refine os st13 ?_
  refine os (fun _ z => XT.pop X13.here hx rfl (hb hby at_100) rfl rfl z) ?_
  refine gA X13 hx hby at_101 rfl rfl ?_
  refine os (fun _ z => XS.aconstNull X13.here hx rfl (hb hby at_103) z) ?_
  obtain ⟨_, T16, L16, X16, hQ16, st16⟩ := own_callVi X13 hx hZ hown (ow27 hw) (ow28 hw) (notFace_of_selects (args := #[]) (mvT hZ (ow30 hw))) (ow30 hw) (ow29 hw) (ow3 hw) (ow31 hw) (by decide) (rln3a1 l Z a0 hw [] b1 (3 : Int32) b7 cb7 T13.heap n0 Zs13 Eq13 gb1 Fm13 Fs13 Fe13 Vq13 Ex13 Ov7 gq7 nq7_b1) rfl (W := 0) (by decide) Eq13 (pc := 104) (ls := #[iv x0_, iv x1_, iv x2_, iv x3_, iv x4_, iv x5_, iv hh, iv ra0, iv ra1, iv ra2, iv cc_, iv vop, iv fi, rv b1, o_, o_, o_, o_, o_]) (stk := [.null, (.ref b1)]) (by rw [hml]; rfl) (argsL := [.null]) (rest := []) (lenOf pd7 rfl) rfl rfl (Nat.le_of_eq rfl) (hb hby at_104)
  obtain ⟨rfl, Nq16, Kq16, Eq16, Fm16, Fs16, Fe16, Vq16, Ex16⟩ := hQ16
  have N16 := Fr.app N13 Nq16
  have Zs16 := Nat.le_trans Zs13 Kq16.1
  have F17 := F14.keep Kq16 (allS gb1 (allS gq7 all0))
  have F18 := F15.keep Kq16 (ninS ne1_dz (ninS nq7_dz nin0))
  refine os st16 ?_
  refine os (fun _ z => XT.pop X16.here hx rfl (hb hby at_107) rfl rfl z) ?_
  refine gA X16 hx hby at_108 rfl rfl ?_
  refine os (fun _ z => XS.aconstNull X16.here hx rfl (hb hby at_110) z) ?_
  obtain ⟨_, T19, L19, X19, hQ19, st19⟩ := own_callVi X16 hx hZ hown (ow27 hw) (ow28 hw) (notFace_of_selects (args := #[]) (mvT hZ (ow30 hw))) (ow30 hw) (ow29 hw) (ow3 hw) (ow31 hw) (by decide) (rln4a1 l Z a0 hw [] b1 (4 : Int32) b7 cb7 T16.heap n0 Zs16 Eq16 gb1 Fm16 Fs16 Fe16 Vq16 Ex16 Ov7 gq7 nq7_b1) rfl (W := 0) (by decide) Eq16 (pc := 111) (ls := #[iv x0_, iv x1_, iv x2_, iv x3_, iv x4_, iv x5_, iv hh, iv ra0, iv ra1, iv ra2, iv cc_, iv vop, iv fi, rv b1, o_, o_, o_, o_, o_]) (stk := [.null, (.ref b1)]) (by rw [hml]; rfl) (argsL := [.null]) (rest := []) (lenOf pd7 rfl) rfl rfl (Nat.le_of_eq rfl) (hb hby at_111)
  obtain ⟨rfl, Nq19, Kq19, Eq19, Fm19, Fs19, Fe19, Vq19, Ex19⟩ := hQ19
  have N19 := Fr.app N16 Nq19
  have Zs19 := Nat.le_trans Zs16 Kq19.1
  have F20 := F17.keep Kq19 (allS gb1 (allS gq7 all0))
  have F21 := F18.keep Kq19 (ninS ne1_dz (ninS nq7_dz nin0))
  refine os st19 ?_
  refine os (fun _ z => XT.pop X19.here hx rfl (hb hby at_114) rfl rfl z) ?_
  obtain ⟨T22, h22, X22, e22, E22, A22, D22, U22, st22⟩ := newO X19 hx hZ hown (ow1 hw) (ow2 hw) (ow3 hw) rfl (g := (mkF m 115 #[iv x0_, iv x1_, iv x2_, iv x3_, iv x4_, iv x5_, iv hh, iv ra0, iv ra1, iv ra2, iv cc_, iv vop, iv fi, rv b1, o_, o_, o_, o_, o_] [])) rfl (hb hby at_115) (by decide) (by decide)
  obtain ⟨b22, g22⟩ : ∃ z, z = T19.heap.size := ⟨_, rfl⟩
  rw [← g22] at A22 D22 st22 U22
  have ne22_b1 := one_ g22 Eq19.lt
  have ne22_b7 := one_ g22 Vq19.lt
  have ne22_dz := one_ g22 F21.lt
  have F23 := F20.ext E22
  have F24 := F21.ext E22
  have F25 := Eq19.ext E22
  have F26 := Fm19.ext E22
  have F27 := Fs19.ext E22
  have F28 := Fe19.ext E22
  have F29 := Vq19.ext E22
  have F30 := Ex19.ext E22
  have gb22 := Nat.le_trans Zs19 (Nat.le_of_eq g22.symm)
  have Zs22 := Nat.le_trans Zs19 E22.1
  have F22_23 : Fld Z h22 b22 s7_ "modCount" "I" (.int (0 : Int32)) := D22 (Or.inl (ow23 hw)) (ty := .int) (by decide)
  have F22_26 : Fld Z h22 b22 s9_ "elementData" "[Ljava/lang/Object;" .null := D22 (Or.inl (ow26 hw)) (ty := (.array (.object "java/lang/Object"))) (by decide)
  have F22_35 : Fld Z h22 b22 s9_ "size" "I" (.int (0 : Int32)) := D22 (Or.inl (ow35 hw)) (ty := .int) (by decide)
  refine os (st22) ?_
  show OG p e below Φ T22 m 118 #[iv x0_, iv x1_, iv x2_, iv x3_, iv x4_, iv x5_, iv hh, iv ra0, iv ra1, iv ra2, iv cc_, iv vop, iv fi, rv b1, o_, o_, o_, o_, o_] [(.ref b22)]
  refine gDu X22 hx hby at_118 rfl ?_
  obtain ⟨_, T31, L31, X31, hQ31, st31⟩ := own_callSp X22 hx hZ rfl hown (ow4 hw) (ow5 hw) (ow3 hw) (ow6 hw) (by decide) (rliali l Z a0 hw [] b22 dz h22 n0 Zs22 A22 gb22 F22_23 F22_35 F22_26 F23 S_d) e22 (W := 1) (by decide) (pc := 119) (ls := #[iv x0_, iv x1_, iv x2_, iv x3_, iv x4_, iv x5_, iv hh, iv ra0, iv ra1, iv ra2, iv cc_, iv vop, iv fi, rv b1, o_, o_, o_, o_, o_]) (stk := [(.ref b22), (.ref b22)]) (by rw [hml]; rfl) (a := b22) (argsL := []) (rest := [(.ref b22)]) (lenOf pd0 rfl) rfl rfl (Nat.le_of_eq rfl) (hb hby at_119)
  obtain ⟨rfl, Nq31, Kq31, Eq31, Fm31, Fs31, Fe31⟩ := hQ31
  have N31 := Fr.app N19 Nq31
  have Zs31 := Nat.le_trans Zs22 Kq31.1
  have F32 := F23.keep Kq31 (allS gb22 all0)
  have F33 := F24.keep Kq31 (ninS ne22_dz nin0)
  have F34 := F25.keep Kq31
  have F35 := F26.keep Kq31 (ninS ne22_b1 nin0)
  have F36 := F27.keep Kq31 (ninS ne22_b1 nin0)
  have F37 := F28.keep Kq31 (ninS ne22_b1 nin0)
  have F38 := F29.keep Kq31 (ninS ne22_b7 nin0)
  have F39 := F30.keep Kq31
  refine os st31 ?_
  refine gAs X31 hx hby at_122 rfl (ls' := #[iv x0_, iv x1_, iv x2_, iv x3_, iv x4_, iv x5_, iv hh, iv ra0, iv ra1, iv ra2, iv cc_, iv vop, iv fi, rv b1, rv b22, o_, o_, o_, o_]) rfl ?_
  refine gA X31 hx hby at_124 rfl rfl ?_
  refine os (fun _ z => XS.aconstNull X31.here hx rfl (hb hby at_126) z) ?_
  obtain ⟨_, T40, L40, X40, hQ40, st40⟩ := own_callVi X31 hx hZ hown (ow27 hw) (ow28 hw) (notFace_of_selects (args := #[]) (mvT hZ (ow30 hw))) (ow30 hw) (ow29 hw) (ow3 hw) (ow31 hw) (by decide) (rln0a1 l Z a0 hw [] b22 (0 : Int32) dz cz T31.heap n0 Zs31 Eq31 gb22 Fm31 Fs31 Fe31 F33 ne22_dz (S_d.ext F32.2)) rfl (W := 0) (by decide) Eq31 (pc := 127) (ls := #[iv x0_, iv x1_, iv x2_, iv x3_, iv x4_, iv x5_, iv hh, iv ra0, iv ra1, iv ra2, iv cc_, iv vop, iv fi, rv b1, rv b22, o_, o_, o_, o_]) (stk := [.null, (.ref b22)]) (by rw [hml]; rfl) (argsL := [.null]) (rest := []) (lenOf pd7 rfl) rfl rfl (Nat.le_of_eq rfl) (hb hby at_127)
  obtain ⟨rfl, Nq40, Kq40, Eq40, Fm40, Fs40, b40, cb40, Fe40, Vq40, Ex40, Ov40, hz40⟩ := hQ40
  have nq40_b1 := Nat.ne_of_lt (Nat.lt_of_lt_of_le F34.lt hz40)
  have nq40_b22 := Nat.ne_of_lt (Nat.lt_of_lt_of_le Eq31.lt hz40)
  have nq40_b7 := Nat.ne_of_lt (Nat.lt_of_lt_of_le F38.lt hz40)
  have nq40_dz := Nat.ne_of_lt (Nat.lt_of_lt_of_le F33.lt hz40)
  have gq40 := Nat.le_trans Zs31 hz40
  have N40 := Fr.app N31 Nq40
  have Zs40 := Nat.le_trans Zs31 Kq40.1
  have F41 := F32.keep Kq40 (allS gb22 all0)
  have F42 := F33.keep Kq40 (ninS ne22_dz nin0)
  have F43 := F34.keep Kq40
  have F44 := F35.keep Kq40 (ninS ne22_b1 nin0)
  have F45 := F36.keep Kq40 (ninS ne22_b1 nin0)
  have F46 := F37.keep Kq40 (ninS ne22_b1 nin0)
  have F47 := F38.keep Kq40 (ninS ne22_b7 nin0)
  have F48 := F39.keep Kq40
  refine os st40 ?_
  refine os (fun _ z => XT.pop X40.here hx rfl (hb hby at_130) rfl rfl z) ?_
  refine gA X40 hx hby at_131 rfl rfl ?_
  refine os (fun _ z => XS.aconstNull X40.here hx rfl (hb hby at_133) z) ?_
  obtain ⟨_, T49, L49, X49, hQ49, st49⟩ := own_callVi X40 hx hZ hown (ow27 hw) (ow28 hw) (notFace_of_selects (args := #[]) (mvT hZ (ow30 hw))) (ow30 hw) (ow29 hw) (ow3 hw) (ow31 hw) (by decide) (rln1a1 l Z a0 hw [] b22 (1 : Int32) b40 cb40 T40.heap n0 Zs40 Eq40 gb22 Fm40 Fs40 Fe40 Vq40 Ex40 Ov40 gq40 nq40_b22) rfl (W := 0) (by decide) Eq40 (pc := 134) (ls := #[iv x0_, iv x1_, iv x2_, iv x3_, iv x4_, iv x5_, iv hh, iv ra0, iv ra1, iv ra2, iv cc_, iv vop, iv fi, rv b1, rv b22, o_, o_, o_, o_]) (stk := [.null, (.ref b22)]) (by rw [hml]; rfl) (argsL := [.null]) (rest := []) (lenOf pd7 rfl) rfl rfl (Nat.le_of_eq rfl) (hb hby at_134)
  obtain ⟨rfl, Nq49, Kq49, Eq49, Fm49, Fs49, Fe49, Vq49, Ex49⟩ := hQ49
  have N49 := Fr.app N40 Nq49
  have Zs49 := Nat.le_trans Zs40 Kq49.1
  have F50 := F41.keep Kq49 (allS gb22 (allS gq40 all0))
  have F51 := F42.keep Kq49 (ninS ne22_dz (ninS nq40_dz nin0))
  have F52 := F43.keep Kq49
  have F53 := F44.keep Kq49 (ninS ne22_b1 (ninS nq40_b1 nin0))
  have F54 := F45.keep Kq49 (ninS ne22_b1 (ninS nq40_b1 nin0))
  have F55 := F46.keep Kq49 (ninS ne22_b1 (ninS nq40_b1 nin0))
  have F56 := F47.keep Kq49 (ninS ne22_b7 (ninS nq40_b7 nin0))
  have F57 := F48.keep Kq49
  refine os st49 ?_
  refine os (fun _ z => XT.pop X49.here hx rfl (hb hby at_137) rfl rfl z) ?_
  refine gA X49 hx hby at_138 rfl rfl ?_
  refine os (fun _ z => XS.aconstNull X49.here hx rfl (hb hby at_140) z) ?_
  obtain ⟨_, T58, L58, X58, hQ58, st58⟩ := own_callVi X49 hx hZ hown (ow27 hw) (ow28 hw) (notFace_of_selects (args := #[]) (mvT hZ (ow30 hw))) (ow30 hw) (ow29 hw) (ow3 hw) (ow31 hw) (by decide) (rln2a1 l Z a0 hw [] b22 (2 : Int32) b40 cb40 T49.heap n0 Zs49 Eq49 gb22 Fm49 Fs49 Fe49 Vq49 Ex49 Ov40 gq40 nq40_b22) rfl (W := 0) (by decide) Eq49 (pc := 141) (ls := #[iv x0_, iv x1_, iv x2_, iv x3_, iv x4_, iv x5_, iv hh, iv ra0, iv ra1, iv ra2, iv cc_, iv vop, iv fi, rv b1, rv b22, o_, o_, o_, o_]) (stk := [.null, (.ref b22)]) (by rw [hml]; rfl) (argsL := [.null]) (rest := []) (lenOf pd7 rfl) rfl rfl (Nat.le_of_eq rfl) (hb hby at_141)
  obtain ⟨rfl, Nq58, Kq58, Eq58, Fm58, Fs58, Fe58, Vq58, Ex58⟩ := hQ58
  have N58 := Fr.app N49 Nq58
  have Zs58 := Nat.le_trans Zs49 Kq58.1
  have F59 := F50.keep Kq58 (allS gb22 (allS gq40 all0))
  have F60 := F51.keep Kq58 (ninS ne22_dz (ninS nq40_dz nin0))
  have F61 := F52.keep Kq58
  have F62 := F53.keep Kq58 (ninS ne22_b1 (ninS nq40_b1 nin0))
  have F63 := F54.keep Kq58 (ninS ne22_b1 (ninS nq40_b1 nin0))
  have F64 := F55.keep Kq58 (ninS ne22_b1 (ninS nq40_b1 nin0))
  have F65 := F56.keep Kq58 (ninS ne22_b7 (ninS nq40_b7 nin0))
  have F66 := F57.keep Kq58
  refine os st58 ?_
  refine os (fun _ z => XT.pop X58.here hx rfl (hb hby at_144) rfl rfl z) ?_
  obtain ⟨T67, h67, X67, e67, E67, A67, D67, U67, st67⟩ := newO X58 hx hZ hown (ow1 hw) (ow2 hw) (ow3 hw) rfl (g := (mkF m 145 #[iv x0_, iv x1_, iv x2_, iv x3_, iv x4_, iv x5_, iv hh, iv ra0, iv ra1, iv ra2, iv cc_, iv vop, iv fi, rv b1, rv b22, o_, o_, o_, o_] [])) rfl (hb hby at_145) (by decide) (by decide)
  obtain ⟨b67, g67⟩ : ∃ z, z = T58.heap.size := ⟨_, rfl⟩
  rw [← g67] at A67 D67 st67 U67
  have ne67_b1 := one_ g67 F61.lt
  have ne67_b22 := one_ g67 Eq58.lt
  have ne67_b40 := one_ g67 Vq58.lt
  have ne67_b7 := one_ g67 F65.lt
  have ne67_dz := one_ g67 F60.lt
  have F68 := F59.ext E67
  have F69 := F60.ext E67
  have F70 := F61.ext E67
  have F71 := F62.ext E67
  have F72 := F63.ext E67
  have F73 := F64.ext E67
  have F74 := F65.ext E67
  have F75 := F66.ext E67
  have F76 := Eq58.ext E67
  have F77 := Fm58.ext E67
  have F78 := Fs58.ext E67
  have F79 := Fe58.ext E67
  have F80 := Vq58.ext E67
  have F81 := Ex58.ext E67
  have gb67 := Nat.le_trans Zs58 (Nat.le_of_eq g67.symm)
  have Zs67 := Nat.le_trans Zs58 E67.1
  have F67_23 : Fld Z h67 b67 s7_ "modCount" "I" (.int (0 : Int32)) := D67 (Or.inl (ow23 hw)) (ty := .int) (by decide)
  have F67_26 : Fld Z h67 b67 s9_ "elementData" "[Ljava/lang/Object;" .null := D67 (Or.inl (ow26 hw)) (ty := (.array (.object "java/lang/Object"))) (by decide)
  have F67_35 : Fld Z h67 b67 s9_ "size" "I" (.int (0 : Int32)) := D67 (Or.inl (ow35 hw)) (ty := .int) (by decide)
  refine os (st67) ?_
  show OG p e below Φ T67 m 148 #[iv x0_, iv x1_, iv x2_, iv x3_, iv x4_, iv x5_, iv hh, iv ra0, iv ra1, iv ra2, iv cc_, iv vop, iv fi, rv b1, rv b22, o_, o_, o_, o_] [(.ref b67)]
  refine gDu X67 hx hby at_148 rfl ?_
  obtain ⟨_, T82, L82, X82, hQ82, st82⟩ := own_callSp X67 hx hZ rfl hown (ow4 hw) (ow5 hw) (ow3 hw) (ow6 hw) (by decide) (rliali l Z a0 hw [] b67 dz h67 n0 Zs67 A67 gb67 F67_23 F67_35 F67_26 F68 S_d) e67 (W := 1) (by decide) (pc := 149) (ls := #[iv x0_, iv x1_, iv x2_, iv x3_, iv x4_, iv x5_, iv hh, iv ra0, iv ra1, iv ra2, iv cc_, iv vop, iv fi, rv b1, rv b22, o_, o_, o_, o_]) (stk := [(.ref b67), (.ref b67)]) (by rw [hml]; rfl) (a := b67) (argsL := []) (rest := [(.ref b67)]) (lenOf pd0 rfl) rfl rfl (Nat.le_of_eq rfl) (hb hby at_149)
  obtain ⟨rfl, Nq82, Kq82, Eq82, Fm82, Fs82, Fe82⟩ := hQ82
  have N82 := Fr.app N58 Nq82
  have Zs82 := Nat.le_trans Zs67 Kq82.1
  have F83 := F68.keep Kq82 (allS gb67 all0)
  have F84 := F69.keep Kq82 (ninS ne67_dz nin0)
  have F85 := F70.keep Kq82
  have F86 := F71.keep Kq82 (ninS ne67_b1 nin0)
  have F87 := F72.keep Kq82 (ninS ne67_b1 nin0)
  have F88 := F73.keep Kq82 (ninS ne67_b1 nin0)
  have F89 := F74.keep Kq82 (ninS ne67_b7 nin0)
  have F90 := F75.keep Kq82
  have F91 := F76.keep Kq82
  have F92 := F77.keep Kq82 (ninS ne67_b22 nin0)
  have F93 := F78.keep Kq82 (ninS ne67_b22 nin0)
  have F94 := F79.keep Kq82 (ninS ne67_b22 nin0)
  have F95 := F80.keep Kq82 (ninS ne67_b40 nin0)
  have F96 := F81.keep Kq82
  refine os st82 ?_
  refine gAs X82 hx hby at_152 rfl (ls' := #[iv x0_, iv x1_, iv x2_, iv x3_, iv x4_, iv x5_, iv hh, iv ra0, iv ra1, iv ra2, iv cc_, iv vop, iv fi, rv b1, rv b22, rv b67, o_, o_, o_]) rfl ?_
  refine gI X82 hx hby at_154 rfl ?_
  refine gI X82 hx hby at_156 rfl ?_
  refine gIc (x := 4) X82 hx hby at_158 rfl ?_
  refine os (fun _ z => XS.iadd X82.here hx rfl (hb hby at_159) rfl z) ?_
  refine gIc (x := 5) X82 hx hby at_160 rfl ?_
  refine os (fun _ z => iremM X82 hx rfl (hb hby at_161) rfl (by decide) z) ?_
  refine gI X82 hx hby at_162 rfl ?_
  refine os (fun _ z => XS.bipush X82.here hx rfl (hb hby at_164) z) ?_
  refine os (fun _ z => XS.iand X82.here hx rfl (hb hby at_166) rfl z) ?_
  show OG p e below Φ T82 m 167 #[iv x0_, iv x1_, iv x2_, iv x3_, iv x4_, iv x5_, iv hh, iv ra0, iv ra1, iv ra2, iv cc_, iv vop, iv fi, rv b1, rv b22, rv b67, o_, o_, o_] [(.int (x5_ &&& (32 : Int32))), (.int ((hh + 4) % 5)), (.int hh)]
  refine gBo X82 hx hby at_167 at_170 at_171 at_174 ?_
  show OG p e below Φ T82 m 175 #[iv x0_, iv x1_, iv x2_, iv x3_, iv x4_, iv x5_, iv hh, iv ra0, iv ra1, iv ra2, iv cc_, iv vop, iv fi, rv b1, rv b22, rv b67, o_, o_, o_] [(.int (if (x5_ &&& (32 : Int32)) = 0 then (0 : Int32) else (1 : Int32))), (.int ((hh + 4) % 5)), (.int hh)]
  obtain ⟨fp, h_fp⟩ : ∃ z, z = (if (x5_ &&& (32 : Int32)) = 0 then (0 : Int32) else (1 : Int32)) := ⟨_, rfl⟩
  rw [← h_fp]
  show OG p e below Φ T82 m 175 #[iv x0_, iv x1_, iv x2_, iv x3_, iv x4_, iv x5_, iv hh, iv ra0, iv ra1, iv ra2, iv cc_, iv vop, iv fi, rv b1, rv b22, rv b67, o_, o_, o_] [(.int fp), (.int ((hh + 4) % 5)), (.int hh)]
  refine gI X82 hx hby at_175 rfl ?_
  obtain ⟨_, T97, L97, X97, hQ97, st97⟩ := own_callSt X82 hx hZ hown (ow57 hw) (ow58 hw) (ow59 hw) (ow60 hw) (by decide) (rpp l Z a0 hw [] hh ((hh + 4) % 5) fp vop T82.heap n0 Zs82 (own_if01 h_vop)) rfl (W := 0) (by decide) (pc := 177) (ls := #[iv x0_, iv x1_, iv x2_, iv x3_, iv x4_, iv x5_, iv hh, iv ra0, iv ra1, iv ra2, iv cc_, iv vop, iv fi, rv b1, rv b22, rv b67, o_, o_, o_]) (stk := [(.int vop), (.int fp), (.int ((hh + 4) % 5)), (.int hh)]) (by rw [hml]; rfl) (argsL := [(.int hh), (.int ((hh + 4) % 5)), (.int fp), (.int vop)]) (rest := []) (lenOf pd6 rfl) rfl rfl (Nat.le_of_eq rfl) (hb hby at_177)
  obtain ⟨y97, rfl, Nq97, Kq97, Yq97, hz97⟩ := hQ97
  have nq97_b1 := Nat.ne_of_lt (Nat.lt_of_lt_of_le F85.lt hz97)
  have nq97_b22 := Nat.ne_of_lt (Nat.lt_of_lt_of_le F91.lt hz97)
  have nq97_b40 := Nat.ne_of_lt (Nat.lt_of_lt_of_le F95.lt hz97)
  have nq97_b67 := Nat.ne_of_lt (Nat.lt_of_lt_of_le Eq82.lt hz97)
  have nq97_b7 := Nat.ne_of_lt (Nat.lt_of_lt_of_le F89.lt hz97)
  have nq97_dz := Nat.ne_of_lt (Nat.lt_of_lt_of_le F84.lt hz97)
  have gq97 := Nat.le_trans Zs82 hz97
  have N97 := Fr.app N82 Nq97
  have Zs97 := Nat.le_trans Zs82 Kq97.1
  have F98 := F83.keep Kq97 all0
  have F99 := F84.keep Kq97 nin0
  have F100 := F85.keep Kq97
  have F101 := F86.keep Kq97 nin0
  have F102 := F87.keep Kq97 nin0
  have F103 := F88.keep Kq97 nin0
  have F104 := F89.keep Kq97 nin0
  have F105 := F90.keep Kq97
  have F106 := F91.keep Kq97
  have F107 := F92.keep Kq97 nin0
  have F108 := F93.keep Kq97 nin0
  have F109 := F94.keep Kq97 nin0
  have F110 := F95.keep Kq97 nin0
  have F111 := F96.keep Kq97
  have F112 := Eq82.keep Kq97
  have F113 := Fm82.keep Kq97 nin0
  have F114 := Fs82.keep Kq97 nin0
  have F115 := Fe82.keep Kq97 nin0
  refine os st97 ?_
  refine gAs X97 hx hby at_180 rfl (ls' := #[iv x0_, iv x1_, iv x2_, iv x3_, iv x4_, iv x5_, iv hh, iv ra0, iv ra1, iv ra2, iv cc_, iv vop, iv fi, rv b1, rv b22, rv b67, rv y97, o_, o_]) rfl ?_
  refine gI X97 hx hby at_182 rfl ?_
  by_cases hc116 : fi = 0
  · refine gFy (pc := 184) (pc' := 195) X97 hx hby at_184 (XT.i0_eq_t hc116) (by decide) (by decide) ?_
    refine gA X97 hx hby at_195 rfl rfl ?_
    refine gI X97 hx hby at_197 rfl ?_
    refine gI X97 hx hby at_199 rfl ?_
    refine gIc (x := 1) X97 hx hby at_201 rfl ?_
    refine os (fun _ z => XS.iadd X97.here hx rfl (hb hby at_202) rfl z) ?_
    refine gIc (x := 5) X97 hx hby at_203 rfl ?_
    refine os (fun _ z => iremM X97 hx rfl (hb hby at_204) rfl (by decide) z) ?_
    refine gIc (x := 5) X97 hx hby at_205 rfl ?_
    refine gI X97 hx hby at_206 rfl ?_
    refine os (fun _ z => XS.iadd X97.here hx rfl (hb hby at_208) rfl z) ?_
    refine gI X97 hx hby at_209 rfl ?_
    refine gIc (x := 1) X97 hx hby at_211 rfl ?_
    refine os (fun _ z => XS.iand X97.here hx rfl (hb hby at_212) rfl z) ?_
    show OG p e below Φ T97 m 213 #[iv x0_, iv x1_, iv x2_, iv x3_, iv x4_, iv x5_, iv hh, iv ra0, iv ra1, iv ra2, iv cc_, iv vop, iv fi, rv b1, rv b22, rv b67, rv y97, o_, o_] [(.int (x5_ &&& (1 : Int32))), (.int (5 + ra0)), (.int ((hh + 1) % 5)), (.int hh), (.ref b67)]
    refine gBo X97 hx hby at_213 at_216 at_217 at_220 ?_
    show OG p e below Φ T97 m 221 #[iv x0_, iv x1_, iv x2_, iv x3_, iv x4_, iv x5_, iv hh, iv ra0, iv ra1, iv ra2, iv cc_, iv vop, iv fi, rv b1, rv b22, rv b67, rv y97, o_, o_] [(.int (if (x5_ &&& (1 : Int32)) = 0 then (0 : Int32) else (1 : Int32))), (.int (5 + ra0)), (.int ((hh + 1) % 5)), (.int hh), (.ref b67)]
    obtain ⟨v0, h_v0⟩ : ∃ z, z = (if (x5_ &&& (1 : Int32)) = 0 then (0 : Int32) else (1 : Int32)) := ⟨_, rfl⟩
    rw [← h_v0]
    show OG p e below Φ T97 m 221 #[iv x0_, iv x1_, iv x2_, iv x3_, iv x4_, iv x5_, iv hh, iv ra0, iv ra1, iv ra2, iv cc_, iv vop, iv fi, rv b1, rv b22, rv b67, rv y97, o_, o_] [(.int v0), (.int (5 + ra0)), (.int ((hh + 1) % 5)), (.int hh), (.ref b67)]
    refine gI X97 hx hby at_221 rfl ?_
    refine os (fun _ z => XS.bipush X97.here hx rfl (hb hby at_223) z) ?_
    refine os (fun _ z => XT.ishr X97.here hx rfl (hb hby at_225) rfl z) ?_
    refine gIc (x := 1) X97 hx hby at_226 rfl ?_
    refine os (fun _ z => XS.iand X97.here hx rfl (hb hby at_227) rfl z) ?_
    show OG p e below Φ T97 m 228 #[iv x0_, iv x1_, iv x2_, iv x3_, iv x4_, iv x5_, iv hh, iv ra0, iv ra1, iv ra2, iv cc_, iv vop, iv fi, rv b1, rv b22, rv b67, rv y97, o_, o_] [(.int ((x5_ >>> ((6 : Int32) &&& 31)) &&& (1 : Int32))), (.int v0), (.int (5 + ra0)), (.int ((hh + 1) % 5)), (.int hh), (.ref b67)]
    refine gBo X97 hx hby at_228 at_231 at_232 at_235 ?_
    show OG p e below Φ T97 m 236 #[iv x0_, iv x1_, iv x2_, iv x3_, iv x4_, iv x5_, iv hh, iv ra0, iv ra1, iv ra2, iv cc_, iv vop, iv fi, rv b1, rv b22, rv b67, rv y97, o_, o_] [(.int (if ((x5_ >>> ((6 : Int32) &&& 31)) &&& (1 : Int32)) = 0 then (0 : Int32) else (1 : Int32))), (.int v0), (.int (5 + ra0)), (.int ((hh + 1) % 5)), (.int hh), (.ref b67)]
    obtain ⟨f0, h_f0⟩ : ∃ z, z = (if ((x5_ >>> ((6 : Int32) &&& 31)) &&& (1 : Int32)) = 0 then (0 : Int32) else (1 : Int32)) := ⟨_, rfl⟩
    rw [← h_f0]
    show OG p e below Φ T97 m 236 #[iv x0_, iv x1_, iv x2_, iv x3_, iv x4_, iv x5_, iv hh, iv ra0, iv ra1, iv ra2, iv cc_, iv vop, iv fi, rv b1, rv b22, rv b67, rv y97, o_, o_] [(.int f0), (.int v0), (.int (5 + ra0)), (.int ((hh + 1) % 5)), (.int hh), (.ref b67)]
    refine gI X97 hx hby at_236 rfl ?_
    refine os (fun _ z => XS.bipush X97.here hx rfl (hb hby at_238) z) ?_
    refine os (fun _ z => XT.ishr X97.here hx rfl (hb hby at_240) rfl z) ?_
    refine gIc (x := 1) X97 hx hby at_241 rfl ?_
    refine os (fun _ z => XS.iand X97.here hx rfl (hb hby at_242) rfl z) ?_
    show OG p e below Φ T97 m 243 #[iv x0_, iv x1_, iv x2_, iv x3_, iv x4_, iv x5_, iv hh, iv ra0, iv ra1, iv ra2, iv cc_, iv vop, iv fi, rv b1, rv b22, rv b67, rv y97, o_, o_] [(.int ((x5_ >>> ((7 : Int32) &&& 31)) &&& (1 : Int32))), (.int f0), (.int v0), (.int (5 + ra0)), (.int ((hh + 1) % 5)), (.int hh), (.ref b67)]
    refine gBo X97 hx hby at_243 at_246 at_247 at_250 ?_
    show OG p e below Φ T97 m 251 #[iv x0_, iv x1_, iv x2_, iv x3_, iv x4_, iv x5_, iv hh, iv ra0, iv ra1, iv ra2, iv cc_, iv vop, iv fi, rv b1, rv b22, rv b67, rv y97, o_, o_] [(.int (if ((x5_ >>> ((7 : Int32) &&& 31)) &&& (1 : Int32)) = 0 then (0 : Int32) else (1 : Int32))), (.int f0), (.int v0), (.int (5 + ra0)), (.int ((hh + 1) % 5)), (.int hh), (.ref b67)]
    obtain ⟨g0, h_g0⟩ : ∃ z, z = (if ((x5_ >>> ((7 : Int32) &&& 31)) &&& (1 : Int32)) = 0 then (0 : Int32) else (1 : Int32)) := ⟨_, rfl⟩
    rw [← h_g0]
    show OG p e below Φ T97 m 251 #[iv x0_, iv x1_, iv x2_, iv x3_, iv x4_, iv x5_, iv hh, iv ra0, iv ra1, iv ra2, iv cc_, iv vop, iv fi, rv b1, rv b22, rv b67, rv y97, o_, o_] [(.int g0), (.int f0), (.int v0), (.int (5 + ra0)), (.int ((hh + 1) % 5)), (.int hh), (.ref b67)]
    obtain ⟨_, T117, L117, X117, hQ117, st117⟩ := own_callSt X97 hx hZ hown (ow87 hw) (ow88 hw) (ow59 hw) (ow89 hw) (by decide) (rarf l Z a0 hw [] b67 dz cz hh ((hh + 1) % 5) (5 + ra0) v0 f0 g0 T97.heap n0 Zs97 F112 gb67 F113 F114 F115 F99 ne67_dz F98 S_d) rfl (W := 0) (by decide) (pc := 251) (ls := #[iv x0_, iv x1_, iv x2_, iv x3_, iv x4_, iv x5_, iv hh, iv ra0, iv ra1, iv ra2, iv cc_, iv vop, iv fi, rv b1, rv b22, rv b67, rv y97, o_, o_]) (stk := [(.int g0), (.int f0), (.int v0), (.int (5 + ra0)), (.int ((hh + 1) % 5)), (.int hh), (.ref b67)]) (by rw [hml]; rfl) (argsL := [(.ref b67), (.int hh), (.int ((hh + 1) % 5)), (.int (5 + ra0)), (.int v0), (.int f0), (.int g0)]) (rest := []) (lenOf pd24 rfl) rfl rfl (Nat.le_of_eq rfl) (hb hby at_251)
    obtain ⟨rfl, Nq117, Kq117, Eq117, Fm117, d117, Fs117, Fe117, PP117, hz117⟩ := hQ117
    have nq117_b1 := Nat.ne_of_lt (Nat.lt_of_lt_of_le F100.lt hz117)
    have nq117_b22 := Nat.ne_of_lt (Nat.lt_of_lt_of_le F106.lt hz117)
    have nq117_b40 := Nat.ne_of_lt (Nat.lt_of_lt_of_le F110.lt hz117)
    have nq117_b67 := Nat.ne_of_lt (Nat.lt_of_lt_of_le F112.lt hz117)
    have nq117_b7 := Nat.ne_of_lt (Nat.lt_of_lt_of_le F104.lt hz117)
    have nq117_dz := Nat.ne_of_lt (Nat.lt_of_lt_of_le F99.lt hz117)
    have nq117_y97 := Nat.ne_of_lt (Nat.lt_of_lt_of_le Yq97.lt hz117)
    have gq117 := Nat.le_trans Zs97 hz117
    have N117 := Fr.app N97 Nq117
    have Zs117 := Nat.le_trans Zs97 Kq117.1
    have F118 := F98.keep Kq117 (allS gb67 all0)
    have F119 := F99.keep Kq117 (ninS ne67_dz nin0)
    have F120 := F100.keep Kq117
    have F121 := F101.keep Kq117 (ninS ne67_b1 nin0)
    have F122 := F102.keep Kq117 (ninS ne67_b1 nin0)
    have F123 := F103.keep Kq117 (ninS ne67_b1 nin0)
    have F124 := F104.keep Kq117 (ninS ne67_b7 nin0)
    have F125 := F105.keep Kq117
    have F126 := F106.keep Kq117
    have F127 := F107.keep Kq117 (ninS ne67_b22 nin0)
    have F128 := F108.keep Kq117 (ninS ne67_b22 nin0)
    have F129 := F109.keep Kq117 (ninS ne67_b22 nin0)
    have F130 := F110.keep Kq117 (ninS ne67_b40 nin0)
    have F131 := F111.keep Kq117
    have F132 := Yq97.keep Kq117 (ninS (Ne.symm nq97_b67) nin0)
    refine os st117 ?_
    refine gA X117 hx hby at_254 rfl rfl ?_
    refine gI X117 hx hby at_256 rfl ?_
    refine gI X117 hx hby at_258 rfl ?_
    refine gIc (x := 2) X117 hx hby at_260 rfl ?_
    refine os (fun _ z => XS.iadd X117.here hx rfl (hb hby at_261) rfl z) ?_
    refine gIc (x := 5) X117 hx hby at_262 rfl ?_
    refine os (fun _ z => iremM X117 hx rfl (hb hby at_263) rfl (by decide) z) ?_
    refine gIc (x := 5) X117 hx hby at_264 rfl ?_
    refine gI X117 hx hby at_265 rfl ?_
    refine os (fun _ z => XS.iadd X117.here hx rfl (hb hby at_267) rfl z) ?_
    refine gI X117 hx hby at_268 rfl ?_
    refine gIc (x := 2) X117 hx hby at_270 rfl ?_
    refine os (fun _ z => XS.iand X117.here hx rfl (hb hby at_271) rfl z) ?_
    show OG p e below Φ T117 m 272 #[iv x0_, iv x1_, iv x2_, iv x3_, iv x4_, iv x5_, iv hh, iv ra0, iv ra1, iv ra2, iv cc_, iv vop, iv fi, rv b1, rv b22, rv b67, rv y97, o_, o_] [(.int (x5_ &&& (2 : Int32))), (.int (5 + ra1)), (.int ((hh + 2) % 5)), (.int hh), (.ref b67)]
    refine gBo X117 hx hby at_272 at_275 at_276 at_279 ?_
    show OG p e below Φ T117 m 280 #[iv x0_, iv x1_, iv x2_, iv x3_, iv x4_, iv x5_, iv hh, iv ra0, iv ra1, iv ra2, iv cc_, iv vop, iv fi, rv b1, rv b22, rv b67, rv y97, o_, o_] [(.int (if (x5_ &&& (2 : Int32)) = 0 then (0 : Int32) else (1 : Int32))), (.int (5 + ra1)), (.int ((hh + 2) % 5)), (.int hh), (.ref b67)]
    obtain ⟨v1, h_v1⟩ : ∃ z, z = (if (x5_ &&& (2 : Int32)) = 0 then (0 : Int32) else (1 : Int32)) := ⟨_, rfl⟩
    rw [← h_v1]
    show OG p e below Φ T117 m 280 #[iv x0_, iv x1_, iv x2_, iv x3_, iv x4_, iv x5_, iv hh, iv ra0, iv ra1, iv ra2, iv cc_, iv vop, iv fi, rv b1, rv b22, rv b67, rv y97, o_, o_] [(.int v1), (.int (5 + ra1)), (.int ((hh + 2) % 5)), (.int hh), (.ref b67)]
    refine gI X117 hx hby at_280 rfl ?_
    refine os (fun _ z => XS.bipush X117.here hx rfl (hb hby at_282) z) ?_
    refine os (fun _ z => XT.ishr X117.here hx rfl (hb hby at_284) rfl z) ?_
    refine gIc (x := 1) X117 hx hby at_285 rfl ?_
    refine os (fun _ z => XS.iand X117.here hx rfl (hb hby at_286) rfl z) ?_
    show OG p e below Φ T117 m 287 #[iv x0_, iv x1_, iv x2_, iv x3_, iv x4_, iv x5_, iv hh, iv ra0, iv ra1, iv ra2, iv cc_, iv vop, iv fi, rv b1, rv b22, rv b67, rv y97, o_, o_] [(.int ((x5_ >>> ((8 : Int32) &&& 31)) &&& (1 : Int32))), (.int v1), (.int (5 + ra1)), (.int ((hh + 2) % 5)), (.int hh), (.ref b67)]
    refine gBo X117 hx hby at_287 at_290 at_291 at_294 ?_
    show OG p e below Φ T117 m 295 #[iv x0_, iv x1_, iv x2_, iv x3_, iv x4_, iv x5_, iv hh, iv ra0, iv ra1, iv ra2, iv cc_, iv vop, iv fi, rv b1, rv b22, rv b67, rv y97, o_, o_] [(.int (if ((x5_ >>> ((8 : Int32) &&& 31)) &&& (1 : Int32)) = 0 then (0 : Int32) else (1 : Int32))), (.int v1), (.int (5 + ra1)), (.int ((hh + 2) % 5)), (.int hh), (.ref b67)]
    obtain ⟨f1, h_f1⟩ : ∃ z, z = (if ((x5_ >>> ((8 : Int32) &&& 31)) &&& (1 : Int32)) = 0 then (0 : Int32) else (1 : Int32)) := ⟨_, rfl⟩
    rw [← h_f1]
    show OG p e below Φ T117 m 295 #[iv x0_, iv x1_, iv x2_, iv x3_, iv x4_, iv x5_, iv hh, iv ra0, iv ra1, iv ra2, iv cc_, iv vop, iv fi, rv b1, rv b22, rv b67, rv y97, o_, o_] [(.int f1), (.int v1), (.int (5 + ra1)), (.int ((hh + 2) % 5)), (.int hh), (.ref b67)]
    refine gI X117 hx hby at_295 rfl ?_
    refine os (fun _ z => XS.bipush X117.here hx rfl (hb hby at_297) z) ?_
    refine os (fun _ z => XT.ishr X117.here hx rfl (hb hby at_299) rfl z) ?_
    refine gIc (x := 1) X117 hx hby at_300 rfl ?_
    refine os (fun _ z => XS.iand X117.here hx rfl (hb hby at_301) rfl z) ?_
    show OG p e below Φ T117 m 302 #[iv x0_, iv x1_, iv x2_, iv x3_, iv x4_, iv x5_, iv hh, iv ra0, iv ra1, iv ra2, iv cc_, iv vop, iv fi, rv b1, rv b22, rv b67, rv y97, o_, o_] [(.int ((x5_ >>> ((9 : Int32) &&& 31)) &&& (1 : Int32))), (.int f1), (.int v1), (.int (5 + ra1)), (.int ((hh + 2) % 5)), (.int hh), (.ref b67)]
    refine gBo X117 hx hby at_302 at_305 at_306 at_309 ?_
    show OG p e below Φ T117 m 310 #[iv x0_, iv x1_, iv x2_, iv x3_, iv x4_, iv x5_, iv hh, iv ra0, iv ra1, iv ra2, iv cc_, iv vop, iv fi, rv b1, rv b22, rv b67, rv y97, o_, o_] [(.int (if ((x5_ >>> ((9 : Int32) &&& 31)) &&& (1 : Int32)) = 0 then (0 : Int32) else (1 : Int32))), (.int f1), (.int v1), (.int (5 + ra1)), (.int ((hh + 2) % 5)), (.int hh), (.ref b67)]
    obtain ⟨g1, h_g1⟩ : ∃ z, z = (if ((x5_ >>> ((9 : Int32) &&& 31)) &&& (1 : Int32)) = 0 then (0 : Int32) else (1 : Int32)) := ⟨_, rfl⟩
    rw [← h_g1]
    show OG p e below Φ T117 m 310 #[iv x0_, iv x1_, iv x2_, iv x3_, iv x4_, iv x5_, iv hh, iv ra0, iv ra1, iv ra2, iv cc_, iv vop, iv fi, rv b1, rv b22, rv b67, rv y97, o_, o_] [(.int g1), (.int f1), (.int v1), (.int (5 + ra1)), (.int ((hh + 2) % 5)), (.int hh), (.ref b67)]
    obtain ⟨_, T133, L133, X133, hQ133, st133⟩ := own_callSt X117 hx hZ hown (ow87 hw) (ow88 hw) (ow59 hw) (ow89 hw) (by decide) (rarm l Z a0 hw [] b67 d117 (own_mc v0 (0 : Int32)) (own_arm hh ((hh + 1) % 5) (5 + ra0) v0 f0 g0) hh ((hh + 2) % 5) (5 + ra1) v1 f1 g1 T117.heap n0 Zs117 Eq117 gb67 Fm117 Fs117 Fe117 PP117 gq117 nq117_b67 (by have l0 := own_arml hh ((hh + 1) % 5) (5 + ra0) v0 f0 g0; (try simp only [List.length_append, List.length_cons, List.length_nil]); omega)) rfl (W := 0) (by decide) (pc := 310) (ls := #[iv x0_, iv x1_, iv x2_, iv x3_, iv x4_, iv x5_, iv hh, iv ra0, iv ra1, iv ra2, iv cc_, iv vop, iv fi, rv b1, rv b22, rv b67, rv y97, o_, o_]) (stk := [(.int g1), (.int f1), (.int v1), (.int (5 + ra1)), (.int ((hh + 2) % 5)), (.int hh), (.ref b67)]) (by rw [hml]; rfl) (argsL := [(.ref b67), (.int hh), (.int ((hh + 2) % 5)), (.int (5 + ra1)), (.int v1), (.int f1), (.int g1)]) (rest := []) (lenOf pd24 rfl) rfl rfl (Nat.le_of_eq rfl) (hb hby at_310)
    obtain ⟨rfl, Nq133, Kq133, Eq133, Fm133, Fs133, Fe133, PP133⟩ := hQ133
    have N133 := Fr.app N117 Nq133
    have Zs133 := Nat.le_trans Zs117 Kq133.1
    have F134 := F118.keep Kq133 (allS gb67 (allS gq117 all0))
    have F135 := F119.keep Kq133 (ninS ne67_dz (ninS nq117_dz nin0))
    have F136 := F120.keep Kq133
    have F137 := F121.keep Kq133 (ninS ne67_b1 (ninS nq117_b1 nin0))
    have F138 := F122.keep Kq133 (ninS ne67_b1 (ninS nq117_b1 nin0))
    have F139 := F123.keep Kq133 (ninS ne67_b1 (ninS nq117_b1 nin0))
    have F140 := F124.keep Kq133 (ninS ne67_b7 (ninS nq117_b7 nin0))
    have F141 := F125.keep Kq133
    have F142 := F126.keep Kq133
    have F143 := F127.keep Kq133 (ninS ne67_b22 (ninS nq117_b22 nin0))
    have F144 := F128.keep Kq133 (ninS ne67_b22 (ninS nq117_b22 nin0))
    have F145 := F129.keep Kq133 (ninS ne67_b22 (ninS nq117_b22 nin0))
    have F146 := F130.keep Kq133 (ninS ne67_b40 (ninS nq117_b40 nin0))
    have F147 := F131.keep Kq133
    have F148 := F132.keep Kq133 (ninS (Ne.symm nq97_b67) (ninS nq117_y97 nin0))
    refine os st133 ?_
    refine gA X133 hx hby at_313 rfl rfl ?_
    refine gI X133 hx hby at_315 rfl ?_
    refine gI X133 hx hby at_317 rfl ?_
    refine gIc (x := 3) X133 hx hby at_319 rfl ?_
    refine os (fun _ z => XS.iadd X133.here hx rfl (hb hby at_320) rfl z) ?_
    refine gIc (x := 5) X133 hx hby at_321 rfl ?_
    refine os (fun _ z => iremM X133 hx rfl (hb hby at_322) rfl (by decide) z) ?_
    refine gIc (x := 5) X133 hx hby at_323 rfl ?_
    refine gI X133 hx hby at_324 rfl ?_
    refine os (fun _ z => XS.iadd X133.here hx rfl (hb hby at_326) rfl z) ?_
    refine gI X133 hx hby at_327 rfl ?_
    refine gIc (x := 4) X133 hx hby at_329 rfl ?_
    refine os (fun _ z => XS.iand X133.here hx rfl (hb hby at_330) rfl z) ?_
    show OG p e below Φ T133 m 331 #[iv x0_, iv x1_, iv x2_, iv x3_, iv x4_, iv x5_, iv hh, iv ra0, iv ra1, iv ra2, iv cc_, iv vop, iv fi, rv b1, rv b22, rv b67, rv y97, o_, o_] [(.int (x5_ &&& (4 : Int32))), (.int (5 + ra2)), (.int ((hh + 3) % 5)), (.int hh), (.ref b67)]
    refine gBo X133 hx hby at_331 at_334 at_335 at_338 ?_
    show OG p e below Φ T133 m 339 #[iv x0_, iv x1_, iv x2_, iv x3_, iv x4_, iv x5_, iv hh, iv ra0, iv ra1, iv ra2, iv cc_, iv vop, iv fi, rv b1, rv b22, rv b67, rv y97, o_, o_] [(.int (if (x5_ &&& (4 : Int32)) = 0 then (0 : Int32) else (1 : Int32))), (.int (5 + ra2)), (.int ((hh + 3) % 5)), (.int hh), (.ref b67)]
    obtain ⟨v2, h_v2⟩ : ∃ z, z = (if (x5_ &&& (4 : Int32)) = 0 then (0 : Int32) else (1 : Int32)) := ⟨_, rfl⟩
    rw [← h_v2]
    show OG p e below Φ T133 m 339 #[iv x0_, iv x1_, iv x2_, iv x3_, iv x4_, iv x5_, iv hh, iv ra0, iv ra1, iv ra2, iv cc_, iv vop, iv fi, rv b1, rv b22, rv b67, rv y97, o_, o_] [(.int v2), (.int (5 + ra2)), (.int ((hh + 3) % 5)), (.int hh), (.ref b67)]
    refine gI X133 hx hby at_339 rfl ?_
    refine os (fun _ z => XS.bipush X133.here hx rfl (hb hby at_341) z) ?_
    refine os (fun _ z => XT.ishr X133.here hx rfl (hb hby at_343) rfl z) ?_
    refine gIc (x := 1) X133 hx hby at_344 rfl ?_
    refine os (fun _ z => XS.iand X133.here hx rfl (hb hby at_345) rfl z) ?_
    show OG p e below Φ T133 m 346 #[iv x0_, iv x1_, iv x2_, iv x3_, iv x4_, iv x5_, iv hh, iv ra0, iv ra1, iv ra2, iv cc_, iv vop, iv fi, rv b1, rv b22, rv b67, rv y97, o_, o_] [(.int ((x5_ >>> ((10 : Int32) &&& 31)) &&& (1 : Int32))), (.int v2), (.int (5 + ra2)), (.int ((hh + 3) % 5)), (.int hh), (.ref b67)]
    refine gBo X133 hx hby at_346 at_349 at_350 at_353 ?_
    show OG p e below Φ T133 m 354 #[iv x0_, iv x1_, iv x2_, iv x3_, iv x4_, iv x5_, iv hh, iv ra0, iv ra1, iv ra2, iv cc_, iv vop, iv fi, rv b1, rv b22, rv b67, rv y97, o_, o_] [(.int (if ((x5_ >>> ((10 : Int32) &&& 31)) &&& (1 : Int32)) = 0 then (0 : Int32) else (1 : Int32))), (.int v2), (.int (5 + ra2)), (.int ((hh + 3) % 5)), (.int hh), (.ref b67)]
    obtain ⟨f2, h_f2⟩ : ∃ z, z = (if ((x5_ >>> ((10 : Int32) &&& 31)) &&& (1 : Int32)) = 0 then (0 : Int32) else (1 : Int32)) := ⟨_, rfl⟩
    rw [← h_f2]
    show OG p e below Φ T133 m 354 #[iv x0_, iv x1_, iv x2_, iv x3_, iv x4_, iv x5_, iv hh, iv ra0, iv ra1, iv ra2, iv cc_, iv vop, iv fi, rv b1, rv b22, rv b67, rv y97, o_, o_] [(.int f2), (.int v2), (.int (5 + ra2)), (.int ((hh + 3) % 5)), (.int hh), (.ref b67)]
    refine gI X133 hx hby at_354 rfl ?_
    refine os (fun _ z => XS.bipush X133.here hx rfl (hb hby at_356) z) ?_
    refine os (fun _ z => XT.ishr X133.here hx rfl (hb hby at_358) rfl z) ?_
    refine gIc (x := 1) X133 hx hby at_359 rfl ?_
    refine os (fun _ z => XS.iand X133.here hx rfl (hb hby at_360) rfl z) ?_
    show OG p e below Φ T133 m 361 #[iv x0_, iv x1_, iv x2_, iv x3_, iv x4_, iv x5_, iv hh, iv ra0, iv ra1, iv ra2, iv cc_, iv vop, iv fi, rv b1, rv b22, rv b67, rv y97, o_, o_] [(.int ((x5_ >>> ((11 : Int32) &&& 31)) &&& (1 : Int32))), (.int f2), (.int v2), (.int (5 + ra2)), (.int ((hh + 3) % 5)), (.int hh), (.ref b67)]
    refine gBo X133 hx hby at_361 at_364 at_365 at_368 ?_
    show OG p e below Φ T133 m 369 #[iv x0_, iv x1_, iv x2_, iv x3_, iv x4_, iv x5_, iv hh, iv ra0, iv ra1, iv ra2, iv cc_, iv vop, iv fi, rv b1, rv b22, rv b67, rv y97, o_, o_] [(.int (if ((x5_ >>> ((11 : Int32) &&& 31)) &&& (1 : Int32)) = 0 then (0 : Int32) else (1 : Int32))), (.int f2), (.int v2), (.int (5 + ra2)), (.int ((hh + 3) % 5)), (.int hh), (.ref b67)]
    obtain ⟨g2, h_g2⟩ : ∃ z, z = (if ((x5_ >>> ((11 : Int32) &&& 31)) &&& (1 : Int32)) = 0 then (0 : Int32) else (1 : Int32)) := ⟨_, rfl⟩
    rw [← h_g2]
    show OG p e below Φ T133 m 369 #[iv x0_, iv x1_, iv x2_, iv x3_, iv x4_, iv x5_, iv hh, iv ra0, iv ra1, iv ra2, iv cc_, iv vop, iv fi, rv b1, rv b22, rv b67, rv y97, o_, o_] [(.int g2), (.int f2), (.int v2), (.int (5 + ra2)), (.int ((hh + 3) % 5)), (.int hh), (.ref b67)]
    obtain ⟨_, T149, L149, X149, hQ149, st149⟩ := own_callSt X133 hx hZ hown (ow87 hw) (ow88 hw) (ow59 hw) (ow89 hw) (by decide) (rarm l Z a0 hw [] b67 d117 (own_mc v1 (own_mc v0 (0 : Int32))) ((own_arm hh ((hh + 1) % 5) (5 + ra0) v0 f0 g0) ++ (own_arm hh ((hh + 2) % 5) (5 + ra1) v1 f1 g1)) hh ((hh + 3) % 5) (5 + ra2) v2 f2 g2 T133.heap n0 Zs133 Eq133 gb67 Fm133 Fs133 Fe133 PP133 gq117 nq117_b67 (by have l0 := own_arml hh ((hh + 1) % 5) (5 + ra0) v0 f0 g0; have l1 := own_arml hh ((hh + 2) % 5) (5 + ra1) v1 f1 g1; (try simp only [List.length_append, List.length_cons, List.length_nil]); omega)) rfl (W := 0) (by decide) (pc := 369) (ls := #[iv x0_, iv x1_, iv x2_, iv x3_, iv x4_, iv x5_, iv hh, iv ra0, iv ra1, iv ra2, iv cc_, iv vop, iv fi, rv b1, rv b22, rv b67, rv y97, o_, o_]) (stk := [(.int g2), (.int f2), (.int v2), (.int (5 + ra2)), (.int ((hh + 3) % 5)), (.int hh), (.ref b67)]) (by rw [hml]; rfl) (argsL := [(.ref b67), (.int hh), (.int ((hh + 3) % 5)), (.int (5 + ra2)), (.int v2), (.int f2), (.int g2)]) (rest := []) (lenOf pd24 rfl) rfl rfl (Nat.le_of_eq rfl) (hb hby at_369)
    obtain ⟨rfl, Nq149, Kq149, Eq149, Fm149, Fs149, Fe149, PP149⟩ := hQ149
    have N149 := Fr.app N133 Nq149
    have Zs149 := Nat.le_trans Zs133 Kq149.1
    have F150 := F134.keep Kq149 (allS gb67 (allS gq117 all0))
    have F151 := F135.keep Kq149 (ninS ne67_dz (ninS nq117_dz nin0))
    have F152 := F136.keep Kq149
    have F153 := F137.keep Kq149 (ninS ne67_b1 (ninS nq117_b1 nin0))
    have F154 := F138.keep Kq149 (ninS ne67_b1 (ninS nq117_b1 nin0))
    have F155 := F139.keep Kq149 (ninS ne67_b1 (ninS nq117_b1 nin0))
    have F156 := F140.keep Kq149 (ninS ne67_b7 (ninS nq117_b7 nin0))
    have F157 := F141.keep Kq149
    have F158 := F142.keep Kq149
    have F159 := F143.keep Kq149 (ninS ne67_b22 (ninS nq117_b22 nin0))
    have F160 := F144.keep Kq149 (ninS ne67_b22 (ninS nq117_b22 nin0))
    have F161 := F145.keep Kq149 (ninS ne67_b22 (ninS nq117_b22 nin0))
    have F162 := F146.keep Kq149 (ninS ne67_b40 (ninS nq117_b40 nin0))
    have F163 := F147.keep Kq149
    have F164 := F148.keep Kq149 (ninS (Ne.symm nq97_b67) (ninS nq117_y97 nin0))
    refine os st149 ?_
    refine gI X149 hx hby at_372 rfl ?_
    refine gFn X149 hx hby at_374 (XT.i0_ne_f hc116) ?_
    refine gA X149 hx hby at_377 rfl rfl ?_
    refine gA X149 hx hby at_379 rfl rfl ?_
    obtain ⟨_, T165, L165, X165, hQ165, st165⟩ := own_callVi X149 hx hZ hown (ow27 hw) (ow28 hw) (notFace_of_selects (args := #[]) (mvT hZ (ow30 hw))) (ow30 hw) (ow29 hw) (ow3 hw) (ow31 hw) (by decide) (rpa1 l Z a0 hw [] b67 d117 (own_mc v2 (own_mc v1 (own_mc v0 (0 : Int32)))) (((own_arm hh ((hh + 1) % 5) (5 + ra0) v0 f0 g0) ++ (own_arm hh ((hh + 2) % 5) (5 + ra1) v1 f1 g1)) ++ (own_arm hh ((hh + 3) % 5) (5 + ra2) v2 f2 g2)) y97 (own_q fp hh ((hh + 4) % 5) vop) T149.heap n0 Zs149 Eq149 gb67 Fm149 Fs149 Fe149 PP149 gq117 nq117_b67 F164 (Ne.symm nq97_b67) nq117_y97 (by have l0 := own_arml hh ((hh + 1) % 5) (5 + ra0) v0 f0 g0; have l1 := own_arml hh ((hh + 2) % 5) (5 + ra1) v1 f1 g1; have l2 := own_arml hh ((hh + 3) % 5) (5 + ra2) v2 f2 g2; (try simp only [List.length_append, List.length_cons, List.length_nil]); omega)) rfl (W := 0) (by decide) Eq149 (pc := 381) (ls := #[iv x0_, iv x1_, iv x2_, iv x3_, iv x4_, iv x5_, iv hh, iv ra0, iv ra1, iv ra2, iv cc_, iv vop, iv fi, rv b1, rv b22, rv b67, rv y97, o_, o_]) (stk := [(.ref y97), (.ref b67)]) (by rw [hml]; rfl) (argsL := [(.ref y97)]) (rest := []) (lenOf pd7 rfl) rfl rfl (Nat.le_of_eq rfl) (hb hby at_381)
    obtain ⟨rfl, Nq165, Kq165, Eq165, Fm165, Fs165, Fe165, PP165⟩ := hQ165
    have N165 := Fr.app N149 Nq165
    have Zs165 := Nat.le_trans Zs149 Kq165.1
    have F166 := F150.keep Kq165 (allS gb67 (allS gq117 all0))
    have F167 := F151.keep Kq165 (ninS ne67_dz (ninS nq117_dz nin0))
    have F168 := F152.keep Kq165
    have F169 := F153.keep Kq165 (ninS ne67_b1 (ninS nq117_b1 nin0))
    have F170 := F154.keep Kq165 (ninS ne67_b1 (ninS nq117_b1 nin0))
    have F171 := F155.keep Kq165 (ninS ne67_b1 (ninS nq117_b1 nin0))
    have F172 := F156.keep Kq165 (ninS ne67_b7 (ninS nq117_b7 nin0))
    have F173 := F157.keep Kq165
    have F174 := F158.keep Kq165
    have F175 := F159.keep Kq165 (ninS ne67_b22 (ninS nq117_b22 nin0))
    have F176 := F160.keep Kq165 (ninS ne67_b22 (ninS nq117_b22 nin0))
    have F177 := F161.keep Kq165 (ninS ne67_b22 (ninS nq117_b22 nin0))
    have F178 := F162.keep Kq165 (ninS ne67_b40 (ninS nq117_b40 nin0))
    have F179 := F163.keep Kq165
    have F180 := F164.keep Kq165 (ninS (Ne.symm nq97_b67) (ninS nq117_y97 nin0))
    refine os st165 ?_
    refine os (fun _ z => XT.pop X165.here hx rfl (hb hby at_384) rfl rfl z) ?_
    show OG p e below Φ T165 m 385 #[iv x0_, iv x1_, iv x2_, iv x3_, iv x4_, iv x5_, iv hh, iv ra0, iv ra1, iv ra2, iv cc_, iv vop, iv fi, rv b1, rv b22, rv b67, rv y97, o_, o_] []
    have PB181 := PD.bnd PP165
    have lt_j : b1 < T165.heap.size := F168.lt
    have lt_r : b22 < T165.heap.size := F174.lt
    have lt_p : b67 < T165.heap.size := Eq165.lt
    obtain ⟨T182, h182, X182, e182, E182, A182, D182, U182, st182⟩ := newO X165 hx hZ hown (ow91 hw) (ow92 hw) (ow93 hw) rfl (g := (mkF m 385 #[iv x0_, iv x1_, iv x2_, iv x3_, iv x4_, iv x5_, iv hh, iv ra0, iv ra1, iv ra2, iv cc_, iv vop, iv fi, rv b1, rv b22, rv b67, rv y97, o_, o_] [])) rfl (hb hby at_385) (by decide) (by decide)
    obtain ⟨b182, g182⟩ : ∃ z, z = T165.heap.size := ⟨_, rfl⟩
    rw [← g182] at A182 D182 st182 U182
    have ne182_b1 := one_ g182 F168.lt
    have ne182_b22 := one_ g182 F174.lt
    have ne182_b67 := one_ g182 Eq165.lt
    have ne182_d117 := one_ g182 PB181.lt
    have F183 := F166.ext E182
    have F184 := F168.ext E182
    have F185 := F170.ext E182
    have F186 := F174.ext E182
    have F187 := F176.ext E182
    have F188 := Eq165.ext E182
    have F189 := Fm165.ext E182
    have F190 := Fs165.ext E182
    have F191 := Fe165.ext E182
    have F192 := PB181.ext E182
    have gb182 := Nat.le_trans Zs165 (Nat.le_of_eq g182.symm)
    have Zs182 := Nat.le_trans Zs165 E182.1
    have F182_271 : Fld Z h182 b182 s4_ "pendantPipes" "[I" .null := D182 (Or.inr (ow271 hw)) (ty := (.array .int)) (by decide)
    have F182_273 : Fld Z h182 b182 s4_ "leaves" "[I" .null := D182 (Or.inr (ow273 hw)) (ty := (.array .int)) (by decide)
    have F182_275 : Fld Z h182 b182 s4_ "roots" "[I" .null := D182 (Or.inr (ow275 hw)) (ty := (.array .int)) (by decide)
    have F182_277 : Fld Z h182 b182 s4_ "unknowns" "[I" .null := D182 (Or.inr (ow277 hw)) (ty := (.array .int)) (by decide)
    have F182_279 : Fld Z h182 b182 s4_ "branchJunctions" "[I" .null := D182 (Or.inr (ow279 hw)) (ty := (.array .int)) (by decide)
    have F182_296 : Fld Z h182 b182 s4_ "chainStarts" "[I" .null := D182 (Or.inr (ow296 hw)) (ty := (.array .int)) (by decide)
    have F182_298 : Fld Z h182 b182 s4_ "chainBounds" "[I" .null := D182 (Or.inr (ow298 hw)) (ty := (.array .int)) (by decide)
    have F182_300 : Fld Z h182 b182 s4_ "chainPipes" "[I" .null := D182 (Or.inr (ow300 hw)) (ty := (.array .int)) (by decide)
    have F182_302 : Fld Z h182 b182 s4_ "chainNodes" "[I" .null := D182 (Or.inr (ow302 hw)) (ty := (.array .int)) (by decide)
    have F182_304 : Fld Z h182 b182 s4_ "cutOff" "I" (.int (0 : Int32)) := D182 (Or.inr (ow304 hw)) (ty := .int) (by decide)
    refine os (st182) ?_
    show OG p e below Φ T182 m 388 #[iv x0_, iv x1_, iv x2_, iv x3_, iv x4_, iv x5_, iv hh, iv ra0, iv ra1, iv ra2, iv cc_, iv vop, iv fi, rv b1, rv b22, rv b67, rv y97, o_, o_] [(.ref b182)]
    refine gDu X182 hx hby at_388 rfl ?_
    obtain ⟨T193, h193, X193, e193, E193, A193, D193, U193, st193⟩ := newO X182 hx hZ hown (ow94 hw) (ow95 hw) (ow96 hw) e182 (g := (mkF m 389 #[iv x0_, iv x1_, iv x2_, iv x3_, iv x4_, iv x5_, iv hh, iv ra0, iv ra1, iv ra2, iv cc_, iv vop, iv fi, rv b1, rv b22, rv b67, rv y97, o_, o_] [(.ref b182), (.ref b182)])) rfl (hb hby at_389) (by decide) (by decide)
    obtain ⟨b193, g193⟩ : ∃ z, z = h182.size := ⟨_, rfl⟩
    rw [← g193] at A193 D193 st193 U193
    have ne193_b1 := one_ g193 F184.lt
    have ne193_b182 := one_ g193 A182.lt
    have ne193_b22 := one_ g193 F186.lt
    have ne193_b67 := one_ g193 F188.lt
    have ne193_d117 := one_ g193 F192.lt
    have F194 := F183.ext E193
    have F195 := F184.ext E193
    have F196 := F185.ext E193
    have F197 := F186.ext E193
    have F198 := F187.ext E193
    have F199 := F188.ext E193
    have F200 := F189.ext E193
    have F201 := F190.ext E193
    have F202 := F191.ext E193
    have F203 := F192.ext E193
    have F204 := A182.ext E193
    have F205 := F182_271.ext E193
    have F206 := F182_273.ext E193
    have F207 := F182_275.ext E193
    have F208 := F182_277.ext E193
    have F209 := F182_279.ext E193
    have F210 := F182_296.ext E193
    have F211 := F182_298.ext E193
    have F212 := F182_300.ext E193
    have F213 := F182_302.ext E193
    have F214 := F182_304.ext E193
    have gb193 := Nat.le_trans Zs182 (Nat.le_of_eq g193.symm)
    have Zs193 := Nat.le_trans Zs182 E193.1
    have F193_102 : Fld Z h193 b193 s5_ "junctions" "Ljava/util/List;" .null := D193 (Or.inr (ow102 hw)) (ty := (.object s11_)) (by decide)
    have F193_104 : Fld Z h193 b193 s5_ "reservoirs" "Ljava/util/List;" .null := D193 (Or.inr (ow104 hw)) (ty := (.object s11_)) (by decide)
    have F193_106 : Fld Z h193 b193 s5_ "pipes" "Ljava/util/List;" .null := D193 (Or.inr (ow106 hw)) (ty := (.object s11_)) (by decide)
    have F193_108 : Fld Z h193 b193 s5_ "flowUnits" "Lcom/example/hydromeme/hydromeme/FlowUnits;" .null := D193 (Or.inr (ow108 hw)) (ty := (.object s2_)) (by decide)
    have F193_110 : Fld Z h193 b193 s5_ "headLoss" "Lcom/example/hydromeme/hydromeme/HeadLoss;" .null := D193 (Or.inr (ow110 hw)) (ty := (.object s3_)) (by decide)
    have F193_112 : Fld Z h193 b193 s5_ "viscosity" "D" (.double 0) := D193 (Or.inr (ow112 hw)) (ty := .double) (by decide)
    refine os (st193) ?_
    show OG p e below Φ T193 m 392 #[iv x0_, iv x1_, iv x2_, iv x3_, iv x4_, iv x5_, iv hh, iv ra0, iv ra1, iv ra2, iv cc_, iv vop, iv fi, rv b1, rv b22, rv b67, rv y97, o_, o_] [(.ref b193), (.ref b182), (.ref b182)]
    refine gDu X193 hx hby at_392 rfl ?_
    refine gA X193 hx hby at_393 rfl rfl ?_
    refine gA X193 hx hby at_395 rfl rfl ?_
    refine gA X193 hx hby at_397 rfl rfl ?_
    refine os (fun _ z => XS.aconstNull X193.here hx rfl (hb hby at_399) z) ?_
    refine os (fun _ z => XS.aconstNull X193.here hx rfl (hb hby at_400) z) ?_
    refine os (fun _ z => XS.dconst0 X193.here hx rfl (v := FP.dconst0) (hb hby at_401) rfl z) ?_
    obtain ⟨_, T215, L215, X215, hQ215, st215⟩ := own_callSp X193 hx hZ rfl hown (ow97 hw) (ow98 hw) (ow96 hw) (ow99 hw) (by decide) (rni l Z a0 hw [] b193 b1 b22 b67 FP.dconst0 .null .null .null .null .null (.double 0) h193 n0 Zs193 A193 gb193 F193_102 F193_104 F193_106 F193_108 F193_110 F193_112) e193 (W := 3) (by decide) (pc := 402) (ls := #[iv x0_, iv x1_, iv x2_, iv x3_, iv x4_, iv x5_, iv hh, iv ra0, iv ra1, iv ra2, iv cc_, iv vop, iv fi, rv b1, rv b22, rv b67, rv y97, o_, o_]) (stk := [(.double FP.dconst0), .null, .null, (.ref b67), (.ref b22), (.ref b1), (.ref b193), (.ref b193), (.ref b182), (.ref b182)]) (by rw [hml]; rfl) (a := b193) (argsL := [(.ref b1), (.ref b22), (.ref b67), .null, .null, (.double FP.dconst0)]) (rest := [(.ref b193), (.ref b182), (.ref b182)]) (lenOf pd25 rfl) rfl rfl (Nat.le_of_eq rfl) (hb hby at_402)
    obtain ⟨rfl, Nq215, Kq215, Eq215, Fq215_0, Fq215_1, Fq215_2, Fq215_3, Fq215_4, Fq215_5⟩ := hQ215
    have N215 := Fr.app N165 Nq215
    have Zs215 := Nat.le_trans Zs193 Kq215.1
    have F216 := F194.keep Kq215 (allS gb193 all0)
    have F217 := F195.keep Kq215
    have F218 := F196.keep Kq215 (ninS ne193_b1 nin0)
    have F219 := F197.keep Kq215
    have F220 := F198.keep Kq215 (ninS ne193_b22 nin0)
    have F221 := F199.keep Kq215
    have F222 := F200.keep Kq215 (ninS ne193_b67 nin0)
    have F223 := F201.keep Kq215 (ninS ne193_b67 nin0)
    have F224 := F202.keep Kq215 (ninS ne193_b67 nin0)
    have F225 := F203.keep Kq215 (allS (Nat.not_lt.mpr (Nat.le_trans E182.1 (Nat.le_of_eq g193.symm))) all0)
    have F226 := F204.keep Kq215
    have F227 := F205.keep Kq215 (ninS ne193_b182 nin0)
    have F228 := F206.keep Kq215 (ninS ne193_b182 nin0)
    have F229 := F207.keep Kq215 (ninS ne193_b182 nin0)
    have F230 := F208.keep Kq215 (ninS ne193_b182 nin0)
    have F231 := F209.keep Kq215 (ninS ne193_b182 nin0)
    have F232 := F210.keep Kq215 (ninS ne193_b182 nin0)
    have F233 := F211.keep Kq215 (ninS ne193_b182 nin0)
    have F234 := F212.keep Kq215 (ninS ne193_b182 nin0)
    have F235 := F213.keep Kq215 (ninS ne193_b182 nin0)
    have F236 := F214.keep Kq215 (ninS ne193_b182 nin0)
    refine os st215 ?_
    have NP238 : NetP Z T215.heap (fun y => y < T165.heap.size ∨ y = b193) b193 b1 b22 b67 d117 ((own_mc v2 (own_mc v1 (own_mc v0 (0 : Int32)))) + 1) ((((own_arm hh ((hh + 1) % 5) (5 + ra0) v0 f0 g0) ++ (own_arm hh ((hh + 2) % 5) (5 + ra1) v1 f1 g1)) ++ (own_arm hh ((hh + 3) % 5) (5 + ra2) v2 f2 g2)) ++ [(own_q fp hh ((hh + 4) % 5) vop)]) := ⟨⟨Or.inr rfl, Or.inl lt_j, Or.inl lt_r, Or.inl lt_p⟩, Eq215, Fq215_0, Fq215_1, Fq215_2, F217, F218, F219, F220, F221, F222, F223, F224, F225.mono (fun _ z => Or.inl z)⟩
    have le238 : T165.heap.size ≤ T215.heap.size := Nat.le_trans (Nat.le_trans E182.1 E193.1) Kq215.1
    have ln238 := Eq215.lt
    have hS2 : ∀ x, T215.heap.size ≤ x → ¬ (fun y => y < T165.heap.size ∨ y = b193) x := by rintro x q (r | r); exact absurd (Nat.lt_of_lt_of_le r le238) (Nat.not_lt.mpr q); exact absurd ln238 (Nat.not_lt.mpr (r ▸ q))
    have hS1 : ¬ (fun y => y < T165.heap.size ∨ y = b193) b182 := by rintro (r | r); (rw [g182] at r; exact absurd r (Nat.lt_irrefl _)); exact ne193_b182 r
    obtain ⟨tq, hT1, hT2⟩ := (own_main (h := hh) (a0 := ra0) (a1 := ra1) (a2 := ra2) (c := cc_) (vop := vop) (fp := fp) (v0 := v0) (f0 := f0) (g0 := g0) (v1 := v1) (f1 := f1) (g1 := g1) (v2 := v2) (f2 := f2) (g2 := g2) (h_hh ▸ own_m5 _) (h_ra0 ▸ own_m3 _) (h_ra1 ▸ own_m3 _) (h_ra2 ▸ own_m3 _) (h_cc_ ▸ own_m3 _) (own_if01 h_vop)).2
    obtain ⟨_, T237, L237, X237, hQ237, st237⟩ := own_callSp X215 hx hZ rfl hown (ow113 hw) (ow114 hw) (ow93 hw) (ow115 hw) (by decide) (rti l Z a0 hw [] (fun y => y < T165.heap.size ∨ y = b193) b193 b1 b22 b67 d117 ((own_mc v2 (own_mc v1 (own_mc v0 (0 : Int32)))) + 1) ((((own_arm hh ((hh + 1) % 5) (5 + ra0) v0 f0 g0) ++ (own_arm hh ((hh + 2) % 5) (5 + ra1) v1 f1 g1)) ++ (own_arm hh ((hh + 3) % 5) (5 + ra2) v2 f2 g2)) ++ [(own_q fp hh ((hh + 4) % 5) vop)]) b182 ac cc tq T215.heap n0 Zs215 NP238 hS2 hS1 F226 gb182 ⟨F227, F228, F229, F232, F233, F234, F235, F230, F231, F236⟩ F216 S_hi S_ca B_x hT1) rfl (W := 1) (by decide) (pc := 405) (ls := #[iv x0_, iv x1_, iv x2_, iv x3_, iv x4_, iv x5_, iv hh, iv ra0, iv ra1, iv ra2, iv cc_, iv vop, iv fi, rv b1, rv b22, rv b67, rv y97, o_, o_]) (stk := [(.ref b193), (.ref b182), (.ref b182)]) (by rw [hml]; rfl) (a := b182) (argsL := [(.ref b193)]) (rest := [(.ref b182)]) (lenOf pd26 rfl) rfl rfl (Nat.le_of_eq rfl) (hb hby at_405)
    obtain ⟨rfl, Nq237, Kq237, Eq237, c1_237, c2_237, Fb237, Fn237, P1_237, P2_237⟩ := hQ237
    have N237 := Fr.app N215 Nq237
    have Zs237 := Nat.le_trans Zs215 Kq237.1
    have F239 := F216.keep Kq237 (allS gb182 all0)
    refine os st237 ?_
    refine gAs X237 hx hby at_408 rfl (ls' := #[iv x0_, iv x1_, iv x2_, iv x3_, iv x4_, iv x5_, iv hh, iv ra0, iv ra1, iv ra2, iv cc_, iv vop, iv fi, rv b1, rv b22, rv b67, rv y97, rv b182, o_]) rfl ?_
    refine gI X237 hx hby at_410 rfl ?_
    by_cases hc240 : cc_ = 0
    · refine gFn X237 hx hby at_412 (XT.i0_ne_f hc240) ?_
      refine gIc (x := 5) X237 hx hby at_415 rfl ?_
      refine gI X237 hx hby at_416 rfl ?_
      refine os (fun _ z => XS.iadd X237.here hx rfl (hb hby at_418) rfl z) ?_
      refine gIs X237 hx hby at_419 (ls' := #[iv x0_, iv x1_, iv x2_, iv x3_, iv x4_, iv x5_, iv hh, iv ra0, iv ra1, iv ra2, iv cc_, iv vop, iv fi, rv b1, rv b22, rv b67, rv y97, rv b182, iv (5 + ra0)]) rfl ?_
      refine gGo (pc := 421) (pc' := 445) X237 hx hby at_421 (by decide) (by decide) ?_
      refine gA X237 hx hby at_445 rfl rfl ?_
      refine gI X237 hx hby at_447 rfl ?_
      obtain ⟨_, T241, L241, X241, hQ241, st241⟩ := own_callVi X237 hx hZ hown (ow305 hw) (ow306 hw) (notFace_of_selects (args := #[]) (mvT hZ (ow308 hw))) (ow308 hw) (ow307 hw) (ow93 hw) (ow309 hw) (by decide) (rce l Z a0 hw [] b182 c1_237 c2_237 tq.1 tq.2 cc_ (own_ex cc_ ra0 ra1 ra2) T237.heap n0 Zs237 Fb237 Fn237 P1_237 P2_237 hT2) rfl (W := 0) (by decide) Eq237 (pc := 449) (ls := #[iv x0_, iv x1_, iv x2_, iv x3_, iv x4_, iv x5_, iv hh, iv ra0, iv ra1, iv ra2, iv cc_, iv vop, iv fi, rv b1, rv b22, rv b67, rv y97, rv b182, iv (5 + ra0)]) (stk := [(.int cc_), (.ref b182)]) (by rw [hml]; rfl) (argsL := [(.int cc_)]) (rest := []) (lenOf pd27 rfl) rfl rfl (Nat.le_of_eq rfl) (hb hby at_449)
      obtain ⟨rfl, Nq241, e241⟩ := hQ241
      have N241 := Fr.app N237 Nq241
      refine os st241 ?_
      refine gI X241 hx hby at_452 rfl ?_
      by_cases hc242 : (own_ex cc_ ra0 ra1 ra2) = (5 + ra0)
      · refine gCn X241 hx hby at_454 (XT.ii_ne_f hc242) ?_
        refine gIc (x := 1) X241 hx hby at_457 rfl ?_
        refine gGo (pc := 458) (pc' := 462) X241 hx hby at_458 (by decide) (by decide) ?_
        refine OGo.fin X241 hlk (v := (some (.int 1))) (fun h => by rw [hret] at h; cases h) (by decide) (by decide) (fun fs hr => X241.ireturnOut hx hret rfl (by simp) (hb hby at_462) hr) fun U eU hF => hΦ _ _ _ ?_ hF
        rw [eU, e241]
        show Q_rm0 Z x0_ x1_ x2_ x3_ x4_ x5_ dz cz ac cc h0 n0 _ _ _
        exact ⟨rfl, N241⟩
      · refine gCy (pc := 454) (pc' := 461) X241 hx hby at_454 (XT.ii_ne_t hc242) (by decide) (by decide) ?_
        refine gIc (x := 0) X241 hx hby at_461 rfl ?_
        exact absurd (by simp [own_ex, hc240]) hc242
    · refine gFy (pc := 412) (pc' := 424) X237 hx hby at_412 (XT.i0_ne_t hc240) (by decide) (by decide) ?_
      refine gI X237 hx hby at_424 rfl ?_
      refine gIc (x := 1) X237 hx hby at_426 rfl ?_
      show OG p e below Φ T237 m 427 #[iv x0_, iv x1_, iv x2_, iv x3_, iv x4_, iv x5_, iv hh, iv ra0, iv ra1, iv ra2, iv cc_, iv vop, iv fi, rv b1, rv b22, rv b67, rv y97, rv b182, o_] [(.int 1), (.int cc_)]
      by_cases hc243 : cc_ = (1 : Int32)
      · refine gCn X237 hx hby at_427 (XT.ii_ne_f hc243) ?_
        refine gIc (x := 5) X237 hx hby at_430 rfl ?_
        refine gI X237 hx hby at_431 rfl ?_
        refine os (fun _ z => XS.iadd X237.here hx rfl (hb hby at_433) rfl z) ?_
        refine gIs X237 hx hby at_434 (ls' := #[iv x0_, iv x1_, iv x2_, iv x3_, iv x4_, iv x5_, iv hh, iv ra0, iv ra1, iv ra2, iv cc_, iv vop, iv fi, rv b1, rv b22, rv b67, rv y97, rv b182, iv (5 + ra1)]) rfl ?_
        refine gGo (pc := 436) (pc' := 445) X237 hx hby at_436 (by decide) (by decide) ?_
        refine gA X237 hx hby at_445 rfl rfl ?_
        refine gI X237 hx hby at_447 rfl ?_
        obtain ⟨_, T244, L244, X244, hQ244, st244⟩ := own_callVi X237 hx hZ hown (ow305 hw) (ow306 hw) (notFace_of_selects (args := #[]) (mvT hZ (ow308 hw))) (ow308 hw) (ow307 hw) (ow93 hw) (ow309 hw) (by decide) (rce l Z a0 hw [] b182 c1_237 c2_237 tq.1 tq.2 cc_ (own_ex cc_ ra0 ra1 ra2) T237.heap n0 Zs237 Fb237 Fn237 P1_237 P2_237 hT2) rfl (W := 0) (by decide) Eq237 (pc := 449) (ls := #[iv x0_, iv x1_, iv x2_, iv x3_, iv x4_, iv x5_, iv hh, iv ra0, iv ra1, iv ra2, iv cc_, iv vop, iv fi, rv b1, rv b22, rv b67, rv y97, rv b182, iv (5 + ra1)]) (stk := [(.int cc_), (.ref b182)]) (by rw [hml]; rfl) (argsL := [(.int cc_)]) (rest := []) (lenOf pd27 rfl) rfl rfl (Nat.le_of_eq rfl) (hb hby at_449)
        obtain ⟨rfl, Nq244, e244⟩ := hQ244
        have N244 := Fr.app N237 Nq244
        refine os st244 ?_
        refine gI X244 hx hby at_452 rfl ?_
        by_cases hc245 : (own_ex cc_ ra0 ra1 ra2) = (5 + ra1)
        · refine gCn X244 hx hby at_454 (XT.ii_ne_f hc245) ?_
          refine gIc (x := 1) X244 hx hby at_457 rfl ?_
          refine gGo (pc := 458) (pc' := 462) X244 hx hby at_458 (by decide) (by decide) ?_
          refine OGo.fin X244 hlk (v := (some (.int 1))) (fun h => by rw [hret] at h; cases h) (by decide) (by decide) (fun fs hr => X244.ireturnOut hx hret rfl (by simp) (hb hby at_462) hr) fun U eU hF => hΦ _ _ _ ?_ hF
          rw [eU, e244]
          show Q_rm0 Z x0_ x1_ x2_ x3_ x4_ x5_ dz cz ac cc h0 n0 _ _ _
          exact ⟨rfl, N244⟩
        · refine gCy (pc := 454) (pc' := 461) X244 hx hby at_454 (XT.ii_ne_t hc245) (by decide) (by decide) ?_
          refine gIc (x := 0) X244 hx hby at_461 rfl ?_
          exact absurd (by simp [own_ex, hc240, hc243]) hc245
      · refine gCy (pc := 427) (pc' := 439) X237 hx hby at_427 (XT.ii_ne_t hc243) (by decide) (by decide) ?_
        refine gIc (x := 5) X237 hx hby at_439 rfl ?_
        refine gI X237 hx hby at_440 rfl ?_
        refine os (fun _ z => XS.iadd X237.here hx rfl (hb hby at_442) rfl z) ?_
        refine gIs X237 hx hby at_443 (ls' := #[iv x0_, iv x1_, iv x2_, iv x3_, iv x4_, iv x5_, iv hh, iv ra0, iv ra1, iv ra2, iv cc_, iv vop, iv fi, rv b1, rv b22, rv b67, rv y97, rv b182, iv (5 + ra2)]) rfl ?_
        refine gA X237 hx hby at_445 rfl rfl ?_
        refine gI X237 hx hby at_447 rfl ?_
        obtain ⟨_, T246, L246, X246, hQ246, st246⟩ := own_callVi X237 hx hZ hown (ow305 hw) (ow306 hw) (notFace_of_selects (args := #[]) (mvT hZ (ow308 hw))) (ow308 hw) (ow307 hw) (ow93 hw) (ow309 hw) (by decide) (rce l Z a0 hw [] b182 c1_237 c2_237 tq.1 tq.2 cc_ (own_ex cc_ ra0 ra1 ra2) T237.heap n0 Zs237 Fb237 Fn237 P1_237 P2_237 hT2) rfl (W := 0) (by decide) Eq237 (pc := 449) (ls := #[iv x0_, iv x1_, iv x2_, iv x3_, iv x4_, iv x5_, iv hh, iv ra0, iv ra1, iv ra2, iv cc_, iv vop, iv fi, rv b1, rv b22, rv b67, rv y97, rv b182, iv (5 + ra2)]) (stk := [(.int cc_), (.ref b182)]) (by rw [hml]; rfl) (argsL := [(.int cc_)]) (rest := []) (lenOf pd27 rfl) rfl rfl (Nat.le_of_eq rfl) (hb hby at_449)
        obtain ⟨rfl, Nq246, e246⟩ := hQ246
        have N246 := Fr.app N237 Nq246
        refine os st246 ?_
        refine gI X246 hx hby at_452 rfl ?_
        by_cases hc247 : (own_ex cc_ ra0 ra1 ra2) = (5 + ra2)
        · refine gCn X246 hx hby at_454 (XT.ii_ne_f hc247) ?_
          refine gIc (x := 1) X246 hx hby at_457 rfl ?_
          refine gGo (pc := 458) (pc' := 462) X246 hx hby at_458 (by decide) (by decide) ?_
          refine OGo.fin X246 hlk (v := (some (.int 1))) (fun h => by rw [hret] at h; cases h) (by decide) (by decide) (fun fs hr => X246.ireturnOut hx hret rfl (by simp) (hb hby at_462) hr) fun U eU hF => hΦ _ _ _ ?_ hF
          rw [eU, e246]
          show Q_rm0 Z x0_ x1_ x2_ x3_ x4_ x5_ dz cz ac cc h0 n0 _ _ _
          exact ⟨rfl, N246⟩
        · refine gCy (pc := 454) (pc' := 461) X246 hx hby at_454 (XT.ii_ne_t hc247) (by decide) (by decide) ?_
          refine gIc (x := 0) X246 hx hby at_461 rfl ?_
          exact absurd (by simp [own_ex, hc240, hc243]) hc247
  · refine gFn X97 hx hby at_184 (XT.i0_eq_f hc116) ?_
    refine gA X97 hx hby at_187 rfl rfl ?_
    refine gA X97 hx hby at_189 rfl rfl ?_
    obtain ⟨_, T248, L248, X248, hQ248, st248⟩ := own_callVi X97 hx hZ hown (ow27 hw) (ow28 hw) (notFace_of_selects (args := #[]) (mvT hZ (ow30 hw))) (ow30 hw) (ow29 hw) (ow3 hw) (ow31 hw) (by decide) (rlp0a1 l Z a0 hw [] b67 (0 : Int32) dz cz y97 T97.heap n0 Zs97 F112 gb67 F113 F114 F115 F99 ne67_dz (S_d.ext F98.2) Yq97.1) rfl (W := 0) (by decide) F112 (pc := 191) (ls := #[iv x0_, iv x1_, iv x2_, iv x3_, iv x4_, iv x5_, iv hh, iv ra0, iv ra1, iv ra2, iv cc_, iv vop, iv fi, rv b1, rv b22, rv b67, rv y97, o_, o_]) (stk := [(.ref y97), (.ref b67)]) (by rw [hml]; rfl) (argsL := [(.ref y97)]) (rest := []) (lenOf pd7 rfl) rfl rfl (Nat.le_of_eq rfl) (hb hby at_191)
    obtain ⟨rfl, Nq248, Kq248, Eq248, Fm248, Fs248, b248, cb248, Fe248, Vq248, Ex248, Ov248, hz248⟩ := hQ248
    have nq248_b1 := Nat.ne_of_lt (Nat.lt_of_lt_of_le F100.lt hz248)
    have nq248_b22 := Nat.ne_of_lt (Nat.lt_of_lt_of_le F106.lt hz248)
    have nq248_b40 := Nat.ne_of_lt (Nat.lt_of_lt_of_le F110.lt hz248)
    have nq248_b67 := Nat.ne_of_lt (Nat.lt_of_lt_of_le F112.lt hz248)
    have nq248_b7 := Nat.ne_of_lt (Nat.lt_of_lt_of_le F104.lt hz248)
    have nq248_dz := Nat.ne_of_lt (Nat.lt_of_lt_of_le F99.lt hz248)
    have nq248_y97 := Nat.ne_of_lt (Nat.lt_of_lt_of_le Yq97.lt hz248)
    have gq248 := Nat.le_trans Zs97 hz248
    have N248 := Fr.app N97 Nq248
    have Zs248 := Nat.le_trans Zs97 Kq248.1
    have F249 := F98.keep Kq248 (allS gb67 all0)
    have F250 := F99.keep Kq248 (ninS ne67_dz nin0)
    have F251 := F100.keep Kq248
    have F252 := F101.keep Kq248 (ninS ne67_b1 nin0)
    have F253 := F102.keep Kq248 (ninS ne67_b1 nin0)
    have F254 := F103.keep Kq248 (ninS ne67_b1 nin0)
    have F255 := F104.keep Kq248 (ninS ne67_b7 nin0)
    have F256 := F105.keep Kq248
    have F257 := F106.keep Kq248
    have F258 := F107.keep Kq248 (ninS ne67_b22 nin0)
    have F259 := F108.keep Kq248 (ninS ne67_b22 nin0)
    have F260 := F109.keep Kq248 (ninS ne67_b22 nin0)
    have F261 := F110.keep Kq248 (ninS ne67_b40 nin0)
    have F262 := F111.keep Kq248
    have F263 := Yq97.keep Kq248 (ninS (Ne.symm nq97_b67) nin0)
    have PP264 : PD Z T248.heap (fun z => z ≠ b67) b248 [(own_q fp hh ((hh + 4) % 5) vop)] := PD.one Vq248 Ov248 F263 ((Ne.symm nq248_b67)) ((Ne.symm nq97_b67)) (nq248_y97)
    have Fz264 : Fld Z T248.heap b67 s9_ "size" "I" (.int (own_n [(own_q fp hh ((hh + 4) % 5) vop)])) := by rw [own_one]; exact Fs248
    refine os st248 ?_
    show OG p e below Φ T248 m 194 #[iv x0_, iv x1_, iv x2_, iv x3_, iv x4_, iv x5_, iv hh, iv ra0, iv ra1, iv ra2, iv cc_, iv vop, iv fi, rv b1, rv b22, rv b67, rv y97, o_, o_] [(.int 1)]
    refine os (fun _ z => XT.pop X248.here hx rfl (hb hby at_194) rfl rfl z) ?_
    refine gA X248 hx hby at_195 rfl rfl ?_
    refine gI X248 hx hby at_197 rfl ?_
    refine gI X248 hx hby at_199 rfl ?_
    refine gIc (x := 1) X248 hx hby at_201 rfl ?_
    refine os (fun _ z => XS.iadd X248.here hx rfl (hb hby at_202) rfl z) ?_
    refine gIc (x := 5) X248 hx hby at_203 rfl ?_
    refine os (fun _ z => iremM X248 hx rfl (hb hby at_204) rfl (by decide) z) ?_
    refine gIc (x := 5) X248 hx hby at_205 rfl ?_
    refine gI X248 hx hby at_206 rfl ?_
    refine os (fun _ z => XS.iadd X248.here hx rfl (hb hby at_208) rfl z) ?_
    refine gI X248 hx hby at_209 rfl ?_
    refine gIc (x := 1) X248 hx hby at_211 rfl ?_
    refine os (fun _ z => XS.iand X248.here hx rfl (hb hby at_212) rfl z) ?_
    show OG p e below Φ T248 m 213 #[iv x0_, iv x1_, iv x2_, iv x3_, iv x4_, iv x5_, iv hh, iv ra0, iv ra1, iv ra2, iv cc_, iv vop, iv fi, rv b1, rv b22, rv b67, rv y97, o_, o_] [(.int (x5_ &&& (1 : Int32))), (.int (5 + ra0)), (.int ((hh + 1) % 5)), (.int hh), (.ref b67)]
    refine gBo X248 hx hby at_213 at_216 at_217 at_220 ?_
    show OG p e below Φ T248 m 221 #[iv x0_, iv x1_, iv x2_, iv x3_, iv x4_, iv x5_, iv hh, iv ra0, iv ra1, iv ra2, iv cc_, iv vop, iv fi, rv b1, rv b22, rv b67, rv y97, o_, o_] [(.int (if (x5_ &&& (1 : Int32)) = 0 then (0 : Int32) else (1 : Int32))), (.int (5 + ra0)), (.int ((hh + 1) % 5)), (.int hh), (.ref b67)]
    obtain ⟨v0, h_v0⟩ : ∃ z, z = (if (x5_ &&& (1 : Int32)) = 0 then (0 : Int32) else (1 : Int32)) := ⟨_, rfl⟩
    rw [← h_v0]
    show OG p e below Φ T248 m 221 #[iv x0_, iv x1_, iv x2_, iv x3_, iv x4_, iv x5_, iv hh, iv ra0, iv ra1, iv ra2, iv cc_, iv vop, iv fi, rv b1, rv b22, rv b67, rv y97, o_, o_] [(.int v0), (.int (5 + ra0)), (.int ((hh + 1) % 5)), (.int hh), (.ref b67)]
    refine gI X248 hx hby at_221 rfl ?_
    refine os (fun _ z => XS.bipush X248.here hx rfl (hb hby at_223) z) ?_
    refine os (fun _ z => XT.ishr X248.here hx rfl (hb hby at_225) rfl z) ?_
    refine gIc (x := 1) X248 hx hby at_226 rfl ?_
    refine os (fun _ z => XS.iand X248.here hx rfl (hb hby at_227) rfl z) ?_
    show OG p e below Φ T248 m 228 #[iv x0_, iv x1_, iv x2_, iv x3_, iv x4_, iv x5_, iv hh, iv ra0, iv ra1, iv ra2, iv cc_, iv vop, iv fi, rv b1, rv b22, rv b67, rv y97, o_, o_] [(.int ((x5_ >>> ((6 : Int32) &&& 31)) &&& (1 : Int32))), (.int v0), (.int (5 + ra0)), (.int ((hh + 1) % 5)), (.int hh), (.ref b67)]
    refine gBo X248 hx hby at_228 at_231 at_232 at_235 ?_
    show OG p e below Φ T248 m 236 #[iv x0_, iv x1_, iv x2_, iv x3_, iv x4_, iv x5_, iv hh, iv ra0, iv ra1, iv ra2, iv cc_, iv vop, iv fi, rv b1, rv b22, rv b67, rv y97, o_, o_] [(.int (if ((x5_ >>> ((6 : Int32) &&& 31)) &&& (1 : Int32)) = 0 then (0 : Int32) else (1 : Int32))), (.int v0), (.int (5 + ra0)), (.int ((hh + 1) % 5)), (.int hh), (.ref b67)]
    obtain ⟨f0, h_f0⟩ : ∃ z, z = (if ((x5_ >>> ((6 : Int32) &&& 31)) &&& (1 : Int32)) = 0 then (0 : Int32) else (1 : Int32)) := ⟨_, rfl⟩
    rw [← h_f0]
    show OG p e below Φ T248 m 236 #[iv x0_, iv x1_, iv x2_, iv x3_, iv x4_, iv x5_, iv hh, iv ra0, iv ra1, iv ra2, iv cc_, iv vop, iv fi, rv b1, rv b22, rv b67, rv y97, o_, o_] [(.int f0), (.int v0), (.int (5 + ra0)), (.int ((hh + 1) % 5)), (.int hh), (.ref b67)]
    refine gI X248 hx hby at_236 rfl ?_
    refine os (fun _ z => XS.bipush X248.here hx rfl (hb hby at_238) z) ?_
    refine os (fun _ z => XT.ishr X248.here hx rfl (hb hby at_240) rfl z) ?_
    refine gIc (x := 1) X248 hx hby at_241 rfl ?_
    refine os (fun _ z => XS.iand X248.here hx rfl (hb hby at_242) rfl z) ?_
    show OG p e below Φ T248 m 243 #[iv x0_, iv x1_, iv x2_, iv x3_, iv x4_, iv x5_, iv hh, iv ra0, iv ra1, iv ra2, iv cc_, iv vop, iv fi, rv b1, rv b22, rv b67, rv y97, o_, o_] [(.int ((x5_ >>> ((7 : Int32) &&& 31)) &&& (1 : Int32))), (.int f0), (.int v0), (.int (5 + ra0)), (.int ((hh + 1) % 5)), (.int hh), (.ref b67)]
    refine gBo X248 hx hby at_243 at_246 at_247 at_250 ?_
    show OG p e below Φ T248 m 251 #[iv x0_, iv x1_, iv x2_, iv x3_, iv x4_, iv x5_, iv hh, iv ra0, iv ra1, iv ra2, iv cc_, iv vop, iv fi, rv b1, rv b22, rv b67, rv y97, o_, o_] [(.int (if ((x5_ >>> ((7 : Int32) &&& 31)) &&& (1 : Int32)) = 0 then (0 : Int32) else (1 : Int32))), (.int f0), (.int v0), (.int (5 + ra0)), (.int ((hh + 1) % 5)), (.int hh), (.ref b67)]
    obtain ⟨g0, h_g0⟩ : ∃ z, z = (if ((x5_ >>> ((7 : Int32) &&& 31)) &&& (1 : Int32)) = 0 then (0 : Int32) else (1 : Int32)) := ⟨_, rfl⟩
    rw [← h_g0]
    show OG p e below Φ T248 m 251 #[iv x0_, iv x1_, iv x2_, iv x3_, iv x4_, iv x5_, iv hh, iv ra0, iv ra1, iv ra2, iv cc_, iv vop, iv fi, rv b1, rv b22, rv b67, rv y97, o_, o_] [(.int g0), (.int f0), (.int v0), (.int (5 + ra0)), (.int ((hh + 1) % 5)), (.int hh), (.ref b67)]
    obtain ⟨_, T265, L265, X265, hQ265, st265⟩ := own_callSt X248 hx hZ hown (ow87 hw) (ow88 hw) (ow59 hw) (ow89 hw) (by decide) (rarm l Z a0 hw [] b67 b248 (1 : Int32) [(own_q fp hh ((hh + 4) % 5) vop)] hh ((hh + 1) % 5) (5 + ra0) v0 f0 g0 T248.heap n0 Zs248 Eq248 gb67 Fm248 Fz264 Fe248 PP264 gq248 nq248_b67 (by (try simp only [List.length_append, List.length_cons, List.length_nil]); omega)) rfl (W := 0) (by decide) (pc := 251) (ls := #[iv x0_, iv x1_, iv x2_, iv x3_, iv x4_, iv x5_, iv hh, iv ra0, iv ra1, iv ra2, iv cc_, iv vop, iv fi, rv b1, rv b22, rv b67, rv y97, o_, o_]) (stk := [(.int g0), (.int f0), (.int v0), (.int (5 + ra0)), (.int ((hh + 1) % 5)), (.int hh), (.ref b67)]) (by rw [hml]; rfl) (argsL := [(.ref b67), (.int hh), (.int ((hh + 1) % 5)), (.int (5 + ra0)), (.int v0), (.int f0), (.int g0)]) (rest := []) (lenOf pd24 rfl) rfl rfl (Nat.le_of_eq rfl) (hb hby at_251)
    obtain ⟨rfl, Nq265, Kq265, Eq265, Fm265, Fs265, Fe265, PP265⟩ := hQ265
    have N265 := Fr.app N248 Nq265
    have Zs265 := Nat.le_trans Zs248 Kq265.1
    have F266 := F249.keep Kq265 (allS gb67 (allS gq248 all0))
    have F267 := F250.keep Kq265 (ninS ne67_dz (ninS nq248_dz nin0))
    have F268 := F251.keep Kq265
    have F269 := F252.keep Kq265 (ninS ne67_b1 (ninS nq248_b1 nin0))
    have F270 := F253.keep Kq265 (ninS ne67_b1 (ninS nq248_b1 nin0))
    have F271 := F254.keep Kq265 (ninS ne67_b1 (ninS nq248_b1 nin0))
    have F272 := F255.keep Kq265 (ninS ne67_b7 (ninS nq248_b7 nin0))
    have F273 := F256.keep Kq265
    have F274 := F257.keep Kq265
    have F275 := F258.keep Kq265 (ninS ne67_b22 (ninS nq248_b22 nin0))
    have F276 := F259.keep Kq265 (ninS ne67_b22 (ninS nq248_b22 nin0))
    have F277 := F260.keep Kq265 (ninS ne67_b22 (ninS nq248_b22 nin0))
    have F278 := F261.keep Kq265 (ninS ne67_b40 (ninS nq248_b40 nin0))
    have F279 := F262.keep Kq265
    have F280 := F263.keep Kq265 (ninS (Ne.symm nq97_b67) (ninS nq248_y97 nin0))
    refine os st265 ?_
    refine gA X265 hx hby at_254 rfl rfl ?_
    refine gI X265 hx hby at_256 rfl ?_
    refine gI X265 hx hby at_258 rfl ?_
    refine gIc (x := 2) X265 hx hby at_260 rfl ?_
    refine os (fun _ z => XS.iadd X265.here hx rfl (hb hby at_261) rfl z) ?_
    refine gIc (x := 5) X265 hx hby at_262 rfl ?_
    refine os (fun _ z => iremM X265 hx rfl (hb hby at_263) rfl (by decide) z) ?_
    refine gIc (x := 5) X265 hx hby at_264 rfl ?_
    refine gI X265 hx hby at_265 rfl ?_
    refine os (fun _ z => XS.iadd X265.here hx rfl (hb hby at_267) rfl z) ?_
    refine gI X265 hx hby at_268 rfl ?_
    refine gIc (x := 2) X265 hx hby at_270 rfl ?_
    refine os (fun _ z => XS.iand X265.here hx rfl (hb hby at_271) rfl z) ?_
    show OG p e below Φ T265 m 272 #[iv x0_, iv x1_, iv x2_, iv x3_, iv x4_, iv x5_, iv hh, iv ra0, iv ra1, iv ra2, iv cc_, iv vop, iv fi, rv b1, rv b22, rv b67, rv y97, o_, o_] [(.int (x5_ &&& (2 : Int32))), (.int (5 + ra1)), (.int ((hh + 2) % 5)), (.int hh), (.ref b67)]
    refine gBo X265 hx hby at_272 at_275 at_276 at_279 ?_
    show OG p e below Φ T265 m 280 #[iv x0_, iv x1_, iv x2_, iv x3_, iv x4_, iv x5_, iv hh, iv ra0, iv ra1, iv ra2, iv cc_, iv vop, iv fi, rv b1, rv b22, rv b67, rv y97, o_, o_] [(.int (if (x5_ &&& (2 : Int32)) = 0 then (0 : Int32) else (1 : Int32))), (.int (5 + ra1)), (.int ((hh + 2) % 5)), (.int hh), (.ref b67)]
    obtain ⟨v1, h_v1⟩ : ∃ z, z = (if (x5_ &&& (2 : Int32)) = 0 then (0 : Int32) else (1 : Int32)) := ⟨_, rfl⟩
    rw [← h_v1]
    show OG p e below Φ T265 m 280 #[iv x0_, iv x1_, iv x2_, iv x3_, iv x4_, iv x5_, iv hh, iv ra0, iv ra1, iv ra2, iv cc_, iv vop, iv fi, rv b1, rv b22, rv b67, rv y97, o_, o_] [(.int v1), (.int (5 + ra1)), (.int ((hh + 2) % 5)), (.int hh), (.ref b67)]
    refine gI X265 hx hby at_280 rfl ?_
    refine os (fun _ z => XS.bipush X265.here hx rfl (hb hby at_282) z) ?_
    refine os (fun _ z => XT.ishr X265.here hx rfl (hb hby at_284) rfl z) ?_
    refine gIc (x := 1) X265 hx hby at_285 rfl ?_
    refine os (fun _ z => XS.iand X265.here hx rfl (hb hby at_286) rfl z) ?_
    show OG p e below Φ T265 m 287 #[iv x0_, iv x1_, iv x2_, iv x3_, iv x4_, iv x5_, iv hh, iv ra0, iv ra1, iv ra2, iv cc_, iv vop, iv fi, rv b1, rv b22, rv b67, rv y97, o_, o_] [(.int ((x5_ >>> ((8 : Int32) &&& 31)) &&& (1 : Int32))), (.int v1), (.int (5 + ra1)), (.int ((hh + 2) % 5)), (.int hh), (.ref b67)]
    refine gBo X265 hx hby at_287 at_290 at_291 at_294 ?_
    show OG p e below Φ T265 m 295 #[iv x0_, iv x1_, iv x2_, iv x3_, iv x4_, iv x5_, iv hh, iv ra0, iv ra1, iv ra2, iv cc_, iv vop, iv fi, rv b1, rv b22, rv b67, rv y97, o_, o_] [(.int (if ((x5_ >>> ((8 : Int32) &&& 31)) &&& (1 : Int32)) = 0 then (0 : Int32) else (1 : Int32))), (.int v1), (.int (5 + ra1)), (.int ((hh + 2) % 5)), (.int hh), (.ref b67)]
    obtain ⟨f1, h_f1⟩ : ∃ z, z = (if ((x5_ >>> ((8 : Int32) &&& 31)) &&& (1 : Int32)) = 0 then (0 : Int32) else (1 : Int32)) := ⟨_, rfl⟩
    rw [← h_f1]
    show OG p e below Φ T265 m 295 #[iv x0_, iv x1_, iv x2_, iv x3_, iv x4_, iv x5_, iv hh, iv ra0, iv ra1, iv ra2, iv cc_, iv vop, iv fi, rv b1, rv b22, rv b67, rv y97, o_, o_] [(.int f1), (.int v1), (.int (5 + ra1)), (.int ((hh + 2) % 5)), (.int hh), (.ref b67)]
    refine gI X265 hx hby at_295 rfl ?_
    refine os (fun _ z => XS.bipush X265.here hx rfl (hb hby at_297) z) ?_
    refine os (fun _ z => XT.ishr X265.here hx rfl (hb hby at_299) rfl z) ?_
    refine gIc (x := 1) X265 hx hby at_300 rfl ?_
    refine os (fun _ z => XS.iand X265.here hx rfl (hb hby at_301) rfl z) ?_
    show OG p e below Φ T265 m 302 #[iv x0_, iv x1_, iv x2_, iv x3_, iv x4_, iv x5_, iv hh, iv ra0, iv ra1, iv ra2, iv cc_, iv vop, iv fi, rv b1, rv b22, rv b67, rv y97, o_, o_] [(.int ((x5_ >>> ((9 : Int32) &&& 31)) &&& (1 : Int32))), (.int f1), (.int v1), (.int (5 + ra1)), (.int ((hh + 2) % 5)), (.int hh), (.ref b67)]
    refine gBo X265 hx hby at_302 at_305 at_306 at_309 ?_
    show OG p e below Φ T265 m 310 #[iv x0_, iv x1_, iv x2_, iv x3_, iv x4_, iv x5_, iv hh, iv ra0, iv ra1, iv ra2, iv cc_, iv vop, iv fi, rv b1, rv b22, rv b67, rv y97, o_, o_] [(.int (if ((x5_ >>> ((9 : Int32) &&& 31)) &&& (1 : Int32)) = 0 then (0 : Int32) else (1 : Int32))), (.int f1), (.int v1), (.int (5 + ra1)), (.int ((hh + 2) % 5)), (.int hh), (.ref b67)]
    obtain ⟨g1, h_g1⟩ : ∃ z, z = (if ((x5_ >>> ((9 : Int32) &&& 31)) &&& (1 : Int32)) = 0 then (0 : Int32) else (1 : Int32)) := ⟨_, rfl⟩
    rw [← h_g1]
    show OG p e below Φ T265 m 310 #[iv x0_, iv x1_, iv x2_, iv x3_, iv x4_, iv x5_, iv hh, iv ra0, iv ra1, iv ra2, iv cc_, iv vop, iv fi, rv b1, rv b22, rv b67, rv y97, o_, o_] [(.int g1), (.int f1), (.int v1), (.int (5 + ra1)), (.int ((hh + 2) % 5)), (.int hh), (.ref b67)]
    obtain ⟨_, T281, L281, X281, hQ281, st281⟩ := own_callSt X265 hx hZ hown (ow87 hw) (ow88 hw) (ow59 hw) (ow89 hw) (by decide) (rarm l Z a0 hw [] b67 b248 (own_mc v0 (1 : Int32)) ([(own_q fp hh ((hh + 4) % 5) vop)] ++ (own_arm hh ((hh + 1) % 5) (5 + ra0) v0 f0 g0)) hh ((hh + 2) % 5) (5 + ra1) v1 f1 g1 T265.heap n0 Zs265 Eq265 gb67 Fm265 Fs265 Fe265 PP265 gq248 nq248_b67 (by have l0 := own_arml hh ((hh + 1) % 5) (5 + ra0) v0 f0 g0; (try simp only [List.length_append, List.length_cons, List.length_nil]); omega)) rfl (W := 0) (by decide) (pc := 310) (ls := #[iv x0_, iv x1_, iv x2_, iv x3_, iv x4_, iv x5_, iv hh, iv ra0, iv ra1, iv ra2, iv cc_, iv vop, iv fi, rv b1, rv b22, rv b67, rv y97, o_, o_]) (stk := [(.int g1), (.int f1), (.int v1), (.int (5 + ra1)), (.int ((hh + 2) % 5)), (.int hh), (.ref b67)]) (by rw [hml]; rfl) (argsL := [(.ref b67), (.int hh), (.int ((hh + 2) % 5)), (.int (5 + ra1)), (.int v1), (.int f1), (.int g1)]) (rest := []) (lenOf pd24 rfl) rfl rfl (Nat.le_of_eq rfl) (hb hby at_310)
    obtain ⟨rfl, Nq281, Kq281, Eq281, Fm281, Fs281, Fe281, PP281⟩ := hQ281
    have N281 := Fr.app N265 Nq281
    have Zs281 := Nat.le_trans Zs265 Kq281.1
    have F282 := F266.keep Kq281 (allS gb67 (allS gq248 all0))
    have F283 := F267.keep Kq281 (ninS ne67_dz (ninS nq248_dz nin0))
    have F284 := F268.keep Kq281
    have F285 := F269.keep Kq281 (ninS ne67_b1 (ninS nq248_b1 nin0))
    have F286 := F270.keep Kq281 (ninS ne67_b1 (ninS nq248_b1 nin0))
    have F287 := F271.keep Kq281 (ninS ne67_b1 (ninS nq248_b1 nin0))
    have F288 := F272.keep Kq281 (ninS ne67_b7 (ninS nq248_b7 nin0))
    have F289 := F273.keep Kq281
    have F290 := F274.keep Kq281
    have F291 := F275.keep Kq281 (ninS ne67_b22 (ninS nq248_b22 nin0))
    have F292 := F276.keep Kq281 (ninS ne67_b22 (ninS nq248_b22 nin0))
    have F293 := F277.keep Kq281 (ninS ne67_b22 (ninS nq248_b22 nin0))
    have F294 := F278.keep Kq281 (ninS ne67_b40 (ninS nq248_b40 nin0))
    have F295 := F279.keep Kq281
    have F296 := F280.keep Kq281 (ninS (Ne.symm nq97_b67) (ninS nq248_y97 nin0))
    refine os st281 ?_
    refine gA X281 hx hby at_313 rfl rfl ?_
    refine gI X281 hx hby at_315 rfl ?_
    refine gI X281 hx hby at_317 rfl ?_
    refine gIc (x := 3) X281 hx hby at_319 rfl ?_
    refine os (fun _ z => XS.iadd X281.here hx rfl (hb hby at_320) rfl z) ?_
    refine gIc (x := 5) X281 hx hby at_321 rfl ?_
    refine os (fun _ z => iremM X281 hx rfl (hb hby at_322) rfl (by decide) z) ?_
    refine gIc (x := 5) X281 hx hby at_323 rfl ?_
    refine gI X281 hx hby at_324 rfl ?_
    refine os (fun _ z => XS.iadd X281.here hx rfl (hb hby at_326) rfl z) ?_
    refine gI X281 hx hby at_327 rfl ?_
    refine gIc (x := 4) X281 hx hby at_329 rfl ?_
    refine os (fun _ z => XS.iand X281.here hx rfl (hb hby at_330) rfl z) ?_
    show OG p e below Φ T281 m 331 #[iv x0_, iv x1_, iv x2_, iv x3_, iv x4_, iv x5_, iv hh, iv ra0, iv ra1, iv ra2, iv cc_, iv vop, iv fi, rv b1, rv b22, rv b67, rv y97, o_, o_] [(.int (x5_ &&& (4 : Int32))), (.int (5 + ra2)), (.int ((hh + 3) % 5)), (.int hh), (.ref b67)]
    refine gBo X281 hx hby at_331 at_334 at_335 at_338 ?_
    show OG p e below Φ T281 m 339 #[iv x0_, iv x1_, iv x2_, iv x3_, iv x4_, iv x5_, iv hh, iv ra0, iv ra1, iv ra2, iv cc_, iv vop, iv fi, rv b1, rv b22, rv b67, rv y97, o_, o_] [(.int (if (x5_ &&& (4 : Int32)) = 0 then (0 : Int32) else (1 : Int32))), (.int (5 + ra2)), (.int ((hh + 3) % 5)), (.int hh), (.ref b67)]
    obtain ⟨v2, h_v2⟩ : ∃ z, z = (if (x5_ &&& (4 : Int32)) = 0 then (0 : Int32) else (1 : Int32)) := ⟨_, rfl⟩
    rw [← h_v2]
    show OG p e below Φ T281 m 339 #[iv x0_, iv x1_, iv x2_, iv x3_, iv x4_, iv x5_, iv hh, iv ra0, iv ra1, iv ra2, iv cc_, iv vop, iv fi, rv b1, rv b22, rv b67, rv y97, o_, o_] [(.int v2), (.int (5 + ra2)), (.int ((hh + 3) % 5)), (.int hh), (.ref b67)]
    refine gI X281 hx hby at_339 rfl ?_
    refine os (fun _ z => XS.bipush X281.here hx rfl (hb hby at_341) z) ?_
    refine os (fun _ z => XT.ishr X281.here hx rfl (hb hby at_343) rfl z) ?_
    refine gIc (x := 1) X281 hx hby at_344 rfl ?_
    refine os (fun _ z => XS.iand X281.here hx rfl (hb hby at_345) rfl z) ?_
    show OG p e below Φ T281 m 346 #[iv x0_, iv x1_, iv x2_, iv x3_, iv x4_, iv x5_, iv hh, iv ra0, iv ra1, iv ra2, iv cc_, iv vop, iv fi, rv b1, rv b22, rv b67, rv y97, o_, o_] [(.int ((x5_ >>> ((10 : Int32) &&& 31)) &&& (1 : Int32))), (.int v2), (.int (5 + ra2)), (.int ((hh + 3) % 5)), (.int hh), (.ref b67)]
    refine gBo X281 hx hby at_346 at_349 at_350 at_353 ?_
    show OG p e below Φ T281 m 354 #[iv x0_, iv x1_, iv x2_, iv x3_, iv x4_, iv x5_, iv hh, iv ra0, iv ra1, iv ra2, iv cc_, iv vop, iv fi, rv b1, rv b22, rv b67, rv y97, o_, o_] [(.int (if ((x5_ >>> ((10 : Int32) &&& 31)) &&& (1 : Int32)) = 0 then (0 : Int32) else (1 : Int32))), (.int v2), (.int (5 + ra2)), (.int ((hh + 3) % 5)), (.int hh), (.ref b67)]
    obtain ⟨f2, h_f2⟩ : ∃ z, z = (if ((x5_ >>> ((10 : Int32) &&& 31)) &&& (1 : Int32)) = 0 then (0 : Int32) else (1 : Int32)) := ⟨_, rfl⟩
    rw [← h_f2]
    show OG p e below Φ T281 m 354 #[iv x0_, iv x1_, iv x2_, iv x3_, iv x4_, iv x5_, iv hh, iv ra0, iv ra1, iv ra2, iv cc_, iv vop, iv fi, rv b1, rv b22, rv b67, rv y97, o_, o_] [(.int f2), (.int v2), (.int (5 + ra2)), (.int ((hh + 3) % 5)), (.int hh), (.ref b67)]
    refine gI X281 hx hby at_354 rfl ?_
    refine os (fun _ z => XS.bipush X281.here hx rfl (hb hby at_356) z) ?_
    refine os (fun _ z => XT.ishr X281.here hx rfl (hb hby at_358) rfl z) ?_
    refine gIc (x := 1) X281 hx hby at_359 rfl ?_
    refine os (fun _ z => XS.iand X281.here hx rfl (hb hby at_360) rfl z) ?_
    show OG p e below Φ T281 m 361 #[iv x0_, iv x1_, iv x2_, iv x3_, iv x4_, iv x5_, iv hh, iv ra0, iv ra1, iv ra2, iv cc_, iv vop, iv fi, rv b1, rv b22, rv b67, rv y97, o_, o_] [(.int ((x5_ >>> ((11 : Int32) &&& 31)) &&& (1 : Int32))), (.int f2), (.int v2), (.int (5 + ra2)), (.int ((hh + 3) % 5)), (.int hh), (.ref b67)]
    refine gBo X281 hx hby at_361 at_364 at_365 at_368 ?_
    show OG p e below Φ T281 m 369 #[iv x0_, iv x1_, iv x2_, iv x3_, iv x4_, iv x5_, iv hh, iv ra0, iv ra1, iv ra2, iv cc_, iv vop, iv fi, rv b1, rv b22, rv b67, rv y97, o_, o_] [(.int (if ((x5_ >>> ((11 : Int32) &&& 31)) &&& (1 : Int32)) = 0 then (0 : Int32) else (1 : Int32))), (.int f2), (.int v2), (.int (5 + ra2)), (.int ((hh + 3) % 5)), (.int hh), (.ref b67)]
    obtain ⟨g2, h_g2⟩ : ∃ z, z = (if ((x5_ >>> ((11 : Int32) &&& 31)) &&& (1 : Int32)) = 0 then (0 : Int32) else (1 : Int32)) := ⟨_, rfl⟩
    rw [← h_g2]
    show OG p e below Φ T281 m 369 #[iv x0_, iv x1_, iv x2_, iv x3_, iv x4_, iv x5_, iv hh, iv ra0, iv ra1, iv ra2, iv cc_, iv vop, iv fi, rv b1, rv b22, rv b67, rv y97, o_, o_] [(.int g2), (.int f2), (.int v2), (.int (5 + ra2)), (.int ((hh + 3) % 5)), (.int hh), (.ref b67)]
    obtain ⟨_, T297, L297, X297, hQ297, st297⟩ := own_callSt X281 hx hZ hown (ow87 hw) (ow88 hw) (ow59 hw) (ow89 hw) (by decide) (rarm l Z a0 hw [] b67 b248 (own_mc v1 (own_mc v0 (1 : Int32))) (([(own_q fp hh ((hh + 4) % 5) vop)] ++ (own_arm hh ((hh + 1) % 5) (5 + ra0) v0 f0 g0)) ++ (own_arm hh ((hh + 2) % 5) (5 + ra1) v1 f1 g1)) hh ((hh + 3) % 5) (5 + ra2) v2 f2 g2 T281.heap n0 Zs281 Eq281 gb67 Fm281 Fs281 Fe281 PP281 gq248 nq248_b67 (by have l0 := own_arml hh ((hh + 1) % 5) (5 + ra0) v0 f0 g0; have l1 := own_arml hh ((hh + 2) % 5) (5 + ra1) v1 f1 g1; (try simp only [List.length_append, List.length_cons, List.length_nil]); omega)) rfl (W := 0) (by decide) (pc := 369) (ls := #[iv x0_, iv x1_, iv x2_, iv x3_, iv x4_, iv x5_, iv hh, iv ra0, iv ra1, iv ra2, iv cc_, iv vop, iv fi, rv b1, rv b22, rv b67, rv y97, o_, o_]) (stk := [(.int g2), (.int f2), (.int v2), (.int (5 + ra2)), (.int ((hh + 3) % 5)), (.int hh), (.ref b67)]) (by rw [hml]; rfl) (argsL := [(.ref b67), (.int hh), (.int ((hh + 3) % 5)), (.int (5 + ra2)), (.int v2), (.int f2), (.int g2)]) (rest := []) (lenOf pd24 rfl) rfl rfl (Nat.le_of_eq rfl) (hb hby at_369)
    obtain ⟨rfl, Nq297, Kq297, Eq297, Fm297, Fs297, Fe297, PP297⟩ := hQ297
    have N297 := Fr.app N281 Nq297
    have Zs297 := Nat.le_trans Zs281 Kq297.1
    have F298 := F282.keep Kq297 (allS gb67 (allS gq248 all0))
    have F299 := F283.keep Kq297 (ninS ne67_dz (ninS nq248_dz nin0))
    have F300 := F284.keep Kq297
    have F301 := F285.keep Kq297 (ninS ne67_b1 (ninS nq248_b1 nin0))
    have F302 := F286.keep Kq297 (ninS ne67_b1 (ninS nq248_b1 nin0))
    have F303 := F287.keep Kq297 (ninS ne67_b1 (ninS nq248_b1 nin0))
    have F304 := F288.keep Kq297 (ninS ne67_b7 (ninS nq248_b7 nin0))
    have F305 := F289.keep Kq297
    have F306 := F290.keep Kq297
    have F307 := F291.keep Kq297 (ninS ne67_b22 (ninS nq248_b22 nin0))
    have F308 := F292.keep Kq297 (ninS ne67_b22 (ninS nq248_b22 nin0))
    have F309 := F293.keep Kq297 (ninS ne67_b22 (ninS nq248_b22 nin0))
    have F310 := F294.keep Kq297 (ninS ne67_b40 (ninS nq248_b40 nin0))
    have F311 := F295.keep Kq297
    have F312 := F296.keep Kq297 (ninS (Ne.symm nq97_b67) (ninS nq248_y97 nin0))
    refine os st297 ?_
    refine gI X297 hx hby at_372 rfl ?_
    refine gFy (pc := 374) (pc' := 385) X297 hx hby at_374 (XT.i0_ne_t hc116) (by decide) (by decide) ?_
    show OG p e below Φ T297 m 385 #[iv x0_, iv x1_, iv x2_, iv x3_, iv x4_, iv x5_, iv hh, iv ra0, iv ra1, iv ra2, iv cc_, iv vop, iv fi, rv b1, rv b22, rv b67, rv y97, o_, o_] []
    have PB313 := PD.bnd PP297
    have lt_j : b1 < T297.heap.size := F300.lt
    have lt_r : b22 < T297.heap.size := F306.lt
    have lt_p : b67 < T297.heap.size := Eq297.lt
    obtain ⟨T314, h314, X314, e314, E314, A314, D314, U314, st314⟩ := newO X297 hx hZ hown (ow91 hw) (ow92 hw) (ow93 hw) rfl (g := (mkF m 385 #[iv x0_, iv x1_, iv x2_, iv x3_, iv x4_, iv x5_, iv hh, iv ra0, iv ra1, iv ra2, iv cc_, iv vop, iv fi, rv b1, rv b22, rv b67, rv y97, o_, o_] [])) rfl (hb hby at_385) (by decide) (by decide)
    obtain ⟨b314, g314⟩ : ∃ z, z = T297.heap.size := ⟨_, rfl⟩
    rw [← g314] at A314 D314 st314 U314
    have ne314_b1 := one_ g314 F300.lt
    have ne314_b22 := one_ g314 F306.lt
    have ne314_b248 := one_ g314 PB313.lt
    have ne314_b67 := one_ g314 Eq297.lt
    have F315 := F298.ext E314
    have F316 := F300.ext E314
    have F317 := F302.ext E314
    have F318 := F306.ext E314
    have F319 := F308.ext E314
    have F320 := Eq297.ext E314
    have F321 := Fm297.ext E314
    have F322 := Fs297.ext E314
    have F323 := Fe297.ext E314
    have F324 := PB313.ext E314
    have gb314 := Nat.le_trans Zs297 (Nat.le_of_eq g314.symm)
    have Zs314 := Nat.le_trans Zs297 E314.1
    have F314_271 : Fld Z h314 b314 s4_ "pendantPipes" "[I" .null := D314 (Or.inr (ow271 hw)) (ty := (.array .int)) (by decide)
    have F314_273 : Fld Z h314 b314 s4_ "leaves" "[I" .null := D314 (Or.inr (ow273 hw)) (ty := (.array .int)) (by decide)
    have F314_275 : Fld Z h314 b314 s4_ "roots" "[I" .null := D314 (Or.inr (ow275 hw)) (ty := (.array .int)) (by decide)
    have F314_277 : Fld Z h314 b314 s4_ "unknowns" "[I" .null := D314 (Or.inr (ow277 hw)) (ty := (.array .int)) (by decide)
    have F314_279 : Fld Z h314 b314 s4_ "branchJunctions" "[I" .null := D314 (Or.inr (ow279 hw)) (ty := (.array .int)) (by decide)
    have F314_296 : Fld Z h314 b314 s4_ "chainStarts" "[I" .null := D314 (Or.inr (ow296 hw)) (ty := (.array .int)) (by decide)
    have F314_298 : Fld Z h314 b314 s4_ "chainBounds" "[I" .null := D314 (Or.inr (ow298 hw)) (ty := (.array .int)) (by decide)
    have F314_300 : Fld Z h314 b314 s4_ "chainPipes" "[I" .null := D314 (Or.inr (ow300 hw)) (ty := (.array .int)) (by decide)
    have F314_302 : Fld Z h314 b314 s4_ "chainNodes" "[I" .null := D314 (Or.inr (ow302 hw)) (ty := (.array .int)) (by decide)
    have F314_304 : Fld Z h314 b314 s4_ "cutOff" "I" (.int (0 : Int32)) := D314 (Or.inr (ow304 hw)) (ty := .int) (by decide)
    refine os (st314) ?_
    show OG p e below Φ T314 m 388 #[iv x0_, iv x1_, iv x2_, iv x3_, iv x4_, iv x5_, iv hh, iv ra0, iv ra1, iv ra2, iv cc_, iv vop, iv fi, rv b1, rv b22, rv b67, rv y97, o_, o_] [(.ref b314)]
    refine gDu X314 hx hby at_388 rfl ?_
    obtain ⟨T325, h325, X325, e325, E325, A325, D325, U325, st325⟩ := newO X314 hx hZ hown (ow94 hw) (ow95 hw) (ow96 hw) e314 (g := (mkF m 389 #[iv x0_, iv x1_, iv x2_, iv x3_, iv x4_, iv x5_, iv hh, iv ra0, iv ra1, iv ra2, iv cc_, iv vop, iv fi, rv b1, rv b22, rv b67, rv y97, o_, o_] [(.ref b314), (.ref b314)])) rfl (hb hby at_389) (by decide) (by decide)
    obtain ⟨b325, g325⟩ : ∃ z, z = h314.size := ⟨_, rfl⟩
    rw [← g325] at A325 D325 st325 U325
    have ne325_b1 := one_ g325 F316.lt
    have ne325_b22 := one_ g325 F318.lt
    have ne325_b248 := one_ g325 F324.lt
    have ne325_b314 := one_ g325 A314.lt
    have ne325_b67 := one_ g325 F320.lt
    have F326 := F315.ext E325
    have F327 := F316.ext E325
    have F328 := F317.ext E325
    have F329 := F318.ext E325
    have F330 := F319.ext E325
    have F331 := F320.ext E325
    have F332 := F321.ext E325
    have F333 := F322.ext E325
    have F334 := F323.ext E325
    have F335 := F324.ext E325
    have F336 := A314.ext E325
    have F337 := F314_271.ext E325
    have F338 := F314_273.ext E325
    have F339 := F314_275.ext E325
    have F340 := F314_277.ext E325
    have F341 := F314_279.ext E325
    have F342 := F314_296.ext E325
    have F343 := F314_298.ext E325
    have F344 := F314_300.ext E325
    have F345 := F314_302.ext E325
    have F346 := F314_304.ext E325
    have gb325 := Nat.le_trans Zs314 (Nat.le_of_eq g325.symm)
    have Zs325 := Nat.le_trans Zs314 E325.1
    have F325_102 : Fld Z h325 b325 s5_ "junctions" "Ljava/util/List;" .null := D325 (Or.inr (ow102 hw)) (ty := (.object s11_)) (by decide)
    have F325_104 : Fld Z h325 b325 s5_ "reservoirs" "Ljava/util/List;" .null := D325 (Or.inr (ow104 hw)) (ty := (.object s11_)) (by decide)
    have F325_106 : Fld Z h325 b325 s5_ "pipes" "Ljava/util/List;" .null := D325 (Or.inr (ow106 hw)) (ty := (.object s11_)) (by decide)
    have F325_108 : Fld Z h325 b325 s5_ "flowUnits" "Lcom/example/hydromeme/hydromeme/FlowUnits;" .null := D325 (Or.inr (ow108 hw)) (ty := (.object s2_)) (by decide)
    have F325_110 : Fld Z h325 b325 s5_ "headLoss" "Lcom/example/hydromeme/hydromeme/HeadLoss;" .null := D325 (Or.inr (ow110 hw)) (ty := (.object s3_)) (by decide)
    have F325_112 : Fld Z h325 b325 s5_ "viscosity" "D" (.double 0) := D325 (Or.inr (ow112 hw)) (ty := .double) (by decide)
    refine os (st325) ?_
    show OG p e below Φ T325 m 392 #[iv x0_, iv x1_, iv x2_, iv x3_, iv x4_, iv x5_, iv hh, iv ra0, iv ra1, iv ra2, iv cc_, iv vop, iv fi, rv b1, rv b22, rv b67, rv y97, o_, o_] [(.ref b325), (.ref b314), (.ref b314)]
    refine gDu X325 hx hby at_392 rfl ?_
    refine gA X325 hx hby at_393 rfl rfl ?_
    refine gA X325 hx hby at_395 rfl rfl ?_
    refine gA X325 hx hby at_397 rfl rfl ?_
    refine os (fun _ z => XS.aconstNull X325.here hx rfl (hb hby at_399) z) ?_
    refine os (fun _ z => XS.aconstNull X325.here hx rfl (hb hby at_400) z) ?_
    refine os (fun _ z => XS.dconst0 X325.here hx rfl (v := FP.dconst0) (hb hby at_401) rfl z) ?_
    obtain ⟨_, T347, L347, X347, hQ347, st347⟩ := own_callSp X325 hx hZ rfl hown (ow97 hw) (ow98 hw) (ow96 hw) (ow99 hw) (by decide) (rni l Z a0 hw [] b325 b1 b22 b67 FP.dconst0 .null .null .null .null .null (.double 0) h325 n0 Zs325 A325 gb325 F325_102 F325_104 F325_106 F325_108 F325_110 F325_112) e325 (W := 3) (by decide) (pc := 402) (ls := #[iv x0_, iv x1_, iv x2_, iv x3_, iv x4_, iv x5_, iv hh, iv ra0, iv ra1, iv ra2, iv cc_, iv vop, iv fi, rv b1, rv b22, rv b67, rv y97, o_, o_]) (stk := [(.double FP.dconst0), .null, .null, (.ref b67), (.ref b22), (.ref b1), (.ref b325), (.ref b325), (.ref b314), (.ref b314)]) (by rw [hml]; rfl) (a := b325) (argsL := [(.ref b1), (.ref b22), (.ref b67), .null, .null, (.double FP.dconst0)]) (rest := [(.ref b325), (.ref b314), (.ref b314)]) (lenOf pd25 rfl) rfl rfl (Nat.le_of_eq rfl) (hb hby at_402)
    obtain ⟨rfl, Nq347, Kq347, Eq347, Fq347_0, Fq347_1, Fq347_2, Fq347_3, Fq347_4, Fq347_5⟩ := hQ347
    have N347 := Fr.app N297 Nq347
    have Zs347 := Nat.le_trans Zs325 Kq347.1
    have F348 := F326.keep Kq347 (allS gb325 all0)
    have F349 := F327.keep Kq347
    have F350 := F328.keep Kq347 (ninS ne325_b1 nin0)
    have F351 := F329.keep Kq347
    have F352 := F330.keep Kq347 (ninS ne325_b22 nin0)
    have F353 := F331.keep Kq347
    have F354 := F332.keep Kq347 (ninS ne325_b67 nin0)
    have F355 := F333.keep Kq347 (ninS ne325_b67 nin0)
    have F356 := F334.keep Kq347 (ninS ne325_b67 nin0)
    have F357 := F335.keep Kq347 (allS (Nat.not_lt.mpr (Nat.le_trans E314.1 (Nat.le_of_eq g325.symm))) all0)
    have F358 := F336.keep Kq347
    have F359 := F337.keep Kq347 (ninS ne325_b314 nin0)
    have F360 := F338.keep Kq347 (ninS ne325_b314 nin0)
    have F361 := F339.keep Kq347 (ninS ne325_b314 nin0)
    have F362 := F340.keep Kq347 (ninS ne325_b314 nin0)
    have F363 := F341.keep Kq347 (ninS ne325_b314 nin0)
    have F364 := F342.keep Kq347 (ninS ne325_b314 nin0)
    have F365 := F343.keep Kq347 (ninS ne325_b314 nin0)
    have F366 := F344.keep Kq347 (ninS ne325_b314 nin0)
    have F367 := F345.keep Kq347 (ninS ne325_b314 nin0)
    have F368 := F346.keep Kq347 (ninS ne325_b314 nin0)
    refine os st347 ?_
    have NP370 : NetP Z T347.heap (fun y => y < T297.heap.size ∨ y = b325) b325 b1 b22 b67 b248 (own_mc v2 (own_mc v1 (own_mc v0 (1 : Int32)))) ((([(own_q fp hh ((hh + 4) % 5) vop)] ++ (own_arm hh ((hh + 1) % 5) (5 + ra0) v0 f0 g0)) ++ (own_arm hh ((hh + 2) % 5) (5 + ra1) v1 f1 g1)) ++ (own_arm hh ((hh + 3) % 5) (5 + ra2) v2 f2 g2)) := ⟨⟨Or.inr rfl, Or.inl lt_j, Or.inl lt_r, Or.inl lt_p⟩, Eq347, Fq347_0, Fq347_1, Fq347_2, F349, F350, F351, F352, F353, F354, F355, F356, F357.mono (fun _ z => Or.inl z)⟩
    have le370 : T297.heap.size ≤ T347.heap.size := Nat.le_trans (Nat.le_trans E314.1 E325.1) Kq347.1
    have ln370 := Eq347.lt
    have hS2 : ∀ x, T347.heap.size ≤ x → ¬ (fun y => y < T297.heap.size ∨ y = b325) x := by rintro x q (r | r); exact absurd (Nat.lt_of_lt_of_le r le370) (Nat.not_lt.mpr q); exact absurd ln370 (Nat.not_lt.mpr (r ▸ q))
    have hS1 : ¬ (fun y => y < T297.heap.size ∨ y = b325) b314 := by rintro (r | r); (rw [g314] at r; exact absurd r (Nat.lt_irrefl _)); exact ne325_b314 r
    obtain ⟨tq, hT1, hT2⟩ := (own_main (h := hh) (a0 := ra0) (a1 := ra1) (a2 := ra2) (c := cc_) (vop := vop) (fp := fp) (v0 := v0) (f0 := f0) (g0 := g0) (v1 := v1) (f1 := f1) (g1 := g1) (v2 := v2) (f2 := f2) (g2 := g2) (h_hh ▸ own_m5 _) (h_ra0 ▸ own_m3 _) (h_ra1 ▸ own_m3 _) (h_ra2 ▸ own_m3 _) (h_cc_ ▸ own_m3 _) (own_if01 h_vop)).1
    obtain ⟨_, T369, L369, X369, hQ369, st369⟩ := own_callSp X347 hx hZ rfl hown (ow113 hw) (ow114 hw) (ow93 hw) (ow115 hw) (by decide) (rti l Z a0 hw [] (fun y => y < T297.heap.size ∨ y = b325) b325 b1 b22 b67 b248 (own_mc v2 (own_mc v1 (own_mc v0 (1 : Int32)))) ((([(own_q fp hh ((hh + 4) % 5) vop)] ++ (own_arm hh ((hh + 1) % 5) (5 + ra0) v0 f0 g0)) ++ (own_arm hh ((hh + 2) % 5) (5 + ra1) v1 f1 g1)) ++ (own_arm hh ((hh + 3) % 5) (5 + ra2) v2 f2 g2)) b314 ac cc tq T347.heap n0 Zs347 NP370 hS2 hS1 F358 gb314 ⟨F359, F360, F361, F364, F365, F366, F367, F362, F363, F368⟩ F348 S_hi S_ca B_x hT1) rfl (W := 1) (by decide) (pc := 405) (ls := #[iv x0_, iv x1_, iv x2_, iv x3_, iv x4_, iv x5_, iv hh, iv ra0, iv ra1, iv ra2, iv cc_, iv vop, iv fi, rv b1, rv b22, rv b67, rv y97, o_, o_]) (stk := [(.ref b325), (.ref b314), (.ref b314)]) (by rw [hml]; rfl) (a := b314) (argsL := [(.ref b325)]) (rest := [(.ref b314)]) (lenOf pd26 rfl) rfl rfl (Nat.le_of_eq rfl) (hb hby at_405)
    obtain ⟨rfl, Nq369, Kq369, Eq369, c1_369, c2_369, Fb369, Fn369, P1_369, P2_369⟩ := hQ369
    have N369 := Fr.app N347 Nq369
    have Zs369 := Nat.le_trans Zs347 Kq369.1
    have F371 := F348.keep Kq369 (allS gb314 all0)
    refine os st369 ?_
    refine gAs X369 hx hby at_408 rfl (ls' := #[iv x0_, iv x1_, iv x2_, iv x3_, iv x4_, iv x5_, iv hh, iv ra0, iv ra1, iv ra2, iv cc_, iv vop, iv fi, rv b1, rv b22, rv b67, rv y97, rv b314, o_]) rfl ?_
    refine gI X369 hx hby at_410 rfl ?_
    by_cases hc372 : cc_ = 0
    · refine gFn X369 hx hby at_412 (XT.i0_ne_f hc372) ?_
      refine gIc (x := 5) X369 hx hby at_415 rfl ?_
      refine gI X369 hx hby at_416 rfl ?_
      refine os (fun _ z => XS.iadd X369.here hx rfl (hb hby at_418) rfl z) ?_
      refine gIs X369 hx hby at_419 (ls' := #[iv x0_, iv x1_, iv x2_, iv x3_, iv x4_, iv x5_, iv hh, iv ra0, iv ra1, iv ra2, iv cc_, iv vop, iv fi, rv b1, rv b22, rv b67, rv y97, rv b314, iv (5 + ra0)]) rfl ?_
      refine gGo (pc := 421) (pc' := 445) X369 hx hby at_421 (by decide) (by decide) ?_
      refine gA X369 hx hby at_445 rfl rfl ?_
      refine gI X369 hx hby at_447 rfl ?_
      obtain ⟨_, T373, L373, X373, hQ373, st373⟩ := own_callVi X369 hx hZ hown (ow305 hw) (ow306 hw) (notFace_of_selects (args := #[]) (mvT hZ (ow308 hw))) (ow308 hw) (ow307 hw) (ow93 hw) (ow309 hw) (by decide) (rce l Z a0 hw [] b314 c1_369 c2_369 tq.1 tq.2 cc_ (own_ex cc_ ra0 ra1 ra2) T369.heap n0 Zs369 Fb369 Fn369 P1_369 P2_369 hT2) rfl (W := 0) (by decide) Eq369 (pc := 449) (ls := #[iv x0_, iv x1_, iv x2_, iv x3_, iv x4_, iv x5_, iv hh, iv ra0, iv ra1, iv ra2, iv cc_, iv vop, iv fi, rv b1, rv b22, rv b67, rv y97, rv b314, iv (5 + ra0)]) (stk := [(.int cc_), (.ref b314)]) (by rw [hml]; rfl) (argsL := [(.int cc_)]) (rest := []) (lenOf pd27 rfl) rfl rfl (Nat.le_of_eq rfl) (hb hby at_449)
      obtain ⟨rfl, Nq373, e373⟩ := hQ373
      have N373 := Fr.app N369 Nq373
      refine os st373 ?_
      refine gI X373 hx hby at_452 rfl ?_
      by_cases hc374 : (own_ex cc_ ra0 ra1 ra2) = (5 + ra0)
      · refine gCn X373 hx hby at_454 (XT.ii_ne_f hc374) ?_
        refine gIc (x := 1) X373 hx hby at_457 rfl ?_
        refine gGo (pc := 458) (pc' := 462) X373 hx hby at_458 (by decide) (by decide) ?_
        refine OGo.fin X373 hlk (v := (some (.int 1))) (fun h => by rw [hret] at h; cases h) (by decide) (by decide) (fun fs hr => X373.ireturnOut hx hret rfl (by simp) (hb hby at_462) hr) fun U eU hF => hΦ _ _ _ ?_ hF
        rw [eU, e373]
        show Q_rm0 Z x0_ x1_ x2_ x3_ x4_ x5_ dz cz ac cc h0 n0 _ _ _
        exact ⟨rfl, N373⟩
      · refine gCy (pc := 454) (pc' := 461) X373 hx hby at_454 (XT.ii_ne_t hc374) (by decide) (by decide) ?_
        refine gIc (x := 0) X373 hx hby at_461 rfl ?_
        exact absurd (by simp [own_ex, hc372]) hc374
    · refine gFy (pc := 412) (pc' := 424) X369 hx hby at_412 (XT.i0_ne_t hc372) (by decide) (by decide) ?_
      refine gI X369 hx hby at_424 rfl ?_
      refine gIc (x := 1) X369 hx hby at_426 rfl ?_
      show OG p e below Φ T369 m 427 #[iv x0_, iv x1_, iv x2_, iv x3_, iv x4_, iv x5_, iv hh, iv ra0, iv ra1, iv ra2, iv cc_, iv vop, iv fi, rv b1, rv b22, rv b67, rv y97, rv b314, o_] [(.int 1), (.int cc_)]
      by_cases hc375 : cc_ = (1 : Int32)
      · refine gCn X369 hx hby at_427 (XT.ii_ne_f hc375) ?_
        refine gIc (x := 5) X369 hx hby at_430 rfl ?_
        refine gI X369 hx hby at_431 rfl ?_
        refine os (fun _ z => XS.iadd X369.here hx rfl (hb hby at_433) rfl z) ?_
        refine gIs X369 hx hby at_434 (ls' := #[iv x0_, iv x1_, iv x2_, iv x3_, iv x4_, iv x5_, iv hh, iv ra0, iv ra1, iv ra2, iv cc_, iv vop, iv fi, rv b1, rv b22, rv b67, rv y97, rv b314, iv (5 + ra1)]) rfl ?_
        refine gGo (pc := 436) (pc' := 445) X369 hx hby at_436 (by decide) (by decide) ?_
        refine gA X369 hx hby at_445 rfl rfl ?_
        refine gI X369 hx hby at_447 rfl ?_
        obtain ⟨_, T376, L376, X376, hQ376, st376⟩ := own_callVi X369 hx hZ hown (ow305 hw) (ow306 hw) (notFace_of_selects (args := #[]) (mvT hZ (ow308 hw))) (ow308 hw) (ow307 hw) (ow93 hw) (ow309 hw) (by decide) (rce l Z a0 hw [] b314 c1_369 c2_369 tq.1 tq.2 cc_ (own_ex cc_ ra0 ra1 ra2) T369.heap n0 Zs369 Fb369 Fn369 P1_369 P2_369 hT2) rfl (W := 0) (by decide) Eq369 (pc := 449) (ls := #[iv x0_, iv x1_, iv x2_, iv x3_, iv x4_, iv x5_, iv hh, iv ra0, iv ra1, iv ra2, iv cc_, iv vop, iv fi, rv b1, rv b22, rv b67, rv y97, rv b314, iv (5 + ra1)]) (stk := [(.int cc_), (.ref b314)]) (by rw [hml]; rfl) (argsL := [(.int cc_)]) (rest := []) (lenOf pd27 rfl) rfl rfl (Nat.le_of_eq rfl) (hb hby at_449)
        obtain ⟨rfl, Nq376, e376⟩ := hQ376
        have N376 := Fr.app N369 Nq376
        refine os st376 ?_
        refine gI X376 hx hby at_452 rfl ?_
        by_cases hc377 : (own_ex cc_ ra0 ra1 ra2) = (5 + ra1)
        · refine gCn X376 hx hby at_454 (XT.ii_ne_f hc377) ?_
          refine gIc (x := 1) X376 hx hby at_457 rfl ?_
          refine gGo (pc := 458) (pc' := 462) X376 hx hby at_458 (by decide) (by decide) ?_
          refine OGo.fin X376 hlk (v := (some (.int 1))) (fun h => by rw [hret] at h; cases h) (by decide) (by decide) (fun fs hr => X376.ireturnOut hx hret rfl (by simp) (hb hby at_462) hr) fun U eU hF => hΦ _ _ _ ?_ hF
          rw [eU, e376]
          show Q_rm0 Z x0_ x1_ x2_ x3_ x4_ x5_ dz cz ac cc h0 n0 _ _ _
          exact ⟨rfl, N376⟩
        · refine gCy (pc := 454) (pc' := 461) X376 hx hby at_454 (XT.ii_ne_t hc377) (by decide) (by decide) ?_
          refine gIc (x := 0) X376 hx hby at_461 rfl ?_
          exact absurd (by simp [own_ex, hc372, hc375]) hc377
      · refine gCy (pc := 427) (pc' := 439) X369 hx hby at_427 (XT.ii_ne_t hc375) (by decide) (by decide) ?_
        refine gIc (x := 5) X369 hx hby at_439 rfl ?_
        refine gI X369 hx hby at_440 rfl ?_
        refine os (fun _ z => XS.iadd X369.here hx rfl (hb hby at_442) rfl z) ?_
        refine gIs X369 hx hby at_443 (ls' := #[iv x0_, iv x1_, iv x2_, iv x3_, iv x4_, iv x5_, iv hh, iv ra0, iv ra1, iv ra2, iv cc_, iv vop, iv fi, rv b1, rv b22, rv b67, rv y97, rv b314, iv (5 + ra2)]) rfl ?_
        refine gA X369 hx hby at_445 rfl rfl ?_
        refine gI X369 hx hby at_447 rfl ?_
        obtain ⟨_, T378, L378, X378, hQ378, st378⟩ := own_callVi X369 hx hZ hown (ow305 hw) (ow306 hw) (notFace_of_selects (args := #[]) (mvT hZ (ow308 hw))) (ow308 hw) (ow307 hw) (ow93 hw) (ow309 hw) (by decide) (rce l Z a0 hw [] b314 c1_369 c2_369 tq.1 tq.2 cc_ (own_ex cc_ ra0 ra1 ra2) T369.heap n0 Zs369 Fb369 Fn369 P1_369 P2_369 hT2) rfl (W := 0) (by decide) Eq369 (pc := 449) (ls := #[iv x0_, iv x1_, iv x2_, iv x3_, iv x4_, iv x5_, iv hh, iv ra0, iv ra1, iv ra2, iv cc_, iv vop, iv fi, rv b1, rv b22, rv b67, rv y97, rv b314, iv (5 + ra2)]) (stk := [(.int cc_), (.ref b314)]) (by rw [hml]; rfl) (argsL := [(.int cc_)]) (rest := []) (lenOf pd27 rfl) rfl rfl (Nat.le_of_eq rfl) (hb hby at_449)
        obtain ⟨rfl, Nq378, e378⟩ := hQ378
        have N378 := Fr.app N369 Nq378
        refine os st378 ?_
        refine gI X378 hx hby at_452 rfl ?_
        by_cases hc379 : (own_ex cc_ ra0 ra1 ra2) = (5 + ra2)
        · refine gCn X378 hx hby at_454 (XT.ii_ne_f hc379) ?_
          refine gIc (x := 1) X378 hx hby at_457 rfl ?_
          refine gGo (pc := 458) (pc' := 462) X378 hx hby at_458 (by decide) (by decide) ?_
          refine OGo.fin X378 hlk (v := (some (.int 1))) (fun h => by rw [hret] at h; cases h) (by decide) (by decide) (fun fs hr => X378.ireturnOut hx hret rfl (by simp) (hb hby at_462) hr) fun U eU hF => hΦ _ _ _ ?_ hF
          rw [eU, e378]
          show Q_rm0 Z x0_ x1_ x2_ x3_ x4_ x5_ dz cz ac cc h0 n0 _ _ _
          exact ⟨rfl, N378⟩
        · refine gCy (pc := 454) (pc' := 461) X378 hx hby at_454 (XT.ii_ne_t hc379) (by decide) (by decide) ?_
          refine gIc (x := 0) X378 hx hby at_461 rfl ?_
          exact absurd (by simp [own_ex, hc372, hc375]) hc379

theorem comes_1 {Post : Tables → Env → Array Value → State → Outcome → State → Prop} (hpost : ∀ tb e args s v u, (limb_1_1.after args s (.returned v) u = true ∧ limb_1_2.after args s (.returned v) u = true ∧ True) → FrameEnd s (.returned v) u (Jvm.fieldLocs frame_1_writes args s ++ Jvm.arrayLocs frame_1_arrays args s ++ Jvm.staticLocs frame_1_statics s) 104 640 → Post tb e args s (.returned v) u) :
    ArmFor flags0 classFile x code maxLocals ret World_1 tables_1 room_1 Calls_1 rest_1 Pre_1 Post := by
  intro l hfl _ _ p e ha hc hk s m args below hf hA hF happ hP
  obtain ⟨hcalls, hrest, hpre⟩ := hP
  obtain ⟨-, -, -, hnamed, -, -, -, hat⟩ := (Spec.applies_iff hf).mp happ
  obtain ⟨hg, hn⟩ := and_e (Cond.before_iff.mp (show (Jvm.Cond.and given_1 narrow_1).before args s = true from hpre))
  obtain ⟨g0, r0⟩ := and_e hg
  obtain ⟨k0, r1⟩ := and_e r0
  obtain ⟨k1, r2⟩ := and_e r1
  obtain ⟨k2, r3⟩ := and_e r2
  obtain ⟨k3, r4⟩ := and_e r3
  obtain ⟨k4, r5⟩ := and_e r4
  have k5 := r5
  obtain ⟨w0, w1, w2, w3, w4, w5, rfl⟩ : ∃ w0 w1 w2 w3 w4 w5 : Value, args = #[w0, w1, w2, w3, w4, w5] := by
    have hs : args.size = 6 := by simpa [Cond.value, given_1] using g0
    obtain ⟨L⟩ := args
    match L, hs with
    | [w0, w1, w2, w3, w4, w5], _ => exact ⟨w0, w1, w2, w3, w4, w5, rfl⟩
  have hw := fun d (hd : d ∈ tables_1) => atoms_spec (ws := Jvm.Cond.code x code maxLocals ret :: tables_1) hat d (List.mem_cons_of_mem _ hd)
  have hfit : Fit s := fun {y c} hc i hi => by
    obtain ⟨ha, rfl⟩ := Array.getElem?_eq_some_iff.mp hc
    have q := List.all_eq_true.mp ((Array.all_eq_true_iff_forall_mem.mp hF) _ (Array.getElem_mem ha)) i (List.mem_range.mpr hi)
    simpa [Array.getElem?_eq_getElem hi] using q
  obtain ⟨i0, ei0⟩ := is_v k0
  obtain rfl : w0 = (.int i0) := Option.some.inj ei0
  obtain ⟨i1, ei1⟩ := is_v k1
  obtain rfl : w1 = (.int i1) := Option.some.inj ei1
  obtain ⟨i2, ei2⟩ := is_v k2
  obtain rfl : w2 = (.int i2) := Option.some.inj ei2
  obtain ⟨i3, ei3⟩ := is_v k3
  obtain rfl : w3 = (.int i3) := Option.some.inj ei3
  obtain ⟨i4, ei4⟩ := is_v k4
  obtain rfl : w4 = (.int i4) := Option.some.inj ei4
  obtain ⟨i5, ei5⟩ := is_v k5
  obtain rfl : w5 = (.int i5) := Option.some.inj ei5
  have hrc : rest_1_c.before _ s = true := hrest
  rw [rest_1_c_eq] at hrc
  have hsets := (atoms_of jdkStatics_1 hrc).1
  obtain ⟨dz, v_z⟩ := exa_v (Cond.before_iff.mp (hsets _ (List.mem_of_getElem? (i := 7) rfl)))
  have S_d := Sta.start v_z (Or.inr ⟨(ow3 hw), (hsets _ (List.mem_of_getElem? (i := 2) rfl))⟩)
  obtain ⟨cl_z, A_z⟩ := Arr.start v_z (Cond.before_iff.mp (hsets _ (List.mem_of_getElem? (i := 6) rfl)))
  obtain ⟨l1_z, l2_z⟩ := own_lenI v_z A_z (Cond.before_iff.mp (hsets _ (List.mem_of_getElem? (i := 8) rfl)))
  have V_z : Arv s s.heap dz cl_z.cls (.object "java/lang/Object") 0 [] .null := Arv.start hfit A_z l1_z l2_z (by decide) rfl trivial
  have v_hi := own_eqV (Term.int_eval 127) rfl (Cond.before_iff.mp (hsets _ (List.mem_of_getElem? (i := 12) rfl)))
  have S_hi := Sta.start v_hi (Or.inl (hsets _ (List.mem_of_getElem? (i := 10) rfl)))
  obtain ⟨ac, v_ca⟩ := arr_v (Cond.before_iff.mp (hsets _ (List.mem_of_getElem? (i := 13) rfl)))
  have S_ca := Sta.start v_ca (Or.inr ⟨(ow315 hw), (hsets _ (List.mem_of_getElem? (i := 11) rfl))⟩)
  obtain ⟨cc, A_ca⟩ := Arr.start v_ca (Cond.before_iff.mp (hsets _ (List.mem_of_getElem? (i := 13) rfl)))
  obtain ⟨lq1, lq2⟩ := own_lenI v_ca A_ca (Cond.before_iff.mp (hsets _ (List.mem_of_getElem? (i := 15) rfl)))
  have B_x := Bxs.start (val := fun j => .int (j - 128)) (fun _ => v_ca) A_ca lq1 lq2 (by decide) (Cond.before_iff.mp (hsets _ (List.mem_of_getElem? (i := 16) rfl))) (fun X j nj q => eqv_i (own_subI (idx_at nj)) q)
  obtain ⟨n, o, h1, h2, h3, _, L, rfl, ⟨rfl, N⟩, hq⟩ := rm0 l s _ hw tables_1 i0 i1 i2 i3 i4 i5 dz _ ac cc s.heap s.heap.size (Nat.le_refl _) (Old.start s) S_d V_z S_hi S_ca B_x p e ha hc hk s m _ below hf ((Spec.applies_iff_loose hf).mp happ).1 ⟨rfl, State.Warmed39.refl s, rfl⟩ trivial
  refine ⟨n, _, h1, h2, h3, hpost _ _ _ _ _ _ ⟨Cond.after_iff.mpr rfl, Cond.after_iff.mpr (eq_i res_at (Term.int_eval (1)) rfl), trivial⟩ ⟨hq.1, hq.2.1, (hq.2.2.sift fun y hy => Or.inr (N y hy)).mono (by decide) (by decide)⟩⟩
theorem main_1_1 : Claimed_1_1 := comes_1 fun _ _ _ _ _ _ h hF => ⟨h.1, hF⟩
theorem main_1_2 : Claimed_1_2 := comes_1 fun _ _ _ _ _ _ h hF => ⟨h.2.1, hF⟩
end Jvm.Pilot.@@N@@
namespace Jvm.Pilot.@@N@@
open Jvm Jvm.ClassFile Sem Op Lib Jvm.Free Jvm.Stand Jvm.Pilot.@@N@@.Jvm.D
/-! MADE BY PROGRAM (and shortened by wip/gen/cw.py) (witnessworld.py) out of the Statement's table words and the real class files: 41 classes; the members and pool entries that the words name. The judged class is class 1, her method 1. -/
namespace start1
open Jvm.ClassFile
def u (s : String) : CpInfo := .utf8 (stringToUtf16 s)
/-- a pool by its gaps: so many unusable entries, then the entry; so many at the end -/
def gap : Nat → List CpInfo → List CpInfo
  | 0, r => r
  | n + 1, r => .unusable :: gap n r
def poolList (es : List (Nat × CpInfo)) (last : Nat) : List CpInfo := es.foldr (fun e r => gap e.1 (e.2 :: r)) (gap last [])
def pool (es : List (Nat × CpInfo)) (last : Nat) : Array CpInfo := ⟨poolList es last⟩
def fileOf (pool : Array CpInfo) (this : Nat) (attrs : Array Attribute := #[]) (ms : Array MethodInfo := #[]) (fl : Nat := 33) (sup : Nat := 0) (ifs : Array Nat := #[]) (fds : Array FieldInfo := #[]) : ClassFile where
  minorVersion := 0
  majorVersion := 65
  constantPool := pool
  accessFlags := fl
  thisClass := this
  superClass := sup
  interfaces := ifs
  fields := fds
  methods := ms
  attributes := attrs
def plain (name : String) (sup : Option ClassId) : Class where
  name := name
  kind := .ordinary
  loader := none
  accessFlags := 33
  super := sup
  interfaces := #[]
  cf := none
  fields := #[]
  methods := #[]
  instanceTypes := #[]
  staticTypes := #[]
  resolved := #[]
  callSites := []
  init := .initialized
  statics := none
  mirror := none

def pool0 : Array CpInfo := pool [(5, u "<init>"), (0, u "()V"), (1, .class_ 10), (1, u "java/lang/Object"), (85, u "clone"), (0, u "()Ljava/lang/Object;")] 26

def k0c0 : Code := { maxStack := 0, maxLocals := 1, code := object_method_1_code, exceptionTable := #[], attributes := #[] }
def k0m0 : Method := { name := "<init>", desc := "()V", sig := { parameters := [], returnType := none }, accessFlags := 1, code := some k0c0 }
def k0m1 : Method := { name := "clone", desc := "()Ljava/lang/Object;", sig := { parameters := [], returnType := some (.object "java/lang/Object") }, accessFlags := 260, code := none }
/-- java/lang/Object -/
def k0 : Class := { plain "java/lang/Object" none with
  accessFlags := 33
  interfaces := #[]
  cf := some (fileOf pool0 8 #[] #[{ accessFlags := 1, nameIndex := 5, descriptorIndex := 6, attributes := #[] }, { accessFlags := 260, nameIndex := 96, descriptorIndex := 97, attributes := #[] }] 33 0 #[] #[])
  fields := #[]
  methods := #[k0m0, k0m1]
  instanceTypes := #[]
  staticTypes := #[]
  resolved := Array.replicate 124 none
  statics := none }

def pool1 : Array CpInfo := pool [(2, .class_ 4), (0, .nameAndType 5 6), (0, u "java/lang/Object"), (0, u "<init>"), (0, u "()V"), (0, .integer 2147483647), (0, .class_ 9), (0, u s9_), (0, .methodref 8 3), (0, .methodref 8 12), (0, .nameAndType 13 14), (0, u "add"), (0, u "(Ljava/lang/Object;)Z"), (0, .methodref 16 17), (0, .class_ 18), (0, .nameAndType 19 20), (0, u s0_), (0, u "pipe"), (0, u "(IIZZ)Lcom/example/hydromeme/hydromeme/Network$Pipe;"), (0, .methodref 16 22), (0, .nameAndType 23 24), (0, u "arm"), (0, u "(Ljava/util/ArrayList;IIIZZZ)V"), (0, .class_ 26), (0, u s4_), (0, .class_ 28), (0, u s5_), (0, .methodref 27 30), (0, .nameAndType 5 31), (0, u "(Ljava/util/List;Ljava/util/List;Ljava/util/List;Lcom/example/hydromeme/hydromeme/FlowUnits;Lcom/example/hydromeme/hydromeme/HeadLoss;D)V"), (0, .methodref 25 33), (0, .nameAndType 5 34), (0, u "(Lcom/example/hydromeme/hydromeme/Network;)V"), (0, .methodref 25 36), (0, .nameAndType 37 38), (0, u "chainEnd"), (0, u "(I)I"), (0, .class_ 40), (0, u s1_), (0, .methodref 39 42), (0, .nameAndType 5 43), (0, u "(Ljava/lang/String;IIDDDZ)V"), (2, u "law"), (0, u "(IIIIII)Z")] 7

def k1m0 : Method := { name := "<init>", desc := "()V", sig := { parameters := [], returnType := none }, accessFlags := 1, code := none }
def k1c1 : Code := { maxStack := 11, maxLocals := 19, code := code, exceptionTable := #[], attributes := #[] }
def k1m1 : Method := { name := "law", desc := "(IIIIII)Z", sig := { parameters := [.int, .int, .int, .int, .int, .int], returnType := some .boolean }, accessFlags := 9, code := some k1c1 }
def k1c2 : Code := { maxStack := 12, maxLocals := 4, code := method_3_code, exceptionTable := #[], attributes := #[] }
def k1m2 : Method := { name := "pipe", desc := "(IIZZ)Lcom/example/hydromeme/hydromeme/Network$Pipe;", sig := { parameters := [.int, .int, .boolean, .boolean], returnType := some (.object s1_) }, accessFlags := 10, code := some k1c2 }
def k1c3 : Code := { maxStack := 5, maxLocals := 7, code := method_4_code, exceptionTable := #[], attributes := #[] }
def k1m3 : Method := { name := "arm", desc := "(Ljava/util/ArrayList;IIIZZZ)V", sig := { parameters := [(.object s9_), .int, .int, .int, .boolean, .boolean, .boolean], returnType := none }, accessFlags := 10, code := some k1c3 }
/-- com/example/hydromeme/hydromeme/TopologyChainEndPinLaw -/
def k1 : Class := { plain s0_ (some 0) with
  accessFlags := 49
  interfaces := #[]
  cf := some (fileOf pool1 16 #[] #[{ accessFlags := 1, nameIndex := 5, descriptorIndex := 6, attributes := #[] }, { accessFlags := 9, nameIndex := 46, descriptorIndex := 47, attributes := #[] }, { accessFlags := 10, nameIndex := 19, descriptorIndex := 20, attributes := #[] }, { accessFlags := 10, nameIndex := 23, descriptorIndex := 24, attributes := #[] }] 49 2 #[] #[])
  fields := #[]
  methods := #[k1m0, k1m1, k1m2, k1m3]
  instanceTypes := #[]
  staticTypes := #[]
  resolved := Array.replicate 55 none
  statics := none }

def pool2 : Array CpInfo := pool [(8, .class_ 10), (1, u "java/lang/Iterable"), (24, .class_ 36), (0, u "java/lang/Object")] 25

/-- java/lang/Iterable -/
def k2 : Class := { plain "java/lang/Iterable" (some 0) with
  accessFlags := 1537
  interfaces := #[]
  cf := some (fileOf pool2 8 #[] #[] 1537 35 #[] #[])
  fields := #[]
  methods := #[]
  instanceTypes := #[]
  staticTypes := #[]
  resolved := Array.replicate 62 none
  statics := none }

def pool3 : Array CpInfo := pool [(10, .class_ 12), (1, u "java/util/Collection"), (47, .class_ 61), (0, u "java/lang/Object"), (0, .class_ 63), (0, u "java/lang/Iterable")] 51

/-- java/util/Collection -/
def k3 : Class := { plain "java/util/Collection" (some 0) with
  accessFlags := 1537
  interfaces := #[2]
  cf := some (fileOf pool3 10 #[] #[] 1537 60 #[62] #[])
  fields := #[]
  methods := #[]
  instanceTypes := #[]
  staticTypes := #[]
  resolved := Array.replicate 115 none
  statics := none }

def pool4 : Array CpInfo := pool [(1, .methodref 2 3), (0, .class_ 4), (0, .nameAndType 5 6), (0, u "java/lang/Object"), (0, u "<init>"), (0, u "()V"), (1, .class_ 10), (1, u "java/util/AbstractCollection"), (66, .class_ 78), (0, u "java/util/Collection")] 81

def k4c0 : Code := { maxStack := 1, maxLocals := 1, code := jdk_22_method_1_code, exceptionTable := #[], attributes := #[] }
def k4m0 : Method := { name := "<init>", desc := "()V", sig := { parameters := [], returnType := none }, accessFlags := 4, code := some k4c0 }
/-- java/util/AbstractCollection -/
def k4 : Class := { plain "java/util/AbstractCollection" (some 0) with
  accessFlags := 1057
  interfaces := #[3]
  cf := some (fileOf pool4 8 #[] #[{ accessFlags := 4, nameIndex := 5, descriptorIndex := 6, attributes := #[] }] 1057 2 #[77] #[])
  fields := #[]
  methods := #[k4m0]
  instanceTypes := #[]
  staticTypes := #[]
  resolved := Array.replicate 160 none
  statics := none }

def pool5 : Array CpInfo := pool [(8, .class_ 10), (1, u "java/util/SequencedCollection"), (15, .class_ 27), (0, u "java/lang/Object"), (0, .class_ 29), (0, u "java/util/Collection")] 27

/-- java/util/SequencedCollection -/
def k5 : Class := { plain "java/util/SequencedCollection" (some 0) with
  accessFlags := 1537
  interfaces := #[3]
  cf := some (fileOf pool5 8 #[] #[] 1537 26 #[28] #[])
  fields := #[]
  methods := #[]
  instanceTypes := #[]
  staticTypes := #[]
  resolved := Array.replicate 57 none
  statics := none }

def pool6 : Array CpInfo := pool [(8, .class_ 10), (1, u s11_), (64, u "get"), (0, u "(I)Ljava/lang/Object;"), (2, u "size"), (0, u "()I"), (22, .class_ 104), (0, u "java/lang/Object"), (15, .class_ 121), (0, u "java/util/SequencedCollection"), (1, u "iterator"), (0, u "()Ljava/util/Iterator;")] 126

def k6m0 : Method := { name := "size", desc := "()I", sig := { parameters := [], returnType := some .int }, accessFlags := 1025, code := none }
def k6m1 : Method := { name := "iterator", desc := "()Ljava/util/Iterator;", sig := { parameters := [], returnType := some (.object s10_) }, accessFlags := 1025, code := none }
def k6m2 : Method := { name := "get", desc := "(I)Ljava/lang/Object;", sig := { parameters := [.int], returnType := some (.object "java/lang/Object") }, accessFlags := 1025, code := none }
/-- java/util/List -/
def k6 : Class := { plain s11_ (some 0) with
  accessFlags := 1537
  interfaces := #[5]
  cf := some (fileOf pool6 8 #[] #[{ accessFlags := 1025, nameIndex := 79, descriptorIndex := 80, attributes := #[] }, { accessFlags := 1025, nameIndex := 123, descriptorIndex := 124, attributes := #[] }, { accessFlags := 1025, nameIndex := 75, descriptorIndex := 76, attributes := #[] }] 1537 103 #[120] #[])
  fields := #[]
  methods := #[k6m0, k6m1, k6m2]
  instanceTypes := #[]
  staticTypes := #[]
  resolved := Array.replicate 251 none
  statics := none }

def pool7 : Array CpInfo := pool [(1, .methodref 2 3), (0, .class_ 4), (0, .nameAndType 5 6), (0, u "java/util/AbstractCollection"), (0, u "<init>"), (0, u "()V"), (0, .fieldref 8 9), (0, .class_ 10), (0, .nameAndType 11 12), (0, u s7_), (0, u "modCount"), (0, u "I"), (64, .class_ 78), (0, u "java/util/AbstractList$Itr"), (3, .class_ 83), (0, u "java/util/AbstractList$ListItr"), (9, .class_ 94), (0, u "java/util/AbstractList$RandomAccessSubList"), (3, .class_ 99), (0, u "java/util/AbstractList$SubList"), (33, .class_ 134), (0, u s11_), (73, .class_ 209), (0, u "java/util/AbstractList$SubList$1"), (0, .class_ 211), (0, u "java/util/AbstractList$RandomAccessSpliterator")] 6

def k7c0 : Code := { maxStack := 2, maxLocals := 1, code := jdk_39_method_1_code, exceptionTable := #[], attributes := #[] }
def k7m0 : Method := { name := "<init>", desc := "()V", sig := { parameters := [], returnType := none }, accessFlags := 4, code := some k7c0 }
/-- java/util/AbstractList -/
def k7 : Class := { plain s7_ (some 4) with
  accessFlags := 1057
  interfaces := #[6]
  cf := some (fileOf pool7 8 #[.nestMembers #[93, 98, 208, 210, 82, 77]] #[{ accessFlags := 4, nameIndex := 5, descriptorIndex := 6, attributes := #[] }] 1057 2 #[133] #[{ accessFlags := 132, nameIndex := 11, descriptorIndex := 12, attributes := #[] }])
  fields := #[{ name := "modCount", type := .int, accessFlags := 132, slot := 0, constantValue := 0 }]
  methods := #[k7m0]
  instanceTypes := #[.int]
  staticTypes := #[]
  resolved := Array.replicate 218 none
  statics := none }

def pool8 : Array CpInfo := pool [(1, .class_ 2), (0, u "java/util/RandomAccess"), (0, .class_ 4), (0, u "java/lang/Object")] 2

/-- java/util/RandomAccess -/
def k8 : Class := { plain "java/util/RandomAccess" (some 0) with
  accessFlags := 1537
  interfaces := #[]
  cf := some (fileOf pool8 1 #[] #[] 1537 3 #[] #[])
  fields := #[]
  methods := #[]
  instanceTypes := #[]
  staticTypes := #[]
  resolved := Array.replicate 7 none
  statics := none }

def pool9 : Array CpInfo := pool [(1, .class_ 2), (0, u "java/lang/Cloneable"), (0, .class_ 4), (0, u "java/lang/Object")] 2

/-- java/lang/Cloneable -/
def k9 : Class := { plain "java/lang/Cloneable" (some 0) with
  accessFlags := 1537
  interfaces := #[]
  cf := some (fileOf pool9 1 #[] #[] 1537 3 #[] #[])
  fields := #[]
  methods := #[]
  instanceTypes := #[]
  staticTypes := #[]
  resolved := Array.replicate 7 none
  statics := none }

def pool10 : Array CpInfo := pool [(1, .class_ 2), (0, u "java/io/Serializable"), (0, .class_ 4), (0, u "java/lang/Object")] 2

/-- java/io/Serializable -/
def k10 : Class := { plain "java/io/Serializable" (some 0) with
  accessFlags := 1537
  interfaces := #[]
  cf := some (fileOf pool10 1 #[] #[] 1537 3 #[] #[])
  fields := #[]
  methods := #[]
  instanceTypes := #[]
  staticTypes := #[]
  resolved := Array.replicate 7 none
  statics := none }

def pool11 : Array CpInfo := pool [(1, .methodref 2 3), (0, .class_ 4), (0, .nameAndType 5 6), (0, u s7_), (0, u "<init>"), (0, u "()V"), (0, .class_ 8), (0, u "java/lang/Object"), (0, .fieldref 10 11), (0, .class_ 12), (0, .nameAndType 13 14), (0, u s9_), (0, u "elementData"), (0, u "[Ljava/lang/Object;"), (2, u "EMPTY_ELEMENTDATA"), (21, .fieldref 10 40), (0, .nameAndType 41 14), (0, u "DEFAULTCAPACITY_EMPTY_ELEMENTDATA"), (5, u "()[Ljava/lang/Object;"), (0, .fieldref 10 49), (0, .nameAndType 50 51), (0, u "size"), (0, u "I"), (11, .fieldref 10 64), (0, .nameAndType 65 51), (0, u "modCount"), (3, .methodref 10 70), (0, .nameAndType 71 72), (0, u "grow"), (0, u "(I)[Ljava/lang/Object;"), (6, .methodref 80 81), (0, .class_ 82), (0, .nameAndType 83 84), (0, u "java/lang/Math"), (0, u "max"), (0, u "(II)I"), (11, u "(Ljava/lang/Object;)Z"), (21, .methodref 119 120), (0, .class_ 121), (0, .nameAndType 122 84), (0, u "java/util/Objects"), (0, u "checkIndex"), (0, .methodref 10 124), (0, .nameAndType 13 125), (0, u "(I)Ljava/lang/Object;"), (3, .methodref 10 130), (0, .nameAndType 71 47), (0, .methodref 10 132), (0, .nameAndType 133 134), (0, u "add"), (0, u "(Ljava/lang/Object;[Ljava/lang/Object;I)V"), (13, .class_ 149), (0, u s11_), (16, u "iterator"), (0, u "()Ljava/util/Iterator;"), (18, u "()I"), (75, .class_ 263), (0, u "java/util/ArrayList$ListItr"), (3, .class_ 268), (0, u s6_), (0, .methodref 267 270), (0, .nameAndType 5 271), (0, u "(Ljava/util/ArrayList;)V"), (4, .class_ 277), (0, u "java/util/ArrayList$SubList"), (12, .class_ 291), (0, u "java/util/ArrayList$ArrayListSpliterator"), (37, .class_ 330), (0, u "java/util/RandomAccess"), (0, .class_ 332), (0, u "java/lang/Cloneable"), (0, .class_ 334), (0, u "java/io/Serializable"), (0, u "serialVersionUID"), (0, u "J"), (3, u "DEFAULT_CAPACITY"), (40, u "get"), (118, .class_ 501), (0, u "java/util/ArrayList$SubList$2"), (0, .class_ 503), (0, u "java/util/ArrayList$SubList$1")] 5

def k11c0 : Code := { maxStack := 2, maxLocals := 1, code := jdk_38_method_2_code, exceptionTable := #[], attributes := #[] }
def k11m0 : Method := { name := "<init>", desc := "()V", sig := { parameters := [], returnType := none }, accessFlags := 1, code := some k11c0 }
def k11c1 : Code := { maxStack := 4, maxLocals := 4, code := jdk_38_method_6_code, exceptionTable := #[], attributes := #[] }
def k11m1 : Method := { name := "grow", desc := "(I)[Ljava/lang/Object;", sig := { parameters := [.int], returnType := some (.array (.object "java/lang/Object")) }, accessFlags := 2, code := some k11c1 }
def k11c2 : Code := { maxStack := 3, maxLocals := 1, code := jdk_38_method_7_code, exceptionTable := #[], attributes := #[] }
def k11m2 : Method := { name := "grow", desc := "()[Ljava/lang/Object;", sig := { parameters := [], returnType := some (.array (.object "java/lang/Object")) }, accessFlags := 2, code := some k11c2 }
def k11c3 : Code := { maxStack := 1, maxLocals := 1, code := jdk_38_method_8_code, exceptionTable := #[], attributes := #[] }
def k11m3 : Method := { name := "size", desc := "()I", sig := { parameters := [], returnType := some .int }, accessFlags := 1, code := some k11c3 }
def k11c4 : Code := { maxStack := 2, maxLocals := 2, code := jdk_38_method_18_code, exceptionTable := #[], attributes := #[] }
def k11m4 : Method := { name := "elementData", desc := "(I)Ljava/lang/Object;", sig := { parameters := [.int], returnType := some (.object "java/lang/Object") }, accessFlags := 0, code := some k11c4 }
def k11c5 : Code := { maxStack := 2, maxLocals := 2, code := jdk_38_method_20_code, exceptionTable := #[], attributes := #[] }
def k11m5 : Method := { name := "get", desc := "(I)Ljava/lang/Object;", sig := { parameters := [.int], returnType := some (.object "java/lang/Object") }, accessFlags := 1, code := some k11c5 }
def k11c6 : Code := { maxStack := 3, maxLocals := 4, code := jdk_38_method_24_code, exceptionTable := #[], attributes := #[] }
def k11m6 : Method := { name := "add", desc := "(Ljava/lang/Object;[Ljava/lang/Object;I)V", sig := { parameters := [(.object "java/lang/Object"), (.array (.object "java/lang/Object")), .int], returnType := none }, accessFlags := 2, code := some k11c6 }
def k11c7 : Code := { maxStack := 4, maxLocals := 2, code := jdk_38_method_25_code, exceptionTable := #[], attributes := #[] }
def k11m7 : Method := { name := "add", desc := "(Ljava/lang/Object;)Z", sig := { parameters := [(.object "java/lang/Object")], returnType := some .boolean }, accessFlags := 1, code := some k11c7 }
def k11c8 : Code := { maxStack := 3, maxLocals := 1, code := jdk_38_method_55_code, exceptionTable := #[], attributes := #[] }
def k11m8 : Method := { name := "iterator", desc := "()Ljava/util/Iterator;", sig := { parameters := [], returnType := some (.object s10_) }, accessFlags := 1, code := some k11c8 }
/-- java/util/ArrayList -/
def k11 : Class := { plain s9_ (some 7) with
  accessFlags := 33
  interfaces := #[6, 8, 9, 10]
  cf := some (fileOf pool11 10 #[.nestMembers #[290, 276, 500, 502, 262, 267]] #[{ accessFlags := 1, nameIndex := 5, descriptorIndex := 6, attributes := #[] }, { accessFlags := 2, nameIndex := 71, descriptorIndex := 72, attributes := #[] }, { accessFlags := 2, nameIndex := 71, descriptorIndex := 47, attributes := #[] }, { accessFlags := 1, nameIndex := 50, descriptorIndex := 186, attributes := #[] }, { accessFlags := 0, nameIndex := 13, descriptorIndex := 125, attributes := #[] }, { accessFlags := 1, nameIndex := 381, descriptorIndex := 125, attributes := #[] }, { accessFlags := 2, nameIndex := 133, descriptorIndex := 134, attributes := #[] }, { accessFlags := 1, nameIndex := 133, descriptorIndex := 96, attributes := #[] }, { accessFlags := 1, nameIndex := 166, descriptorIndex := 167, attributes := #[] }] 33 2 #[148, 329, 331, 333] #[{ accessFlags := 26, nameIndex := 335, descriptorIndex := 336, attributes := #[] }, { accessFlags := 26, nameIndex := 340, descriptorIndex := 51, attributes := #[] }, { accessFlags := 26, nameIndex := 17, descriptorIndex := 14, attributes := #[] }, { accessFlags := 26, nameIndex := 41, descriptorIndex := 14, attributes := #[] }, { accessFlags := 128, nameIndex := 13, descriptorIndex := 14, attributes := #[] }, { accessFlags := 2, nameIndex := 50, descriptorIndex := 51, attributes := #[] }])
  fields := #[{ name := "serialVersionUID", type := .long, accessFlags := 26, slot := 0, constantValue := 0 }, { name := "DEFAULT_CAPACITY", type := .int, accessFlags := 26, slot := 1, constantValue := 0 }, { name := "EMPTY_ELEMENTDATA", type := (.array (.object "java/lang/Object")), accessFlags := 26, slot := 2, constantValue := 0 }, { name := "DEFAULTCAPACITY_EMPTY_ELEMENTDATA", type := (.array (.object "java/lang/Object")), accessFlags := 26, slot := 3, constantValue := 0 }, { name := "elementData", type := (.array (.object "java/lang/Object")), accessFlags := 128, slot := 1, constantValue := 0 }, { name := "size", type := .int, accessFlags := 2, slot := 2, constantValue := 0 }]
  methods := #[k11m0, k11m1, k11m2, k11m3, k11m4, k11m5, k11m6, k11m7, k11m8]
  instanceTypes := #[.int, (.array (.object "java/lang/Object")), .int]
  staticTypes := #[.long, .int, (.array (.object "java/lang/Object")), (.array (.object "java/lang/Object"))]
  resolved := Array.replicate 509 none
  statics := some 0 }

def pool12 : Array CpInfo := pool [(1, .class_ 2), (0, u "java/lang/Math"), (1, .class_ 6), (1, u "java/lang/Object"), (0, u "<init>"), (0, u "()V"), (89, .class_ 100), (1, u "java/lang/Math$RandomNumberGeneratorHolder"), (71, u "negativeZeroFloatBits"), (0, u "J"), (2, u "negativeZeroDoubleBits"), (21, u "max"), (2, u "min"), (43, u "$assertionsDisabled"), (0, u "Z"), (88, u "(II)I"), (2, u "twoToTheDoubleScaleDown"), (0, u "D"), (4, u "twoToTheDoubleScaleUp"), (9, u "E"), (3, u "PI"), (2, u "TAU"), (2, u "DEGREES_TO_RADIANS"), (0, u "RADIANS_TO_DEGREES")] 94

def k12m0 : Method := { name := "<init>", desc := "()V", sig := { parameters := [], returnType := none }, accessFlags := 2, code := none }
def k12c1 : Code := { maxStack := 2, maxLocals := 2, code := jdk_29_method_65_code, exceptionTable := #[], attributes := #[] }
def k12m1 : Method := { name := "max", desc := "(II)I", sig := { parameters := [.int, .int], returnType := some .int }, accessFlags := 9, code := some k12c1 }
def k12c2 : Code := { maxStack := 2, maxLocals := 2, code := jdk_29_method_69_code, exceptionTable := #[], attributes := #[] }
def k12m2 : Method := { name := "min", desc := "(II)I", sig := { parameters := [.int, .int], returnType := some .int }, accessFlags := 9, code := some k12c2 }
/-- java/lang/Math -/
def k12 : Class := { plain "java/lang/Math" (some 0) with
  accessFlags := 49
  interfaces := #[]
  cf := some (fileOf pool12 1 #[.nestMembers #[98]] #[{ accessFlags := 2, nameIndex := 7, descriptorIndex := 8, attributes := #[] }, { accessFlags := 9, nameIndex := 198, descriptorIndex := 335, attributes := #[] }, { accessFlags := 9, nameIndex := 201, descriptorIndex := 335, attributes := #[] }] 49 4 #[] #[{ accessFlags := 25, nameIndex := 354, descriptorIndex := 339, attributes := #[] }, { accessFlags := 25, nameIndex := 358, descriptorIndex := 339, attributes := #[] }, { accessFlags := 25, nameIndex := 361, descriptorIndex := 339, attributes := #[] }, { accessFlags := 26, nameIndex := 364, descriptorIndex := 339, attributes := #[] }, { accessFlags := 26, nameIndex := 365, descriptorIndex := 339, attributes := #[] }, { accessFlags := 26, nameIndex := 172, descriptorIndex := 173, attributes := #[] }, { accessFlags := 26, nameIndex := 176, descriptorIndex := 173, attributes := #[] }, { accessFlags := 8, nameIndex := 344, descriptorIndex := 339, attributes := #[] }, { accessFlags := 8, nameIndex := 338, descriptorIndex := 339, attributes := #[] }, { accessFlags := 4120, nameIndex := 245, descriptorIndex := 246, attributes := #[] }])
  fields := #[{ name := "E", type := .double, accessFlags := 25, slot := 0, constantValue := 0 }, { name := "PI", type := .double, accessFlags := 25, slot := 1, constantValue := 0 }, { name := "TAU", type := .double, accessFlags := 25, slot := 2, constantValue := 0 }, { name := "DEGREES_TO_RADIANS", type := .double, accessFlags := 26, slot := 3, constantValue := 0 }, { name := "RADIANS_TO_DEGREES", type := .double, accessFlags := 26, slot := 4, constantValue := 0 }, { name := "negativeZeroFloatBits", type := .long, accessFlags := 26, slot := 5, constantValue := 0 }, { name := "negativeZeroDoubleBits", type := .long, accessFlags := 26, slot := 6, constantValue := 0 }, { name := "twoToTheDoubleScaleUp", type := .double, accessFlags := 8, slot := 7, constantValue := 0 }, { name := "twoToTheDoubleScaleDown", type := .double, accessFlags := 8, slot := 8, constantValue := 0 }, { name := "$assertionsDisabled", type := .boolean, accessFlags := 4120, slot := 9, constantValue := 0 }]
  methods := #[k12m0, k12m1, k12m2]
  instanceTypes := #[]
  staticTypes := #[.double, .double, .double, .double, .double, .long, .long, .double, .double, .boolean]
  resolved := Array.replicate 460 none
  statics := none }

def pool13 : Array CpInfo := pool [(1, .methodref 2 3), (0, .class_ 4), (0, .nameAndType 5 6), (0, u "java/lang/Object"), (0, u "<init>"), (0, u "()V"), (0, .class_ 8), (0, u "java/lang/Record")] 13

def k13c0 : Code := { maxStack := 1, maxLocals := 1, code := jdk_30_method_1_code, exceptionTable := #[], attributes := #[] }
def k13m0 : Method := { name := "<init>", desc := "()V", sig := { parameters := [], returnType := none }, accessFlags := 4, code := some k13c0 }
/-- java/lang/Record -/
def k13 : Class := { plain "java/lang/Record" (some 0) with
  accessFlags := 1057
  interfaces := #[]
  cf := some (fileOf pool13 7 #[] #[{ accessFlags := 4, nameIndex := 5, descriptorIndex := 6, attributes := #[] }] 1057 2 #[] #[])
  fields := #[]
  methods := #[k13m0]
  instanceTypes := #[]
  staticTypes := #[]
  resolved := Array.replicate 22 none
  statics := none }

def pool14 : Array CpInfo := pool [(1, .methodref 2 3), (0, .class_ 4), (0, .nameAndType 5 6), (0, u "java/lang/Record"), (0, u "<init>"), (0, u "()V"), (0, .fieldref 8 9), (0, .class_ 10), (0, .nameAndType 11 12), (0, u s1_), (0, u "id"), (0, u "Ljava/lang/String;"), (0, .fieldref 8 14), (0, .nameAndType 15 16), (0, u "from"), (0, u "I"), (0, .fieldref 8 18), (0, .nameAndType 19 16), (0, u "to"), (0, .fieldref 8 21), (0, .nameAndType 22 23), (0, u "length"), (0, u "D"), (0, .fieldref 8 25), (0, .nameAndType 26 23), (0, u "diameter"), (0, .fieldref 8 28), (0, .nameAndType 29 23), (0, u "roughness"), (0, .fieldref 8 31), (0, .nameAndType 32 33), (0, u "open"), (0, u "Z"), (12, u "(Ljava/lang/String;IIDDDZ)V"), (4, u "()I"), (2, u "()Z"), (3, .class_ 59), (0, u s5_)] 25

def k14c0 : Code := { maxStack := 3, maxLocals := 11, code := prog_35_method_1_code, exceptionTable := #[], attributes := #[] }
def k14m0 : Method := { name := "<init>", desc := "(Ljava/lang/String;IIDDDZ)V", sig := { parameters := [(.object "java/lang/String"), .int, .int, .double, .double, .double, .boolean], returnType := none }, accessFlags := 0, code := some k14c0 }
def k14c1 : Code := { maxStack := 1, maxLocals := 1, code := prog_35_method_6_code, exceptionTable := #[], attributes := #[] }
def k14m1 : Method := { name := "from", desc := "()I", sig := { parameters := [], returnType := some .int }, accessFlags := 1, code := some k14c1 }
def k14c2 : Code := { maxStack := 1, maxLocals := 1, code := prog_35_method_7_code, exceptionTable := #[], attributes := #[] }
def k14m2 : Method := { name := "to", desc := "()I", sig := { parameters := [], returnType := some .int }, accessFlags := 1, code := some k14c2 }
def k14c3 : Code := { maxStack := 1, maxLocals := 1, code := prog_35_method_11_code, exceptionTable := #[], attributes := #[] }
def k14m3 : Method := { name := "open", desc := "()Z", sig := { parameters := [], returnType := some .boolean }, accessFlags := 1, code := some k14c3 }
/-- com/example/hydromeme/hydromeme/Network$Pipe -/
def k14 : Class := { plain s1_ (some 13) with
  accessFlags := 48
  interfaces := #[]
  cf := some (fileOf pool14 8 #[.nestHost 58] #[{ accessFlags := 0, nameIndex := 5, descriptorIndex := 46, attributes := #[] }, { accessFlags := 1, nameIndex := 15, descriptorIndex := 51, attributes := #[] }, { accessFlags := 1, nameIndex := 19, descriptorIndex := 51, attributes := #[] }, { accessFlags := 1, nameIndex := 32, descriptorIndex := 54, attributes := #[] }] 48 2 #[] #[{ accessFlags := 18, nameIndex := 11, descriptorIndex := 12, attributes := #[] }, { accessFlags := 18, nameIndex := 15, descriptorIndex := 16, attributes := #[] }, { accessFlags := 18, nameIndex := 19, descriptorIndex := 16, attributes := #[] }, { accessFlags := 18, nameIndex := 22, descriptorIndex := 23, attributes := #[] }, { accessFlags := 18, nameIndex := 26, descriptorIndex := 23, attributes := #[] }, { accessFlags := 18, nameIndex := 29, descriptorIndex := 23, attributes := #[] }, { accessFlags := 18, nameIndex := 32, descriptorIndex := 33, attributes := #[] }])
  fields := #[{ name := "id", type := (.object "java/lang/String"), accessFlags := 18, slot := 0, constantValue := 0 }, { name := "from", type := .int, accessFlags := 18, slot := 1, constantValue := 0 }, { name := "to", type := .int, accessFlags := 18, slot := 2, constantValue := 0 }, { name := "length", type := .double, accessFlags := 18, slot := 3, constantValue := 0 }, { name := "diameter", type := .double, accessFlags := 18, slot := 4, constantValue := 0 }, { name := "roughness", type := .double, accessFlags := 18, slot := 5, constantValue := 0 }, { name := "open", type := .boolean, accessFlags := 18, slot := 6, constantValue := 0 }]
  methods := #[k14m0, k14m1, k14m2, k14m3]
  instanceTypes := #[(.object "java/lang/String"), .int, .int, .double, .double, .double, .boolean]
  staticTypes := #[]
  resolved := Array.replicate 85 none
  statics := none }

def pool15 : Array CpInfo := pool [(1, .methodref 2 3), (0, .class_ 4), (0, .nameAndType 5 6), (0, u "java/lang/Object"), (0, u "<init>"), (0, u "()V"), (0, .methodref 8 9), (0, .class_ 10), (0, .nameAndType 11 12), (0, u s5_), (0, u "junctions"), (0, u "()Ljava/util/List;"), (0, .interfaceMethodref 14 15), (0, .class_ 16), (0, .nameAndType 17 18), (0, u s11_), (0, u "size"), (0, u "()I"), (0, .methodref 8 20), (0, .nameAndType 21 12), (0, u "reservoirs"), (0, .methodref 23 24), (0, .class_ 25), (0, .nameAndType 26 27), (0, u s4_), (0, u "incidence"), (0, u "(Lcom/example/hydromeme/hydromeme/Network;I)[[I"), (0, .methodref 8 29), (0, .nameAndType 30 12), (0, u "pipes"), (0, .class_ 32), (0, u s8_), (0, .methodref 31 3), (0, .methodref 35 36), (0, .class_ 37), (0, .nameAndType 38 39), (0, u "java/lang/Integer"), (0, u "valueOf"), (0, u "(I)Ljava/lang/Integer;"), (0, .methodref 31 41), (0, .nameAndType 42 43), (0, u "add"), (0, u "(Ljava/lang/Object;)Z"), (0, .methodref 31 45), (0, .nameAndType 46 47), (0, u "isEmpty"), (0, u "()Z"), (0, .methodref 31 49), (0, .nameAndType 50 51), (0, u "remove"), (0, u "()Ljava/lang/Object;"), (0, .methodref 35 53), (0, .nameAndType 54 18), (0, u "intValue"), (0, .methodref 23 56), (0, .nameAndType 57 58), (0, u "remaining"), (0, u "([I[Z)I"), (0, .methodref 23 60), (0, .nameAndType 61 62), (0, u "otherEnd"), (0, u "(Lcom/example/hydromeme/hydromeme/Network;II)I"), (0, .methodref 64 65), (0, .class_ 66), (0, .nameAndType 67 68), (0, u "java/util/Arrays"), (0, u "copyOf"), (0, u "([II)[I"), (0, .fieldref 23 70), (0, .nameAndType 71 72), (0, u "pendantPipes"), (0, u "[I"), (0, .fieldref 23 74), (0, .nameAndType 75 72), (0, u "leaves"), (0, .fieldref 23 77), (0, .nameAndType 78 72), (0, u "roots"), (0, .fieldref 23 80), (0, .nameAndType 81 72), (0, u "unknowns"), (0, .methodref 64 83), (0, .nameAndType 84 85), (0, u "fill"), (0, u "([II)V"), (0, .fieldref 23 87), (0, .nameAndType 88 72), (0, u "branchJunctions"), (0, .methodref 90 91), (0, .class_ 92), (0, .nameAndType 93 51), (0, u "[Z"), (0, u "clone"), (0, .fieldref 23 95), (0, .nameAndType 96 72), (0, u "chainStarts"), (0, .fieldref 23 98), (0, .nameAndType 99 72), (0, u "chainBounds"), (0, .fieldref 23 101), (0, .nameAndType 102 72), (0, u "chainPipes"), (0, .fieldref 23 104), (0, .nameAndType 105 72), (0, u "chainNodes"), (0, .fieldref 23 107), (0, .nameAndType 108 109), (0, u "cutOff"), (0, u "I"), (0, .interfaceMethodref 14 111), (0, .nameAndType 112 113), (0, u "iterator"), (0, u "()Ljava/util/Iterator;"), (0, .interfaceMethodref 115 116), (0, .class_ 117), (0, .nameAndType 118 47), (0, u s10_), (0, u "hasNext"), (0, .interfaceMethodref 115 120), (0, .nameAndType 121 51), (0, u "next"), (0, .class_ 123), (0, u s1_), (0, .methodref 122 125), (0, .nameAndType 126 47), (0, u "open"), (0, .methodref 122 128), (0, .nameAndType 129 18), (0, u "from"), (0, .methodref 122 131), (0, .nameAndType 132 18), (0, u "to"), (13, .class_ 72), (0, .interfaceMethodref 14 148), (0, .nameAndType 149 150), (0, u "get"), (0, u "(I)Ljava/lang/Object;"), (5, u "(Lcom/example/hydromeme/hydromeme/Network;)V"), (7, u "(I)I"), (4, u "chainEnd")] 24

def k15c0 : Code := { maxStack := 4, maxLocals := 28, code := prog_58_method_1_code, exceptionTable := #[], attributes := #[] }
def k15m0 : Method := { name := "<init>", desc := "(Lcom/example/hydromeme/hydromeme/Network;)V", sig := { parameters := [(.object s5_)], returnType := none }, accessFlags := 0, code := some k15c0 }
def k15c1 : Code := { maxStack := 4, maxLocals := 2, code := prog_58_method_8_code, exceptionTable := #[], attributes := #[] }
def k15m1 : Method := { name := "chainEnd", desc := "(I)I", sig := { parameters := [.int], returnType := some .int }, accessFlags := 0, code := some k15c1 }
def k15c2 : Code := { maxStack := 6, maxLocals := 6, code := prog_58_method_16_code, exceptionTable := #[], attributes := #[] }
def k15m2 : Method := { name := "incidence", desc := "(Lcom/example/hydromeme/hydromeme/Network;I)[[I", sig := { parameters := [(.object s5_), .int], returnType := some (.array (.array .int)) }, accessFlags := 10, code := some k15c2 }
def k15c3 : Code := { maxStack := 3, maxLocals := 6, code := prog_58_method_17_code, exceptionTable := #[], attributes := #[] }
def k15m3 : Method := { name := "remaining", desc := "([I[Z)I", sig := { parameters := [(.array .int), (.array .boolean)], returnType := some .int }, accessFlags := 10, code := some k15c3 }
def k15c4 : Code := { maxStack := 2, maxLocals := 4, code := prog_58_method_18_code, exceptionTable := #[], attributes := #[] }
def k15m4 : Method := { name := "otherEnd", desc := "(Lcom/example/hydromeme/hydromeme/Network;II)I", sig := { parameters := [(.object s5_), .int, .int], returnType := some .int }, accessFlags := 10, code := some k15c4 }
/-- com/example/hydromeme/hydromeme/Topology -/
def k15 : Class := { plain s4_ (some 0) with
  accessFlags := 48
  interfaces := #[]
  cf := some (fileOf pool15 23 #[] #[{ accessFlags := 0, nameIndex := 5, descriptorIndex := 156, attributes := #[] }, { accessFlags := 0, nameIndex := 169, descriptorIndex := 164, attributes := #[] }, { accessFlags := 10, nameIndex := 26, descriptorIndex := 27, attributes := #[] }, { accessFlags := 10, nameIndex := 57, descriptorIndex := 58, attributes := #[] }, { accessFlags := 10, nameIndex := 61, descriptorIndex := 62, attributes := #[] }] 48 2 #[] #[{ accessFlags := 18, nameIndex := 71, descriptorIndex := 72, attributes := #[] }, { accessFlags := 18, nameIndex := 75, descriptorIndex := 72, attributes := #[] }, { accessFlags := 18, nameIndex := 78, descriptorIndex := 72, attributes := #[] }, { accessFlags := 18, nameIndex := 96, descriptorIndex := 72, attributes := #[] }, { accessFlags := 18, nameIndex := 99, descriptorIndex := 72, attributes := #[] }, { accessFlags := 18, nameIndex := 102, descriptorIndex := 72, attributes := #[] }, { accessFlags := 18, nameIndex := 105, descriptorIndex := 72, attributes := #[] }, { accessFlags := 18, nameIndex := 81, descriptorIndex := 72, attributes := #[] }, { accessFlags := 18, nameIndex := 88, descriptorIndex := 72, attributes := #[] }, { accessFlags := 18, nameIndex := 108, descriptorIndex := 109, attributes := #[] }])
  fields := #[{ name := "pendantPipes", type := (.array .int), accessFlags := 18, slot := 0, constantValue := 0 }, { name := "leaves", type := (.array .int), accessFlags := 18, slot := 1, constantValue := 0 }, { name := "roots", type := (.array .int), accessFlags := 18, slot := 2, constantValue := 0 }, { name := "chainStarts", type := (.array .int), accessFlags := 18, slot := 3, constantValue := 0 }, { name := "chainBounds", type := (.array .int), accessFlags := 18, slot := 4, constantValue := 0 }, { name := "chainPipes", type := (.array .int), accessFlags := 18, slot := 5, constantValue := 0 }, { name := "chainNodes", type := (.array .int), accessFlags := 18, slot := 6, constantValue := 0 }, { name := "unknowns", type := (.array .int), accessFlags := 18, slot := 7, constantValue := 0 }, { name := "branchJunctions", type := (.array .int), accessFlags := 18, slot := 8, constantValue := 0 }, { name := "cutOff", type := .int, accessFlags := 18, slot := 9, constantValue := 0 }]
  methods := #[k15m0, k15m1, k15m2, k15m3, k15m4]
  instanceTypes := #[(.array .int), (.array .int), (.array .int), (.array .int), (.array .int), (.array .int), (.array .int), (.array .int), (.array .int), .int]
  staticTypes := #[]
  resolved := Array.replicate 194 none
  statics := none }

def pool16 : Array CpInfo := pool [(1, .methodref 2 3), (0, .class_ 4), (0, .nameAndType 5 6), (0, u "java/lang/Record"), (0, u "<init>"), (0, u "()V"), (0, .fieldref 8 9), (0, .class_ 10), (0, .nameAndType 11 12), (0, u s5_), (0, u "junctions"), (0, u "Ljava/util/List;"), (0, .fieldref 8 14), (0, .nameAndType 15 12), (0, u "reservoirs"), (0, .fieldref 8 17), (0, .nameAndType 18 12), (0, u "pipes"), (0, .fieldref 8 20), (0, .nameAndType 21 22), (0, u "flowUnits"), (0, u "Lcom/example/hydromeme/hydromeme/FlowUnits;"), (0, .fieldref 8 24), (0, .nameAndType 25 26), (0, u "headLoss"), (0, u "Lcom/example/hydromeme/hydromeme/HeadLoss;"), (0, .fieldref 8 28), (0, .nameAndType 29 30), (0, u "viscosity"), (0, u "D"), (17, .class_ 49), (0, u s1_), (64, u "(Ljava/util/List;Ljava/util/List;Ljava/util/List;Lcom/example/hydromeme/hydromeme/FlowUnits;Lcom/example/hydromeme/hydromeme/HeadLoss;D)V"), (10, u "()Ljava/util/List;"), (9, .class_ 136), (0, u "com/example/hydromeme/hydromeme/Network$Reservoir"), (0, .class_ 138), (0, u "com/example/hydromeme/hydromeme/Network$Junction")] 26

def k16c0 : Code := { maxStack := 3, maxLocals := 8, code := prog_33_method_1_code, exceptionTable := #[], attributes := #[] }
def k16m0 : Method := { name := "<init>", desc := "(Ljava/util/List;Ljava/util/List;Ljava/util/List;Lcom/example/hydromeme/hydromeme/FlowUnits;Lcom/example/hydromeme/hydromeme/HeadLoss;D)V", sig := { parameters := [(.object s11_), (.object s11_), (.object s11_), (.object s2_), (.object s3_), .double], returnType := none }, accessFlags := 0, code := some k16c0 }
def k16c1 : Code := { maxStack := 1, maxLocals := 1, code := prog_33_method_6_code, exceptionTable := #[], attributes := #[] }
def k16m1 : Method := { name := "junctions", desc := "()Ljava/util/List;", sig := { parameters := [], returnType := some (.object s11_) }, accessFlags := 1, code := some k16c1 }
def k16c2 : Code := { maxStack := 1, maxLocals := 1, code := prog_33_method_7_code, exceptionTable := #[], attributes := #[] }
def k16m2 : Method := { name := "reservoirs", desc := "()Ljava/util/List;", sig := { parameters := [], returnType := some (.object s11_) }, accessFlags := 1, code := some k16c2 }
def k16c3 : Code := { maxStack := 1, maxLocals := 1, code := prog_33_method_8_code, exceptionTable := #[], attributes := #[] }
def k16m3 : Method := { name := "pipes", desc := "()Ljava/util/List;", sig := { parameters := [], returnType := some (.object s11_) }, accessFlags := 1, code := some k16c3 }
/-- com/example/hydromeme/hydromeme/Network -/
def k16 : Class := { plain s5_ (some 13) with
  accessFlags := 48
  interfaces := #[]
  cf := some (fileOf pool16 8 #[.nestMembers #[48, 135, 137]] #[{ accessFlags := 0, nameIndex := 5, descriptorIndex := 114, attributes := #[] }, { accessFlags := 1, nameIndex := 11, descriptorIndex := 125, attributes := #[] }, { accessFlags := 1, nameIndex := 15, descriptorIndex := 125, attributes := #[] }, { accessFlags := 1, nameIndex := 18, descriptorIndex := 125, attributes := #[] }] 48 2 #[] #[{ accessFlags := 18, nameIndex := 11, descriptorIndex := 12, attributes := #[] }, { accessFlags := 18, nameIndex := 15, descriptorIndex := 12, attributes := #[] }, { accessFlags := 18, nameIndex := 18, descriptorIndex := 12, attributes := #[] }, { accessFlags := 18, nameIndex := 21, descriptorIndex := 22, attributes := #[] }, { accessFlags := 18, nameIndex := 25, descriptorIndex := 26, attributes := #[] }, { accessFlags := 18, nameIndex := 29, descriptorIndex := 30, attributes := #[] }])
  fields := #[{ name := "junctions", type := (.object s11_), accessFlags := 18, slot := 0, constantValue := 0 }, { name := "reservoirs", type := (.object s11_), accessFlags := 18, slot := 1, constantValue := 0 }, { name := "pipes", type := (.object s11_), accessFlags := 18, slot := 2, constantValue := 0 }, { name := "flowUnits", type := (.object s2_), accessFlags := 18, slot := 3, constantValue := 0 }, { name := "headLoss", type := (.object s3_), accessFlags := 18, slot := 4, constantValue := 0 }, { name := "viscosity", type := .double, accessFlags := 18, slot := 5, constantValue := 0 }]
  methods := #[k16m0, k16m1, k16m2, k16m3]
  instanceTypes := #[(.object s11_), (.object s11_), (.object s11_), (.object s2_), (.object s3_), .double]
  staticTypes := #[]
  resolved := Array.replicate 165 none
  statics := none }

def pool17 : Array CpInfo := pool [(16, .class_ 18), (1, u s10_), (0, u "hasNext"), (0, u "()Z"), (2, u "next"), (0, u "()Ljava/lang/Object;"), (6, .class_ 32), (0, u "java/lang/Object")] 20

def k17m0 : Method := { name := "hasNext", desc := "()Z", sig := { parameters := [], returnType := some .boolean }, accessFlags := 1025, code := none }
def k17m1 : Method := { name := "next", desc := "()Ljava/lang/Object;", sig := { parameters := [], returnType := some (.object "java/lang/Object") }, accessFlags := 1025, code := none }
/-- java/util/Iterator -/
def k17 : Class := { plain s10_ (some 0) with
  accessFlags := 1537
  interfaces := #[]
  cf := some (fileOf pool17 16 #[] #[{ accessFlags := 1025, nameIndex := 19, descriptorIndex := 20, attributes := #[] }, { accessFlags := 1025, nameIndex := 23, descriptorIndex := 24, attributes := #[] }] 1537 31 #[] #[])
  fields := #[]
  methods := #[k17m0, k17m1]
  instanceTypes := #[]
  staticTypes := #[]
  resolved := Array.replicate 53 none
  statics := none }

def pool18 : Array CpInfo := pool [(1, .fieldref 2 3), (0, .class_ 4), (0, .nameAndType 5 6), (0, u s6_), (0, u "this$0"), (0, u "Ljava/util/ArrayList;"), (0, .methodref 8 9), (0, .class_ 10), (0, .nameAndType 11 12), (0, u "java/lang/Object"), (0, u "<init>"), (0, u "()V"), (0, .fieldref 2 14), (0, .nameAndType 15 16), (0, u "lastRet"), (0, u "I"), (0, .fieldref 18 19), (0, .class_ 20), (0, .nameAndType 21 16), (0, u s9_), (0, u "modCount"), (0, .fieldref 2 23), (0, .nameAndType 24 16), (0, u "expectedModCount"), (0, .fieldref 2 26), (0, .nameAndType 27 16), (0, u "cursor"), (0, .fieldref 18 29), (0, .nameAndType 30 16), (0, u "size"), (0, .methodref 2 32), (0, .nameAndType 33 12), (0, u "checkForComodification"), (3, .fieldref 18 38), (0, .nameAndType 39 40), (0, u "elementData"), (0, u "[Ljava/lang/Object;"), (28, .class_ 70), (0, u s10_), (0, u "(Ljava/util/ArrayList;)V"), (8, u "hasNext"), (0, u "()Z"), (1, u "next"), (0, u "()Ljava/lang/Object;")] 19

def k18c0 : Code := { maxStack := 2, maxLocals := 2, code := jdk_49_method_1_code, exceptionTable := #[], attributes := #[] }
def k18m0 : Method := { name := "<init>", desc := "(Ljava/util/ArrayList;)V", sig := { parameters := [(.object s9_)], returnType := none }, accessFlags := 0, code := some k18c0 }
def k18c1 : Code := { maxStack := 2, maxLocals := 1, code := jdk_49_method_2_code, exceptionTable := #[], attributes := #[] }
def k18m1 : Method := { name := "hasNext", desc := "()Z", sig := { parameters := [], returnType := some .boolean }, accessFlags := 1, code := some k18c1 }
def k18c2 : Code := { maxStack := 4, maxLocals := 3, code := jdk_49_method_3_code, exceptionTable := #[], attributes := #[] }
def k18m2 : Method := { name := "next", desc := "()Ljava/lang/Object;", sig := { parameters := [], returnType := some (.object "java/lang/Object") }, accessFlags := 1, code := some k18c2 }
def k18c3 : Code := { maxStack := 2, maxLocals := 1, code := jdk_49_method_6_code, exceptionTable := #[], attributes := #[] }
def k18m3 : Method := { name := "checkForComodification", desc := "()V", sig := { parameters := [], returnType := none }, accessFlags := 16, code := some k18c3 }
/-- java/util/ArrayList$Itr -/
def k18 : Class := { plain s6_ (some 0) with
  accessFlags := 32
  interfaces := #[17]
  cf := some (fileOf pool18 2 #[.nestHost 18] #[{ accessFlags := 0, nameIndex := 11, descriptorIndex := 71, attributes := #[] }, { accessFlags := 1, nameIndex := 80, descriptorIndex := 81, attributes := #[] }, { accessFlags := 1, nameIndex := 83, descriptorIndex := 84, attributes := #[] }, { accessFlags := 16, nameIndex := 33, descriptorIndex := 12, attributes := #[] }] 32 8 #[69] #[{ accessFlags := 0, nameIndex := 27, descriptorIndex := 16, attributes := #[] }, { accessFlags := 0, nameIndex := 15, descriptorIndex := 16, attributes := #[] }, { accessFlags := 0, nameIndex := 24, descriptorIndex := 16, attributes := #[] }, { accessFlags := 4112, nameIndex := 5, descriptorIndex := 6, attributes := #[] }])
  fields := #[{ name := "cursor", type := .int, accessFlags := 0, slot := 0, constantValue := 0 }, { name := "lastRet", type := .int, accessFlags := 0, slot := 1, constantValue := 0 }, { name := "expectedModCount", type := .int, accessFlags := 0, slot := 2, constantValue := 0 }, { name := "this$0", type := (.object s9_), accessFlags := 4112, slot := 3, constantValue := 0 }]
  methods := #[k18m0, k18m1, k18m2, k18m3]
  instanceTypes := #[.int, .int, .int, (.object s9_)]
  staticTypes := #[]
  resolved := Array.replicate 104 none
  statics := none }

def pool19 : Array CpInfo := pool [(2, .class_ 4), (1, u "java/lang/Object"), (0, u "<init>"), (0, u "()V"), (7, .class_ 16), (1, u "java/util/Arrays"), (57, .class_ 76), (1, u "java/util/Arrays$NaturalOrder"), (36, .class_ 115), (1, u "java/util/Arrays$LegacyMergeSort"), (1, u "Z"), (32, .methodref 151 152), (0, .class_ 153), (0, .nameAndType 154 155), (0, u "java/lang/System"), (0, u "arraycopy"), (0, u "(Ljava/lang/Object;ILjava/lang/Object;II)V"), (146, u "copyOf"), (1, .methodref 305 306), (0, .class_ 307), (0, .nameAndType 308 309), (0, u "java/lang/Math"), (0, u "min"), (0, u "(II)I"), (65, .class_ 376), (0, u "java/util/Arrays$ArrayList"), (68, u "$assertionsDisabled"), (269, u "MIN_ARRAY_SORT_GRAN"), (0, u "I"), (2, u "INSERTIONSORT_THRESHOLD"), (120, u "fill"), (4, u "([II)V"), (25, u "([II)[I"), (103, .class_ 976), (0, u "java/util/Arrays$ArrayItr")] 52

def k19m0 : Method := { name := "<init>", desc := "()V", sig := { parameters := [], returnType := none }, accessFlags := 2, code := none }
def k19c1 : Code := { maxStack := 3, maxLocals := 4, code := jdk_65_method_103_code, exceptionTable := #[], attributes := #[] }
def k19m1 : Method := { name := "fill", desc := "([II)V", sig := { parameters := [(.array .int), .int], returnType := none }, accessFlags := 9, code := some k19c1 }
def k19c2 : Code := { maxStack := 6, maxLocals := 3, code := jdk_65_method_123_code, exceptionTable := #[], attributes := #[] }
def k19m2 : Method := { name := "copyOf", desc := "([II)[I", sig := { parameters := [(.array .int), .int], returnType := some (.array .int) }, accessFlags := 9, code := some k19c2 }
/-- java/util/Arrays -/
def k19 : Class := { plain "java/util/Arrays" (some 0) with
  accessFlags := 49
  interfaces := #[]
  cf := some (fileOf pool19 14 #[.nestMembers #[975, 375, 113, 74]] #[{ accessFlags := 2, nameIndex := 5, descriptorIndex := 6, attributes := #[] }, { accessFlags := 9, nameIndex := 840, descriptorIndex := 845, attributes := #[] }, { accessFlags := 9, nameIndex := 302, descriptorIndex := 871, attributes := #[] }] 49 2 #[] #[{ accessFlags := 26, nameIndex := 715, descriptorIndex := 716, attributes := #[] }, { accessFlags := 26, nameIndex := 719, descriptorIndex := 716, attributes := #[] }, { accessFlags := 4120, nameIndex := 445, descriptorIndex := 117, attributes := #[] }])
  fields := #[{ name := "MIN_ARRAY_SORT_GRAN", type := .int, accessFlags := 26, slot := 0, constantValue := 0 }, { name := "INSERTIONSORT_THRESHOLD", type := .int, accessFlags := 26, slot := 1, constantValue := 0 }, { name := "$assertionsDisabled", type := .boolean, accessFlags := 4120, slot := 2, constantValue := 0 }]
  methods := #[k19m0, k19m1, k19m2]
  instanceTypes := #[]
  staticTypes := #[.int, .int, .boolean]
  resolved := Array.replicate 1029 none
  statics := none }

def pool20 : Array CpInfo := pool [(2, .class_ 4), (1, u "java/lang/Object"), (0, u "<init>"), (0, u "()V"), (35, .class_ 44), (1, u "java/util/Objects"), (60, .methodref 106 107), (0, .class_ 108), (0, .nameAndType 109 110), (0, u "jdk/internal/util/Preconditions"), (0, u "checkIndex"), (0, u "(IILjava/util/function/BiFunction;)I"), (60, u "(II)I")] 12

def k20m0 : Method := { name := "<init>", desc := "()V", sig := { parameters := [], returnType := none }, accessFlags := 2, code := none }
def k20c1 : Code := { maxStack := 3, maxLocals := 2, code := jdk_31_method_17_code, exceptionTable := #[], attributes := #[] }
def k20m1 : Method := { name := "checkIndex", desc := "(II)I", sig := { parameters := [.int, .int], returnType := some .int }, accessFlags := 9, code := some k20c1 }
/-- java/util/Objects -/
def k20 : Class := { plain "java/util/Objects" (some 0) with
  accessFlags := 49
  interfaces := #[]
  cf := some (fileOf pool20 42 #[] #[{ accessFlags := 2, nameIndex := 5, descriptorIndex := 6, attributes := #[] }, { accessFlags := 9, nameIndex := 109, descriptorIndex := 171, attributes := #[] }] 49 2 #[] #[])
  fields := #[]
  methods := #[k20m0, k20m1]
  instanceTypes := #[]
  staticTypes := #[]
  resolved := Array.replicate 184 none
  statics := none }

def pool21 : Array CpInfo := pool [(2, .class_ 4), (1, u "java/lang/Object"), (0, u "<init>"), (0, u "()V"), (17, .class_ 26), (1, u "jdk/internal/util/Preconditions"), (6, u "checkIndex"), (21, .class_ 56), (0, u "jdk/internal/util/Preconditions$4"), (57, .class_ 115), (0, u "jdk/internal/util/Preconditions$1"), (7, u "SIOOBE_FORMATTER"), (0, u "Ljava/util/function/BiFunction;"), (0, .class_ 126), (0, u "jdk/internal/util/Preconditions$2"), (3, u "AIOOBE_FORMATTER"), (0, .class_ 132), (0, u "jdk/internal/util/Preconditions$3"), (3, u "IOOBE_FORMATTER"), (41, u "(IILjava/util/function/BiFunction;)I")] 15

def k21m0 : Method := { name := "<init>", desc := "()V", sig := { parameters := [], returnType := none }, accessFlags := 1, code := none }
def k21c1 : Code := { maxStack := 3, maxLocals := 3, code := jdk_41_method_11_code, exceptionTable := #[], attributes := #[] }
def k21m1 : Method := { name := "checkIndex", desc := "(IILjava/util/function/BiFunction;)I", sig := { parameters := [.int, .int, (.object "java/util/function/BiFunction")], returnType := some .int }, accessFlags := 9, code := some k21c1 }
/-- jdk/internal/util/Preconditions -/
def k21 : Class := { plain "jdk/internal/util/Preconditions" (some 0) with
  accessFlags := 33
  interfaces := #[]
  cf := some (fileOf pool21 24 #[.nestMembers #[55, 131, 125, 114]] #[{ accessFlags := 1, nameIndex := 5, descriptorIndex := 6, attributes := #[] }, { accessFlags := 9, nameIndex := 33, descriptorIndex := 178, attributes := #[] }] 33 2 #[] #[{ accessFlags := 25, nameIndex := 123, descriptorIndex := 124, attributes := #[] }, { accessFlags := 25, nameIndex := 130, descriptorIndex := 124, attributes := #[] }, { accessFlags := 25, nameIndex := 136, descriptorIndex := 124, attributes := #[] }])
  fields := #[{ name := "SIOOBE_FORMATTER", type := (.object "java/util/function/BiFunction"), accessFlags := 25, slot := 0, constantValue := 0 }, { name := "AIOOBE_FORMATTER", type := (.object "java/util/function/BiFunction"), accessFlags := 25, slot := 1, constantValue := 0 }, { name := "IOOBE_FORMATTER", type := (.object "java/util/function/BiFunction"), accessFlags := 25, slot := 2, constantValue := 0 }]
  methods := #[k21m0, k21m1]
  instanceTypes := #[]
  staticTypes := #[(.object "java/util/function/BiFunction"), (.object "java/util/function/BiFunction"), (.object "java/util/function/BiFunction")]
  resolved := Array.replicate 194 none
  statics := none }

def pool22 : Array CpInfo := pool [(1, .class_ 2), (0, u "java/util/Queue"), (0, .class_ 4), (0, u "java/lang/Object"), (0, .class_ 6), (0, u "java/util/Collection")] 14

/-- java/util/Queue -/
def k22 : Class := { plain "java/util/Queue" (some 0) with
  accessFlags := 1537
  interfaces := #[3]
  cf := some (fileOf pool22 1 #[] #[] 1537 3 #[5] #[])
  fields := #[]
  methods := #[]
  instanceTypes := #[]
  staticTypes := #[]
  resolved := Array.replicate 21 none
  statics := none }

def pool23 : Array CpInfo := pool [(8, .class_ 10), (1, u "java/util/Deque"), (2, .class_ 14), (0, u "java/lang/Object"), (0, .class_ 16), (0, u "java/util/Queue"), (0, .class_ 18), (0, u "java/util/SequencedCollection")] 51

/-- java/util/Deque -/
def k23 : Class := { plain "java/util/Deque" (some 0) with
  accessFlags := 1537
  interfaces := #[22, 5]
  cf := some (fileOf pool23 8 #[] #[] 1537 13 #[15, 17] #[])
  fields := #[]
  methods := #[]
  instanceTypes := #[]
  staticTypes := #[]
  resolved := Array.replicate 70 none
  statics := none }

def pool24 : Array CpInfo := pool [(3, .fieldref 4 5), (0, .class_ 6), (0, .nameAndType 7 8), (0, u s8_), (0, u "elements"), (0, u "[Ljava/lang/Object;"), (4, u "(II)I"), (6, .fieldref 4 21), (0, .nameAndType 22 23), (0, u "tail"), (0, u "I"), (0, .fieldref 4 25), (0, .nameAndType 26 23), (0, u "head"), (12, u "<init>"), (2, .methodref 43 44), (0, .class_ 45), (0, .nameAndType 39 46), (0, u "java/util/AbstractCollection"), (0, u "()V"), (0, .class_ 48), (0, u "java/lang/Object"), (25, .methodref 4 75), (0, .nameAndType 76 13), (0, u "inc"), (12, u "(Ljava/lang/Object;)V"), (0, .methodref 4 91), (0, .nameAndType 92 89), (0, u "addLast"), (0, .methodref 4 94), (0, .nameAndType 95 96), (0, u "pollFirst"), (0, u "()Ljava/lang/Object;"), (6, .methodref 4 104), (0, .nameAndType 105 106), (0, u "elementAt"), (0, u "([Ljava/lang/Object;I)Ljava/lang/Object;"), (3, u "(Ljava/lang/Object;)Z"), (7, .methodref 4 119), (0, .nameAndType 120 96), (0, u "removeFirst"), (10, .class_ 132), (0, u "java/util/ArrayDeque$DeqIterator"), (3, .class_ 137), (0, u "java/util/ArrayDeque$DescendingIterator"), (1, .class_ 140), (0, u "java/util/ArrayDeque$DeqSpliterator"), (137, .class_ 279), (0, u "java/util/Deque"), (0, .class_ 281), (0, u "java/lang/Cloneable"), (0, .class_ 283), (0, u "java/io/Serializable"), (0, u "MAX_ARRAY_SIZE"), (1, u "serialVersionUID"), (0, u "J"), (48, u "add"), (1, u "remove"), (8, u "isEmpty"), (0, u "()Z")] 89

def k24c0 : Code := { maxStack := 2, maxLocals := 1, code := jdk_21_method_3_code, exceptionTable := #[], attributes := #[] }
def k24m0 : Method := { name := "<init>", desc := "()V", sig := { parameters := [], returnType := none }, accessFlags := 1, code := some k24c0 }
def k24c1 : Code := { maxStack := 2, maxLocals := 2, code := jdk_21_method_6_code, exceptionTable := #[], attributes := #[] }
def k24m1 : Method := { name := "inc", desc := "(II)I", sig := { parameters := [.int, .int], returnType := some .int }, accessFlags := 24, code := some k24c1 }
def k24c2 : Code := { maxStack := 2, maxLocals := 2, code := jdk_21_method_10_code, exceptionTable := #[], attributes := #[] }
def k24m2 : Method := { name := "elementAt", desc := "([Ljava/lang/Object;I)Ljava/lang/Object;", sig := { parameters := [(.array (.object "java/lang/Object")), .int], returnType := some (.object "java/lang/Object") }, accessFlags := 24, code := some k24c2 }
def k24c3 : Code := { maxStack := 4, maxLocals := 3, code := jdk_21_method_13_code, exceptionTable := #[], attributes := #[] }
def k24m3 : Method := { name := "addLast", desc := "(Ljava/lang/Object;)V", sig := { parameters := [(.object "java/lang/Object")], returnType := none }, accessFlags := 1, code := some k24c3 }
def k24c4 : Code := { maxStack := 2, maxLocals := 2, code := jdk_21_method_18_code, exceptionTable := #[], attributes := #[] }
def k24m4 : Method := { name := "removeFirst", desc := "()Ljava/lang/Object;", sig := { parameters := [], returnType := some (.object "java/lang/Object") }, accessFlags := 1, code := some k24c4 }
def k24c5 : Code := { maxStack := 3, maxLocals := 4, code := jdk_21_method_20_code, exceptionTable := #[], attributes := #[] }
def k24m5 : Method := { name := "pollFirst", desc := "()Ljava/lang/Object;", sig := { parameters := [], returnType := some (.object "java/lang/Object") }, accessFlags := 1, code := some k24c5 }
def k24c6 : Code := { maxStack := 2, maxLocals := 2, code := jdk_21_method_28_code, exceptionTable := #[], attributes := #[] }
def k24m6 : Method := { name := "add", desc := "(Ljava/lang/Object;)Z", sig := { parameters := [(.object "java/lang/Object")], returnType := some .boolean }, accessFlags := 1, code := some k24c6 }
def k24c7 : Code := { maxStack := 1, maxLocals := 1, code := jdk_21_method_30_code, exceptionTable := #[], attributes := #[] }
def k24m7 : Method := { name := "remove", desc := "()Ljava/lang/Object;", sig := { parameters := [], returnType := some (.object "java/lang/Object") }, accessFlags := 1, code := some k24c7 }
def k24c8 : Code := { maxStack := 2, maxLocals := 1, code := jdk_21_method_38_code, exceptionTable := #[], attributes := #[] }
def k24m8 : Method := { name := "isEmpty", desc := "()Z", sig := { parameters := [], returnType := some .boolean }, accessFlags := 1, code := some k24c8 }
/-- java/util/ArrayDeque -/
def k24 : Class := { plain s8_ (some 4) with
  accessFlags := 33
  interfaces := #[23, 9, 10]
  cf := some (fileOf pool24 4 #[.nestMembers #[139, 136, 131]] #[{ accessFlags := 1, nameIndex := 39, descriptorIndex := 46, attributes := #[] }, { accessFlags := 24, nameIndex := 76, descriptorIndex := 13, attributes := #[] }, { accessFlags := 24, nameIndex := 105, descriptorIndex := 106, attributes := #[] }, { accessFlags := 1, nameIndex := 92, descriptorIndex := 89, attributes := #[] }, { accessFlags := 1, nameIndex := 120, descriptorIndex := 96, attributes := #[] }, { accessFlags := 1, nameIndex := 95, descriptorIndex := 96, attributes := #[] }, { accessFlags := 1, nameIndex := 336, descriptorIndex := 110, attributes := #[] }, { accessFlags := 1, nameIndex := 338, descriptorIndex := 96, attributes := #[] }, { accessFlags := 1, nameIndex := 347, descriptorIndex := 348, attributes := #[] }] 33 43 #[278, 280, 282] #[{ accessFlags := 128, nameIndex := 7, descriptorIndex := 8, attributes := #[] }, { accessFlags := 128, nameIndex := 26, descriptorIndex := 23, attributes := #[] }, { accessFlags := 128, nameIndex := 22, descriptorIndex := 23, attributes := #[] }, { accessFlags := 26, nameIndex := 284, descriptorIndex := 23, attributes := #[] }, { accessFlags := 26, nameIndex := 286, descriptorIndex := 287, attributes := #[] }])
  fields := #[{ name := "elements", type := (.array (.object "java/lang/Object")), accessFlags := 128, slot := 0, constantValue := 0 }, { name := "head", type := .int, accessFlags := 128, slot := 1, constantValue := 0 }, { name := "tail", type := .int, accessFlags := 128, slot := 2, constantValue := 0 }, { name := "MAX_ARRAY_SIZE", type := .int, accessFlags := 26, slot := 0, constantValue := 0 }, { name := "serialVersionUID", type := .long, accessFlags := 26, slot := 1, constantValue := 0 }]
  methods := #[k24m0, k24m1, k24m2, k24m3, k24m4, k24m5, k24m6, k24m7, k24m8]
  instanceTypes := #[(.array (.object "java/lang/Object")), .int, .int]
  staticTypes := #[.int, .long]
  resolved := Array.replicate 438 none
  statics := none }

def pool25 : Array CpInfo := pool [(2, .class_ 4), (1, u "java/lang/Object"), (0, u "<init>"), (0, u "()V"), (1, .class_ 10), (1, u "java/lang/System"), (0, u "allowSecurityManager"), (0, u "I"), (16, u "cons"), (0, u "Ljava/io/Console;"), (77, .class_ 110), (1, u "java/lang/System$CallersHolder"), (43, u "initialErrStream"), (0, u "Ljava/io/PrintStream;"), (19, u "security"), (0, u "Ljava/lang/SecurityManager;"), (31, .class_ 209), (0, u "java/lang/System$1"), (7, u "props"), (0, u "Ljava/util/Properties;"), (2, u "lineSeparator"), (0, u "Ljava/lang/String;"), (96, .class_ 321), (1, u "java/lang/System$LoggerFinder"), (5, .class_ 328), (0, u "java/lang/System$Logger"), (67, u "err"), (2, u "out"), (91, u "notSupportedJnuEncoding"), (15, u "in"), (17, u "initialIn"), (0, u "Ljava/io/InputStream;"), (35, u "bootLayer"), (0, u "Ljava/lang/ModuleLayer;"), (99, .class_ 664), (0, u "java/lang/System$2"), (9, u "NEVER"), (2, u "MAYBE"), (49, u "arraycopy"), (0, u "(Ljava/lang/Object;ILjava/lang/Object;II)V"), (72, .class_ 802), (0, u "java/lang/System$Logger$Level")] 31

def k25m0 : Method := { name := "<init>", desc := "()V", sig := { parameters := [], returnType := none }, accessFlags := 2, code := none }
def k25m1 : Method := { name := "arraycopy", desc := "(Ljava/lang/Object;ILjava/lang/Object;II)V", sig := { parameters := [(.object "java/lang/Object"), .int, (.object "java/lang/Object"), .int, .int], returnType := none }, accessFlags := 265, code := none }
/-- java/lang/System -/
def k25 : Class := { plain "java/lang/System" (some 0) with
  accessFlags := 49
  interfaces := #[]
  cf := some (fileOf pool25 8 #[.nestMembers #[319, 327, 801, 108, 663, 208]] #[{ accessFlags := 2, nameIndex := 5, descriptorIndex := 6, attributes := #[] }, { accessFlags := 265, nameIndex := 727, descriptorIndex := 728, attributes := #[] }] 49 2 #[] #[{ accessFlags := 25, nameIndex := 507, descriptorIndex := 526, attributes := #[] }, { accessFlags := 25, nameIndex := 399, descriptorIndex := 155, attributes := #[] }, { accessFlags := 25, nameIndex := 396, descriptorIndex := 155, attributes := #[] }, { accessFlags := 10, nameIndex := 525, descriptorIndex := 526, attributes := #[] }, { accessFlags := 26, nameIndex := 674, descriptorIndex := 12, attributes := #[] }, { accessFlags := 26, nameIndex := 677, descriptorIndex := 12, attributes := #[] }, { accessFlags := 10, nameIndex := 11, descriptorIndex := 12, attributes := #[] }, { accessFlags := 74, nameIndex := 175, descriptorIndex := 176, attributes := #[] }, { accessFlags := 10, nameIndex := 491, descriptorIndex := 222, attributes := #[] }, { accessFlags := 74, nameIndex := 29, descriptorIndex := 30, attributes := #[] }, { accessFlags := 74, nameIndex := 154, descriptorIndex := 155, attributes := #[] }, { accessFlags := 10, nameIndex := 217, descriptorIndex := 218, attributes := #[] }, { accessFlags := 10, nameIndex := 221, descriptorIndex := 222, attributes := #[] }, { accessFlags := 8, nameIndex := 562, descriptorIndex := 563, attributes := #[] }])
  fields := #[{ name := "in", type := (.object "java/io/InputStream"), accessFlags := 25, slot := 0, constantValue := 0 }, { name := "out", type := (.object "java/io/PrintStream"), accessFlags := 25, slot := 1, constantValue := 0 }, { name := "err", type := (.object "java/io/PrintStream"), accessFlags := 25, slot := 2, constantValue := 0 }, { name := "initialIn", type := (.object "java/io/InputStream"), accessFlags := 10, slot := 3, constantValue := 0 }, { name := "NEVER", type := .int, accessFlags := 26, slot := 4, constantValue := 0 }, { name := "MAYBE", type := .int, accessFlags := 26, slot := 5, constantValue := 0 }, { name := "allowSecurityManager", type := .int, accessFlags := 10, slot := 6, constantValue := 0 }, { name := "security", type := (.object "java/lang/SecurityManager"), accessFlags := 74, slot := 7, constantValue := 0 }, { name := "notSupportedJnuEncoding", type := (.object "java/lang/String"), accessFlags := 10, slot := 8, constantValue := 0 }, { name := "cons", type := (.object "java/io/Console"), accessFlags := 74, slot := 9, constantValue := 0 }, { name := "initialErrStream", type := (.object "java/io/PrintStream"), accessFlags := 74, slot := 10, constantValue := 0 }, { name := "props", type := (.object "java/util/Properties"), accessFlags := 10, slot := 11, constantValue := 0 }, { name := "lineSeparator", type := (.object "java/lang/String"), accessFlags := 10, slot := 12, constantValue := 0 }, { name := "bootLayer", type := (.object "java/lang/ModuleLayer"), accessFlags := 8, slot := 13, constantValue := 0 }]
  methods := #[k25m0, k25m1]
  instanceTypes := #[]
  staticTypes := #[(.object "java/io/InputStream"), (.object "java/io/PrintStream"), (.object "java/io/PrintStream"), (.object "java/io/InputStream"), .int, .int, .int, (.object "java/lang/SecurityManager"), (.object "java/lang/String"), (.object "java/io/Console"), (.object "java/io/PrintStream"), (.object "java/util/Properties"), (.object "java/lang/String"), (.object "java/lang/ModuleLayer")]
  resolved := Array.replicate 834 none
  statics := none }

def pool26 : Array CpInfo := pool [(2, .class_ 4), (1, u "java/lang/Object"), (0, u "<init>"), (0, u "()V"), (1, .class_ 10), (1, u "java/lang/Number"), (2, .class_ 14), (0, u "java/io/Serializable"), (0, u "serialVersionUID"), (0, u "J")] 20

def k26m0 : Method := { name := "<init>", desc := "()V", sig := { parameters := [], returnType := none }, accessFlags := 1, code := none }
/-- java/lang/Number -/
def k26 : Class := { plain "java/lang/Number" (some 0) with
  accessFlags := 1057
  interfaces := #[10]
  cf := some (fileOf pool26 8 #[] #[{ accessFlags := 1, nameIndex := 5, descriptorIndex := 6, attributes := #[] }] 1057 2 #[13] #[{ accessFlags := 26, nameIndex := 15, descriptorIndex := 16, attributes := #[] }])
  fields := #[{ name := "serialVersionUID", type := .long, accessFlags := 26, slot := 0, constantValue := 0 }]
  methods := #[k26m0]
  instanceTypes := #[]
  staticTypes := #[.long]
  resolved := Array.replicate 37 none
  statics := none }

def pool27 : Array CpInfo := pool [(1, .class_ 2), (0, u "java/lang/Comparable"), (0, .class_ 4), (0, u "java/lang/Object")] 7

/-- java/lang/Comparable -/
def k27 : Class := { plain "java/lang/Comparable" (some 0) with
  accessFlags := 1537
  interfaces := #[]
  cf := some (fileOf pool27 1 #[] #[] 1537 3 #[] #[])
  fields := #[]
  methods := #[]
  instanceTypes := #[]
  staticTypes := #[]
  resolved := Array.replicate 12 none
  statics := none }

def pool28 : Array CpInfo := pool [(1, .class_ 2), (0, u "java/lang/constant/Constable"), (0, .class_ 4), (0, u "java/lang/Object")] 6

/-- java/lang/constant/Constable -/
def k28 : Class := { plain "java/lang/constant/Constable" (some 0) with
  accessFlags := 1537
  interfaces := #[]
  cf := some (fileOf pool28 1 #[] #[] 1537 3 #[] #[])
  fields := #[]
  methods := #[]
  instanceTypes := #[]
  staticTypes := #[]
  resolved := Array.replicate 11 none
  statics := none }

def pool29 : Array CpInfo := pool [(1, .class_ 2), (0, u "java/lang/constant/ConstantDesc"), (0, .class_ 4), (0, u "java/lang/Object")] 32

/-- java/lang/constant/ConstantDesc -/
def k29 : Class := { plain "java/lang/constant/ConstantDesc" (some 0) with
  accessFlags := 1537
  interfaces := #[]
  cf := some (fileOf pool29 1 #[] #[] 1537 3 #[] #[])
  fields := #[]
  methods := #[]
  instanceTypes := #[]
  staticTypes := #[]
  resolved := Array.replicate 37 none
  statics := none }

def pool30 : Array CpInfo := pool [(1, .class_ 2), (0, u "java/lang/Integer"), (16, u "digits"), (0, u "[C"), (64, u "DigitOnes"), (0, u "[B"), (2, u "DigitTens"), (31, u "()I"), (65, u "valueOf"), (0, u "(I)Ljava/lang/Integer;"), (0, .class_ 190), (0, u "java/lang/Integer$IntegerCache"), (0, .fieldref 189 192), (0, .nameAndType 193 194), (0, u "high"), (0, u "I"), (0, .fieldref 189 196), (0, .nameAndType 197 198), (0, u "cache"), (0, u "[Ljava/lang/Integer;"), (4, .class_ 204), (0, u "java/lang/Number"), (0, .fieldref 1 206), (0, .nameAndType 207 194), (0, u "value"), (5, u "intValue"), (88, u "TYPE"), (0, u "Ljava/lang/Class;"), (0, .class_ 305), (0, u "java/lang/Comparable"), (0, .class_ 307), (0, u "java/lang/constant/Constable"), (0, .class_ 309), (0, u "java/lang/constant/ConstantDesc"), (0, u "MIN_VALUE"), (1, u "MAX_VALUE"), (3, u "SIZE"), (1, u "BYTES"), (1, u "serialVersionUID"), (0, u "J")] 131

def k30c0 : Code := { maxStack := 3, maxLocals := 1, code := jdk_33_method_22_code, exceptionTable := #[], attributes := #[] }
def k30m0 : Method := { name := "valueOf", desc := "(I)Ljava/lang/Integer;", sig := { parameters := [.int], returnType := some (.object "java/lang/Integer") }, accessFlags := 9, code := some k30c0 }
def k30c1 : Code := { maxStack := 1, maxLocals := 1, code := jdk_33_method_27_code, exceptionTable := #[], attributes := #[] }
def k30m1 : Method := { name := "intValue", desc := "()I", sig := { parameters := [], returnType := some .int }, accessFlags := 1, code := some k30c1 }
/-- java/lang/Integer -/
def k30 : Class := { plain "java/lang/Integer" (some 26) with
  accessFlags := 49
  interfaces := #[27, 28, 29]
  cf := some (fileOf pool30 1 #[.nestMembers #[189]] #[{ accessFlags := 9, nameIndex := 187, descriptorIndex := 188, attributes := #[] }, { accessFlags := 1, nameIndex := 213, descriptorIndex := 121, attributes := #[] }] 49 203 #[304, 306, 308] #[{ accessFlags := 25, nameIndex := 310, descriptorIndex := 194, attributes := #[] }, { accessFlags := 25, nameIndex := 312, descriptorIndex := 194, attributes := #[] }, { accessFlags := 25, nameIndex := 302, descriptorIndex := 303, attributes := #[] }, { accessFlags := 24, nameIndex := 19, descriptorIndex := 20, attributes := #[] }, { accessFlags := 24, nameIndex := 89, descriptorIndex := 86, attributes := #[] }, { accessFlags := 24, nameIndex := 85, descriptorIndex := 86, attributes := #[] }, { accessFlags := 18, nameIndex := 207, descriptorIndex := 194, attributes := #[] }, { accessFlags := 25, nameIndex := 316, descriptorIndex := 194, attributes := #[] }, { accessFlags := 25, nameIndex := 318, descriptorIndex := 194, attributes := #[] }, { accessFlags := 26, nameIndex := 320, descriptorIndex := 321, attributes := #[] }])
  fields := #[{ name := "MIN_VALUE", type := .int, accessFlags := 25, slot := 0, constantValue := 0 }, { name := "MAX_VALUE", type := .int, accessFlags := 25, slot := 1, constantValue := 0 }, { name := "TYPE", type := (.object "java/lang/Class"), accessFlags := 25, slot := 2, constantValue := 0 }, { name := "digits", type := (.array .char), accessFlags := 24, slot := 3, constantValue := 0 }, { name := "DigitTens", type := (.array .byte), accessFlags := 24, slot := 4, constantValue := 0 }, { name := "DigitOnes", type := (.array .byte), accessFlags := 24, slot := 5, constantValue := 0 }, { name := "value", type := .int, accessFlags := 18, slot := 0, constantValue := 0 }, { name := "SIZE", type := .int, accessFlags := 25, slot := 6, constantValue := 0 }, { name := "BYTES", type := .int, accessFlags := 25, slot := 7, constantValue := 0 }, { name := "serialVersionUID", type := .long, accessFlags := 26, slot := 8, constantValue := 0 }]
  methods := #[k30m0, k30m1]
  instanceTypes := #[.int]
  staticTypes := #[.int, .int, (.object "java/lang/Class"), (.array .char), (.array .byte), (.array .byte), .int, .int, .long]
  resolved := Array.replicate 453 none
  statics := none }

def pool31 : Array CpInfo := pool [(2, .class_ 4), (1, u "java/lang/Object"), (0, u "<init>"), (0, u "()V"), (0, .class_ 8), (0, u "java/lang/Integer"), (7, .class_ 18), (1, u "java/lang/Integer$IntegerCache"), (0, u "$assertionsDisabled"), (0, u "Z"), (26, u "high"), (0, u "I"), (8, u "archivedCache"), (0, u "[Ljava/lang/Integer;"), (12, u "cache"), (0, u "low")] 27

def k31m0 : Method := { name := "<init>", desc := "()V", sig := { parameters := [], returnType := none }, accessFlags := 2, code := none }
/-- java/lang/Integer$IntegerCache -/
def k31 : Class := { plain "java/lang/Integer$IntegerCache" (some 0) with
  accessFlags := 48
  interfaces := #[]
  cf := some (fileOf pool31 16 #[.nestHost 7] #[{ accessFlags := 2, nameIndex := 5, descriptorIndex := 6, attributes := #[] }] 48 2 #[] #[{ accessFlags := 24, nameIndex := 72, descriptorIndex := 48, attributes := #[] }, { accessFlags := 24, nameIndex := 47, descriptorIndex := 48, attributes := #[] }, { accessFlags := 24, nameIndex := 71, descriptorIndex := 58, attributes := #[] }, { accessFlags := 8, nameIndex := 57, descriptorIndex := 58, attributes := #[] }, { accessFlags := 4120, nameIndex := 19, descriptorIndex := 20, attributes := #[] }])
  fields := #[{ name := "low", type := .int, accessFlags := 24, slot := 0, constantValue := 0 }, { name := "high", type := .int, accessFlags := 24, slot := 1, constantValue := 0 }, { name := "cache", type := (.array (.object "java/lang/Integer")), accessFlags := 24, slot := 2, constantValue := 0 }, { name := "archivedCache", type := (.array (.object "java/lang/Integer")), accessFlags := 8, slot := 3, constantValue := 0 }, { name := "$assertionsDisabled", type := .boolean, accessFlags := 4120, slot := 4, constantValue := 0 }]
  methods := #[k31m0]
  instanceTypes := #[]
  staticTypes := #[.int, .int, (.array (.object "java/lang/Integer")), (.array (.object "java/lang/Integer")), .boolean]
  resolved := Array.replicate 100 none
  statics := some 1 }

/-- the primitive boolean -/
def k32 : Class := { plain "boolean" none with kind := .primitive 'Z', accessFlags := 0x411 }
/-- [Z -/
def k33 : Class := { plain "[Z" (some 0) with kind := .array 32 .boolean, interfaces := #[9, 10], accessFlags := 1041 }

/-- the primitive byte -/
def k34 : Class := { plain "byte" none with kind := .primitive 'B', accessFlags := 0x411 }
/-- [B -/
def k35 : Class := { plain "[B" (some 0) with kind := .array 34 .byte, interfaces := #[9, 10], accessFlags := 1041 }

/-- the primitive int -/
def k36 : Class := { plain "int" none with kind := .primitive 'I', accessFlags := 0x411 }
/-- [I -/
def k37 : Class := { plain "[I" (some 0) with kind := .array 36 .int, interfaces := #[9, 10], accessFlags := 1041 }

/-- [Ljava/lang/Integer; -/
def k38 : Class := { plain "[Ljava/lang/Integer;" (some 0) with kind := .array 30 (.object "java/lang/Integer"), interfaces := #[9, 10], accessFlags := 1041 }

/-- [Ljava/lang/Object; -/
def k39 : Class := { plain "[Ljava/lang/Object;" (some 0) with kind := .array 0 (.object "java/lang/Object"), interfaces := #[9, 10], accessFlags := 1041 }

/-- [Ljava/util/ArrayDeque; -/
def k40 : Class := { plain "[[I" (some 0) with kind := .array 37 (.array .int), interfaces := #[9, 10], accessFlags := 1041 }

def ic_ (v : Int32) : Cell := { cls := 30, slots := #[.int v], vm := .none }
def heap : Heap := #[{ cls := 11, slots := #[.long 0, .int 0, .ref 3, .ref 4], vm := .statics 11 },
  { cls := 31, slots := #[.int 0, .int 127, .ref 2, .null, .int 0], vm := .statics 31 },
  { cls := 38, slots := #[.ref 6, .ref 7, .ref 8, .ref 9, .ref 10, .ref 11, .ref 12, .ref 13, .ref 14, .ref 15, .ref 16, .ref 17, .ref 18, .ref 19, .ref 20, .ref 21, .ref 22, .ref 23, .ref 24, .ref 25, .ref 26, .ref 27, .ref 28, .ref 29, .ref 30, .ref 31, .ref 32, .ref 33, .ref 34, .ref 35, .ref 36, .ref 37, .ref 38, .ref 39, .ref 40, .ref 41, .ref 42, .ref 43, .ref 44, .ref 45, .ref 46, .ref 47, .ref 48, .ref 49, .ref 50, .ref 51, .ref 52, .ref 53, .ref 54, .ref 55, .ref 56, .ref 57, .ref 58, .ref 59, .ref 60, .ref 61, .ref 62, .ref 63, .ref 64, .ref 65, .ref 66, .ref 67, .ref 68, .ref 69, .ref 70, .ref 71, .ref 72, .ref 73, .ref 74, .ref 75, .ref 76, .ref 77, .ref 78, .ref 79, .ref 80, .ref 81, .ref 82, .ref 83, .ref 84, .ref 85, .ref 86, .ref 87, .ref 88, .ref 89, .ref 90, .ref 91, .ref 92, .ref 93, .ref 94, .ref 95, .ref 96, .ref 97, .ref 98, .ref 99, .ref 100, .ref 101, .ref 102, .ref 103, .ref 104, .ref 105, .ref 106, .ref 107, .ref 108, .ref 109, .ref 110, .ref 111, .ref 112, .ref 113, .ref 114, .ref 115, .ref 116, .ref 117, .ref 118, .ref 119, .ref 120, .ref 121, .ref 122, .ref 123, .ref 124, .ref 125, .ref 126, .ref 127, .ref 128, .ref 129, .ref 130, .ref 131, .ref 132, .ref 133, .ref 134, .ref 135, .ref 136, .ref 137, .ref 138, .ref 139, .ref 140, .ref 141, .ref 142, .ref 143, .ref 144, .ref 145, .ref 146, .ref 147, .ref 148, .ref 149, .ref 150, .ref 151, .ref 152, .ref 153, .ref 154, .ref 155, .ref 156, .ref 157, .ref 158, .ref 159, .ref 160, .ref 161, .ref 162, .ref 163, .ref 164, .ref 165, .ref 166, .ref 167, .ref 168, .ref 169, .ref 170, .ref 171, .ref 172, .ref 173, .ref 174, .ref 175, .ref 176, .ref 177, .ref 178, .ref 179, .ref 180, .ref 181, .ref 182, .ref 183, .ref 184, .ref 185, .ref 186, .ref 187, .ref 188, .ref 189, .ref 190, .ref 191, .ref 192, .ref 193, .ref 194, .ref 195, .ref 196, .ref 197, .ref 198, .ref 199, .ref 200, .ref 201, .ref 202, .ref 203, .ref 204, .ref 205, .ref 206, .ref 207, .ref 208, .ref 209, .ref 210, .ref 211, .ref 212, .ref 213, .ref 214, .ref 215, .ref 216, .ref 217, .ref 218, .ref 219, .ref 220, .ref 221, .ref 222, .ref 223, .ref 224, .ref 225, .ref 226, .ref 227, .ref 228, .ref 229, .ref 230, .ref 231, .ref 232, .ref 233, .ref 234, .ref 235, .ref 236, .ref 237, .ref 238, .ref 239, .ref 240, .ref 241, .ref 242, .ref 243, .ref 244, .ref 245, .ref 246, .ref 247, .ref 248, .ref 249, .ref 250, .ref 251, .ref 252, .ref 253, .ref 254, .ref 255, .ref 256, .ref 257, .ref 258, .ref 259, .ref 260, .ref 261], vm := .none },
  { cls := 39, slots := #[], vm := .none },
  { cls := 39, slots := #[], vm := .none },
  { cls := 40, slots := #[], vm := .none },
  ic_ (-128), ic_ (-127), ic_ (-126), ic_ (-125), ic_ (-124), ic_ (-123), ic_ (-122), ic_ (-121), ic_ (-120), ic_ (-119), ic_ (-118), ic_ (-117), ic_ (-116), ic_ (-115), ic_ (-114), ic_ (-113), ic_ (-112), ic_ (-111), ic_ (-110), ic_ (-109), ic_ (-108), ic_ (-107), ic_ (-106), ic_ (-105), ic_ (-104), ic_ (-103), ic_ (-102), ic_ (-101), ic_ (-100), ic_ (-99), ic_ (-98), ic_ (-97), ic_ (-96), ic_ (-95), ic_ (-94), ic_ (-93), ic_ (-92), ic_ (-91), ic_ (-90), ic_ (-89), ic_ (-88), ic_ (-87), ic_ (-86), ic_ (-85), ic_ (-84), ic_ (-83), ic_ (-82), ic_ (-81), ic_ (-80), ic_ (-79), ic_ (-78), ic_ (-77), ic_ (-76), ic_ (-75), ic_ (-74), ic_ (-73), ic_ (-72), ic_ (-71), ic_ (-70), ic_ (-69), ic_ (-68), ic_ (-67), ic_ (-66), ic_ (-65), ic_ (-64), ic_ (-63), ic_ (-62), ic_ (-61), ic_ (-60), ic_ (-59), ic_ (-58), ic_ (-57), ic_ (-56), ic_ (-55), ic_ (-54), ic_ (-53), ic_ (-52), ic_ (-51), ic_ (-50), ic_ (-49), ic_ (-48), ic_ (-47), ic_ (-46), ic_ (-45), ic_ (-44), ic_ (-43), ic_ (-42), ic_ (-41), ic_ (-40), ic_ (-39), ic_ (-38), ic_ (-37), ic_ (-36), ic_ (-35), ic_ (-34), ic_ (-33), ic_ (-32), ic_ (-31), ic_ (-30), ic_ (-29), ic_ (-28), ic_ (-27), ic_ (-26), ic_ (-25), ic_ (-24), ic_ (-23), ic_ (-22), ic_ (-21), ic_ (-20), ic_ (-19), ic_ (-18), ic_ (-17), ic_ (-16), ic_ (-15), ic_ (-14), ic_ (-13), ic_ (-12), ic_ (-11), ic_ (-10), ic_ (-9), ic_ (-8), ic_ (-7), ic_ (-6), ic_ (-5), ic_ (-4), ic_ (-3), ic_ (-2), ic_ (-1), ic_ 0, ic_ 1, ic_ 2, ic_ 3, ic_ 4, ic_ 5, ic_ 6, ic_ 7, ic_ 8, ic_ 9, ic_ 10, ic_ 11, ic_ 12, ic_ 13, ic_ 14, ic_ 15, ic_ 16, ic_ 17, ic_ 18, ic_ 19, ic_ 20, ic_ 21, ic_ 22, ic_ 23, ic_ 24, ic_ 25, ic_ 26, ic_ 27, ic_ 28, ic_ 29, ic_ 30, ic_ 31, ic_ 32, ic_ 33, ic_ 34, ic_ 35, ic_ 36, ic_ 37, ic_ 38, ic_ 39, ic_ 40, ic_ 41, ic_ 42, ic_ 43, ic_ 44, ic_ 45, ic_ 46, ic_ 47, ic_ 48, ic_ 49, ic_ 50, ic_ 51, ic_ 52, ic_ 53, ic_ 54, ic_ 55, ic_ 56, ic_ 57, ic_ 58, ic_ 59, ic_ 60, ic_ 61, ic_ 62, ic_ 63, ic_ 64, ic_ 65, ic_ 66, ic_ 67, ic_ 68, ic_ 69, ic_ 70, ic_ 71, ic_ 72, ic_ 73, ic_ 74, ic_ 75, ic_ 76, ic_ 77, ic_ 78, ic_ 79, ic_ 80, ic_ 81, ic_ 82, ic_ 83, ic_ 84, ic_ 85, ic_ 86, ic_ 87, ic_ 88, ic_ 89, ic_ 90, ic_ 91, ic_ 92, ic_ 93, ic_ 94, ic_ 95, ic_ 96, ic_ 97, ic_ 98, ic_ 99, ic_ 100, ic_ 101, ic_ 102, ic_ 103, ic_ 104, ic_ 105, ic_ 106, ic_ 107, ic_ 108, ic_ 109, ic_ 110, ic_ 111, ic_ 112, ic_ 113, ic_ 114, ic_ 115, ic_ 116, ic_ 117, ic_ 118, ic_ 119, ic_ 120, ic_ 121, ic_ 122, ic_ 123, ic_ 124, ic_ 125, ic_ 126,
  ic_ 127]
def classes : Array Class := #[k0, k1, k2, k3, k4, k5, k6, k7, k8, k9, k10, k11, k12, k13, k14, k15, k16, k17, k18, k19, k20, k21, k22, k23, k24, k25, k26, k27, k28, k29, k30, k31, k32, k33, k34, k35, k36, k37, k38, k39, k40]
def interned : List (Array UInt16 × Addr) := []
def slotsUsed : Nat := 521
def theMethod : MethodId := ⟨1, 1⟩
def args0 : Array Value := #[.int 5, .int 5, .int 5, .int 5, .int 5, .int 5]
def aboutOver (below : List Frame) : State where
  vm := { classes := classes, interned := interned.toArray }
  heap := heap
  slotsUsed := slotsUsed
  threads := #[{ frames := .invoking theMethod args0 :: below }]
def below0 : List Frame := [.native { method := ⟨0, 0⟩, args := #[] }]
def about1 : State := aboutOver below0
def p0 : Program := .bare "" "" ""
def e0 : Env := launch0.env 0 0 0
theorem w_frames : about1.frames = Frame.invoking theMethod args0 :: below0 := rfl
theorem w_args : argsFit about1.vm theMethod args0 = true := by decide +kernel
theorem w_heap : heapFits about1 = true := by decide +kernel
theorem w_runnable : about1.curStatus? = some .runnable := by decide +kernel
theorem w_alone : about1.alone = true := by decide +kernel
theorem w_named : about1.methodNamed? x = some theMethod := by decide +kernel
theorem w_hears : about1.hears theMethod below0 = true := by decide +kernel
theorem w_ripe : about1.ripe theMethod args0 below0 = true := by decide +kernel
theorem w_running : about1.status = .running := rfl
theorem w_room : about1.hasRoom e0.platform room_1 = true :=
  launch0.hasRoom_least _ room_1 (by decide +kernel) (by decide +kernel) (by decide +kernel) (by decide +kernel) (by decide +kernel) (by decide +kernel)
theorem allAtoms_all (ts : List Jvm.Cond) (a : Array Jvm.Value) (st : Jvm.State) : (allAtoms ts).before a st = ts.all (fun c => c.before a st) := by
  induction ts with
  | nil => rfl
  | cons c t ih =>
    show (Jvm.Cond.and c (allAtoms t)).before a st = _
    rw [Jvm.Cond.before_and, ih, List.all_cons]
def words1 : List Jvm.Cond := Jvm.Cond.code x code maxLocals ret :: tables_1
/-- a 'code' word, met by the world's own term for the bytes: nothing is compared byte by byte -/
theorem code_word {y : MethodName} {bytes : ByteArray} {mx : Nat} {rt : Option FieldType} {a : Array Value} {s : State} {m : MethodId} {meth : Method} {c : Code} (h1 : s.methodNamed? y = some m) (h2 : s.vm.method? m = some meth) (h3 : meth.code = some c) (h4 : c.code = bytes)
    (h5 : (c.maxLocals == mx && c.exceptionTable.isEmpty && decide (c.maxStack ≤ mostOperands) && decide (meth.sig.returnType = rt) && !meth.locks && decide (parseMethodDescriptor y.desc = some meth.sig)) = true) : (Jvm.Cond.code y bytes mx rt).before a s = true := by
  simp only [Bool.and_eq_true, beq_iff_eq, Bool.not_eq_true', decide_eq_true_eq] at h5
  obtain ⟨⟨⟨⟨⟨g1, g2⟩, g3⟩, g4⟩, g5⟩, g6⟩ := h5
  simp [Cond.before, Cond.holds, Cond.value, h1, h2, h3, h4, g1, g2, g3, g4, g5, g6]
def isCode : Jvm.Cond → Bool
  | .code _ _ _ _ => true
  | _ => false
theorem all_split {L : List Jvm.Cond} {P : Jvm.Cond → Bool} (h1 : L.all (fun c => isCode c || P c) = true) (h2 : ∀ c ∈ L.filter isCode, P c = true) : L.all P = true := by
  refine List.all_eq_true.mpr fun c hc => ?_
  have h := List.all_eq_true.mp h1 c hc
  rcases Bool.eq_false_or_eq_true (isCode c) with hi | hi
  · exact h2 c (List.mem_filter.mpr ⟨hc, hi⟩)
  · simpa [hi] using h
theorem w_c0 : (Jvm.Cond.code x code maxLocals ret).before args0 about1 = true := code_word (m := ⟨1, 1⟩) (meth := k1m1) (c := k1c1) (by decide +kernel) rfl rfl rfl (by decide +kernel)
theorem w_c1 : (Jvm.Cond.code ⟨s9_, "<init>", "()V"⟩ jdk_38_method_2_code 1 none).before args0 about1 = true := code_word (m := ⟨11, 0⟩) (meth := k11m0) (c := k11c0) (by decide +kernel) rfl rfl rfl (by decide +kernel)
theorem w_c2 : (Jvm.Cond.code ⟨s7_, "<init>", "()V"⟩ jdk_39_method_1_code 1 none).before args0 about1 = true := code_word (m := ⟨7, 0⟩) (meth := k7m0) (c := k7c0) (by decide +kernel) rfl rfl rfl (by decide +kernel)
theorem w_c3 : (Jvm.Cond.code ⟨"java/util/AbstractCollection", "<init>", "()V"⟩ jdk_22_method_1_code 1 none).before args0 about1 = true := code_word (m := ⟨4, 0⟩) (meth := k4m0) (c := k4c0) (by decide +kernel) rfl rfl rfl (by decide +kernel)
theorem w_c4 : (Jvm.Cond.code ⟨"java/lang/Object", "<init>", "()V"⟩ object_method_1_code 1 none).before args0 about1 = true := code_word (m := ⟨0, 0⟩) (meth := k0m0) (c := k0c0) (by decide +kernel) rfl rfl rfl (by decide +kernel)
theorem w_c5 : (Jvm.Cond.code ⟨s9_, "add", "(Ljava/lang/Object;)Z"⟩ jdk_38_method_25_code 2 (Option.some Jvm.ClassFile.FieldType.boolean)).before args0 about1 = true := code_word (m := ⟨11, 7⟩) (meth := k11m7) (c := k11c7) (by decide +kernel) rfl rfl rfl (by decide +kernel)
theorem w_c6 : (Jvm.Cond.code ⟨s9_, "add", "(Ljava/lang/Object;[Ljava/lang/Object;I)V"⟩ jdk_38_method_24_code 4 none).before args0 about1 = true := code_word (m := ⟨11, 6⟩) (meth := k11m6) (c := k11c6) (by decide +kernel) rfl rfl rfl (by decide +kernel)
theorem w_c7 : (Jvm.Cond.code ⟨s9_, "grow", "()[Ljava/lang/Object;"⟩ jdk_38_method_7_code 1 (Option.some (Jvm.ClassFile.FieldType.array (Jvm.ClassFile.FieldType.object "java/lang/Object")))).before args0 about1 = true := code_word (m := ⟨11, 2⟩) (meth := k11m2) (c := k11c2) (by decide +kernel) rfl rfl rfl (by decide +kernel)
theorem w_c8 : (Jvm.Cond.code ⟨s9_, "grow", "(I)[Ljava/lang/Object;"⟩ jdk_38_method_6_code 4 (Option.some (Jvm.ClassFile.FieldType.array (Jvm.ClassFile.FieldType.object "java/lang/Object")))).before args0 about1 = true := code_word (m := ⟨11, 1⟩) (meth := k11m1) (c := k11c1) (by decide +kernel) rfl rfl rfl (by decide +kernel)
theorem w_c9 : (Jvm.Cond.code ⟨"java/lang/Math", "max", "(II)I"⟩ jdk_29_method_65_code 2 (Option.some Jvm.ClassFile.FieldType.int)).before args0 about1 = true := code_word (m := ⟨12, 1⟩) (meth := k12m1) (c := k12c1) (by decide +kernel) rfl rfl rfl (by decide +kernel)
theorem w_c10 : (Jvm.Cond.code ⟨s0_, "pipe", "(IIZZ)Lcom/example/hydromeme/hydromeme/Network$Pipe;"⟩ method_3_code 4 (Option.some (Jvm.ClassFile.FieldType.object s1_))).before args0 about1 = true := code_word (m := ⟨1, 2⟩) (meth := k1m2) (c := k1c2) (by decide +kernel) rfl rfl rfl (by decide +kernel)
theorem w_c11 : (Jvm.Cond.code ⟨s1_, "<init>", "(Ljava/lang/String;IIDDDZ)V"⟩ prog_35_method_1_code 11 none).before args0 about1 = true := code_word (m := ⟨14, 0⟩) (meth := k14m0) (c := k14c0) (by decide +kernel) rfl rfl rfl (by decide +kernel)
theorem w_c12 : (Jvm.Cond.code ⟨"java/lang/Record", "<init>", "()V"⟩ jdk_30_method_1_code 1 none).before args0 about1 = true := code_word (m := ⟨13, 0⟩) (meth := k13m0) (c := k13c0) (by decide +kernel) rfl rfl rfl (by decide +kernel)
theorem w_c13 : (Jvm.Cond.code ⟨s0_, "arm", "(Ljava/util/ArrayList;IIIZZZ)V"⟩ method_4_code 7 none).before args0 about1 = true := code_word (m := ⟨1, 3⟩) (meth := k1m3) (c := k1c3) (by decide +kernel) rfl rfl rfl (by decide +kernel)
theorem w_c14 : (Jvm.Cond.code ⟨s5_, "<init>", "(Ljava/util/List;Ljava/util/List;Ljava/util/List;Lcom/example/hydromeme/hydromeme/FlowUnits;Lcom/example/hydromeme/hydromeme/HeadLoss;D)V"⟩ prog_33_method_1_code 8 none).before args0 about1 = true := code_word (m := ⟨16, 0⟩) (meth := k16m0) (c := k16c0) (by decide +kernel) rfl rfl rfl (by decide +kernel)
theorem w_c15 : (Jvm.Cond.code ⟨s4_, "<init>", "(Lcom/example/hydromeme/hydromeme/Network;)V"⟩ prog_58_method_1_code 28 none).before args0 about1 = true := code_word (m := ⟨15, 0⟩) (meth := k15m0) (c := k15c0) (by decide +kernel) rfl rfl rfl (by decide +kernel)
theorem w_c16 : (Jvm.Cond.code ⟨s5_, "junctions", "()Ljava/util/List;"⟩ prog_33_method_6_code 1 (Option.some (Jvm.ClassFile.FieldType.object s11_))).before args0 about1 = true := code_word (m := ⟨16, 1⟩) (meth := k16m1) (c := k16c1) (by decide +kernel) rfl rfl rfl (by decide +kernel)
theorem w_c17 : (Jvm.Cond.code ⟨s9_, "size", "()I"⟩ jdk_38_method_8_code 1 (Option.some Jvm.ClassFile.FieldType.int)).before args0 about1 = true := code_word (m := ⟨11, 3⟩) (meth := k11m3) (c := k11c3) (by decide +kernel) rfl rfl rfl (by decide +kernel)
theorem w_c18 : (Jvm.Cond.code ⟨s5_, "reservoirs", "()Ljava/util/List;"⟩ prog_33_method_7_code 1 (Option.some (Jvm.ClassFile.FieldType.object s11_))).before args0 about1 = true := code_word (m := ⟨16, 2⟩) (meth := k16m2) (c := k16c2) (by decide +kernel) rfl rfl rfl (by decide +kernel)
theorem w_c19 : (Jvm.Cond.code ⟨s4_, "incidence", "(Lcom/example/hydromeme/hydromeme/Network;I)[[I"⟩ prog_58_method_16_code 6 (Option.some (Jvm.ClassFile.FieldType.array (Jvm.ClassFile.FieldType.array Jvm.ClassFile.FieldType.int)))).before args0 about1 = true := code_word (m := ⟨15, 2⟩) (meth := k15m2) (c := k15c2) (by decide +kernel) rfl rfl rfl (by decide +kernel)
theorem w_c20 : (Jvm.Cond.code ⟨s5_, "pipes", "()Ljava/util/List;"⟩ prog_33_method_8_code 1 (Option.some (Jvm.ClassFile.FieldType.object s11_))).before args0 about1 = true := code_word (m := ⟨16, 3⟩) (meth := k16m3) (c := k16c3) (by decide +kernel) rfl rfl rfl (by decide +kernel)
theorem w_c21 : (Jvm.Cond.code ⟨s9_, "iterator", "()Ljava/util/Iterator;"⟩ jdk_38_method_55_code 1 (Option.some (Jvm.ClassFile.FieldType.object s10_))).before args0 about1 = true := code_word (m := ⟨11, 8⟩) (meth := k11m8) (c := k11c8) (by decide +kernel) rfl rfl rfl (by decide +kernel)
theorem w_c22 : (Jvm.Cond.code ⟨s6_, "<init>", "(Ljava/util/ArrayList;)V"⟩ jdk_49_method_1_code 2 none).before args0 about1 = true := code_word (m := ⟨18, 0⟩) (meth := k18m0) (c := k18c0) (by decide +kernel) rfl rfl rfl (by decide +kernel)
theorem w_c23 : (Jvm.Cond.code ⟨s6_, "hasNext", "()Z"⟩ jdk_49_method_2_code 1 (Option.some Jvm.ClassFile.FieldType.boolean)).before args0 about1 = true := code_word (m := ⟨18, 1⟩) (meth := k18m1) (c := k18c1) (by decide +kernel) rfl rfl rfl (by decide +kernel)
theorem w_c24 : (Jvm.Cond.code ⟨s6_, "next", "()Ljava/lang/Object;"⟩ jdk_49_method_3_code 3 (Option.some (Jvm.ClassFile.FieldType.object "java/lang/Object"))).before args0 about1 = true := code_word (m := ⟨18, 2⟩) (meth := k18m2) (c := k18c2) (by decide +kernel) rfl rfl rfl (by decide +kernel)
theorem w_c25 : (Jvm.Cond.code ⟨s6_, "checkForComodification", "()V"⟩ jdk_49_method_6_code 1 none).before args0 about1 = true := code_word (m := ⟨18, 3⟩) (meth := k18m3) (c := k18c3) (by decide +kernel) rfl rfl rfl (by decide +kernel)
theorem w_c26 : (Jvm.Cond.code ⟨s1_, "open", "()Z"⟩ prog_35_method_11_code 1 (Option.some Jvm.ClassFile.FieldType.boolean)).before args0 about1 = true := code_word (m := ⟨14, 3⟩) (meth := k14m3) (c := k14c3) (by decide +kernel) rfl rfl rfl (by decide +kernel)
theorem w_c27 : (Jvm.Cond.code ⟨s1_, "from", "()I"⟩ prog_35_method_6_code 1 (Option.some Jvm.ClassFile.FieldType.int)).before args0 about1 = true := code_word (m := ⟨14, 1⟩) (meth := k14m1) (c := k14c1) (by decide +kernel) rfl rfl rfl (by decide +kernel)
theorem w_c28 : (Jvm.Cond.code ⟨s1_, "to", "()I"⟩ prog_35_method_7_code 1 (Option.some Jvm.ClassFile.FieldType.int)).before args0 about1 = true := code_word (m := ⟨14, 2⟩) (meth := k14m2) (c := k14c2) (by decide +kernel) rfl rfl rfl (by decide +kernel)
theorem w_c29 : (Jvm.Cond.code ⟨"java/util/Arrays", "fill", "([II)V"⟩ jdk_65_method_103_code 4 none).before args0 about1 = true := code_word (m := ⟨19, 1⟩) (meth := k19m1) (c := k19c1) (by decide +kernel) rfl rfl rfl (by decide +kernel)
theorem w_c30 : (Jvm.Cond.code ⟨s9_, "get", "(I)Ljava/lang/Object;"⟩ jdk_38_method_20_code 2 (Option.some (Jvm.ClassFile.FieldType.object "java/lang/Object"))).before args0 about1 = true := code_word (m := ⟨11, 5⟩) (meth := k11m5) (c := k11c5) (by decide +kernel) rfl rfl rfl (by decide +kernel)
theorem w_c31 : (Jvm.Cond.code ⟨"java/util/Objects", "checkIndex", "(II)I"⟩ jdk_31_method_17_code 2 (Option.some Jvm.ClassFile.FieldType.int)).before args0 about1 = true := code_word (m := ⟨20, 1⟩) (meth := k20m1) (c := k20c1) (by decide +kernel) rfl rfl rfl (by decide +kernel)
theorem w_c32 : (Jvm.Cond.code ⟨"jdk/internal/util/Preconditions", "checkIndex", "(IILjava/util/function/BiFunction;)I"⟩ jdk_41_method_11_code 3 (Option.some Jvm.ClassFile.FieldType.int)).before args0 about1 = true := code_word (m := ⟨21, 1⟩) (meth := k21m1) (c := k21c1) (by decide +kernel) rfl rfl rfl (by decide +kernel)
theorem w_c33 : (Jvm.Cond.code ⟨s9_, "elementData", "(I)Ljava/lang/Object;"⟩ jdk_38_method_18_code 2 (Option.some (Jvm.ClassFile.FieldType.object "java/lang/Object"))).before args0 about1 = true := code_word (m := ⟨11, 4⟩) (meth := k11m4) (c := k11c4) (by decide +kernel) rfl rfl rfl (by decide +kernel)
theorem w_c34 : (Jvm.Cond.code ⟨s8_, "<init>", "()V"⟩ jdk_21_method_3_code 1 none).before args0 about1 = true := code_word (m := ⟨24, 0⟩) (meth := k24m0) (c := k24c0) (by decide +kernel) rfl rfl rfl (by decide +kernel)
theorem w_c35 : (Jvm.Cond.code ⟨s8_, "isEmpty", "()Z"⟩ jdk_21_method_38_code 1 (Option.some Jvm.ClassFile.FieldType.boolean)).before args0 about1 = true := code_word (m := ⟨24, 8⟩) (meth := k24m8) (c := k24c8) (by decide +kernel) rfl rfl rfl (by decide +kernel)
theorem w_c36 : (Jvm.Cond.code ⟨"java/util/Arrays", "copyOf", "([II)[I"⟩ jdk_65_method_123_code 3 (Option.some (Jvm.ClassFile.FieldType.array Jvm.ClassFile.FieldType.int))).before args0 about1 = true := code_word (m := ⟨19, 2⟩) (meth := k19m2) (c := k19c2) (by decide +kernel) rfl rfl rfl (by decide +kernel)
theorem w_c37 : (Jvm.Cond.code ⟨"java/lang/Math", "min", "(II)I"⟩ jdk_29_method_69_code 2 (Option.some Jvm.ClassFile.FieldType.int)).before args0 about1 = true := code_word (m := ⟨12, 2⟩) (meth := k12m2) (c := k12c2) (by decide +kernel) rfl rfl rfl (by decide +kernel)
theorem w_c38 : (Jvm.Cond.code ⟨s4_, "otherEnd", "(Lcom/example/hydromeme/hydromeme/Network;II)I"⟩ prog_58_method_18_code 4 (Option.some Jvm.ClassFile.FieldType.int)).before args0 about1 = true := code_word (m := ⟨15, 4⟩) (meth := k15m4) (c := k15c4) (by decide +kernel) rfl rfl rfl (by decide +kernel)
theorem w_c39 : (Jvm.Cond.code ⟨s4_, "remaining", "([I[Z)I"⟩ prog_58_method_17_code 6 (Option.some Jvm.ClassFile.FieldType.int)).before args0 about1 = true := code_word (m := ⟨15, 3⟩) (meth := k15m3) (c := k15c3) (by decide +kernel) rfl rfl rfl (by decide +kernel)
theorem w_c40 : (Jvm.Cond.code ⟨s4_, "chainEnd", "(I)I"⟩ prog_58_method_8_code 2 (Option.some Jvm.ClassFile.FieldType.int)).before args0 about1 = true := code_word (m := ⟨15, 1⟩) (meth := k15m1) (c := k15c1) (by decide +kernel) rfl rfl rfl (by decide +kernel)
theorem w_c41 : (Jvm.Cond.code ⟨"java/lang/Integer", "valueOf", "(I)Ljava/lang/Integer;"⟩ jdk_33_method_22_code 1 (Option.some (Jvm.ClassFile.FieldType.object "java/lang/Integer"))).before args0 about1 = true := code_word (m := ⟨30, 0⟩) (meth := k30m0) (c := k30c0) (by decide +kernel) rfl rfl rfl (by decide +kernel)
theorem w_c42 : (Jvm.Cond.code ⟨s8_, "add", "(Ljava/lang/Object;)Z"⟩ jdk_21_method_28_code 2 (Option.some Jvm.ClassFile.FieldType.boolean)).before args0 about1 = true := code_word (m := ⟨24, 6⟩) (meth := k24m6) (c := k24c6) (by decide +kernel) rfl rfl rfl (by decide +kernel)
theorem w_c43 : (Jvm.Cond.code ⟨s8_, "addLast", "(Ljava/lang/Object;)V"⟩ jdk_21_method_13_code 3 none).before args0 about1 = true := code_word (m := ⟨24, 3⟩) (meth := k24m3) (c := k24c3) (by decide +kernel) rfl rfl rfl (by decide +kernel)
theorem w_c44 : (Jvm.Cond.code ⟨s8_, "inc", "(II)I"⟩ jdk_21_method_6_code 2 (Option.some Jvm.ClassFile.FieldType.int)).before args0 about1 = true := code_word (m := ⟨24, 1⟩) (meth := k24m1) (c := k24c1) (by decide +kernel) rfl rfl rfl (by decide +kernel)
theorem w_c45 : (Jvm.Cond.code ⟨s8_, "remove", "()Ljava/lang/Object;"⟩ jdk_21_method_30_code 1 (Option.some (Jvm.ClassFile.FieldType.object "java/lang/Object"))).before args0 about1 = true := code_word (m := ⟨24, 7⟩) (meth := k24m7) (c := k24c7) (by decide +kernel) rfl rfl rfl (by decide +kernel)
theorem w_c46 : (Jvm.Cond.code ⟨s8_, "removeFirst", "()Ljava/lang/Object;"⟩ jdk_21_method_18_code 2 (Option.some (Jvm.ClassFile.FieldType.object "java/lang/Object"))).before args0 about1 = true := code_word (m := ⟨24, 4⟩) (meth := k24m4) (c := k24c4) (by decide +kernel) rfl rfl rfl (by decide +kernel)
theorem w_c47 : (Jvm.Cond.code ⟨s8_, "pollFirst", "()Ljava/lang/Object;"⟩ jdk_21_method_20_code 4 (Option.some (Jvm.ClassFile.FieldType.object "java/lang/Object"))).before args0 about1 = true := code_word (m := ⟨24, 5⟩) (meth := k24m5) (c := k24c5) (by decide +kernel) rfl rfl rfl (by decide +kernel)
theorem w_c48 : (Jvm.Cond.code ⟨s8_, "elementAt", "([Ljava/lang/Object;I)Ljava/lang/Object;"⟩ jdk_21_method_10_code 2 (Option.some (Jvm.ClassFile.FieldType.object "java/lang/Object"))).before args0 about1 = true := code_word (m := ⟨24, 2⟩) (meth := k24m2) (c := k24c2) (by decide +kernel) rfl rfl rfl (by decide +kernel)
theorem w_c49 : (Jvm.Cond.code ⟨"java/lang/Integer", "intValue", "()I"⟩ jdk_33_method_27_code 1 (Option.some Jvm.ClassFile.FieldType.int)).before args0 about1 = true := code_word (m := ⟨30, 1⟩) (meth := k30m1) (c := k30c1) (by decide +kernel) rfl rfl rfl (by decide +kernel)
def codes1 : List Jvm.Cond := [Jvm.Cond.code x code maxLocals ret, Jvm.Cond.code ⟨s9_, "<init>", "()V"⟩ jdk_38_method_2_code 1 none, Jvm.Cond.code ⟨s7_, "<init>", "()V"⟩ jdk_39_method_1_code 1 none, Jvm.Cond.code ⟨"java/util/AbstractCollection", "<init>", "()V"⟩ jdk_22_method_1_code 1 none, Jvm.Cond.code ⟨"java/lang/Object", "<init>", "()V"⟩ object_method_1_code 1 none, Jvm.Cond.code ⟨s9_, "add", "(Ljava/lang/Object;)Z"⟩ jdk_38_method_25_code 2 (Option.some Jvm.ClassFile.FieldType.boolean), Jvm.Cond.code ⟨s9_, "add", "(Ljava/lang/Object;[Ljava/lang/Object;I)V"⟩ jdk_38_method_24_code 4 none, Jvm.Cond.code ⟨s9_, "grow", "()[Ljava/lang/Object;"⟩ jdk_38_method_7_code 1 (Option.some (Jvm.ClassFile.FieldType.array (Jvm.ClassFile.FieldType.object "java/lang/Object"))), Jvm.Cond.code ⟨s9_, "grow", "(I)[Ljava/lang/Object;"⟩ jdk_38_method_6_code 4 (Option.some (Jvm.ClassFile.FieldType.array (Jvm.ClassFile.FieldType.object "java/lang/Object"))), Jvm.Cond.code ⟨"java/lang/Math", "max", "(II)I"⟩ jdk_29_method_65_code 2 (Option.some Jvm.ClassFile.FieldType.int), Jvm.Cond.code ⟨s0_, "pipe", "(IIZZ)Lcom/example/hydromeme/hydromeme/Network$Pipe;"⟩ method_3_code 4 (Option.some (Jvm.ClassFile.FieldType.object s1_)), Jvm.Cond.code ⟨s1_, "<init>", "(Ljava/lang/String;IIDDDZ)V"⟩ prog_35_method_1_code 11 none, Jvm.Cond.code ⟨"java/lang/Record", "<init>", "()V"⟩ jdk_30_method_1_code 1 none, Jvm.Cond.code ⟨s0_, "arm", "(Ljava/util/ArrayList;IIIZZZ)V"⟩ method_4_code 7 none, Jvm.Cond.code ⟨s5_, "<init>", "(Ljava/util/List;Ljava/util/List;Ljava/util/List;Lcom/example/hydromeme/hydromeme/FlowUnits;Lcom/example/hydromeme/hydromeme/HeadLoss;D)V"⟩ prog_33_method_1_code 8 none, Jvm.Cond.code ⟨s4_, "<init>", "(Lcom/example/hydromeme/hydromeme/Network;)V"⟩ prog_58_method_1_code 28 none, Jvm.Cond.code ⟨s5_, "junctions", "()Ljava/util/List;"⟩ prog_33_method_6_code 1 (Option.some (Jvm.ClassFile.FieldType.object s11_)), Jvm.Cond.code ⟨s9_, "size", "()I"⟩ jdk_38_method_8_code 1 (Option.some Jvm.ClassFile.FieldType.int), Jvm.Cond.code ⟨s5_, "reservoirs", "()Ljava/util/List;"⟩ prog_33_method_7_code 1 (Option.some (Jvm.ClassFile.FieldType.object s11_)), Jvm.Cond.code ⟨s4_, "incidence", "(Lcom/example/hydromeme/hydromeme/Network;I)[[I"⟩ prog_58_method_16_code 6 (Option.some (Jvm.ClassFile.FieldType.array (Jvm.ClassFile.FieldType.array Jvm.ClassFile.FieldType.int))), Jvm.Cond.code ⟨s5_, "pipes", "()Ljava/util/List;"⟩ prog_33_method_8_code 1 (Option.some (Jvm.ClassFile.FieldType.object s11_)), Jvm.Cond.code ⟨s9_, "iterator", "()Ljava/util/Iterator;"⟩ jdk_38_method_55_code 1 (Option.some (Jvm.ClassFile.FieldType.object s10_)), Jvm.Cond.code ⟨s6_, "<init>", "(Ljava/util/ArrayList;)V"⟩ jdk_49_method_1_code 2 none, Jvm.Cond.code ⟨s6_, "hasNext", "()Z"⟩ jdk_49_method_2_code 1 (Option.some Jvm.ClassFile.FieldType.boolean), Jvm.Cond.code ⟨s6_, "next", "()Ljava/lang/Object;"⟩ jdk_49_method_3_code 3 (Option.some (Jvm.ClassFile.FieldType.object "java/lang/Object")), Jvm.Cond.code ⟨s6_, "checkForComodification", "()V"⟩ jdk_49_method_6_code 1 none, Jvm.Cond.code ⟨s1_, "open", "()Z"⟩ prog_35_method_11_code 1 (Option.some Jvm.ClassFile.FieldType.boolean), Jvm.Cond.code ⟨s1_, "from", "()I"⟩ prog_35_method_6_code 1 (Option.some Jvm.ClassFile.FieldType.int), Jvm.Cond.code ⟨s1_, "to", "()I"⟩ prog_35_method_7_code 1 (Option.some Jvm.ClassFile.FieldType.int), Jvm.Cond.code ⟨"java/util/Arrays", "fill", "([II)V"⟩ jdk_65_method_103_code 4 none, Jvm.Cond.code ⟨s9_, "get", "(I)Ljava/lang/Object;"⟩ jdk_38_method_20_code 2 (Option.some (Jvm.ClassFile.FieldType.object "java/lang/Object")), Jvm.Cond.code ⟨"java/util/Objects", "checkIndex", "(II)I"⟩ jdk_31_method_17_code 2 (Option.some Jvm.ClassFile.FieldType.int), Jvm.Cond.code ⟨"jdk/internal/util/Preconditions", "checkIndex", "(IILjava/util/function/BiFunction;)I"⟩ jdk_41_method_11_code 3 (Option.some Jvm.ClassFile.FieldType.int), Jvm.Cond.code ⟨s9_, "elementData", "(I)Ljava/lang/Object;"⟩ jdk_38_method_18_code 2 (Option.some (Jvm.ClassFile.FieldType.object "java/lang/Object")), Jvm.Cond.code ⟨s8_, "<init>", "()V"⟩ jdk_21_method_3_code 1 none, Jvm.Cond.code ⟨s8_, "isEmpty", "()Z"⟩ jdk_21_method_38_code 1 (Option.some Jvm.ClassFile.FieldType.boolean), Jvm.Cond.code ⟨"java/util/Arrays", "copyOf", "([II)[I"⟩ jdk_65_method_123_code 3 (Option.some (Jvm.ClassFile.FieldType.array Jvm.ClassFile.FieldType.int)), Jvm.Cond.code ⟨"java/lang/Math", "min", "(II)I"⟩ jdk_29_method_69_code 2 (Option.some Jvm.ClassFile.FieldType.int), Jvm.Cond.code ⟨s4_, "otherEnd", "(Lcom/example/hydromeme/hydromeme/Network;II)I"⟩ prog_58_method_18_code 4 (Option.some Jvm.ClassFile.FieldType.int), Jvm.Cond.code ⟨s4_, "remaining", "([I[Z)I"⟩ prog_58_method_17_code 6 (Option.some Jvm.ClassFile.FieldType.int), Jvm.Cond.code ⟨s4_, "chainEnd", "(I)I"⟩ prog_58_method_8_code 2 (Option.some Jvm.ClassFile.FieldType.int), Jvm.Cond.code ⟨"java/lang/Integer", "valueOf", "(I)Ljava/lang/Integer;"⟩ jdk_33_method_22_code 1 (Option.some (Jvm.ClassFile.FieldType.object "java/lang/Integer")), Jvm.Cond.code ⟨s8_, "add", "(Ljava/lang/Object;)Z"⟩ jdk_21_method_28_code 2 (Option.some Jvm.ClassFile.FieldType.boolean), Jvm.Cond.code ⟨s8_, "addLast", "(Ljava/lang/Object;)V"⟩ jdk_21_method_13_code 3 none, Jvm.Cond.code ⟨s8_, "inc", "(II)I"⟩ jdk_21_method_6_code 2 (Option.some Jvm.ClassFile.FieldType.int), Jvm.Cond.code ⟨s8_, "remove", "()Ljava/lang/Object;"⟩ jdk_21_method_30_code 1 (Option.some (Jvm.ClassFile.FieldType.object "java/lang/Object")), Jvm.Cond.code ⟨s8_, "removeFirst", "()Ljava/lang/Object;"⟩ jdk_21_method_18_code 2 (Option.some (Jvm.ClassFile.FieldType.object "java/lang/Object")), Jvm.Cond.code ⟨s8_, "pollFirst", "()Ljava/lang/Object;"⟩ jdk_21_method_20_code 4 (Option.some (Jvm.ClassFile.FieldType.object "java/lang/Object")), Jvm.Cond.code ⟨s8_, "elementAt", "([Ljava/lang/Object;I)Ljava/lang/Object;"⟩ jdk_21_method_10_code 2 (Option.some (Jvm.ClassFile.FieldType.object "java/lang/Object")), Jvm.Cond.code ⟨"java/lang/Integer", "intValue", "()I"⟩ jdk_33_method_27_code 1 (Option.some Jvm.ClassFile.FieldType.int)]
theorem codes_eq : words1.filter isCode = codes1 := rfl
theorem w_codes : ∀ c ∈ words1.filter isCode, c.before args0 about1 = true := by
  rw [codes_eq]
  intro c hc
  simp only [codes1, List.mem_cons, List.not_mem_nil, or_false] at hc
  rcases hc with rfl | rfl | rfl | rfl | rfl | rfl | rfl | rfl | rfl | rfl | rfl | rfl | rfl | rfl | rfl | rfl | rfl | rfl | rfl | rfl | rfl | rfl | rfl | rfl | rfl | rfl | rfl | rfl | rfl | rfl | rfl | rfl | rfl | rfl | rfl | rfl | rfl | rfl | rfl | rfl | rfl | rfl | rfl | rfl | rfl | rfl | rfl | rfl | rfl | rfl
  · exact w_c0
  · exact w_c1
  · exact w_c2
  · exact w_c3
  · exact w_c4
  · exact w_c5
  · exact w_c6
  · exact w_c7
  · exact w_c8
  · exact w_c9
  · exact w_c10
  · exact w_c11
  · exact w_c12
  · exact w_c13
  · exact w_c14
  · exact w_c15
  · exact w_c16
  · exact w_c17
  · exact w_c18
  · exact w_c19
  · exact w_c20
  · exact w_c21
  · exact w_c22
  · exact w_c23
  · exact w_c24
  · exact w_c25
  · exact w_c26
  · exact w_c27
  · exact w_c28
  · exact w_c29
  · exact w_c30
  · exact w_c31
  · exact w_c32
  · exact w_c33
  · exact w_c34
  · exact w_c35
  · exact w_c36
  · exact w_c37
  · exact w_c38
  · exact w_c39
  · exact w_c40
  · exact w_c41
  · exact w_c42
  · exact w_c43
  · exact w_c44
  · exact w_c45
  · exact w_c46
  · exact w_c47
  · exact w_c48
  · exact w_c49
theorem w_t1 : (words1.take 24).all (fun c => isCode c || c.before args0 about1) = true := by decide +kernel
theorem w_t2 : ((words1.drop 24).take 24).all (fun c => isCode c || c.before args0 about1) = true := by decide +kernel
theorem w_t3 : (((words1.drop 24).drop 24).take 24).all (fun c => isCode c || c.before args0 about1) = true := by decide +kernel
theorem w_t4 : ((((words1.drop 24).drop 24).drop 24).take 24).all (fun c => isCode c || c.before args0 about1) = true := by decide +kernel
theorem w_t5 : (((((words1.drop 24).drop 24).drop 24).drop 24).take 24).all (fun c => isCode c || c.before args0 about1) = true := by decide +kernel
theorem w_t6 : ((((((words1.drop 24).drop 24).drop 24).drop 24).drop 24).take 24).all (fun c => isCode c || c.before args0 about1) = true := by decide +kernel
theorem w_t7 : (((((((words1.drop 24).drop 24).drop 24).drop 24).drop 24).drop 24).take 24).all (fun c => isCode c || c.before args0 about1) = true := by decide +kernel
theorem w_t8 : ((((((((words1.drop 24).drop 24).drop 24).drop 24).drop 24).drop 24).drop 24).take 24).all (fun c => isCode c || c.before args0 about1) = true := by decide +kernel
theorem w_t9 : (((((((((words1.drop 24).drop 24).drop 24).drop 24).drop 24).drop 24).drop 24).drop 24).take 24).all (fun c => isCode c || c.before args0 about1) = true := by decide +kernel
theorem w_t10 : ((((((((((words1.drop 24).drop 24).drop 24).drop 24).drop 24).drop 24).drop 24).drop 24).drop 24).take 24).all (fun c => isCode c || c.before args0 about1) = true := by decide +kernel
theorem w_t11 : (((((((((((words1.drop 24).drop 24).drop 24).drop 24).drop 24).drop 24).drop 24).drop 24).drop 24).drop 24).take 24).all (fun c => isCode c || c.before args0 about1) = true := by decide +kernel
theorem w_t12 : ((((((((((((words1.drop 24).drop 24).drop 24).drop 24).drop 24).drop 24).drop 24).drop 24).drop 24).drop 24).drop 24).take 24).all (fun c => isCode c || c.before args0 about1) = true := by decide +kernel
theorem w_t13 : (((((((((((((words1.drop 24).drop 24).drop 24).drop 24).drop 24).drop 24).drop 24).drop 24).drop 24).drop 24).drop 24).drop 24).take 24).all (fun c => isCode c || c.before args0 about1) = true := by decide +kernel
theorem w_t14 : ((((((((((((((words1.drop 24).drop 24).drop 24).drop 24).drop 24).drop 24).drop 24).drop 24).drop 24).drop 24).drop 24).drop 24).drop 24).take 24).all (fun c => isCode c || c.before args0 about1) = true := by decide +kernel
theorem w_t15 : ((((((((((((((words1.drop 24).drop 24).drop 24).drop 24).drop 24).drop 24).drop 24).drop 24).drop 24).drop 24).drop 24).drop 24).drop 24).drop 24).all (fun c => isCode c || c.before args0 about1) = true := by decide +kernel
theorem w_tables : (allAtoms (Jvm.Cond.code x code maxLocals ret :: tables_1)).before args0 about1 = true := by
  rw [allAtoms_all]
  show words1.all (fun c => c.before args0 about1) = true
  refine all_split ?_ w_codes
  rw [← List.take_append_drop 24 words1, List.all_append, w_t1, ← List.take_append_drop 24 (words1.drop 24), List.all_append, w_t2, ← List.take_append_drop 24 ((words1.drop 24).drop 24), List.all_append, w_t3, ← List.take_append_drop 24 (((words1.drop 24).drop 24).drop 24), List.all_append, w_t4, ← List.take_append_drop 24 ((((words1.drop 24).drop 24).drop 24).drop 24), List.all_append, w_t5, ← List.take_append_drop 24 (((((words1.drop 24).drop 24).drop 24).drop 24).drop 24), List.all_append, w_t6, ← List.take_append_drop 24 ((((((words1.drop 24).drop 24).drop 24).drop 24).drop 24).drop 24), List.all_append, w_t7, ← List.take_append_drop 24 (((((((words1.drop 24).drop 24).drop 24).drop 24).drop 24).drop 24).drop 24), List.all_append, w_t8, ← List.take_append_drop 24 ((((((((words1.drop 24).drop 24).drop 24).drop 24).drop 24).drop 24).drop 24).drop 24), List.all_append, w_t9, ← List.take_append_drop 24 (((((((((words1.drop 24).drop 24).drop 24).drop 24).drop 24).drop 24).drop 24).drop 24).drop 24), List.all_append, w_t10, ← List.take_append_drop 24 ((((((((((words1.drop 24).drop 24).drop 24).drop 24).drop 24).drop 24).drop 24).drop 24).drop 24).drop 24), List.all_append, w_t11, ← List.take_append_drop 24 (((((((((((words1.drop 24).drop 24).drop 24).drop 24).drop 24).drop 24).drop 24).drop 24).drop 24).drop 24).drop 24), List.all_append, w_t12, ← List.take_append_drop 24 ((((((((((((words1.drop 24).drop 24).drop 24).drop 24).drop 24).drop 24).drop 24).drop 24).drop 24).drop 24).drop 24).drop 24), List.all_append, w_t13, ← List.take_append_drop 24 (((((((((((((words1.drop 24).drop 24).drop 24).drop 24).drop 24).drop 24).drop 24).drop 24).drop 24).drop 24).drop 24).drop 24).drop 24), List.all_append, w_t14, w_t15]
  rfl
theorem w_rest : rest_1_c.before args0 about1 = true := by decide +kernel
theorem w_case : (Jvm.Cond.and given_1 narrow_1).before args0 about1 = true := by decide +kernel
theorem w_applies : (headSpec (Jvm.Cond.code x code maxLocals ret :: tables_1) room_1).applies x e0.platform about1 = true :=
  (Spec.applies_iff w_frames).mpr ⟨w_running, w_runnable, w_alone, w_named, w_hears, w_ripe, w_room, w_tables⟩
theorem atStart : AtStart classFile x code maxLocals ret World_1 tables_1 room_1 Calls_1 rest_1 Pre_1 launch0 p0 e0 about1 theMethod args0 below0 :=
  ⟨lists_1, trivial, launch0.admits_env _ _ _, launch0.least_env, fairChoices_fair.cas, fairChoices_fair.clock, w_frames, w_args, w_heap, w_applies, trivial, w_rest, w_case⟩
end start1
theorem witness_1 : WitnessClaimed_1 := ⟨start1.p0, start1.e0, start1.about1, start1.theMethod, start1.args0, start1.below0, start1.atStart⟩
end Jvm.Pilot.@@N@@
