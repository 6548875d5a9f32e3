/- md5.blockGeneric: the state in the digest behind whole blocks. The function has 1058 slots: its lines by the lemmas of YtcmopgfagooboaaDoorLines, its other parts by the walk. -/
import Derived.Test.YtcmopgfagooboaaDoorLines
import Derived.BigRegion
import Derived.Deep.LoopGhost
import Derived.Deep.Cut
namespace Go.Proofs.YtcmopgfagooboaaDoor
open Go.RowKit
open Md5 (W H4)

/-- the cells from 'off' on of block b hold these bytes -/
def Bytes (w : World) (b off : Nat) (L : List UInt8) : Prop := ∀ j, j < L.length → w.cell? ⟨b, off + j, none⟩ = some (.int .u8 ((L.getD j 0).toNat : Nat))

theorem le_or (p0 p1 p2 p3 : UInt8) :
    bits BinOp.or .u32 (bits BinOp.or .u32 (bits BinOp.or .u32 (p0.toNat : Int) ((p1.toNat : Int) * 256)) ((p2.toNat : Int) * 65536)) ((p3.toNat : Int) * 16777216) = (((Md5.le p0 p1 p2 p3).toNat : Nat) : Int) := by
  have h0 := p0.toNat_lt
  have h1 := p1.toNat_lt
  have h2 := p2.toNat_lt
  have h3 := p3.toNat_lt
  have hle : (Md5.le p0 p1 p2 p3).toNat = p0.toNat + 256 * p1.toNat + 65536 * p2.toNat + 16777216 * p3.toNat := by
    unfold Md5.le
    rw [BitVec.toNat_ofNat]
    omega
  rw [hle]
  generalize p0.toNat = p0 at *
  generalize p1.toNat = p1 at *
  generalize p2.toNat = p2 at *
  generalize p3.toNat = p3 at *
  have f1 : p0 ||| p1 * 256 = p0 + 256 * p1 := by
    rw [Nat.or_comm, Nat.mul_comm, show 256 = 2 ^ 8 by decide, ← Nat.two_pow_add_eq_or_of_lt (by omega)]; omega
  have f2 : (p0 + 256 * p1) ||| p2 * 65536 = p0 + 256 * p1 + 65536 * p2 := by
    rw [Nat.or_comm, Nat.mul_comm, show 65536 = 2 ^ 16 by decide, ← Nat.two_pow_add_eq_or_of_lt (by omega)]; omega
  have f3 : (p0 + 256 * p1 + 65536 * p2) ||| p3 * 16777216 = p0 + 256 * p1 + 65536 * p2 + 16777216 * p3 := by
    rw [Nat.or_comm, Nat.mul_comm, show 16777216 = 2 ^ 24 by decide, ← Nat.two_pow_add_eq_or_of_lt (by omega)]; omega
  have e1 : bits BinOp.or .u32 (p0 : Int) ((p1 : Int) * 256) = ((p0 + 256 * p1 : Nat) : Int) := by
    rw [← f1]; exact u32_or_nat p0 (p1 * 256) (by omega) (by omega)
  have e2 : bits BinOp.or .u32 ((p0 + 256 * p1 : Nat) : Int) ((p2 : Int) * 65536) = ((p0 + 256 * p1 + 65536 * p2 : Nat) : Int) := by
    rw [← f2]; exact u32_or_nat _ (p2 * 65536) (by omega) (by omega)
  have e3 : bits BinOp.or .u32 ((p0 + 256 * p1 + 65536 * p2 : Nat) : Int) ((p3 : Int) * 16777216) = ((p0 + 256 * p1 + 65536 * p2 + 16777216 * p3 : Nat) : Int) := by
    rw [← f3]; exact u32_or_nat _ (p3 * 16777216) (by omega) (by omega)
  rw [e1, e2, e3]
/-- md5.leUint32 -/
theorem le_any (b off n cap : Nat) (p0 p1 p2 p3 : UInt8) (w : World) (hn : 4 ≤ n)
    (c0 : w.cell? ⟨b, off, none⟩ = some (.int .u8 (p0.toNat : Nat))) (c1 : w.cell? ⟨b, off + 1, none⟩ = some (.int .u8 (p1.toNat : Nat))) (c2 : w.cell? ⟨b, off + 2, none⟩ = some (.int .u8 (p2.toNat : Nat))) (c3 : w.cell? ⟨b, off + 3, none⟩ = some (.int .u8 (p3.toNat : Nat))) :
    Calls Tryd.prog 22 #[.slice (some ⟨b, off, none⟩) n cap] w fun e w' => e = .returned (U (Md5.le p0 p1 p2 p3)) ∧ ∃ q, w' = w.drewN q := by
  have H := Lib.hid (le_or p0 p1 p2 p3)
  have h0 := p0.toNat_lt
  have h1 := p1.toNat_lt
  have h2 := p2.toNat_lt
  have h3 := p3.toNat_lt
  generalize Md5.le p0 p1 p2 p3 = z at H ⊢
  go_enter Tryd.func22, Tryd.ntmps22
  go_wp2
  go_quiet (fail)
  go_wp2
  go_ret
  exact ⟨ret_u32 H.out, _, rfl⟩

set_option maxRecDepth 1000000 in
/-- a frame written out -/
theorem written {a : Act} {f : Nat → Value} (h : Live a f) : ∃ r : Nat → Value, a = { tmps := #[f 0, f 1, f 2, f 3, f 4, f 5, f 6, f 7, f 8, f 9, f 10, f 11, f 12, f 13, f 14, f 15, f 16, f 17, f 18, f 19, f 20, f 21, f 22, f 23, f 24, f 25, f 26, f 27, f 28, f 29, r 30, r 31, r 32, r 33, r 34, r 35, r 36, r 37, r 38, r 39, r 40, r 41, r 42, r 43, r 44, r 45, r 46, r 47, r 48, r 49, r 50, r 51, r 52, r 53, r 54, r 55, r 56, r 57, r 58, r 59, r 60, r 61, r 62, r 63, r 64, r 65, r 66, r 67, r 68, r 69, r 70, r 71, r 72, r 73, r 74, r 75, r 76, r 77, r 78, r 79, r 80, r 81, r 82, r 83, r 84, r 85, r 86, r 87, r 88, r 89, r 90, r 91, r 92, r 93, r 94, r 95, r 96, r 97, r 98, r 99, r 100, r 101, r 102, r 103, r 104, r 105, r 106, r 107, r 108, r 109, r 110, r 111, r 112, r 113, r 114, r 115, r 116, r 117, r 118, r 119, r 120, r 121, r 122, r 123, r 124, r 125, r 126, r 127, r 128, r 129, r 130, r 131, r 132, r 133, r 134, r 135, r 136, r 137, r 138, r 139, r 140, r 141, r 142, r 143, r 144, r 145, r 146, r 147, r 148, r 149, r 150, r 151, r 152, r 153, r 154, r 155, r 156, r 157, r 158, r 159, r 160, r 161, r 162, r 163, r 164, r 165, r 166, r 167, r 168, r 169, r 170, r 171, r 172, r 173, r 174, r 175, r 176, r 177, r 178, r 179, r 180, r 181, r 182, r 183, r 184, r 185, r 186, r 187, r 188, r 189, r 190, r 191, r 192, r 193, r 194, r 195, r 196, r 197, r 198, r 199, r 200, r 201, r 202, r 203, r 204, r 205, r 206, r 207, r 208, r 209, r 210, r 211, r 212, r 213, r 214, r 215, r 216, r 217, r 218, r 219, r 220, r 221, r 222, r 223, r 224, r 225, r 226, r 227, r 228, r 229, r 230, r 231, r 232, r 233, r 234, r 235, r 236, r 237, r 238, r 239, r 240, r 241, r 242, r 243, r 244, r 245, r 246, r 247, r 248, r 249, r 250, r 251, r 252, r 253, r 254, r 255, r 256, r 257, r 258, r 259, r 260, r 261, r 262, r 263, r 264, r 265, r 266, r 267, r 268, r 269, r 270, r 271, r 272, r 273, r 274, r 275, r 276, r 277, r 278, r 279, r 280, r 281, r 282, r 283, r 284, r 285, r 286, r 287, r 288, r 289, r 290, r 291, r 292, r 293, r 294, r 295, r 296, r 297, r 298, r 299, r 300, r 301, r 302, r 303, r 304, r 305, r 306, r 307, r 308, r 309, r 310, r 311, r 312, r 313, r 314, r 315, r 316, r 317, r 318, r 319, r 320, r 321, r 322, r 323, r 324, r 325, r 326, r 327, r 328, r 329, r 330, r 331, r 332, r 333, r 334, r 335, r 336, r 337, r 338, r 339, r 340, r 341, r 342, r 343, r 344, r 345, r 346, r 347, r 348, r 349, r 350, r 351, r 352, r 353, r 354, r 355, r 356, r 357, r 358, r 359, r 360, r 361, r 362, r 363, r 364, r 365, r 366, r 367, r 368, r 369, r 370, r 371, r 372, r 373, r 374, r 375, r 376, r 377, r 378, r 379, r 380, r 381, r 382, r 383, r 384, r 385, r 386, r 387, r 388, r 389, r 390, r 391, r 392, r 393, r 394, r 395, r 396, r 397, r 398, r 399, r 400, r 401, r 402, r 403, r 404, r 405, r 406, r 407, r 408, r 409, r 410, r 411, r 412, r 413, r 414, r 415, r 416, r 417, r 418, r 419, r 420, r 421, r 422, r 423, r 424, r 425, r 426, r 427, r 428, r 429, r 430, r 431, r 432, r 433, r 434, r 435, r 436, r 437, r 438, r 439, r 440, r 441, r 442, r 443, r 444, r 445, r 446, r 447, r 448, r 449, r 450, r 451, r 452, r 453, r 454, r 455, r 456, r 457, r 458, r 459, r 460, r 461, r 462, r 463, r 464, r 465, r 466, r 467, r 468, r 469, r 470, r 471, r 472, r 473, r 474, r 475, r 476, r 477, r 478, r 479, r 480, r 481, r 482, r 483, r 484, r 485, r 486, r 487, r 488, r 489, r 490, r 491, r 492, r 493, r 494, r 495, r 496, r 497, r 498, r 499, r 500, r 501, r 502, r 503, r 504, r 505, r 506, r 507, r 508, r 509, r 510, r 511, r 512, r 513, r 514, r 515, r 516, r 517, r 518, r 519, r 520, r 521, r 522, r 523, r 524, r 525, r 526, r 527, r 528, r 529, r 530, r 531, r 532, r 533, r 534, r 535, r 536, r 537, r 538, r 539, r 540, r 541, r 542, r 543, r 544, r 545, r 546, r 547, r 548, r 549, r 550, r 551, r 552, r 553, r 554, r 555, r 556, r 557, r 558, r 559, r 560, r 561, r 562, r 563, r 564, r 565, r 566, r 567, r 568, r 569, r 570, r 571, r 572, r 573, r 574, r 575, r 576, r 577, r 578, r 579, r 580, r 581, r 582, r 583, r 584, r 585, r 586, r 587, r 588, r 589, r 590, r 591, r 592, r 593, r 594, r 595, r 596, r 597, r 598, r 599, r 600, r 601, r 602, r 603, r 604, r 605, r 606, r 607, r 608, r 609, r 610, r 611, r 612, r 613, r 614, r 615, r 616, r 617, r 618, r 619, r 620, r 621, r 622, r 623, r 624, r 625, r 626, r 627, r 628, r 629, r 630, r 631, r 632, r 633, r 634, r 635, r 636, r 637, r 638, r 639, r 640, r 641, r 642, r 643, r 644, r 645, r 646, r 647, r 648, r 649, r 650, r 651, r 652, r 653, r 654, r 655, r 656, r 657, r 658, r 659, r 660, r 661, r 662, r 663, r 664, r 665, r 666, r 667, r 668, r 669, r 670, r 671, r 672, r 673, r 674, r 675, r 676, r 677, r 678, r 679, r 680, r 681, r 682, r 683, r 684, r 685, r 686, r 687, r 688, r 689, r 690, r 691, r 692, r 693, r 694, r 695, r 696, r 697, r 698, r 699, r 700, r 701, r 702, r 703, r 704, r 705, r 706, r 707, r 708, r 709, r 710, r 711, r 712, r 713, r 714, r 715, r 716, r 717, r 718, r 719, r 720, r 721, r 722, r 723, r 724, r 725, r 726, r 727, r 728, r 729, r 730, r 731, r 732, r 733, r 734, r 735, r 736, r 737, r 738, r 739, r 740, r 741, r 742, r 743, r 744, r 745, r 746, r 747, r 748, r 749, r 750, r 751, r 752, r 753, r 754, r 755, r 756, r 757, r 758, r 759, r 760, r 761, r 762, r 763, r 764, r 765, r 766, r 767, r 768, r 769, r 770, r 771, r 772, r 773, r 774, r 775, r 776, r 777, r 778, r 779, r 780, r 781, r 782, r 783, r 784, r 785, r 786, r 787, r 788, r 789, r 790, r 791, r 792, r 793, r 794, r 795, r 796, r 797, r 798, r 799, r 800, r 801, r 802, r 803, r 804, r 805, r 806, r 807, r 808, r 809, r 810, r 811, r 812, r 813, r 814, r 815, r 816, r 817, r 818, r 819, r 820, r 821, r 822, r 823, r 824, r 825, r 826, r 827, r 828, r 829, r 830, r 831, r 832, r 833, r 834, r 835, r 836, r 837, r 838, r 839, r 840, r 841, r 842, r 843, r 844, r 845, r 846, r 847, r 848, r 849, r 850, r 851, r 852, r 853, r 854, r 855, r 856, r 857, r 858, r 859, r 860, r 861, r 862, r 863, r 864, r 865, r 866, r 867, r 868, r 869, r 870, r 871, r 872, r 873, r 874, r 875, r 876, r 877, r 878, r 879, r 880, r 881, r 882, r 883, r 884, r 885, r 886, r 887, r 888, r 889, r 890, r 891, r 892, r 893, r 894, r 895, r 896, r 897, r 898, r 899, r 900, r 901, r 902, r 903, r 904, r 905, r 906, r 907, r 908, r 909, r 910, r 911, r 912, r 913, r 914, r 915, r 916, r 917, r 918, r 919, r 920, r 921, r 922, r 923, r 924, r 925, r 926, r 927, r 928, r 929, r 930, r 931, r 932, r 933, r 934, r 935, r 936, r 937, r 938, r 939, r 940, r 941, r 942, r 943, r 944, r 945, r 946, r 947, r 948, r 949, r 950, r 951, r 952, r 953, r 954, r 955, r 956, r 957, r 958, r 959, r 960, r 961, r 962, r 963, r 964, r 965, r 966, r 967, r 968, r 969, r 970, r 971, r 972, r 973, r 974, r 975, r 976, r 977, r 978, r 979, r 980, r 981, r 982, r 983, r 984, r 985, r 986, r 987, r 988, r 989, r 990, r 991, r 992, r 993, r 994, r 995, r 996, r 997, r 998, r 999, r 1000, r 1001, r 1002, r 1003, r 1004, r 1005, r 1006, r 1007, r 1008, r 1009, r 1010, r 1011, r 1012, r 1013, r 1014, r 1015, r 1016, r 1017, r 1018, r 1019, r 1020, r 1021, r 1022, r 1023, r 1024, r 1025, r 1026, r 1027, r 1028, r 1029, r 1030, r 1031, r 1032, r 1033, r 1034, r 1035, r 1036, r 1037, r 1038, r 1039, r 1040, r 1041, r 1042, r 1043, r 1044, r 1045, r 1046, r 1047, r 1048, r 1049, r 1050, r 1051, r 1052, r 1053, r 1054, r 1055, r 1056, r 1057], defers := [] } := by
  refine ⟨fun k => a.tmps.getD k undef, ?_⟩
  rw [← h.get 0 (by decide), ← h.get 1 (by decide), ← h.get 2 (by decide), ← h.get 3 (by decide), ← h.get 4 (by decide), ← h.get 5 (by decide), ← h.get 6 (by decide), ← h.get 7 (by decide), ← h.get 8 (by decide), ← h.get 9 (by decide), ← h.get 10 (by decide), ← h.get 11 (by decide), ← h.get 12 (by decide), ← h.get 13 (by decide), ← h.get 14 (by decide), ← h.get 15 (by decide), ← h.get 16 (by decide), ← h.get 17 (by decide), ← h.get 18 (by decide), ← h.get 19 (by decide), ← h.get 20 (by decide), ← h.get 21 (by decide), ← h.get 22 (by decide), ← h.get 23 (by decide), ← h.get 24 (by decide), ← h.get 25 (by decide), ← h.get 26 (by decide), ← h.get 27 (by decide), ← h.get 28 (by decide), ← h.get 29 (by decide)]
  have e : a.tmps = ((List.range 1058).map fun k => a.tmps.getD k undef).toArray := by
    apply Array.ext
    · rw [h.size]; simp [N]
    · intro i h1 h2
      simp [Array.getD, h1]
  have d : a.defers = [] := h.defers
  obtain ⟨t, ds⟩ := a
  simp only at d e
  subst d
  exact congrArg (fun t => Act.mk t []) e
end Go.Proofs.YtcmopgfagooboaaDoor
