/- Joined: IrR, ReA, ReF, ReG, ReH, ReI, ReJ, ReK. -/
import Derived.Test.YtbpogapddpacoaaGreatDoorKrC
section
namespace Go.Proofs.YtbpogapddpacoaaGreatDoor
open Go Go.Vc
set_option maxRecDepth 100000
set_option maxHeartbeats 8000000
theorem c66_:compF Tryz.prog 66=some (.mk (sr [gg 2 (.mov (.k (.float FloatKind.f64 0)))] (sr [gm 5 0,gg 6 (.xcl 92 (.t 5)),gm 3 6] (sr [gm 7 3,gg 8 (.bik .shr .u64 (.t 7) 52),gg 9 (.bin .and (.t 8) (xk .u64 2047)),gm 4 9] (.cut (sr [gm 10 4,gg 11 (.bin .lss (.t 10) (xk .u64 1023))] (.cond (.t 11) (sr [gm 12 3,gg 13 (.bin .and (.t 12) (xk .u64 9223372036854775808)),gm 3 13] (sr [gm 14 4,gg 15 (.bin .eql (.t 14) (xk .u64 1022))] (.cond (.t 15) (.reg [gm 16 3,gg 17 (.bin .or (.t 16) (xk .u64 4607182418800017408)),gm 3 17]) .skip))) (sr [gm 18 4,gg 19 (.bin .lss (.t 18) (xk .u64 1075))] (.cond (.t 19) (sr [gm 20 4,gg 21 (.bin .sub (.t 20) (xk .u64 1023)),gm 4 21] (sr [gm 22 3,gm 23 4,gg 24 (.bin .shr (xk .u64 2251799813685248) (.t 23)),gg 25 (.bin .add (.t 22) (.t 24)),gm 3 25] (.reg [gm 26 3,gm 27 4,gg 28 (.bin .shr (xk .u64 4503599627370495) (.t 27)),gg 29 (.bin .andNot (.t 26) (.t 28)),gm 3 29]))) .skip)))) (sr [gm 30 3,gg 31 (.xcl 93 (.t 30)),gm 2 31] .ret))))) 1 [(.t 2)]):=by kernel_rfl
theorem c23_:compF Tryz.prog 23=some (.mk (sr [gg 2 (.mov (xk .i16 0))] (sr [gm 4 0,gg 5 (.bin .mul (.t 4) (.k (.float FloatKind.f32 1191182336))),gg 6 (.cvf FloatKind.f64 (.t 5)),gg 7 (.call 66 [(.t 6)]),gm 3 7] (.cut (sr [gm 8 3,gg 9 (.bin .lss (.t 8) (.k (.float FloatKind.f64 13898108450065350656)))] (.cond (.t 9) (.reg [gg 3 (.mov (.k (.float FloatKind.f64 13898108450065350656)))]) (sr [gm 10 3,gg 11 (.bin .gtr (.t 10) (.k (.float FloatKind.f64 4674736138332667904)))] (.cond (.t 11) (.reg [gg 3 (.mov (.k (.float FloatKind.f64 4674736138332667904)))]) .skip)))) (sr [gm 12 3,gg 13 (.cfi .i16 (.t 12)),gm 2 13] .ret)))) 1 [(.t 2)]):=by kernel_rfl
theorem c64_:compF Tryz.prog 64=some (.mk (sr [gg 4 (.mov (xk .i32 0))] (sr [gm 5 0,gg 6 (.bik .shr .u64 (.t 5) 16),gm 7 1,gg 8 (.cvi .i16 (.t 7)),gg 9 (.cvi .i32 (.t 8)),gg 10 (.bin .mul (.t 6) (.t 9)),gm 11 0,gg 12 (.cvi .u32 (.t 11)),gg 13 (.bin .and (.t 12) (xk .u32 65535)),gg 14 (.cvi .i32 (.t 13)),gg 15 (.cvi .i64 (.t 14)),gm 16 1,gg 17 (.cvi .i16 (.t 16)),gg 18 (.cvi .i32 (.t 17)),gg 19 (.cvi .i64 (.t 18)),gg 20 (.bin .mul (.t 15) (.t 19)),gg 21 (.bik .shr .u64 (.t 20) 16),gg 22 (.cvi .i32 (.t 21)),gg 23 (.bin .add (.t 10) (.t 22)),gm 4 23] .ret)) 2 [(.t 4)]):=by kernel_rfl
theorem c65_:compF Tryz.prog 65=some (.mk (sr [gg 4 (.mov (xk .i32 0))] (.cut (sr [gm 5 1,gg 6 (.bin .eql (.t 5) (xk .i64 1))] (.cond (.t 6) (sr [gm 7 0,gg 8 (.bik .shr .u64 (.t 7) 1),gm 9 0,gg 10 (.bin .and (.t 9) (xk .i32 1)),gg 11 (.bin .add (.t 8) (.t 10)),gm 4 11] .ret) .skip)) (sr [gm 12 0,gm 13 1,gg 14 (.bin .sub (.t 13) (xk .i64 1)),gg 15 (.bin .shr (.t 12) (.t 14)),gg 16 (.bin .add (.t 15) (xk .i32 1)),gg 17 (.bik .shr .u64 (.t 16) 1),gm 4 17] .ret))) 2 [(.t 4)]):=by kernel_rfl
theorem c67_:compF Tryz.prog 67=some (.mk (sr [gg 6 (.mov (xk .i32 0))] (sr [gm 7 0,gm 8 1,gm 9 2,gg 10 (.call 64 [(.t 8),(.t 9)]),gg 11 (.bin .add (.t 7) (.t 10)),gm 6 11] .ret)) 3 [(.t 6)]):=by kernel_rfl
theorem c68_:compF Tryz.prog 68=some (.mk (sr [gg 2 (.mov (xk .i16 0))] (.cut (sr [gm 3 0,gg 4 (.bin .gtr (.t 3) (xk .i32 32767))] (.cond (.t 4) (sr [gg 2 (.mov (xk .i16 32767))] .ret) .skip)) (.cut (sr [gm 5 0,gg 6 (.bin .lss (.t 5) (.k (.int .i32 (-32768))))] (.cond (.t 6) (sr [gg 2 (.mov (.k (.int .i16 (-32768))))] .ret) .skip)) (sr [gm 7 0,gg 8 (.cvi .i16 (.t 7)),gm 2 8] .ret)))) 1 [(.t 2)]):=by kernel_rfl
theorem c94_:compF Tryz.prog 94=some (.mk (sr [gg 4 (.mov (xk .i32 0))] (sr [gm 5 0,gg 6 (.cvi .i16 (.t 5)),gg 7 (.cvi .i32 (.t 6)),gm 8 1,gg 9 (.cvi .i16 (.t 8)),gg 10 (.cvi .i32 (.t 9)),gg 11 (.bin .mul (.t 7) (.t 10)),gm 4 11] .ret)) 2 [(.t 4)]):=by kernel_rfl
theorem c95_:compF Tryz.prog 95=some (.mk (sr [gg 6 (.mov (xk .i32 0))] (sr [gm 7 0,gm 8 1,gm 9 2,gg 10 (.call 94 [(.t 8),(.t 9)]),gg 11 (.bin .add (.t 7) (.t 10)),gm 6 11] .ret)) 3 [(.t 6)]):=by kernel_rfl
theorem c22_:compF Tryz.prog 22=some (.mk (sr [gg 4 (.mov (xk .i32 0))] (sr [gm 5 0,gm 6 1,gg 7 (.call 64 [(.t 5),(.t 6)]),gm 8 0,gm 9 1,gg 10 (.call 65 [(.t 9),(xk .i64 16)]),gg 11 (.bin .mul (.t 8) (.t 10)),gg 12 (.bin .add (.t 7) (.t 11)),gm 4 12] .ret)) 2 [(.t 4)]):=by kernel_rfl
theorem c20_:compF Tryz.prog 20=some (.mk (sr [gg 2 (.mov (xk .i64 0)),gg 3 (.mov (.k .nilIface))] (sr [gm 4 0] (.block 0 (sr [gg 7 (.bin .eql (.t 4) (xk .i64 8000)),gm 6 7] (.cond (.t 6) (sr [gg 2 (.mov (xk .i64 0)),gg 3 (.mov (.k .nilIface))] .ret) (sr [gg 9 (.bin .eql (.t 4) (xk .i64 12000)),gm 8 9] (.cond (.t 8) (sr [gg 2 (.mov (xk .i64 1)),gg 3 (.mov (.k .nilIface))] .ret) (sr [gg 11 (.bin .eql (.t 4) (xk .i64 16000)),gm 10 11] (.cond (.t 10) (sr [gg 2 (.mov (xk .i64 2)),gg 3 (.mov (.k .nilIface))] .ret) (.seq (.drw [(.mk (gg 5 (.ld (.k (.pointer (some (Addr.mk 8 0 none)))) none)) 0 true []),(.mk (gg 2 (.mov (xk .i64 0))) 1 true []),(.mk (gm 3 5) 2 true [])]) .ret)))))))))) 1 [(.t 2),(.t 3)]):=by kernel_rfl
theorem c21_:compF Tryz.prog 21=some (.mk (sr [gg 2 (.mov (xk .i64 0)),gg 3 (.mov (.k .nilIface))] (sr [gm 4 0] (.block 0 (sr [gg 7 (.bin .eql (.t 4) (xk .i64 8000)),gm 6 7] (.cond (.t 6) (sr [gg 2 (.mov (xk .i64 0)),gg 3 (.mov (.k .nilIface))] .ret) (sr [gg 9 (.bin .eql (.t 4) (xk .i64 12000)),gm 8 9] (.cond (.t 8) (sr [gg 2 (.mov (xk .i64 1)),gg 3 (.mov (.k .nilIface))] .ret) (sr [gg 11 (.bin .eql (.t 4) (xk .i64 16000)),gm 10 11] (.cond (.t 10) (sr [gg 2 (.mov (xk .i64 2)),gg 3 (.mov (.k .nilIface))] .ret) (sr [gg 13 (.bin .eql (.t 4) (xk .i64 24000)),gm 12 13] (.cond (.t 12) (sr [gg 2 (.mov (xk .i64 3)),gg 3 (.mov (.k .nilIface))] .ret) (sr [gg 15 (.bin .eql (.t 4) (xk .i64 48000)),gm 14 15] (.cond (.t 14) (sr [gg 2 (.mov (xk .i64 4)),gg 3 (.mov (.k .nilIface))] .ret) (.seq (.drw [(.mk (gg 5 (.ld (.k (.pointer (some (Addr.mk 7 0 none)))) none)) 0 true []),(.mk (gg 2 (.mov (xk .i64 0))) 1 true []),(.mk (gm 3 5) 2 true [])]) .ret)))))))))))))) 1 [(.t 2),(.t 3)]):=by kernel_rfl
theorem c13_:compF Tryz.prog 13=some (.mk (sr [gg 6 (.mov (.k .nilIface))] (sr [gm 21 0,gg 22 (.nil (.t 21)),gg 23 (.ffa (.t 22) 107),gg 24 (.ld (.t 23) none),gg 25 (.slc (.t 24) none (some (xk .i64 0)) 1),gm 7 25] (sr [gm 26 0,gg 27 (.nil (.t 26)),gg 28 (.ffa (.t 27) 108),gg 29 (.ld (.t 28) none),gg 30 (.slc (.t 29) none (some (xk .i64 0)) 1),gm 8 30] (sr [gm 31 0,gg 32 (.nil (.t 31)),gg 33 (.ffa (.t 32) 109),gg 34 (.ld (.t 33) none),gg 35 (.slc (.t 34) none (some (xk .i64 0)) 1),gm 9 35] (sr [gm 36 0,gg 37 (.nil (.t 36)),gg 38 (.ffa (.t 37) 110),gg 39 (.ld (.t 38) none),gg 40 (.slc (.t 39) none (some (xk .i64 0)) 1),gm 10 40] (sr [gm 41 0,gm 42 7,gm 43 8,gm 44 9,gm 45 10,gg 46 (.bld [(.int .i32 ((0:Nat):Int)),(.int .i32 ((0:Nat):Int)),(.int .i32 ((0:Nat):Int)),(.int .i32 ((0:Nat):Int)),(.int .i32 ((0:Nat):Int)),(.int .i32 ((0:Nat):Int)),(.int .i32 ((0:Nat):Int)),(.int .i32 ((0:Nat):Int)),(.int .i32 ((0:Nat):Int)),(.int .i32 ((0:Nat):Int)),(.int .i32 ((0:Nat):Int)),(.int .i32 ((0:Nat):Int)),(.int .i32 ((0:Nat):Int)),(.int .i32 ((0:Nat):Int)),(.int .i32 ((0:Nat):Int)),(.int .i32 ((0:Nat):Int)),(.int .i32 ((0:Nat):Int)),(.int .i32 ((0:Nat):Int)),(.int .i32 ((0:Nat):Int)),(.int .i32 ((0:Nat):Int)),(.int .i32 ((0:Nat):Int)),(.int .i32 ((0:Nat):Int)),(.int .i32 ((0:Nat):Int)),(.int .i32 ((0:Nat):Int)),(.int .i32 ((0:Nat):Int)),(.int .i32 ((0:Nat):Int)),(.int .i32 ((0:Nat):Int)),(.int .i32 ((0:Nat):Int)),(.int .i32 ((0:Nat):Int)),(.int .i32 ((0:Nat):Int)),(.int .i32 ((0:Nat):Int)),(.int .i32 ((0:Nat):Int)),(.int .i32 ((0:Nat):Int)),(.int .i32 ((0:Nat):Int)),(.int .i32 ((0:Nat):Int)),(.int .i32 ((0:Nat):Int)),(.int .i32 ((0:Nat):Int)),(.int .i32 ((0:Nat):Int)),(.int .i32 ((0:Nat):Int)),(.int .i32 ((0:Nat):Int)),(.int .i32 ((0:Nat):Int)),(.int .i32 ((0:Nat):Int)),(.int .i16 ((0:Nat):Int)),(.int .i16 ((0:Nat):Int)),(.int .i16 ((0:Nat):Int)),(.int .i16 ((0:Nat):Int)),(.int .i16 ((0:Nat):Int)),(.int .i16 ((0:Nat):Int)),(.int .i16 ((0:Nat):Int)),(.int .i16 ((0:Nat):Int)),(.int .i16 ((0:Nat):Int)),(.int .i16 ((0:Nat):Int)),(.int .i16 ((0:Nat):Int)),(.int .i16 ((0:Nat):Int)),(.int .i16 ((0:Nat):Int)),(.int .i16 ((0:Nat):Int)),(.int .i16 ((0:Nat):Int)),(.int .i16 ((0:Nat):Int)),(.int .i16 ((0:Nat):Int)),(.int .i16 ((0:Nat):Int)),(.int .i16 ((0:Nat):Int)),(.int .i16 ((0:Nat):Int)),(.int .i16 ((0:Nat):Int)),(.int .i16 ((0:Nat):Int)),(.int .i16 ((0:Nat):Int)),(.int .i16 ((0:Nat):Int)),(.int .i16 ((0:Nat):Int)),(.int .i16 ((0:Nat):Int)),(.int .i16 ((0:Nat):Int)),(.int .i16 ((0:Nat):Int)),(.int .i16 ((0:Nat):Int)),(.int .i16 ((0:Nat):Int)),(.int .i16 ((0:Nat):Int)),(.int .i16 ((0:Nat):Int)),(.int .i16 ((0:Nat):Int)),(.int .i16 ((0:Nat):Int)),(.int .i16 ((0:Nat):Int)),(.int .i16 ((0:Nat):Int)),(.int .i16 ((0:Nat):Int)),(.int .i16 ((0:Nat):Int)),(.int .i16 ((0:Nat):Int)),(.int .i16 ((0:Nat):Int)),(.int .i16 ((0:Nat):Int)),(.int .i16 ((0:Nat):Int)),(.int .i16 ((0:Nat):Int)),(.int .i16 ((0:Nat):Int)),(.int .i16 ((0:Nat):Int)),(.int .i16 ((0:Nat):Int)),(.int .i16 ((0:Nat):Int)),(.int .i16 ((0:Nat):Int)),(.int .i16 ((0:Nat):Int)),(.int .i16 ((0:Nat):Int)),(.int .i16 ((0:Nat):Int)),(.int .i16 ((0:Nat):Int)),(.int .i16 ((0:Nat):Int)),(.int .i16 ((0:Nat):Int)),(.int .i16 ((0:Nat):Int)),(.int .i16 ((0:Nat):Int)),(.int .i64 ((0:Nat):Int)),(.int .i64 ((0:Nat):Int)),(.int .i32 ((0:Nat):Int)),(.int .i64 ((0:Nat):Int)),(.int .i64 ((0:Nat):Int)),(.int .i64 ((0:Nat):Int)),(.int .i64 ((0:Nat):Int)),(.int .i64 ((0:Nat):Int)),(.slice none 0 0),(.slice none 0 0),(.slice none 0 0),(.slice none 0 0),(.slice none 0 0)] [(107,(1,(.t 42))),(108,(1,(.t 43))),(109,(1,(.t 44))),(110,(1,(.t 45)))]),gg 47 (.nil (.t 41)),(G.mk none none (.st (.t 47) (.t 46) 111))] (sr [gm 49 1,gg 50 (.call 20 [(.t 49)]),gm 48 50,gg 51 (.ext (.t 48) 0),gg 52 (.ext (.t 48) 1),gm 11 51,gm 12 52] (.cut (sr [gm 53 12,gg 54 (.inl true (.t 53))] (.cond (.t 54) (sr [gm 55 12,gm 6 55] .ret) .skip)) (sr [gm 57 2,gg 58 (.call 21 [(.t 57)]),gm 56 58,gg 59 (.ext (.t 56) 0),gg 60 (.ext (.t 56) 1),gm 13 59,gm 12 60] (.cut (sr [gm 61 12,gg 62 (.inl true (.t 61))] (.cond (.t 62) (sr [gm 63 12,gm 6 63] .ret) .skip)) (sr [gm 64 0,gm 65 11,gm 66 13,gg 67 (.iaa (.k (.pointer (some (Addr.mk 0 0 none)))) (.t 65) 5 3),gg 68 (.iaa (.t 67) (.t 66) 1 5),gg 69 (.ld (.t 68) none),gg 70 (.nil (.t 64)),gg 71 (.ffa (.t 70) 105),(G.mk none none (.st (.t 71) (.t 69) 1))] (sr [gm 72 0,gm 73 1,gg 74 (.bik .quo .i64 (.t 73) 1000),gg 75 (.nil (.t 72)),gg 76 (.ffa (.t 75) 103),(G.mk none none (.st (.t 76) (.t 74) 1))] (sr [gm 77 0,gm 78 2,gg 79 (.bik .quo .i64 (.t 78) 1000),gg 80 (.nil (.t 77)),gg 81 (.ffa (.t 80) 104),(G.mk none none (.st (.t 81) (.t 79) 1))] (sr [gm 82 0,gm 83 0,gg 84 (.nil (.t 83)),gg 85 (.ffa (.t 84) 103),gg 86 (.ld (.t 85) none),gg 87 (.bin .mul (.t 86) (xk .i64 10)),gg 88 (.nil (.t 82)),gg 89 (.ffa (.t 88) 99),(G.mk none none (.st (.t 89) (.t 87) 1))] (sr [gg 14 (.mov (xk .i64 0))] (.cut (.block 0 (sr [gm 94 2,gm 95 1,gg 96 (.bin .gtr (.t 94) (.t 95)),gm 93 96] (.cond (.t 93) (sr [gm 97 2,gm 98 1,gg 99 (.bin .mul (.t 98) (xk .i64 2)),gg 100 (.bin .eql (.t 97) (.t 99))] (.cond (.t 100) (.reg [gm 101 0,gg 102 (.nil (.t 101)),gg 103 (.ffa (.t 102) 98),(G.mk none none (.st (.t 103) (xk .i64 1) 1))]) (sr [gm 104 0,gg 105 (.nil (.t 104)),gg 106 (.ffa (.t 105) 98),(G.mk none none (.st (.t 106) (xk .i64 2) 1))] (.reg [gg 14 (.mov (xk .i64 1))])))) (sr [gm 108 2,gm 109 1,gg 110 (.bin .lss (.t 108) (.t 109)),gm 107 110] (.cond (.t 107) (sr [gm 111 0,gg 112 (.nil (.t 111)),gg 113 (.ffa (.t 112) 98),(G.mk none none (.st (.t 113) (xk .i64 3) 1))] (.block 1 (sr [gm 116 2,gg 117 (.bin .mul (.t 116) (xk .i64 4)),gm 118 1,gg 119 (.bin .mul (.t 118) (xk .i64 3)),gg 120 (.bin .eql (.t 117) (.t 119)),gm 115 120] (.cond (.t 115) (sr [gm 121 0,gg 122 (.nil (.t 121)),gg 123 (.ffa (.t 122) 102),(G.mk none none (.st (.t 123) (xk .i64 3) 1))] (sr [gm 124 0,gg 125 (.nil (.t 124)),gg 126 (.ffa (.t 125) 101),(G.mk none none (.st (.t 126) (xk .i64 18) 1))] (sr [gg 127 (.ld (.k (.pointer (some (Addr.mk 1 0 none)))) (some 29)),gg 15 (.ala 74 [(.int .i16 ((0:Nat):Int)),(.int .i16 ((0:Nat):Int)),(.int .i16 ((0:Nat):Int)),(.int .i16 ((0:Nat):Int)),(.int .i16 ((0:Nat):Int)),(.int .i16 ((0:Nat):Int)),(.int .i16 ((0:Nat):Int)),(.int .i16 ((0:Nat):Int)),(.int .i16 ((0:Nat):Int)),(.int .i16 ((0:Nat):Int)),(.int .i16 ((0:Nat):Int)),(.int .i16 ((0:Nat):Int)),(.int .i16 ((0:Nat):Int)),(.int .i16 ((0:Nat):Int)),(.int .i16 ((0:Nat):Int)),(.int .i16 ((0:Nat):Int)),(.int .i16 ((0:Nat):Int)),(.int .i16 ((0:Nat):Int)),(.int .i16 ((0:Nat):Int)),(.int .i16 ((0:Nat):Int)),(.int .i16 ((0:Nat):Int)),(.int .i16 ((0:Nat):Int)),(.int .i16 ((0:Nat):Int)),(.int .i16 ((0:Nat):Int)),(.int .i16 ((0:Nat):Int)),(.int .i16 ((0:Nat):Int)),(.int .i16 ((0:Nat):Int)),(.int .i16 ((0:Nat):Int)),(.int .i16 ((0:Nat):Int))]),(G.mk none none (.st (.t 15) (.t 127) 29))] (.reg [gm 128 0,gg 129 (.sll (.t 15) none 1 29),gg 130 (.nil (.t 128)),gg 131 (.ffa (.t 130) 106),(G.mk none none (.st (.t 131) (.t 129) 1))])))) (sr [gm 133 2,gg 134 (.bin .mul (.t 133) (xk .i64 3)),gm 135 1,gg 136 (.bin .mul (.t 135) (xk .i64 2)),gg 137 (.bin .eql (.t 134) (.t 136)),gm 132 137] (.cond (.t 132) (sr [gm 138 0,gg 139 (.nil (.t 138)),gg 140 (.ffa (.t 139) 102),(G.mk none none (.st (.t 140) (xk .i64 2) 1))] (sr [gm 141 0,gg 142 (.nil (.t 141)),gg 143 (.ffa (.t 142) 101),(G.mk none none (.st (.t 143) (xk .i64 18) 1))] (sr [gg 144 (.ld (.k (.pointer (some (Addr.mk 2 0 none)))) (some 20)),gg 16 (.ala 75 [(.int .i16 ((0:Nat):Int)),(.int .i16 ((0:Nat):Int)),(.int .i16 ((0:Nat):Int)),(.int .i16 ((0:Nat):Int)),(.int .i16 ((0:Nat):Int)),(.int .i16 ((0:Nat):Int)),(.int .i16 ((0:Nat):Int)),(.int .i16 ((0:Nat):Int)),(.int .i16 ((0:Nat):Int)),(.int .i16 ((0:Nat):Int)),(.int .i16 ((0:Nat):Int)),(.int .i16 ((0:Nat):Int)),(.int .i16 ((0:Nat):Int)),(.int .i16 ((0:Nat):Int)),(.int .i16 ((0:Nat):Int)),(.int .i16 ((0:Nat):Int)),(.int .i16 ((0:Nat):Int)),(.int .i16 ((0:Nat):Int)),(.int .i16 ((0:Nat):Int)),(.int .i16 ((0:Nat):Int))]),(G.mk none none (.st (.t 16) (.t 144) 20))] (.reg [gm 145 0,gg 146 (.sll (.t 16) none 1 20),gg 147 (.nil (.t 145)),gg 148 (.ffa (.t 147) 106),(G.mk none none (.st (.t 148) (.t 146) 1))])))) (sr [gm 150 2,gg 151 (.bin .mul (.t 150) (xk .i64 2)),gm 152 1,gg 153 (.bin .eql (.t 151) (.t 152)),gm 149 153] (.cond (.t 149) (sr [gm 154 0,gg 155 (.nil (.t 154)),gg 156 (.ffa (.t 155) 102),(G.mk none none (.st (.t 156) (xk .i64 1) 1))] (sr [gm 157 0,gg 158 (.nil (.t 157)),gg 159 (.ffa (.t 158) 101),(G.mk none none (.st (.t 159) (xk .i64 24) 1))] (sr [gg 160 (.ld (.k (.pointer (some (Addr.mk 3 0 none)))) (some 14)),gg 17 (.ala 76 [(.int .i16 ((0:Nat):Int)),(.int .i16 ((0:Nat):Int)),(.int .i16 ((0:Nat):Int)),(.int .i16 ((0:Nat):Int)),(.int .i16 ((0:Nat):Int)),(.int .i16 ((0:Nat):Int)),(.int .i16 ((0:Nat):Int)),(.int .i16 ((0:Nat):Int)),(.int .i16 ((0:Nat):Int)),(.int .i16 ((0:Nat):Int)),(.int .i16 ((0:Nat):Int)),(.int .i16 ((0:Nat):Int)),(.int .i16 ((0:Nat):Int)),(.int .i16 ((0:Nat):Int))]),(G.mk none none (.st (.t 17) (.t 160) 14))] (.reg [gm 161 0,gg 162 (.sll (.t 17) none 1 14),gg 163 (.nil (.t 161)),gg 164 (.ffa (.t 163) 106),(G.mk none none (.st (.t 164) (.t 162) 1))])))) (sr [gm 166 2,gg 167 (.bin .mul (.t 166) (xk .i64 3)),gm 168 1,gg 169 (.bin .eql (.t 167) (.t 168)),gm 165 169] (.cond (.t 165) (sr [gm 170 0,gg 171 (.nil (.t 170)),gg 172 (.ffa (.t 171) 102),(G.mk none none (.st (.t 172) (xk .i64 1) 1))] (sr [gm 173 0,gg 174 (.nil (.t 173)),gg 175 (.ffa (.t 174) 101),(G.mk none none (.st (.t 175) (xk .i64 36) 1))] (sr [gg 176 (.ld (.k (.pointer (some (Addr.mk 4 0 none)))) (some 20)),gg 18 (.ala 75 [(.int .i16 ((0:Nat):Int)),(.int .i16 ((0:Nat):Int)),(.int .i16 ((0:Nat):Int)),(.int .i16 ((0:Nat):Int)),(.int .i16 ((0:Nat):Int)),(.int .i16 ((0:Nat):Int)),(.int .i16 ((0:Nat):Int)),(.int .i16 ((0:Nat):Int)),(.int .i16 ((0:Nat):Int)),(.int .i16 ((0:Nat):Int)),(.int .i16 ((0:Nat):Int)),(.int .i16 ((0:Nat):Int)),(.int .i16 ((0:Nat):Int)),(.int .i16 ((0:Nat):Int)),(.int .i16 ((0:Nat):Int)),(.int .i16 ((0:Nat):Int)),(.int .i16 ((0:Nat):Int)),(.int .i16 ((0:Nat):Int)),(.int .i16 ((0:Nat):Int)),(.int .i16 ((0:Nat):Int))]),(G.mk none none (.st (.t 18) (.t 176) 20))] (.reg [gm 177 0,gg 178 (.sll (.t 18) none 1 20),gg 179 (.nil (.t 177)),gg 180 (.ffa (.t 179) 106),(G.mk none none (.st (.t 180) (.t 178) 1))])))) (sr [gm 182 2,gg 183 (.bin .mul (.t 182) (xk .i64 4)),gm 184 1,gg 185 (.bin .eql (.t 183) (.t 184)),gm 181 185] (.cond (.t 181) (sr [gm 186 0,gg 187 (.nil (.t 186)),gg 188 (.ffa (.t 187) 102),(G.mk none none (.st (.t 188) (xk .i64 1) 1))] (sr [gm 189 0,gg 190 (.nil (.t 189)),gg 191 (.ffa (.t 190) 101),(G.mk none none (.st (.t 191) (xk .i64 36) 1))] (sr [gg 192 (.ld (.k (.pointer (some (Addr.mk 5 0 none)))) (some 20)),gg 19 (.ala 75 [(.int .i16 ((0:Nat):Int)),(.int .i16 ((0:Nat):Int)),(.int .i16 ((0:Nat):Int)),(.int .i16 ((0:Nat):Int)),(.int .i16 ((0:Nat):Int)),(.int .i16 ((0:Nat):Int)),(.int .i16 ((0:Nat):Int)),(.int .i16 ((0:Nat):Int)),(.int .i16 ((0:Nat):Int)),(.int .i16 ((0:Nat):Int)),(.int .i16 ((0:Nat):Int)),(.int .i16 ((0:Nat):Int)),(.int .i16 ((0:Nat):Int)),(.int .i16 ((0:Nat):Int)),(.int .i16 ((0:Nat):Int)),(.int .i16 ((0:Nat):Int)),(.int .i16 ((0:Nat):Int)),(.int .i16 ((0:Nat):Int)),(.int .i16 ((0:Nat):Int)),(.int .i16 ((0:Nat):Int))]),(G.mk none none (.st (.t 19) (.t 192) 20))] (.reg [gm 193 0,gg 194 (.sll (.t 19) none 1 20),gg 195 (.nil (.t 193)),gg 196 (.ffa (.t 195) 106),(G.mk none none (.st (.t 196) (.t 194) 1))])))) (sr [gm 198 2,gg 199 (.bin .mul (.t 198) (xk .i64 6)),gm 200 1,gg 201 (.bin .eql (.t 199) (.t 200)),gm 197 201] (.cond (.t 197) (sr [gm 202 0,gg 203 (.nil (.t 202)),gg 204 (.ffa (.t 203) 102),(G.mk none none (.st (.t 204) (xk .i64 1) 1))] (sr [gm 205 0,gg 206 (.nil (.t 205)),gg 207 (.ffa (.t 206) 101),(G.mk none none (.st (.t 207) (xk .i64 36) 1))] (sr [gg 208 (.ld (.k (.pointer (some (Addr.mk 6 0 none)))) (some 20)),gg 20 (.ala 75 [(.int .i16 ((0:Nat):Int)),(.int .i16 ((0:Nat):Int)),(.int .i16 ((0:Nat):Int)),(.int .i16 ((0:Nat):Int)),(.int .i16 ((0:Nat):Int)),(.int .i16 ((0:Nat):Int)),(.int .i16 ((0:Nat):Int)),(.int .i16 ((0:Nat):Int)),(.int .i16 ((0:Nat):Int)),(.int .i16 ((0:Nat):Int)),(.int .i16 ((0:Nat):Int)),(.int .i16 ((0:Nat):Int)),(.int .i16 ((0:Nat):Int)),(.int .i16 ((0:Nat):Int)),(.int .i16 ((0:Nat):Int)),(.int .i16 ((0:Nat):Int)),(.int .i16 ((0:Nat):Int)),(.int .i16 ((0:Nat):Int)),(.int .i16 ((0:Nat):Int)),(.int .i16 ((0:Nat):Int))]),(G.mk none none (.st (.t 20) (.t 208) 20))] (.reg [gm 209 0,gg 210 (.sll (.t 20) none 1 20),gg 211 (.nil (.t 209)),gg 212 (.ffa (.t 211) 106),(G.mk none none (.st (.t 212) (.t 210) 1))])))) (sr [gg 114 (.ld (.k (.pointer (some (Addr.mk 7 0 none)))) none),gm 6 114] .ret))))))))))))))) (.reg [gm 90 0,gg 91 (.nil (.t 90)),gg 92 (.ffa (.t 91) 98),(G.mk none none (.st (.t 92) (xk .i64 0) 1))])))))) (sr [gm 213 0,gm 214 1,gm 215 14,gg 216 (.bin .add (xk .i64 14) (.t 215)),gg 217 (.bin .shl (.t 214) (.t 216)),gm 218 2,gg 219 (.bin .quo (.t 217) (.t 218)),gg 220 (.cvi .i32 (.t 219)),gg 221 (.bik .shl .u64 (.t 220) 2),gg 222 (.nil (.t 213)),gg 223 (.ffa (.t 222) 100),(G.mk none none (.st (.t 223) (.t 221) 1))] (.cut (.block 2 (.loop (.seq (.seq (.drw [(.mk (gm 224 0) 0 true []),(.mk (gg 225 (.nil (.t 224))) 1 true []),(.mk (gg 226 (.ffa (.t 225) 100)) 2 true []),(.mk (gg 227 (.ld (.t 226) none)) 3 true []),(.mk (gm 228 2) 4 true []),(.mk (gg 229 (.cvi .i32 (.t 228))) 5 true []),(.mk (gm 231 1) 7 true []),(.mk (gm 232 14) 8 true []),(.mk (gg 233 (.bin .shl (.t 231) (.t 232))) 9 true []),(.mk (gg 234 (.cvi .i32 (.t 233))) 10 true []),(.mk (gg 230 (.call 22 [(.t 227),(.t 229)])) 6 false []),(.mk (gg 235 (.bin .lss (.t 230) (.t 234))) 11 true [])]) (.cond (.t 235) .skip (.exit 2))) (.block 3 (.reg [gm 236 0,gg 237 (.nil (.t 236)),gg 238 (.ffa (.t 237) 100),gg 239 (.ld (.t 238) none),gg 240 (.bin .add (.t 239) (xk .i32 1)),gg 241 (.nil (.t 236)),gg 242 (.ffa (.t 241) 100),(G.mk none none (.st (.t 242) (.t 240) 1))]))))) (sr [gg 6 (.mov (.k .nilIface))] .ret))))))))))))))))))) 3 [(.t 6)]):=by kernel_rfl
theorem c14_:compF Tryz.prog 14=some (.mk (sr [gg 6 (.mov (.k .nilIface))] (.cut (sr [gm 14 0,gg 15 (.nil (.t 14)),gg 16 (.ffa (.t 15) 103),gg 17 (.ld (.t 16) none),gg 18 (.bin .eql (.t 17) (xk .i64 0))] (.cond (.t 18) (sr [gg 19 (.ld (.k (.pointer (some (Addr.mk 8 0 none)))) none),gm 6 19] .ret) .skip)) (.cut (sr [gm 20 1,gg 21 (.len false (.t 20)),gm 22 0,gg 23 (.nil (.t 22)),gg 24 (.ffa (.t 23) 103),gg 25 (.ld (.t 24) none),gg 26 (.bin .lss (.t 21) (.t 25))] (.cond (.t 26) (sr [gg 27 (.ld (.k (.pointer (some (Addr.mk 9 0 none)))) none),gm 6 27] .ret) .skip)) (sr [gm 28 1,gg 29 (.len false (.t 28)),gm 30 0,gg 31 (.nil (.t 30)),gg 32 (.ffa (.t 31) 104),gg 33 (.ld (.t 32) none),gg 34 (.bin .mul (.t 29) (.t 33)),gm 7 34] (.cut (sr [gm 35 7,gm 36 0,gg 37 (.nil (.t 36)),gg 38 (.ffa (.t 37) 103),gg 39 (.ld (.t 38) none),gg 40 (.bin .rem (.t 35) (.t 39)),gg 41 (.bin .neq (.t 40) (xk .i64 0))] (.cond (.t 41) (sr [gg 42 (.ld (.k (.pointer (some (Addr.mk 10 0 none)))) none),gm 6 42] .ret) .skip)) (sr [gm 43 7,gm 44 0,gg 45 (.nil (.t 44)),gg 46 (.ffa (.t 45) 103),gg 47 (.ld (.t 46) none),gg 48 (.bin .quo (.t 43) (.t 47)),gm 7 48] (.cut (sr [gm 49 2,gg 50 (.len false (.t 49)),gm 51 7,gg 52 (.bin .lss (.t 50) (.t 51))] (.cond (.t 52) (sr [gg 53 (.ld (.k (.pointer (some (Addr.mk 11 0 none)))) none),gm 6 53] .ret) .skip)) (.cut (sr [gm 54 0,gg 55 (.nil (.t 54)),gg 56 (.ffa (.t 55) 107),gg 57 (.ld (.t 56) none),gg 58 (.cap (.t 57)),gm 59 1,gg 60 (.len false (.t 59)),gg 61 (.bin .lss (.t 58) (.t 60))] (.cond (.t 61) (.reg [gm 62 0,gm 63 1,gg 64 (.len false (.t 63)),gg 65 (.mks 29 1 2 [(.int .i16 ((0:Nat):Int))] (.t 64) (.t 64)),gg 66 (.nil (.t 62)),gg 67 (.ffa (.t 66) 107),(G.mk none none (.st (.t 67) (.t 65) 1))]) .skip)) (sr [gm 68 0,gg 69 (.nil (.t 68)),gg 70 (.ffa (.t 69) 107),gg 71 (.ld (.t 70) none),gm 72 1,gg 73 (.len false (.t 72)),gg 74 (.slc (.t 71) none (some (.t 73)) 1),gm 8 74] (.cut (sr [gm 75 1,gg 76 (.len false (.t 75)),gg 77 (.mov (xk .i64 0))] (.block 0 (.loop (sr [gg 78 (.bin .lss (.t 77) (.t 76))] (.seq (.cond (.t 78) .skip (.exit 0)) (.seq (.block 1 (sr [gm 79 77,gm 9 79] (.reg [gm 80 8,gm 81 9,gm 82 1,gm 83 9,gg 84 (.ia (.t 82) (.t 83) 1),gg 85 (.ld (.t 84) none),gg 86 (.call 23 [(.t 85)]),gg 87 (.ia (.t 80) (.t 81) 1),(G.mk none none (.st (.t 87) (.t 86) 1))]))) (.reg [gg 88 (.bin .add (.t 77) (xk .i64 1)),gm 77 88]))))))) (.cut (.seq (.drw [(.mk (gm 89 0) 0 true []),(.mk (gg 90 (.nil (.t 89))) 1 true []),(.mk (gg 91 (.ffa (.t 90) 108)) 2 true []),(.mk (gg 92 (.ld (.t 91) none)) 3 true []),(.mk (gg 93 (.cap (.t 92))) 4 true []),(.mk (gm 94 7) 5 true []),(.mk (gm 95 0) 6 true []),(.mk (gg 96 (.nil (.t 95))) 7 true []),(.mk (gg 97 (.ffa (.t 96) 104)) 8 true []),(.mk (gg 98 (.ld (.t 97) none)) 9 true []),(.mk (gg 99 (.bin .add (.t 94) (.t 98))) 10 true []),(.mk (gg 100 (.bin .lss (.t 93) (.t 99))) 11 true [])]) (.cond (.t 100) (.reg [gm 101 0,gm 102 7,gm 103 0,gg 104 (.nil (.t 103)),gg 105 (.ffa (.t 104) 104),gg 106 (.ld (.t 105) none),gg 107 (.bin .add (.t 102) (.t 106)),gg 108 (.mks 29 1 2 [(.int .i16 ((0:Nat):Int))] (.t 107) (.t 107)),gg 109 (.nil (.t 101)),gg 110 (.ffa (.t 109) 108),(G.mk none none (.st (.t 110) (.t 108) 1))]) .skip)) (.seq (.drw [(.mk (gm 111 0) 0 true []),(.mk (gg 112 (.nil (.t 111))) 1 true []),(.mk (gg 113 (.ffa (.t 112) 108)) 2 true []),(.mk (gg 114 (.ld (.t 113) none)) 3 true []),(.mk (gm 115 7) 4 true []),(.mk (gm 116 0) 5 true []),(.mk (gg 117 (.nil (.t 116))) 6 true []),(.mk (gg 118 (.ffa (.t 117) 104)) 7 true []),(.mk (gg 119 (.ld (.t 118) none)) 8 true []),(.mk (gg 120 (.bin .add (.t 115) (.t 119))) 9 true []),(.mk (gg 121 (.slc (.t 114) none (some (.t 120)) 1)) 10 false []),(.mk (gm 10 121) 11 true [])]) (sr [gm 122 10,(G.mk none none (.clr 1 [(.int .i16 ((0:Nat):Int))] (.t 122)))] (.seq (.drw [(.mk (gm 123 0) 0 true []),(.mk (gg 124 (.nil (.t 123))) 1 true []),(.mk (gg 125 (.ffa (.t 124) 103)) 2 true []),(.mk (gg 126 (.ld (.t 125) none)) 3 true []),(.mk (gm 127 0) 4 true []),(.mk (gg 128 (.nil (.t 127))) 5 true []),(.mk (gg 129 (.ffa (.t 128) 105)) 6 true []),(.mk (gg 130 (.ld (.t 129) none)) 7 true []),(.mk (gg 131 (.bin .sub (.t 126) (.t 130))) 8 true []),(.mk (gm 11 131) 9 true [])]) (sr [gm 132 8,gm 133 11,gm 134 8,gg 135 (.len false (.t 134)),gm 136 0,gg 137 (.nil (.t 136)),gg 138 (.ffa (.t 137) 105),gg 139 (.ld (.t 138) none),gg 140 (.bin .sub (.t 135) (.t 139)),gg 141 (.slq (.t 132) (some (.t 133)) (some (.t 140)) 1),gm 12 141] (.seq (.drw [(.mk (gm 142 0) 0 true []),(.mk (gg 143 (.nil (.t 142))) 1 true []),(.mk (gg 144 (.ffa (.t 143) 50)) 2 true []),(.mk (gm 145 0) 3 true []),(.mk (gg 146 (.nil (.t 145))) 4 true []),(.mk (gg 147 (.ffa (.t 146) 105)) 5 true []),(.mk (gg 148 (.ld (.t 147) none)) 6 true []),(.mk (gg 149 (.sla (.t 144) (some (.t 148)) none 1 48)) 7 true []),(.mk (gm 150 8) 8 true []),(.mk (gm 151 11) 9 true []),(.mk (gg 152 (.slc (.t 150) none (some (.t 151)) 1)) 10 false [6]),(.mk (gg 153 (.cpy 1 (.t 149) (.t 152))) 11 false [])]) (.cut (sr [gm 154 0,gg 155 (.nil (.t 154)),gg 156 (.ffa (.t 155) 98),gg 157 (.ld (.t 156) none)] (.block 2 (sr [gg 177 (.bin .eql (.t 157) (xk .i64 1)),gm 176 177] (.cond (.t 176) (.seq (.drw [(.mk (gm 178 0) 0 true []),(.mk (gm 179 10) 1 true []),(.mk (gm 180 0) 2 true []),(.mk (gg 181 (.nil (.t 180))) 3 true []),(.mk (gg 182 (.ffa (.t 181) 50)) 4 true []),(.mk (gm 183 0) 5 true []),(.mk (gg 184 (.nil (.t 183))) 6 true []),(.mk (gg 185 (.ffa (.t 184) 103)) 7 true []),(.mk (gg 186 (.ld (.t 185) none)) 8 true []),(.mk (gg 187 (.sll (.t 182) (some (.t 186)) 1 48)) 9 false []),(.mk (gg 188 (.call 24 [(.t 178),(.t 179),(.t 187)])) 10 false [])]) (.reg [gm 189 0,gm 190 10,gm 191 0,gg 192 (.nil (.t 191)),gg 193 (.ffa (.t 192) 104),gg 194 (.ld (.t 193) none),gg 195 (.slq (.t 190) (some (.t 194)) none 1),gm 196 12,gg 197 (.call 24 [(.t 189),(.t 195),(.t 196)])])) (sr [gg 199 (.bin .eql (.t 157) (xk .i64 2)),gm 198 199] (.cond (.t 198) (.seq (.drw [(.mk (gm 200 0) 0 true []),(.mk (gm 201 10) 1 true []),(.mk (gm 202 0) 2 true []),(.mk (gg 203 (.nil (.t 202))) 3 true []),(.mk (gg 204 (.ffa (.t 203) 50)) 4 true []),(.mk (gm 205 0) 5 true []),(.mk (gg 206 (.nil (.t 205))) 6 true []),(.mk (gg 207 (.ffa (.t 206) 103)) 7 true []),(.mk (gg 208 (.ld (.t 207) none)) 8 true []),(.mk (gg 209 (.sll (.t 204) (some (.t 208)) 1 48)) 9 false []),(.mk (gg 210 (.call 25 [(.t 200),(.t 201),(.t 209)])) 10 false [])]) (.reg [gm 211 0,gm 212 10,gm 213 0,gg 214 (.nil (.t 213)),gg 215 (.ffa (.t 214) 104),gg 216 (.ld (.t 215) none),gg 217 (.slq (.t 212) (some (.t 216)) none 1),gm 218 12,gg 219 (.call 25 [(.t 211),(.t 217),(.t 218)])])) (sr [gg 221 (.bin .eql (.t 157) (xk .i64 3)),gm 220 221] (.cond (.t 220) (.seq (.drw [(.mk (gm 222 0) 0 true []),(.mk (gm 223 10) 1 true []),(.mk (gm 224 0) 2 true []),(.mk (gg 225 (.nil (.t 224))) 3 true []),(.mk (gg 226 (.ffa (.t 225) 50)) 4 true []),(.mk (gm 227 0) 5 true []),(.mk (gg 228 (.nil (.t 227))) 6 true []),(.mk (gg 229 (.ffa (.t 228) 103)) 7 true []),(.mk (gg 230 (.ld (.t 229) none)) 8 true []),(.mk (gg 231 (.sll (.t 226) (some (.t 230)) 1 48)) 9 false []),(.mk (gg 232 (.call 26 [(.t 222),(.t 223),(.t 231)])) 10 false [])]) (.reg [gm 233 0,gm 234 10,gm 235 0,gg 236 (.nil (.t 235)),gg 237 (.ffa (.t 236) 104),gg 238 (.ld (.t 237) none),gg 239 (.slq (.t 234) (some (.t 238)) none 1),gm 240 12,gg 241 (.call 26 [(.t 233),(.t 239),(.t 240)])])) (.seq (.drw [(.mk (gm 158 10) 0 true []),(.mk (gm 159 0) 1 true []),(.mk (gg 160 (.nil (.t 159))) 2 true []),(.mk (gg 161 (.ffa (.t 160) 50)) 3 true []),(.mk (gm 162 0) 4 true []),(.mk (gg 163 (.nil (.t 162))) 5 true []),(.mk (gg 164 (.ffa (.t 163) 103)) 6 true []),(.mk (gg 165 (.ld (.t 164) none)) 7 true []),(.mk (gg 166 (.sll (.t 161) (some (.t 165)) 1 48)) 8 false []),(.mk (gg 167 (.cpy 1 (.t 158) (.t 166))) 9 false [])]) (.reg [gm 168 10,gm 169 0,gg 170 (.nil (.t 169)),gg 171 (.ffa (.t 170) 104),gg 172 (.ld (.t 171) none),gg 173 (.slq (.t 168) (some (.t 172)) none 1),gm 174 12,gg 175 (.cpy 1 (.t 173) (.t 174))])))))))))) (.seq (.drw [(.mk (gm 242 0) 0 true []),(.mk (gg 243 (.nil (.t 242))) 1 true []),(.mk (gg 244 (.ffa (.t 243) 50)) 2 true []),(.mk (gm 246 8) 4 true []),(.mk (gm 247 8) 5 true []),(.mk (gg 248 (.len false (.t 247))) 6 true []),(.mk (gm 249 0) 7 true []),(.mk (gg 250 (.nil (.t 249))) 8 true []),(.mk (gg 251 (.ffa (.t 250) 105)) 9 true []),(.mk (gg 252 (.ld (.t 251) none)) 10 true []),(.mk (gg 253 (.bin .sub (.t 248) (.t 252))) 11 true []),(.mk (gg 254 (.slq (.t 246) (some (.t 253)) none 1)) 12 true []),(.mk (gg 245 (.sll (.t 244) none 1 48)) 3 false [10]),(.mk (gg 255 (.cpy 1 (.t 245) (.t 254))) 13 false [])]) (.cut (sr [gm 256 7,gg 257 (.mov (xk .i64 0))] (.block 3 (.loop (sr [gg 258 (.bin .lss (.t 257) (.t 256))] (.seq (.cond (.t 258) .skip (.exit 3)) (.seq (.block 4 (sr [gm 259 257,gm 13 259] (.reg [gm 260 2,gm 261 13,gm 262 10,gm 263 13,gg 264 (.ia (.t 262) (.t 263) 1),gg 265 (.ld (.t 264) none),gg 266 (.cvf FloatKind.f32 (.t 265)),gg 267 (.bin .quo (.t 266) (.k (.float FloatKind.f32 1191182336))),gg 268 (.ia (.t 260) (.t 261) 1),(G.mk none none (.st (.t 268) (.t 267) 1))]))) (.reg [gg 269 (.bin .add (.t 257) (xk .i64 1)),gm 257 269]))))))) (sr [gg 6 (.mov (.k .nilIface))] .ret)))))))))))))))))))) 3 [(.t 6)]):=by kernel_rfl
theorem c24_:compF Tryz.prog 24=some (.mk (sr [gm 13 2,gg 14 (.len false (.t 13)),gg 15 (.mov (xk .i64 0))] (.block 0 (.loop (sr [gg 16 (.bin .lss (.t 15) (.t 14))] (.seq (.cond (.t 16) .skip (.exit 0)) (.seq (.block 1 (sr [gm 17 15,gm 6 17] (sr [gm 18 2,gm 19 6,gg 20 (.ia (.t 18) (.t 19) 1),gg 21 (.ld (.t 20) none),gg 22 (.cvi .i32 (.t 21)),gg 23 (.bik .shl .u64 (.t 22) 10),gm 7 23] (sr [gm 24 7,gm 25 0,gg 26 (.nil (.t 25)),gg 27 (.ffa (.t 26) 0),gg 28 (.iaa (.t 27) (xk .i64 0) 1 6),gg 29 (.ld (.t 28) none),gg 30 (.bin .sub (.t 24) (.t 29)),gm 8 30] (sr [gm 31 8,gg 32 (.iaa (.k (.pointer (some (Addr.mk 12 0 none)))) (xk .i64 0) 1 3),gg 33 (.ld (.t 32) none),gg 34 (.cvi .i32 (.t 33)),gg 35 (.call 64 [(.t 31),(.t 34)]),gm 9 35] (sr [gm 36 0,gg 37 (.nil (.t 36)),gg 38 (.ffa (.t 37) 0),gg 39 (.iaa (.t 38) (xk .i64 0) 1 6),gg 40 (.ld (.t 39) none),gm 41 9,gg 42 (.bin .add (.t 40) (.t 41)),gm 10 42] (sr [gm 43 0,gm 44 7,gm 45 9,gg 46 (.bin .add (.t 44) (.t 45)),gg 47 (.nil (.t 43)),gg 48 (.ffa (.t 47) 0),gg 49 (.iaa (.t 48) (xk .i64 0) 1 6),(G.mk none none (.st (.t 49) (.t 46) 1))] (sr [gm 50 10,gm 11 50] (sr [gm 51 11,gm 52 0,gg 53 (.nil (.t 52)),gg 54 (.ffa (.t 53) 0),gg 55 (.iaa (.t 54) (xk .i64 1) 1 6),gg 56 (.ld (.t 55) none),gg 57 (.bin .sub (.t 51) (.t 56)),gm 8 57] (sr [gm 58 8,gg 59 (.iaa (.k (.pointer (some (Addr.mk 12 0 none)))) (xk .i64 1) 1 3),gg 60 (.ld (.t 59) none),gg 61 (.cvi .i32 (.t 60)),gg 62 (.call 64 [(.t 58),(.t 61)]),gm 9 62] (sr [gm 63 0,gg 64 (.nil (.t 63)),gg 65 (.ffa (.t 64) 0),gg 66 (.iaa (.t 65) (xk .i64 1) 1 6),gg 67 (.ld (.t 66) none),gm 68 9,gg 69 (.bin .add (.t 67) (.t 68)),gm 10 69] (sr [gm 70 0,gm 71 11,gm 72 9,gg 73 (.bin .add (.t 71) (.t 72)),gg 74 (.nil (.t 70)),gg 75 (.ffa (.t 74) 0),gg 76 (.iaa (.t 75) (xk .i64 1) 1 6),(G.mk none none (.st (.t 76) (.t 73) 1))] (sr [gm 77 10,gm 12 77] (sr [gm 78 12,gm 79 0,gg 80 (.nil (.t 79)),gg 81 (.ffa (.t 80) 0),gg 82 (.iaa (.t 81) (xk .i64 2) 1 6),gg 83 (.ld (.t 82) none),gg 84 (.bin .sub (.t 78) (.t 83)),gm 8 84] (sr [gm 85 8,gm 86 8,gg 87 (.iaa (.k (.pointer (some (Addr.mk 12 0 none)))) (xk .i64 2) 1 3),gg 88 (.ld (.t 87) none),gg 89 (.cvi .i32 (.t 88)),gg 90 (.call 67 [(.t 85),(.t 86),(.t 89)]),gm 9 90] (sr [gm 91 0,gg 92 (.nil (.t 91)),gg 93 (.ffa (.t 92) 0),gg 94 (.iaa (.t 93) (xk .i64 2) 1 6),gg 95 (.ld (.t 94) none),gm 96 9,gg 97 (.bin .add (.t 95) (.t 96)),gm 10 97] (sr [gm 98 0,gm 99 12,gm 100 9,gg 101 (.bin .add (.t 99) (.t 100)),gg 102 (.nil (.t 98)),gg 103 (.ffa (.t 102) 0),gg 104 (.iaa (.t 103) (xk .i64 2) 1 6),(G.mk none none (.st (.t 104) (.t 101) 1))] (sr [gm 105 1,gm 106 6,gg 107 (.bin .mul (xk .i64 2) (.t 106)),gm 108 10,gg 109 (.call 65 [(.t 108),(xk .i64 10)]),gg 110 (.call 68 [(.t 109)]),gg 111 (.ia (.t 105) (.t 107) 1),(G.mk none none (.st (.t 111) (.t 110) 1))] (sr [gm 112 7,gm 113 0,gg 114 (.nil (.t 113)),gg 115 (.ffa (.t 114) 0),gg 116 (.iaa (.t 115) (xk .i64 3) 1 6),gg 117 (.ld (.t 116) none),gg 118 (.bin .sub (.t 112) (.t 117)),gm 8 118] (sr [gm 119 8,gg 120 (.iaa (.k (.pointer (some (Addr.mk 13 0 none)))) (xk .i64 0) 1 3),gg 121 (.ld (.t 120) none),gg 122 (.cvi .i32 (.t 121)),gg 123 (.call 64 [(.t 119),(.t 122)]),gm 9 123] (sr [gm 124 0,gg 125 (.nil (.t 124)),gg 126 (.ffa (.t 125) 0),gg 127 (.iaa (.t 126) (xk .i64 3) 1 6),gg 128 (.ld (.t 127) none),gm 129 9,gg 130 (.bin .add (.t 128) (.t 129)),gm 10 130] (sr [gm 131 0,gm 132 7,gm 133 9,gg 134 (.bin .add (.t 132) (.t 133)),gg 135 (.nil (.t 131)),gg 136 (.ffa (.t 135) 0),gg 137 (.iaa (.t 136) (xk .i64 3) 1 6),(G.mk none none (.st (.t 137) (.t 134) 1))] (sr [gm 138 10,gm 11 138] (sr [gm 139 11,gm 140 0,gg 141 (.nil (.t 140)),gg 142 (.ffa (.t 141) 0),gg 143 (.iaa (.t 142) (xk .i64 4) 1 6),gg 144 (.ld (.t 143) none),gg 145 (.bin .sub (.t 139) (.t 144)),gm 8 145] (sr [gm 146 8,gg 147 (.iaa (.k (.pointer (some (Addr.mk 13 0 none)))) (xk .i64 1) 1 3),gg 148 (.ld (.t 147) none),gg 149 (.cvi .i32 (.t 148)),gg 150 (.call 64 [(.t 146),(.t 149)]),gm 9 150] (sr [gm 151 0,gg 152 (.nil (.t 151)),gg 153 (.ffa (.t 152) 0),gg 154 (.iaa (.t 153) (xk .i64 4) 1 6),gg 155 (.ld (.t 154) none),gm 156 9,gg 157 (.bin .add (.t 155) (.t 156)),gm 10 157] (sr [gm 158 0,gm 159 11,gm 160 9,gg 161 (.bin .add (.t 159) (.t 160)),gg 162 (.nil (.t 158)),gg 163 (.ffa (.t 162) 0),gg 164 (.iaa (.t 163) (xk .i64 4) 1 6),(G.mk none none (.st (.t 164) (.t 161) 1))] (sr [gm 165 10,gm 12 165] (sr [gm 166 12,gm 167 0,gg 168 (.nil (.t 167)),gg 169 (.ffa (.t 168) 0),gg 170 (.iaa (.t 169) (xk .i64 5) 1 6),gg 171 (.ld (.t 170) none),gg 172 (.bin .sub (.t 166) (.t 171)),gm 8 172] (sr [gm 173 8,gm 174 8,gg 175 (.iaa (.k (.pointer (some (Addr.mk 13 0 none)))) (xk .i64 2) 1 3),gg 176 (.ld (.t 175) none),gg 177 (.cvi .i32 (.t 176)),gg 178 (.call 67 [(.t 173),(.t 174),(.t 177)]),gm 9 178] (sr [gm 179 0,gg 180 (.nil (.t 179)),gg 181 (.ffa (.t 180) 0),gg 182 (.iaa (.t 181) (xk .i64 5) 1 6),gg 183 (.ld (.t 182) none),gm 184 9,gg 185 (.bin .add (.t 183) (.t 184)),gm 10 185] (sr [gm 186 0,gm 187 12,gm 188 9,gg 189 (.bin .add (.t 187) (.t 188)),gg 190 (.nil (.t 186)),gg 191 (.ffa (.t 190) 0),gg 192 (.iaa (.t 191) (xk .i64 5) 1 6),(G.mk none none (.st (.t 192) (.t 189) 1))] (.reg [gm 193 1,gm 194 6,gg 195 (.bin .mul (xk .i64 2) (.t 194)),gg 196 (.bin .add (.t 195) (xk .i64 1)),gm 197 10,gg 198 (.call 65 [(.t 197),(xk .i64 10)]),gg 199 (.call 68 [(.t 198)]),gg 200 (.ia (.t 193) (.t 196) 1),(G.mk none none (.st (.t 200) (.t 199) 1))]))))))))))))))))))))))))))))))))) (.reg [gg 201 (.bin .add (.t 15) (xk .i64 1)),gm 15 201]))))))) 3 []):=by kernel_rfl
theorem c25_:compF Tryz.prog 25=some (.mk (.cut (.seq (.drw [(.mk (gm 10 0) 0 true []),(.mk (gg 11 (.nil (.t 10))) 1 true []),(.mk (gg 12 (.ffa (.t 11) 109)) 2 true []),(.mk (gg 13 (.ld (.t 12) none)) 3 true []),(.mk (gg 14 (.cap (.t 13))) 4 true []),(.mk (gm 15 0) 5 true []),(.mk (gg 16 (.nil (.t 15))) 6 true []),(.mk (gg 17 (.ffa (.t 16) 99)) 7 true []),(.mk (gg 18 (.ld (.t 17) none)) 8 true []),(.mk (gg 19 (.bin .mul (xk .i64 2) (.t 18))) 9 true []),(.mk (gg 20 (.bin .add (.t 19) (xk .i64 8))) 10 true []),(.mk (gg 21 (.bin .lss (.t 14) (.t 20))) 11 true [])]) (.cond (.t 21) (.reg [gm 22 0,gm 23 0,gg 24 (.nil (.t 23)),gg 25 (.ffa (.t 24) 99),gg 26 (.ld (.t 25) none),gg 27 (.bin .mul (xk .i64 2) (.t 26)),gg 28 (.bin .add (.t 27) (xk .i64 8)),gg 29 (.mks 29 1 2 [(.int .i16 ((0:Nat):Int))] (.t 28) (.t 28)),gg 30 (.nil (.t 22)),gg 31 (.ffa (.t 30) 109),(G.mk none none (.st (.t 31) (.t 29) 1))]) .skip)) (.seq (.drw [(.mk (gm 32 0) 0 true []),(.mk (gg 33 (.nil (.t 32))) 1 true []),(.mk (gg 34 (.ffa (.t 33) 109)) 2 true []),(.mk (gg 35 (.ld (.t 34) none)) 3 true []),(.mk (gm 36 0) 4 true []),(.mk (gg 37 (.nil (.t 36))) 5 true []),(.mk (gg 38 (.ffa (.t 37) 99)) 6 true []),(.mk (gg 39 (.ld (.t 38) none)) 7 true []),(.mk (gg 40 (.bin .mul (xk .i64 2) (.t 39))) 8 true []),(.mk (gg 41 (.bin .add (.t 40) (xk .i64 8))) 9 true []),(.mk (gg 42 (.slc (.t 35) none (some (.t 41)) 1)) 10 false []),(.mk (gm 6 42) 11 true [])]) (sr [gm 43 6,(G.mk none none (.clr 1 [(.int .i16 ((0:Nat):Int))] (.t 43)))] (sr [gm 44 6,gm 45 0,gg 46 (.nil (.t 45)),gg 47 (.ffa (.t 46) 42),gg 48 (.sll (.t 47) none 1 8),gg 49 (.cpy 1 (.t 44) (.t 48))] (sr [gg 7 (.mov (xk .i64 0))] (.block 0 (.loop (.seq (sr [gm 50 2,gg 51 (.len false (.t 50)),gg 52 (.bin .gtr (.t 51) (xk .i64 0))] (.cond (.t 52) .skip (.exit 0))) (.block 1 (sr [gm 53 2,gg 54 (.len false (.t 53)),gm 55 0,gg 56 (.nil (.t 55)),gg 57 (.ffa (.t 56) 99),gg 58 (.ld (.t 57) none),gg 59 (.mn (.t 54) [(.t 58)]),gm 8 59] (.seq (.drw [(.mk (gm 60 0) 0 true []),(.mk (gm 61 6) 1 true []),(.mk (gg 62 (.slq (.t 61) (some (xk .i64 8)) none 1)) 2 true []),(.mk (gm 63 2) 3 true []),(.mk (gm 64 8) 4 true []),(.mk (gg 65 (.slc (.t 63) none (some (.t 64)) 1)) 5 false []),(.mk (gg 66 (.call 24 [(.t 60),(.t 62),(.t 65)])) 6 false [])]) (sr [gm 67 8,gg 68 (.cvi .i32 (.t 67)),gg 69 (.bik .shl .u64 (.t 68) 17),gm 9 69] (.seq (.drw [(.mk (gm 70 7) 0 true []),(.mk (gm 71 1) 1 true []),(.mk (gm 72 7) 2 true []),(.mk (gg 73 (.slq (.t 71) (some (.t 72)) none 1)) 3 true []),(.mk (gm 74 6) 4 true []),(.mk (gm 75 9) 5 true []),(.mk (gm 76 0) 6 true []),(.mk (gg 77 (.nil (.t 76))) 7 true []),(.mk (gg 78 (.ffa (.t 77) 100)) 8 true []),(.mk (gg 79 (.ld (.t 78) none)) 9 true []),(.mk (gg 80 (.call 69 [(.t 73),(.t 74),(.t 75),(.t 79)])) 10 false []),(.mk (gg 81 (.bin .add (.t 70) (.t 80))) 11 true []),(.mk (gm 7 81) 12 true [])]) (sr [gm 82 2,gm 83 8,gg 84 (.slq (.t 82) (some (.t 83)) none 1),gm 2 84] (sr [gm 85 2,gg 86 (.len false (.t 85)),gg 87 (.bin .gtr (.t 86) (xk .i64 0))] (.cond (.t 87) (.drw [(.mk (gm 88 6) 0 true []),(.mk (gm 90 6) 2 true []),(.mk (gm 91 8) 3 true []),(.mk (gg 92 (.bin .mul (.t 91) (xk .i64 2))) 4 true []),(.mk (gg 93 (.slq (.t 90) (some (.t 92)) none 1)) 5 true []),(.mk (gg 89 (.slc (.t 88) none (some (xk .i64 8)) 1)) 1 false []),(.mk (gg 94 (.cpy 1 (.t 89) (.t 93))) 6 false [])]) (.drw [(.mk (gm 95 0) 0 true []),(.mk (gg 96 (.nil (.t 95))) 1 true []),(.mk (gg 97 (.ffa (.t 96) 42)) 2 true []),(.mk (gm 99 6) 4 true []),(.mk (gm 100 8) 5 true []),(.mk (gg 101 (.bin .mul (.t 100) (xk .i64 2))) 6 true []),(.mk (gg 102 (.slq (.t 99) (some (.t 101)) none 1)) 7 true []),(.mk (gg 98 (.sll (.t 97) none 1 8)) 3 false []),(.mk (gg 103 (.cpy 1 (.t 98) (.t 102))) 8 false [])]))))))))))))))))) 3 []):=by kernel_rfl
theorem c26_:compF Tryz.prog 26=some (.mk (.cut (.seq (.drw [(.mk (gm 11 0) 0 true []),(.mk (gg 12 (.nil (.t 11))) 1 true []),(.mk (gg 13 (.ffa (.t 12) 110)) 2 true []),(.mk (gg 14 (.ld (.t 13) none)) 3 true []),(.mk (gg 15 (.cap (.t 14))) 4 true []),(.mk (gm 16 0) 5 true []),(.mk (gg 17 (.nil (.t 16))) 6 true []),(.mk (gg 18 (.ffa (.t 17) 99)) 7 true []),(.mk (gg 19 (.ld (.t 18) none)) 8 true []),(.mk (gg 20 (.bin .add (.t 19) (xk .i64 36))) 9 true []),(.mk (gg 21 (.bin .lss (.t 15) (.t 20))) 10 true [])]) (.cond (.t 21) (.reg [gm 22 0,gm 23 0,gg 24 (.nil (.t 23)),gg 25 (.ffa (.t 24) 99),gg 26 (.ld (.t 25) none),gg 27 (.bin .add (.t 26) (xk .i64 36)),gg 28 (.mks 21 1 4 [(.int .i32 ((0:Nat):Int))] (.t 27) (.t 27)),gg 29 (.nil (.t 22)),gg 30 (.ffa (.t 29) 110),(G.mk none none (.st (.t 30) (.t 28) 1))]) .skip)) (.seq (.drw [(.mk (gm 31 0) 0 true []),(.mk (gg 32 (.nil (.t 31))) 1 true []),(.mk (gg 33 (.ffa (.t 32) 110)) 2 true []),(.mk (gg 34 (.ld (.t 33) none)) 3 true []),(.mk (gm 35 0) 4 true []),(.mk (gg 36 (.nil (.t 35))) 5 true []),(.mk (gg 37 (.ffa (.t 36) 99)) 6 true []),(.mk (gg 38 (.ld (.t 37) none)) 7 true []),(.mk (gg 39 (.bin .add (.t 38) (xk .i64 36))) 8 true []),(.mk (gg 40 (.slc (.t 34) none (some (.t 39)) 1)) 9 false []),(.mk (gm 6 40) 10 true [])]) (sr [gm 41 6,(G.mk none none (.clr 1 [(.int .i32 ((0:Nat):Int))] (.t 41)))] (.seq (.drw [(.mk (gm 42 6) 0 true []),(.mk (gm 43 0) 1 true []),(.mk (gg 44 (.nil (.t 43))) 2 true []),(.mk (gg 45 (.ffa (.t 44) 6)) 3 true []),(.mk (gm 46 0) 4 true []),(.mk (gg 47 (.nil (.t 46))) 5 true []),(.mk (gg 48 (.ffa (.t 47) 101)) 6 true []),(.mk (gg 49 (.ld (.t 48) none)) 7 true []),(.mk (gg 50 (.sll (.t 45) (some (.t 49)) 1 36)) 8 false []),(.mk (gg 51 (.cpy 1 (.t 42) (.t 50))) 9 false [])]) (sr [gm 52 0,gg 53 (.nil (.t 52)),gg 54 (.ffa (.t 53) 106),gg 55 (.ld (.t 54) none),gg 56 (.slq (.t 55) (some (xk .i64 2)) none 1),gm 7 56] (sr [gg 8 (.mov (xk .i64 0))] (sr [gg 9 (.mov (xk .i64 0))] (.cut (.block 0 (.loop (.seq (sr [gm 57 2,gg 58 (.len false (.t 57)),gg 59 (.bin .gtr (.t 58) (xk .i64 0))] (.cond (.t 59) .skip (.exit 0))) (.block 1 (sr [gm 60 2,gg 61 (.len false (.t 60)),gm 62 0,gg 63 (.nil (.t 62)),gg 64 (.ffa (.t 63) 99),gg 65 (.ld (.t 64) none),gg 66 (.mn (.t 61) [(.t 65)]),gm 9 66] (.cut (.drt (.q (gm 67 0) 0 (.q (gg 68 (.nil (.t 67))) 1 (.q (gg 69 (.ffa (.t 68) 0)) 2 (.q (gm 71 6) 4 (.q (gm 72 0) 5 (.q (gg 73 (.nil (.t 72))) 6 (.q (gg 74 (.ffa (.t 73) 101)) 7 (.q (gg 75 (.ld (.t 74) none)) 8 (.q (gg 76 (.slq (.t 71) (some (.t 75)) none 1)) 9 (.q (gm 77 2) 10 (.q (gm 78 9) 11 (.q (gm 80 0) 13 (.q (gg 81 (.nil (.t 80))) 14 (.q (gg 82 (.ffa (.t 81) 106)) 15 (.q (gg 83 (.ld (.t 82) none)) 16 (.alt (gg 70 (.sll (.t 69) (some (xk .i64 2)) 1 6)) 3 [16,8] (.l (gg 79 (.slc (.t 77) none (some (.t 78)) 1)) 12 [16,8] (.l (gg 84 (.call 70 [(.t 70),(.t 76),(.t 79),(.t 83)])) 17 [] .stop)) (.l (gg 79 (.slc (.t 77) none (some (.t 78)) 1)) 12 [16,8] (.l (gg 70 (.sll (.t 69) (some (xk .i64 2)) 1 6)) 3 [16,8] (.l (gg 84 (.call 70 [(.t 70),(.t 76),(.t 79),(.t 83)])) 17 [] .stop)))))))))))))))))))) (sr [gm 85 9,gg 86 (.cvi .i32 (.t 85)),gg 87 (.bik .shl .u64 (.t 86) 16),gm 10 87] (.seq (.drw [(.mk (gm 88 8) 0 true []),(.mk (gm 89 0) 1 true []),(.mk (gm 90 1) 2 true []),(.mk (gm 91 8) 3 true []),(.mk (gg 92 (.slq (.t 90) (some (.t 91)) none 1)) 4 true []),(.mk (gm 93 6) 5 true []),(.mk (gm 94 7) 6 true []),(.mk (gm 95 10) 7 true []),(.mk (gm 96 0) 8 true []),(.mk (gg 97 (.nil (.t 96))) 9 true []),(.mk (gg 98 (.ffa (.t 97) 100)) 10 true []),(.mk (gg 99 (.ld (.t 98) none)) 11 true []),(.mk (gg 100 (.call 71 [(.t 89),(.t 92),(.t 93),(.t 94),(.t 95),(.t 99)])) 12 false []),(.mk (gg 101 (.bin .add (.t 88) (.t 100))) 13 true []),(.mk (gm 8 101) 14 true [])]) (sr [gm 102 2,gm 103 9,gg 104 (.slq (.t 102) (some (.t 103)) none 1),gm 2 104] (sr [gm 105 2,gg 106 (.len false (.t 105)),gg 107 (.bin .gtr (.t 106) (xk .i64 1))] (.cond (.t 107) (.drw [(.mk (gm 108 6) 0 true []),(.mk (gm 109 0) 1 true []),(.mk (gg 110 (.nil (.t 109))) 2 true []),(.mk (gg 111 (.ffa (.t 110) 101)) 3 true []),(.mk (gg 112 (.ld (.t 111) none)) 4 true []),(.mk (gm 114 6) 6 true []),(.mk (gm 115 9) 7 true []),(.mk (gg 116 (.slq (.t 114) (some (.t 115)) none 1)) 8 true []),(.mk (gg 113 (.slc (.t 108) none (some (.t 112)) 1)) 5 false []),(.mk (gg 117 (.cpy 1 (.t 113) (.t 116))) 9 false [])]) (.exit 0)))))))))))) (.drw [(.mk (gm 118 0) 0 true []),(.mk (gg 119 (.nil (.t 118))) 1 true []),(.mk (gg 120 (.ffa (.t 119) 6)) 2 true []),(.mk (gm 121 0) 3 true []),(.mk (gg 122 (.nil (.t 121))) 4 true []),(.mk (gg 123 (.ffa (.t 122) 101)) 5 true []),(.mk (gg 124 (.ld (.t 123) none)) 6 true []),(.mk (gm 126 6) 8 true []),(.mk (gm 127 9) 9 true []),(.mk (gg 128 (.slq (.t 126) (some (.t 127)) none 1)) 10 true []),(.mk (gg 125 (.sll (.t 120) (some (.t 124)) 1 36)) 7 false []),(.mk (gg 129 (.cpy 1 (.t 125) (.t 128))) 11 false [])]))))))))) 3 []):=by kernel_rfl
theorem c69_:compF Tryz.prog 69=some (.mk (sr [gg 8 (.mov (xk .i64 0))] (sr [gg 9 (.mov (xk .i64 0))] (.cut (sr [gg 10 (.mov (xk .i32 0))] (.block 0 (.loop (.seq (sr [gm 15 10,gm 16 2,gg 17 (.bin .lss (.t 15) (.t 16))] (.cond (.t 17) .skip (.exit 0))) (.seq (.block 1 (sr [gm 21 10,gg 22 (.cvi .u32 (.t 21)),gg 23 (.bin .and (.t 22) (xk .u32 65535)),gg 24 (.cvi .i32 (.t 23)),gg 25 (.call 64 [(.t 24),(xk .i32 12)]),gm 11 25] (sr [gm 26 10,gg 27 (.bik .shr .u64 (.t 26) 16),gg 28 (.cvi .i64 (.t 27)),gm 12 28] (sr [gm 29 1,gm 30 12,gg 31 (.slq (.t 29) (some (.t 30)) none 1),gm 13 31] (.seq (.drw [(.mk (gm 32 13) 0 true []),(.mk (gg 33 (.ia (.t 32) (xk .i64 0) 1)) 1 true []),(.mk (gg 34 (.ld (.t 33) none)) 2 true []),(.mk (gg 35 (.cvi .i32 (.t 34))) 3 true []),(.mk (gm 36 11) 4 true []),(.mk (gg 37 (.iaa (.k (.pointer (some (Addr.mk 15 0 none)))) (.t 36) 4 12)) 5 true []),(.mk (gg 38 (.iaa (.t 37) (xk .i64 0) 1 4)) 6 true []),(.mk (gg 39 (.ld (.t 38) none)) 7 true []),(.mk (gg 40 (.cvi .i32 (.t 39))) 8 true []),(.mk (gg 41 (.call 94 [(.t 35),(.t 40)])) 9 false []),(.mk (gm 14 41) 10 true [])]) (.seq (.drw [(.mk (gm 42 14) 0 true []),(.mk (gm 43 13) 1 true []),(.mk (gg 44 (.ia (.t 43) (xk .i64 1) 1)) 2 true []),(.mk (gg 45 (.ld (.t 44) none)) 3 true []),(.mk (gg 46 (.cvi .i32 (.t 45))) 4 true []),(.mk (gm 47 11) 5 true []),(.mk (gg 48 (.iaa (.k (.pointer (some (Addr.mk 15 0 none)))) (.t 47) 4 12)) 6 true []),(.mk (gg 49 (.iaa (.t 48) (xk .i64 1) 1 4)) 7 true []),(.mk (gg 50 (.ld (.t 49) none)) 8 true []),(.mk (gg 51 (.cvi .i32 (.t 50))) 9 true []),(.mk (gg 52 (.call 95 [(.t 42),(.t 46),(.t 51)])) 10 false []),(.mk (gm 14 52) 11 true [])]) (.seq (.drw [(.mk (gm 53 14) 0 true []),(.mk (gm 54 13) 1 true []),(.mk (gg 55 (.ia (.t 54) (xk .i64 2) 1)) 2 true []),(.mk (gg 56 (.ld (.t 55) none)) 3 true []),(.mk (gg 57 (.cvi .i32 (.t 56))) 4 true []),(.mk (gm 58 11) 5 true []),(.mk (gg 59 (.iaa (.k (.pointer (some (Addr.mk 15 0 none)))) (.t 58) 4 12)) 6 true []),(.mk (gg 60 (.iaa (.t 59) (xk .i64 2) 1 4)) 7 true []),(.mk (gg 61 (.ld (.t 60) none)) 8 true []),(.mk (gg 62 (.cvi .i32 (.t 61))) 9 true []),(.mk (gg 63 (.call 95 [(.t 53),(.t 57),(.t 62)])) 10 false []),(.mk (gm 14 63) 11 true [])]) (.seq (.drw [(.mk (gm 64 14) 0 true []),(.mk (gm 65 13) 1 true []),(.mk (gg 66 (.ia (.t 65) (xk .i64 3) 1)) 2 true []),(.mk (gg 67 (.ld (.t 66) none)) 3 true []),(.mk (gg 68 (.cvi .i32 (.t 67))) 4 true []),(.mk (gm 69 11) 5 true []),(.mk (gg 70 (.iaa (.k (.pointer (some (Addr.mk 15 0 none)))) (.t 69) 4 12)) 6 true []),(.mk (gg 71 (.iaa (.t 70) (xk .i64 3) 1 4)) 7 true []),(.mk (gg 72 (.ld (.t 71) none)) 8 true []),(.mk (gg 73 (.cvi .i32 (.t 72))) 9 true []),(.mk (gg 74 (.call 95 [(.t 64),(.t 68),(.t 73)])) 10 false []),(.mk (gm 14 74) 11 true [])]) (.seq (.drw [(.mk (gm 75 14) 0 true []),(.mk (gm 76 13) 1 true []),(.mk (gg 77 (.ia (.t 76) (xk .i64 4) 1)) 2 true []),(.mk (gg 78 (.ld (.t 77) none)) 3 true []),(.mk (gg 79 (.cvi .i32 (.t 78))) 4 true []),(.mk (gm 80 11) 5 true []),(.mk (gg 81 (.bin .sub (xk .i32 11) (.t 80))) 6 true []),(.mk (gg 82 (.iaa (.k (.pointer (some (Addr.mk 15 0 none)))) (.t 81) 4 12)) 7 true []),(.mk (gg 83 (.iaa (.t 82) (xk .i64 3) 1 4)) 8 true []),(.mk (gg 84 (.ld (.t 83) none)) 9 true []),(.mk (gg 85 (.cvi .i32 (.t 84))) 10 true []),(.mk (gg 86 (.call 95 [(.t 75),(.t 79),(.t 85)])) 11 false []),(.mk (gm 14 86) 12 true [])]) (.seq (.drw [(.mk (gm 87 14) 0 true []),(.mk (gm 88 13) 1 true []),(.mk (gg 89 (.ia (.t 88) (xk .i64 5) 1)) 2 true []),(.mk (gg 90 (.ld (.t 89) none)) 3 true []),(.mk (gg 91 (.cvi .i32 (.t 90))) 4 true []),(.mk (gm 92 11) 5 true []),(.mk (gg 93 (.bin .sub (xk .i32 11) (.t 92))) 6 true []),(.mk (gg 94 (.iaa (.k (.pointer (some (Addr.mk 15 0 none)))) (.t 93) 4 12)) 7 true []),(.mk (gg 95 (.iaa (.t 94) (xk .i64 2) 1 4)) 8 true []),(.mk (gg 96 (.ld (.t 95) none)) 9 true []),(.mk (gg 97 (.cvi .i32 (.t 96))) 10 true []),(.mk (gg 98 (.call 95 [(.t 87),(.t 91),(.t 97)])) 11 false []),(.mk (gm 14 98) 12 true [])]) (.seq (.drw [(.mk (gm 99 14) 0 true []),(.mk (gm 100 13) 1 true []),(.mk (gg 101 (.ia (.t 100) (xk .i64 6) 1)) 2 true []),(.mk (gg 102 (.ld (.t 101) none)) 3 true []),(.mk (gg 103 (.cvi .i32 (.t 102))) 4 true []),(.mk (gm 104 11) 5 true []),(.mk (gg 105 (.bin .sub (xk .i32 11) (.t 104))) 6 true []),(.mk (gg 106 (.iaa (.k (.pointer (some (Addr.mk 15 0 none)))) (.t 105) 4 12)) 7 true []),(.mk (gg 107 (.iaa (.t 106) (xk .i64 1) 1 4)) 8 true []),(.mk (gg 108 (.ld (.t 107) none)) 9 true []),(.mk (gg 109 (.cvi .i32 (.t 108))) 10 true []),(.mk (gg 110 (.call 95 [(.t 99),(.t 103),(.t 109)])) 11 false []),(.mk (gm 14 110) 12 true [])]) (.seq (.drw [(.mk (gm 111 14) 0 true []),(.mk (gm 112 13) 1 true []),(.mk (gg 113 (.ia (.t 112) (xk .i64 7) 1)) 2 true []),(.mk (gg 114 (.ld (.t 113) none)) 3 true []),(.mk (gg 115 (.cvi .i32 (.t 114))) 4 true []),(.mk (gm 116 11) 5 true []),(.mk (gg 117 (.bin .sub (xk .i32 11) (.t 116))) 6 true []),(.mk (gg 118 (.iaa (.k (.pointer (some (Addr.mk 15 0 none)))) (.t 117) 4 12)) 7 true []),(.mk (gg 119 (.iaa (.t 118) (xk .i64 0) 1 4)) 8 true []),(.mk (gg 120 (.ld (.t 119) none)) 9 true []),(.mk (gg 121 (.cvi .i32 (.t 120))) 10 true []),(.mk (gg 122 (.call 95 [(.t 111),(.t 115),(.t 121)])) 11 false []),(.mk (gm 14 122) 12 true [])]) (sr [gm 123 0,gm 124 9,gm 125 14,gg 126 (.call 65 [(.t 125),(xk .i64 15)]),gg 127 (.call 68 [(.t 126)]),gg 128 (.ia (.t 123) (.t 124) 1),(G.mk none none (.st (.t 128) (.t 127) 1))] (.reg [gm 129 9,gg 130 (.bin .add (.t 129) (xk .i64 1)),gm 9 130])))))))))))))) (.reg [gm 18 10,gm 19 3,gg 20 (.bin .add (.t 18) (.t 19)),gm 10 20])))))) (sr [gm 131 9,gm 8 131] .ret)))) 4 [(.t 8)]):=by kernel_rfl
theorem c70_:compF Tryz.prog 70=some (.mk (sr [gm 10 2,gg 11 (.len false (.t 10)),gg 12 (.mov (xk .i64 0))] (.block 0 (.loop (sr [gg 13 (.bin .lss (.t 12) (.t 11))] (.seq (.cond (.t 13) .skip (.exit 0)) (.seq (.block 1 (sr [gm 14 12,gm 8 14] (.seq (.drw [(.mk (gm 15 0) 0 true []),(.mk (gg 16 (.ia (.t 15) (xk .i64 0) 1)) 1 true []),(.mk (gg 17 (.ld (.t 16) none)) 2 true []),(.mk (gm 18 2) 3 true []),(.mk (gm 19 8) 4 true []),(.mk (gg 20 (.ia (.t 18) (.t 19) 1)) 5 true []),(.mk (gg 21 (.ld (.t 20) none)) 6 true []),(.mk (gg 22 (.cvi .i32 (.t 21))) 7 true []),(.mk (gg 23 (.bik .shl .u64 (.t 22) 8)) 8 true []),(.mk (gg 24 (.bin .add (.t 17) (.t 23))) 9 true []),(.mk (gm 9 24) 10 true [])]) (sr [gm 25 1,gm 26 8,gm 27 9,gg 28 (.ia (.t 25) (.t 26) 1),(G.mk none none (.st (.t 28) (.t 27) 1))] (sr [gm 29 9,gg 30 (.bik .shl .u64 (.t 29) 2),gm 9 30] (.seq (.drw [(.mk (gm 31 0) 0 true []),(.mk (gm 32 0) 1 true []),(.mk (gg 33 (.ia (.t 32) (xk .i64 1) 1)) 2 true []),(.mk (gg 34 (.ld (.t 33) none)) 3 true []),(.mk (gm 35 9) 4 true []),(.mk (gm 36 3) 5 true []),(.mk (gg 37 (.ia (.t 36) (xk .i64 0) 1)) 6 true []),(.mk (gg 38 (.ld (.t 37) none)) 7 true []),(.mk (gg 39 (.cvi .i32 (.t 38))) 8 true []),(.mk (gg 40 (.call 67 [(.t 34),(.t 35),(.t 39)])) 9 false []),(.mk (gg 41 (.ia (.t 31) (xk .i64 0) 1)) 10 true []),(.mk (G.mk none none (.st (.t 41) (.t 40) 1)) 11 false [])]) (.reg [gm 42 0,gm 43 9,gm 44 3,gg 45 (.ia (.t 44) (xk .i64 1) 1),gg 46 (.ld (.t 45) none),gg 47 (.cvi .i32 (.t 46)),gg 48 (.call 64 [(.t 43),(.t 47)]),gg 49 (.ia (.t 42) (xk .i64 1) 1),(G.mk none none (.st (.t 49) (.t 48) 1))]))))))) (.reg [gg 50 (.bin .add (.t 12) (xk .i64 1)),gm 12 50]))))))) 4 []):=by kernel_rfl
theorem c71_:compF Tryz.prog 71=some (.mk (sr [gg 12 (.mov (xk .i64 0))] (sr [gg 13 (.mov (xk .i64 0))] (.cut (sr [gm 25 0,gg 26 (.nil (.t 25)),gg 27 (.ffa (.t 26) 101),gg 28 (.ld (.t 27) none)] (.block 0 (sr [gg 30 (.bin .eql (.t 28) (xk .i64 18)),gm 29 30] (.cond (.t 29) (sr [gg 14 (.mov (xk .i32 0))] (.block 1 (.loop (.seq (sr [gm 31 14,gm 32 4,gg 33 (.bin .lss (.t 31) (.t 32))] (.cond (.t 33) .skip (.exit 1))) (.seq (.block 2 (sr [gm 37 2,gm 38 14,gg 39 (.bik .shr .u64 (.t 38) 16),gg 40 (.slq (.t 37) (some (.t 39)) none 1),gm 15 40] (sr [gm 41 14,gg 42 (.cvi .u32 (.t 41)),gg 43 (.bin .and (.t 42) (xk .u32 65535)),gg 44 (.cvi .i32 (.t 43)),gm 45 0,gg 46 (.nil (.t 45)),gg 47 (.ffa (.t 46) 102),gg 48 (.ld (.t 47) none),gg 49 (.cvi .i32 (.t 48)),gg 50 (.call 64 [(.t 44),(.t 49)]),gm 16 50] (sr [gm 51 3,gm 52 16,gg 53 (.bin .mul (xk .i32 9) (.t 52)),gg 54 (.slq (.t 51) (some (.t 53)) none 1),gm 17 54] (.seq (.drw [(.mk (gm 55 15) 0 true []),(.mk (gg 56 (.ia (.t 55) (xk .i64 0) 1)) 1 true []),(.mk (gg 57 (.ld (.t 56) none)) 2 true []),(.mk (gm 58 17) 3 true []),(.mk (gg 59 (.ia (.t 58) (xk .i64 0) 1)) 4 true []),(.mk (gg 60 (.ld (.t 59) none)) 5 true []),(.mk (gg 61 (.cvi .i32 (.t 60))) 6 true []),(.mk (gg 62 (.call 64 [(.t 57),(.t 61)])) 7 false []),(.mk (gm 18 62) 8 true [])]) (.seq (.drw [(.mk (gm 63 18) 0 true []),(.mk (gm 64 15) 1 true []),(.mk (gg 65 (.ia (.t 64) (xk .i64 1) 1)) 2 true []),(.mk (gg 66 (.ld (.t 65) none)) 3 true []),(.mk (gm 67 17) 4 true []),(.mk (gg 68 (.ia (.t 67) (xk .i64 1) 1)) 5 true []),(.mk (gg 69 (.ld (.t 68) none)) 6 true []),(.mk (gg 70 (.cvi .i32 (.t 69))) 7 true []),(.mk (gg 71 (.call 67 [(.t 63),(.t 66),(.t 70)])) 8 false []),(.mk (gm 18 71) 9 true [])]) (.seq (.drw [(.mk (gm 72 18) 0 true []),(.mk (gm 73 15) 1 true []),(.mk (gg 74 (.ia (.t 73) (xk .i64 2) 1)) 2 true []),(.mk (gg 75 (.ld (.t 74) none)) 3 true []),(.mk (gm 76 17) 4 true []),(.mk (gg 77 (.ia (.t 76) (xk .i64 2) 1)) 5 true []),(.mk (gg 78 (.ld (.t 77) none)) 6 true []),(.mk (gg 79 (.cvi .i32 (.t 78))) 7 true []),(.mk (gg 80 (.call 67 [(.t 72),(.t 75),(.t 79)])) 8 false []),(.mk (gm 18 80) 9 true [])]) (.seq (.drw [(.mk (gm 81 18) 0 true []),(.mk (gm 82 15) 1 true []),(.mk (gg 83 (.ia (.t 82) (xk .i64 3) 1)) 2 true []),(.mk (gg 84 (.ld (.t 83) none)) 3 true []),(.mk (gm 85 17) 4 true []),(.mk (gg 86 (.ia (.t 85) (xk .i64 3) 1)) 5 true []),(.mk (gg 87 (.ld (.t 86) none)) 6 true []),(.mk (gg 88 (.cvi .i32 (.t 87))) 7 true []),(.mk (gg 89 (.call 67 [(.t 81),(.t 84),(.t 88)])) 8 false []),(.mk (gm 18 89) 9 true [])]) (.seq (.drw [(.mk (gm 90 18) 0 true []),(.mk (gm 91 15) 1 true []),(.mk (gg 92 (.ia (.t 91) (xk .i64 4) 1)) 2 true []),(.mk (gg 93 (.ld (.t 92) none)) 3 true []),(.mk (gm 94 17) 4 true []),(.mk (gg 95 (.ia (.t 94) (xk .i64 4) 1)) 5 true []),(.mk (gg 96 (.ld (.t 95) none)) 6 true []),(.mk (gg 97 (.cvi .i32 (.t 96))) 7 true []),(.mk (gg 98 (.call 67 [(.t 90),(.t 93),(.t 97)])) 8 false []),(.mk (gm 18 98) 9 true [])]) (.seq (.drw [(.mk (gm 99 18) 0 true []),(.mk (gm 100 15) 1 true []),(.mk (gg 101 (.ia (.t 100) (xk .i64 5) 1)) 2 true []),(.mk (gg 102 (.ld (.t 101) none)) 3 true []),(.mk (gm 103 17) 4 true []),(.mk (gg 104 (.ia (.t 103) (xk .i64 5) 1)) 5 true []),(.mk (gg 105 (.ld (.t 104) none)) 6 true []),(.mk (gg 106 (.cvi .i32 (.t 105))) 7 true []),(.mk (gg 107 (.call 67 [(.t 99),(.t 102),(.t 106)])) 8 false []),(.mk (gm 18 107) 9 true [])]) (.seq (.drw [(.mk (gm 108 18) 0 true []),(.mk (gm 109 15) 1 true []),(.mk (gg 110 (.ia (.t 109) (xk .i64 6) 1)) 2 true []),(.mk (gg 111 (.ld (.t 110) none)) 3 true []),(.mk (gm 112 17) 4 true []),(.mk (gg 113 (.ia (.t 112) (xk .i64 6) 1)) 5 true []),(.mk (gg 114 (.ld (.t 113) none)) 6 true []),(.mk (gg 115 (.cvi .i32 (.t 114))) 7 true []),(.mk (gg 116 (.call 67 [(.t 108),(.t 111),(.t 115)])) 8 false []),(.mk (gm 18 116) 9 true [])]) (.seq (.drw [(.mk (gm 117 18) 0 true []),(.mk (gm 118 15) 1 true []),(.mk (gg 119 (.ia (.t 118) (xk .i64 7) 1)) 2 true []),(.mk (gg 120 (.ld (.t 119) none)) 3 true []),(.mk (gm 121 17) 4 true []),(.mk (gg 122 (.ia (.t 121) (xk .i64 7) 1)) 5 true []),(.mk (gg 123 (.ld (.t 122) none)) 6 true []),(.mk (gg 124 (.cvi .i32 (.t 123))) 7 true []),(.mk (gg 125 (.call 67 [(.t 117),(.t 120),(.t 124)])) 8 false []),(.mk (gm 18 125) 9 true [])]) (.seq (.drw [(.mk (gm 126 18) 0 true []),(.mk (gm 127 15) 1 true []),(.mk (gg 128 (.ia (.t 127) (xk .i64 8) 1)) 2 true []),(.mk (gg 129 (.ld (.t 128) none)) 3 true []),(.mk (gm 130 17) 4 true []),(.mk (gg 131 (.ia (.t 130) (xk .i64 8) 1)) 5 true []),(.mk (gg 132 (.ld (.t 131) none)) 6 true []),(.mk (gg 133 (.cvi .i32 (.t 132))) 7 true []),(.mk (gg 134 (.call 67 [(.t 126),(.t 129),(.t 133)])) 8 false []),(.mk (gm 18 134) 9 true [])]) (sr [gm 135 3,gm 136 0,gg 137 (.nil (.t 136)),gg 138 (.ffa (.t 137) 102),gg 139 (.ld (.t 138) none),gg 140 (.cvi .i32 (.t 139)),gg 141 (.bin .sub (.t 140) (xk .i32 1)),gm 142 16,gg 143 (.bin .sub (.t 141) (.t 142)),gg 144 (.bin .mul (xk .i32 9) (.t 143)),gg 145 (.slq (.t 135) (some (.t 144)) none 1),gm 17 145] (.seq (.drw [(.mk (gm 146 18) 0 true []),(.mk (gm 147 15) 1 true []),(.mk (gg 148 (.ia (.t 147) (xk .i64 17) 1)) 2 true []),(.mk (gg 149 (.ld (.t 148) none)) 3 true []),(.mk (gm 150 17) 4 true []),(.mk (gg 151 (.ia (.t 150) (xk .i64 0) 1)) 5 true []),(.mk (gg 152 (.ld (.t 151) none)) 6 true []),(.mk (gg 153 (.cvi .i32 (.t 152))) 7 true []),(.mk (gg 154 (.call 67 [(.t 146),(.t 149),(.t 153)])) 8 false []),(.mk (gm 18 154) 9 true [])]) (.seq (.drw [(.mk (gm 155 18) 0 true []),(.mk (gm 156 15) 1 true []),(.mk (gg 157 (.ia (.t 156) (xk .i64 16) 1)) 2 true []),(.mk (gg 158 (.ld (.t 157) none)) 3 true []),(.mk (gm 159 17) 4 true []),(.mk (gg 160 (.ia (.t 159) (xk .i64 1) 1)) 5 true []),(.mk (gg 161 (.ld (.t 160) none)) 6 true []),(.mk (gg 162 (.cvi .i32 (.t 161))) 7 true []),(.mk (gg 163 (.call 67 [(.t 155),(.t 158),(.t 162)])) 8 false []),(.mk (gm 18 163) 9 true [])]) (.seq (.drw [(.mk (gm 164 18) 0 true []),(.mk (gm 165 15) 1 true []),(.mk (gg 166 (.ia (.t 165) (xk .i64 15) 1)) 2 true []),(.mk (gg 167 (.ld (.t 166) none)) 3 true []),(.mk (gm 168 17) 4 true []),(.mk (gg 169 (.ia (.t 168) (xk .i64 2) 1)) 5 true []),(.mk (gg 170 (.ld (.t 169) none)) 6 true []),(.mk (gg 171 (.cvi .i32 (.t 170))) 7 true []),(.mk (gg 172 (.call 67 [(.t 164),(.t 167),(.t 171)])) 8 false []),(.mk (gm 18 172) 9 true [])]) (.seq (.drw [(.mk (gm 173 18) 0 true []),(.mk (gm 174 15) 1 true []),(.mk (gg 175 (.ia (.t 174) (xk .i64 14) 1)) 2 true []),(.mk (gg 176 (.ld (.t 175) none)) 3 true []),(.mk (gm 177 17) 4 true []),(.mk (gg 178 (.ia (.t 177) (xk .i64 3) 1)) 5 true []),(.mk (gg 179 (.ld (.t 178) none)) 6 true []),(.mk (gg 180 (.cvi .i32 (.t 179))) 7 true []),(.mk (gg 181 (.call 67 [(.t 173),(.t 176),(.t 180)])) 8 false []),(.mk (gm 18 181) 9 true [])]) (.seq (.drw [(.mk (gm 182 18) 0 true []),(.mk (gm 183 15) 1 true []),(.mk (gg 184 (.ia (.t 183) (xk .i64 13) 1)) 2 true []),(.mk (gg 185 (.ld (.t 184) none)) 3 true []),(.mk (gm 186 17) 4 true []),(.mk (gg 187 (.ia (.t 186) (xk .i64 4) 1)) 5 true []),(.mk (gg 188 (.ld (.t 187) none)) 6 true []),(.mk (gg 189 (.cvi .i32 (.t 188))) 7 true []),(.mk (gg 190 (.call 67 [(.t 182),(.t 185),(.t 189)])) 8 false []),(.mk (gm 18 190) 9 true [])]) (.seq (.drw [(.mk (gm 191 18) 0 true []),(.mk (gm 192 15) 1 true []),(.mk (gg 193 (.ia (.t 192) (xk .i64 12) 1)) 2 true []),(.mk (gg 194 (.ld (.t 193) none)) 3 true []),(.mk (gm 195 17) 4 true []),(.mk (gg 196 (.ia (.t 195) (xk .i64 5) 1)) 5 true []),(.mk (gg 197 (.ld (.t 196) none)) 6 true []),(.mk (gg 198 (.cvi .i32 (.t 197))) 7 true []),(.mk (gg 199 (.call 67 [(.t 191),(.t 194),(.t 198)])) 8 false []),(.mk (gm 18 199) 9 true [])]) (.seq (.drw [(.mk (gm 200 18) 0 true []),(.mk (gm 201 15) 1 true []),(.mk (gg 202 (.ia (.t 201) (xk .i64 11) 1)) 2 true []),(.mk (gg 203 (.ld (.t 202) none)) 3 true []),(.mk (gm 204 17) 4 true []),(.mk (gg 205 (.ia (.t 204) (xk .i64 6) 1)) 5 true []),(.mk (gg 206 (.ld (.t 205) none)) 6 true []),(.mk (gg 207 (.cvi .i32 (.t 206))) 7 true []),(.mk (gg 208 (.call 67 [(.t 200),(.t 203),(.t 207)])) 8 false []),(.mk (gm 18 208) 9 true [])]) (.seq (.drw [(.mk (gm 209 18) 0 true []),(.mk (gm 210 15) 1 true []),(.mk (gg 211 (.ia (.t 210) (xk .i64 10) 1)) 2 true []),(.mk (gg 212 (.ld (.t 211) none)) 3 true []),(.mk (gm 213 17) 4 true []),(.mk (gg 214 (.ia (.t 213) (xk .i64 7) 1)) 5 true []),(.mk (gg 215 (.ld (.t 214) none)) 6 true []),(.mk (gg 216 (.cvi .i32 (.t 215))) 7 true []),(.mk (gg 217 (.call 67 [(.t 209),(.t 212),(.t 216)])) 8 false []),(.mk (gm 18 217) 9 true [])]) (.seq (.drw [(.mk (gm 218 18) 0 true []),(.mk (gm 219 15) 1 true []),(.mk (gg 220 (.ia (.t 219) (xk .i64 9) 1)) 2 true []),(.mk (gg 221 (.ld (.t 220) none)) 3 true []),(.mk (gm 222 17) 4 true []),(.mk (gg 223 (.ia (.t 222) (xk .i64 8) 1)) 5 true []),(.mk (gg 224 (.ld (.t 223) none)) 6 true []),(.mk (gg 225 (.cvi .i32 (.t 224))) 7 true []),(.mk (gg 226 (.call 67 [(.t 218),(.t 221),(.t 225)])) 8 false []),(.mk (gm 18 226) 9 true [])]) (sr [gm 227 1,gm 228 13,gm 229 18,gg 230 (.call 65 [(.t 229),(xk .i64 6)]),gg 231 (.call 68 [(.t 230)]),gg 232 (.ia (.t 227) (.t 228) 1),(G.mk none none (.st (.t 232) (.t 231) 1))] (.reg [gm 233 13,gg 234 (.bin .add (.t 233) (xk .i64 1)),gm 13 234]))))))))))))))))))))))))) (.reg [gm 34 14,gm 35 5,gg 36 (.bin .add (.t 34) (.t 35)),gm 14 36])))))) (sr [gg 236 (.bin .eql (.t 28) (xk .i64 24)),gm 235 236] (.cond (.t 235) (sr [gg 19 (.mov (xk .i32 0))] (.block 3 (.loop (.seq (sr [gm 237 19,gm 238 4,gg 239 (.bin .lss (.t 237) (.t 238))] (.cond (.t 239) .skip (.exit 3))) (.seq (.block 4 (sr [gm 243 2,gm 244 19,gg 245 (.bik .shr .u64 (.t 244) 16),gg 246 (.slq (.t 243) (some (.t 245)) none 1),gm 20 246] (.seq (.drw [(.mk (gm 247 20) 0 true []),(.mk (gg 248 (.ia (.t 247) (xk .i64 0) 1)) 1 true []),(.mk (gg 249 (.ld (.t 248) none)) 2 true []),(.mk (gm 250 20) 3 true []),(.mk (gg 251 (.ia (.t 250) (xk .i64 23) 1)) 4 true []),(.mk (gg 252 (.ld (.t 251) none)) 5 true []),(.mk (gg 253 (.bin .add (.t 249) (.t 252))) 6 true []),(.mk (gm 254 3) 7 true []),(.mk (gg 255 (.ia (.t 254) (xk .i64 0) 1)) 8 true []),(.mk (gg 256 (.ld (.t 255) none)) 9 true []),(.mk (gg 257 (.cvi .i32 (.t 256))) 10 true []),(.mk (gg 258 (.call 64 [(.t 253),(.t 257)])) 11 false []),(.mk (gm 21 258) 12 true [])]) (.seq (.drw [(.mk (gm 259 21) 0 true []),(.mk (gm 260 20) 1 true []),(.mk (gg 261 (.ia (.t 260) (xk .i64 1) 1)) 2 true []),(.mk (gg 262 (.ld (.t 261) none)) 3 true []),(.mk (gm 263 20) 4 true []),(.mk (gg 264 (.ia (.t 263) (xk .i64 22) 1)) 5 true []),(.mk (gg 265 (.ld (.t 264) none)) 6 true []),(.mk (gg 266 (.bin .add (.t 262) (.t 265))) 7 true []),(.mk (gm 267 3) 8 true []),(.mk (gg 268 (.ia (.t 267) (xk .i64 1) 1)) 9 true []),(.mk (gg 269 (.ld (.t 268) none)) 10 true []),(.mk (gg 270 (.cvi .i32 (.t 269))) 11 true []),(.mk (gg 271 (.call 67 [(.t 259),(.t 266),(.t 270)])) 12 false []),(.mk (gm 21 271) 13 true [])]) (.seq (.drw [(.mk (gm 272 21) 0 true []),(.mk (gm 273 20) 1 true []),(.mk (gg 274 (.ia (.t 273) (xk .i64 2) 1)) 2 true []),(.mk (gg 275 (.ld (.t 274) none)) 3 true []),(.mk (gm 276 20) 4 true []),(.mk (gg 277 (.ia (.t 276) (xk .i64 21) 1)) 5 true []),(.mk (gg 278 (.ld (.t 277) none)) 6 true []),(.mk (gg 279 (.bin .add (.t 275) (.t 278))) 7 true []),(.mk (gm 280 3) 8 true []),(.mk (gg 281 (.ia (.t 280) (xk .i64 2) 1)) 9 true []),(.mk (gg 282 (.ld (.t 281) none)) 10 true []),(.mk (gg 283 (.cvi .i32 (.t 282))) 11 true []),(.mk (gg 284 (.call 67 [(.t 272),(.t 279),(.t 283)])) 12 false []),(.mk (gm 21 284) 13 true [])]) (.seq (.drw [(.mk (gm 285 21) 0 true []),(.mk (gm 286 20) 1 true []),(.mk (gg 287 (.ia (.t 286) (xk .i64 3) 1)) 2 true []),(.mk (gg 288 (.ld (.t 287) none)) 3 true []),(.mk (gm 289 20) 4 true []),(.mk (gg 290 (.ia (.t 289) (xk .i64 20) 1)) 5 true []),(.mk (gg 291 (.ld (.t 290) none)) 6 true []),(.mk (gg 292 (.bin .add (.t 288) (.t 291))) 7 true []),(.mk (gm 293 3) 8 true []),(.mk (gg 294 (.ia (.t 293) (xk .i64 3) 1)) 9 true []),(.mk (gg 295 (.ld (.t 294) none)) 10 true []),(.mk (gg 296 (.cvi .i32 (.t 295))) 11 true []),(.mk (gg 297 (.call 67 [(.t 285),(.t 292),(.t 296)])) 12 false []),(.mk (gm 21 297) 13 true [])]) (.seq (.drw [(.mk (gm 298 21) 0 true []),(.mk (gm 299 20) 1 true []),(.mk (gg 300 (.ia (.t 299) (xk .i64 4) 1)) 2 true []),(.mk (gg 301 (.ld (.t 300) none)) 3 true []),(.mk (gm 302 20) 4 true []),(.mk (gg 303 (.ia (.t 302) (xk .i64 19) 1)) 5 true []),(.mk (gg 304 (.ld (.t 303) none)) 6 true []),(.mk (gg 305 (.bin .add (.t 301) (.t 304))) 7 true []),(.mk (gm 306 3) 8 true []),(.mk (gg 307 (.ia (.t 306) (xk .i64 4) 1)) 9 true []),(.mk (gg 308 (.ld (.t 307) none)) 10 true []),(.mk (gg 309 (.cvi .i32 (.t 308))) 11 true []),(.mk (gg 310 (.call 67 [(.t 298),(.t 305),(.t 309)])) 12 false []),(.mk (gm 21 310) 13 true [])]) (.seq (.drw [(.mk (gm 311 21) 0 true []),(.mk (gm 312 20) 1 true []),(.mk (gg 313 (.ia (.t 312) (xk .i64 5) 1)) 2 true []),(.mk (gg 314 (.ld (.t 313) none)) 3 true []),(.mk (gm 315 20) 4 true []),(.mk (gg 316 (.ia (.t 315) (xk .i64 18) 1)) 5 true []),(.mk (gg 317 (.ld (.t 316) none)) 6 true []),(.mk (gg 318 (.bin .add (.t 314) (.t 317))) 7 true []),(.mk (gm 319 3) 8 true []),(.mk (gg 320 (.ia (.t 319) (xk .i64 5) 1)) 9 true []),(.mk (gg 321 (.ld (.t 320) none)) 10 true []),(.mk (gg 322 (.cvi .i32 (.t 321))) 11 true []),(.mk (gg 323 (.call 67 [(.t 311),(.t 318),(.t 322)])) 12 false []),(.mk (gm 21 323) 13 true [])]) (.seq (.drw [(.mk (gm 324 21) 0 true []),(.mk (gm 325 20) 1 true []),(.mk (gg 326 (.ia (.t 325) (xk .i64 6) 1)) 2 true []),(.mk (gg 327 (.ld (.t 326) none)) 3 true []),(.mk (gm 328 20) 4 true []),(.mk (gg 329 (.ia (.t 328) (xk .i64 17) 1)) 5 true []),(.mk (gg 330 (.ld (.t 329) none)) 6 true []),(.mk (gg 331 (.bin .add (.t 327) (.t 330))) 7 true []),(.mk (gm 332 3) 8 true []),(.mk (gg 333 (.ia (.t 332) (xk .i64 6) 1)) 9 true []),(.mk (gg 334 (.ld (.t 333) none)) 10 true []),(.mk (gg 335 (.cvi .i32 (.t 334))) 11 true []),(.mk (gg 336 (.call 67 [(.t 324),(.t 331),(.t 335)])) 12 false []),(.mk (gm 21 336) 13 true [])]) (.seq (.drw [(.mk (gm 337 21) 0 true []),(.mk (gm 338 20) 1 true []),(.mk (gg 339 (.ia (.t 338) (xk .i64 7) 1)) 2 true []),(.mk (gg 340 (.ld (.t 339) none)) 3 true []),(.mk (gm 341 20) 4 true []),(.mk (gg 342 (.ia (.t 341) (xk .i64 16) 1)) 5 true []),(.mk (gg 343 (.ld (.t 342) none)) 6 true []),(.mk (gg 344 (.bin .add (.t 340) (.t 343))) 7 true []),(.mk (gm 345 3) 8 true []),(.mk (gg 346 (.ia (.t 345) (xk .i64 7) 1)) 9 true []),(.mk (gg 347 (.ld (.t 346) none)) 10 true []),(.mk (gg 348 (.cvi .i32 (.t 347))) 11 true []),(.mk (gg 349 (.call 67 [(.t 337),(.t 344),(.t 348)])) 12 false []),(.mk (gm 21 349) 13 true [])]) (.seq (.drw [(.mk (gm 350 21) 0 true []),(.mk (gm 351 20) 1 true []),(.mk (gg 352 (.ia (.t 351) (xk .i64 8) 1)) 2 true []),(.mk (gg 353 (.ld (.t 352) none)) 3 true []),(.mk (gm 354 20) 4 true []),(.mk (gg 355 (.ia (.t 354) (xk .i64 15) 1)) 5 true []),(.mk (gg 356 (.ld (.t 355) none)) 6 true []),(.mk (gg 357 (.bin .add (.t 353) (.t 356))) 7 true []),(.mk (gm 358 3) 8 true []),(.mk (gg 359 (.ia (.t 358) (xk .i64 8) 1)) 9 true []),(.mk (gg 360 (.ld (.t 359) none)) 10 true []),(.mk (gg 361 (.cvi .i32 (.t 360))) 11 true []),(.mk (gg 362 (.call 67 [(.t 350),(.t 357),(.t 361)])) 12 false []),(.mk (gm 21 362) 13 true [])]) (.seq (.drw [(.mk (gm 363 21) 0 true []),(.mk (gm 364 20) 1 true []),(.mk (gg 365 (.ia (.t 364) (xk .i64 9) 1)) 2 true []),(.mk (gg 366 (.ld (.t 365) none)) 3 true []),(.mk (gm 367 20) 4 true []),(.mk (gg 368 (.ia (.t 367) (xk .i64 14) 1)) 5 true []),(.mk (gg 369 (.ld (.t 368) none)) 6 true []),(.mk (gg 370 (.bin .add (.t 366) (.t 369))) 7 true []),(.mk (gm 371 3) 8 true []),(.mk (gg 372 (.ia (.t 371) (xk .i64 9) 1)) 9 true []),(.mk (gg 373 (.ld (.t 372) none)) 10 true []),(.mk (gg 374 (.cvi .i32 (.t 373))) 11 true []),(.mk (gg 375 (.call 67 [(.t 363),(.t 370),(.t 374)])) 12 false []),(.mk (gm 21 375) 13 true [])]) (.seq (.drw [(.mk (gm 376 21) 0 true []),(.mk (gm 377 20) 1 true []),(.mk (gg 378 (.ia (.t 377) (xk .i64 10) 1)) 2 true []),(.mk (gg 379 (.ld (.t 378) none)) 3 true []),(.mk (gm 380 20) 4 true []),(.mk (gg 381 (.ia (.t 380) (xk .i64 13) 1)) 5 true []),(.mk (gg 382 (.ld (.t 381) none)) 6 true []),(.mk (gg 383 (.bin .add (.t 379) (.t 382))) 7 true []),(.mk (gm 384 3) 8 true []),(.mk (gg 385 (.ia (.t 384) (xk .i64 10) 1)) 9 true []),(.mk (gg 386 (.ld (.t 385) none)) 10 true []),(.mk (gg 387 (.cvi .i32 (.t 386))) 11 true []),(.mk (gg 388 (.call 67 [(.t 376),(.t 383),(.t 387)])) 12 false []),(.mk (gm 21 388) 13 true [])]) (.seq (.drw [(.mk (gm 389 21) 0 true []),(.mk (gm 390 20) 1 true []),(.mk (gg 391 (.ia (.t 390) (xk .i64 11) 1)) 2 true []),(.mk (gg 392 (.ld (.t 391) none)) 3 true []),(.mk (gm 393 20) 4 true []),(.mk (gg 394 (.ia (.t 393) (xk .i64 12) 1)) 5 true []),(.mk (gg 395 (.ld (.t 394) none)) 6 true []),(.mk (gg 396 (.bin .add (.t 392) (.t 395))) 7 true []),(.mk (gm 397 3) 8 true []),(.mk (gg 398 (.ia (.t 397) (xk .i64 11) 1)) 9 true []),(.mk (gg 399 (.ld (.t 398) none)) 10 true []),(.mk (gg 400 (.cvi .i32 (.t 399))) 11 true []),(.mk (gg 401 (.call 67 [(.t 389),(.t 396),(.t 400)])) 12 false []),(.mk (gm 21 401) 13 true [])]) (sr [gm 402 1,gm 403 13,gm 404 21,gg 405 (.call 65 [(.t 404),(xk .i64 6)]),gg 406 (.call 68 [(.t 405)]),gg 407 (.ia (.t 402) (.t 403) 1),(G.mk none none (.st (.t 407) (.t 406) 1))] (.reg [gm 408 13,gg 409 (.bin .add (.t 408) (xk .i64 1)),gm 13 409])))))))))))))))) (.reg [gm 240 19,gm 241 5,gg 242 (.bin .add (.t 240) (.t 241)),gm 19 242])))))) (sr [gg 411 (.bin .eql (.t 28) (xk .i64 36)),gm 410 411] (.cond (.t 410) (sr [gg 22 (.mov (xk .i32 0))] (.block 5 (.loop (.seq (sr [gm 412 22,gm 413 4,gg 414 (.bin .lss (.t 412) (.t 413))] (.cond (.t 414) .skip (.exit 5))) (.seq (.block 6 (sr [gm 418 2,gm 419 22,gg 420 (.bik .shr .u64 (.t 419) 16),gg 421 (.slq (.t 418) (some (.t 420)) none 1),gm 23 421] (.seq (.drw [(.mk (gm 422 23) 0 true []),(.mk (gg 423 (.ia (.t 422) (xk .i64 0) 1)) 1 true []),(.mk (gg 424 (.ld (.t 423) none)) 2 true []),(.mk (gm 425 23) 3 true []),(.mk (gg 426 (.ia (.t 425) (xk .i64 35) 1)) 4 true []),(.mk (gg 427 (.ld (.t 426) none)) 5 true []),(.mk (gg 428 (.bin .add (.t 424) (.t 427))) 6 true []),(.mk (gm 429 3) 7 true []),(.mk (gg 430 (.ia (.t 429) (xk .i64 0) 1)) 8 true []),(.mk (gg 431 (.ld (.t 430) none)) 9 true []),(.mk (gg 432 (.cvi .i32 (.t 431))) 10 true []),(.mk (gg 433 (.call 64 [(.t 428),(.t 432)])) 11 false []),(.mk (gm 24 433) 12 true [])]) (.seq (.drw [(.mk (gm 434 24) 0 true []),(.mk (gm 435 23) 1 true []),(.mk (gg 436 (.ia (.t 435) (xk .i64 1) 1)) 2 true []),(.mk (gg 437 (.ld (.t 436) none)) 3 true []),(.mk (gm 438 23) 4 true []),(.mk (gg 439 (.ia (.t 438) (xk .i64 34) 1)) 5 true []),(.mk (gg 440 (.ld (.t 439) none)) 6 true []),(.mk (gg 441 (.bin .add (.t 437) (.t 440))) 7 true []),(.mk (gm 442 3) 8 true []),(.mk (gg 443 (.ia (.t 442) (xk .i64 1) 1)) 9 true []),(.mk (gg 444 (.ld (.t 443) none)) 10 true []),(.mk (gg 445 (.cvi .i32 (.t 444))) 11 true []),(.mk (gg 446 (.call 67 [(.t 434),(.t 441),(.t 445)])) 12 false []),(.mk (gm 24 446) 13 true [])]) (.seq (.drw [(.mk (gm 447 24) 0 true []),(.mk (gm 448 23) 1 true []),(.mk (gg 449 (.ia (.t 448) (xk .i64 2) 1)) 2 true []),(.mk (gg 450 (.ld (.t 449) none)) 3 true []),(.mk (gm 451 23) 4 true []),(.mk (gg 452 (.ia (.t 451) (xk .i64 33) 1)) 5 true []),(.mk (gg 453 (.ld (.t 452) none)) 6 true []),(.mk (gg 454 (.bin .add (.t 450) (.t 453))) 7 true []),(.mk (gm 455 3) 8 true []),(.mk (gg 456 (.ia (.t 455) (xk .i64 2) 1)) 9 true []),(.mk (gg 457 (.ld (.t 456) none)) 10 true []),(.mk (gg 458 (.cvi .i32 (.t 457))) 11 true []),(.mk (gg 459 (.call 67 [(.t 447),(.t 454),(.t 458)])) 12 false []),(.mk (gm 24 459) 13 true [])]) (.seq (.drw [(.mk (gm 460 24) 0 true []),(.mk (gm 461 23) 1 true []),(.mk (gg 462 (.ia (.t 461) (xk .i64 3) 1)) 2 true []),(.mk (gg 463 (.ld (.t 462) none)) 3 true []),(.mk (gm 464 23) 4 true []),(.mk (gg 465 (.ia (.t 464) (xk .i64 32) 1)) 5 true []),(.mk (gg 466 (.ld (.t 465) none)) 6 true []),(.mk (gg 467 (.bin .add (.t 463) (.t 466))) 7 true []),(.mk (gm 468 3) 8 true []),(.mk (gg 469 (.ia (.t 468) (xk .i64 3) 1)) 9 true []),(.mk (gg 470 (.ld (.t 469) none)) 10 true []),(.mk (gg 471 (.cvi .i32 (.t 470))) 11 true []),(.mk (gg 472 (.call 67 [(.t 460),(.t 467),(.t 471)])) 12 false []),(.mk (gm 24 472) 13 true [])]) (.seq (.drw [(.mk (gm 473 24) 0 true []),(.mk (gm 474 23) 1 true []),(.mk (gg 475 (.ia (.t 474) (xk .i64 4) 1)) 2 true []),(.mk (gg 476 (.ld (.t 475) none)) 3 true []),(.mk (gm 477 23) 4 true []),(.mk (gg 478 (.ia (.t 477) (xk .i64 31) 1)) 5 true []),(.mk (gg 479 (.ld (.t 478) none)) 6 true []),(.mk (gg 480 (.bin .add (.t 476) (.t 479))) 7 true []),(.mk (gm 481 3) 8 true []),(.mk (gg 482 (.ia (.t 481) (xk .i64 4) 1)) 9 true []),(.mk (gg 483 (.ld (.t 482) none)) 10 true []),(.mk (gg 484 (.cvi .i32 (.t 483))) 11 true []),(.mk (gg 485 (.call 67 [(.t 473),(.t 480),(.t 484)])) 12 false []),(.mk (gm 24 485) 13 true [])]) (.seq (.drw [(.mk (gm 486 24) 0 true []),(.mk (gm 487 23) 1 true []),(.mk (gg 488 (.ia (.t 487) (xk .i64 5) 1)) 2 true []),(.mk (gg 489 (.ld (.t 488) none)) 3 true []),(.mk (gm 490 23) 4 true []),(.mk (gg 491 (.ia (.t 490) (xk .i64 30) 1)) 5 true []),(.mk (gg 492 (.ld (.t 491) none)) 6 true []),(.mk (gg 493 (.bin .add (.t 489) (.t 492))) 7 true []),(.mk (gm 494 3) 8 true []),(.mk (gg 495 (.ia (.t 494) (xk .i64 5) 1)) 9 true []),(.mk (gg 496 (.ld (.t 495) none)) 10 true []),(.mk (gg 497 (.cvi .i32 (.t 496))) 11 true []),(.mk (gg 498 (.call 67 [(.t 486),(.t 493),(.t 497)])) 12 false []),(.mk (gm 24 498) 13 true [])]) (.seq (.drw [(.mk (gm 499 24) 0 true []),(.mk (gm 500 23) 1 true []),(.mk (gg 501 (.ia (.t 500) (xk .i64 6) 1)) 2 true []),(.mk (gg 502 (.ld (.t 501) none)) 3 true []),(.mk (gm 503 23) 4 true []),(.mk (gg 504 (.ia (.t 503) (xk .i64 29) 1)) 5 true []),(.mk (gg 505 (.ld (.t 504) none)) 6 true []),(.mk (gg 506 (.bin .add (.t 502) (.t 505))) 7 true []),(.mk (gm 507 3) 8 true []),(.mk (gg 508 (.ia (.t 507) (xk .i64 6) 1)) 9 true []),(.mk (gg 509 (.ld (.t 508) none)) 10 true []),(.mk (gg 510 (.cvi .i32 (.t 509))) 11 true []),(.mk (gg 511 (.call 67 [(.t 499),(.t 506),(.t 510)])) 12 false []),(.mk (gm 24 511) 13 true [])]) (.seq (.drw [(.mk (gm 512 24) 0 true []),(.mk (gm 513 23) 1 true []),(.mk (gg 514 (.ia (.t 513) (xk .i64 7) 1)) 2 true []),(.mk (gg 515 (.ld (.t 514) none)) 3 true []),(.mk (gm 516 23) 4 true []),(.mk (gg 517 (.ia (.t 516) (xk .i64 28) 1)) 5 true []),(.mk (gg 518 (.ld (.t 517) none)) 6 true []),(.mk (gg 519 (.bin .add (.t 515) (.t 518))) 7 true []),(.mk (gm 520 3) 8 true []),(.mk (gg 521 (.ia (.t 520) (xk .i64 7) 1)) 9 true []),(.mk (gg 522 (.ld (.t 521) none)) 10 true []),(.mk (gg 523 (.cvi .i32 (.t 522))) 11 true []),(.mk (gg 524 (.call 67 [(.t 512),(.t 519),(.t 523)])) 12 false []),(.mk (gm 24 524) 13 true [])]) (.seq (.drw [(.mk (gm 525 24) 0 true []),(.mk (gm 526 23) 1 true []),(.mk (gg 527 (.ia (.t 526) (xk .i64 8) 1)) 2 true []),(.mk (gg 528 (.ld (.t 527) none)) 3 true []),(.mk (gm 529 23) 4 true []),(.mk (gg 530 (.ia (.t 529) (xk .i64 27) 1)) 5 true []),(.mk (gg 531 (.ld (.t 530) none)) 6 true []),(.mk (gg 532 (.bin .add (.t 528) (.t 531))) 7 true []),(.mk (gm 533 3) 8 true []),(.mk (gg 534 (.ia (.t 533) (xk .i64 8) 1)) 9 true []),(.mk (gg 535 (.ld (.t 534) none)) 10 true []),(.mk (gg 536 (.cvi .i32 (.t 535))) 11 true []),(.mk (gg 537 (.call 67 [(.t 525),(.t 532),(.t 536)])) 12 false []),(.mk (gm 24 537) 13 true [])]) (.seq (.drw [(.mk (gm 538 24) 0 true []),(.mk (gm 539 23) 1 true []),(.mk (gg 540 (.ia (.t 539) (xk .i64 9) 1)) 2 true []),(.mk (gg 541 (.ld (.t 540) none)) 3 true []),(.mk (gm 542 23) 4 true []),(.mk (gg 543 (.ia (.t 542) (xk .i64 26) 1)) 5 true []),(.mk (gg 544 (.ld (.t 543) none)) 6 true []),(.mk (gg 545 (.bin .add (.t 541) (.t 544))) 7 true []),(.mk (gm 546 3) 8 true []),(.mk (gg 547 (.ia (.t 546) (xk .i64 9) 1)) 9 true []),(.mk (gg 548 (.ld (.t 547) none)) 10 true []),(.mk (gg 549 (.cvi .i32 (.t 548))) 11 true []),(.mk (gg 550 (.call 67 [(.t 538),(.t 545),(.t 549)])) 12 false []),(.mk (gm 24 550) 13 true [])]) (.seq (.drw [(.mk (gm 551 24) 0 true []),(.mk (gm 552 23) 1 true []),(.mk (gg 553 (.ia (.t 552) (xk .i64 10) 1)) 2 true []),(.mk (gg 554 (.ld (.t 553) none)) 3 true []),(.mk (gm 555 23) 4 true []),(.mk (gg 556 (.ia (.t 555) (xk .i64 25) 1)) 5 true []),(.mk (gg 557 (.ld (.t 556) none)) 6 true []),(.mk (gg 558 (.bin .add (.t 554) (.t 557))) 7 true []),(.mk (gm 559 3) 8 true []),(.mk (gg 560 (.ia (.t 559) (xk .i64 10) 1)) 9 true []),(.mk (gg 561 (.ld (.t 560) none)) 10 true []),(.mk (gg 562 (.cvi .i32 (.t 561))) 11 true []),(.mk (gg 563 (.call 67 [(.t 551),(.t 558),(.t 562)])) 12 false []),(.mk (gm 24 563) 13 true [])]) (.seq (.drw [(.mk (gm 564 24) 0 true []),(.mk (gm 565 23) 1 true []),(.mk (gg 566 (.ia (.t 565) (xk .i64 11) 1)) 2 true []),(.mk (gg 567 (.ld (.t 566) none)) 3 true []),(.mk (gm 568 23) 4 true []),(.mk (gg 569 (.ia (.t 568) (xk .i64 24) 1)) 5 true []),(.mk (gg 570 (.ld (.t 569) none)) 6 true []),(.mk (gg 571 (.bin .add (.t 567) (.t 570))) 7 true []),(.mk (gm 572 3) 8 true []),(.mk (gg 573 (.ia (.t 572) (xk .i64 11) 1)) 9 true []),(.mk (gg 574 (.ld (.t 573) none)) 10 true []),(.mk (gg 575 (.cvi .i32 (.t 574))) 11 true []),(.mk (gg 576 (.call 67 [(.t 564),(.t 571),(.t 575)])) 12 false []),(.mk (gm 24 576) 13 true [])]) (.seq (.drw [(.mk (gm 577 24) 0 true []),(.mk (gm 578 23) 1 true []),(.mk (gg 579 (.ia (.t 578) (xk .i64 12) 1)) 2 true []),(.mk (gg 580 (.ld (.t 579) none)) 3 true []),(.mk (gm 581 23) 4 true []),(.mk (gg 582 (.ia (.t 581) (xk .i64 23) 1)) 5 true []),(.mk (gg 583 (.ld (.t 582) none)) 6 true []),(.mk (gg 584 (.bin .add (.t 580) (.t 583))) 7 true []),(.mk (gm 585 3) 8 true []),(.mk (gg 586 (.ia (.t 585) (xk .i64 12) 1)) 9 true []),(.mk (gg 587 (.ld (.t 586) none)) 10 true []),(.mk (gg 588 (.cvi .i32 (.t 587))) 11 true []),(.mk (gg 589 (.call 67 [(.t 577),(.t 584),(.t 588)])) 12 false []),(.mk (gm 24 589) 13 true [])]) (.seq (.drw [(.mk (gm 590 24) 0 true []),(.mk (gm 591 23) 1 true []),(.mk (gg 592 (.ia (.t 591) (xk .i64 13) 1)) 2 true []),(.mk (gg 593 (.ld (.t 592) none)) 3 true []),(.mk (gm 594 23) 4 true []),(.mk (gg 595 (.ia (.t 594) (xk .i64 22) 1)) 5 true []),(.mk (gg 596 (.ld (.t 595) none)) 6 true []),(.mk (gg 597 (.bin .add (.t 593) (.t 596))) 7 true []),(.mk (gm 598 3) 8 true []),(.mk (gg 599 (.ia (.t 598) (xk .i64 13) 1)) 9 true []),(.mk (gg 600 (.ld (.t 599) none)) 10 true []),(.mk (gg 601 (.cvi .i32 (.t 600))) 11 true []),(.mk (gg 602 (.call 67 [(.t 590),(.t 597),(.t 601)])) 12 false []),(.mk (gm 24 602) 13 true [])]) (.seq (.drw [(.mk (gm 603 24) 0 true []),(.mk (gm 604 23) 1 true []),(.mk (gg 605 (.ia (.t 604) (xk .i64 14) 1)) 2 true []),(.mk (gg 606 (.ld (.t 605) none)) 3 true []),(.mk (gm 607 23) 4 true []),(.mk (gg 608 (.ia (.t 607) (xk .i64 21) 1)) 5 true []),(.mk (gg 609 (.ld (.t 608) none)) 6 true []),(.mk (gg 610 (.bin .add (.t 606) (.t 609))) 7 true []),(.mk (gm 611 3) 8 true []),(.mk (gg 612 (.ia (.t 611) (xk .i64 14) 1)) 9 true []),(.mk (gg 613 (.ld (.t 612) none)) 10 true []),(.mk (gg 614 (.cvi .i32 (.t 613))) 11 true []),(.mk (gg 615 (.call 67 [(.t 603),(.t 610),(.t 614)])) 12 false []),(.mk (gm 24 615) 13 true [])]) (.seq (.drw [(.mk (gm 616 24) 0 true []),(.mk (gm 617 23) 1 true []),(.mk (gg 618 (.ia (.t 617) (xk .i64 15) 1)) 2 true []),(.mk (gg 619 (.ld (.t 618) none)) 3 true []),(.mk (gm 620 23) 4 true []),(.mk (gg 621 (.ia (.t 620) (xk .i64 20) 1)) 5 true []),(.mk (gg 622 (.ld (.t 621) none)) 6 true []),(.mk (gg 623 (.bin .add (.t 619) (.t 622))) 7 true []),(.mk (gm 624 3) 8 true []),(.mk (gg 625 (.ia (.t 624) (xk .i64 15) 1)) 9 true []),(.mk (gg 626 (.ld (.t 625) none)) 10 true []),(.mk (gg 627 (.cvi .i32 (.t 626))) 11 true []),(.mk (gg 628 (.call 67 [(.t 616),(.t 623),(.t 627)])) 12 false []),(.mk (gm 24 628) 13 true [])]) (.seq (.drw [(.mk (gm 629 24) 0 true []),(.mk (gm 630 23) 1 true []),(.mk (gg 631 (.ia (.t 630) (xk .i64 16) 1)) 2 true []),(.mk (gg 632 (.ld (.t 631) none)) 3 true []),(.mk (gm 633 23) 4 true []),(.mk (gg 634 (.ia (.t 633) (xk .i64 19) 1)) 5 true []),(.mk (gg 635 (.ld (.t 634) none)) 6 true []),(.mk (gg 636 (.bin .add (.t 632) (.t 635))) 7 true []),(.mk (gm 637 3) 8 true []),(.mk (gg 638 (.ia (.t 637) (xk .i64 16) 1)) 9 true []),(.mk (gg 639 (.ld (.t 638) none)) 10 true []),(.mk (gg 640 (.cvi .i32 (.t 639))) 11 true []),(.mk (gg 641 (.call 67 [(.t 629),(.t 636),(.t 640)])) 12 false []),(.mk (gm 24 641) 13 true [])]) (.seq (.drw [(.mk (gm 642 24) 0 true []),(.mk (gm 643 23) 1 true []),(.mk (gg 644 (.ia (.t 643) (xk .i64 17) 1)) 2 true []),(.mk (gg 645 (.ld (.t 644) none)) 3 true []),(.mk (gm 646 23) 4 true []),(.mk (gg 647 (.ia (.t 646) (xk .i64 18) 1)) 5 true []),(.mk (gg 648 (.ld (.t 647) none)) 6 true []),(.mk (gg 649 (.bin .add (.t 645) (.t 648))) 7 true []),(.mk (gm 650 3) 8 true []),(.mk (gg 651 (.ia (.t 650) (xk .i64 17) 1)) 9 true []),(.mk (gg 652 (.ld (.t 651) none)) 10 true []),(.mk (gg 653 (.cvi .i32 (.t 652))) 11 true []),(.mk (gg 654 (.call 67 [(.t 642),(.t 649),(.t 653)])) 12 false []),(.mk (gm 24 654) 13 true [])]) (sr [gm 655 1,gm 656 13,gm 657 24,gg 658 (.call 65 [(.t 657),(xk .i64 6)]),gg 659 (.call 68 [(.t 658)]),gg 660 (.ia (.t 655) (.t 656) 1),(G.mk none none (.st (.t 660) (.t 659) 1))] (.reg [gm 661 13,gg 662 (.bin .add (.t 661) (xk .i64 1)),gm 13 662])))))))))))))))))))))) (.reg [gm 415 22,gm 416 5,gg 417 (.bin .add (.t 415) (.t 416)),gm 22 417])))))) .skip)))))))) (sr [gm 663 13,gm 12 663] .ret)))) 6 [(.t 12)]):=by kernel_rfl
theorem c7_:compD Tryz.prog 7=some (.mk (sr [gg 6 (.alc 22 [(.slice none 0 0)]),gg 7 (.alc 3 [(.int .i64 ((0:Nat):Int))])] (sr [gg 18 (.mkf 12 [(.t 6),(.t 7)])] (sr [gg 8 (.alc 46 [(.int .i32 ((0:Nat):Int)),(.int .i32 ((0:Nat):Int)),(.int .i32 ((0:Nat):Int)),(.int .i32 ((0:Nat):Int)),(.int .i32 ((0:Nat):Int)),(.int .i32 ((0:Nat):Int)),(.int .i32 ((0:Nat):Int)),(.int .i32 ((0:Nat):Int)),(.int .i32 ((0:Nat):Int)),(.int .i32 ((0:Nat):Int)),(.int .i32 ((0:Nat):Int)),(.int .i32 ((0:Nat):Int)),(.int .i32 ((0:Nat):Int)),(.int .i32 ((0:Nat):Int)),(.int .i32 ((0:Nat):Int)),(.int .i32 ((0:Nat):Int)),(.int .i32 ((0:Nat):Int)),(.int .i32 ((0:Nat):Int)),(.int .i32 ((0:Nat):Int)),(.int .i32 ((0:Nat):Int)),(.int .i32 ((0:Nat):Int)),(.int .i32 ((0:Nat):Int)),(.int .i32 ((0:Nat):Int)),(.int .i32 ((0:Nat):Int)),(.int .i32 ((0:Nat):Int)),(.int .i32 ((0:Nat):Int)),(.int .i32 ((0:Nat):Int)),(.int .i32 ((0:Nat):Int)),(.int .i32 ((0:Nat):Int)),(.int .i32 ((0:Nat):Int)),(.int .i32 ((0:Nat):Int)),(.int .i32 ((0:Nat):Int)),(.int .i32 ((0:Nat):Int)),(.int .i32 ((0:Nat):Int)),(.int .i32 ((0:Nat):Int)),(.int .i32 ((0:Nat):Int)),(.int .i32 ((0:Nat):Int)),(.int .i32 ((0:Nat):Int)),(.int .i32 ((0:Nat):Int)),(.int .i32 ((0:Nat):Int)),(.int .i32 ((0:Nat):Int)),(.int .i32 ((0:Nat):Int)),(.int .i16 ((0:Nat):Int)),(.int .i16 ((0:Nat):Int)),(.int .i16 ((0:Nat):Int)),(.int .i16 ((0:Nat):Int)),(.int .i16 ((0:Nat):Int)),(.int .i16 ((0:Nat):Int)),(.int .i16 ((0:Nat):Int)),(.int .i16 ((0:Nat):Int)),(.int .i16 ((0:Nat):Int)),(.int .i16 ((0:Nat):Int)),(.int .i16 ((0:Nat):Int)),(.int .i16 ((0:Nat):Int)),(.int .i16 ((0:Nat):Int)),(.int .i16 ((0:Nat):Int)),(.int .i16 ((0:Nat):Int)),(.int .i16 ((0:Nat):Int)),(.int .i16 ((0:Nat):Int)),(.int .i16 ((0:Nat):Int)),(.int .i16 ((0:Nat):Int)),(.int .i16 ((0:Nat):Int)),(.int .i16 ((0:Nat):Int)),(.int .i16 ((0:Nat):Int)),(.int .i16 ((0:Nat):Int)),(.int .i16 ((0:Nat):Int)),(.int .i16 ((0:Nat):Int)),(.int .i16 ((0:Nat):Int)),(.int .i16 ((0:Nat):Int)),(.int .i16 ((0:Nat):Int)),(.int .i16 ((0:Nat):Int)),(.int .i16 ((0:Nat):Int)),(.int .i16 ((0:Nat):Int)),(.int .i16 ((0:Nat):Int)),(.int .i16 ((0:Nat):Int)),(.int .i16 ((0:Nat):Int)),(.int .i16 ((0:Nat):Int)),(.int .i16 ((0:Nat):Int)),(.int .i16 ((0:Nat):Int)),(.int .i16 ((0:Nat):Int)),(.int .i16 ((0:Nat):Int)),(.int .i16 ((0:Nat):Int)),(.int .i16 ((0:Nat):Int)),(.int .i16 ((0:Nat):Int)),(.int .i16 ((0:Nat):Int)),(.int .i16 ((0:Nat):Int)),(.int .i16 ((0:Nat):Int)),(.int .i16 ((0:Nat):Int)),(.int .i16 ((0:Nat):Int)),(.int .i16 ((0:Nat):Int)),(.int .i16 ((0:Nat):Int)),(.int .i16 ((0:Nat):Int)),(.int .i16 ((0:Nat):Int)),(.int .i16 ((0:Nat):Int)),(.int .i16 ((0:Nat):Int)),(.int .i16 ((0:Nat):Int)),(.int .i16 ((0:Nat):Int)),(.int .i16 ((0:Nat):Int)),(.int .i64 ((0:Nat):Int)),(.int .i64 ((0:Nat):Int)),(.int .i32 ((0:Nat):Int)),(.int .i64 ((0:Nat):Int)),(.int .i64 ((0:Nat):Int)),(.int .i64 ((0:Nat):Int)),(.int .i64 ((0:Nat):Int)),(.int .i64 ((0:Nat):Int)),(.slice none 0 0),(.slice none 0 0),(.slice none 0 0),(.slice none 0 0),(.slice none 0 0)])] (.cut (sr [gm 19 1,gm 20 2,gg 21 (.call 13 [(.t 8),(.t 19),(.t 20)]),gg 22 (.inl true (.t 21))] (.cond (.t 22) (sr [(G.mk none none (.st (.t 6) (.k (.slice none 0 0)) 1)),(G.mk none none (.st (.t 7) (xk .i64 1) 1))] .ret) .skip)) (.cut (sr [gm 23 0,gg 24 (.len false (.t 23)),gg 25 (.mov (xk .i64 0))] (.block 0 (.loop (sr [gg 26 (.bin .lss (.t 25) (.t 24))] (.seq (.cond (.t 26) .skip (.exit 0)) (.cut (.block 1 (sr [gg 27 (.ia (.t 23) (.t 25) 1),gg 28 (.ld (.t 27) none),gm 10 28] (sr [gm 29 10,gg 30 (.len false (.t 29)),gg 31 (.mks 51 1 4 [(.float FloatKind.f32 0)] (.t 30) (.t 30)),gm 11 31] (.cut (sr [gm 32 10,gg 33 (.len false (.t 32)),gg 34 (.mov (xk .i64 0))] (.block 2 (.loop (sr [gg 35 (.bin .lss (.t 34) (.t 33))] (.seq (.cond (.t 35) .skip (.exit 2)) (.seq (.block 3 (sr [gm 36 34,gg 37 (.ia (.t 32) (.t 34) 1),gg 38 (.ld (.t 37) none),gm 12 36,gm 13 38] (.reg [gm 39 11,gm 40 12,gm 41 13,gg 42 (.cvf FloatKind.f32 (.t 41)),gg 43 (.bin .quo (.t 42) (.k (.float FloatKind.f32 1191182336))),gg 44 (.ia (.t 39) (.t 40) 1),(G.mk none none (.st (.t 44) (.t 43) 1))]))) (.reg [gg 45 (.bin .add (.t 34) (xk .i64 1)),gm 34 45]))))))) (sr [gm 46 10,gg 47 (.len false (.t 46)),gm 48 2,gg 49 (.bin .mul (.t 47) (.t 48)),gm 50 1,gg 51 (.bin .quo (.t 49) (.t 50)),gg 52 (.mks 51 1 4 [(.float FloatKind.f32 0)] (.t 51) (.t 51)),gm 14 52] (.cut (sr [gm 53 11,gm 54 14,gg 55 (.call 14 [(.t 8),(.t 53),(.t 54)]),gg 56 (.inl true (.t 55))] (.cond (.t 56) (sr [(G.mk none none (.st (.t 6) (.k (.slice none 0 0)) 1)),(G.mk none none (.st (.t 7) (xk .i64 1) 1))] .ret) .skip)) (sr [gg 15 (.mov (.k (.slice none 0 0)))] (.cut (sr [gm 57 14,gg 58 (.len false (.t 57)),gg 59 (.mov (xk .i64 0))] (.block 4 (.loop (sr [gg 60 (.bin .lss (.t 59) (.t 58))] (.seq (.cond (.t 60) .skip (.exit 4)) (.seq (.block 5 (sr [gg 61 (.ia (.t 57) (.t 59) 1),gg 62 (.ld (.t 61) none),gm 17 62] (.reg [gm 63 15,gm 64 17,gg 65 (.bin .mul (.t 64) (.k (.float FloatKind.f32 1191182336))),gg 66 (.cfi .i16 (.t 65)),gg 67 (.bsl 29 1 1 [(.int .i16 ((0:Nat):Int))] [(0,(1,(.t 66)))]),gg 68 (.app 29 1 2 (.t 63) (.t 67)),gm 15 68]))) (.reg [gg 69 (.bin .add (.t 59) (xk .i64 1)),gm 59 69]))))))) (.reg [gg 70 (.ld (.t 6) none),gm 71 15,gg 72 (.bsl 32 1 1 [(.slice none 0 0)] [(0,(1,(.t 71)))]),gg 73 (.apx 32 1 24 (.t 70) (.t 72)),(G.mk none none (.st (.t 6) (.t 73) 1))]))))))))) (.reg [gg 74 (.bin .add (.t 25) (xk .i64 1)),gm 25 74]))))))) (sr [gg 75 (.ld (.t 6) none),(G.mk none none (.st (.t 6) (.t 75) 1)),(G.mk none none (.st (.t 7) (xk .i64 0) 1))] .ret)))))) 3 [(.cell 6 none),(.cell 7 none)]):=by kernel_rfl
theorem c4_:compF Tryz.prog 4=some (.mk (sr [gg 2 (.mov (.k (.bool false)))] (.cut (sr [gm 5 0,gg 6 (.len false (.t 5)),gg 7 (.bin .gtr (.t 6) (xk .i64 2147483647))] (.cond (.t 7) (sr [gg 2 (.mov (.k (.bool false)))] .ret) .skip)) (.cut (sr [gm 8 0,gg 9 (.len false (.t 8)),gg 10 (.mov (xk .i64 0))] (.block 0 (.loop (sr [gg 11 (.bin .lss (.t 10) (.t 9))] (.seq (.cond (.t 11) .skip (.exit 0)) (.cut (.block 1 (sr [gg 12 (.ia (.t 8) (.t 10) 1),gg 13 (.ld (.t 12) none),gm 4 13] (sr [gm 14 4,gg 15 (.len false (.t 14)),gg 16 (.bin .gtr (.t 15) (xk .i64 2147483647))] (.cond (.t 16) (sr [gg 2 (.mov (.k (.bool false)))] .ret) .skip)))) (.reg [gg 17 (.bin .add (.t 10) (xk .i64 1)),gm 10 17]))))))) (sr [gg 2 (.mov (.k (.bool true)))] .ret)))) 1 [(.t 2)]):=by kernel_rfl
theorem c5_:compF Tryz.prog 5=some (.mk (sr [gg 4 (.mov (.k (.bool false)))] (sr [gg 5 (.mov (xk .i64 0))] (.cut (sr [gm 8 0,gg 9 (.len false (.t 8)),gg 10 (.mov (xk .i64 0))] (.block 0 (.loop (sr [gg 11 (.bin .lss (.t 10) (.t 9))] (.seq (.cond (.t 11) .skip (.exit 0)) (.cut (.block 1 (sr [gg 12 (.ia (.t 8) (.t 10) 1),gg 13 (.ld (.t 12) none),gm 7 13] (.cut (sr [gm 14 7,gg 15 (.len false (.t 14)),gg 16 (.bin .eql (.t 15) (xk .i64 0)),gm 17 16,gq 18 17 false (.mov (.t 7)),gq 19 17 false (.len false (.t 18)),gq 20 17 false (.mov (.t 1)),gq 21 17 false (.bik .quo .i64 (.t 20) 1000),gq 22 17 false (.bin .rem (.t 19) (.t 21)),gq 23 17 false (.bin .neq (.t 22) (xk .i64 0)),gg 24 (.pick (.t 17) (.k (.bool true)) (.t 23))] (.cond (.t 24) (sr [gg 4 (.mov (.k (.bool false)))] .ret) .skip)) (.reg [gm 25 5,gm 26 7,gg 27 (.len false (.t 26)),gm 28 1,gg 29 (.bik .quo .i64 (.t 28) 1000),gg 30 (.bin .quo (.t 27) (.t 29)),gg 31 (.bin .add (.t 25) (.t 30)),gm 5 31])))) (.reg [gg 32 (.bin .add (.t 10) (xk .i64 1)),gm 10 32]))))))) (sr [gm 33 5,gg 34 (.bin .leq (.t 33) (xk .i64 60)),gm 35 34,gq 36 35 true (.mov (.t 0)),gq 37 35 true (.len false (.t 36)),gq 38 35 true (.bin .leq (.t 37) (xk .i64 12)),gg 39 (.pick (.t 35) (.t 38) (.k (.bool false))),gm 4 39] .ret)))) 2 [(.t 4)]):=by kernel_rfl
theorem c8_:compF Tryz.prog 8=some (.mk (sr [gg 2 (.mov (.k (.string (ByteArray.mk #[]))))] (sr [gg 3 (.mov (.k (.string (ByteArray.mk #[91]))))] (.cut (sr [gm 6 0,gg 7 (.len false (.t 6)),gg 8 (.mov (xk .i64 0))] (.block 0 (.loop (sr [gg 9 (.bin .lss (.t 8) (.t 7))] (.seq (.cond (.t 9) .skip (.exit 0)) (.seq (.block 1 (sr [gg 10 (.ia (.t 6) (.t 8) 1),gg 11 (.ld (.t 10) none),gm 5 11] (.reg [gm 12 3,gm 13 5,gg 14 (.call 15 [(.t 13)]),gg 15 (.bin .add (.t 12) (.t 14)),gm 3 15]))) (.reg [gg 16 (.bin .add (.t 8) (xk .i64 1)),gm 8 16]))))))) (sr [gm 17 3,gg 18 (.bin .add (.t 17) (.k (.string (ByteArray.mk #[93])))),gm 2 18] .ret)))) 1 [(.t 2)]):=by kernel_rfl
theorem c15_:compF Tryz.prog 15=some (.mk (sr [gg 2 (.mov (.k (.string (ByteArray.mk #[]))))] (sr [gg 3 (.mov (.k (.string (ByteArray.mk #[91]))))] (.cut (sr [gm 6 0,gg 7 (.len false (.t 6)),gg 8 (.mov (xk .i64 0))] (.block 0 (.loop (sr [gg 9 (.bin .lss (.t 8) (.t 7))] (.seq (.cond (.t 9) .skip (.exit 0)) (.cut (.block 1 (sr [gg 10 (.ia (.t 6) (.t 8) 1),gg 11 (.ld (.t 10) none),gm 5 11] (.cut (sr [gm 12 5,gg 13 (.cvi .u64 (.t 12)),gg 14 (.bin .geq (.t 13) (xk .u64 9223372036854775808)),gm 15 14,gq 16 15 true (.mov (.t 5)),gq 17 15 true (.bin .gtr (.t 16) (xk .i16 0)),gg 18 (.pick (.t 15) (.t 17) (.k (.bool false)))] (.cond (.t 18) (sr [gm 19 3,gm 20 5,gg 21 (.cvi .u64 (.t 20)),gg 22 (.call 27 [(.t 21),(xk .i64 10)]),gg 23 (.bin .add (.t 22) (.k (.string (ByteArray.mk #[32])))),gg 24 (.bin .add (.t 19) (.t 23)),gm 3 24] (.exit 1)) .skip)) (.reg [gm 25 3,gm 26 5,gg 27 (.cvi .i64 (.t 26)),gg 28 (.call 28 [(.t 27),(xk .i64 10)]),gg 29 (.bin .add (.t 28) (.k (.string (ByteArray.mk #[32])))),gg 30 (.bin .add (.t 25) (.t 29)),gm 3 30])))) (.reg [gg 31 (.bin .add (.t 8) (xk .i64 1)),gm 8 31]))))))) (sr [gm 32 3,gg 33 (.bin .add (.t 32) (.k (.string (ByteArray.mk #[93])))),gm 2 33] .ret)))) 1 [(.t 2)]):=by kernel_rfl
theorem c6_:compF Tryz.prog 6=some (.mk (sr [gg 6 (.mov (.k (.slice none 0 0))),gg 7 (.mov (xk .i64 0))] (sr [gm 14 1,gg 15 (.bik .quo .i64 (.t 14) 1000),gm 16 2,gg 17 (.bik .quo .i64 (.t 16) 1000),gg 18 (.call 10 [(.t 15),(.t 17)]),gm 13 18,gg 19 (.ext (.t 13) 0),gg 20 (.ext (.t 13) 1),gm 8 19,gm 9 20] (.cut (sr [gm 21 9,gg 22 (.un .not (.t 21)),gm 23 22,gq 24 23 false (.mov (.t 1)),gq 25 23 false (.bik .rem .i64 (.t 24) 1000),gq 26 23 false (.bin .neq (.t 25) (xk .i64 0)),gg 27 (.pick (.t 23) (.k (.bool true)) (.t 26)),gm 28 27,gq 29 28 false (.mov (.t 2)),gq 30 28 false (.bik .rem .i64 (.t 29) 1000),gq 31 28 false (.bin .neq (.t 30) (xk .i64 0)),gg 32 (.pick (.t 28) (.k (.bool true)) (.t 31))] (.cond (.t 32) (sr [gg 6 (.mov (.k (.slice none 0 0))),gg 7 (.mov (xk .i64 2))] .ret) .skip)) (sr [gg 10 (.mov (.k (.slice none 0 0)))] (.cut (sr [gm 33 0,gg 34 (.len false (.t 33)),gg 35 (.mov (xk .i64 0))] (.block 0 (.loop (sr [gg 36 (.bin .lss (.t 35) (.t 34))] (.seq (.cond (.t 36) .skip (.exit 0)) (.cut (.block 1 (sr [gg 37 (.ia (.t 33) (.t 35) 1),gg 38 (.ld (.t 37) none),gm 12 38] (.cut (sr [gm 39 12,gg 40 (.len false (.t 39)),gg 41 (.bin .eql (.t 40) (xk .i64 0)),gm 42 41,gq 43 42 false (.mov (.t 12)),gq 44 42 false (.len false (.t 43)),gq 45 42 false (.mov (.t 8)),gq 46 42 false (.nil (.t 45)),gq 47 42 false (.ffa (.t 46) 0),gq 48 42 false (.ld (.t 47) none),gq 49 42 false (.bin .rem (.t 44) (.t 48)),gq 50 42 false (.bin .neq (.t 49) (xk .i64 0)),gg 51 (.pick (.t 42) (.k (.bool true)) (.t 50)),gm 52 51,gq 53 52 false (.mov (.t 12)),gq 54 52 false (.len false (.t 53)),gq 55 52 false (.mov (.t 8)),gq 56 52 false (.nil (.t 55)),gq 57 52 false (.ffa (.t 56) 0),gq 58 52 false (.ld (.t 57) none),gq 59 52 false (.bin .mul (xk .i64 100) (.t 58)),gq 60 52 false (.bin .gtr (.t 54) (.t 59)),gg 61 (.pick (.t 52) (.k (.bool true)) (.t 60))] (.cond (.t 61) (sr [gg 6 (.mov (.k (.slice none 0 0))),gg 7 (.mov (xk .i64 2))] .ret) .skip)) (.reg [gm 62 10,gm 63 8,gm 64 12,gg 65 (.call 11 [(.t 63),(.t 64)]),gg 66 (.bsl 32 1 1 [(.slice none 0 0)] [(0,(1,(.t 65)))]),gg 67 (.apx 32 1 24 (.t 62) (.t 66)),gm 10 67])))) (.reg [gg 68 (.bin .add (.t 35) (xk .i64 1)),gm 35 68]))))))) (sr [gm 69 10,gm 6 69,gg 7 (.mov (xk .i64 1))] .ret)))))) 3 [(.t 6),(.t 7)]):=by kernel_rfl
theorem c10_:compF Tryz.prog 10=some (.mk (sr [gg 4 (.mov (.k (.pointer none))),gg 5 (.mov (.k (.bool false)))] (sr [gg 16 (.bsl 3 1 3 [(.int .i64 ((0:Nat):Int)),(.int .i64 ((0:Nat):Int)),(.int .i64 ((0:Nat):Int))] [(0,(1,(xk .i64 8))),(1,(1,(xk .i64 12))),(2,(1,(xk .i64 16)))]),gm 6 16] (sr [gg 17 (.bsl 3 1 5 [(.int .i64 ((0:Nat):Int)),(.int .i64 ((0:Nat):Int)),(.int .i64 ((0:Nat):Int)),(.int .i64 ((0:Nat):Int)),(.int .i64 ((0:Nat):Int))] [(0,(1,(xk .i64 8))),(1,(1,(xk .i64 12))),(2,(1,(xk .i64 16))),(3,(1,(xk .i64 24))),(4,(1,(xk .i64 48)))]),gm 7 17] (sr [gg 18 (.bld [(.int .i64 ((0:Nat):Int)),(.int .i64 ((0:Nat):Int)),(.int .i64 ((0:Nat):Int)),(.int .i64 ((0:Nat):Int)),(.int .i64 ((0:Nat):Int))] [(0,(1,(xk .i64 4))),(1,(1,(xk .i64 0))),(2,(1,(xk .i64 2))),(3,(1,(xk .i64 0))),(4,(1,(xk .i64 0)))]),gg 19 (.bld [(.int .i64 ((0:Nat):Int)),(.int .i64 ((0:Nat):Int)),(.int .i64 ((0:Nat):Int)),(.int .i64 ((0:Nat):Int)),(.int .i64 ((0:Nat):Int))] [(0,(1,(xk .i64 0))),(1,(1,(xk .i64 9))),(2,(1,(xk .i64 4))),(3,(1,(xk .i64 7))),(4,(1,(xk .i64 4)))]),gg 20 (.bld [(.int .i64 ((0:Nat):Int)),(.int .i64 ((0:Nat):Int)),(.int .i64 ((0:Nat):Int)),(.int .i64 ((0:Nat):Int)),(.int .i64 ((0:Nat):Int))] [(0,(1,(xk .i64 0))),(1,(1,(xk .i64 3))),(2,(1,(xk .i64 12))),(3,(1,(xk .i64 7))),(4,(1,(xk .i64 7)))]),gg 21 (.bld [(.int .i64 ((0:Nat):Int)),(.int .i64 ((0:Nat):Int)),(.int .i64 ((0:Nat):Int)),(.int .i64 ((0:Nat):Int)),(.int .i64 ((0:Nat):Int)),(.int .i64 ((0:Nat):Int)),(.int .i64 ((0:Nat):Int)),(.int .i64 ((0:Nat):Int)),(.int .i64 ((0:Nat):Int)),(.int .i64 ((0:Nat):Int)),(.int .i64 ((0:Nat):Int)),(.int .i64 ((0:Nat):Int)),(.int .i64 ((0:Nat):Int)),(.int .i64 ((0:Nat):Int)),(.int .i64 ((0:Nat):Int))] [(0,(5,(.t 18))),(5,(5,(.t 19))),(10,(5,(.t 20)))]),gg 8 (.ala 69 [(.int .i64 ((0:Nat):Int)),(.int .i64 ((0:Nat):Int)),(.int .i64 ((0:Nat):Int)),(.int .i64 ((0:Nat):Int)),(.int .i64 ((0:Nat):Int)),(.int .i64 ((0:Nat):Int)),(.int .i64 ((0:Nat):Int)),(.int .i64 ((0:Nat):Int)),(.int .i64 ((0:Nat):Int)),(.int .i64 ((0:Nat):Int)),(.int .i64 ((0:Nat):Int)),(.int .i64 ((0:Nat):Int)),(.int .i64 ((0:Nat):Int)),(.int .i64 ((0:Nat):Int)),(.int .i64 ((0:Nat):Int))]),(G.mk none none (.st (.t 8) (.t 21) 15))] (sr [gm 22 0,gm 23 1,gg 24 (.bld [(.int .i64 ((0:Nat):Int)),(.int .i64 ((0:Nat):Int)),(.int .i64 ((0:Nat):Int)),(.slice none 0 0),(.int .i64 ((0:Nat):Int)),(.int .i64 ((0:Nat):Int)),(.int .i64 ((0:Nat):Int)),(.int .i64 ((0:Nat):Int)),(.int .i64 ((0:Nat):Int)),(.int .i64 ((0:Nat):Int)),(.slice none 0 0),(.int .i64 ((0:Nat):Int))] [(0,(1,(.t 22))),(1,(1,(.t 23))),(2,(1,(.k (.int .i64 (-1)))))]),gg 25 (.box 38 (.t 24)),gm 9 25] (.cut (sr [gm 26 6,gg 27 (.len false (.t 26)),gg 28 (.mov (xk .i64 0))] (.block 0 (.loop (sr [gg 29 (.bin .lss (.t 28) (.t 27))] (.seq (.cond (.t 29) .skip (.exit 0)) (.cut (.block 1 (sr [gm 30 28,gg 31 (.ia (.t 26) (.t 28) 1),gg 32 (.ld (.t 31) none),gm 10 30,gm 11 32] (sr [gm 33 7,gg 34 (.len false (.t 33)),gg 35 (.mov (xk .i64 0))] (.block 2 (.loop (sr [gg 36 (.bin .lss (.t 35) (.t 34))] (.seq (.cond (.t 36) .skip (.exit 2)) (.cut (.block 3 (sr [gm 37 35,gg 38 (.ia (.t 33) (.t 35) 1),gg 39 (.ld (.t 38) none),gm 12 37,gm 13 39] (sr [gm 40 11,gm 41 0,gg 42 (.bin .eql (.t 40) (.t 41)),gm 43 42,gq 44 43 true (.mov (.t 13)),gq 45 43 true (.mov (.t 1)),gq 46 43 true (.bin .eql (.t 44) (.t 45)),gg 47 (.pick (.t 43) (.t 46) (.k (.bool false)))] (.cond (.t 47) (.reg [gm 48 9,gm 49 10,gm 50 12,gg 51 (.iaa (.t 8) (.t 49) 5 3),gg 52 (.iaa (.t 51) (.t 50) 1 5),gg 53 (.ld (.t 52) none),gg 54 (.nil (.t 48)),gg 55 (.ffa (.t 54) 2),(G.mk none none (.st (.t 55) (.t 53) 1))]) .skip)))) (.reg [gg 56 (.bin .add (.t 35) (xk .i64 1)),gm 35 56]))))))))) (.reg [gg 57 (.bin .add (.t 28) (xk .i64 1)),gm 28 57]))))))) (.cut (sr [gm 58 9,gg 59 (.nil (.t 58)),gg 60 (.ffa (.t 59) 2),gg 61 (.ld (.t 60) none),gg 62 (.bin .lss (.t 61) (xk .i64 0))] (.cond (.t 62) (sr [gg 4 (.mov (.k (.pointer none))),gg 5 (.mov (.k (.bool false)))] .ret) .skip)) (sr [gm 63 9,gm 64 0,gg 65 (.mks 29 1 2 [(.int .i16 ((0:Nat):Int))] (.t 64) (.t 64)),gg 66 (.nil (.t 63)),gg 67 (.ffa (.t 66) 3),(G.mk none none (.st (.t 67) (.t 65) 1))] (sr [gg 14 (.mov (xk .i64 0))] (sr [gg 15 (.mov (xk .i64 0))] (.cut (.block 4 (sr [gm 69 1,gm 70 0,gg 71 (.bin .eql (.t 69) (.t 70)),gm 68 71] (.cond (.t 68) .skip (sr [gm 73 1,gm 74 0,gg 75 (.bin .mul (xk .i64 2) (.t 74)),gg 76 (.bin .eql (.t 73) (.t 75)),gm 72 76] (.cond (.t 72) .skip (sr [gm 78 1,gm 79 0,gg 80 (.bin .gtr (.t 78) (.t 79)),gm 77 80] (.cond (.t 77) (.reg [gg 14 (.mov (xk .i64 1)),gg 15 (.mov (xk .i64 8))]) (sr [gm 82 1,gg 83 (.bin .mul (xk .i64 4) (.t 82)),gm 84 0,gg 85 (.bin .mul (xk .i64 3) (.t 84)),gg 86 (.bin .eql (.t 83) (.t 85)),gm 81 86] (.cond (.t 81) (.reg [gg 15 (.mov (xk .i64 18))]) (sr [gm 88 1,gg 89 (.bin .mul (xk .i64 3) (.t 88)),gm 90 0,gg 91 (.bin .mul (xk .i64 2) (.t 90)),gg 92 (.bin .eql (.t 89) (.t 91)),gm 87 92] (.cond (.t 87) (.reg [gg 15 (.mov (xk .i64 18))]) (.reg [gg 15 (.mov (xk .i64 24))])))))))))))) (sr [gm 93 9,gm 94 15,gg 95 (.mks 3 1 8 [(.int .i64 ((0:Nat):Int))] (.t 94) (.t 94)),gg 96 (.nil (.t 93)),gg 97 (.ffa (.t 96) 10),(G.mk none none (.st (.t 97) (.t 95) 1))] (sr [gm 98 9,gm 99 0,gm 100 14,gg 101 (.bin .add (xk .i64 14) (.t 100)),gg 102 (.bin .shl (.t 99) (.t 101)),gm 103 1,gg 104 (.bin .quo (.t 102) (.t 103)),gg 105 (.bik .shl .u64 (.t 104) 2),gg 106 (.nil (.t 98)),gg 107 (.ffa (.t 106) 11),(G.mk none none (.st (.t 107) (.t 105) 1))] (.cut (.block 5 (.loop (.seq (.seq (.drw [(.mk (gm 108 9) 0 true []),(.mk (gg 109 (.nil (.t 108))) 1 true []),(.mk (gg 110 (.ffa (.t 109) 11)) 2 true []),(.mk (gg 111 (.ld (.t 110) none)) 3 true []),(.mk (gm 112 1) 4 true []),(.mk (gg 113 (.bin .mul (.t 111) (.t 112))) 5 true []),(.mk (gg 114 (.bik .shr .u64 (.t 113) 16)) 6 true []),(.mk (gm 115 0) 7 true []),(.mk (gm 116 14) 8 true []),(.mk (gg 117 (.bin .shl (.t 115) (.t 116))) 9 true []),(.mk (gg 118 (.bin .lss (.t 114) (.t 117))) 10 true [])]) (.cond (.t 118) .skip (.exit 5))) (.block 6 (.reg [gm 119 9,gg 120 (.nil (.t 119)),gg 121 (.ffa (.t 120) 11),gg 122 (.ld (.t 121) none),gg 123 (.bin .add (.t 122) (xk .i64 1)),gg 124 (.nil (.t 119)),gg 125 (.ffa (.t 124) 11),(G.mk none none (.st (.t 125) (.t 123) 1))]))))) (sr [gm 126 9,gm 4 126,gg 5 (.mov (.k (.bool true)))] .ret))))))))))))))) 2 [(.t 4),(.t 5)]):=by kernel_rfl
theorem c11_:compF Tryz.prog 11=some (.mk (sr [gg 4 (.mov (.k (.slice none 0 0)))] (.seq (.drw [(.mk (gm 7 0) 0 true []),(.mk (gg 8 (.nil (.t 7))) 1 true []),(.mk (gg 9 (.ffa (.t 8) 0)) 2 true []),(.mk (gg 10 (.ld (.t 9) none)) 3 true []),(.mk (gm 11 0) 4 true []),(.mk (gg 12 (.nil (.t 11))) 5 true []),(.mk (gg 13 (.ffa (.t 12) 2)) 6 true []),(.mk (gg 14 (.ld (.t 13) none)) 7 true []),(.mk (gg 15 (.bin .sub (.t 10) (.t 14))) 8 true []),(.mk (gm 5 15) 9 true [])]) (.seq (.drw [(.mk (gm 16 0) 0 true []),(.mk (gg 17 (.nil (.t 16))) 1 true []),(.mk (gg 18 (.ffa (.t 17) 3)) 2 true []),(.mk (gg 19 (.ld (.t 18) none)) 3 true []),(.mk (gm 20 0) 4 true []),(.mk (gg 21 (.nil (.t 20))) 5 true []),(.mk (gg 22 (.ffa (.t 21) 2)) 6 true []),(.mk (gg 23 (.ld (.t 22) none)) 7 true []),(.mk (gg 24 (.slq (.t 19) (some (.t 23)) none 1)) 8 true []),(.mk (gm 25 1) 9 true []),(.mk (gm 26 5) 10 true []),(.mk (gg 27 (.slc (.t 25) none (some (.t 26)) 1)) 11 false [7,3]),(.mk (gg 28 (.cpy 1 (.t 24) (.t 27))) 12 false [])]) (sr [gm 29 0,gm 30 0,gg 31 (.nil (.t 30)),gg 32 (.ffa (.t 31) 3),gg 33 (.ld (.t 32) none),gg 34 (.call 19 [(.t 29),(.t 33)]),gm 6 34] (sr [gm 35 6,gm 36 0,gm 37 1,gm 38 5,gm 39 1,gg 40 (.len false (.t 39)),gm 41 0,gg 42 (.nil (.t 41)),gg 43 (.ffa (.t 42) 2),gg 44 (.ld (.t 43) none),gg 45 (.bin .sub (.t 40) (.t 44)),gg 46 (.slq (.t 37) (some (.t 38)) (some (.t 45)) 1),gg 47 (.call 19 [(.t 36),(.t 46)]),gg 48 (.app 29 1 2 (.t 35) (.t 47)),gm 6 48] (.seq (.drw [(.mk (gm 49 0) 0 true []),(.mk (gg 50 (.nil (.t 49))) 1 true []),(.mk (gg 51 (.ffa (.t 50) 3)) 2 true []),(.mk (gg 52 (.ld (.t 51) none)) 3 true []),(.mk (gm 53 1) 4 true []),(.mk (gm 54 1) 5 true []),(.mk (gg 55 (.len false (.t 54))) 6 true []),(.mk (gm 56 0) 7 true []),(.mk (gg 57 (.nil (.t 56))) 8 true []),(.mk (gg 58 (.ffa (.t 57) 2)) 9 true []),(.mk (gg 59 (.ld (.t 58) none)) 10 true []),(.mk (gg 60 (.bin .sub (.t 55) (.t 59))) 11 true []),(.mk (gg 61 (.slq (.t 53) (some (.t 60)) none 1)) 12 true []),(.mk (gg 62 (.cpy 1 (.t 52) (.t 61))) 13 false [])]) (sr [gm 63 6,gm 4 63] .ret))))))) 2 [(.t 4)]):=by kernel_rfl
theorem c19_:compF Tryz.prog 19=some (.mk (sr [gg 2 (.box 33 (.t 0)),gg 4 (.mov (.k (.slice none 0 0)))] (.cut (.block 0 (.seq (.drw [(.mk (gg 15 (.ld (.t 2) none)) 0 true []),(.mk (gg 16 (.nil (.t 15))) 1 true []),(.mk (gg 17 (.ffa (.t 16) 1)) 2 true []),(.mk (gg 18 (.ld (.t 17) none)) 3 true []),(.mk (gg 19 (.ld (.t 2) none)) 4 true []),(.mk (gg 20 (.nil (.t 19))) 5 true []),(.mk (gg 21 (.ffa (.t 20) 0)) 6 true []),(.mk (gg 22 (.ld (.t 21) none)) 7 true []),(.mk (gg 23 (.bin .eql (.t 18) (.t 22))) 8 true []),(.mk (gm 14 23) 9 true [])]) (.cond (.t 14) (sr [gg 24 (.bs0 29 1),gm 25 1,gg 26 (.app 29 1 2 (.t 24) (.t 25)),gm 4 26] .ret) (.seq (.drw [(.mk (gg 28 (.ld (.t 2) none)) 0 true []),(.mk (gg 29 (.nil (.t 28))) 1 true []),(.mk (gg 30 (.ffa (.t 29) 1)) 2 true []),(.mk (gg 31 (.ld (.t 30) none)) 3 true []),(.mk (gg 32 (.ld (.t 2) none)) 4 true []),(.mk (gg 33 (.nil (.t 32))) 5 true []),(.mk (gg 34 (.ffa (.t 33) 0)) 6 true []),(.mk (gg 35 (.ld (.t 34) none)) 7 true []),(.mk (gg 36 (.bin .mul (xk .i64 2) (.t 35))) 8 true []),(.mk (gg 37 (.bin .eql (.t 31) (.t 36))) 9 true []),(.mk (gm 27 37) 10 true [])]) (.cond (.t 27) (sr [gg 5 (.mov (.k (.slice none 0 0)))] (.cut (sr [gg 38 (.ld (.t 2) none),gm 39 1,gg 40 (.call 56 [(.t 38),(.t 39)]),gg 41 (.len false (.t 40)),gg 42 (.mov (xk .i64 0))] (.block 1 (.loop (sr [gg 43 (.bin .lss (.t 42) (.t 41))] (.seq (.cond (.t 43) .skip (.exit 1)) (.seq (.block 2 (sr [gg 44 (.ia (.t 40) (.t 42) 1),gg 45 (.ld (.t 44) none),gm 7 45] (.reg [gm 46 5,gm 47 7,gg 48 (.cvi .i16 (.t 47)),gg 49 (.bsl 29 1 1 [(.int .i16 ((0:Nat):Int))] [(0,(1,(.t 48)))]),gg 50 (.app 29 1 2 (.t 46) (.t 49)),gm 5 50]))) (.reg [gg 51 (.bin .add (.t 42) (xk .i64 1)),gm 42 51]))))))) (sr [gm 52 5,gm 4 52] .ret))) (.seq (.drw [(.mk (gg 54 (.ld (.t 2) none)) 0 true []),(.mk (gg 55 (.nil (.t 54))) 1 true []),(.mk (gg 56 (.ffa (.t 55) 1)) 2 true []),(.mk (gg 57 (.ld (.t 56) none)) 3 true []),(.mk (gg 58 (.ld (.t 2) none)) 4 true []),(.mk (gg 59 (.nil (.t 58))) 5 true []),(.mk (gg 60 (.ffa (.t 59) 0)) 6 true []),(.mk (gg 61 (.ld (.t 60) none)) 7 true []),(.mk (gg 62 (.bin .gtr (.t 57) (.t 61))) 8 true []),(.mk (gm 53 62) 9 true [])]) (.cond (.t 53) (sr [gg 63 (.call 57 []),gg 8 (.ala 110 [(.int .i64 ((0:Nat):Int)),(.int .i64 ((0:Nat):Int)),(.int .i64 ((0:Nat):Int)),(.int .i64 ((0:Nat):Int)),(.int .i64 ((0:Nat):Int)),(.int .i64 ((0:Nat):Int)),(.int .i64 ((0:Nat):Int)),(.int .i64 ((0:Nat):Int)),(.int .i64 ((0:Nat):Int)),(.int .i64 ((0:Nat):Int)),(.int .i64 ((0:Nat):Int)),(.int .i64 ((0:Nat):Int)),(.int .i64 ((0:Nat):Int)),(.int .i64 ((0:Nat):Int)),(.int .i64 ((0:Nat):Int)),(.int .i64 ((0:Nat):Int)),(.int .i64 ((0:Nat):Int)),(.int .i64 ((0:Nat):Int)),(.int .i64 ((0:Nat):Int)),(.int .i64 ((0:Nat):Int)),(.int .i64 ((0:Nat):Int)),(.int .i64 ((0:Nat):Int)),(.int .i64 ((0:Nat):Int)),(.int .i64 ((0:Nat):Int)),(.int .i64 ((0:Nat):Int)),(.int .i64 ((0:Nat):Int)),(.int .i64 ((0:Nat):Int)),(.int .i64 ((0:Nat):Int)),(.int .i64 ((0:Nat):Int)),(.int .i64 ((0:Nat):Int)),(.int .i64 ((0:Nat):Int)),(.int .i64 ((0:Nat):Int)),(.int .i64 ((0:Nat):Int)),(.int .i64 ((0:Nat):Int)),(.int .i64 ((0:Nat):Int)),(.int .i64 ((0:Nat):Int)),(.int .i64 ((0:Nat):Int)),(.int .i64 ((0:Nat):Int)),(.int .i64 ((0:Nat):Int)),(.int .i64 ((0:Nat):Int)),(.int .i64 ((0:Nat):Int)),(.int .i64 ((0:Nat):Int)),(.int .i64 ((0:Nat):Int)),(.int .i64 ((0:Nat):Int)),(.int .i64 ((0:Nat):Int)),(.int .i64 ((0:Nat):Int)),(.int .i64 ((0:Nat):Int)),(.int .i64 ((0:Nat):Int))]),(G.mk none none (.st (.t 8) (.t 63) 48))] (sr [gg 64 (.ld (.t 2) none),gm 65 1,gg 66 (.ld (.t 2) none),gg 67 (.mkg 56 (.t 66)),gg 68 (.mkf 59 [(.t 8)]),gg 69 (.call 58 [(.t 64),(.t 65),(.t 67),(xk .i64 2),(xk .i64 15),(.t 68)]),gm 4 69] .ret)) .skip))))))) (sr [gg 10 (.alc 3 [(.int .i64 ((0:Nat):Int))]),gg 9 (.mov (xk .i64 12)),(G.mk none none (.st (.t 10) (xk .i64 1) 1))] (.cut (.block 3 (.seq (.drw [(.mk (gg 71 (.ld (.t 2) none)) 0 true []),(.mk (gg 72 (.nil (.t 71))) 1 true []),(.mk (gg 73 (.ffa (.t 72) 1)) 2 true []),(.mk (gg 74 (.ld (.t 73) none)) 3 true []),(.mk (gg 75 (.bin .mul (xk .i64 4) (.t 74))) 4 true []),(.mk (gg 76 (.ld (.t 2) none)) 5 true []),(.mk (gg 77 (.nil (.t 76))) 6 true []),(.mk (gg 78 (.ffa (.t 77) 0)) 7 true []),(.mk (gg 79 (.ld (.t 78) none)) 8 true []),(.mk (gg 80 (.bin .mul (xk .i64 3) (.t 79))) 9 true []),(.mk (gg 81 (.bin .eql (.t 75) (.t 80))) 10 true []),(.mk (gm 70 81) 11 true [])]) (.cond (.t 70) (.reg [gg 9 (.mov (xk .i64 34)),(G.mk none none (.st (.t 10) (xk .i64 3) 1))]) (.seq (.drw [(.mk (gg 83 (.ld (.t 2) none)) 0 true []),(.mk (gg 84 (.nil (.t 83))) 1 true []),(.mk (gg 85 (.ffa (.t 84) 1)) 2 true []),(.mk (gg 86 (.ld (.t 85) none)) 3 true []),(.mk (gg 87 (.bin .mul (xk .i64 3) (.t 86))) 4 true []),(.mk (gg 88 (.ld (.t 2) none)) 5 true []),(.mk (gg 89 (.nil (.t 88))) 6 true []),(.mk (gg 90 (.ffa (.t 89) 0)) 7 true []),(.mk (gg 91 (.ld (.t 90) none)) 8 true []),(.mk (gg 92 (.bin .mul (xk .i64 2) (.t 91))) 9 true []),(.mk (gg 93 (.bin .eql (.t 87) (.t 92))) 10 true []),(.mk (gm 82 93) 11 true [])]) (.cond (.t 82) (.reg [gg 9 (.mov (xk .i64 23)),(G.mk none none (.st (.t 10) (xk .i64 2) 1))]) .skip))))) (sr [gm 94 9,gg 95 (.call 60 [(.t 94)]),gg 11 (.alc 24 [(.slice none 0 0)]),(G.mk none none (.st (.t 11) (.t 95) 1))] (sr [gg 96 (.ld (.t 11) none),gg 97 (.slq (.t 96) (some (xk .i64 2)) none 1),gg 12 (.alc 24 [(.slice none 0 0)]),(G.mk none none (.st (.t 12) (.t 97) 1))] (sr [gg 98 (.mkf 61 [(.t 2),(.t 11)]),gm 13 98] (sr [gg 99 (.ld (.t 2) none),gm 100 1,gm 101 13,gg 102 (.mkf 63 [(.t 10),(.t 12)]),gg 103 (.call 58 [(.t 99),(.t 100),(.t 101),(xk .i64 1),(xk .i64 6),(.t 102)]),gm 4 103] .ret)))))))) 2 [(.t 4)]):=by kernel_rfl
theorem c56_:compF Tryz.prog 56=some (.mk (sr [gg 4 (.mov (.k (.slice none 0 0)))] (sr [gg 18 (.bld [(.int .i64 ((0:Nat):Int)),(.int .i64 ((0:Nat):Int)),(.int .i64 ((0:Nat):Int)),(.int .i64 ((0:Nat):Int)),(.int .i64 ((0:Nat):Int)),(.int .i64 ((0:Nat):Int))] [(0,(1,(xk .i64 1746))),(1,(1,(xk .i64 14986))),(2,(1,(.k (.int .i64 (-26453))))),(3,(1,(xk .i64 6854))),(4,(1,(xk .i64 25769))),(5,(1,(.k (.int .i64 (-9994)))))]),gg 5 (.ala 36 [(.int .i64 ((0:Nat):Int)),(.int .i64 ((0:Nat):Int)),(.int .i64 ((0:Nat):Int)),(.int .i64 ((0:Nat):Int)),(.int .i64 ((0:Nat):Int)),(.int .i64 ((0:Nat):Int))]),(G.mk none none (.st (.t 5) (.t 18) 6))] (sr [gg 6 (.mov (.k (.slice none 0 0)))] (.cut (sr [gm 19 1,gg 20 (.len false (.t 19)),gg 21 (.mov (xk .i64 0))] (.block 0 (.loop (sr [gg 22 (.bin .lss (.t 21) (.t 20))] (.seq (.cond (.t 22) .skip (.exit 0)) (.cut (.block 1 (sr [gg 23 (.ia (.t 19) (.t 21) 1),gg 24 (.ld (.t 23) none),gm 8 24] (sr [gm 25 8,gg 26 (.cvi .i64 (.t 25)),gg 27 (.bik .shl .u64 (.t 26) 10),gm 9 27] (sr [gg 28 (.mov (xk .i64 0))] (.block 2 (.loop (sr [gg 29 (.bin .lss (.t 28) (xk .i64 2))] (.seq (.cond (.t 29) .skip (.exit 2)) (.cut (.block 3 (sr [gm 30 28,gm 10 30] (.seq (.drw [(.mk (gm 31 10) 0 true []),(.mk (gg 32 (.bin .mul (xk .i64 3) (.t 31))) 1 true []),(.mk (gg 33 (.sla (.t 5) (some (.t 32)) none 1 6)) 2 true []),(.mk (gm 34 0) 3 true []),(.mk (gg 35 (.nil (.t 34))) 4 true []),(.mk (gg 36 (.ffa (.t 35) 4)) 5 true []),(.mk (gm 37 10) 6 true []),(.mk (gg 38 (.bin .mul (xk .i64 3) (.t 37))) 7 true []),(.mk (gg 39 (.sla (.t 36) (some (.t 38)) none 1 6)) 8 true []),(.mk (gm 11 33) 9 true []),(.mk (gm 12 39) 10 true [])]) (sr [gm 40 9,gm 13 40] (.cut (sr [gg 41 (.mov (xk .i64 0))] (.block 4 (.loop (sr [gg 42 (.bin .lss (.t 41) (xk .i64 3))] (.seq (.cond (.t 42) .skip (.exit 4)) (.cut (.block 5 (sr [gm 43 41,gm 14 43] (sr [gm 44 13,gm 45 12,gm 46 14,gg 47 (.ia (.t 45) (.t 46) 1),gg 48 (.ld (.t 47) none),gg 49 (.bin .sub (.t 44) (.t 48)),gm 15 49] (sr [gm 50 15,gm 51 11,gm 52 14,gg 53 (.ia (.t 51) (.t 52) 1),gg 54 (.ld (.t 53) none),gg 55 (.call 62 [(.t 50),(.t 54)]),gm 16 55] (.cut (sr [gm 56 14,gg 57 (.bin .eql (.t 56) (xk .i64 2))] (.cond (.t 57) (.reg [gm 58 16,gm 59 15,gg 60 (.bin .add (.t 58) (.t 59)),gm 16 60]) .skip)) (sr [gm 61 12,gm 62 14,gg 63 (.ia (.t 61) (.t 62) 1),gg 64 (.ld (.t 63) none),gm 65 16,gg 66 (.bin .add (.t 64) (.t 65)),gm 17 66] (sr [gm 67 12,gm 68 14,gm 69 13,gm 70 16,gg 71 (.bin .add (.t 69) (.t 70)),gg 72 (.ia (.t 67) (.t 68) 1),(G.mk none none (.st (.t 72) (.t 71) 1))] (.reg [gm 73 17,gm 13 73])))))))) (.reg [gg 74 (.bin .add (.t 41) (xk .i64 1)),gm 41 74]))))))) (.reg [gm 75 6,gm 76 13,gg 77 (.call 91 [(.t 76),(xk .i64 10)]),gg 78 (.call 90 [(.t 77)]),gg 79 (.cvi .i64 (.t 78)),gg 80 (.bsl 3 1 1 [(.int .i64 ((0:Nat):Int))] [(0,(1,(.t 79)))]),gg 81 (.app 3 1 8 (.t 75) (.t 80)),gm 6 81])))))) (.reg [gg 82 (.bin .add (.t 28) (xk .i64 1)),gm 28 82])))))))))) (.reg [gg 83 (.bin .add (.t 21) (xk .i64 1)),gm 21 83]))))))) (sr [gm 84 6,gm 4 84] .ret))))) 2 [(.t 4)]):=by kernel_rfl
theorem c57_:compF Tryz.prog 57=some (.mk (sr [gg 0 (.ala 110 [(.int .i64 ((0:Nat):Int)),(.int .i64 ((0:Nat):Int)),(.int .i64 ((0:Nat):Int)),(.int .i64 ((0:Nat):Int)),(.int .i64 ((0:Nat):Int)),(.int .i64 ((0:Nat):Int)),(.int .i64 ((0:Nat):Int)),(.int .i64 ((0:Nat):Int)),(.int .i64 ((0:Nat):Int)),(.int .i64 ((0:Nat):Int)),(.int .i64 ((0:Nat):Int)),(.int .i64 ((0:Nat):Int)),(.int .i64 ((0:Nat):Int)),(.int .i64 ((0:Nat):Int)),(.int .i64 ((0:Nat):Int)),(.int .i64 ((0:Nat):Int)),(.int .i64 ((0:Nat):Int)),(.int .i64 ((0:Nat):Int)),(.int .i64 ((0:Nat):Int)),(.int .i64 ((0:Nat):Int)),(.int .i64 ((0:Nat):Int)),(.int .i64 ((0:Nat):Int)),(.int .i64 ((0:Nat):Int)),(.int .i64 ((0:Nat):Int)),(.int .i64 ((0:Nat):Int)),(.int .i64 ((0:Nat):Int)),(.int .i64 ((0:Nat):Int)),(.int .i64 ((0:Nat):Int)),(.int .i64 ((0:Nat):Int)),(.int .i64 ((0:Nat):Int)),(.int .i64 ((0:Nat):Int)),(.int .i64 ((0:Nat):Int)),(.int .i64 ((0:Nat):Int)),(.int .i64 ((0:Nat):Int)),(.int .i64 ((0:Nat):Int)),(.int .i64 ((0:Nat):Int)),(.int .i64 ((0:Nat):Int)),(.int .i64 ((0:Nat):Int)),(.int .i64 ((0:Nat):Int)),(.int .i64 ((0:Nat):Int)),(.int .i64 ((0:Nat):Int)),(.int .i64 ((0:Nat):Int)),(.int .i64 ((0:Nat):Int)),(.int .i64 ((0:Nat):Int)),(.int .i64 ((0:Nat):Int)),(.int .i64 ((0:Nat):Int)),(.int .i64 ((0:Nat):Int)),(.int .i64 ((0:Nat):Int))])] (sr [gg 1 (.bld [(.int .i64 ((0:Nat):Int)),(.int .i64 ((0:Nat):Int)),(.int .i64 ((0:Nat):Int)),(.int .i64 ((0:Nat):Int))] [(0,(1,(xk .i64 189))),(1,(1,(.k (.int .i64 (-600))))),(2,(1,(xk .i64 617))),(3,(1,(xk .i64 30567)))]),gg 2 (.bld [(.int .i64 ((0:Nat):Int)),(.int .i64 ((0:Nat):Int)),(.int .i64 ((0:Nat):Int)),(.int .i64 ((0:Nat):Int))] [(0,(1,(xk .i64 117))),(1,(1,(.k (.int .i64 (-159))))),(2,(1,(.k (.int .i64 (-1070))))),(3,(1,(xk .i64 29704)))]),gg 3 (.bld [(.int .i64 ((0:Nat):Int)),(.int .i64 ((0:Nat):Int)),(.int .i64 ((0:Nat):Int)),(.int .i64 ((0:Nat):Int))] [(0,(1,(xk .i64 52))),(1,(1,(xk .i64 221))),(2,(1,(.k (.int .i64 (-2392))))),(3,(1,(xk .i64 28276)))]),gg 4 (.bld [(.int .i64 ((0:Nat):Int)),(.int .i64 ((0:Nat):Int)),(.int .i64 ((0:Nat):Int)),(.int .i64 ((0:Nat):Int))] [(0,(1,(.k (.int .i64 (-4))))),(1,(1,(xk .i64 529))),(2,(1,(.k (.int .i64 (-3350))))),(3,(1,(xk .i64 26341)))]),gg 5 (.bld [(.int .i64 ((0:Nat):Int)),(.int .i64 ((0:Nat):Int)),(.int .i64 ((0:Nat):Int)),(.int .i64 ((0:Nat):Int))] [(0,(1,(.k (.int .i64 (-48))))),(1,(1,(xk .i64 758))),(2,(1,(.k (.int .i64 (-3956))))),(3,(1,(xk .i64 23973)))]),gg 6 (.bld [(.int .i64 ((0:Nat):Int)),(.int .i64 ((0:Nat):Int)),(.int .i64 ((0:Nat):Int)),(.int .i64 ((0:Nat):Int))] [(0,(1,(.k (.int .i64 (-80))))),(1,(1,(xk .i64 905))),(2,(1,(.k (.int .i64 (-4235))))),(3,(1,(xk .i64 21254)))]),gg 7 (.bld [(.int .i64 ((0:Nat):Int)),(.int .i64 ((0:Nat):Int)),(.int .i64 ((0:Nat):Int)),(.int .i64 ((0:Nat):Int))] [(0,(1,(.k (.int .i64 (-99))))),(1,(1,(xk .i64 972))),(2,(1,(.k (.int .i64 (-4222))))),(3,(1,(xk .i64 18278)))]),gg 8 (.bld [(.int .i64 ((0:Nat):Int)),(.int .i64 ((0:Nat):Int)),(.int .i64 ((0:Nat):Int)),(.int .i64 ((0:Nat):Int))] [(0,(1,(.k (.int .i64 (-107))))),(1,(1,(xk .i64 967))),(2,(1,(.k (.int .i64 (-3957))))),(3,(1,(xk .i64 15143)))]),gg 9 (.bld [(.int .i64 ((0:Nat):Int)),(.int .i64 ((0:Nat):Int)),(.int .i64 ((0:Nat):Int)),(.int .i64 ((0:Nat):Int))] [(0,(1,(.k (.int .i64 (-103))))),(1,(1,(xk .i64 896))),(2,(1,(.k (.int .i64 (-3487))))),(3,(1,(xk .i64 11950)))]),gg 10 (.bld [(.int .i64 ((0:Nat):Int)),(.int .i64 ((0:Nat):Int)),(.int .i64 ((0:Nat):Int)),(.int .i64 ((0:Nat):Int))] [(0,(1,(.k (.int .i64 (-91))))),(1,(1,(xk .i64 773))),(2,(1,(.k (.int .i64 (-2865))))),(3,(1,(xk .i64 8798)))]),gg 11 (.bld [(.int .i64 ((0:Nat):Int)),(.int .i64 ((0:Nat):Int)),(.int .i64 ((0:Nat):Int)),(.int .i64 ((0:Nat):Int))] [(0,(1,(.k (.int .i64 (-71))))),(1,(1,(xk .i64 611))),(2,(1,(.k (.int .i64 (-2143))))),(3,(1,(xk .i64 5784)))]),gg 12 (.bld [(.int .i64 ((0:Nat):Int)),(.int .i64 ((0:Nat):Int)),(.int .i64 ((0:Nat):Int)),(.int .i64 ((0:Nat):Int))] [(0,(1,(.k (.int .i64 (-46))))),(1,(1,(xk .i64 425))),(2,(1,(.k (.int .i64 (-1375))))),(3,(1,(xk .i64 2996)))]),gg 13 (.bld [(.int .i64 ((0:Nat):Int)),(.int .i64 ((0:Nat):Int)),(.int .i64 ((0:Nat):Int)),(.int .i64 ((0:Nat):Int)),(.int .i64 ((0:Nat):Int)),(.int .i64 ((0:Nat):Int)),(.int .i64 ((0:Nat):Int)),(.int .i64 ((0:Nat):Int)),(.int .i64 ((0:Nat):Int)),(.int .i64 ((0:Nat):Int)),(.int .i64 ((0:Nat):Int)),(.int .i64 ((0:Nat):Int)),(.int .i64 ((0:Nat):Int)),(.int .i64 ((0:Nat):Int)),(.int .i64 ((0:Nat):Int)),(.int .i64 ((0:Nat):Int)),(.int .i64 ((0:Nat):Int)),(.int .i64 ((0:Nat):Int)),(.int .i64 ((0:Nat):Int)),(.int .i64 ((0:Nat):Int)),(.int .i64 ((0:Nat):Int)),(.int .i64 ((0:Nat):Int)),(.int .i64 ((0:Nat):Int)),(.int .i64 ((0:Nat):Int)),(.int .i64 ((0:Nat):Int)),(.int .i64 ((0:Nat):Int)),(.int .i64 ((0:Nat):Int)),(.int .i64 ((0:Nat):Int)),(.int .i64 ((0:Nat):Int)),(.int .i64 ((0:Nat):Int)),(.int .i64 ((0:Nat):Int)),(.int .i64 ((0:Nat):Int)),(.int .i64 ((0:Nat):Int)),(.int .i64 ((0:Nat):Int)),(.int .i64 ((0:Nat):Int)),(.int .i64 ((0:Nat):Int)),(.int .i64 ((0:Nat):Int)),(.int .i64 ((0:Nat):Int)),(.int .i64 ((0:Nat):Int)),(.int .i64 ((0:Nat):Int)),(.int .i64 ((0:Nat):Int)),(.int .i64 ((0:Nat):Int)),(.int .i64 ((0:Nat):Int)),(.int .i64 ((0:Nat):Int)),(.int .i64 ((0:Nat):Int)),(.int .i64 ((0:Nat):Int)),(.int .i64 ((0:Nat):Int)),(.int .i64 ((0:Nat):Int))] [(0,(4,(.t 1))),(4,(4,(.t 2))),(8,(4,(.t 3))),(12,(4,(.t 4))),(16,(4,(.t 5))),(20,(4,(.t 6))),(24,(4,(.t 7))),(28,(4,(.t 8))),(32,(4,(.t 9))),(36,(4,(.t 10))),(40,(4,(.t 11))),(44,(4,(.t 12)))]),(G.mk none none (.st (.t 0) (.t 13) 48))] .ret)) 0 [(.cell 0 (some 48))]):=by kernel_rfl
theorem c58_:compF Tryz.prog 58=some (.mk (sr [gg 12 (.mov (.k (.slice none 0 0)))] (sr [gg 13 (.mov (.k (.slice none 0 0)))] (.cut (.block 0 (.loop (.seq (sr [gm 17 1,gg 18 (.len false (.t 17)),gg 19 (.bin .gtr (.t 18) (xk .i64 0))] (.cond (.t 19) .skip (.exit 0))) (.block 1 (sr [gm 20 1,gg 21 (.len false (.t 20)),gm 22 0,gg 23 (.nil (.t 22)),gg 24 (.ffa (.t 23) 0),gg 25 (.ld (.t 24) none),gg 26 (.bin .mul (xk .i64 10) (.t 25)),gg 27 (.mn (.t 21) [(.t 26)]),gm 14 27] (.cut (.drt (.q (gm 29 0) 1 (.q (gg 30 (.nil (.t 29))) 2 (.q (gg 31 (.ffa (.t 30) 10)) 3 (.q (gg 32 (.ld (.t 31) none)) 4 (.q (gm 34 2) 6 (.q (gm 35 1) 7 (.q (gm 36 14) 8 (.alt (gg 28 (.bs0 3 1)) 0 [4] (.alt (gg 33 (.app 3 1 8 (.t 28) (.t 32))) 5 [] (.l (gg 37 (.slc (.t 35) none (some (.t 36)) 1)) 9 [] (.l (gg 38 (.clc (.t 34) [(.t 37)])) 10 [] (.l (gg 39 (.app 3 1 8 (.t 33) (.t 38))) 11 [] (.q (gm 15 39) 12 .stop)))) (.l (gg 37 (.slc (.t 35) none (some (.t 36)) 1)) 9 [4] (.l (gg 33 (.app 3 1 8 (.t 28) (.t 32))) 5 [] (.l (gg 38 (.clc (.t 34) [(.t 37)])) 10 [] (.l (gg 39 (.app 3 1 8 (.t 33) (.t 38))) 11 [] (.q (gm 15 39) 12 .stop)))))) (.l (gg 37 (.slc (.t 35) none (some (.t 36)) 1)) 9 [4] (.l (gg 28 (.bs0 3 1)) 0 [4] (.l (gg 33 (.app 3 1 8 (.t 28) (.t 32))) 5 [] (.l (gg 38 (.clc (.t 34) [(.t 37)])) 10 [] (.l (gg 39 (.app 3 1 8 (.t 33) (.t 38))) 11 [] (.q (gm 15 39) 12 .stop))))))))))))))) (.cut (sr [gg 16 (.mov (xk .i64 0))] (.block 2 (.loop (.seq (sr [gm 40 16,gm 41 14,gm 42 3,gg 43 (.bin .mul (.t 41) (.t 42)),gg 44 (.bik .shl .u64 (.t 43) 16),gg 45 (.bin .lss (.t 40) (.t 44))] (.cond (.t 45) .skip (.exit 2))) (.seq (.block 3 (.reg [gm 52 13,gm 53 5,gm 54 15,gm 55 16,gg 56 (.bik .shr .u64 (.t 55) 16),gg 57 (.slq (.t 54) (some (.t 56)) none 1),gm 58 16,gg 59 (.bin .and (.t 58) (xk .i64 65535)),gg 60 (.clc (.t 53) [(.t 57),(.t 59)]),gm 61 4,gg 62 (.call 91 [(.t 60),(.t 61)]),gg 63 (.call 90 [(.t 62)]),gg 64 (.bsl 29 1 1 [(.int .i16 ((0:Nat):Int))] [(0,(1,(.t 63)))]),gg 65 (.app 29 1 2 (.t 52) (.t 64)),gm 13 65])) (.reg [gm 46 16,gm 47 0,gg 48 (.nil (.t 47)),gg 49 (.ffa (.t 48) 11),gg 50 (.ld (.t 49) none),gg 51 (.bin .add (.t 46) (.t 50)),gm 16 51])))))) (.seq (.drw [(.mk (gm 66 0) 0 true []),(.mk (gg 67 (.nil (.t 66))) 1 true []),(.mk (gg 68 (.ffa (.t 67) 10)) 2 true []),(.mk (gg 69 (.ld (.t 68) none)) 3 true []),(.mk (gm 70 15) 4 true []),(.mk (gm 71 14) 5 true []),(.mk (gm 72 3) 6 true []),(.mk (gg 73 (.bin .mul (.t 71) (.t 72))) 7 true []),(.mk (gg 74 (.slq (.t 70) (some (.t 73)) none 1)) 8 true []),(.mk (gg 75 (.cpy 1 (.t 69) (.t 74))) 9 false [])]) (.reg [gm 76 1,gm 77 14,gg 78 (.slq (.t 76) (some (.t 77)) none 1),gm 1 78]))))))))) (sr [gm 79 13,gm 12 79] .ret)))) 6 [(.t 12)]):=by kernel_rfl
theorem c59_:compF Tryz.prog 59=some (.mk (sr [gg 5 (.mov (xk .i64 0))] (sr [gm 9 1,gg 10 (.bin .mul (.t 9) (xk .i64 12)),gg 11 (.bik .shr .u64 (.t 10) 16),gm 6 11] (sr [gg 7 (.mov (xk .i64 0))] (.cut (sr [gg 12 (.mov (xk .i64 0))] (.block 0 (.loop (sr [gg 13 (.bin .lss (.t 12) (xk .i64 4))] (.seq (.cond (.t 13) .skip (.exit 0)) (.seq (.block 1 (sr [gm 14 12,gm 8 14] (.drw [(.mk (gm 15 7) 0 true []),(.mk (gm 16 0) 1 true []),(.mk (gm 17 8) 2 true []),(.mk (gg 18 (.ia (.t 16) (.t 17) 1)) 3 true []),(.mk (gg 19 (.ld (.t 18) none)) 4 true []),(.mk (gm 20 6) 5 true []),(.mk (gm 21 8) 6 true []),(.mk (gg 22 (.iaa (.t 2) (.t 20) 4 12)) 7 true []),(.mk (gg 23 (.iaa (.t 22) (.t 21) 1 4)) 8 true []),(.mk (gg 24 (.ld (.t 23) none)) 9 true []),(.mk (gg 25 (.bin .mul (.t 19) (.t 24))) 10 true []),(.mk (gm 26 0) 11 true []),(.mk (gm 27 8) 12 true []),(.mk (gg 28 (.bin .sub (xk .i64 7) (.t 27))) 13 true []),(.mk (gg 29 (.ia (.t 26) (.t 28) 1)) 14 true []),(.mk (gg 30 (.ld (.t 29) none)) 15 true []),(.mk (gm 31 6) 16 true []),(.mk (gg 32 (.bin .sub (xk .i64 11) (.t 31))) 17 true []),(.mk (gm 33 8) 18 true []),(.mk (gg 34 (.iaa (.t 2) (.t 32) 4 12)) 19 true []),(.mk (gg 35 (.iaa (.t 34) (.t 33) 1 4)) 20 true []),(.mk (gg 36 (.ld (.t 35) none)) 21 true []),(.mk (gg 37 (.bin .mul (.t 30) (.t 36))) 22 true []),(.mk (gg 38 (.bin .add (.t 25) (.t 37))) 23 true []),(.mk (gg 39 (.bin .add (.t 15) (.t 38))) 24 true []),(.mk (gm 7 39) 25 true [])]))) (.reg [gg 40 (.bin .add (.t 12) (xk .i64 1)),gm 12 40]))))))) (sr [gm 41 7,gm 5 41] .ret))))) 3 [(.t 5)]):=by kernel_rfl
theorem c60_:compF Tryz.prog 60=some (.mk (sr [gg 2 (.mov (.k (.slice none 0 0)))] (.cut (sr [gm 3 0] (.block 0 (sr [gg 5 (.bin .eql (.t 3) (xk .i64 34)),gm 4 5] (.cond (.t 4) (sr [gg 6 (.bsl 3 1 29 [(.int .i64 ((0:Nat):Int)),(.int .i64 ((0:Nat):Int)),(.int .i64 ((0:Nat):Int)),(.int .i64 ((0:Nat):Int)),(.int .i64 ((0:Nat):Int)),(.int .i64 ((0:Nat):Int)),(.int .i64 ((0:Nat):Int)),(.int .i64 ((0:Nat):Int)),(.int .i64 ((0:Nat):Int)),(.int .i64 ((0:Nat):Int)),(.int .i64 ((0:Nat):Int)),(.int .i64 ((0:Nat):Int)),(.int .i64 ((0:Nat):Int)),(.int .i64 ((0:Nat):Int)),(.int .i64 ((0:Nat):Int)),(.int .i64 ((0:Nat):Int)),(.int .i64 ((0:Nat):Int)),(.int .i64 ((0:Nat):Int)),(.int .i64 ((0:Nat):Int)),(.int .i64 ((0:Nat):Int)),(.int .i64 ((0:Nat):Int)),(.int .i64 ((0:Nat):Int)),(.int .i64 ((0:Nat):Int)),(.int .i64 ((0:Nat):Int)),(.int .i64 ((0:Nat):Int)),(.int .i64 ((0:Nat):Int)),(.int .i64 ((0:Nat):Int)),(.int .i64 ((0:Nat):Int)),(.int .i64 ((0:Nat):Int))] [(0,(1,(.k (.int .i64 (-20694))))),(1,(1,(.k (.int .i64 (-13867))))),(2,(1,(.k (.int .i64 (-49))))),(3,(1,(xk .i64 64))),(4,(1,(xk .i64 17))),(5,(1,(.k (.int .i64 (-157))))),(6,(1,(xk .i64 353))),(7,(1,(.k (.int .i64 (-496))))),(8,(1,(xk .i64 163))),(9,(1,(xk .i64 11047))),(10,(1,(xk .i64 22205))),(11,(1,(.k (.int .i64 (-39))))),(12,(1,(xk .i64 6))),(13,(1,(xk .i64 91))),(14,(1,(.k (.int .i64 (-170))))),(15,(1,(xk .i64 186))),(16,(1,(xk .i64 23))),(17,(1,(.k (.int .i64 (-896))))),(18,(1,(xk .i64 6336))),(19,(1,(xk .i64 19928))),(20,(1,(.k (.int .i64 (-19))))),(21,(1,(.k (.int .i64 (-36))))),(22,(1,(xk .i64 102))),(23,(1,(.k (.int .i64 (-89))))),(24,(1,(.k (.int .i64 (-24))))),(25,(1,(xk .i64 328))),(26,(1,(.k (.int .i64 (-951))))),(27,(1,(xk .i64 2568))),(28,(1,(xk .i64 15909)))]),gm 2 6] .ret) (sr [gg 8 (.bin .eql (.t 3) (xk .i64 23)),gm 7 8] (.cond (.t 7) (sr [gg 9 (.bsl 3 1 20 [(.int .i64 ((0:Nat):Int)),(.int .i64 ((0:Nat):Int)),(.int .i64 ((0:Nat):Int)),(.int .i64 ((0:Nat):Int)),(.int .i64 ((0:Nat):Int)),(.int .i64 ((0:Nat):Int)),(.int .i64 ((0:Nat):Int)),(.int .i64 ((0:Nat):Int)),(.int .i64 ((0:Nat):Int)),(.int .i64 ((0:Nat):Int)),(.int .i64 ((0:Nat):Int)),(.int .i64 ((0:Nat):Int)),(.int .i64 ((0:Nat):Int)),(.int .i64 ((0:Nat):Int)),(.int .i64 ((0:Nat):Int)),(.int .i64 ((0:Nat):Int)),(.int .i64 ((0:Nat):Int)),(.int .i64 ((0:Nat):Int)),(.int .i64 ((0:Nat):Int)),(.int .i64 ((0:Nat):Int))] [(0,(1,(.k (.int .i64 (-14457))))),(1,(1,(.k (.int .i64 (-14019))))),(2,(1,(xk .i64 64))),(3,(1,(xk .i64 128))),(4,(1,(.k (.int .i64 (-122))))),(5,(1,(xk .i64 36))),(6,(1,(xk .i64 310))),(7,(1,(.k (.int .i64 (-768))))),(8,(1,(xk .i64 584))),(9,(1,(xk .i64 9267))),(10,(1,(xk .i64 17733))),(11,(1,(xk .i64 12))),(12,(1,(xk .i64 128))),(13,(1,(xk .i64 18))),(14,(1,(.k (.int .i64 (-142))))),(15,(1,(xk .i64 288))),(16,(1,(.k (.int .i64 (-117))))),(17,(1,(.k (.int .i64 (-865))))),(18,(1,(xk .i64 4123))),(19,(1,(xk .i64 14459)))]),gm 2 9] .ret) .skip)))))) (sr [gg 10 (.bsl 3 1 14 [(.int .i64 ((0:Nat):Int)),(.int .i64 ((0:Nat):Int)),(.int .i64 ((0:Nat):Int)),(.int .i64 ((0:Nat):Int)),(.int .i64 ((0:Nat):Int)),(.int .i64 ((0:Nat):Int)),(.int .i64 ((0:Nat):Int)),(.int .i64 ((0:Nat):Int)),(.int .i64 ((0:Nat):Int)),(.int .i64 ((0:Nat):Int)),(.int .i64 ((0:Nat):Int)),(.int .i64 ((0:Nat):Int)),(.int .i64 ((0:Nat):Int)),(.int .i64 ((0:Nat):Int))] [(0,(1,(xk .i64 616))),(1,(1,(.k (.int .i64 (-14323))))),(2,(1,(.k (.int .i64 (-10))))),(3,(1,(xk .i64 39))),(4,(1,(xk .i64 58))),(5,(1,(.k (.int .i64 (-46))))),(6,(1,(.k (.int .i64 (-84))))),(7,(1,(xk .i64 120))),(8,(1,(xk .i64 184))),(9,(1,(.k (.int .i64 (-315))))),(10,(1,(.k (.int .i64 (-541))))),(11,(1,(xk .i64 1284))),(12,(1,(xk .i64 5380))),(13,(1,(xk .i64 9024)))]),gm 2 10] .ret))) 1 [(.t 2)]):=by kernel_rfl
theorem c61_:compF Tryz.prog 61=some (.mk (sr [gg 4 (.mov (.k (.slice none 0 0)))] (sr [gg 5 (.mov (.k (.slice none 0 0)))] (.cut (sr [gm 9 0,gg 10 (.len false (.t 9)),gg 11 (.mov (xk .i64 0))] (.block 0 (.loop (sr [gg 12 (.bin .lss (.t 11) (.t 10))] (.seq (.cond (.t 12) .skip (.exit 0)) (.seq (.block 1 (sr [gg 13 (.ia (.t 9) (.t 11) 1),gg 14 (.ld (.t 13) none),gm 7 14] (sr [gg 15 (.ld (.t 1) none),gg 16 (.nil (.t 15)),gg 17 (.ffa (.t 16) 4),gg 18 (.iaa (.t 17) (xk .i64 0) 1 6),gg 19 (.ld (.t 18) none),gm 20 7,gg 21 (.cvi .i64 (.t 20)),gg 22 (.bik .shl .u64 (.t 21) 8),gg 23 (.bin .add (.t 19) (.t 22)),gm 8 23] (sr [gm 24 5,gm 25 8,gg 26 (.bsl 3 1 1 [(.int .i64 ((0:Nat):Int))] [(0,(1,(.t 25)))]),gg 27 (.app 3 1 8 (.t 24) (.t 26)),gm 5 27] (sr [gm 28 8,gg 29 (.bik .shl .u64 (.t 28) 2),gm 8 29] (.seq (.drw [(.mk (gg 30 (.ld (.t 1) none)) 0 true []),(.mk (gg 31 (.ld (.t 1) none)) 1 true []),(.mk (gg 32 (.nil (.t 31))) 2 true []),(.mk (gg 33 (.ffa (.t 32) 4)) 3 true []),(.mk (gg 34 (.iaa (.t 33) (xk .i64 1) 1 6)) 4 true []),(.mk (gg 35 (.ld (.t 34) none)) 5 true []),(.mk (gm 36 8) 6 true []),(.mk (gg 37 (.ld (.t 2) none)) 7 true []),(.mk (gg 38 (.ia (.t 37) (xk .i64 0) 1)) 8 true []),(.mk (gg 39 (.ld (.t 38) none)) 9 true []),(.mk (gg 42 (.nil (.t 30))) 12 true []),(.mk (gg 43 (.ffa (.t 42) 4)) 13 true []),(.mk (gg 40 (.call 62 [(.t 36),(.t 39)])) 10 false [5,1,0]),(.mk (gg 41 (.bin .add (.t 35) (.t 40))) 11 true []),(.mk (gg 44 (.iaa (.t 43) (xk .i64 0) 1 6)) 14 true []),(.mk (G.mk none none (.st (.t 44) (.t 41) 1)) 15 false [])]) (.drw [(.mk (gg 45 (.ld (.t 1) none)) 0 true []),(.mk (gm 46 8) 1 true []),(.mk (gg 47 (.ld (.t 2) none)) 2 true []),(.mk (gg 48 (.ia (.t 47) (xk .i64 1) 1)) 3 true []),(.mk (gg 49 (.ld (.t 48) none)) 4 true []),(.mk (gg 51 (.nil (.t 45))) 6 true []),(.mk (gg 52 (.ffa (.t 51) 4)) 7 true []),(.mk (gg 50 (.call 62 [(.t 46),(.t 49)])) 5 false [0]),(.mk (gg 53 (.iaa (.t 52) (xk .i64 1) 1 6)) 8 true []),(.mk (G.mk none none (.st (.t 53) (.t 50) 1)) 9 false [])]))))))) (.reg [gg 54 (.bin .add (.t 11) (xk .i64 1)),gm 11 54]))))))) (sr [gm 55 5,gm 4 55] .ret)))) 3 [(.t 4)]):=by kernel_rfl
theorem c62_:compF Tryz.prog 62=some (.mk (sr [gg 4 (.mov (xk .i64 0))] (sr [gm 5 0,gm 6 1,gg 7 (.bin .mul (.t 5) (.t 6)),gg 8 (.bik .shr .u64 (.t 7) 16),gm 4 8] .ret)) 2 [(.t 4)]):=by kernel_rfl
theorem c63_:compF Tryz.prog 63=some (.mk (sr [gg 6 (.mov (xk .i64 0))] (sr [gg 7 (.mov (xk .i64 0))] (.cut (sr [gg 11 (.ld (.t 2) none),gg 12 (.bin .eql (.t 11) (xk .i64 1))] (.cond (.t 12) (.cut (sr [gg 13 (.mov (xk .i64 0))] (.block 0 (.loop (sr [gg 14 (.bin .lss (.t 13) (xk .i64 12))] (.seq (.cond (.t 14) .skip (.exit 0)) (.seq (.block 1 (sr [gm 15 13,gm 8 15] (.drw [(.mk (gm 16 7) 0 true []),(.mk (gm 17 0) 1 true []),(.mk (gm 18 8) 2 true []),(.mk (gg 19 (.ia (.t 17) (.t 18) 1)) 3 true []),(.mk (gg 20 (.ld (.t 19) none)) 4 true []),(.mk (gm 21 0) 5 true []),(.mk (gm 22 8) 6 true []),(.mk (gg 23 (.bin .sub (xk .i64 23) (.t 22))) 7 true []),(.mk (gg 24 (.ia (.t 21) (.t 23) 1)) 8 true []),(.mk (gg 25 (.ld (.t 24) none)) 9 true []),(.mk (gg 26 (.bin .add (.t 20) (.t 25))) 10 true []),(.mk (gg 27 (.ld (.t 3) none)) 11 true []),(.mk (gm 28 8) 12 true []),(.mk (gg 29 (.ia (.t 27) (.t 28) 1)) 13 true []),(.mk (gg 30 (.ld (.t 29) none)) 14 true []),(.mk (gg 31 (.call 62 [(.t 26),(.t 30)])) 15 false []),(.mk (gg 32 (.bin .add (.t 16) (.t 31))) 16 true []),(.mk (gm 7 32) 17 true [])]))) (.reg [gg 33 (.bin .add (.t 13) (xk .i64 1)),gm 13 33]))))))) (sr [gm 34 7,gm 6 34] .ret)) .skip)) (sr [gm 35 1,gg 36 (.ld (.t 2) none),gg 37 (.bin .mul (.t 35) (.t 36)),gg 38 (.bik .shr .u64 (.t 37) 16),gm 9 38] (.cut (sr [gg 39 (.mov (xk .i64 0))] (.block 2 (.loop (sr [gg 40 (.bin .lss (.t 39) (xk .i64 9))] (.seq (.cond (.t 40) .skip (.exit 2)) (.seq (.block 3 (sr [gm 41 39,gm 10 41] (.drw [(.mk (gm 42 7) 0 true []),(.mk (gm 43 0) 1 true []),(.mk (gm 44 10) 2 true []),(.mk (gg 45 (.ia (.t 43) (.t 44) 1)) 3 true []),(.mk (gg 46 (.ld (.t 45) none)) 4 true []),(.mk (gg 47 (.ld (.t 3) none)) 5 true []),(.mk (gm 48 9) 6 true []),(.mk (gg 49 (.bin .mul (xk .i64 9) (.t 48))) 7 true []),(.mk (gm 50 10) 8 true []),(.mk (gg 51 (.bin .add (.t 49) (.t 50))) 9 true []),(.mk (gg 52 (.ia (.t 47) (.t 51) 1)) 10 true []),(.mk (gg 53 (.ld (.t 52) none)) 11 true []),(.mk (gm 55 0) 13 true []),(.mk (gm 56 10) 14 true []),(.mk (gg 57 (.bin .sub (xk .i64 17) (.t 56))) 15 true []),(.mk (gg 58 (.ia (.t 55) (.t 57) 1)) 16 true []),(.mk (gg 59 (.ld (.t 58) none)) 17 true []),(.mk (gg 60 (.ld (.t 3) none)) 18 true []),(.mk (gg 61 (.ld (.t 2) none)) 19 true []),(.mk (gg 62 (.bin .sub (.t 61) (xk .i64 1))) 20 true []),(.mk (gm 63 9) 21 true []),(.mk (gg 64 (.bin .sub (.t 62) (.t 63))) 22 true []),(.mk (gg 65 (.bin .mul (xk .i64 9) (.t 64))) 23 true []),(.mk (gm 66 10) 24 true []),(.mk (gg 67 (.bin .add (.t 65) (.t 66))) 25 true []),(.mk (gg 68 (.ia (.t 60) (.t 67) 1)) 26 true []),(.mk (gg 69 (.ld (.t 68) none)) 27 true []),(.mk (gg 54 (.call 62 [(.t 46),(.t 53)])) 12 false [27,19,18,17]),(.mk (gg 70 (.call 62 [(.t 59),(.t 69)])) 28 false []),(.mk (gg 71 (.bin .add (.t 54) (.t 70))) 29 true []),(.mk (gg 72 (.bin .add (.t 42) (.t 71))) 30 true []),(.mk (gm 7 72) 31 true [])]))) (.reg [gg 73 (.bin .add (.t 39) (xk .i64 1)),gm 39 73]))))))) (sr [gm 74 7,gm 6 74] .ret)))))) 4 [(.t 6)]):=by kernel_rfl
theorem c90_:compF Tryz.prog 90=some (.mk (sr [gg 2 (.mov (xk .i16 0))] (sr [gm 3 0,gg 4 (.mx (.k (.int .i64 (-32768))) [(.t 3)]),gg 5 (.mn (xk .i64 32767) [(.t 4)]),gg 6 (.cvi .i16 (.t 5)),gm 2 6] .ret)) 1 [(.t 2)]):=by kernel_rfl
theorem c91_:compF Tryz.prog 91=some (.mk (sr [gg 4 (.mov (xk .i64 0))] (sr [gm 5 0,gm 6 1,gg 7 (.bin .sub (.t 6) (xk .i64 1)),gg 8 (.bin .shr (.t 5) (.t 7)),gg 9 (.bin .add (.t 8) (xk .i64 1)),gg 10 (.bik .shr .u64 (.t 9) 1),gm 4 10] .ret)) 2 [(.t 4)]):=by kernel_rfl
theorem c3_:compF Tryz.prog 3=some (.mk (sr [gg 6 (.mov (.k (.bool false)))] (.cut (sr [gm 14 0,gg 15 (.call 4 [(.t 14)]),gg 16 (.un .not (.t 15))] (.cond (.t 16) (sr [gg 6 (.mov (.k (.bool true)))] .ret) .skip)) (sr [gg 17 (.bsl 3 1 5 [(.int .i64 ((0:Nat):Int)),(.int .i64 ((0:Nat):Int)),(.int .i64 ((0:Nat):Int)),(.int .i64 ((0:Nat):Int)),(.int .i64 ((0:Nat):Int))] [(0,(1,(xk .i64 8000))),(1,(1,(xk .i64 12000))),(2,(1,(xk .i64 16000))),(3,(1,(xk .i64 24000))),(4,(1,(xk .i64 48000)))]),gm 7 17] (.seq (.drw [(.mk (gm 18 7) 0 true []),(.mk (gm 19 1) 1 true []),(.mk (gg 20 (.bik .rem .u8 (.t 19) 3)) 2 true []),(.mk (gg 21 (.ia (.t 18) (.t 20) 1)) 3 true []),(.mk (gg 22 (.ld (.t 21) none)) 4 true []),(.mk (gm 23 7) 5 true []),(.mk (gm 24 2) 6 true []),(.mk (gg 25 (.bik .rem .u8 (.t 24) 5)) 7 true []),(.mk (gg 26 (.ia (.t 23) (.t 25) 1)) 8 true []),(.mk (gg 27 (.ld (.t 26) none)) 9 true []),(.mk (gm 8 22) 10 true []),(.mk (gm 9 27) 11 true [])]) (.cut (sr [gm 28 0,gm 29 8,gg 30 (.call 5 [(.t 28),(.t 29)]),gg 31 (.un .not (.t 30))] (.cond (.t 31) (sr [gg 6 (.mov (.k (.bool true)))] .ret) .skip)) (sr [gm 33 0,gm 34 8,gm 35 9,gg 36 (.call 6 [(.t 33),(.t 34),(.t 35)]),gm 32 36,gg 37 (.ext (.t 32) 0),gg 38 (.ext (.t 32) 1),gm 10 37,gm 11 38] (.cut (sr [gm 39 11,gg 40 (.bin .neq (.t 39) (xk .i64 1))] (.cond (.t 40) (sr [gg 6 (.mov (.k (.bool true)))] .ret) .skip)) (sr [gm 42 0,gm 43 8,gm 44 9,gg 45 (.call 7 [(.t 42),(.t 43),(.t 44)]),gm 41 45,gg 46 (.ext (.t 41) 0),gg 47 (.ext (.t 41) 1),gm 12 46,gm 13 47] (sr [gm 48 13,gg 49 (.bin .eql (.t 48) (xk .i64 0)),gm 50 49,gq 51 50 true (.mov (.t 12)),gq 52 50 true (.call 8 [(.t 51)]),gq 53 50 true (.mov (.t 10)),gq 54 50 true (.call 8 [(.t 53)]),gq 55 50 true (.bin .eql (.t 52) (.t 54)),gg 56 (.pick (.t 50) (.t 55) (.k (.bool false))),gm 57 56,gq 58 57 true (.call 9 []),gg 59 (.pick (.t 57) (.t 58) (.k (.bool false))),gm 6 59] .ret))))))))) 3 [(.t 6)]):=by kernel_rfl
end Go.Proofs.YtbpogapddpacoaaGreatDoor
end
section
namespace Go.Proofs.YtbpogapddpacoaaGreatDoor
def wb (a b:Int):Int:=(a*b).fdiv 65536
def rnd (a:Int) (k:Nat):Int:=((a.fdiv (2 ^ (k - 1)))+1).fdiv 2
def satI (a:Int):Int:=if a>32767 then 32767 else if a < -32768 then -32768 else a
theorem satI_ok (a:Int):-32768≤satI a∧satI a≤32767:=by unfold satI; split <;> (try split) <;> omega
theorem wb_spec (a b:Int):65536*wb a b≤a*b∧a*b<65536*wb a b+65536:=by
 unfold wb
 rw [Int.fdiv_eq_ediv_of_nonneg _ (by omega)]
 omega
def stg (t:Int) (last:Bool) (z a:Int):Int × Int :=
 let y:=a - z
 let m:=if last then wb y t+y else wb y t
 (z+m,a+m)
theorem stg_ok {t C A Z B:Int} {last:Bool} {z a:Int} (ht:C=if last then t+65536 else t) (h0:0≤C) (h1:C≤65536) (ha:-A≤a∧a≤A) (hz:-Z≤z∧z≤Z)
 (hZ:(65536+C)*A+C*Z+65536≤65536*Z) (hB:(65536 - C)*Z+C*A+65536≤65536*B) :
 (-B≤(stg t last z a).1∧(stg t last z a).1≤B)∧(-Z≤(stg t last z a).2∧(stg t last z a).2≤Z):=by
 obtain ⟨m,hm,e⟩:∃ m,stg t last z a=(z+m,a+m)∧(65536*m≤(a - z)*C∧(a - z)*C<65536*m+65536):=by
  have hw:=wb_spec (a - z) t
  cases last with
  | true =>
   refine ⟨wb (a - z) t+(a - z),rfl,?_⟩
   simp only [if_true] at ht
   subst ht
   have h3:(a - z)*(t+65536)=(a - z)*t+(a - z)*65536:=Int.mul_add ..
   generalize (a - z)*(t+65536)=p at *
   generalize (a - z)*t=q at *
   omega
  | false =>
   refine ⟨wb (a - z) t,rfl,?_⟩
   simp at ht
   subst ht
   exact hw
 rw [hm]
 simp only
 have p1:C*a≤C*A:=Int.mul_le_mul_of_nonneg_left ha.2 h0
 have p2:C*(-A)≤C*a:=Int.mul_le_mul_of_nonneg_left ha.1 h0
 have p3:C*z≤C*Z:=Int.mul_le_mul_of_nonneg_left hz.2 h0
 have p4:C*(-Z)≤C*z:=Int.mul_le_mul_of_nonneg_left hz.1 h0
 have q3:(65536 - C)*z≤(65536 - C)*Z:=Int.mul_le_mul_of_nonneg_left hz.2 (by omega)
 have q4:(65536 - C)*(-Z)≤(65536 - C)*z:=Int.mul_le_mul_of_nonneg_left hz.1 (by omega)
 rw [Int.sub_mul,Int.mul_comm a C,Int.mul_comm z C] at e
 rw [Int.mul_neg] at p2 p4 q4
 rw [Int.sub_mul] at q3 q4 hB
 rw [Int.sub_mul] at q3 q4
 rw [Int.add_mul] at hZ
 omega
structure Z6 where
 a:Int
 b:Int
 c:Int
 d:Int
 e:Int
 f:Int
def Z6.zero:Z6:=⟨0,0,0,0,0,0⟩
def upS (z:Z6) (s:Int):(Int × Int) × Z6 :=
 let x:=s*1024
 let p:=stg 1746 false z.a x
 let q:=stg 14986 false z.b p.1
 let r:=stg (-26453) true z.c q.1
 let p':=stg 6854 false z.d x
 let q':=stg 25769 false z.e p'.1
 let r':=stg (-9994) true z.f q'.1
 ((satI (rnd r.1 10),satI (rnd r'.1 10)),⟨p.2,q.2,r.2,p'.2,q'.2,r'.2⟩)
def iB (b x:Int):Prop := -b≤x∧x≤b
structure Z6.Ok (z:Z6):Prop where
 a:iB 35400000 z.a
 b:iB 56400000 z.b
 c:iB 204200000 z.c
 d:iB 41400000 z.d
 e:iB 93300000 z.e
 f:iB 880000000 z.f
theorem Z6.zero_ok:Z6.zero.Ok:=by constructor <;> (unfold iB; decide)
def S16 (x:Int):Prop := -32768≤x∧x≤32767
theorem satI_S16 (a:Int):S16 (satI a):=satI_ok a
theorem half0 {z:Z6} (h:z.Ok) {s:Int} (hs:S16 s) :
 iB 35400000 (stg 1746 false z.a (s*1024)).1∧iB 35400000 (stg 1746 false z.a (s*1024)).2 ∧
 iB 51600000 (stg 14986 false z.b (stg 1746 false z.a (s*1024)).1).1∧iB 56400000 (stg 14986 false z.b (stg 1746 false z.a (s*1024)).1).2 ∧
 iB 120000000 (stg (-26453) true z.c (stg 14986 false z.b (stg 1746 false z.a (s*1024)).1).1).1∧iB 204200000 (stg (-26453) true z.c (stg 14986 false z.b (stg 1746 false z.a (s*1024)).1).1).2:=by
 have e1:=stg_ok (t:=1746) (C:=1746) (A:=33554432) (Z:=35400000) (B:=35400000) (last:=false) (a:=s*1024) rfl (by omega) (by omega) (by unfold S16 at hs; omega) h.a (by omega) (by omega)
 have e2:=stg_ok (t:=14986) (C:=14986) (A:=35400000) (Z:=56400000) (B:=51600000) (last:=false) rfl (by omega) (by omega) e1.1 h.b (by omega) (by omega)
 have e3:=stg_ok (t := -26453) (C:=39083) (A:=51600000) (Z:=204200000) (B:=120000000) (last:=true) rfl (by omega) (by omega) e2.1 h.c (by omega) (by omega)
 exact ⟨e1.1,e1.2,e2.1,e2.2,e3.1,e3.2⟩
theorem half1 {z:Z6} (h:z.Ok) {s:Int} (hs:S16 s) :
 iB 40600000 (stg 6854 false z.d (s*1024)).1∧iB 41400000 (stg 6854 false z.d (s*1024)).2 ∧
 iB 72600000 (stg 25769 false z.e (stg 6854 false z.d (s*1024)).1).1∧iB 93300000 (stg 25769 false z.e (stg 6854 false z.d (s*1024)).1).2 ∧
 iB 200000000 (stg (-9994) true z.f (stg 25769 false z.e (stg 6854 false z.d (s*1024)).1).1).1∧iB 880000000 (stg (-9994) true z.f (stg 25769 false z.e (stg 6854 false z.d (s*1024)).1).1).2:=by
 have e1:=stg_ok (t:=6854) (C:=6854) (A:=33554432) (Z:=41400000) (B:=40600000) (last:=false) (a:=s*1024) rfl (by omega) (by omega) (by unfold S16 at hs; omega) h.d (by omega) (by omega)
 have e2:=stg_ok (t:=25769) (C:=25769) (A:=40600000) (Z:=93300000) (B:=72600000) (last:=false) rfl (by omega) (by omega) e1.1 h.e (by omega) (by omega)
 have e3:=stg_ok (t := -9994) (C:=55542) (A:=72600000) (Z:=880000000) (B:=200000000) (last:=true) rfl (by omega) (by omega) e2.1 h.f (by omega) (by omega)
 exact ⟨e1.1,e1.2,e2.1,e2.2,e3.1,e3.2⟩
theorem upS_ok {z:Z6} (h:z.Ok) {s:Int} (hs:S16 s):(upS z s).2.Ok :=
 ⟨(half0 h hs).2.1,(half0 h hs).2.2.2.1,(half0 h hs).2.2.2.2.2,(half1 h hs).2.1,(half1 h hs).2.2.2.1,(half1 h hs).2.2.2.2.2⟩
def runL {σ β:Type} (f:σ → Int → β × σ):σ → List Int→List β × σ
 | z,[]=>([],z)
 | z,x::r=>((f z x).1::(runL f (f z x).2 r).1,(runL f (f z x).2 r).2)
theorem runL_append {σ β:Type} (f:σ → Int → β × σ):∀ (xs ys:List Int) (z:σ),runL f z (xs++ys)=((runL f z xs).1++(runL f (runL f z xs).2 ys).1,(runL f (runL f z xs).2 ys).2)
 | [],ys,z=>rfl
 | x::xs,ys,z=>by
  simp only [List.cons_append,runL,runL_append f xs ys]
theorem runL_snoc {σ β:Type} (f:σ → Int → β × σ) (xs:List Int) (x:Int) (z:σ):runL f z (xs++[x])=((runL f z xs).1++[(f (runL f z xs).2 x).1],(f (runL f z xs).2 x).2):=by
 rw [runL_append]
 rfl
theorem runL_length {σ β:Type} (f:σ → Int → β × σ):∀ (xs:List Int) (z:σ),(runL f z xs).1.length=xs.length
 | [],_=>rfl
 | x::xs,z=>by simp [runL,runL_length f xs]
theorem runL_inv {σ β:Type} {f:σ → Int → β × σ} {I:σ → Prop} {V:Int→Prop} (hf:∀ z x,I z→V x→I (f z x).2):∀ (xs:List Int) (z:σ),I z→(∀ x∈xs,V x)→I (runL f z xs).2
 | [],_,h,_=>h
 | x::xs,z,h,hx=>runL_inv hf xs _ (hf z x h (hx x (by simp))) fun y hy=>hx y (by simp [hy])
theorem runL_out {σ β:Type} {f:σ → Int → β × σ} {I:σ → Prop} {V:Int→Prop} {W:β → Prop} (hf:∀ z x,I z→V x→I (f z x).2) (hw:∀ z x,I z→V x→W (f z x).1) :
 ∀ (xs:List Int) (z:σ),I z→(∀ x∈xs,V x) → ∀ y∈(runL f z xs).1,W y
 | [],_,_,_=>by simp [runL]
 | x::xs,z,h,hx=>by
  intro y hy
  simp only [runL,List.mem_cons] at hy
  rcases hy with rfl | hy
  ·exact hw _ _ h (hx x (by simp))
  exact runL_out hf hw xs _ (hf z x h (hx x (by simp))) (fun y hy=>hx y (by simp [hy])) y hy
def dbl (z:Z6) (xs:List Int):List Int × Z6:=((runL upS z xs).1.flatMap fun p=>[p.1,p.2],(runL upS z xs).2)
theorem dbl_snoc (z:Z6) (xs:List Int) (x:Int):dbl z (xs++[x])=((dbl z xs).1++[(upS (dbl z xs).2 x).1.1,(upS (dbl z xs).2 x).1.2],(upS (dbl z xs).2 x).2):=by
 unfold dbl
 rw [runL_snoc]
 simp
theorem dbl_length (z:Z6) (xs:List Int):(dbl z xs).1.length=2*xs.length:=by
 unfold dbl
 have h:=runL_length upS xs z
 generalize (runL upS z xs).1=l at h
 simp only
 rw [← h]
 clear h
 induction l with
 | nil=>rfl
 | cons p l ih=>simp only [List.flatMap_cons,List.length_append,ih,List.length_cons,List.length_nil]; omega
theorem dbl_ok {z:Z6} (h:z.Ok) {xs:List Int} (hx:∀ x∈xs,S16 x):(dbl z xs).2.Ok:=runL_inv (I:=Z6.Ok) (V:=S16) (fun _ _ h1 h2=>upS_ok h1 h2) xs z h hx
theorem dbl_S16 (z:Z6) (xs:List Int):∀ y∈(dbl z xs).1,S16 y:=by
 intro y hy
 unfold dbl at hy
 simp only [List.mem_flatMap] at hy
 obtain ⟨p,hp,hy⟩:=hy
 obtain ⟨u,v⟩:S16 p.1∧S16 p.2:=runL_out (f:=upS) (I:=fun _=>True) (V:=fun _=>True) (W:=fun p=>S16 p.1∧S16 p.2) (fun _ _ _ _=>trivial) (fun z x _ _=>⟨satI_S16 _,satI_S16 _⟩) xs z trivial (fun _ _=>trivial) p hp
 simp at hy
 rcases hy with rfl | rfl
 ·exact u
 exact v
def arS (a0 a1:Int) (s:Int × Int) (x:Int):Int × (Int × Int) :=
 let o:=s.1+x*256
 (o,(s.2+wb (o*4) a0,wb (o*4) a1))
def tapsAR (k:Nat):Int × Int:=if k=34 then (-20694,-13867) else if k=23 then (-14457,-14019) else (616,-14323)
theorem sq_nn (a:Int):0≤a*a:=by
 rcases Int.le_total 0 a with h | h
 ·exact Int.mul_nonneg h h
 have:=Int.mul_nonneg (show 0 ≤ -a by omega) (show 0 ≤ -a by omega)
 rwa [Int.neg_mul_neg] at this
theorem sq_lt {a b:Int} (hb:0≤b) (h:b<a):b*b<a*a:=by
 have h1:b*b≤b*a:=Int.mul_le_mul_of_nonneg_left (by omega) hb
 have h2:b*a<a*a:=Int.mul_lt_mul_of_pos_right h (by omega)
 omega
theorem sq_le {a b:Int} (hb:0≤b) (h:a*a≤b*b):-b≤a∧a≤b:=by
 constructor
 ·apply Int.not_lt.1
  intro hc
  have h1:b < -a:=by omega
  have h2:b*b<(-a)*(-a):=sq_lt hb h1
  rw [Int.neg_mul_neg] at h2
  omega
 apply Int.not_lt.1
 intro hc
 have h2:b*b<a*a:=sq_lt hb hc
 omega
def VV (a0 a1 u v:Int):Int:=16384*(u*u) - a0*(u*v) - a1*(v*v)
theorem VV_step {a0 a1 M τ W o u v w:Int} (hw:iB W w) (ho:16384*o=w+(a0*u+a1*v)) (hV:VV a0 a1 u v≤M) (ha:a1≤0) (hΔ:0 ≤ -65536*a1 - a0*a0) (hτ0:0 ≤ τ)
 (hτ:-4*a1*M ≤ τ * τ) (hM:W*W+W * τ - a1*M≤16384*M):VV a0 a1 o u≤M:=by
 have e1:16384*VV a0 a1 o u=w*w+w*(a0*u+2*(a1*v)) - a1*VV a0 a1 u v:=by
  have e2:16384*VV a0 a1 o u=(16384*o)*(16384*o) - a0*u*(16384*o) - 16384*a1*(u*u):=by unfold VV; grind
  rw [e2,ho]
  unfold VV
  grind
 have e3:(a0*u+2*(a1*v))*(a0*u+2*(a1*v))+(-65536*a1 - a0*a0)*(u*u) = -4*a1*VV a0 a1 u v:=by
  unfold VV
  grind
 generalize hT:a0*u+2*(a1*v)=T at *
 have hu:0≤(-65536*a1 - a0*a0)*(u*u):=Int.mul_nonneg hΔ (sq_nn u)
 have h4:-4*a1*VV a0 a1 u v ≤ -4*a1*M:=Int.mul_le_mul_of_nonneg_left hV (by omega)
 have hTT:T*T ≤ τ * τ := by omega
 have hT2:=sq_le hτ0 hTT
 have h5:-a1*VV a0 a1 u v ≤ -a1*M:=Int.mul_le_mul_of_nonneg_left hV (by omega)
 have h6:w*w≤W*W:=by
  have h1:0≤(W - w)*(W+w):=Int.mul_nonneg (by unfold iB at hw; omega) (by unfold iB at hw; omega)
  have h2:(W - w)*(W+w)=W*W - w*w:=by grind
  omega
 have h7:w*T≤W * τ := by
  have h1:0≤(W - w)*(τ + T):=Int.mul_nonneg (by unfold iB at hw; omega) (by omega)
  have h2:0≤(W+w)*(τ - T):=Int.mul_nonneg (by unfold iB at hw; omega) (by omega)
  have h3:(W - w)*(τ + T)+(W+w)*(τ - T)=2*(W * τ) - 2*(w*T):=by grind
  omega
 rw [Int.neg_mul,Int.neg_mul] at h5
 omega
theorem VV_bound {a0 a1 M U u v:Int} (hV:VV a0 a1 u v≤M) (ha:a1≤0) (hΔ:0 < -65536*a1 - a0*a0) (hU:0≤U) (h:-4*a1*M≤(-65536*a1 - a0*a0)*(U*U)):iB U u:=by
 have e3:(a0*u+2*(a1*v))*(a0*u+2*(a1*v))+(-65536*a1 - a0*a0)*(u*u) = -4*a1*VV a0 a1 u v:=by
  unfold VV
  grind
 have hT:0≤(a0*u+2*(a1*v))*(a0*u+2*(a1*v)):=sq_nn _
 have h4:-4*a1*VV a0 a1 u v ≤ -4*a1*M:=Int.mul_le_mul_of_nonneg_left hV (by omega)
 have h5:(-65536*a1 - a0*a0)*(u*u)≤(-65536*a1 - a0*a0)*(U*U):=by omega
 exact sq_le hU (Int.le_of_mul_le_mul_left h5 hΔ)
def ArOk (a0 a1 M:Int) (s:Int × Int):Prop := ∃ u v,s.1=wb (u*4) a0+wb (v*4) a1∧s.2=wb (u*4) a1∧VV a0 a1 u v≤M
def mAR (k:Nat):Int:=if k=34 then 182000000000000000000 else if k=23 then 207000000000000000000 else 276000000000000000000
theorem arS_ok {k:Nat} {s:Int × Int} {x:Int} (h:ArOk (tapsAR k).1 (tapsAR k).2 (mAR k) s) (hx:S16 x) :
 ArOk (tapsAR k).1 (tapsAR k).2 (mAR k) (arS (tapsAR k).1 (tapsAR k).2 s x).2∧iB 150000000 (arS (tapsAR k).1 (tapsAR k).2 s x).1:=by
 obtain ⟨u,v,h1,h2,h3⟩:=h
 have key:∀ (a0 a1 M τ:Int),s.1=wb (u*4) a0+wb (v*4) a1→s.2=wb (u*4) a1→VV a0 a1 u v≤M→a1≤0→0 < -65536*a1 - a0*a0→0 ≤ τ → -4*a1*M ≤ τ * τ →
  137438986240*137438986240+137438986240 * τ - a1*M≤16384*M → -4*a1*M≤(-65536*a1 - a0*a0)*(150000000*150000000) →
  ArOk a0 a1 M (arS a0 a1 s x).2∧iB 150000000 (arS a0 a1 s x).1:=by
  intro a0 a1 M τ h1 h2 h3 ha hΔ hτ0 hτ hM hU
  have w1:=wb_spec (u*4) a0
  have w2:=wb_spec (v*4) a1
  have e1:u*4*a0=4*(a0*u):=by grind
  have e2:v*4*a1=4*(a1*v):=by grind
  rw [e1] at w1
  rw [e2] at w2
  have hV:VV a0 a1 (s.1+x*256) u≤M:=by
   refine VV_step (W:=137438986240) (w:=16384*(s.1+x*256) - (a0*u+a1*v)) (τ := τ) ?_ (by omega) h3 ha (by omega) hτ0 hτ hM
   unfold iB
   unfold S16 at hx
   omega
  exact ⟨⟨s.1+x*256,u,by simp only [arS]; omega,rfl,hV⟩,VV_bound hV ha hΔ (by omega) hU⟩
 by_cases hk:k=34
 ·subst hk
  exact key _ _ _ 3180000000000 h1 h2 h3 (by decide) (by decide) (by decide) (by decide) (by decide) (by decide)
 by_cases hk2:k=23
 ·subst hk2
  exact key _ _ _ 3410000000000 h1 h2 h3 (by decide) (by decide) (by decide) (by decide) (by decide) (by decide)
 have e1:tapsAR k=(616,-14323):=by simp [tapsAR,hk,hk2]
 have e2:mAR k=276000000000000000000:=by simp [mAR,hk,hk2]
 rw [e1] at h1 h2 h3 ⊢
 rw [e2] at h3 ⊢
 exact key _ _ _ 3980000000000 h1 h2 h3 (by decide) (by decide) (by decide) (by decide) (by decide) (by decide)
theorem ar_s2 {k:Nat} {s:Int × Int} (h:ArOk (tapsAR k).1 (tapsAR k).2 (mAR k) s):∃ u,s.2=wb (u*4) (tapsAR k).2∧iB 150000000 u:=by
 obtain ⟨u,v,h1,h2,h3⟩:=h
 refine ⟨u,h2,?_⟩
 by_cases hk:k=34
 ·subst hk
  exact VV_bound h3 (by decide) (by decide) (by decide) (by decide)
 by_cases hk2:k=23
 ·subst hk2
  exact VV_bound h3 (by decide) (by decide) (by decide) (by decide)
 have e1:tapsAR k=(616,-14323):=by simp [tapsAR,hk,hk2]
 have e2:mAR k=276000000000000000000:=by simp [mAR,hk,hk2]
 rw [e1] at h3
 rw [e2] at h3
 exact VV_bound h3 (by decide) (by decide) (by decide) (by decide)
theorem ar_zero (k:Nat):ArOk (tapsAR k).1 (tapsAR k).2 (mAR k) (0,0):=by
 refine ⟨0,0,by simp [wb],by simp [wb],?_⟩
 have:VV (tapsAR k).1 (tapsAR k).2 0 0=0:=by simp [VV]
 rw [this]
 unfold mAR
 split
 ·decide
 split <;> decide
def cntI (lim r:Nat):Nat:=(lim+r - 1) / r
def firL (at_:List Int→Int→Int) (bits r lim:Nat) (buf:List Int):List Int :=
 (List.range (cntI lim r)).map fun k=>satI (rnd (at_ (buf.drop (k*r / 65536)) ((k*r % 65536:Nat):Int)) bits)
theorem cntI_lt {lim r k:Nat} (hr:0<r):k<cntI lim r↔k*r<lim:=by
 unfold cntI
 rw [Nat.lt_div_iff_mul_lt hr]
 omega
theorem firL_length (at_:List Int→Int→Int) (bits r lim:Nat) (buf:List Int):(firL at_ bits r lim buf).length=cntI lim r:=by simp [firL]
theorem firL_S16 (at_:List Int→Int→Int) (bits r lim:Nat) (buf:List Int):∀ y∈firL at_ bits r lim buf,S16 y:=by
 intro y hy
 simp only [firL,List.mem_map] at hy
 obtain ⟨k,_,rfl⟩:=hy
 exact satI_S16 _
def bat {σ:Type} (each:σ → List Int→List Int × σ) (scale c r bits:Nat) (at_:List Int→Int→Int):Nat → σ → List Int→List Int→List Int × σ × List Int
 | 0,z,fir,_=>([],z,fir)
 | n+1,z,fir,xs=>match xs with
  | []=>([],z,fir)
  | _::_ =>
   let m:=min xs.length c
   let e:=each z (xs.take m)
   let buf:=fir++e.1
   let rest:=bat each scale c r bits at_ n e.2 ((buf.drop (m*scale)).take fir.length) (xs.drop m)
   (firL at_ bits r (m*scale*65536) buf++rest.1,rest.2)
end Go.Proofs.YtbpogapddpacoaaGreatDoor
end
section
namespace Go.Proofs.YtbpogapddpacoaaGreatDoor
open Go Ieee
theorem log2_mul_pow (M j:Nat) (h:M≠0):(M*2 ^ j).log2=M.log2+j:=by
 have h2:M*2 ^ j≠0:=Nat.mul_ne_zero h (Nat.ne_of_gt (Nat.two_pow_pos j))
 have a:=Nat.log2_self_le h
 have b:=Nat.lt_log2_self (n:=M)
 apply Nat.le_antisymm
 ·have:(M*2 ^ j).log2<M.log2+1+j:=by
   rw [Nat.log2_lt h2,Nat.pow_add]
   exact Nat.mul_lt_mul_of_pos_right b (Nat.two_pow_pos j)
  omega
 rw [Nat.le_log2 h2,Nat.pow_add]
 exact Nat.mul_le_mul_right _ a
theorem near_exact (f:Format) (neg:Bool) (M j:Nat) (p:Int) (hM:M≠0) (hL:M.log2≤f.fractionBits) (h1:f.leastPlace≤p+j+M.log2 - f.fractionBits)
 (h2:(p+j+M.log2 - f.fractionBits - f.leastPlace).toNat+2≤2 ^ f.exponentBits - 1) :
 f.nearest neg (M*2 ^ j) p=f.word neg ((p+j+M.log2 - f.fractionBits - f.leastPlace).toNat*2 ^ f.fractionBits+M*2 ^ (f.fractionBits - M.log2)):=by
 have hne:M*2 ^ j≠0:=Nat.mul_ne_zero hM (Nat.ne_of_gt (Nat.two_pow_pos j))
 have hlog:=log2_mul_pow M j hM
 have hup:M*2 ^ (f.fractionBits - M.log2)<2 ^ (f.fractionBits+1):=by
  have b:=Nat.lt_log2_self (n:=M)
  have:M*2 ^ (f.fractionBits - M.log2)<2 ^ (M.log2+1)*2 ^ (f.fractionBits - M.log2):=Nat.mul_lt_mul_of_pos_right b (Nat.two_pow_pos _)
  rw [← Nat.pow_add] at this
  rwa [show M.log2+1+(f.fractionBits - M.log2)=f.fractionBits+1 by omega] at this
 unfold Format.nearest
 rw [if_neg hne,hlog]
 generalize hl:f.leastPlace=lp at *
 have hlast:max (p+((M.log2+j:Nat):Int) - f.fractionBits) lp=p+j+M.log2 - f.fractionBits:=by omega
 simp only [hlast]
 generalize hk:(p+j+M.log2 - f.fractionBits - lp).toNat=k at *
 have hkept:Toward.even.cut neg ((M*2 ^ j) <<< (p - (p+j+M.log2 - f.fractionBits)).toNat) ((p+j+M.log2 - f.fractionBits) - p).toNat=M*2 ^ (f.fractionBits - M.log2):=by
  rw [Nat.shiftLeft_eq]
  unfold Toward.cut
  rcases Nat.le_total (M.log2+j) f.fractionBits with hc | hc
  ·have e1:(p - (p+j+M.log2 - f.fractionBits)).toNat=f.fractionBits - (M.log2+j):=by omega
   have e2:((p+j+M.log2 - f.fractionBits) - p).toNat=0:=by omega
   rw [e1,e2,Nat.mul_assoc,← Nat.pow_add,show j+(f.fractionBits - (M.log2+j))=f.fractionBits - M.log2 by omega]
   simp [Nat.mod_one]
  have e1:(p - (p+j+M.log2 - f.fractionBits)).toNat=0:=by omega
  have e2:((p+j+M.log2 - f.fractionBits) - p).toNat=M.log2+j - f.fractionBits:=by omega
  rw [e1,e2]
  simp only [Nat.pow_zero,Nat.mul_one,hlog,show min (M.log2+j - f.fractionBits) (M.log2+j+2)=M.log2+j - f.fractionBits by omega,Nat.one_shiftLeft]
  have e3:M*2 ^ j=M*2 ^ (f.fractionBits - M.log2)*2 ^ (M.log2+j - f.fractionBits):=by
   rw [Nat.mul_assoc,← Nat.pow_add]
   congr 2
   omega
  have hp:=Nat.two_pow_pos (M.log2+j - f.fractionBits)
  rw [e3,Nat.mul_div_cancel _ hp,Nat.mul_mod_left]
  generalize 2 ^ (M.log2+j - f.fractionBits)=g at *
  have h5:decide (g<2*0)=false:=by simp
  have h6:(g == 2*0)=false:=by simp; omega
  rw [h5,h6]
  simp
 rw [hkept]
 congr 1
 apply Nat.min_eq_left
 unfold Format.infRung Format.binade
 rw [Nat.pow_succ] at hup
 have h3:(k+2)*2 ^ f.fractionBits≤(2 ^ f.exponentBits - 1)*2 ^ f.fractionBits:=Nat.mul_le_mul_right _ h2
 rw [Nat.add_mul] at h3
 omega
theorem read_exact (f:Format) (neg:Bool) (M k:Nat) (hM:M≠0) (hL:M.log2≤f.fractionBits) (h2:k+2≤2 ^ f.exponentBits - 1) :
 f.read (f.word neg (k*2 ^ f.fractionBits+M*2 ^ (f.fractionBits - M.log2))) = .number neg (M*2 ^ (f.fractionBits - M.log2)) (f.leastPlace+k):=by
 have hup:M*2 ^ (f.fractionBits - M.log2)<2 ^ (f.fractionBits+1):=by
  have b:=Nat.lt_log2_self (n:=M)
  have:M*2 ^ (f.fractionBits - M.log2)<2 ^ (M.log2+1)*2 ^ (f.fractionBits - M.log2):=Nat.mul_lt_mul_of_pos_right b (Nat.two_pow_pos _)
  rw [← Nat.pow_add] at this
  rwa [show M.log2+1+(f.fractionBits - M.log2)=f.fractionBits+1 by omega] at this
 have hlo:2 ^ f.fractionBits≤M*2 ^ (f.fractionBits - M.log2):=by
  have a:=Nat.log2_self_le hM
  have:2 ^ M.log2*2 ^ (f.fractionBits - M.log2)≤M*2 ^ (f.fractionBits - M.log2):=Nat.mul_le_mul_right _ a
  rw [← Nat.pow_add] at this
  rwa [show M.log2+(f.fractionBits - M.log2)=f.fractionBits by omega] at this
 generalize M*2 ^ (f.fractionBits - M.log2)=m at *
 rw [Nat.pow_succ] at hup
 have h3:(k+2)*2 ^ f.fractionBits≤(2 ^ f.exponentBits - 1)*2 ^ f.fractionBits:=Nat.mul_le_mul_right _ h2
 rw [Nat.add_mul] at h3
 have hsw:(2 ^ f.exponentBits - 1)*2 ^ f.fractionBits+2 ^ f.fractionBits=f.signWeight:=by
  unfold Format.signWeight
  rw [Nat.pow_add,Nat.sub_mul]
  have:=Nat.mul_le_mul_right (2 ^ f.fractionBits) (Nat.one_le_two_pow (n:=f.exponentBits))
  omega
 have hb:=Nat.two_pow_pos f.fractionBits
 have hneg:(f.word neg (k*2 ^ f.fractionBits+m) / f.signWeight % 2 == 1)=neg:=by
  unfold Format.word
  cases neg with
  | true =>
   simp only [if_true]
   rw [Nat.add_div_left _ (by omega),Nat.div_eq_of_lt (by omega)]
   rfl
  | false =>
   rw [if_neg (by simp),Nat.div_eq_of_lt (by omega)]
   rfl
 have hrung:f.word neg (k*2 ^ f.fractionBits+m) % f.signWeight=k*2 ^ f.fractionBits+m:=by
  unfold Format.word
  cases neg with
  | true =>
   simp only [if_true]
   rw [Nat.add_mod_left,Nat.mod_eq_of_lt (by omega)]
  | false =>
   rw [if_neg (by simp),Nat.mod_eq_of_lt (by omega)]
 unfold Format.read
 simp only [hneg,hrung]
 have hbd:f.binade=2 ^ f.fractionBits:=rfl
 have hir:f.infRung=(2 ^ f.exponentBits - 1)*2 ^ f.fractionBits:=rfl
 rw [hbd,hir,if_neg (by omega),if_pos (by omega)]
 have e1:(k*2 ^ f.fractionBits+m) % 2 ^ f.fractionBits=m - 2 ^ f.fractionBits:=by
  rw [Nat.add_comm,Nat.add_mul_mod_self_right,Nat.mod_eq_sub_mod hlo,Nat.mod_eq_of_lt (by omega)]
 have e2:(k*2 ^ f.fractionBits+m) / 2 ^ f.fractionBits=k+1:=by
  rw [Nat.add_comm,Nat.add_mul_div_right _ _ hb,Nat.div_eq_sub_div hb hlo,Nat.div_eq_of_lt (by omega)]
  omega
 rw [e1,e2]
 congr 1
 omega
def n32 (n:Int):Nat:=FloatKind.f32.nearest n
def n64 (n:Int):Nat:=FloatKind.f64.nearest n
def F32 (n:Int):Nat:=single.nearest (n<0) n.natAbs (-15)
theorem sm (n:Int):(if (decide (n<0))=true then -((n.natAbs:Nat):Int) else ((n.natAbs:Nat):Int))=n:=by
 split
 ·rename_i h
  simp at h
  omega
 rename_i h
 simp at h
 omega
theorem log15 {M:Nat} (h:M≤32768) (h0:M≠0):M.log2≤15:=by
 have:M.log2<16:=by rw [Nat.log2_lt h0]; omega
 omega
section
variable {n:Int}
theorem r32 (hn:n≠0) (h:n.natAbs≤32768) (p:Int) (hp:p=0∨p = -15) :
 single.read (single.nearest (n<0) n.natAbs p) = .number (n<0) (n.natAbs*2 ^ (23 - n.natAbs.log2)) (p+n.natAbs.log2 - 23) ∧
 ∀ (j:Nat) (q:Int),q+j=p→single.nearest (n<0) (n.natAbs*2 ^ j) q=single.nearest (n<0) n.natAbs p:=by
 have h0:n.natAbs≠0:=by omega
 have hl:=log15 h h0
 have hb:single.fractionBits=23:=rfl
 have hp':single.leastPlace = -149:=by decide
 have hx:2 ^ single.exponentBits - 1=255:=by decide
 have key:∀ (j:Nat) (q:Int),q+j=p→single.nearest (n<0) (n.natAbs*2 ^ j) q=single.word (n<0) ((p+n.natAbs.log2 - 23+149).toNat*2 ^ 23+n.natAbs*2 ^ (23 - n.natAbs.log2)):=by
  intro j q hq
  have:=near_exact single (n<0) n.natAbs j q h0 (by rw [hb]; omega) (by rw [hb,hp']; omega) (by rw [hb,hp',hx]; omega)
  rw [hb,hp'] at this
  rw [this]
  congr 3
  omega
 have k0:=key 0 p (by simp)
 rw [Nat.pow_zero,Nat.mul_one] at k0
 refine ⟨?_,fun j q hq=>by rw [key j q hq,k0]⟩
 rw [k0]
 have:=read_exact single (n<0) n.natAbs (p+n.natAbs.log2 - 23+149).toNat h0 (by rw [hb]; omega) (by rw [hx]; omega)
 rw [hb,hp'] at this
 rw [this]
 congr 1
 omega
theorem r64 (hn:n≠0) (h:n.natAbs≤32768) :
 double.read (double.nearest (n<0) n.natAbs 0) = .number (n<0) (n.natAbs*2 ^ (52 - n.natAbs.log2)) (n.natAbs.log2 - 52) ∧
 (∀ (j:Nat) (q:Int),q+j=0→double.nearest (n<0) (n.natAbs*2 ^ j) q=double.nearest (n<0) n.natAbs 0) ∧
 double.nearest (n<0) n.natAbs 0=(if n<0 then 9223372036854775808 else 0)+((n.natAbs.log2+1022)*2 ^ 52+n.natAbs*2 ^ (52 - n.natAbs.log2)):=by
 have h0:n.natAbs≠0:=by omega
 have hl:=log15 h h0
 have hb:double.fractionBits=52:=rfl
 have hp':double.leastPlace = -1074:=by decide
 have hx:2 ^ double.exponentBits - 1=2047:=by decide
 have key:∀ (j:Nat) (q:Int),q+j=0→double.nearest (n<0) (n.natAbs*2 ^ j) q=double.word (n<0) ((n.natAbs.log2+1022)*2 ^ 52+n.natAbs*2 ^ (52 - n.natAbs.log2)):=by
  intro j q hq
  have:=near_exact double (n<0) n.natAbs j q h0 (by rw [hb]; omega) (by rw [hb,hp']; omega) (by rw [hb,hp',hx]; omega)
  rw [hb,hp'] at this
  rw [this]
  congr 3
  omega
 have k0:=key 0 0 (by simp)
 rw [Nat.pow_zero,Nat.mul_one] at k0
 refine ⟨?_,fun j q hq=>by rw [key j q hq,k0],?_⟩
 ·rw [k0]
  have:=read_exact double (n<0) n.natAbs (n.natAbs.log2+1022) h0 (by rw [hb]; omega) (by rw [hx]; omega)
  rw [hb,hp'] at this
  rw [this,show (-1074:Int)+((n.natAbs.log2+1022:Nat):Int)=n.natAbs.log2 - 52 by omega]
 rw [k0]
 unfold Format.word
 have hw:double.signWeight=9223372036854775808:=by decide +kernel
 rw [hw]
 by_cases h:n<0
 ·simp [h]
 simp [h]
theorem n32_eq:n32 n=single.nearest (n<0) n.natAbs 0:=rfl
theorem n64_eq:n64 n=double.nearest (n<0) n.natAbs 0:=rfl
theorem f_div (h:n.natAbs≤32768):single.div (n32 n) 1191182336=some (F32 n):=by
 by_cases hn:n=0
 ·subst hn
  decide +kernel
 have h0:n.natAbs≠0:=by omega
 have hl:=log15 h h0
 have hr:single.read 1191182336 = .number false 8388608 (-8):=by decide +kernel
 unfold Format.div
 rw [n32_eq,(r32 hn h 0 (.inl rfl)).1,hr]
 have hlog:(n.natAbs*2 ^ (23 - n.natAbs.log2)).log2=23:=by rw [log2_mul_pow _ _ h0]; omega
 have hlog2:(8388608:Nat).log2=23:=by decide +kernel
 unfold Datum.quotient
 simp only [hlog,hlog2,show single.fractionBits+2+23 - 23=25 from rfl]
 rw [if_neg (by omega)]
 have hd:(n.natAbs*2 ^ (23 - n.natAbs.log2)) <<< 25=n.natAbs*2 ^ (23 - n.natAbs.log2)*4*8388608:=by rw [Nat.shiftLeft_eq]; omega
 rw [hd,Nat.mul_mod_left,Nat.mul_div_cancel _ (by omega)]
 simp only [Option.map_some,Format.write,Bool.xor_false,bne_self_eq_false,Bool.toNat_false,Nat.add_zero]
 have hm:2*(n.natAbs*2 ^ (23 - n.natAbs.log2)*4)=n.natAbs*2 ^ (26 - n.natAbs.log2):=by
  rw [show 26 - n.natAbs.log2=(23 - n.natAbs.log2)+3 by omega,Nat.pow_add]
  generalize 2 ^ (23 - n.natAbs.log2)=g
  have e8:n.natAbs*(g*2 ^ 3)=n.natAbs*g*8:=(Nat.mul_assoc ..).symm
  rw [e8]
  omega
 rw [hm]
 unfold F32
 rw [(r32 hn h (-15) (.inr rfl)).2 _ _ (by omega)]
theorem f_mul (h:n.natAbs≤32768):single.mul (F32 n) 1191182336=some (n32 n):=by
 by_cases hn:n=0
 ·subst hn
  decide +kernel
 have h0:n.natAbs≠0:=by omega
 have hl:=log15 h h0
 have hr:single.read 1191182336 = .number false 8388608 (-8):=by decide +kernel
 unfold Format.mul F32
 rw [(r32 hn h (-15) (.inr rfl)).1,hr]
 simp only [Datum.product,Option.map_some,Format.write,Bool.xor_false]
 have hm:n.natAbs*2 ^ (23 - n.natAbs.log2)*8388608=n.natAbs*2 ^ (46 - n.natAbs.log2):=by
  rw [show 46 - n.natAbs.log2=(23 - n.natAbs.log2)+23 by omega,Nat.pow_add,Nat.mul_assoc]
 rw [hm,n32_eq,(r32 hn h 0 (.inl rfl)).2 _ _ (by omega)]
theorem f_wide (h:n.natAbs≤32768):∃ s m e,FloatKind.f32.decode (n32 n) = .number s m e∧FloatKind.f64.encode (.number s m e)=n64 n∧(FloatKind.f64.decode (n64 n)).isInfinity=false:=by
 by_cases hn:n=0
 ·subst hn
  exact ⟨false,0,-149,by decide +kernel,by decide +kernel,by decide +kernel⟩
 have h0:n.natAbs≠0:=by omega
 have hl:=log15 h h0
 refine ⟨_,_,_,(r32 hn h 0 (.inl rfl)).1,?_,?_⟩
 ·show double.nearest _ _ _=_
  rw [n64_eq,(r64 hn h).2.1 _ _ (by omega)]
 show (double.read (n64 n)).isInfinity=false
 rw [n64_eq,(r64 hn h).1]
 rfl
theorem cut_zero (s:Bool) (M j:Nat) (h0:M≠0):Toward.zero.cut s (M*2 ^ j) j=M:=by
 unfold Toward.cut
 rw [log2_mul_pow _ _ h0]
 simp only [Nat.one_shiftLeft,show min j (M.log2+j+2)=j by omega,Bool.toNat_false,Nat.add_zero]
 exact Nat.mul_div_cancel _ (Nat.two_pow_pos j)
theorem f_int32 (h:n.natAbs≤32768):(FloatKind.f32.decode (n32 n)).toInt .zero=some n:=by
 by_cases hn:n=0
 ·subst hn
  decide +kernel
 have h0:n.natAbs≠0:=by omega
 have hl:=log15 h h0
 show (single.read (n32 n)).toInt .zero=some n
 rw [n32_eq,(r32 hn h 0 (.inl rfl)).1]
 unfold Datum.toInt Datum.integral
 simp only [show ((0:Int)+n.natAbs.log2 - 23).toNat=0 by omega,Nat.shiftLeft_zero,show (-((0:Int)+n.natAbs.log2 - 23)).toNat=23 - n.natAbs.log2 by omega]
 rw [cut_zero _ _ _ h0]
 unfold signed
 rw [Nat.shiftLeft_zero,sm]
theorem f_int64 (h:n.natAbs≤32768):(FloatKind.f64.decode (n64 n)).toInt .zero=some n:=by
 by_cases hn:n=0
 ·subst hn
  decide +kernel
 have h0:n.natAbs≠0:=by omega
 have hl:=log15 h h0
 show (double.read (n64 n)).toInt .zero=some n
 rw [n64_eq,(r64 hn h).1]
 unfold Datum.toInt Datum.integral
 simp only [show ((n.natAbs.log2:Int) - 52).toNat=0 by omega,Nat.shiftLeft_zero,show (-((n.natAbs.log2:Int) - 52)).toNat=52 - n.natAbs.log2 by omega]
 rw [cut_zero _ _ _ h0]
 unfold signed
 rw [Nat.shiftLeft_zero,sm]
theorem f_order (h:n.natAbs≤32768) {k:Int} (hk:k = -32768∨k=32767):double.order (n64 n) (n64 k)=some (compare n k):=by
 by_cases hn:n=0
 ·subst hn
  rcases hk with rfl | rfl <;> decide +kernel
 have h0:n.natAbs≠0:=by omega
 have hl:=log15 h h0
 have e1:=(r64 hn h).1
 have e2:=(r64 (n:=k) (by omega) (by omega)).1
 have hlk:k.natAbs.log2≤15:=log15 (by omega) (by omega)
 have hlk2:14≤k.natAbs.log2:=by
  rcases hk with rfl | rfl <;> decide +kernel
 unfold Format.order
 rw [n64_eq,n64_eq,e1,e2]
 unfold Datum.order
 simp only
 congr 1
 have hs:∀ (m:Int) (b:Nat),m.natAbs≠0→m.natAbs.log2≤15→b≤m.natAbs.log2→signed (m<0) (m.natAbs*2 ^ (52 - m.natAbs.log2)) (((m.natAbs.log2:Int) - 52 - ((b:Int) - 52)).toNat)=m*2 ^ (52 - b):=by
  intro m b hm hml hb
  unfold signed
  rw [Nat.shiftLeft_eq,Nat.mul_assoc,← Nat.pow_add,show 52 - m.natAbs.log2+((m.natAbs.log2:Int) - 52 - ((b:Int) - 52)).toNat=52 - b by omega]
  have:=sm m
  generalize 52 - b=t
  rw [Int.natCast_mul,← Int.neg_mul]
  have e:((2 ^ t:Nat):Int)=2 ^ t:=by simp
  rw [e]
  split at this <;> rename_i hc
  ·rw [if_pos hc,this]
  rw [if_neg hc,this]
 obtain ⟨b,hb1,hb2,hbe⟩:∃ b:Nat,b≤n.natAbs.log2∧b≤k.natAbs.log2∧min ((n.natAbs.log2:Int) - 52) ((k.natAbs.log2:Int) - 52)=(b:Int) - 52:=⟨min n.natAbs.log2 k.natAbs.log2,by omega,by omega,by omega⟩
 rw [hbe,hs n b h0 hl hb1,hs k b (by omega) hlk hb2]
 have hp:(0:Int)<2 ^ (52 - b):=Int.pow_pos (by omega)
 generalize (2:Int) ^ (52 - b)=g at hp
 simp only [compare,compareOfLessAndEq]
 have a1:(n*g<k*g)=(n<k):=by
  apply propext
  exact ⟨fun h=>Int.lt_of_mul_lt_mul_right h (by omega),fun h=>Int.mul_lt_mul_of_pos_right h hp⟩
 have a2:(n*g=k*g)=(n=k):=by
  apply propext
  exact ⟨fun h=>Int.eq_of_mul_eq_mul_right (by omega) h,fun h=>by rw [h]⟩
 simp only [a1,a2]
end
end Go.Proofs.YtbpogapddpacoaaGreatDoor
end
section
namespace Go.Proofs.YtbpogapddpacoaaGreatDoor
open Go Go.Vc
set_option maxRecDepth 100000
set_option maxHeartbeats 8000000
theorem ext_ok {f:FuncId} {fn:Func} {e:Array Value→Sem Value} {v r:Value} (hf:Tryz.prog.funcs[f]? = some fn) (hname:(fn.name == "runtime.NumGoroutine")=false) (hb:fn.body.isNone=true) (hn:Extern.findNext fn=none) (he:Extern.find fn=some e)
 (hr:∀ (P:Program) w,(e #[v]).run P w = .ok r w) (h1:r.oneCell'=true):ExtOk Tryz.prog f v r:=by
 refine ⟨h1,fun w => ?_⟩
 rw [run_callFunc_extern hf hname hb hn he]
 simp [hr]
theorem f64b_ok (b:Nat):ExtOk Tryz.prog 92 (.float .f64 b) (.int .u64 b):=by
 obtain ⟨fn,hf,hname,hb,hn,he⟩:∃ fn,Tryz.prog.funcs[92]? = some fn∧(fn.name == "runtime.NumGoroutine")=false∧fn.body.isNone=true∧Extern.findNext fn=none∧Extern.find fn=some Extern.MathFloatBits.float64bits:=⟨_,rfl,by kernel_rfl,by kernel_rfl,by kernel_rfl,by kernel_rfl⟩
 exact ext_ok hf hname hb hn he (fun P w=>rfl) rfl
theorem b64f_ok (b:Nat):ExtOk Tryz.prog 93 (.int .u64 b) (.float .f64 b):=by
 obtain ⟨fn,hf,hname,hb,hn,he⟩:∃ fn,Tryz.prog.funcs[93]? = some fn∧(fn.name == "runtime.NumGoroutine")=false∧fn.body.isNone=true∧Extern.findNext fn=none∧Extern.find fn=some Extern.MathFloatBits.float64frombits:=⟨_,rfl,by kernel_rfl,by kernel_rfl,by kernel_rfl,by kernel_rfl⟩
 exact ext_ok hf hname hb hn he (fun P w=>rfl) rfl
theorem andnot64 (x j:Nat) (hx:x<18446744073709551616) (hj:j≤64):(BitVec.ofNat 64 x &&& ~~~(BitVec.ofNat 64 (2 ^ j - 1))).toNat=x / 2 ^ j*2 ^ j:=by
 apply Nat.eq_of_testBit_eq
 intro i
 have h2:2 ^ j≤2 ^ 64:=Nat.pow_le_pow_right (by omega) hj
 have h3:2 ^ j - 1<2 ^ 64:=by have:=Nat.two_pow_pos j; omega
 rw [BitVec.toNat_and,BitVec.toNat_not,BitVec.toNat_ofNat,BitVec.toNat_ofNat,Nat.mod_eq_of_lt hx,Nat.mod_eq_of_lt h3,Nat.testBit_and]
 rw [show 2 ^ 64 - 1 - (2 ^ j - 1)=2 ^ 64 - ((2 ^ j - 1)+1) by omega,Nat.testBit_two_pow_sub_succ h3,Nat.testBit_two_pow_sub_one,Nat.testBit_mul_two_pow,Nat.testBit_div_two_pow]
 by_cases h:j≤i
 ·have h4:¬ i<j:=by omega
  simp only [h,decide_true,Bool.true_and,h4,decide_false,Bool.not_false,Bool.and_true,Nat.sub_add_cancel h]
  by_cases h5:i<64
  ·simp [h5]
  have:x.testBit i=false:=Nat.testBit_lt_two_pow (by have h6:2 ^ 64≤2 ^ i:=Nat.pow_le_pow_right (by omega) (by omega); omega)
  simp [this]
 have h4:i<j:=by omega
 simp [h,h4]
theorem halves:∀ L:Nat,L<16→2251799813685248 / 2 ^ L=2 ^ (51 - L)∧4503599627370495 / 2 ^ L=2 ^ (52 - L) - 1:=by decide +kernel
theorem d64 {n:Int} (hn:n≠0) (h:S16 n):∃ L q,L<16∧n64 n=q*2 ^ (52 - L)∧n64 n / 2 ^ 52 % 2048=L+1023∧n64 n+2 ^ 52<18446744073709551616:=by
 have ha:n.natAbs≤32768:=by unfold S16 at h; omega
 have h0:n.natAbs≠0:=by omega
 have hl:=log15 ha h0
 have e:=(r64 hn ha).2.2
 rw [← n64_eq] at e
 refine ⟨n.natAbs.log2,(if n<0 then 9223372036854775808 / 2 ^ (52 - n.natAbs.log2) else 0)+((n.natAbs.log2+1022)*2 ^ n.natAbs.log2+n.natAbs),by omega,?_,?_,?_⟩
 ·have h52:(n.natAbs.log2+1022)*2 ^ 52=(n.natAbs.log2+1022)*2 ^ n.natAbs.log2*2 ^ (52 - n.natAbs.log2):=by
   rw [Nat.mul_assoc,← Nat.pow_add,show n.natAbs.log2+(52 - n.natAbs.log2)=52 by omega]
  rw [e,h52]
  generalize (n.natAbs.log2+1022)*2 ^ n.natAbs.log2=w
  rw [Nat.add_mul,Nat.add_mul]
  congr 1
  split
  ·rw [Nat.div_mul_cancel]
   exact Nat.dvd_trans (Nat.pow_dvd_pow 2 (show 52 - n.natAbs.log2≤63 by omega)) (by decide)
  rw [Nat.zero_mul]
 ·have a:=Nat.log2_self_le h0
  have b:=Nat.lt_log2_self (n:=n.natAbs)
  have lo:2 ^ 52≤n.natAbs*2 ^ (52 - n.natAbs.log2):=by
   have:=Nat.mul_le_mul_right (2 ^ (52 - n.natAbs.log2)) a
   rwa [← Nat.pow_add,show n.natAbs.log2+(52 - n.natAbs.log2)=52 by omega] at this
  have hi:n.natAbs*2 ^ (52 - n.natAbs.log2)<2 ^ 53:=by
   have:=Nat.mul_lt_mul_of_pos_right b (Nat.two_pow_pos (52 - n.natAbs.log2))
   rwa [← Nat.pow_add,show n.natAbs.log2+1+(52 - n.natAbs.log2)=53 by omega] at this
  rw [e]
  generalize n.natAbs*2 ^ (52 - n.natAbs.log2)=m at *
  split <;> omega
 have b:=Nat.lt_log2_self (n:=n.natAbs)
 have hi:n.natAbs*2 ^ (52 - n.natAbs.log2)<2 ^ 53:=by
  have:=Nat.mul_lt_mul_of_pos_right b (Nat.two_pow_pos (52 - n.natAbs.log2))
  rwa [← Nat.pow_add,show n.natAbs.log2+1+(52 - n.natAbs.log2)=53 by omega] at this
 rw [e]
 generalize n.natAbs*2 ^ (52 - n.natAbs.log2)=m at *
 split <;> omega
theorem n64_zero:n64 0=0:=by decide +kernel
theorem roundW (w0:World) {n:Int} (hn:S16 n):CallsA Tryz.prog w0 66 [.c (.val (.float .f64 (n64 n)))] [] fun r H=>r = .o (.c (.val (.float .f64 (n64 n))))∧H=[]:=by
 by_cases h0:n=0
 ·subst h0
  rw [n64_zero]
  refine callsA_of_ev c66_ ?_
  conv=>whnf
  refine ⟨_,f64b_ok _,?_⟩
  conv=>whnf
  refine Or.inl ?_
  conv=>whnf
  refine ⟨fun g => ?_,fun g => ?_⟩
  ·conv=>whnf
   refine ⟨fun g2 => ?_,fun g2 => ?_⟩
   ·exact absurd (of_decide_eq_true g2) (by decide)
   conv=>whnf
   refine ⟨_,b64f_ok _,?_⟩
   conv=>whnf
   exact Or.inl ⟨congrArg (fun z=>AV.o (.c (.val (.float .f64 z)))) (by decide +kernel),rfl⟩
  exact absurd (of_decide_eq_false g) (by decide)
 obtain ⟨L,q,hL,hq,he,hx⟩:=d64 h0 hn
 have hE:IntKind.u64.wrap ((BitVec.ofInt IntKind.u64.bits ((((n64 n:Nat):Int)).fdiv (2 ^ min 52 IntKind.u64.bits)) &&& BitVec.ofInt IntKind.u64.bits ((2047:Nat):Int)).toNat:Int)=((L+1023:Nat):Int):=by
  rw [show min 52 IntKind.u64.bits=52 from rfl,nfdiv,nand64 (by omega) (by omega)]
  rw [show 2047=2 ^ 11 - 1 from rfl,Nat.and_two_pow_sub_one_eq_mod]
  congr 1
 have h1:IntKind.u64.wrap (((L+1023:Nat):Int) - ((1023:Nat):Int))=(L:Int):=by
  rw [IntKind.wrap_u64]
  omega
 have hF:IntKind.u64.wrap ((BitVec.ofInt IntKind.u64.bits (IntKind.u64.wrap (((n64 n:Nat):Int)+((2251799813685248:Nat):Int).fdiv (2 ^ min ((L:Int)).toNat IntKind.u64.bits))) &&&
  ~~~BitVec.ofInt IntKind.u64.bits (((4503599627370495:Nat):Int).fdiv (2 ^ min ((L:Int)).toNat IntKind.u64.bits))).toNat:Int)=((n64 n:Nat):Int):=by
  obtain ⟨e1,e2⟩:=halves L hL
  have e3:min ((L:Int)).toNat IntKind.u64.bits=L:=by
   show min L 64=L
   omega
  have e5:2 ^ (51 - L)≤2 ^ 51:=Nat.pow_le_pow_right (by omega) (by omega)
  rw [e3,nfdiv,nfdiv,e1,e2,← Int.natCast_add,nwrap64 (n:=n64 n+2 ^ (51 - L)) (by omega),ofInt_nat,ofInt_nat]
  have e4:=andnot64 (n64 n+2 ^ (51 - L)) (52 - L) (by omega) (by omega)
  rw [show IntKind.u64.bits=64 from rfl,e4,hq]
  have hp:=Nat.two_pow_pos (52 - L)
  have e6:2 ^ (51 - L)<2 ^ (52 - L):=Nat.pow_lt_pow_right (by omega) (by omega)
  rw [Nat.add_comm,Nat.add_mul_div_right _ _ hp,Nat.div_eq_of_lt e6,Nat.zero_add,← hq,nwrap64 (n:=n64 n) (by omega)]
 refine callsA_of_ev c66_ ?_
 conv=>whnf
 refine ⟨_,f64b_ok _,?_⟩
 conv=>whnf
 refine Or.inl ?_
 conv=>whnf
 rw [hE]
 refine ⟨fun g => ?_,fun g => ?_⟩
 ·exact absurd (of_decide_eq_true g) (by omega)
 conv=>whnf
 refine ⟨fun g2 => ?_,fun g2 => ?_⟩
 ·conv=>whnf
  rw [h1]
  refine ⟨Int.natCast_nonneg L,?_⟩
  conv=>whnf
  refine ⟨Int.natCast_nonneg L,?_⟩
  conv=>whnf
  rw [hF]
  refine ⟨_,b64f_ok _,?_⟩
  conv=>whnf
  exact Or.inl ⟨rfl,rfl⟩
 exact absurd (of_decide_eq_false g2) (by omega)
theorem callV {P:Program} {w0:World} {f:FuncId} {args:List A1} {H:List Blk} {R:AV→List Blk→Prop} {x:Value} (h:CallsA P w0 f args [] fun r H=>r = .o (.c (.val x))∧H=[]) (hargs:args.map (A1.ren [])=args) (hR:R (.o (.c (.val x))) H) :
 CallsA P w0 f args H R:=CallsA.lift (H0:=[]) [] rfl trivial hargs h (by
 rintro _ _ ⟨rfl,rfl⟩
 show R (.o (.c (.val x))) (H++[])
 rw [List.append_nil]
 exact hR)
theorem wi32 {n:Int} (h:-2147483648≤n∧n≤2147483647):IntKind.i32.wrap n=n:=by rw [IntKind.wrap_i32]; omega
theorem wi64 {n:Int} (h:-9223372036854775808≤n∧n≤9223372036854775807):IntKind.i64.wrap n=n:=by rw [IntKind.wrap_i64]; omega
theorem wrap_i16 (n:Int):IntKind.i16.wrap n=(n+32768) % 65536 - 32768:=by
 simp [IntKind.wrap,IntKind.bits,IntKind.signed]
 split <;> omega
theorem wi16 {n:Int} (h:S16 n):IntKind.i16.wrap n=n:=by rw [wrap_i16]; unfold S16 at h; omega
theorem wi16_ok (n:Int):S16 (IntKind.i16.wrap n):=by rw [wrap_i16]; unfold S16; omega
theorem mul_bd {x y X Y:Int} (hx:iB X x) (hy:iB Y y):iB (X*Y) (x*y):=by
 unfold iB at *
 have h1:0≤(X - x)*(Y+y):=Int.mul_nonneg (by omega) (by omega)
 have h2:0≤(X+x)*(Y - y):=Int.mul_nonneg (by omega) (by omega)
 have h3:0≤(X - x)*(Y - y):=Int.mul_nonneg (by omega) (by omega)
 have h4:0≤(X+x)*(Y+y):=Int.mul_nonneg (by omega) (by omega)
 have e1:(X - x)*(Y+y)+(X+x)*(Y - y)=2*(X*Y) - 2*(x*y):=by grind
 have e2:(X - x)*(Y - y)+(X+x)*(Y+y)=2*(X*Y)+2*(x*y):=by grind
 omega
theorem wb_bd {a b A:Int} (ha:iB A a) (hb:S16 b):iB (A / 2+1) (wb a b):=by
 have h:=mul_bd ha (show iB 32768 b by unfold S16 at hb; unfold iB; omega)
 have:=wb_spec a b
 unfold iB at *
 omega
def I32 (a:Int):Prop := -2147483648≤a∧a≤2147483647
theorem mulWB_eq {a b:Int} (ha:I32 a):IntKind.i32.wrap (IntKind.i32.wrap (a.fdiv (2 ^ min 16 IntKind.i32.bits)*IntKind.i32.wrap (IntKind.i16.wrap b)) +
 IntKind.i32.wrap ((IntKind.i64.wrap (IntKind.i64.wrap (IntKind.i32.wrap (IntKind.u32.wrap ((BitVec.ofInt IntKind.u32.bits (IntKind.u32.wrap a) &&& BitVec.ofInt IntKind.u32.bits ((65535:Nat):Int)).toNat:Int))) *
  IntKind.i64.wrap (IntKind.i32.wrap (IntKind.i16.wrap b)))).fdiv (2 ^ min 16 IntKind.i64.bits)))=wb a (IntKind.i16.wrap b):=by
 have hB:=wi16_ok b
 generalize IntKind.i16.wrap b=B at *
 unfold I32 at ha
 unfold S16 at hB
 obtain ⟨n,hn⟩:∃ n:Nat,IntKind.u32.wrap a=(n:Int):=by
  rw [IntKind.wrap_u32]
  exact ⟨(a % 4294967296).toNat,by omega⟩
 have hn2:(n:Int)=a % 4294967296:=by rw [← hn,IntKind.wrap_u32]
 rw [hn,nand32 (by omega) (by omega)]
 rw [show 65535=2 ^ 16 - 1 from rfl,Nat.and_two_pow_sub_one_eq_mod]
 have hal:((n % 2 ^ 16:Nat):Int)=a % 65536:=by omega
 rw [hal,show min 16 IntKind.i32.bits=16 from rfl,show min 16 IntKind.i64.bits=16 from rfl,show (2:Int) ^ 16=65536 from rfl]
 rw [wi32 (n:=B) (by omega),wi64 (n:=B) (by omega),wi32 (n:=a % 65536) (by omega),wi64 (n:=a % 65536) (by omega)]
 rw [Int.fdiv_eq_ediv_of_nonneg _ (by omega),Int.fdiv_eq_ediv_of_nonneg _ (by omega)]
 unfold wb
 rw [Int.fdiv_eq_ediv_of_nonneg _ (by omega)]
 have h1:=mul_bd (x:=a / 65536) (y:=B) (X:=32768) (Y:=32768) (by unfold iB; omega) (by unfold iB; omega)
 have h2:=mul_bd (x:=a % 65536) (y:=B) (X:=65536) (Y:=32768) (by unfold iB; omega) (by unfold iB; omega)
 have h3:a*B=65536*(a / 65536*B)+a % 65536*B:=by
  have:a=65536*(a / 65536)+a % 65536:=by omega
  rw [this,Int.add_mul,Int.mul_assoc]
  grind
 unfold iB at h1 h2
 rw [wi64 (by omega),wi32 (n:=a / 65536*B) (by omega),wi32 (n:=a % 65536*B / 65536) (by omega),wi32 (by omega)]
 omega
theorem mulWBW (w0:World) {a b:Int} (ha:I32 a):CallsA Tryz.prog w0 64 [.c (.val (.int .i32 a)),.c (.val (.int .i32 b))] [] fun r H=>r = .o (.c (.val (.int .i32 (wb a (IntKind.i16.wrap b)))))∧H=[]:=by
 refine callsA_of_ev c64_ ?_
 conv=>whnf
 exact Or.inl ⟨congrArg (fun z=>AV.o (.c (.val (.int .i32 z)))) (mulWB_eq ha),rfl⟩
theorem mlaWBW (w0:World) {a b c:Int} (hb:I32 b):CallsA Tryz.prog w0 67 [.c (.val (.int .i32 a)),.c (.val (.int .i32 b)),.c (.val (.int .i32 c))] [] fun r H=>r = .o (.c (.val (.int .i32 (IntKind.i32.wrap (a+wb b (IntKind.i16.wrap c))))))∧H=[]:=by
 refine callsA_of_ev c67_ ?_
 conv=>whnf
 refine callV (mulWBW w0 hb) rfl ?_
 conv=>whnf
 exact Or.inl ⟨rfl,rfl⟩
theorem mulBBW (w0:World) {a b:Int} (ha:S16 a) (hb:S16 b):CallsA Tryz.prog w0 94 [.c (.val (.int .i32 a)),.c (.val (.int .i32 b))] [] fun r H=>r = .o (.c (.val (.int .i32 (a*b))))∧H=[]:=by
 refine callsA_of_ev c94_ ?_
 conv=>whnf
 refine Or.inl ⟨congrArg (fun z=>AV.o (.c (.val (.int .i32 z)))) ?_,rfl⟩
 have h:=mul_bd (x:=a) (y:=b) (X:=32768) (Y:=32768) (by unfold S16 at ha; unfold iB; omega) (by unfold S16 at hb; unfold iB; omega)
 rw [wi16 ha,wi16 hb]
 unfold S16 at ha hb
 unfold iB at h
 rw [wi32 (n:=a) (by omega),wi32 (n:=b) (by omega),wi32 (by omega)]
theorem mlaBBW (w0:World) {a b c:Int} (hb:S16 b) (hc:S16 c):CallsA Tryz.prog w0 95 [.c (.val (.int .i32 a)),.c (.val (.int .i32 b)),.c (.val (.int .i32 c))] [] fun r H=>r = .o (.c (.val (.int .i32 (IntKind.i32.wrap (a+b*c)))))∧H=[]:=by
 refine callsA_of_ev c95_ ?_
 conv=>whnf
 refine callV (mulBBW w0 hb hc) rfl ?_
 conv=>whnf
 exact Or.inl ⟨rfl,rfl⟩
theorem rsrW (w0:World) {a:Int} {k:Nat} (ha:I32 a) (hk:2≤k) (hk2:k≤31):CallsA Tryz.prog w0 65 [.c (.val (.int .i32 a)),.c (.val (.int .i64 k))] [] fun r H=>r = .o (.c (.val (.int .i32 (rnd a k))))∧H=[]:=by
 refine callsA_of_ev c65_ ?_
 conv=>whnf
 refine Or.inl ?_
 conv=>whnf
 refine ⟨fun g => ?_,fun g => ?_⟩
 ·exact absurd (eq_of_beq g) (by omega)
 conv=>whnf
 have h1:IntKind.i64.wrap ((k:Int) - ((1:Nat):Int))=((k - 1:Nat):Int):=by rw [wi64 (by omega)]; omega
 rw [h1]
 refine ⟨Int.natCast_nonneg _,?_⟩
 conv=>whnf
 refine Or.inl ⟨congrArg (fun z=>AV.o (.c (.val (.int .i32 z)))) ?_,rfl⟩
 unfold I32 at ha
 have e:min ((k - 1:Nat):Int).toNat IntKind.i32.bits=k - 1:=by show min (k - 1) 32=k - 1; omega
 rw [e]
 unfold rnd
 have hp:(0:Int)<2 ^ (k - 1):=Int.pow_pos (by omega)
 have hp2:(2:Int)≤2 ^ (k - 1):=by
  have:(2:Nat) ^ 1≤2 ^ (k - 1):=Nat.pow_le_pow_right (by omega) (by omega)
  exact_mod_cast this
 have h2:-1073741824≤a.fdiv (2 ^ (k - 1))∧a.fdiv (2 ^ (k - 1))≤1073741823:=by
  rw [Int.fdiv_eq_ediv_of_nonneg _ (by omega)]
  generalize (2:Int) ^ (k - 1)=g at *
  have h3:=Int.mul_ediv_add_emod a g
  have h4:=Int.emod_nonneg a (show g≠0 by omega)
  have h5:=Int.emod_lt_of_pos a hp
  generalize a / g=q at *
  constructor
  ·apply Int.not_lt.1
   intro hc
   have:g*q≤g*(-1073741825):=Int.mul_le_mul_of_nonneg_left (by omega) (by omega)
   omega
  apply Int.not_lt.1
  intro hc
  have:g*1073741824≤g*q:=Int.mul_le_mul_of_nonneg_left (by omega) (by omega)
  omega
 generalize a.fdiv (2 ^ (k - 1))=q at *
 rw [show ((1:Nat):Int)=1 from rfl,wi32 (by omega)]
 rfl
theorem sat16W (w0:World) {a:Int}:CallsA Tryz.prog w0 68 [.c (.val (.int .i32 a))] [] fun r H=>r = .o (.c (.val (.int .i16 (satI a))))∧H=[]:=by
 refine callsA_of_ev c68_ ?_
 conv=>whnf
 refine Or.inl ?_
 conv=>whnf
 refine ⟨fun g => ?_,fun g => ?_⟩
 ·have g:a>32767:=of_decide_eq_true g
  conv=>whnf
  exact Or.inl ⟨congrArg (fun z=>AV.o (.c (.val (.int .i16 z)))) (by unfold satI; rw [if_pos g]; rfl),rfl⟩
 have g:¬ a>32767:=of_decide_eq_false g
 conv=>whnf
 refine Or.inl ?_
 conv=>whnf
 refine ⟨fun g2 => ?_,fun g2 => ?_⟩
 ·have g2:a < -32768:=of_decide_eq_true g2
  conv=>whnf
  exact Or.inl ⟨congrArg (fun z=>AV.o (.c (.val (.int .i16 z)))) (by unfold satI; rw [if_neg g,if_pos g2]),rfl⟩
 have g2:¬ a < -32768:=of_decide_eq_false g2
 conv=>whnf
 exact Or.inl ⟨congrArg (fun z=>AV.o (.c (.val (.int .i16 z)))) (by unfold satI; rw [if_neg g,if_neg g2]; exact wi16 (by unfold S16; omega)),rfl⟩
theorem sSatW (w0:World) {a:Int} (ha:-9223372036854775808≤a∧a≤9223372036854775807):CallsA Tryz.prog w0 90 [.c (.val (.int .i64 a))] [] fun r H=>r = .o (.c (.val (.int .i16 (satI a))))∧H=[]:=by
 refine callsA_of_ev c90_ ?_
 conv=>whnf
 refine Or.inl ⟨congrArg (fun z=>AV.o (.c (.val (.int .i16 z)))) ?_,rfl⟩
 have h:=satI_ok a
 rw [show ∀ (x y:Int),(bif true then (if x<y then x else y) else (if x>y then x else y))=if x<y then x else y from fun _ _=>rfl]
 rw [show ∀ (x y:Int),(bif false then (if x<y then x else y) else (if x>y then x else y))=if x>y then x else y from fun _ _=>rfl]
 have e:(if (if a > -32768 then a else -32768)<((32767:Nat):Int) then (if a > -32768 then a else -32768) else ((32767:Nat):Int))=satI a:=by
  unfold satI
  split <;> split <;> (try split) <;> (try split) <;> omega
 rw [e,wi16 h]
theorem sRoundedW (w0:World) {a:Int} {k:Nat} (ha:-4611686018427387904≤a∧a≤4611686018427387903) (hk:1≤k) (hk2:k≤31):CallsA Tryz.prog w0 91 [.c (.val (.int .i64 a)),.c (.val (.int .i64 k))] [] fun r H=>r = .o (.c (.val (.int .i64 (rnd a k))))∧H=[]:=by
 refine callsA_of_ev c91_ ?_
 conv=>whnf
 have h1:IntKind.i64.wrap ((k:Int) - ((1:Nat):Int))=((k - 1:Nat):Int):=by rw [wi64 (by omega)]; omega
 rw [h1]
 refine ⟨Int.natCast_nonneg _,?_⟩
 conv=>whnf
 refine Or.inl ⟨congrArg (fun z=>AV.o (.c (.val (.int .i64 z)))) ?_,rfl⟩
 have e:min ((k - 1:Nat):Int).toNat IntKind.i64.bits=k - 1:=by show min (k - 1) 64=k - 1; omega
 rw [e]
 unfold rnd
 have hp:(0:Int)<2 ^ (k - 1):=Int.pow_pos (by omega)
 have h2:-4611686018427387904≤a.fdiv (2 ^ (k - 1))∧a.fdiv (2 ^ (k - 1))≤4611686018427387903:=by
  rw [Int.fdiv_eq_ediv_of_nonneg _ (by omega)]
  generalize (2:Int) ^ (k - 1)=g at *
  have h3:=Int.mul_ediv_add_emod a g
  have h4:=Int.emod_nonneg a (show g≠0 by omega)
  have h5:=Int.emod_lt_of_pos a hp
  generalize a / g=q at *
  constructor
  ·apply Int.not_lt.1
   intro hc
   have:g*q≤g*(-4611686018427387905):=Int.mul_le_mul_of_nonneg_left (by omega) (by omega)
   omega
  apply Int.not_lt.1
  intro hc
  have:g*4611686018427387904≤g*q:=Int.mul_le_mul_of_nonneg_left (by omega) (by omega)
  omega
 generalize a.fdiv (2 ^ (k - 1))=q at *
 rw [show ((1:Nat):Int)=1 from rfl,wi64 (by omega)]
 rfl
theorem sMulWBW (w0:World) {a b:Int} (ha:iB 1099511627776 a) (hb:S16 b):CallsA Tryz.prog w0 62 [.c (.val (.int .i64 a)),.c (.val (.int .i64 b))] [] fun r H=>r = .o (.c (.val (.int .i64 (wb a b))))∧H=[]:=by
 refine callsA_of_ev c62_ ?_
 conv=>whnf
 refine Or.inl ⟨congrArg (fun z=>AV.o (.c (.val (.int .i64 z)))) ?_,rfl⟩
 have h:=mul_bd ha (show iB 32768 b by unfold S16 at hb; unfold iB; omega)
 unfold iB at h
 rw [wi64 (by omega)]
 rfl
theorem n_abs {n:Int} (h:S16 n):n.natAbs≤32768:=by unfold S16 at h; omega
theorem g_of {m:Sem Value} {r:Value} (h1:r.oneCell'=true) (h:m=pure r):Gives m r:=⟨h1,fun P w=>by rw [h]; rfl⟩
theorem g_i2f (k:IntKind) (n:Int):Gives (toFlt .f32 (.int k n)) (.float .f32 (n32 n)):=g_of rfl rfl
theorem g_div {n:Int} (h:S16 n):Gives (fltRun .quo .f32 (n32 n) 1191182336) (.float .f32 (F32 n)):=by
 refine g_of rfl ?_
 show Op.floatArith .quo .f32 (n32 n) 1191182336=_
 unfold Op.floatArith
 have e:FloatKind.f32.format.div (n32 n) 1191182336=some (F32 n):=f_div (n_abs h)
 simp only [pure_bind,e]
theorem g_mul {n:Int} (h:S16 n):Gives (fltRun .mul .f32 (F32 n) 1191182336) (.float .f32 (n32 n)):=by
 refine g_of rfl ?_
 show Op.floatArith .mul .f32 (F32 n) 1191182336=_
 unfold Op.floatArith
 have e:FloatKind.f32.format.mul (F32 n) 1191182336=some (n32 n):=f_mul (n_abs h)
 simp only [pure_bind,e]
theorem g_wide {n:Int} (h:S16 n):Gives (toFlt .f64 (.float .f32 (n32 n))) (.float .f64 (n64 n)):=by
 refine g_of rfl ?_
 show Conv.floatToFloat .f32 (n32 n) .f64=_
 unfold Conv.floatToFloat
 obtain ⟨s,m,e,h1,h2,h3⟩:=f_wide (n_abs h)
 rw [if_neg (by decide),h1]
 simp only [h2,h3]
 rfl
theorem g_f2i {n:Int} (h:S16 n):Gives (ofFlt .i16 (.float .f32 (n32 n))) (.int .i16 n):=by
 refine g_of rfl ?_
 show Conv.floatToInt .f32 (n32 n) .i16=_
 unfold Conv.floatToInt
 rw [f_int32 (n_abs h)]
 simp only
 rw [if_pos (by unfold S16 at h; exact ⟨by show (-32768:Int)≤n; omega,by show n≤32767; omega⟩)]
theorem g_d2i {n:Int} (h:S16 n):Gives (ofFlt .i16 (.float .f64 (n64 n))) (.int .i16 n):=by
 refine g_of rfl ?_
 show Conv.floatToInt .f64 (n64 n) .i16=_
 unfold Conv.floatToInt
 rw [f_int64 (n_abs h)]
 simp only
 rw [if_pos (by unfold S16 at h; exact ⟨by show (-32768:Int)≤n; omega,by show n≤32767; omega⟩)]
theorem g_lo {n:Int} (h:S16 n):Gives (fltRun .lss .f64 (n64 n) 13898108450065350656) (.bool false):=by
 refine g_of rfl ?_
 show Op.floatCmp .lss .f64 (n64 n) 13898108450065350656=_
 unfold Op.floatCmp
 have e0:13898108450065350656=n64 (-32768):=by decide +kernel
 have e:FloatKind.f64.format.order (n64 n) 13898108450065350656=some (compare n (-32768)):=by rw [e0]; exact f_order (n_abs h) (.inl rfl)
 rw [e]
 have:compare n (-32768) ≠ .lt:=by
  intro hc
  have:=Int.compare_eq_lt.1 hc
  unfold S16 at h
  omega
 cases hc:compare n (-32768) <;> first | exact absurd hc this | rfl
theorem g_hi {n:Int} (h:S16 n):Gives (fltRun .gtr .f64 (n64 n) 4674736138332667904) (.bool false):=by
 refine g_of rfl ?_
 show Op.floatCmp .gtr .f64 (n64 n) 4674736138332667904=_
 unfold Op.floatCmp
 have e0:4674736138332667904=n64 32767:=by decide +kernel
 have e:FloatKind.f64.format.order (n64 n) 4674736138332667904=some (compare n 32767):=by rw [e0]; exact f_order (n_abs h) (.inr rfl)
 rw [e]
 have:compare n 32767 ≠ .gt:=by
  intro hc
  have:=Int.compare_eq_gt.1 hc
  unfold S16 at h
  omega
 cases hc:compare n 32767 <;> first | exact absurd hc this | rfl
theorem f2sW (w0:World) {n:Int} (h:S16 n):CallsA Tryz.prog w0 23 [.c (.val (.float .f32 (F32 n)))] [] fun r H=>r = .o (.c (.val (.int .i16 n)))∧H=[]:=by
 refine callsA_of_ev c23_ ?_
 conv=>whnf
 refine ⟨rfl,_,g_mul h,?_⟩
 conv=>whnf
 refine ⟨_,g_wide h,?_⟩
 conv=>whnf
 refine callV (roundW w0 h) rfl ?_
 conv=>whnf
 refine Or.inl ?_
 conv=>whnf
 refine ⟨rfl,_,g_lo h,?_⟩
 conv=>whnf
 refine ⟨fun g=>zF g,fun _=>?_⟩
 conv=>whnf
 refine ⟨rfl,_,g_hi h,?_⟩
 conv=>whnf
 refine ⟨fun g=>zF g,fun _=>?_⟩
 conv=>whnf
 refine ⟨_,g_d2i h,?_⟩
 conv=>whnf
 exact Or.inl ⟨rfl,rfl⟩
def wr (l:List Int) (o:Nat) (ys:List Int):List Int:=l.take o++(ys++l.drop (o+ys.length))
theorem wr_length (l:List Int) (o:Nat) (ys:List Int) (h:o+ys.length≤l.length):(wr l o ys).length=l.length:=by
 simp only [wr,List.length_append,List.length_take,List.length_drop]
 omega
theorem wr_nil (l:List Int) (o:Nat):wr l o []=l:=by simp [wr]
theorem wr_set (l:List Int) (o:Nat) (ys:List Int) (i:Nat) (v:Int) (hi:i=o+ys.length) (h:i<l.length):(wr l o ys).set i v=wr l o (ys++[v]):=by
 subst hi
 unfold wr
 have e0:(l.take o).length=o:=by rw [List.length_take]; omega
 rw [List.set_append_right _ _ (by rw [e0]; omega),e0,Nat.add_sub_cancel_left,List.set_append_right _ _ (Nat.le_refl _),Nat.sub_self]
 rw [List.length_append,List.length_singleton,List.append_assoc]
 have:l.drop (o+ys.length)=l[o+ys.length]::l.drop (o+ys.length+1):=List.drop_eq_getElem_cons h
 rw [this]
 rfl
theorem wr_get (l:List Int) (o:Nat) (ys:List Int) (i:Nat) (h:o+ys.length≤l.length) (hi:i<l.length):∃ x,(wr l o ys)[i]? = some x:=⟨_,List.getElem?_eq_getElem (by rw [wr_length l o ys h]; exact hi)⟩
theorem putF_nil {α:Type} (l:List α) (k:List α → Prop):putF 0 [] l k=k l:=by cases l <;> rfl
def ci (k:IntKind) (x:Int):CV := .val (.int k x)
def zB (z:Z6) (tl:List CV):Blk := .cells 46 (ci .i32 z.a::ci .i32 z.b::ci .i32 z.c::ci .i32 z.d::ci .i32 z.e::ci .i32 z.f::tl)
def sB (l:List Int):Blk := .vec true 29 (encI .i16) [] 1 l
def Rd (w0:World) (b io:Nat) (xs:List Int) (tl:List CV) (ys:List Int):Prop :=
 ∀ (k:Nat) (x:Int),xs[k]? = some x → ∀ (z:Z6) (B1 B3 B4 B5:Blk) (K:List CV→Prop),K [ci .i16 x]→ldn w0 [zB z tl,B1,sB ys,B3,B4,B5] (.row b 1 (io+k) 0) 1 K
def upTab (w0:World):Prop :=
 (w0.cell? ⟨12,0,none⟩=some (.int .i16 ((1746:Nat):Int))∧w0.cell? ⟨12,1,none⟩=some (.int .i16 ((14986:Nat):Int))∧w0.cell? ⟨12,2,none⟩=some (.int .i16 (-26453))) ∧
 (w0.cell? ⟨13,0,none⟩=some (.int .i16 ((6854:Nat):Int))∧w0.cell? ⟨13,1,none⟩=some (.int .i16 ((25769:Nat):Int))∧w0.cell? ⟨13,2,none⟩=some (.int .i16 (-9994)))
theorem stageW {t C A Z B c:Int} {last:Bool} {z a:Int} (hc:IntKind.i16.wrap (IntKind.i32.wrap c)=t) (ht:C=if last then t+65536 else t) (h0:0≤C) (h1:C≤65536) (ha:iB A a) (hz:iB Z z)
 (hZ:(65536+C)*A+C*Z+65536≤65536*Z) (hB:(65536 - C)*Z+C*A+65536≤65536*B) (hI:A+Z≤1073741823) (hB2:B≤2147483647) :
 ∃ y m,IntKind.i32.wrap (a - z)=y∧I32 y∧(if last then IntKind.i32.wrap (y+wb y (IntKind.i16.wrap (IntKind.i32.wrap c)))=m else wb y (IntKind.i16.wrap (IntKind.i32.wrap c))=m) ∧
  IntKind.i32.wrap (z+m)=(stg t last z a).1∧IntKind.i32.wrap (a+m)=(stg t last z a).2:=by
 have hs:=stg_ok ht h0 h1 ha hz hZ hB
 have hS:S16 t:=by rw [← hc]; exact wi16_ok _
 unfold iB at ha hz
 rw [hc]
 have hw:=wb_bd (a:=a - z) (b:=t) (A:=1073741823) (by unfold iB; omega) hS
 unfold iB at hw
 have hy:IntKind.i32.wrap (a - z)=a - z:=wi32 (by omega)
 cases last with
 | true =>
  refine ⟨_,wb (a - z) t+(a - z),hy,by unfold I32; omega,?_,?_,?_⟩
  ·rw [if_pos rfl,wi32 (by omega)]; omega
  ·exact wi32 (by have:=hs.1; unfold stg at this; simp only [if_true] at this; omega)
  exact wi32 (by have:=hs.2; unfold stg at this; simp only [if_true] at this; omega)
 | false =>
  refine ⟨_,wb (a - z) t,hy,by unfold I32; omega,rfl,?_,?_⟩
  ·exact wi32 (by have:=hs.1; unfold stg at this; simp at this; omega)
  exact wi32 (by have:=hs.2; unfold stg at this; simp at this; omega)
def upSt (b io n c oo on oc:Nat) (tl:List CV) (xs ys out:List Int) (z:Z6) (k:Nat):S :=
 ⟨[(0,.o (.c (.ptr 0 0))),(1,.o (.c (.sli 1 1 oo on oc))),(2,.o (.c (.sli b 1 io n c))),(14,.o (.c (.val (.int .i64 n)))),(15,.o (.c (.val (.int .i64 k))))],
  [zB (dbl z (xs.take k)).2 tl,sB (wr out oo (dbl z (xs.take k)).1),sB ys,.dead,.dead,.dead]⟩
def Nat6 (tl:List CV):Prop:=tl.map (CV.ren [0,1,2,3,4,5])=tl
theorem embU {tl:List CV} (h:Nat6 tl) {z z':Z6} {o o' y:List Int} (hz:z=z') (ho:o=o') :
 EmbH 6 [0,1,2,3,4,5] [zB z tl,sB o,sB y,.dead,.dead,.dead] [zB z' tl,sB o',sB y,.dead,.dead,.dead]:=by
 subst hz ho
 exact ⟨rfl,⟨congrArg (fun l=>some (Blk.cells 46 (ci .i32 z.a::ci .i32 z.b::ci .i32 z.c::ci .i32 z.d::ci .i32 z.e::ci .i32 z.f::l))) h.symm,rfl,rfl,rfl,rfl,rfl,(by decide:3<6),(by decide:4<6),(by decide:5<6),trivial⟩,rfl⟩
theorem stageF {t A Z B c:Int} {z a:Int} (hc:IntKind.i16.wrap (IntKind.i32.wrap c)=t) (h0:0≤t) (h1:t≤65536) (ha:iB A a) (hz:iB Z z)
 (hZ:(65536+t)*A+t*Z+65536≤65536*Z) (hB:(65536 - t)*Z+t*A+65536≤65536*B) (hI:A+Z≤1073741823) (hB2:B≤2147483647) :
 ∃ y m,IntKind.i32.wrap (a - z)=y∧I32 y∧wb y (IntKind.i16.wrap (IntKind.i32.wrap c))=m ∧
  IntKind.i32.wrap (z+m)=(stg t false z a).1∧IntKind.i32.wrap (a+m)=(stg t false z a).2:=by
 have:=stageW (last:=false) hc rfl h0 h1 ha hz hZ hB hI hB2
 simpa using this
theorem stageT {t C A Z B c:Int} {z a:Int} (hc:IntKind.i16.wrap (IntKind.i32.wrap c)=t) (ht:C=t+65536) (h0:0≤C) (h1:C≤65536) (ha:iB A a) (hz:iB Z z)
 (hZ:(65536+C)*A+C*Z+65536≤65536*Z) (hB:(65536 - C)*Z+C*A+65536≤65536*B) (hI:A+Z≤1073741823) (hB2:B≤2147483647) :
 ∃ y m,IntKind.i32.wrap (a - z)=y∧I32 y∧IntKind.i32.wrap (y+wb y (IntKind.i16.wrap (IntKind.i32.wrap c)))=m ∧
  IntKind.i32.wrap (z+m)=(stg t true z a).1∧IntKind.i32.wrap (a+m)=(stg t true z a).2:=by
 have:=stageW (last:=true) hc ht h0 h1 ha hz hZ hB hI hB2
 simpa using this
theorem nidx (k:Nat) (h:k≤1000000000):IntKind.i64.wrap (((2:Nat):Int)*(k:Int))=((2*k:Nat):Int):=by rw [wi64 (by omega)]; omega
theorem nidx1 (k:Nat) (h:k≤1000000000):IntKind.i64.wrap (((2*k:Nat):Int)+((1:Nat):Int))=((2*k+1:Nat):Int):=by rw [wi64 (by omega)]; omega
theorem ninc {k:Nat} (h:k≤1000000000):IntKind.i64.wrap ((k:Int)+((1:Nat):Int))=((k+1:Nat):Int):=by rw [wi64 (by omega)]; omega
theorem iB_I32 {B x:Int} (h:iB B x) (hB:B≤2147483647):I32 x:=by unfold iB at h; unfold I32; omega
theorem up2W (w0:World) (hT:upTab w0) {b io n c oo on oc:Nat} {tl:List CV} {xs ys out:List Int} {z:Z6} (hb:b=0∨b=2) (hin:Rd w0 b io xs tl ys) (hn:xs.length=n) (hx:∀ x∈xs,S16 x) (hz:z.Ok) (htl:Nat6 tl)
 (hon:2*n≤on) (hoo:oo+2*n≤out.length) (hbig:n≤1000000000) :
 CallsA Tryz.prog w0 24 [.c (.ptr 0 0),.c (.sli 1 1 oo on oc),.c (.sli b 1 io n c)] [zB z tl,sB out,sB ys,.dead,.dead,.dead] fun r H=>r = .t []∧H=[zB (dbl z xs).2 tl,sB (wr out oo (dbl z xs).1),sB ys,.dead,.dead,.dead]:=by
 obtain ⟨⟨t0,t1,t2⟩,t3,t4,t5⟩:=hT
 obtain ⟨c0,hc0⟩:∃ c:Int,c=((1746:Nat):Int):=⟨_,rfl⟩
 rw [← hc0] at t0
 obtain ⟨c1,hc1⟩:∃ c:Int,c=((14986:Nat):Int):=⟨_,rfl⟩
 rw [← hc1] at t1
 obtain ⟨c2,hc2⟩:∃ c:Int,c=(-26453):=⟨_,rfl⟩
 rw [← hc2] at t2
 obtain ⟨c3,hc3⟩:∃ c:Int,c=((6854:Nat):Int):=⟨_,rfl⟩
 rw [← hc3] at t3
 obtain ⟨c4,hc4⟩:∃ c:Int,c=((25769:Nat):Int):=⟨_,rfl⟩
 rw [← hc4] at t4
 obtain ⟨c5,hc5⟩:∃ c:Int,c=(-9994):=⟨_,rfl⟩
 rw [← hc5] at t5
 rcases hb with rfl | rfl
 ·refine callsA_of_ev c24_ ?_
  conv=>whnf
  refine ⟨{k:Nat // k≤n},fun ⟨k,_⟩=>upSt 0 io n c oo on oc tl xs ys out z k,fun k=>n - k.1,⟨⟨0,Nat.zero_le _⟩,[0,1,2,3,4,5],embU htl rfl (wr_nil out oo),rfl,rfl,rfl,rfl,rfl,trivial⟩,fun ⟨k,hk⟩ => ?_⟩
  conv=>whnf
  refine ⟨fun h3 => ?_,fun h3 => ?_⟩
  ·have h3:k<n:=lt_t h3
   obtain ⟨s,hk5⟩:∃ s,xs[k]? = some s:=⟨_,List.getElem?_eq_getElem (by omega)⟩
   have hs:S16 s:=hx s (List.mem_of_getElem? hk5)
   have htk:xs.take (k+1)=xs.take k++[s]:=by rw [List.take_add_one,hk5]; rfl
   have hZ:(dbl z (xs.take k)).2.Ok:=dbl_ok hz fun x hx'=>hx x (List.mem_of_mem_take hx')
   have hDl:(dbl z (xs.take k)).1.length=2*k:=by rw [dbl_length,List.length_take]; omega
   have hfin:=dbl_snoc z (xs.take k) s
   rw [← htk] at hfin
   have hx1:IntKind.i32.wrap (IntKind.i32.wrap s*2 ^ min 10 IntKind.i32.bits)=s*1024:=by
    have h:=hs
    unfold S16 at h
    rw [wi32 (n:=s) (by omega),show min 10 IntKind.i32.bits=10 from rfl,show (2:Int) ^ 10=1024 from rfl,wi32 (by omega)]
   have hA:iB 33554432 (s*1024):=by unfold S16 at hs; unfold iB; omega
   conv=>whnf
   refine ⟨⟨Int.natCast_nonneg k,Int.ofNat_lt.2 h3⟩,?_⟩
   conv=>whnf
   refine hin k s hk5 (dbl z (xs.take k)).2 (sB (wr out oo (dbl z (xs.take k)).1)) .dead .dead .dead _ ?_
   generalize dbl z (xs.take k)=D at *
   obtain ⟨y0,m0,a0,i0,q0,b0,s0⟩:=stageF (t:=1746) (A:=33554432) (Z:=35400000) (B:=35400000) (c:=c0) (by rw [hc0]; decide) (by omega) (by omega) hA hZ.a (by omega) (by omega) (by omega) (by omega)
   obtain ⟨e1,e2,e3,e4,e5,e6⟩:=half0 hZ hs
   obtain ⟨f1,f2,f3,f4,f5,f6⟩:=half1 hZ hs
   obtain ⟨y1,m1,a1,i1,q1,b1,s1⟩:=stageF (t:=14986) (A:=35400000) (Z:=56400000) (B:=51600000) (c:=c1) (by rw [hc1]; decide) (by omega) (by omega) e1 hZ.b (by omega) (by omega) (by omega) (by omega)
   obtain ⟨y2,m2,a2,i2,q2,b2,s2⟩:=stageT (t := -26453) (C:=39083) (A:=51600000) (Z:=204200000) (B:=120000000) (c:=c2) (by rw [hc2]; decide) rfl (by omega) (by omega) e3 hZ.c (by omega) (by omega) (by omega) (by omega)
   obtain ⟨y3,m3,a3,i3,q3,b3,s3⟩:=stageF (t:=6854) (A:=33554432) (Z:=41400000) (B:=40600000) (c:=c3) (by rw [hc3]; decide) (by omega) (by omega) hA hZ.d (by omega) (by omega) (by omega) (by omega)
   obtain ⟨y4,m4,a4,i4,q4,b4,s4⟩:=stageF (t:=25769) (A:=40600000) (Z:=93300000) (B:=72600000) (c:=c4) (by rw [hc4]; decide) (by omega) (by omega) f1 hZ.e (by omega) (by omega) (by omega) (by omega)
   obtain ⟨y5,m5,a5,i5,q5,b5,s5⟩:=stageT (t := -9994) (C:=55542) (A:=72600000) (Z:=880000000) (B:=200000000) (c:=c5) (by rw [hc5]; decide) rfl (by omega) (by omega) f3 hZ.f (by omega) (by omega) (by omega) (by omega)
   have j2:=iB_I32 e5 (by omega)
   have j5:=iB_I32 f5 (by omega)
   have hup:upS D.2 s=((satI (rnd (stg (-26453) true D.2.c (stg 14986 false D.2.b (stg 1746 false D.2.a (s*1024)).1).1).1 10),satI (rnd (stg (-9994) true D.2.f (stg 25769 false D.2.e (stg 6854 false D.2.d (s*1024)).1).1).1 10)),
    ⟨(stg 1746 false D.2.a (s*1024)).2,(stg 14986 false D.2.b (stg 1746 false D.2.a (s*1024)).1).2,(stg (-26453) true D.2.c (stg 14986 false D.2.b (stg 1746 false D.2.a (s*1024)).1).1).2,
     (stg 6854 false D.2.d (s*1024)).2,(stg 25769 false D.2.e (stg 6854 false D.2.d (s*1024)).1).2,(stg (-9994) true D.2.f (stg 25769 false D.2.e (stg 6854 false D.2.d (s*1024)).1).1).2⟩):=rfl
   rw [hup] at hfin
   clear hup e1 e2 e3 e4 e5 e6 f1 f2 f3 f4 f5 f6
   generalize hp0:stg 1746 false D.2.a (s*1024)=p0 at *
   generalize hp1:stg 14986 false D.2.b p0.1=p1 at *
   generalize hp2:stg (-26453) true D.2.c p1.1=p2 at *
   generalize hp3:stg 6854 false D.2.d (s*1024)=p3 at *
   generalize hp4:stg 25769 false D.2.e p3.1=p4 at *
   generalize hp5:stg (-9994) true D.2.f p4.1=p5 at *
   conv=>whnf
   refine ⟨by decide,?_⟩
   conv=>whnf
   rw [hx1,a0]
   conv=>whnf
   refine ⟨by decide,?_⟩
   conv=>whnf
   refine ⟨_,t0,rfl,?_⟩
   conv=>whnf
   refine callV (mulWBW w0 i0) rfl ?_
   conv=>whnf
   rw [q0]
   conv=>whnf
   refine ⟨by decide,?_⟩
   conv=>whnf
   refine ⟨by decide,?_⟩
   conv=>whnf
   rw [b0,s0]
   conv=>whnf
   dsimp -iota only
   refine ⟨by decide,?_⟩
   conv=>whnf
   rw [a1]
   conv=>whnf
   refine ⟨by decide,?_⟩
   conv=>whnf
   refine ⟨_,t1,rfl,?_⟩
   conv=>whnf
   refine callV (mulWBW w0 i1) rfl ?_
   conv=>whnf
   rw [q1]
   conv=>whnf
   refine ⟨by decide,?_⟩
   conv=>whnf
   refine ⟨by decide,?_⟩
   conv=>whnf
   rw [b1,s1]
   conv=>whnf
   dsimp -iota only
   refine ⟨by decide,?_⟩
   conv=>whnf
   rw [a2]
   conv=>whnf
   refine ⟨by decide,?_⟩
   conv=>whnf
   refine ⟨_,t2,rfl,?_⟩
   conv=>whnf
   refine callV (mlaWBW w0 i2) rfl ?_
   conv=>whnf
   rw [q2]
   conv=>whnf
   refine ⟨by decide,?_⟩
   conv=>whnf
   refine ⟨by decide,?_⟩
   conv=>whnf
   rw [b2,s2]
   conv=>whnf
   dsimp -iota only
   rw [nidx k (by omega)]
   refine callV (rsrW w0 (k:=10) j2 (by omega) (by omega)) rfl ?_
   conv=>whnf
   refine callV (sat16W w0) rfl ?_
   conv=>whnf
   refine ⟨⟨Int.natCast_nonneg _,Int.ofNat_lt.2 (by omega:2*k<on)⟩,?_⟩
   conv=>whnf
   obtain ⟨g0,hg0⟩:=wr_get out oo D.1 (oo+2*k) (by omega) (by omega)
   refine ⟨g0,satI (rnd p2.1 10),hg0,rfl,?_⟩
   rw [show (((2*k:Nat):Int)).toNat=2*k from rfl,wr_set out oo D.1 (oo+2*k) _ (by omega) (by omega)]
   conv=>whnf
   refine ⟨by decide,?_⟩
   conv=>whnf
   rw [a3]
   conv=>whnf
   refine ⟨by decide,?_⟩
   conv=>whnf
   refine ⟨_,t3,rfl,?_⟩
   conv=>whnf
   refine callV (mulWBW w0 i3) rfl ?_
   conv=>whnf
   rw [q3]
   conv=>whnf
   refine ⟨by decide,?_⟩
   conv=>whnf
   refine ⟨by decide,?_⟩
   conv=>whnf
   rw [b3,s3]
   conv=>whnf
   dsimp -iota only
   refine ⟨by decide,?_⟩
   conv=>whnf
   rw [a4]
   conv=>whnf
   refine ⟨by decide,?_⟩
   conv=>whnf
   refine ⟨_,t4,rfl,?_⟩
   conv=>whnf
   refine callV (mulWBW w0 i4) rfl ?_
   conv=>whnf
   rw [q4]
   conv=>whnf
   refine ⟨by decide,?_⟩
   conv=>whnf
   refine ⟨by decide,?_⟩
   conv=>whnf
   rw [b4,s4]
   conv=>whnf
   dsimp -iota only
   refine ⟨by decide,?_⟩
   conv=>whnf
   rw [a5]
   conv=>whnf
   refine ⟨by decide,?_⟩
   conv=>whnf
   refine ⟨_,t5,rfl,?_⟩
   conv=>whnf
   refine callV (mlaWBW w0 i5) rfl ?_
   conv=>whnf
   rw [q5]
   conv=>whnf
   refine ⟨by decide,?_⟩
   conv=>whnf
   refine ⟨by decide,?_⟩
   conv=>whnf
   rw [b5,s5]
   conv=>whnf
   dsimp -iota only
   rw [putF_nil]
   conv=>whnf
   rw [nidx k (by omega),nidx1 k (by omega)]
   refine callV (rsrW w0 (k:=10) j5 (by omega) (by omega)) rfl ?_
   conv=>whnf
   refine callV (sat16W w0) rfl ?_
   conv=>whnf
   refine ⟨⟨Int.natCast_nonneg _,Int.ofNat_lt.2 (by omega:2*k+1<on)⟩,?_⟩
   conv=>whnf
   obtain ⟨g1,hg1⟩:=wr_get out oo (D.1++[satI (rnd p2.1 10)]) (oo+(2*k+1)) (by rw [List.length_append,List.length_singleton]; omega) (by omega)
   refine ⟨g1,satI (rnd p5.1 10),hg1,rfl,?_⟩
   rw [show (((2*k+1:Nat):Int)).toNat=2*k+1 from rfl,wr_set out oo (D.1++[satI (rnd p2.1 10)]) (oo+(2*k+1)) _ (by rw [List.length_append,List.length_singleton]; omega) (by omega)]
   conv=>whnf
   rw [ninc (by omega)]
   have z1:=congrArg Prod.fst hfin
   have z2:=congrArg Prod.snd hfin
   simp only at z1 z2
   have z3:wr out oo (dbl z (xs.take (k+1))).1=wr out oo (D.1++[satI (rnd p2.1 10)]++[satI (rnd p5.1 10)]):=by rw [z1,List.append_assoc]; rfl
   have e:=embU (y:=ys) htl z2 z3
   refine ⟨⟨k+1,h3⟩,⟨[0,1,2,3,4,5],?_,rfl,rfl,rfl,rfl,rfl,trivial⟩,Nat.sub_lt_sub_left h3 (Nat.lt_succ_self k)⟩
   exact e
  have h3:n≤k:=Nat.le_of_not_lt fun h=>absurd (of_decide_eq_false h3) (by omega)
  have hk2:k=n:=by omega
  subst hk2
  conv=>whnf
  refine Or.inl ⟨rfl,?_⟩
  rw [List.take_of_length_le (by omega)]
 refine callsA_of_ev c24_ ?_
 conv=>whnf
 refine ⟨{k:Nat // k≤n},fun ⟨k,_⟩=>upSt 2 io n c oo on oc tl xs ys out z k,fun k=>n - k.1,⟨⟨0,Nat.zero_le _⟩,[0,1,2,3,4,5],embU htl rfl (wr_nil out oo),rfl,rfl,rfl,rfl,rfl,trivial⟩,fun ⟨k,hk⟩ => ?_⟩
 conv=>whnf
 refine ⟨fun h3 => ?_,fun h3 => ?_⟩
 ·have h3:k<n:=lt_t h3
  obtain ⟨s,hk5⟩:∃ s,xs[k]? = some s:=⟨_,List.getElem?_eq_getElem (by omega)⟩
  have hs:S16 s:=hx s (List.mem_of_getElem? hk5)
  have htk:xs.take (k+1)=xs.take k++[s]:=by rw [List.take_add_one,hk5]; rfl
  have hZ:(dbl z (xs.take k)).2.Ok:=dbl_ok hz fun x hx'=>hx x (List.mem_of_mem_take hx')
  have hDl:(dbl z (xs.take k)).1.length=2*k:=by rw [dbl_length,List.length_take]; omega
  have hfin:=dbl_snoc z (xs.take k) s
  rw [← htk] at hfin
  have hx1:IntKind.i32.wrap (IntKind.i32.wrap s*2 ^ min 10 IntKind.i32.bits)=s*1024:=by
   have h:=hs
   unfold S16 at h
   rw [wi32 (n:=s) (by omega),show min 10 IntKind.i32.bits=10 from rfl,show (2:Int) ^ 10=1024 from rfl,wi32 (by omega)]
  have hA:iB 33554432 (s*1024):=by unfold S16 at hs; unfold iB; omega
  conv=>whnf
  refine ⟨⟨Int.natCast_nonneg k,Int.ofNat_lt.2 h3⟩,?_⟩
  conv=>whnf
  refine hin k s hk5 (dbl z (xs.take k)).2 (sB (wr out oo (dbl z (xs.take k)).1)) .dead .dead .dead _ ?_
  generalize dbl z (xs.take k)=D at *
  obtain ⟨y0,m0,a0,i0,q0,b0,s0⟩:=stageF (t:=1746) (A:=33554432) (Z:=35400000) (B:=35400000) (c:=c0) (by rw [hc0]; decide) (by omega) (by omega) hA hZ.a (by omega) (by omega) (by omega) (by omega)
  obtain ⟨e1,e2,e3,e4,e5,e6⟩:=half0 hZ hs
  obtain ⟨f1,f2,f3,f4,f5,f6⟩:=half1 hZ hs
  obtain ⟨y1,m1,a1,i1,q1,b1,s1⟩:=stageF (t:=14986) (A:=35400000) (Z:=56400000) (B:=51600000) (c:=c1) (by rw [hc1]; decide) (by omega) (by omega) e1 hZ.b (by omega) (by omega) (by omega) (by omega)
  obtain ⟨y2,m2,a2,i2,q2,b2,s2⟩:=stageT (t := -26453) (C:=39083) (A:=51600000) (Z:=204200000) (B:=120000000) (c:=c2) (by rw [hc2]; decide) rfl (by omega) (by omega) e3 hZ.c (by omega) (by omega) (by omega) (by omega)
  obtain ⟨y3,m3,a3,i3,q3,b3,s3⟩:=stageF (t:=6854) (A:=33554432) (Z:=41400000) (B:=40600000) (c:=c3) (by rw [hc3]; decide) (by omega) (by omega) hA hZ.d (by omega) (by omega) (by omega) (by omega)
  obtain ⟨y4,m4,a4,i4,q4,b4,s4⟩:=stageF (t:=25769) (A:=40600000) (Z:=93300000) (B:=72600000) (c:=c4) (by rw [hc4]; decide) (by omega) (by omega) f1 hZ.e (by omega) (by omega) (by omega) (by omega)
  obtain ⟨y5,m5,a5,i5,q5,b5,s5⟩:=stageT (t := -9994) (C:=55542) (A:=72600000) (Z:=880000000) (B:=200000000) (c:=c5) (by rw [hc5]; decide) rfl (by omega) (by omega) f3 hZ.f (by omega) (by omega) (by omega) (by omega)
  have j2:=iB_I32 e5 (by omega)
  have j5:=iB_I32 f5 (by omega)
  have hup:upS D.2 s=((satI (rnd (stg (-26453) true D.2.c (stg 14986 false D.2.b (stg 1746 false D.2.a (s*1024)).1).1).1 10),satI (rnd (stg (-9994) true D.2.f (stg 25769 false D.2.e (stg 6854 false D.2.d (s*1024)).1).1).1 10)),
   ⟨(stg 1746 false D.2.a (s*1024)).2,(stg 14986 false D.2.b (stg 1746 false D.2.a (s*1024)).1).2,(stg (-26453) true D.2.c (stg 14986 false D.2.b (stg 1746 false D.2.a (s*1024)).1).1).2,
    (stg 6854 false D.2.d (s*1024)).2,(stg 25769 false D.2.e (stg 6854 false D.2.d (s*1024)).1).2,(stg (-9994) true D.2.f (stg 25769 false D.2.e (stg 6854 false D.2.d (s*1024)).1).1).2⟩):=rfl
  rw [hup] at hfin
  clear hup e1 e2 e3 e4 e5 e6 f1 f2 f3 f4 f5 f6
  generalize hp0:stg 1746 false D.2.a (s*1024)=p0 at *
  generalize hp1:stg 14986 false D.2.b p0.1=p1 at *
  generalize hp2:stg (-26453) true D.2.c p1.1=p2 at *
  generalize hp3:stg 6854 false D.2.d (s*1024)=p3 at *
  generalize hp4:stg 25769 false D.2.e p3.1=p4 at *
  generalize hp5:stg (-9994) true D.2.f p4.1=p5 at *
  conv=>whnf
  refine ⟨by decide,?_⟩
  conv=>whnf
  rw [hx1,a0]
  conv=>whnf
  refine ⟨by decide,?_⟩
  conv=>whnf
  refine ⟨_,t0,rfl,?_⟩
  conv=>whnf
  refine callV (mulWBW w0 i0) rfl ?_
  conv=>whnf
  rw [q0]
  conv=>whnf
  refine ⟨by decide,?_⟩
  conv=>whnf
  refine ⟨by decide,?_⟩
  conv=>whnf
  rw [b0,s0]
  conv=>whnf
  dsimp -iota only
  refine ⟨by decide,?_⟩
  conv=>whnf
  rw [a1]
  conv=>whnf
  refine ⟨by decide,?_⟩
  conv=>whnf
  refine ⟨_,t1,rfl,?_⟩
  conv=>whnf
  refine callV (mulWBW w0 i1) rfl ?_
  conv=>whnf
  rw [q1]
  conv=>whnf
  refine ⟨by decide,?_⟩
  conv=>whnf
  refine ⟨by decide,?_⟩
  conv=>whnf
  rw [b1,s1]
  conv=>whnf
  dsimp -iota only
  refine ⟨by decide,?_⟩
  conv=>whnf
  rw [a2]
  conv=>whnf
  refine ⟨by decide,?_⟩
  conv=>whnf
  refine ⟨_,t2,rfl,?_⟩
  conv=>whnf
  refine callV (mlaWBW w0 i2) rfl ?_
  conv=>whnf
  rw [q2]
  conv=>whnf
  refine ⟨by decide,?_⟩
  conv=>whnf
  refine ⟨by decide,?_⟩
  conv=>whnf
  rw [b2,s2]
  conv=>whnf
  dsimp -iota only
  rw [nidx k (by omega)]
  refine callV (rsrW w0 (k:=10) j2 (by omega) (by omega)) rfl ?_
  conv=>whnf
  refine callV (sat16W w0) rfl ?_
  conv=>whnf
  refine ⟨⟨Int.natCast_nonneg _,Int.ofNat_lt.2 (by omega:2*k<on)⟩,?_⟩
  conv=>whnf
  obtain ⟨g0,hg0⟩:=wr_get out oo D.1 (oo+2*k) (by omega) (by omega)
  refine ⟨g0,satI (rnd p2.1 10),hg0,rfl,?_⟩
  rw [show (((2*k:Nat):Int)).toNat=2*k from rfl,wr_set out oo D.1 (oo+2*k) _ (by omega) (by omega)]
  conv=>whnf
  refine ⟨by decide,?_⟩
  conv=>whnf
  rw [a3]
  conv=>whnf
  refine ⟨by decide,?_⟩
  conv=>whnf
  refine ⟨_,t3,rfl,?_⟩
  conv=>whnf
  refine callV (mulWBW w0 i3) rfl ?_
  conv=>whnf
  rw [q3]
  conv=>whnf
  refine ⟨by decide,?_⟩
  conv=>whnf
  refine ⟨by decide,?_⟩
  conv=>whnf
  rw [b3,s3]
  conv=>whnf
  dsimp -iota only
  refine ⟨by decide,?_⟩
  conv=>whnf
  rw [a4]
  conv=>whnf
  refine ⟨by decide,?_⟩
  conv=>whnf
  refine ⟨_,t4,rfl,?_⟩
  conv=>whnf
  refine callV (mulWBW w0 i4) rfl ?_
  conv=>whnf
  rw [q4]
  conv=>whnf
  refine ⟨by decide,?_⟩
  conv=>whnf
  refine ⟨by decide,?_⟩
  conv=>whnf
  rw [b4,s4]
  conv=>whnf
  dsimp -iota only
  refine ⟨by decide,?_⟩
  conv=>whnf
  rw [a5]
  conv=>whnf
  refine ⟨by decide,?_⟩
  conv=>whnf
  refine ⟨_,t5,rfl,?_⟩
  conv=>whnf
  refine callV (mlaWBW w0 i5) rfl ?_
  conv=>whnf
  rw [q5]
  conv=>whnf
  refine ⟨by decide,?_⟩
  conv=>whnf
  refine ⟨by decide,?_⟩
  conv=>whnf
  rw [b5,s5]
  conv=>whnf
  dsimp -iota only
  rw [putF_nil]
  conv=>whnf
  rw [nidx k (by omega),nidx1 k (by omega)]
  refine callV (rsrW w0 (k:=10) j5 (by omega) (by omega)) rfl ?_
  conv=>whnf
  refine callV (sat16W w0) rfl ?_
  conv=>whnf
  refine ⟨⟨Int.natCast_nonneg _,Int.ofNat_lt.2 (by omega:2*k+1<on)⟩,?_⟩
  conv=>whnf
  obtain ⟨g1,hg1⟩:=wr_get out oo (D.1++[satI (rnd p2.1 10)]) (oo+(2*k+1)) (by rw [List.length_append,List.length_singleton]; omega) (by omega)
  refine ⟨g1,satI (rnd p5.1 10),hg1,rfl,?_⟩
  rw [show (((2*k+1:Nat):Int)).toNat=2*k+1 from rfl,wr_set out oo (D.1++[satI (rnd p2.1 10)]) (oo+(2*k+1)) _ (by rw [List.length_append,List.length_singleton]; omega) (by omega)]
  conv=>whnf
  rw [ninc (by omega)]
  have z1:=congrArg Prod.fst hfin
  have z2:=congrArg Prod.snd hfin
  simp only at z1 z2
  have z3:wr out oo (dbl z (xs.take (k+1))).1=wr out oo (D.1++[satI (rnd p2.1 10)]++[satI (rnd p5.1 10)]):=by rw [z1,List.append_assoc]; rfl
  have e:=embU (y:=ys) htl z2 z3
  refine ⟨⟨k+1,h3⟩,⟨[0,1,2,3,4,5],?_,rfl,rfl,rfl,rfl,rfl,trivial⟩,Nat.sub_lt_sub_left h3 (Nat.lt_succ_self k)⟩
  exact e
 have h3:n≤k:=Nat.le_of_not_lt fun h=>absurd (of_decide_eq_false h3) (by omega)
 have hk2:k=n:=by omega
 subst hk2
 conv=>whnf
 refine Or.inl ⟨rfl,?_⟩
 rw [List.take_of_length_le (by omega)]
def cTy (n:Nat):TypeId:=if n=29 then 74 else if n=20 then 75 else 76
def kB (l:List Int):Blk := .vec true (cTy l.length) (encI .i16) [] 1 l
def bB (l:List Int):Blk := .vec true 21 (encI .i32) [] 1 l
theorem embA {tl:List CV} (h:Nat6 tl) {z z':Z6} {o o' y co:List Int} (hz:z=z') (ho:o=o') :
 EmbH 6 [0,1,2,3,4,5] [zB z tl,bB o,sB y,kB co,.dead,.dead] [zB z' tl,bB o',sB y,kB co,.dead,.dead]:=by
 subst hz ho
 exact ⟨rfl,⟨congrArg (fun l=>some (Blk.cells 46 (ci .i32 z.a::ci .i32 z.b::ci .i32 z.c::ci .i32 z.d::ci .i32 z.e::ci .i32 z.f::l))) h.symm,rfl,rfl,rfl,rfl,rfl,rfl,rfl,(by decide:4<6),(by decide:5<6),trivial⟩,rfl⟩
def zA (s:Int × Int):Z6:=⟨s.1,s.2,0,0,0,0⟩
def arRun (kd:Nat) (s:Int × Int) (xs:List Int):List Int × (Int × Int):=runL (arS (tapsAR kd).1 (tapsAR kd).2) s xs
def arSt (b io n c oo on oc L:Nat) (tl:List CV) (xs ys out co:List Int) (kd:Nat) (s:Int × Int) (k:Nat):S :=
 ⟨[(0,.o (.c (.sli 0 1 0 2 6))),(1,.o (.c (.sli 1 1 oo on oc))),(2,.o (.c (.sli b 1 io n c))),(3,.o (.c (.vec 3 L))),(11,.o (.c (.val (.int .i64 n)))),(12,.o (.c (.val (.int .i64 k))))],
  [zB (zA (arRun kd s (xs.take k)).2) tl,bB (wr out oo (arRun kd s (xs.take k)).1),sB ys,kB co,.dead,.dead]⟩
theorem taps16 (kd:Nat):S16 (tapsAR kd).1∧S16 (tapsAR kd).2:=by
 unfold tapsAR S16
 split
 ·decide
 split <;> decide
theorem ar2W (w0:World) {b io n c oo on oc L kd:Nat} {tl:List CV} {xs ys out co:List Int} {s:Int × Int} (hb:b=0∨b=2) (hin:Rd w0 b io xs tl ys) (hn:xs.length=n) (hx:∀ x∈xs,S16 x)
 (hz:ArOk (tapsAR kd).1 (tapsAR kd).2 (mAR kd) s) (hc0:co[0]? = some (tapsAR kd).1) (hc1:co[1]? = some (tapsAR kd).2) (hL:1<L) (htl:Nat6 tl)
 (hon:n≤on) (hoo:oo+n≤out.length) (hbig:n≤1000000000) :
 CallsA Tryz.prog w0 70 [.c (.sli 0 1 0 2 6),.c (.sli 1 1 oo on oc),.c (.sli b 1 io n c),.c (.vec 3 L)] [zB (zA s) tl,bB out,sB ys,kB co,.dead,.dead] fun r H=>r = .t []∧H=[zB (zA (arRun kd s xs).2) tl,bB (wr out oo (arRun kd s xs).1),sB ys,kB co,.dead,.dead]:=by
 rcases hb with rfl | rfl
 ·refine callsA_of_ev c70_ ?_
  conv=>whnf
  refine ⟨{k:Nat // k≤n},fun ⟨k,_⟩=>arSt 0 io n c oo on oc L tl xs ys out co kd s k,fun k=>n - k.1,⟨⟨0,Nat.zero_le _⟩,[0,1,2,3,4,5],embA htl rfl (wr_nil out oo),rfl,rfl,rfl,rfl,rfl,rfl,trivial⟩,fun ⟨k,hk⟩ => ?_⟩
  conv=>whnf
  refine ⟨fun h3 => ?_,fun h3 => ?_⟩
  ·have h3:k<n:=lt_t h3
   obtain ⟨x,hk5⟩:∃ x,xs[k]? = some x:=⟨_,List.getElem?_eq_getElem (by omega)⟩
   have hs:S16 x:=hx x (List.mem_of_getElem? hk5)
   have htk:xs.take (k+1)=xs.take k++[x]:=by rw [List.take_add_one,hk5]; rfl
   have hZ:ArOk (tapsAR kd).1 (tapsAR kd).2 (mAR kd) (arRun kd s (xs.take k)).2:=runL_inv (I:=ArOk (tapsAR kd).1 (tapsAR kd).2 (mAR kd)) (V:=S16) (fun _ _ h1 h2=>(arS_ok h1 h2).1) _ _ hz fun x hx'=>hx x (List.mem_of_mem_take hx')
   have hDl:(arRun kd s (xs.take k)).1.length=k:=by unfold arRun; rw [runL_length,List.length_take]; omega
   have hfin:arRun kd s (xs.take (k+1))=((arRun kd s (xs.take k)).1++[(arS (tapsAR kd).1 (tapsAR kd).2 (arRun kd s (xs.take k)).2 x).1],(arS (tapsAR kd).1 (tapsAR kd).2 (arRun kd s (xs.take k)).2 x).2):=by rw [htk]; exact runL_snoc (arS (tapsAR kd).1 (tapsAR kd).2) (xs.take k) x s
   conv=>whnf
   refine ⟨by decide,?_⟩
   conv=>whnf
   refine ⟨⟨Int.natCast_nonneg k,Int.ofNat_lt.2 h3⟩,?_⟩
   conv=>whnf
   refine hin k x hk5 (zA (arRun kd s (xs.take k)).2) (bB (wr out oo (arRun kd s (xs.take k)).1)) (kB co) .dead .dead _ ?_
   generalize arRun kd s (xs.take k)=D at *
   obtain ⟨Dl,d0,d1⟩:=D
   have ho:=(arS_ok hZ hs).2
   obtain ⟨u,hu,hub⟩:=ar_s2 hZ
   have hd1:iB 300000001 d1:=by
    have:=wb_bd (a:=u*4) (b:=(tapsAR kd).2) (A:=600000000) (by unfold iB at hub ⊢; omega) (taps16 kd).2
    rw [← hu] at this
    exact this
   have ho2:arS (tapsAR kd).1 (tapsAR kd).2 (d0,d1) x=(d0+x*256,(d1+wb ((d0+x*256)*4) (tapsAR kd).1,wb ((d0+x*256)*4) (tapsAR kd).2)):=rfl
   simp only at ho hfin hDl
   rw [ho2] at ho hfin
   obtain ⟨hT0,hT1⟩:=taps16 kd
   have hx1:IntKind.i32.wrap (IntKind.i32.wrap x*2 ^ min 8 IntKind.i32.bits)=x*256:=by
    have h:=hs
    unfold S16 at h
    rw [wi32 (n:=x) (by omega),show min 8 IntKind.i32.bits=8 from rfl,show (2:Int) ^ 8=256 from rfl,wi32 (by omega)]
   have ho1:IntKind.i32.wrap (d0+x*256)=d0+x*256:=wi32 (by unfold iB at ho; simp only at ho; omega)
   have ho4:IntKind.i32.wrap ((d0+x*256)*2 ^ min 2 IntKind.i32.bits)=(d0+x*256)*4:=by
    rw [show min 2 IntKind.i32.bits=2 from rfl,show (2:Int) ^ 2=4 from rfl]
    exact wi32 (by unfold iB at ho; simp only at ho; omega)
   have hI:I32 ((d0+x*256)*4):=by unfold iB at ho; simp only at ho; unfold I32; omega
   have hw0:IntKind.i32.wrap (d1+wb ((d0+x*256)*4) (IntKind.i16.wrap (IntKind.i32.wrap (tapsAR kd).1)))=d1+wb ((d0+x*256)*4) (tapsAR kd).1:=by
    rw [wi32 (n:=(tapsAR kd).1) (by unfold S16 at hT0; omega),wi16 hT0]
    have:=wb_bd (a:=(d0+x*256)*4) (A:=600000000) (by unfold iB at ho ⊢; simp only at ho; omega) hT0
    unfold iB at this hd1
    exact wi32 (by omega)
   have hw1:wb ((d0+x*256)*4) (IntKind.i16.wrap (IntKind.i32.wrap (tapsAR kd).2))=wb ((d0+x*256)*4) (tapsAR kd).2:=by
    rw [wi32 (n:=(tapsAR kd).2) (by unfold S16 at hT1; omega),wi16 hT1]
   generalize hO:d0+x*256=o at *
   generalize hwe0:d1+wb (o*4) (tapsAR kd).1=w0' at *
   generalize hwe1:wb (o*4) (tapsAR kd).2=w1' at *
   conv=>whnf
   dsimp -iota only [zA]
   rw [hx1,hO,ho1]
   conv=>whnf
   refine ⟨⟨Int.natCast_nonneg _,Int.ofNat_lt.2 (by omega:k<on)⟩,?_⟩
   conv=>whnf
   obtain ⟨g0,hg0⟩:=wr_get out oo Dl (oo+k) (by omega) (by omega)
   refine ⟨g0,o,hg0,rfl,?_⟩
   rw [show ((k:Int)).toNat=k from rfl,wr_set out oo Dl (oo+k) _ (by omega) (by omega)]
   conv=>whnf
   dsimp -iota only
   rw [ho4]
   refine ⟨by decide,?_⟩
   conv=>whnf
   refine ⟨⟨by decide,Int.ofNat_lt.2 (by omega:0<L)⟩,?_⟩
   conv=>whnf
   refine ⟨_,hc0,?_⟩
   conv=>whnf
   refine callV (mlaWBW w0 hI) rfl ?_
   conv=>whnf
   rw [hw0]
   refine ⟨trivial,?_⟩
   conv=>whnf
   refine ⟨by decide,?_⟩
   conv=>whnf
   refine ⟨trivial,?_⟩
   conv=>whnf
   dsimp -iota only
   refine ⟨⟨by decide,Int.ofNat_lt.2 (by omega:1<L)⟩,?_⟩
   conv=>whnf
   refine ⟨_,hc1,?_⟩
   conv=>whnf
   refine callV (mulWBW w0 hI) rfl ?_
   conv=>whnf
   rw [hw1]
   conv=>whnf
   refine ⟨by decide,?_⟩
   conv=>whnf
   rw [ninc (by omega)]
   have z1:=congrArg Prod.fst hfin
   have z2:=congrArg Prod.snd hfin
   simp only at z1 z2
   have z3:wr out oo (arRun kd s (xs.take (k+1))).1=wr out oo (Dl++[o]):=by rw [z1]
   have z4:zA (arRun kd s (xs.take (k+1))).2=zA (w0',w1'):=by rw [z2]
   have e:=embA (y:=ys) (co:=co) htl z4 z3
   refine ⟨⟨k+1,h3⟩,⟨[0,1,2,3,4,5],?_,rfl,rfl,rfl,rfl,rfl,rfl,trivial⟩,Nat.sub_lt_sub_left h3 (Nat.lt_succ_self k)⟩
   exact e
  have h3:n≤k:=Nat.le_of_not_lt fun h=>absurd (of_decide_eq_false h3) (by omega)
  have hk2:k=n:=by omega
  subst hk2
  conv=>whnf
  refine Or.inl ⟨rfl,?_⟩
  rw [List.take_of_length_le (by omega)]
 refine callsA_of_ev c70_ ?_
 conv=>whnf
 refine ⟨{k:Nat // k≤n},fun ⟨k,_⟩=>arSt 2 io n c oo on oc L tl xs ys out co kd s k,fun k=>n - k.1,⟨⟨0,Nat.zero_le _⟩,[0,1,2,3,4,5],embA htl rfl (wr_nil out oo),rfl,rfl,rfl,rfl,rfl,rfl,trivial⟩,fun ⟨k,hk⟩ => ?_⟩
 conv=>whnf
 refine ⟨fun h3 => ?_,fun h3 => ?_⟩
 ·have h3:k<n:=lt_t h3
  obtain ⟨x,hk5⟩:∃ x,xs[k]? = some x:=⟨_,List.getElem?_eq_getElem (by omega)⟩
  have hs:S16 x:=hx x (List.mem_of_getElem? hk5)
  have htk:xs.take (k+1)=xs.take k++[x]:=by rw [List.take_add_one,hk5]; rfl
  have hZ:ArOk (tapsAR kd).1 (tapsAR kd).2 (mAR kd) (arRun kd s (xs.take k)).2:=runL_inv (I:=ArOk (tapsAR kd).1 (tapsAR kd).2 (mAR kd)) (V:=S16) (fun _ _ h1 h2=>(arS_ok h1 h2).1) _ _ hz fun x hx'=>hx x (List.mem_of_mem_take hx')
  have hDl:(arRun kd s (xs.take k)).1.length=k:=by unfold arRun; rw [runL_length,List.length_take]; omega
  have hfin:arRun kd s (xs.take (k+1))=((arRun kd s (xs.take k)).1++[(arS (tapsAR kd).1 (tapsAR kd).2 (arRun kd s (xs.take k)).2 x).1],(arS (tapsAR kd).1 (tapsAR kd).2 (arRun kd s (xs.take k)).2 x).2):=by rw [htk]; exact runL_snoc (arS (tapsAR kd).1 (tapsAR kd).2) (xs.take k) x s
  conv=>whnf
  refine ⟨by decide,?_⟩
  conv=>whnf
  refine ⟨⟨Int.natCast_nonneg k,Int.ofNat_lt.2 h3⟩,?_⟩
  conv=>whnf
  refine hin k x hk5 (zA (arRun kd s (xs.take k)).2) (bB (wr out oo (arRun kd s (xs.take k)).1)) (kB co) .dead .dead _ ?_
  generalize arRun kd s (xs.take k)=D at *
  obtain ⟨Dl,d0,d1⟩:=D
  have ho:=(arS_ok hZ hs).2
  obtain ⟨u,hu,hub⟩:=ar_s2 hZ
  have hd1:iB 300000001 d1:=by
   have:=wb_bd (a:=u*4) (b:=(tapsAR kd).2) (A:=600000000) (by unfold iB at hub ⊢; omega) (taps16 kd).2
   rw [← hu] at this
   exact this
  have ho2:arS (tapsAR kd).1 (tapsAR kd).2 (d0,d1) x=(d0+x*256,(d1+wb ((d0+x*256)*4) (tapsAR kd).1,wb ((d0+x*256)*4) (tapsAR kd).2)):=rfl
  simp only at ho hfin hDl
  rw [ho2] at ho hfin
  obtain ⟨hT0,hT1⟩:=taps16 kd
  have hx1:IntKind.i32.wrap (IntKind.i32.wrap x*2 ^ min 8 IntKind.i32.bits)=x*256:=by
   have h:=hs
   unfold S16 at h
   rw [wi32 (n:=x) (by omega),show min 8 IntKind.i32.bits=8 from rfl,show (2:Int) ^ 8=256 from rfl,wi32 (by omega)]
  have ho1:IntKind.i32.wrap (d0+x*256)=d0+x*256:=wi32 (by unfold iB at ho; simp only at ho; omega)
  have ho4:IntKind.i32.wrap ((d0+x*256)*2 ^ min 2 IntKind.i32.bits)=(d0+x*256)*4:=by
   rw [show min 2 IntKind.i32.bits=2 from rfl,show (2:Int) ^ 2=4 from rfl]
   exact wi32 (by unfold iB at ho; simp only at ho; omega)
  have hI:I32 ((d0+x*256)*4):=by unfold iB at ho; simp only at ho; unfold I32; omega
  have hw0:IntKind.i32.wrap (d1+wb ((d0+x*256)*4) (IntKind.i16.wrap (IntKind.i32.wrap (tapsAR kd).1)))=d1+wb ((d0+x*256)*4) (tapsAR kd).1:=by
   rw [wi32 (n:=(tapsAR kd).1) (by unfold S16 at hT0; omega),wi16 hT0]
   have:=wb_bd (a:=(d0+x*256)*4) (A:=600000000) (by unfold iB at ho ⊢; simp only at ho; omega) hT0
   unfold iB at this hd1
   exact wi32 (by omega)
  have hw1:wb ((d0+x*256)*4) (IntKind.i16.wrap (IntKind.i32.wrap (tapsAR kd).2))=wb ((d0+x*256)*4) (tapsAR kd).2:=by
   rw [wi32 (n:=(tapsAR kd).2) (by unfold S16 at hT1; omega),wi16 hT1]
  generalize hO:d0+x*256=o at *
  generalize hwe0:d1+wb (o*4) (tapsAR kd).1=w0' at *
  generalize hwe1:wb (o*4) (tapsAR kd).2=w1' at *
  conv=>whnf
  dsimp -iota only [zA]
  rw [hx1,hO,ho1]
  conv=>whnf
  refine ⟨⟨Int.natCast_nonneg _,Int.ofNat_lt.2 (by omega:k<on)⟩,?_⟩
  conv=>whnf
  obtain ⟨g0,hg0⟩:=wr_get out oo Dl (oo+k) (by omega) (by omega)
  refine ⟨g0,o,hg0,rfl,?_⟩
  rw [show ((k:Int)).toNat=k from rfl,wr_set out oo Dl (oo+k) _ (by omega) (by omega)]
  conv=>whnf
  dsimp -iota only
  rw [ho4]
  refine ⟨by decide,?_⟩
  conv=>whnf
  refine ⟨⟨by decide,Int.ofNat_lt.2 (by omega:0<L)⟩,?_⟩
  conv=>whnf
  refine ⟨_,hc0,?_⟩
  conv=>whnf
  refine callV (mlaWBW w0 hI) rfl ?_
  conv=>whnf
  rw [hw0]
  refine ⟨trivial,?_⟩
  conv=>whnf
  refine ⟨by decide,?_⟩
  conv=>whnf
  refine ⟨trivial,?_⟩
  conv=>whnf
  dsimp -iota only
  refine ⟨⟨by decide,Int.ofNat_lt.2 (by omega:1<L)⟩,?_⟩
  conv=>whnf
  refine ⟨_,hc1,?_⟩
  conv=>whnf
  refine callV (mulWBW w0 hI) rfl ?_
  conv=>whnf
  rw [hw1]
  conv=>whnf
  refine ⟨by decide,?_⟩
  conv=>whnf
  rw [ninc (by omega)]
  have z1:=congrArg Prod.fst hfin
  have z2:=congrArg Prod.snd hfin
  simp only at z1 z2
  have z3:wr out oo (arRun kd s (xs.take (k+1))).1=wr out oo (Dl++[o]):=by rw [z1]
  have z4:zA (arRun kd s (xs.take (k+1))).2=zA (w0',w1'):=by rw [z2]
  have e:=embA (y:=ys) (co:=co) htl z4 z3
  refine ⟨⟨k+1,h3⟩,⟨[0,1,2,3,4,5],?_,rfl,rfl,rfl,rfl,rfl,rfl,trivial⟩,Nat.sub_lt_sub_left h3 (Nat.lt_succ_self k)⟩
  exact e
 have h3:n≤k:=Nat.le_of_not_lt fun h=>absurd (of_decide_eq_false h3) (by omega)
 have hk2:k=n:=by omega
 subst hk2
 conv=>whnf
 refine Or.inl ⟨rfl,?_⟩
 rw [List.take_of_length_le (by omega)]
def f12L:List (List Int):=[[189,-600,617,30567],[117,-159,-1070,29704],[52,221,-2392,28276],[-4,529,-3350,26341],[-48,758,-3956,23973],[-80,905,-4235,21254],[-99,972,-4222,18278],[-107,967,-3957,15143],[-103,896,-3487,11950],[-91,773,-2865,8798],[-71,611,-2143,5784],[-46,425,-1375,2996]]
def f12 (t i:Nat):Int:=(f12L.getD t []).getD i 0
theorem f12S:∀ t:Nat,t<12 → ∀ i:Nat,i<4 → -32768≤f12 t i∧f12 t i≤32767:=by decide
theorem f12sum:∀ t:Nat,t<12→((f12 t 0).natAbs+(f12 t 1).natAbs+(f12 t 2).natAbs+(f12 t 3).natAbs+(f12 (11 - t) 0).natAbs+(f12 (11 - t) 1).natAbs+(f12 (11 - t) 2).natAbs+(f12 (11 - t) 3).natAbs)≤60000:=by decide
def at12 (b:List Int) (p:Int):Int :=
 let t:=(p*12 / 65536).toNat
 b.getD 0 0*f12 t 0+b.getD 1 0*f12 t 1+b.getD 2 0*f12 t 2+b.getD 3 0*f12 t 3+b.getD 4 0*f12 (11 - t) 3+b.getD 5 0*f12 (11 - t) 2+b.getD 6 0*f12 (11 - t) 1+b.getD 7 0*f12 (11 - t) 0
def tab12 (w0:World):Prop := ∀ t:Nat,t<12 → ∀ i:Nat,i<4→w0.cell? ((((⟨15,0,none⟩:Addr).add (t*4)).add (i*1)).add 0)=some (.int .i16 (f12 t i))
theorem wadd (a b:Int):IntKind.i32.wrap (IntKind.i32.wrap a+b)=IntKind.i32.wrap (a+b):=by
 rw [IntKind.wrap_i32,IntKind.wrap_i32,IntKind.wrap_i32]
 omega
theorem sum8 (a b c d e f g h:Int):IntKind.i32.wrap (IntKind.i32.wrap (IntKind.i32.wrap (IntKind.i32.wrap (IntKind.i32.wrap (IntKind.i32.wrap (IntKind.i32.wrap (a+b)+c)+d)+e)+f)+g)+h)=IntKind.i32.wrap (a+b+c+d+e+f+g+h):=by
 simp only [wadd]
theorem mulBBW' (w0:World) {a b:Int} (ha:S16 a) (hb:S16 b):CallsA Tryz.prog w0 94 [.c (.val (.int .i32 (IntKind.i32.wrap a))),.c (.val (.int .i32 (IntKind.i32.wrap b)))] [] fun r H=>r = .o (.c (.val (.int .i32 (a*b))))∧H=[]:=by
 rw [wi32 (n:=a) (by unfold S16 at ha; omega),wi32 (n:=b) (by unfold S16 at hb; omega)]
 exact mulBBW w0 ha hb
theorem mlaBBW' (w0:World) {a b c:Int} (hb:S16 b) (hc:S16 c):CallsA Tryz.prog w0 95 [.c (.val (.int .i32 a)),.c (.val (.int .i32 (IntKind.i32.wrap b))),.c (.val (.int .i32 (IntKind.i32.wrap c)))] [] fun r H=>r = .o (.c (.val (.int .i32 (IntKind.i32.wrap (a+b*c)))))∧H=[]:=by
 rw [wi32 (n:=b) (by unfold S16 at hb; omega),wi32 (n:=c) (by unfold S16 at hc; omega)]
 exact mlaBBW w0 hb hc
theorem prod_bd {x y:Int} (hx:S16 x):iB (32768*y.natAbs) (x*y):=mul_bd (X:=32768) (Y:=y.natAbs) (by unfold S16 at hx; unfold iB; omega) (by unfold iB; omega)
theorem at12_ok {b:List Int} {t:Nat} (hb:∀ i,S16 (b.getD i 0)) (ht:t<12) {p:Int} (hp:(p*12 / 65536).toNat=t):iB 2000000000 (at12 b p):=by
 unfold at12
 rw [hp]
 have h:=f12sum t ht
 have e0:=prod_bd (y:=f12 t 0) (hb 0)
 have e1:=prod_bd (y:=f12 t 1) (hb 1)
 have e2:=prod_bd (y:=f12 t 2) (hb 2)
 have e3:=prod_bd (y:=f12 t 3) (hb 3)
 have e4:=prod_bd (y:=f12 (11 - t) 3) (hb 4)
 have e5:=prod_bd (y:=f12 (11 - t) 2) (hb 5)
 have e6:=prod_bd (y:=f12 (11 - t) 1) (hb 6)
 have e7:=prod_bd (y:=f12 (11 - t) 0) (hb 7)
 unfold iB at *
 simp only
 omega
theorem getD_S16 {l:List Int} (h:∀ x∈l,S16 x) (i:Nat):S16 (l.getD i 0):=by
 rw [List.getD_eq_getElem?_getD]
 cases hi:l[i]? with
 | none=>simp [S16]
 | some x=>exact h x (List.mem_of_getElem? hi)
theorem low16 {m:Nat} (h:m<2147483648):IntKind.i32.wrap (IntKind.u32.wrap ((BitVec.ofInt IntKind.u32.bits (IntKind.u32.wrap ((m:Nat):Int)) &&& BitVec.ofInt IntKind.u32.bits ((65535:Nat):Int)).toNat:Int))=((m % 65536:Nat):Int):=by
 rw [nwrap32 (n:=m) (by omega),nand32 (by omega) (by omega),show 65535=2 ^ 16 - 1 from rfl,Nat.and_two_pow_sub_one_eq_mod]
 rw [wi32 (by omega)]
theorem hi16 {m:Nat} (_h:m<2147483648):((m:Nat):Int).fdiv (2 ^ min 16 IntKind.i32.bits)=((m / 65536:Nat):Int):=by
 rw [show min 16 IntKind.i32.bits=16 from rfl,nfdiv]
def iiSt (oo on oc BL BC lim r:Nat) (out buf:List Int) (j:Nat):S :=
 ⟨[(0,.o (.c (.sli 0 1 oo on oc))),(1,.o (.c (.sli 1 1 0 BL BC))),(2,.o (.c (.val (.int .i32 lim)))),(3,.o (.c (.val (.int .i32 r)))),(9,.o (.c (.val (.int .i64 j)))),(10,.o (.c (.val (.int .i32 ((j*r:Nat):Int)))))],
  [sB (wr out oo ((firL at12 15 r lim buf).take j)),sB buf]⟩
theorem firL_snoc (at_:List Int→Int→Int) (bits r lim:Nat) (buf:List Int) {j:Nat} (h:j<cntI lim r) :
 (firL at_ bits r lim buf).take (j+1)=(firL at_ bits r lim buf).take j++[satI (rnd (at_ (buf.drop (j*r / 65536)) ((j*r % 65536:Nat):Int)) bits)]:=by
 have:(firL at_ bits r lim buf)[j]? = some (satI (rnd (at_ (buf.drop (j*r / 65536)) ((j*r % 65536:Nat):Int)) bits)):=by
  unfold firL
  rw [List.getElem?_map,List.getElem?_range h]
  rfl
 rw [List.take_add_one,this]
 rfl
theorem iirIntW (w0:World) (hT:tab12 w0) {oo on oc BL BC lim r:Nat} {out buf:List Int} (hr:0<r) (hlr:lim+r<1000000000) (hBL:BL≤buf.length) (_hBC:BL≤BC) (hbuf:∀ x∈buf,S16 x)
 (hq:lim / 65536+8≤BL) (hon:cntI lim r≤on) (hoo:oo+cntI lim r≤out.length) :
 CallsA Tryz.prog w0 69 [.c (.sli 0 1 oo on oc),.c (.sli 1 1 0 BL BC),.c (.val (.int .i32 lim)),.c (.val (.int .i32 r))] [sB out,sB buf] fun v H=>v = .o (.c (.val (.int .i64 (cntI lim r))))∧H=[sB (wr out oo (firL at12 15 r lim buf)),sB buf]:=by
 refine callsA_of_ev c69_ ?_
 conv=>whnf
 refine Or.inl ?_
 conv=>whnf
 refine ⟨{j:Nat // j≤cntI lim r},fun ⟨j,_⟩=>iiSt oo on oc BL BC lim r out buf j,fun j=>cntI lim r - j.1,⟨⟨0,Nat.zero_le _⟩,[0,1],⟨rfl,⟨congrArg (fun l=>some (sB l)) (wr_nil out oo).symm,rfl,rfl,rfl,trivial⟩,rfl⟩,rfl,rfl,rfl,rfl,rfl,congrArg (fun z=>some (AV.o (.c (.val (.int .i32 z))))) (by simp),trivial⟩,fun ⟨j,hj⟩ => ?_⟩
 conv=>whnf
 refine ⟨fun h3 => ?_,fun h3 => ?_⟩
 ·have h3:j*r<lim:=lt_t h3
  have h4:j<cntI lim r:=(cntI_lt hr).2 h3
  have hj1:j≤j*r:=Nat.le_mul_of_pos_right _ hr
  have hjr:(j+1)*r=j*r+r:=Nat.succ_mul j r
  obtain ⟨t,hte⟩:∃ t,t=j*r % 65536*12 / 65536:=⟨_,rfl⟩
  have ht:t<12:=by omega
  have ht11:11 - t<12:=by omega
  obtain ⟨q,hqe⟩:∃ q,q=j*r / 65536:=⟨_,rfl⟩
  have hqq:q+8≤BL:=by
   have:j*r / 65536≤lim / 65536:=Nat.div_le_div_right (by omega)
   omega
  have hb:∀ i,i<8→buf[0+q+i]? = some ((buf.drop q).getD i 0):=by
   intro i hi
   rw [List.getD_eq_getElem?_getD,List.getElem?_drop,Nat.zero_add,List.getElem?_eq_getElem (by omega)]
   rfl
  have hbS:∀ i,S16 ((buf.drop q).getD i 0):=getD_S16 fun x hx=>hbuf x (List.mem_of_mem_drop hx)
  have hTt:wb ((j*r % 65536:Nat):Int) (IntKind.i16.wrap ((12:Nat):Int))=(t:Int):=by
   rw [wi16 (by unfold S16; decide)]
   unfold wb
   rw [Int.fdiv_eq_ediv_of_nonneg _ (by omega)]
   omega
  have h11:IntKind.i32.wrap (((11:Nat):Int) - (t:Int))=((11 - t:Nat):Int):=by rw [wi32 (by omega)]; omega
  have hq64:IntKind.i64.wrap ((j*r / 65536:Nat):Int)=(q:Int):=by rw [wi64 (by omega)]; omega
  have hat:(((j*r % 65536:Nat):Int)*12 / 65536).toNat=t:=by omega
  have hsn:=firL_snoc at12 15 r lim buf h4
  rw [← hqe] at hsn
  have hbd:=at12_ok (b:=buf.drop q) hbS ht hat
  have hlen:((firL at12 15 r lim buf).take j).length=j:=by rw [List.length_take,firL_length]; omega
  have hval:at12 (buf.drop q) ((j*r % 65536:Nat):Int)=(buf.drop q).getD 0 0*f12 t 0+(buf.drop q).getD 1 0*f12 t 1+(buf.drop q).getD 2 0*f12 t 2+(buf.drop q).getD 3 0*f12 t 3+(buf.drop q).getD 4 0*f12 (11 - t) 3+(buf.drop q).getD 5 0*f12 (11 - t) 2+(buf.drop q).getD 6 0*f12 (11 - t) 1+(buf.drop q).getD 7 0*f12 (11 - t) 0:=by
   unfold at12
   rw [hat]
  conv=>whnf
  rw [low16 (by omega)]
  refine callV (mulWBW w0 (a:=((j*r % 65536:Nat):Int)) (by unfold I32; omega)) rfl ?_
  conv=>whnf
  rw [hTt]
  conv=>whnf
  rw [hi16 (by omega),hq64]
  refine ⟨⟨by omega,by omega,by omega⟩,?_⟩
  conv=>whnf
  refine ⟨fun _=>?_,fun h1 h2=>absurd h1 (by omega)⟩
  conv=>whnf
  dsimp -iota only
  refine ⟨⟨by decide,Int.ofNat_lt.2 (by omega:0<BL - q)⟩,?_⟩
  conv=>whnf
  refine ⟨_,hb 0 (by decide),?_⟩
  conv=>whnf
  refine ⟨⟨Int.natCast_nonneg _,Int.ofNat_lt.2 ht⟩,?_⟩
  conv=>whnf
  refine ⟨by decide,?_⟩
  conv=>whnf
  refine ⟨_,hT _ ht 0 (by decide),rfl,?_⟩
  conv=>whnf
  refine callV (mulBBW' w0 (hbS 0) (f12S _ ht 0 (by decide))) rfl ?_
  conv=>whnf
  refine ⟨trivial,?_⟩
  conv=>whnf
  dsimp -iota only
  refine ⟨⟨by decide,Int.ofNat_lt.2 (by omega:1<BL - q)⟩,?_⟩
  conv=>whnf
  refine ⟨_,hb 1 (by decide),?_⟩
  conv=>whnf
  refine ⟨⟨Int.natCast_nonneg _,Int.ofNat_lt.2 ht⟩,?_⟩
  conv=>whnf
  refine ⟨by decide,?_⟩
  conv=>whnf
  refine ⟨_,hT _ ht 1 (by decide),rfl,?_⟩
  conv=>whnf
  refine callV (mlaBBW' w0 (hbS 1) (f12S _ ht 1 (by decide))) rfl ?_
  conv=>whnf
  refine ⟨trivial,?_⟩
  conv=>whnf
  dsimp -iota only
  refine ⟨⟨by decide,Int.ofNat_lt.2 (by omega:2<BL - q)⟩,?_⟩
  conv=>whnf
  refine ⟨_,hb 2 (by decide),?_⟩
  conv=>whnf
  refine ⟨⟨Int.natCast_nonneg _,Int.ofNat_lt.2 ht⟩,?_⟩
  conv=>whnf
  refine ⟨by decide,?_⟩
  conv=>whnf
  refine ⟨_,hT _ ht 2 (by decide),rfl,?_⟩
  conv=>whnf
  refine callV (mlaBBW' w0 (hbS 2) (f12S _ ht 2 (by decide))) rfl ?_
  conv=>whnf
  refine ⟨trivial,?_⟩
  conv=>whnf
  dsimp -iota only
  refine ⟨⟨by decide,Int.ofNat_lt.2 (by omega:3<BL - q)⟩,?_⟩
  conv=>whnf
  refine ⟨_,hb 3 (by decide),?_⟩
  conv=>whnf
  refine ⟨⟨Int.natCast_nonneg _,Int.ofNat_lt.2 ht⟩,?_⟩
  conv=>whnf
  refine ⟨by decide,?_⟩
  conv=>whnf
  refine ⟨_,hT _ ht 3 (by decide),rfl,?_⟩
  conv=>whnf
  refine callV (mlaBBW' w0 (hbS 3) (f12S _ ht 3 (by decide))) rfl ?_
  conv=>whnf
  refine ⟨trivial,?_⟩
  conv=>whnf
  dsimp -iota only
  conv=>whnf
  refine ⟨⟨by decide,Int.ofNat_lt.2 (by omega:4<BL - q)⟩,?_⟩
  conv=>whnf
  refine ⟨_,hb 4 (by decide),?_⟩
  conv=>whnf
  rw [h11]
  refine ⟨⟨Int.natCast_nonneg _,Int.ofNat_lt.2 ht11⟩,?_⟩
  conv=>whnf
  refine ⟨by decide,?_⟩
  conv=>whnf
  refine ⟨_,hT _ ht11 3 (by decide),rfl,?_⟩
  conv=>whnf
  refine callV (mlaBBW' w0 (hbS 4) (f12S _ ht11 3 (by decide))) rfl ?_
  conv=>whnf
  refine ⟨trivial,?_⟩
  conv=>whnf
  dsimp -iota only
  conv=>whnf
  refine ⟨⟨by decide,Int.ofNat_lt.2 (by omega:5<BL - q)⟩,?_⟩
  conv=>whnf
  refine ⟨_,hb 5 (by decide),?_⟩
  conv=>whnf
  rw [h11]
  refine ⟨⟨Int.natCast_nonneg _,Int.ofNat_lt.2 ht11⟩,?_⟩
  conv=>whnf
  refine ⟨by decide,?_⟩
  conv=>whnf
  refine ⟨_,hT _ ht11 2 (by decide),rfl,?_⟩
  conv=>whnf
  refine callV (mlaBBW' w0 (hbS 5) (f12S _ ht11 2 (by decide))) rfl ?_
  conv=>whnf
  refine ⟨trivial,?_⟩
  conv=>whnf
  dsimp -iota only
  conv=>whnf
  refine ⟨⟨by decide,Int.ofNat_lt.2 (by omega:6<BL - q)⟩,?_⟩
  conv=>whnf
  refine ⟨_,hb 6 (by decide),?_⟩
  conv=>whnf
  rw [h11]
  refine ⟨⟨Int.natCast_nonneg _,Int.ofNat_lt.2 ht11⟩,?_⟩
  conv=>whnf
  refine ⟨by decide,?_⟩
  conv=>whnf
  refine ⟨_,hT _ ht11 1 (by decide),rfl,?_⟩
  conv=>whnf
  refine callV (mlaBBW' w0 (hbS 6) (f12S _ ht11 1 (by decide))) rfl ?_
  conv=>whnf
  refine ⟨trivial,?_⟩
  conv=>whnf
  dsimp -iota only
  conv=>whnf
  refine ⟨⟨by decide,Int.ofNat_lt.2 (by omega:7<BL - q)⟩,?_⟩
  conv=>whnf
  refine ⟨_,hb 7 (by decide),?_⟩
  conv=>whnf
  rw [h11]
  refine ⟨⟨Int.natCast_nonneg _,Int.ofNat_lt.2 ht11⟩,?_⟩
  conv=>whnf
  refine ⟨by decide,?_⟩
  conv=>whnf
  refine ⟨_,hT _ ht11 0 (by decide),rfl,?_⟩
  conv=>whnf
  refine callV (mlaBBW' w0 (hbS 7) (f12S _ ht11 0 (by decide))) rfl ?_
  conv=>whnf
  refine ⟨trivial,?_⟩
  conv=>whnf
  dsimp -iota only
  conv=>whnf
  rw [sum8,← hval,wi32 (n:=at12 (buf.drop q) ((j*r % 65536:Nat):Int)) (by unfold iB at hbd; omega)]
  generalize at12 (buf.drop q) ((j*r % 65536:Nat):Int)=v at *
  refine callV (rsrW w0 (k:=15) (iB_I32 hbd (by omega)) (by omega) (by omega)) rfl ?_
  conv=>whnf
  refine callV (sat16W w0) rfl ?_
  conv=>whnf
  dsimp -iota only
  refine ⟨⟨Int.natCast_nonneg _,Int.ofNat_lt.2 (by omega:j<on)⟩,?_⟩
  conv=>whnf
  obtain ⟨g0,hg0⟩:=wr_get out oo ((firL at12 15 r lim buf).take j) (oo+j) (by omega) (by omega)
  refine ⟨g0,satI (rnd v 15),hg0,rfl,?_⟩
  rw [show ((j:Int)).toNat=j from rfl,wr_set out oo ((firL at12 15 r lim buf).take j) (oo+j) _ (by omega) (by omega)]
  conv=>whnf
  rw [ninc (by omega),show IntKind.i32.wrap (((j*r:Nat):Int)+(r:Int))=(((j+1)*r:Nat):Int) from by rw [wi32 (by omega)]; omega]
  refine ⟨⟨j+1,h4⟩,⟨[0,1],⟨rfl,⟨congrArg (fun l=>some (sB (wr out oo l))) hsn.symm,rfl,rfl,rfl,trivial⟩,rfl⟩,rfl,rfl,rfl,rfl,rfl,rfl,trivial⟩,Nat.sub_lt_sub_left h4 (Nat.lt_succ_self j)⟩
 have h3:lim≤j*r:=lt_f h3
 have h4:¬ j<cntI lim r:=fun h=>absurd ((cntI_lt hr).1 h) (by omega)
 have h5:j=cntI lim r:=by omega
 subst h5
 conv=>whnf
 refine Or.inl ⟨rfl,?_⟩
 rw [List.take_of_length_le (by rw [firL_length]; exact Nat.le_refl _)]
end Go.Proofs.YtbpogapddpacoaaGreatDoor
end
