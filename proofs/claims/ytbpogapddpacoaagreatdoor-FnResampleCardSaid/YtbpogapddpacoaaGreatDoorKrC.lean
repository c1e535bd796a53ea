/- Joined: IrA, RmA. -/
import Derived.Test.YtbpogapddpacoaaGreatDoorKrB
section
namespace Go.Vc
abbrev gm (d s:Nat):G:=G.mk (some d) none (I.mov (X.t s))
abbrev gg (d:Nat) (i:I):G:=G.mk (some d) none i
abbrev gq (d c:Nat) (b:Bool) (i:I):G:=G.mk (some d) (some (c,b)) i
theorem zF {p:Prop} (g:false=true):p:=Bool.noConfusion g
theorem zT {p:Prop} (g:true=false):p:=Bool.noConfusion g
theorem cL0 {P:Program} {w0:World} {f:FuncId} {args0 args:List A1} {H:List Blk} {R0 R:AV→List Blk→Prop} (h:CallsA P w0 f args0 [] R0)
 (hR:∀ r0 H0',R0 r0 H0'→R (r0.ren (widen [] H H0')) (putAll [] (H0'.map (Blk.ren (widen [] H H0'))) H)) (hargs:args0.map (A1.ren [])=args:=by rfl):CallsA P w0 f args H R:=CallsA.lift (H0:=[]) [] rfl trivial hargs h hR
abbrev sr (l:List G) (x:IC):IC:=IC.seq (IC.reg l) x
abbrev xk (k:IntKind) (n:Nat):X:=X.k (Value.int k (n:Int))
end Go.Vc
end
section
namespace Go.Proofs.YtbpogapddpacoaaGreatDoor
open Go Go.Vc
set_option maxRecDepth 100000
set_option maxHeartbeats 8000000
theorem c9_:compF Tryz.prog 9=some (.mk (sr [gg 0 (.mov (.k (.bool false)))] (sr [gg 7 (.bld [(.int .i64 ((0:Nat):Int)),(.int .u32 ((0:Nat):Int)),(.int .u32 ((0:Nat):Int)),(.int .u32 ((0:Nat):Int)),(.int .i64 ((0:Nat):Int)),(.slice none 0 0)] [(0,(1,(xk .i64 3))),(1,(1,(xk .u32 1000))),(2,(1,(xk .u32 777)))]),gg 8 (.bsl 59 6 1 [(.int .i64 ((0:Nat):Int)),(.int .u32 ((0:Nat):Int)),(.int .u32 ((0:Nat):Int)),(.int .u32 ((0:Nat):Int)),(.int .i64 ((0:Nat):Int)),(.slice none 0 0)] [(0,(6,(.t 7)))]),gg 9 (.call 16 [(.t 8)]),gm 1 9] (sr [gm 11 1,gg 12 (.call 17 [(.t 11)]),gm 10 12,gg 13 (.ext (.t 10) 0),gg 14 (.ext (.t 10) 1),gg 15 (.ext (.t 10) 2),gm 2 13,gm 3 14,gm 4 15] (sr [gm 17 2,gm 18 1,gg 19 (.call 18 [(.t 17),(.t 18)]),gm 16 19,gg 20 (.ext (.t 16) 0),gg 21 (.ext (.t 16) 1),gm 5 20,gm 6 21] (sr [gm 22 4,gg 23 (.bin .eql (.t 22) (xk .i64 0)),gm 24 23,gq 25 24 true (.mov (.t 6)),gq 26 24 true (.bin .eql (.t 25) (xk .i64 0)),gg 27 (.pick (.t 24) (.t 26) (.k (.bool false))),gm 28 27,gq 29 28 true (.mov (.t 5)),gq 30 28 true (.len false (.t 29)),gq 31 28 true (.bin .eql (.t 30) (xk .i64 1)),gg 32 (.pick (.t 28) (.t 31) (.k (.bool false))),gm 33 32,gq 34 33 true (.mov (.t 5)),gq 35 33 true (.ia (.t 34) (xk .i64 0) 6),gq 36 33 true (.ffa (.t 35) 0),gq 37 33 true (.ld (.t 36) none),gq 38 33 true (.bin .eql (.t 37) (xk .i64 777)),gg 39 (.pick (.t 33) (.t 38) (.k (.bool false))),gm 40 39,gq 41 40 true (.mov (.t 5)),gq 42 40 true (.ia (.t 41) (xk .i64 0) 6),gq 43 40 true (.ffa (.t 42) 1),gq 44 40 true (.ld (.t 43) none),gg 45 (.pick (.t 40) (.t 44) (.k (.bool false))),gm 0 45] .ret))))) 0 [(.t 0)]):=by kernel_rfl
theorem c30_:compF Tryz.prog 30=some (.mk (sr [gm 2 0,gm 3 0,gg 4 (.nil (.t 3)),gg 5 (.ffa (.t 4) 0),gg 6 (.ld (.t 5) none),gg 7 (.slc (.t 6) none (some (xk .i64 0)) 1),gg 8 (.nil (.t 2)),gg 9 (.ffa (.t 8) 0),(G.mk none none (.st (.t 9) (.t 7) 1))] (sr [gm 10 0,gm 11 0,gg 12 (.nil (.t 11)),gg 13 (.ffa (.t 12) 1),gg 14 (.ld (.t 13) none),gg 15 (.slc (.t 14) none (some (xk .i64 0)) 1),gg 16 (.nil (.t 10)),gg 17 (.ffa (.t 16) 1),(G.mk none none (.st (.t 17) (.t 15) 1))] (sr [gm 18 0,gg 19 (.nil (.t 18)),gg 20 (.ffa (.t 19) 2),(G.mk none none (.st (.t 20) (xk .u64 0) 1))] (sr [gm 21 0,gg 22 (.nil (.t 21)),gg 23 (.ffa (.t 22) 3),(G.mk none none (.st (.t 23) (xk .u64 0) 1))] (sr [gm 24 0,gg 25 (.nil (.t 24)),gg 26 (.ffa (.t 25) 4),(G.mk none none (.st (.t 26) (xk .u32 2147483648) 1))] (sr [gm 27 0,gg 28 (.nil (.t 27)),gg 29 (.ffa (.t 28) 5),(G.mk none none (.st (.t 29) (xk .u32 0) 1))] (sr [gm 30 0,gg 31 (.nil (.t 30)),gg 32 (.ffa (.t 31) 6),(G.mk none none (.st (.t 32) (.k (.int .i64 (-1))) 1))] (sr [gm 33 0,gg 34 (.nil (.t 33)),gg 35 (.ffa (.t 34) 7),(G.mk none none (.st (.t 35) (xk .i64 0) 1))] (.reg [gm 36 0,gg 37 (.nil (.t 36)),gg 38 (.ffa (.t 37) 8),(G.mk none none (.st (.t 38) (xk .u64 33) 1))]))))))))) 1 []):=by kernel_rfl
theorem c35_:compF Tryz.prog 35=some (.mk (.cut (sr [gm 11 1,gg 12 (.bin .leq (.t 11) (xk .u32 1))] (.cond (.t 12) .ret .skip)) (.cut (sr [gm 13 2,gm 14 1,gg 15 (.bin .geq (.t 13) (.t 14))] (.cond (.t 15) (.reg [gm 16 1,gg 17 (.bin .sub (.t 16) (xk .u32 1)),gm 2 17]) .skip)) (sr [gm 18 1,gg 19 (.bin .sub (.t 18) (xk .u32 1)),gm 6 19] (sr [gm 20 6,gg 21 (.call 75 [(.t 20)]),gm 7 21] (.cut (sr [gm 22 7,gg 23 (.bin .leq (.t 22) (xk .i64 8))] (.cond (.t 23) (sr [gm 24 0,gm 25 2,gm 26 2,gg 27 (.bin .add (.t 26) (xk .u32 1)),gm 28 1,gg 29 (.call 31 [(.t 24),(.t 25),(.t 27),(.t 28)])] .ret) .skip)) (sr [gm 30 7,gg 31 (.bin .sub (.t 30) (xk .i64 8)),gm 8 31] (sr [gm 32 6,gm 33 8,gg 34 (.bin .shr (.t 32) (.t 33)),gg 35 (.bin .add (.t 34) (xk .u32 1)),gm 9 35] (sr [gm 36 2,gm 37 8,gg 38 (.bin .shr (.t 36) (.t 37)),gm 10 38] (sr [gm 39 0,gm 40 10,gm 41 10,gg 42 (.bin .add (.t 41) (xk .u32 1)),gm 43 9,gg 44 (.call 31 [(.t 39),(.t 40),(.t 42),(.t 43)])] (.reg [gm 45 0,gm 46 8,gg 47 (.cvi .u64 (.t 46)),gm 48 2,gm 49 8,gg 50 (.cvi .u64 (.t 49)),gg 51 (.call 76 [(.t 50)]),gg 52 (.bin .and (.t 48) (.t 51)),gg 53 (.call 36 [(.t 45),(.t 47),(.t 52)])])))))))))) 3 []):=by kernel_rfl
theorem c43_:compF Tryz.prog 43=some (.mk (sr [gm 4 0,gm 5 1,gg 6 (.nil (.t 4)),gg 7 (.ffa (.t 6) 0),(G.mk none none (.st (.t 7) (.t 5) 1))] (sr [gm 8 0,gg 9 (.nil (.t 8)),gg 10 (.ffa (.t 9) 1),(G.mk none none (.st (.t 10) (xk .u64 0) 1))] (sr [gm 11 0,gg 12 (.nil (.t 11)),gg 13 (.ffa (.t 12) 2),(G.mk none none (.st (.t 13) (xk .u64 0) 1))] (sr [gm 14 0,gg 15 (.nil (.t 14)),gg 16 (.ffa (.t 15) 3),(G.mk none none (.st (.t 16) (xk .u64 9) 1))] (sr [gm 17 0,gg 18 (.nil (.t 17)),gg 19 (.ffa (.t 18) 4),(G.mk none none (.st (.t 19) (xk .u32 128) 1))] (sr [gm 20 0,gm 21 0,gg 22 (.call 82 [(.t 21),(xk .i64 7)]),gg 23 (.bin .sub (xk .u32 127) (.t 22)),gg 24 (.nil (.t 20)),gg 25 (.ffa (.t 24) 5),(G.mk none none (.st (.t 25) (.t 23) 1))] (.reg [gm 26 0,gg 27 (.call 83 [(.t 26)])]))))))) 2 []):=by kernel_rfl
theorem c41_:compF Tryz.prog 41=some (.mk (sr [gg 2 (.mov (.k (.slice none 0 0)))] (sr [gm 9 0,gg 10 (.call 78 [(.t 9)]),gm 3 10] (.cut (sr [gm 11 0,gg 12 (.nil (.t 11)),gg 13 (.ffa (.t 12) 6),gg 14 (.ld (.t 13) none),gg 15 (.bin .geq (.t 14) (xk .i64 0)),gm 16 15,gq 17 16 false (.mov (.t 0)),gq 18 16 false (.nil (.t 17)),gq 19 16 false (.ffa (.t 18) 7),gq 20 16 false (.ld (.t 19) none),gq 21 16 false (.bin .gtr (.t 20) (xk .i64 0)),gg 22 (.pick (.t 16) (.k (.bool true)) (.t 21))] (.cond (.t 22) (.reg [gm 23 0,gg 24 (.call 79 [(.t 23),(xk .i64 0)])]) .skip)) (sr [gg 4 (.mov (xk .u64 0))] (.cut (sr [gm 25 3,gg 26 (.bin .lss (.t 25) (xk .i64 0))] (.cond (.t 26) (.reg [gm 27 3,gg 28 (.un .neg (.t 27)),gg 29 (.cvi .u64 (.t 28)),gm 4 29]) .skip)) (.seq (.drw [(.mk (gm 30 0) 0 true []),(.mk (gg 31 (.nil (.t 30))) 1 true []),(.mk (gg 32 (.ffa (.t 31) 0)) 2 true []),(.mk (gg 33 (.ld (.t 32) none)) 3 true []),(.mk (gg 34 (.len false (.t 33))) 4 true []),(.mk (gm 35 0) 5 true []),(.mk (gg 36 (.nil (.t 35))) 6 true []),(.mk (gg 37 (.ffa (.t 36) 1)) 7 true []),(.mk (gg 38 (.ld (.t 37) none)) 8 true []),(.mk (gg 39 (.len false (.t 38))) 9 true []),(.mk (gg 40 (.bin .add (.t 34) (.t 39))) 10 true []),(.mk (gm 41 0) 11 true []),(.mk (gm 42 4) 12 true []),(.mk (gg 43 (.call 81 [(.t 41),(.t 42)])) 13 false [8,3]),(.mk (gg 44 (.call 80 [(.t 43)])) 14 false [8,3]),(.mk (gg 45 (.bin .add (.t 40) (.t 44))) 15 true []),(.mk (gg 46 (.mks 5 1 1 [(.int .u8 ((0:Nat):Int))] (.t 45) (.t 45))) 16 false []),(.mk (gm 5 46) 17 true [])]) (sr [gm 47 5,gm 48 0,gg 49 (.nil (.t 48)),gg 50 (.ffa (.t 49) 0),gg 51 (.ld (.t 50) none),gg 52 (.cpy 1 (.t 47) (.t 51))] (.cut (sr [gm 53 0,gg 54 (.nil (.t 53)),gg 55 (.ffa (.t 54) 1),gg 56 (.ld (.t 55) none),gg 57 (.len false (.t 56)),gg 58 (.mov (xk .i64 0))] (.block 0 (.loop (sr [gg 59 (.bin .lss (.t 58) (.t 57))] (.seq (.cond (.t 59) .skip (.exit 0)) (.seq (.block 1 (sr [gm 60 58,gg 61 (.ia (.t 56) (.t 58) 1),gg 62 (.ld (.t 61) none),gm 6 60,gm 7 62] (.reg [gm 63 5,gm 64 5,gg 65 (.len false (.t 64)),gg 66 (.bin .sub (.t 65) (xk .i64 1)),gm 67 6,gg 68 (.bin .sub (.t 66) (.t 67)),gm 69 7,gg 70 (.ia (.t 63) (.t 68) 1),(G.mk none none (.st (.t 70) (.t 69) 1))]))) (.reg [gg 71 (.bin .add (.t 58) (xk .i64 1)),gm 58 71]))))))) (.cut (sr [gm 72 0,gg 73 (.nil (.t 72)),gg 74 (.ffa (.t 73) 3),gg 75 (.ld (.t 74) none),gg 76 (.bin .gtr (.t 75) (xk .u64 0))] (.cond (.t 76) (.seq (.drw [(.mk (gm 77 0) 0 true []),(.mk (gg 78 (.nil (.t 77))) 1 true []),(.mk (gg 79 (.ffa (.t 78) 2)) 2 true []),(.mk (gg 80 (.ld (.t 79) none)) 3 true []),(.mk (gm 81 0) 4 true []),(.mk (gg 82 (.nil (.t 81))) 5 true []),(.mk (gg 83 (.ffa (.t 82) 3)) 6 true []),(.mk (gg 84 (.ld (.t 83) none)) 7 true []),(.mk (gg 85 (.call 76 [(.t 84)])) 8 false [3]),(.mk (gg 86 (.cvi .u64 (.t 85))) 9 true []),(.mk (gg 87 (.bin .and (.t 80) (.t 86))) 10 true []),(.mk (gg 88 (.cvi .u8 (.t 87))) 11 true []),(.mk (gm 8 88) 12 true [])]) (sr [gm 89 0,gm 90 4,gg 91 (.call 81 [(.t 89),(.t 90)])] (.cond (.t 91) (.reg [gm 92 5,gm 93 0,gg 94 (.nil (.t 93)),gg 95 (.ffa (.t 94) 0),gg 96 (.ld (.t 95) none),gg 97 (.len false (.t 96)),gm 98 8,gg 99 (.ia (.t 92) (.t 97) 1),(G.mk none none (.st (.t 99) (.t 98) 1))]) (.reg [gm 100 5,gm 101 0,gg 102 (.nil (.t 101)),gg 103 (.ffa (.t 102) 0),gg 104 (.ld (.t 103) none),gg 105 (.len false (.t 104)),gg 106 (.bin .sub (.t 105) (xk .i64 1)),gg 107 (.ia (.t 100) (.t 106) 1),gg 108 (.ld (.t 107) none),gm 109 8,gg 110 (.bin .or (.t 108) (.t 109)),gg 111 (.ia (.t 100) (.t 106) 1),(G.mk none none (.st (.t 111) (.t 110) 1))])))) .skip)) (sr [gm 112 5,gm 2 112] .ret)))))))))) 1 [(.t 2)]):=by kernel_rfl
theorem c16_:compF Tryz.prog 16=some (.mk (sr [gg 2 (.mov (.k (.slice none 0 0)))] (sr [gg 3 (.mov (.k (.slice none 0 0)))] (.cut (sr [gm 6 0,gg 7 (.len false (.t 6)),gg 8 (.mov (xk .i64 0))] (.block 0 (.loop (sr [gg 9 (.bin .lss (.t 8) (.t 7))] (.seq (.cond (.t 9) .skip (.exit 0)) (.seq (.block 1 (sr [gg 10 (.ia (.t 6) (.t 8) 6),gg 11 (.ld (.t 10) (some 6)),gg 5 (.alc 59 [(.int .i64 ((0:Nat):Int)),(.int .u32 ((0:Nat):Int)),(.int .u32 ((0:Nat):Int)),(.int .u32 ((0:Nat):Int)),(.int .i64 ((0:Nat):Int)),(.slice none 0 0)]),(G.mk none none (.st (.t 5) (.t 11) 6))] (.reg [gm 12 3,gg 13 (.ld (.t 5) (some 6)),gg 14 (.bsl 83 6 1 [(.int .i64 ((0:Nat):Int)),(.int .u32 ((0:Nat):Int)),(.int .u32 ((0:Nat):Int)),(.int .u32 ((0:Nat):Int)),(.int .i64 ((0:Nat):Int)),(.slice none 0 0)] [(0,(6,(.t 13)))]),gg 15 (.app 83 6 56 (.t 12) (.t 14)),gm 3 15]))) (.reg [gg 16 (.bin .add (.t 8) (xk .i64 1)),gm 8 16]))))))) (sr [gm 17 3,gm 2 17] .ret)))) 1 [(.t 2)]):=by kernel_rfl
theorem c17_:compD Tryz.prog 17=some (.mk (sr [gg 2 (.alc 9 [(.string (ByteArray.mk #[]))]),gg 3 (.alc 61 [(.slice none 0 0)]),gg 4 (.alc 3 [(.int .i64 ((0:Nat):Int))])] (sr [gg 8 (.mkf 29 [(.t 2),(.t 3),(.t 4)])] (sr [gg 5 (.alc 86 [(.slice none 0 0),(.slice none 0 0),(.int .u64 ((0:Nat):Int)),(.int .u64 ((0:Nat):Int)),(.int .u32 ((0:Nat):Int)),(.int .u32 ((0:Nat):Int)),(.int .i64 ((0:Nat):Int)),(.int .i64 ((0:Nat):Int)),(.int .u64 ((0:Nat):Int))])] (sr [gg 9 (.call 30 [(.t 5)])] (.cut (sr [gm 10 0,gg 11 (.len false (.t 10)),gg 12 (.mov (xk .i64 0))] (.block 0 (.loop (sr [gg 13 (.bin .lss (.t 12) (.t 11))] (.seq (.cond (.t 13) .skip (.exit 0)) (.cut (.block 1 (sr [gg 14 (.ia (.t 10) (.t 12) 6),gg 15 (.ld (.t 14) (some 6)),gg 7 (.alc 83 [(.int .i64 ((0:Nat):Int)),(.int .u32 ((0:Nat):Int)),(.int .u32 ((0:Nat):Int)),(.int .u32 ((0:Nat):Int)),(.int .i64 ((0:Nat):Int)),(.slice none 0 0)]),(G.mk none none (.st (.t 7) (.t 15) 6))] (.cut (sr [gg 16 (.ffa (.t 7) 0),gg 17 (.ld (.t 16) none)] (.block 2 (sr [gg 19 (.bin .eql (.t 17) (xk .i64 0)),gm 18 19] (.cond (.t 18) (.reg [gg 20 (.ffa (.t 7) 1),gg 21 (.ld (.t 20) none),gg 22 (.ffa (.t 7) 2),gg 23 (.ld (.t 22) none),gg 24 (.ffa (.t 7) 3),gg 25 (.ld (.t 24) none),gg 26 (.call 31 [(.t 5),(.t 21),(.t 23),(.t 25)])]) (sr [gg 28 (.bin .eql (.t 17) (xk .i64 1)),gm 27 28] (.cond (.t 27) (.reg [gg 29 (.ffa (.t 7) 1),gg 30 (.ld (.t 29) none),gg 31 (.cvi .u64 (.t 30)),gg 32 (.ffa (.t 7) 2),gg 33 (.ld (.t 32) none),gg 34 (.call 32 [(.t 5),(.t 31),(.t 33)])]) (sr [gg 36 (.bin .eql (.t 17) (xk .i64 2)),gm 35 36] (.cond (.t 35) (.drw [(.mk (gg 37 (.ffa (.t 7) 5)) 0 true []),(.mk (gg 38 (.ld (.t 37) none)) 1 true []),(.mk (gg 40 (.ffa (.t 7) 1)) 3 true []),(.mk (gg 41 (.ld (.t 40) none)) 4 true []),(.mk (gg 39 (.call 34 [(.t 38)])) 2 false [4]),(.mk (gg 42 (.call 33 [(.t 5),(.t 39),(.t 41)])) 5 false [])]) (sr [gg 44 (.bin .eql (.t 17) (xk .i64 3)),gm 43 44] (.cond (.t 43) (.reg [gg 45 (.ffa (.t 7) 1),gg 46 (.ld (.t 45) none),gg 47 (.ffa (.t 7) 2),gg 48 (.ld (.t 47) none),gg 49 (.call 35 [(.t 5),(.t 46),(.t 48)])]) (sr [gg 51 (.bin .eql (.t 17) (xk .i64 4)),gm 50 51] (.cond (.t 50) (.reg [gg 52 (.ffa (.t 7) 1),gg 53 (.ld (.t 52) none),gg 54 (.cvi .u64 (.t 53)),gg 55 (.ffa (.t 7) 2),gg 56 (.ld (.t 55) none),gg 57 (.call 36 [(.t 5),(.t 54),(.t 56)])]) (sr [gg 59 (.bin .eql (.t 17) (xk .i64 5)),gm 58 59] (.cond (.t 58) (.reg [gg 60 (.ffa (.t 7) 1),gg 61 (.ld (.t 60) none),gg 62 (.ffa (.t 7) 2),gg 63 (.ld (.t 62) none),gg 64 (.ffa (.t 7) 4),gg 65 (.ld (.t 64) none),gg 66 (.call 37 [(.t 5),(.t 61),(.t 63),(.t 65)])]) (sr [(G.mk none none (.st (.t 2) (.k (.string (ByteArray.mk #[]))) 1)),(G.mk none none (.st (.t 3) (.k (.slice none 0 0)) 1)),(G.mk none none (.st (.t 4) (xk .i64 3) 1))] .ret))))))))))))))) (.drw [(.mk (gg 67 (.ld (.t 3) none)) 0 true []),(.mk (gg 68 (.call 38 [(.t 5)])) 1 false [0]),(.mk (gg 69 (.call 39 [(.t 5)])) 2 false [0]),(.mk (gg 70 (.cvi .u32 (.t 69))) 3 true []),(.mk (gg 71 (.call 40 [(.t 5)])) 4 false [0]),(.mk (gg 72 (.cvi .u32 (.t 71))) 5 true []),(.mk (gg 73 (.bld [(.int .i64 ((0:Nat):Int)),(.bool false),(.int .u32 ((0:Nat):Int)),(.int .u32 ((0:Nat):Int)),(.int .u32 ((0:Nat):Int)),(.int .i64 ((0:Nat):Int))] [(0,(1,(xk .i64 0))),(1,(1,(.k (.bool true)))),(2,(1,(.t 68))),(3,(1,(.t 70))),(4,(1,(.t 72))),(5,(1,(xk .i64 0)))])) 6 true []),(.mk (gg 74 (.bsl 67 6 1 [(.int .i64 ((0:Nat):Int)),(.bool false),(.int .u32 ((0:Nat):Int)),(.int .u32 ((0:Nat):Int)),(.int .u32 ((0:Nat):Int)),(.int .i64 ((0:Nat):Int))] [(0,(6,(.t 73)))])) 7 false [0]),(.mk (gg 75 (.app 67 6 32 (.t 67) (.t 74))) 8 false []),(.mk (G.mk none none (.st (.t 3) (.t 75) 1)) 9 false [])])))) (.reg [gg 76 (.bin .add (.t 12) (xk .i64 1)),gm 12 76]))))))) (.seq (.drw [(.mk (gg 79 (.ld (.t 3) none)) 2 true []),(.mk (gg 77 (.call 41 [(.t 5)])) 0 false [2]),(.mk (gg 78 (.b2s (.t 77))) 1 true []),(.mk (G.mk none none (.st (.t 2) (.t 78) 1)) 3 false [2]),(.mk (G.mk none none (.st (.t 3) (.t 79) 1)) 4 false []),(.mk (G.mk none none (.st (.t 4) (xk .i64 0) 1)) 5 false [])]) .ret)))))) 1 [(.cell 2 none),(.cell 3 none),(.cell 4 none)]):=by kernel_rfl
theorem c18_:compD Tryz.prog 18=some (.mk (sr [gg 4 (.alc 61 [(.slice none 0 0)]),gg 5 (.alc 3 [(.int .i64 ((0:Nat):Int))])] (sr [gg 13 (.mkf 42 [(.t 4),(.t 5)])] (sr [gg 6 (.alc 98 [(.slice none 0 0),(.int .u64 ((0:Nat):Int)),(.int .u64 ((0:Nat):Int)),(.int .u64 ((0:Nat):Int)),(.int .u32 ((0:Nat):Int)),(.int .u32 ((0:Nat):Int))])] (sr [gm 14 0,gg 15 (.s2b 5 (.t 14)),gg 16 (.call 43 [(.t 6),(.t 15)])] (.cut (sr [gm 17 1,gg 18 (.len false (.t 17)),gg 19 (.mov (xk .i64 0))] (.block 0 (.loop (sr [gg 20 (.bin .lss (.t 19) (.t 18))] (.seq (.cond (.t 20) .skip (.exit 0)) (.cut (.block 1 (sr [gg 21 (.ia (.t 17) (.t 19) 6),gg 22 (.ld (.t 21) (some 6)),gg 8 (.alc 83 [(.int .i64 ((0:Nat):Int)),(.int .u32 ((0:Nat):Int)),(.int .u32 ((0:Nat):Int)),(.int .u32 ((0:Nat):Int)),(.int .i64 ((0:Nat):Int)),(.slice none 0 0)]),(G.mk none none (.st (.t 8) (.t 22) 6))] (sr [gg 23 (.bld [(.int .i64 ((0:Nat):Int)),(.bool false),(.int .u32 ((0:Nat):Int)),(.int .u32 ((0:Nat):Int)),(.int .u32 ((0:Nat):Int)),(.int .i64 ((0:Nat):Int))] [(1,(1,(.k (.bool true))))]),gg 9 (.alc 67 [(.int .i64 ((0:Nat):Int)),(.bool false),(.int .u32 ((0:Nat):Int)),(.int .u32 ((0:Nat):Int)),(.int .u32 ((0:Nat):Int)),(.int .i64 ((0:Nat):Int))]),(G.mk none none (.st (.t 9) (.t 23) 6))] (.cut (sr [gg 24 (.ffa (.t 8) 0),gg 25 (.ld (.t 24) none)] (.block 2 (sr [gg 27 (.bin .eql (.t 25) (xk .i64 0)),gm 26 27] (.cond (.t 26) (sr [gg 28 (.ffa (.t 8) 3),gg 29 (.ld (.t 28) none),gg 30 (.call 44 [(.t 6),(.t 29)]),gm 10 30] (.cut (sr [gg 31 (.ffa (.t 8) 1),gg 32 (.ld (.t 31) none),gm 33 10,gg 34 (.bin .leq (.t 32) (.t 33)),gm 35 34,gq 36 35 true (.mov (.t 10)),gq 37 35 true (.ffa (.t 8) 2),gq 38 35 true (.ld (.t 37) none),gq 39 35 true (.bin .lss (.t 36) (.t 38)),gg 40 (.pick (.t 35) (.t 39) (.k (.bool false)))] (.cond (.t 40) (.reg [gg 41 (.ffa (.t 8) 1),gg 42 (.ld (.t 41) none),gg 43 (.ffa (.t 8) 2),gg 44 (.ld (.t 43) none),gg 45 (.ffa (.t 8) 3),gg 46 (.ld (.t 45) none),gg 47 (.call 45 [(.t 6),(.t 42),(.t 44),(.t 46)])]) (.reg [gm 48 10,gm 49 10,gg 50 (.bin .add (.t 49) (xk .u32 1)),gg 51 (.ffa (.t 8) 3),gg 52 (.ld (.t 51) none),gg 53 (.call 45 [(.t 6),(.t 48),(.t 50),(.t 52)])]))) (.reg [gm 54 10,gg 55 (.cvi .i64 (.t 54)),gg 56 (.ffa (.t 9) 0),(G.mk none none (.st (.t 56) (.t 55) 1))]))) (sr [gg 58 (.bin .eql (.t 25) (xk .i64 1)),gm 57 58] (.cond (.t 57) (.reg [gg 59 (.ffa (.t 8) 1),gg 60 (.ld (.t 59) none),gg 61 (.cvi .u64 (.t 60)),gg 62 (.call 46 [(.t 6),(.t 61)]),gg 63 (.cvi .i64 (.t 62)),gg 64 (.ffa (.t 9) 0),(G.mk none none (.st (.t 64) (.t 63) 1))]) (sr [gg 66 (.bin .eql (.t 25) (xk .i64 2)),gm 65 66] (.cond (.t 65) (.reg [gg 67 (.ffa (.t 8) 5),gg 68 (.ld (.t 67) none),gg 69 (.call 34 [(.t 68)]),gg 70 (.call 47 [(.t 6),(.t 69)]),gg 71 (.cvi .i64 (.t 70)),gg 72 (.ffa (.t 9) 0),(G.mk none none (.st (.t 72) (.t 71) 1))]) (sr [gg 74 (.bin .eql (.t 25) (xk .i64 3)),gm 73 74] (.cond (.t 73) (sr [gg 76 (.ffa (.t 8) 1),gg 77 (.ld (.t 76) none),gg 78 (.call 48 [(.t 6),(.t 77)]),gm 75 78,gg 79 (.ext (.t 75) 0),gg 80 (.ext (.t 75) 1),gm 11 79,gm 12 80] (.reg [gm 81 11,gg 82 (.cvi .i64 (.t 81)),gm 83 12,gg 84 (.ffa (.t 9) 0),(G.mk none none (.st (.t 84) (.t 82) 1)),gg 85 (.ffa (.t 9) 1),(G.mk none none (.st (.t 85) (.t 83) 1))])) (sr [gg 87 (.bin .eql (.t 25) (xk .i64 4)),gm 86 87] (.cond (.t 86) (.reg [gg 88 (.ffa (.t 8) 1),gg 89 (.ld (.t 88) none),gg 90 (.cvi .u64 (.t 89)),gg 91 (.call 49 [(.t 6),(.t 90)]),gg 92 (.cvi .i64 (.t 91)),gg 93 (.ffa (.t 9) 0),(G.mk none none (.st (.t 93) (.t 92) 1))]) (sr [gg 95 (.bin .eql (.t 25) (xk .i64 5)),gm 94 95] (.cond (.t 94) (.reg [gg 96 (.ffa (.t 8) 1),gg 97 (.ld (.t 96) none),gg 98 (.ffa (.t 8) 2),gg 99 (.ld (.t 98) none),gg 100 (.call 50 [(.t 6),(.t 97),(.t 99)]),gg 101 (.ffa (.t 9) 0),(G.mk none none (.st (.t 101) (.t 100) 1))]) (sr [gg 103 (.bin .eql (.t 25) (xk .i64 6)),gm 102 103] (.cond (.t 102) (.reg [gg 104 (.ffa (.t 8) 1),gg 105 (.ld (.t 104) none),gg 106 (.cvi .i64 (.t 105)),gg 107 (.call 51 [(.t 6),(.t 106)])]) (sr [(G.mk none none (.st (.t 4) (.k (.slice none 0 0)) 1)),(G.mk none none (.st (.t 5) (xk .i64 3) 1))] .ret))))))))))))))))) (sr [gg 108 (.call 52 [(.t 6)]),gg 109 (.call 53 [(.t 6)]),gg 110 (.cvi .u32 (.t 109)),gg 111 (.call 54 [(.t 6)]),gg 112 (.cvi .u32 (.t 111)),gg 113 (.call 55 [(.t 6)]),gg 114 (.ffa (.t 9) 2),(G.mk none none (.st (.t 114) (.t 108) 1)),gg 115 (.ffa (.t 9) 3),(G.mk none none (.st (.t 115) (.t 110) 1)),gg 116 (.ffa (.t 9) 4),(G.mk none none (.st (.t 116) (.t 112) 1)),gg 117 (.ffa (.t 9) 5),(G.mk none none (.st (.t 117) (.t 113) 1))] (.reg [gg 118 (.ld (.t 4) none),gg 119 (.ld (.t 9) (some 6)),gg 120 (.bsl 67 6 1 [(.int .i64 ((0:Nat):Int)),(.bool false),(.int .u32 ((0:Nat):Int)),(.int .u32 ((0:Nat):Int)),(.int .u32 ((0:Nat):Int)),(.int .i64 ((0:Nat):Int))] [(0,(6,(.t 119)))]),gg 121 (.app 67 6 32 (.t 118) (.t 120)),(G.mk none none (.st (.t 4) (.t 121) 1))])))))) (.reg [gg 122 (.bin .add (.t 19) (xk .i64 1)),gm 19 122]))))))) (sr [gg 123 (.ld (.t 4) none),(G.mk none none (.st (.t 4) (.t 123) 1)),(G.mk none none (.st (.t 5) (xk .i64 0) 1))] .ret)))))) 2 [(.cell 4 none),(.cell 5 none)]):=by kernel_rfl
theorem c75_:compF Tryz.prog 75=some (.mk (sr [gg 2 (.mov (xk .i64 0))] (.cut (sr [gm 3 0,gg 4 (.bin .geq (.t 3) (xk .u32 65536))] (.cond (.t 4) (sr [gm 5 0,gg 6 (.bik .shr .u64 (.t 5) 16),gm 0 6] (.reg [gg 2 (.mov (xk .i64 16))])) .skip)) (.cut (sr [gm 7 0,gg 8 (.bin .geq (.t 7) (xk .u32 256))] (.cond (.t 8) (sr [gm 9 0,gg 10 (.bik .shr .u64 (.t 9) 8),gm 0 10] (.reg [gm 11 2,gg 12 (.bin .add (.t 11) (xk .i64 8)),gm 2 12])) .skip)) (sr [gm 13 2,gm 14 0,gg 15 (.cvi .u8 (.t 14)),gg 16 (.si (.k (.string (ByteArray.mk #[0,1,2,2,3,3,3,3,4,4,4,4,4,4,4,4,5,5,5,5,5,5,5,5,5,5,5,5,5,5,5,5,6,6,6,6,6,6,6,6,6,6,6,6,6,6,6,6,6,6,6,6,6,6,6,6,6,6,6,6,6,6,6,6,7,7,7,7,7,7,7,7,7,7,7,7,7,7,7,7,7,7,7,7,7,7,7,7,7,7,7,7,7,7,7,7,7,7,7,7,7,7,7,7,7,7,7,7,7,7,7,7,7,7,7,7,7,7,7,7,7,7,7,7,7,7,7,7,8,8,8,8,8,8,8,8,8,8,8,8,8,8,8,8,8,8,8,8,8,8,8,8,8,8,8,8,8,8,8,8,8,8,8,8,8,8,8,8,8,8,8,8,8,8,8,8,8,8,8,8,8,8,8,8,8,8,8,8,8,8,8,8,8,8,8,8,8,8,8,8,8,8,8,8,8,8,8,8,8,8,8,8,8,8,8,8,8,8,8,8,8,8,8,8,8,8,8,8,8,8,8,8,8,8,8,8,8,8,8,8,8,8,8,8,8,8,8,8,8,8,8,8,8,8,8,8]))) (.t 15)),gg 17 (.cvi .i64 (.t 16)),gg 18 (.bin .add (.t 13) (.t 17)),gm 2 18] .ret)))) 1 [(.t 2)]):=by kernel_rfl
theorem c31_:compF Tryz.prog 31=some (.mk (.cut (sr [gm 9 3,gg 10 (.bin .eql (.t 9) (xk .u32 0)),gm 11 10,gq 12 11 false (.mov (.t 1)),gq 13 11 false (.mov (.t 2)),gq 14 11 false (.bin .geq (.t 12) (.t 13)),gg 15 (.pick (.t 11) (.k (.bool true)) (.t 14)),gm 16 15,gq 17 16 false (.mov (.t 2)),gq 18 16 false (.mov (.t 3)),gq 19 16 false (.bin .gtr (.t 17) (.t 18)),gg 20 (.pick (.t 16) (.k (.bool true)) (.t 19))] (.cond (.t 20) .ret .skip)) (sr [gm 21 0,gg 22 (.nil (.t 21)),gg 23 (.ffa (.t 22) 4),gg 24 (.ld (.t 23) none),gm 25 3,gg 26 (.bin .quo (.t 24) (.t 25)),gm 8 26] (.cut (sr [gm 27 1,gg 28 (.bin .neq (.t 27) (xk .u32 0))] (.cond (.t 28) (.seq (.drw [(.mk (gm 29 0) 0 true []),(.mk (gg 30 (.nil (.t 29))) 1 true []),(.mk (gg 31 (.ffa (.t 30) 5)) 2 true []),(.mk (gg 32 (.ld (.t 31) none)) 3 true []),(.mk (gm 33 0) 4 true []),(.mk (gg 34 (.nil (.t 33))) 5 true []),(.mk (gg 35 (.ffa (.t 34) 4)) 6 true []),(.mk (gg 36 (.ld (.t 35) none)) 7 true []),(.mk (gm 37 8) 8 true []),(.mk (gm 38 3) 9 true []),(.mk (gm 39 1) 10 true []),(.mk (gg 40 (.bin .sub (.t 38) (.t 39))) 11 true []),(.mk (gg 41 (.bin .mul (.t 37) (.t 40))) 12 true []),(.mk (gg 42 (.bin .sub (.t 36) (.t 41))) 13 true []),(.mk (gg 43 (.bin .add (.t 32) (.t 42))) 14 true []),(.mk (gg 44 (.nil (.t 29))) 15 true []),(.mk (gg 45 (.ffa (.t 44) 5)) 16 true []),(.mk (G.mk none none (.st (.t 45) (.t 43) 1)) 17 false [])]) (.reg [gm 46 0,gm 47 8,gm 48 2,gm 49 1,gg 50 (.bin .sub (.t 48) (.t 49)),gg 51 (.bin .mul (.t 47) (.t 50)),gg 52 (.nil (.t 46)),gg 53 (.ffa (.t 52) 4),(G.mk none none (.st (.t 53) (.t 51) 1))])) (.reg [gm 54 0,gg 55 (.nil (.t 54)),gg 56 (.ffa (.t 55) 4),gg 57 (.ld (.t 56) none),gm 58 8,gm 59 3,gm 60 2,gg 61 (.bin .sub (.t 59) (.t 60)),gg 62 (.bin .mul (.t 58) (.t 61)),gg 63 (.bin .sub (.t 57) (.t 62)),gg 64 (.nil (.t 54)),gg 65 (.ffa (.t 64) 4),(G.mk none none (.st (.t 65) (.t 63) 1))]))) (.reg [gm 66 0,gg 67 (.call 74 [(.t 66)])])))) 4 []):=by kernel_rfl
theorem c36_:compF Tryz.prog 36=some (.mk (.cut (sr [gm 6 1,gg 7 (.bin .eql (.t 6) (xk .u64 0))] (.cond (.t 7) .ret .skip)) (.cut (sr [gm 8 1,gg 9 (.bin .lss (.t 8) (xk .u64 32))] (.cond (.t 9) (.reg [gm 10 2,gm 11 1,gg 12 (.call 76 [(.t 11)]),gg 13 (.bin .and (.t 10) (.t 12)),gm 2 13]) .skip)) (.seq (.drw [(.mk (gm 14 0) 0 true []),(.mk (gg 15 (.nil (.t 14))) 1 true []),(.mk (gg 16 (.ffa (.t 15) 2)) 2 true []),(.mk (gg 17 (.ld (.t 16) none)) 3 true []),(.mk (gm 18 2) 4 true []),(.mk (gg 19 (.cvi .u64 (.t 18))) 5 true []),(.mk (gm 20 0) 6 true []),(.mk (gg 21 (.nil (.t 20))) 7 true []),(.mk (gg 22 (.ffa (.t 21) 3)) 8 true []),(.mk (gg 23 (.ld (.t 22) none)) 9 true []),(.mk (gg 24 (.bin .shl (.t 19) (.t 23))) 10 true []),(.mk (gg 25 (.bin .or (.t 17) (.t 24))) 11 true []),(.mk (gg 26 (.nil (.t 14))) 12 true []),(.mk (gg 27 (.ffa (.t 26) 2)) 13 true []),(.mk (G.mk none none (.st (.t 27) (.t 25) 1)) 14 false [])]) (sr [gm 28 0,gg 29 (.nil (.t 28)),gg 30 (.ffa (.t 29) 3),gg 31 (.ld (.t 30) none),gm 32 1,gg 33 (.bin .add (.t 31) (.t 32)),gg 34 (.nil (.t 28)),gg 35 (.ffa (.t 34) 3),(G.mk none none (.st (.t 35) (.t 33) 1))] (sr [gm 36 0,gg 37 (.nil (.t 36)),gg 38 (.ffa (.t 37) 8),gg 39 (.ld (.t 38) none),gm 40 1,gg 41 (.bin .add (.t 39) (.t 40)),gg 42 (.nil (.t 36)),gg 43 (.ffa (.t 42) 8),(G.mk none none (.st (.t 43) (.t 41) 1))] (.block 0 (.loop (.seq (sr [gm 44 0,gg 45 (.nil (.t 44)),gg 46 (.ffa (.t 45) 3),gg 47 (.ld (.t 46) none),gg 48 (.bin .geq (.t 47) (xk .u64 8))] (.cond (.t 48) .skip (.exit 0))) (.block 1 (.seq (.drw [(.mk (gm 49 0) 0 true []),(.mk (gm 50 0) 1 true []),(.mk (gg 51 (.nil (.t 50))) 2 true []),(.mk (gg 52 (.ffa (.t 51) 1)) 3 true []),(.mk (gg 53 (.ld (.t 52) none)) 4 true []),(.mk (gm 54 0) 5 true []),(.mk (gg 55 (.nil (.t 54))) 6 true []),(.mk (gg 56 (.ffa (.t 55) 2)) 7 true []),(.mk (gg 57 (.ld (.t 56) none)) 8 true []),(.mk (gg 58 (.bin .and (.t 57) (xk .u64 255))) 9 true []),(.mk (gg 59 (.cvi .u8 (.t 58))) 10 true []),(.mk (gg 60 (.bsl 5 1 1 [(.int .u8 ((0:Nat):Int))] [(0,(1,(.t 59)))])) 11 false [4]),(.mk (gg 61 (.app 5 1 1 (.t 53) (.t 60))) 12 false []),(.mk (gg 62 (.nil (.t 49))) 13 true []),(.mk (gg 63 (.ffa (.t 62) 1)) 14 true []),(.mk (G.mk none none (.st (.t 63) (.t 61) 1)) 15 false [])]) (sr [gm 64 0,gg 65 (.nil (.t 64)),gg 66 (.ffa (.t 65) 2),gg 67 (.ld (.t 66) none),gg 68 (.bik .shr .u64 (.t 67) 8),gg 69 (.nil (.t 64)),gg 70 (.ffa (.t 69) 2),(G.mk none none (.st (.t 70) (.t 68) 1))] (.reg [gm 71 0,gg 72 (.nil (.t 71)),gg 73 (.ffa (.t 72) 3),gg 74 (.ld (.t 73) none),gg 75 (.bin .sub (.t 74) (xk .u64 8)),gg 76 (.nil (.t 71)),gg 77 (.ffa (.t 76) 3),(G.mk none none (.st (.t 77) (.t 75) 1))])))))))))))) 3 []):=by kernel_rfl
theorem c76_:compF Tryz.prog 76=some (.mk (sr [gg 2 (.mov (xk .u32 0))] (.cut (sr [gm 3 0,gg 4 (.bin .geq (.t 3) (xk .u64 32))] (.cond (.t 4) (sr [gg 2 (.mov (xk .u32 4294967295))] .ret) .skip)) (sr [gm 5 0,gg 6 (.bin .shl (xk .u32 1) (.t 5)),gg 7 (.bin .sub (.t 6) (xk .u32 1)),gm 2 7] .ret))) 1 [(.t 2)]):=by kernel_rfl
theorem c82_:compF Tryz.prog 82=some (.mk (sr [gg 4 (.mov (xk .u32 0))] (.cut (.seq (.drw [(.mk (gm 10 1) 0 true []),(.mk (gg 11 (.bin .gtr (.t 10) (xk .i64 0))) 1 true []),(.mk (gm 12 11) 2 true []),(.mk (gq 13 12 true (.mov (.t 1))) 3 true []),(.mk (gq 14 12 true (.bin .leq (.t 13) (xk .i64 8))) 4 true []),(.mk (gg 15 (.pick (.t 12) (.t 14) (.k (.bool false)))) 5 true []),(.mk (gm 16 15) 6 true []),(.mk (gq 17 16 true (.mov (.t 0))) 7 true []),(.mk (gq 18 16 true (.nil (.t 17))) 8 true []),(.mk (gq 19 16 true (.ffa (.t 18) 1)) 9 true []),(.mk (gq 20 16 true (.ld (.t 19) none)) 10 true []),(.mk (gq 21 16 true (.mov (.t 1))) 11 true []),(.mk (gq 22 16 true (.cvi .u64 (.t 21))) 12 true []),(.mk (gq 23 16 true (.bin .add (.t 20) (.t 22))) 13 true []),(.mk (gq 24 16 true (.mov (.t 0))) 14 true []),(.mk (gq 25 16 true (.nil (.t 24))) 15 true []),(.mk (gq 26 16 true (.ffa (.t 25) 0)) 16 true []),(.mk (gq 27 16 true (.ld (.t 26) none)) 17 true []),(.mk (gq 28 16 true (.len false (.t 27))) 18 true []),(.mk (gq 29 16 true (.cvi .u64 (.t 28))) 19 true []),(.mk (gq 30 16 true (.bin .mul (.t 29) (xk .u64 8))) 20 true []),(.mk (gq 31 16 true (.bin .leq (.t 23) (.t 30))) 21 true []),(.mk (gg 32 (.pick (.t 16) (.t 31) (.k (.bool false)))) 22 true [])]) (.cond (.t 32) (sr [gm 33 0,gg 34 (.nil (.t 33)),gg 35 (.ffa (.t 34) 1),gg 36 (.ld (.t 35) none),gg 37 (.bik .quo .u64 (.t 36) 8),gm 5 37] (sr [gm 38 0,gg 39 (.nil (.t 38)),gg 40 (.ffa (.t 39) 1),gg 41 (.ld (.t 40) none),gg 42 (.bik .rem .u64 (.t 41) 8),gm 6 42] (sr [gm 43 0,gg 44 (.nil (.t 43)),gg 45 (.ffa (.t 44) 0),gg 46 (.ld (.t 45) none),gm 47 5,gg 48 (.ia (.t 46) (.t 47) 1),gg 49 (.ld (.t 48) none),gg 50 (.cvi .u32 (.t 49)),gg 51 (.bik .shl .u64 (.t 50) 8),gm 7 51] (.cut (sr [gm 52 5,gg 53 (.bin .add (.t 52) (xk .u64 1)),gm 54 0,gg 55 (.nil (.t 54)),gg 56 (.ffa (.t 55) 0),gg 57 (.ld (.t 56) none),gg 58 (.len false (.t 57)),gg 59 (.cvi .u64 (.t 58)),gg 60 (.bin .lss (.t 53) (.t 59))] (.cond (.t 60) (.reg [gm 61 7,gm 62 0,gg 63 (.nil (.t 62)),gg 64 (.ffa (.t 63) 0),gg 65 (.ld (.t 64) none),gm 66 5,gg 67 (.bin .add (.t 66) (xk .u64 1)),gg 68 (.ia (.t 65) (.t 67) 1),gg 69 (.ld (.t 68) none),gg 70 (.cvi .u32 (.t 69)),gg 71 (.bin .or (.t 61) (.t 70)),gm 7 71]) .skip)) (sr [gm 72 0,gg 73 (.nil (.t 72)),gg 74 (.ffa (.t 73) 1),gg 75 (.ld (.t 74) none),gm 76 1,gg 77 (.cvi .u64 (.t 76)),gg 78 (.bin .add (.t 75) (.t 77)),gg 79 (.nil (.t 72)),gg 80 (.ffa (.t 79) 1),(G.mk none none (.st (.t 80) (.t 78) 1))] (sr [gm 81 7,gm 82 6,gg 83 (.bin .sub (xk .u64 16) (.t 82)),gm 84 1,gg 85 (.cvi .u64 (.t 84)),gg 86 (.bin .sub (.t 83) (.t 85)),gg 87 (.bin .shr (.t 81) (.t 86)),gm 88 1,gg 89 (.bin .shl (xk .u32 1) (.t 88)),gg 90 (.bin .sub (.t 89) (xk .u32 1)),gg 91 (.bin .and (.t 87) (.t 90)),gm 4 91] .ret)))))) .skip)) (sr [gg 8 (.mov (xk .u32 0))] (.cut (sr [gm 92 1,gg 93 (.mov (xk .i64 0))] (.block 0 (.loop (sr [gg 94 (.bin .lss (.t 93) (.t 92))] (.seq (.cond (.t 94) .skip (.exit 0)) (.cut (.block 1 (sr [gm 95 93,gm 9 95] (.cut (sr [gm 96 9,gg 97 (.bin .neq (.t 96) (xk .i64 0))] (.cond (.t 97) (.reg [gm 98 8,gg 99 (.bik .shl .u64 (.t 98) 1),gm 8 99]) .skip)) (.reg [gm 100 8,gm 101 0,gg 102 (.call 100 [(.t 101)]),gg 103 (.bin .or (.t 100) (.t 102)),gm 8 103])))) (.reg [gg 104 (.bin .add (.t 93) (xk .i64 1)),gm 93 104]))))))) (sr [gm 105 8,gm 4 105] .ret))))) 2 [(.t 4)]):=by kernel_rfl
theorem c83_:compF Tryz.prog 83=some (.mk (.block 0 (.loop (.seq (sr [gm 2 0,gg 3 (.nil (.t 2)),gg 4 (.ffa (.t 3) 4),gg 5 (.ld (.t 4) none),gg 6 (.bin .leq (.t 5) (xk .u32 8388608))] (.cond (.t 6) .skip (.exit 0))) (.block 1 (sr [gm 7 0,gg 8 (.nil (.t 7)),gg 9 (.ffa (.t 8) 4),gg 10 (.ld (.t 9) none),gg 11 (.bik .shl .u64 (.t 10) 8),gg 12 (.nil (.t 7)),gg 13 (.ffa (.t 12) 4),(G.mk none none (.st (.t 13) (.t 11) 1))] (sr [gm 14 0,gg 15 (.nil (.t 14)),gg 16 (.ffa (.t 15) 3),gg 17 (.ld (.t 16) none),gg 18 (.bin .add (.t 17) (xk .u64 8)),gg 19 (.nil (.t 14)),gg 20 (.ffa (.t 19) 3),(G.mk none none (.st (.t 20) (.t 18) 1))] (.drw [(.mk (gm 21 0) 0 true []),(.mk (gm 22 0) 1 true []),(.mk (gg 23 (.nil (.t 22))) 2 true []),(.mk (gg 24 (.ffa (.t 23) 5)) 3 true []),(.mk (gg 25 (.ld (.t 24) none)) 4 true []),(.mk (gg 26 (.bik .shl .u64 (.t 25) 8)) 5 true []),(.mk (gm 27 0) 6 true []),(.mk (gg 28 (.call 82 [(.t 27),(xk .i64 8)])) 7 false [4]),(.mk (gg 29 (.bin .sub (xk .u32 255) (.t 28))) 8 true []),(.mk (gg 30 (.bin .add (.t 26) (.t 29))) 9 true []),(.mk (gg 31 (.bin .and (.t 30) (xk .u32 2147483647))) 10 true []),(.mk (gg 32 (.nil (.t 21))) 11 true []),(.mk (gg 33 (.ffa (.t 32) 5)) 12 true []),(.mk (G.mk none none (.st (.t 33) (.t 31) 1)) 13 false [])]))))))) 1 []):=by kernel_rfl
theorem c78_:compF Tryz.prog 78=some (.mk (sr [gg 2 (.mov (xk .i64 0))] (sr [gm 6 0,gg 7 (.nil (.t 6)),gg 8 (.ffa (.t 7) 4),gg 9 (.ld (.t 8) none),gg 10 (.call 75 [(.t 9)]),gg 11 (.bin .sub (xk .i64 32) (.t 10)),gm 3 11] (sr [gm 12 3,gg 13 (.bin .shr (xk .u32 2147483647) (.t 12)),gm 4 13] (sr [gm 14 0,gg 15 (.nil (.t 14)),gg 16 (.ffa (.t 15) 5),gg 17 (.ld (.t 16) none),gm 18 4,gg 19 (.bin .add (.t 17) (.t 18)),gm 20 4,gg 21 (.bin .andNot (.t 19) (.t 20)),gm 5 21] (.cut (.seq (.drw [(.mk (gm 22 5) 0 true []),(.mk (gm 23 4) 1 true []),(.mk (gg 24 (.bin .or (.t 22) (.t 23))) 2 true []),(.mk (gm 25 0) 3 true []),(.mk (gg 26 (.nil (.t 25))) 4 true []),(.mk (gg 27 (.ffa (.t 26) 5)) 5 true []),(.mk (gg 28 (.ld (.t 27) none)) 6 true []),(.mk (gm 29 0) 7 true []),(.mk (gg 30 (.nil (.t 29))) 8 true []),(.mk (gg 31 (.ffa (.t 30) 4)) 9 true []),(.mk (gg 32 (.ld (.t 31) none)) 10 true []),(.mk (gg 33 (.bin .add (.t 28) (.t 32))) 11 true []),(.mk (gg 34 (.bin .geq (.t 24) (.t 33))) 12 true [])]) (.cond (.t 34) (sr [gm 35 3,gg 36 (.bin .add (.t 35) (xk .i64 1)),gm 3 36] (sr [gm 37 4,gg 38 (.bik .shr .u64 (.t 37) 1),gm 4 38] (.reg [gm 39 0,gg 40 (.nil (.t 39)),gg 41 (.ffa (.t 40) 5),gg 42 (.ld (.t 41) none),gm 43 4,gg 44 (.bin .add (.t 42) (.t 43)),gm 45 4,gg 46 (.bin .andNot (.t 44) (.t 45)),gm 5 46]))) .skip)) (.cut (.block 0 (.loop (.seq (sr [gm 47 3,gg 48 (.bin .gtr (.t 47) (xk .i64 0))] (.cond (.t 48) .skip (.exit 0))) (.block 1 (sr [gm 49 0,gm 50 5,gg 51 (.bik .shr .u64 (.t 50) 23),gg 52 (.cvi .i64 (.t 51)),gg 53 (.call 79 [(.t 49),(.t 52)])] (sr [gm 54 5,gg 55 (.bik .shl .u64 (.t 54) 8),gg 56 (.bin .and (.t 55) (xk .u32 2147483647)),gm 5 56] (.reg [gm 57 3,gg 58 (.bin .sub (.t 57) (xk .i64 8)),gm 3 58]))))))) (sr [gm 59 3,gm 2 59] .ret))))))) 1 [(.t 2)]):=by kernel_rfl
theorem c79_:compF Tryz.prog 79=some (.mk (.cut (sr [gm 6 1,gg 7 (.bin .neq (.t 6) (xk .i64 255))] (.cond (.t 7) (sr [gm 8 1,gg 9 (.bik .shr .u64 (.t 8) 8),gm 4 9] (.cut (sr [gm 10 0,gg 11 (.nil (.t 10)),gg 12 (.ffa (.t 11) 6),gg 13 (.ld (.t 12) none),gg 14 (.bin .geq (.t 13) (xk .i64 0))] (.cond (.t 14) (.drw [(.mk (gm 15 0) 0 true []),(.mk (gm 16 0) 1 true []),(.mk (gg 17 (.nil (.t 16))) 2 true []),(.mk (gg 18 (.ffa (.t 17) 0)) 3 true []),(.mk (gg 19 (.ld (.t 18) none)) 4 true []),(.mk (gm 20 0) 5 true []),(.mk (gg 21 (.nil (.t 20))) 6 true []),(.mk (gg 22 (.ffa (.t 21) 6)) 7 true []),(.mk (gg 23 (.ld (.t 22) none)) 8 true []),(.mk (gm 24 4) 9 true []),(.mk (gg 25 (.bin .add (.t 23) (.t 24))) 10 true []),(.mk (gg 26 (.cvi .u8 (.t 25))) 11 true []),(.mk (gg 27 (.bsl 5 1 1 [(.int .u8 ((0:Nat):Int))] [(0,(1,(.t 26)))])) 12 false [4]),(.mk (gg 28 (.app 5 1 1 (.t 19) (.t 27))) 13 false []),(.mk (gg 29 (.nil (.t 15))) 14 true []),(.mk (gg 30 (.ffa (.t 29) 0)) 15 true []),(.mk (G.mk none none (.st (.t 30) (.t 28) 1)) 16 false [])]) .skip)) (.cut (sr [gm 31 0,gg 32 (.nil (.t 31)),gg 33 (.ffa (.t 32) 7),gg 34 (.ld (.t 33) none),gg 35 (.bin .gtr (.t 34) (xk .i64 0))] (.cond (.t 35) (sr [gm 36 4,gg 37 (.bin .add (xk .i64 255) (.t 36)),gg 38 (.bin .and (.t 37) (xk .i64 255)),gg 39 (.cvi .u8 (.t 38)),gm 5 39] (.cut (sr [gm 40 0,gg 41 (.nil (.t 40)),gg 42 (.ffa (.t 41) 7),gg 43 (.ld (.t 42) none),gg 44 (.mov (xk .i64 0))] (.block 0 (.loop (sr [gg 45 (.bin .lss (.t 44) (.t 43))] (.seq (.cond (.t 45) .skip (.exit 0)) (.seq (.block 1 (.reg [gm 46 0,gm 47 0,gg 48 (.nil (.t 47)),gg 49 (.ffa (.t 48) 0),gg 50 (.ld (.t 49) none),gm 51 5,gg 52 (.bsl 5 1 1 [(.int .u8 ((0:Nat):Int))] [(0,(1,(.t 51)))]),gg 53 (.app 5 1 1 (.t 50) (.t 52)),gg 54 (.nil (.t 46)),gg 55 (.ffa (.t 54) 0),(G.mk none none (.st (.t 55) (.t 53) 1))])) (.reg [gg 56 (.bin .add (.t 44) (xk .i64 1)),gm 44 56]))))))) (.reg [gm 57 0,gg 58 (.nil (.t 57)),gg 59 (.ffa (.t 58) 7),(G.mk none none (.st (.t 59) (xk .i64 0) 1))]))) .skip)) (sr [gm 60 0,gm 61 1,gg 62 (.bin .and (.t 61) (xk .i64 255)),gg 63 (.nil (.t 60)),gg 64 (.ffa (.t 63) 6),(G.mk none none (.st (.t 64) (.t 62) 1))] .ret)))) .skip)) (.reg [gm 65 0,gg 66 (.nil (.t 65)),gg 67 (.ffa (.t 66) 7),gg 68 (.ld (.t 67) none),gg 69 (.bin .add (.t 68) (xk .i64 1)),gg 70 (.nil (.t 65)),gg 71 (.ffa (.t 70) 7),(G.mk none none (.st (.t 71) (.t 69) 1))])) 2 []):=by kernel_rfl
theorem c80_:compF Tryz.prog 80=some (.mk (sr [gg 2 (.mov (xk .i64 0))] (.cut (sr [gm 3 0] (.cond (.t 3) (sr [gg 2 (.mov (xk .i64 1))] .ret) .skip)) (sr [gg 2 (.mov (xk .i64 0))] .ret))) 1 [(.t 2)]):=by kernel_rfl
theorem c81_:compF Tryz.prog 81=some (.mk (sr [gg 4 (.mov (.k (.bool false)))] (sr [gm 5 0,gg 6 (.nil (.t 5)),gg 7 (.ffa (.t 6) 3),gg 8 (.ld (.t 7) none),gg 9 (.bin .gtr (.t 8) (xk .u64 0)),gm 10 9,gq 11 10 true (.mov (.t 0)),gq 12 10 true (.nil (.t 11)),gq 13 10 true (.ffa (.t 12) 0),gq 14 10 true (.ld (.t 13) none),gq 15 10 true (.len false (.t 14)),gq 16 10 true (.bin .eql (.t 15) (xk .i64 0)),gq 17 10 true (.mov (.t 16)),gq 18 17 false (.mov (.t 0)),gq 19 17 false (.nil (.t 18)),gq 20 17 false (.ffa (.t 19) 3),gq 21 17 false (.ld (.t 20) none),gq 22 17 false (.mov (.t 1)),gq 23 17 false (.bin .gtr (.t 21) (.t 22)),gq 24 10 true (.pick (.t 17) (.k (.bool true)) (.t 23)),gg 25 (.pick (.t 10) (.t 24) (.k (.bool false))),gm 4 25] .ret)) 2 [(.t 4)]):=by kernel_rfl
theorem c34_:compF Tryz.prog 34=some (.mk (sr [gg 2 (.mov (.k (.slice none 0 0)))] (sr [gg 3 (.mov (.k (.slice none 0 0)))] (.cut (sr [gm 6 0,gg 7 (.len false (.t 6)),gg 8 (.mov (xk .i64 0))] (.block 0 (.loop (sr [gg 9 (.bin .lss (.t 8) (.t 7))] (.seq (.cond (.t 9) .skip (.exit 0)) (.seq (.block 1 (sr [gg 10 (.ia (.t 6) (.t 8) 1),gg 11 (.ld (.t 10) none),gm 5 11] (.reg [gm 12 3,gm 13 5,gg 14 (.cvi .u64 (.t 13)),gg 15 (.bsl 70 1 1 [(.int .u64 ((0:Nat):Int))] [(0,(1,(.t 14)))]),gg 16 (.app 70 1 8 (.t 12) (.t 15)),gm 3 16]))) (.reg [gg 17 (.bin .add (.t 8) (xk .i64 1)),gm 8 17]))))))) (sr [gm 18 3,gm 2 18] .ret)))) 1 [(.t 2)]):=by kernel_rfl
theorem c38_:compF Tryz.prog 38=some (.mk (sr [gg 2 (.mov (xk .u32 0))] (sr [gm 3 0,gg 4 (.nil (.t 3)),gg 5 (.ffa (.t 4) 4),gg 6 (.ld (.t 5) none),gm 2 6] .ret)) 1 [(.t 2)]):=by kernel_rfl
theorem c39_:compF Tryz.prog 39=some (.mk (sr [gg 2 (.mov (xk .u64 0))] (sr [gm 4 0,gg 5 (.nil (.t 4)),gg 6 (.ffa (.t 5) 4),gg 7 (.ld (.t 6) none),gg 8 (.call 75 [(.t 7)]),gg 9 (.cvi .u64 (.t 8)),gm 3 9] (.cut (sr [gm 10 3,gg 11 (.bin .eql (.t 10) (xk .u64 0))] (.cond (.t 11) (sr [gm 12 0,gg 13 (.nil (.t 12)),gg 14 (.ffa (.t 13) 8),gg 15 (.ld (.t 14) none),gm 2 15] .ret) .skip)) (.cut (sr [gm 16 0,gg 17 (.nil (.t 16)),gg 18 (.ffa (.t 17) 8),gg 19 (.ld (.t 18) none),gm 20 3,gg 21 (.bin .leq (.t 19) (.t 20))] (.cond (.t 21) (sr [gg 2 (.mov (xk .u64 0))] .ret) .skip)) (sr [gm 22 0,gg 23 (.nil (.t 22)),gg 24 (.ffa (.t 23) 8),gg 25 (.ld (.t 24) none),gm 26 3,gg 27 (.bin .sub (.t 25) (.t 26)),gm 2 27] .ret))))) 1 [(.t 2)]):=by kernel_rfl
theorem c40_:compF Tryz.prog 40=some (.mk (sr [gg 2 (.mov (xk .u64 0))] (sr [gm 7 0,gg 8 (.nil (.t 7)),gg 9 (.ffa (.t 8) 4),gg 10 (.ld (.t 9) none),gg 11 (.call 75 [(.t 10)]),gg 12 (.cvi .u64 (.t 11)),gm 3 12] (.cut (sr [gm 13 3,gg 14 (.bin .eql (.t 13) (xk .u64 0))] (.cond (.t 14) (sr [gm 15 0,gg 16 (.nil (.t 15)),gg 17 (.ffa (.t 16) 8),gg 18 (.ld (.t 17) none),gg 19 (.bin .mul (.t 18) (xk .u64 8)),gm 2 19] .ret) .skip)) (.cut (sr [gm 20 3,gg 21 (.bin .lss (.t 20) (xk .u64 24))] (.cond (.t 21) (sr [gm 22 0,gg 23 (.call 39 [(.t 22)]),gg 24 (.bin .mul (.t 23) (xk .u64 8)),gm 2 24] .ret) .skip)) (sr [gm 25 0,gg 26 (.nil (.t 25)),gg 27 (.ffa (.t 26) 4),gg 28 (.ld (.t 27) none),gm 29 3,gg 30 (.bin .sub (.t 29) (xk .u64 16)),gg 31 (.bin .shr (.t 28) (.t 30)),gg 32 (.cvi .u64 (.t 31)),gm 4 32] (.cut (sr [gg 33 (.mov (xk .i64 0))] (.block 0 (.loop (sr [gg 34 (.bin .lss (.t 33) (xk .i64 3))] (.seq (.cond (.t 34) .skip (.exit 0)) (.cut (.block 1 (sr [gm 35 4,gm 36 4,gg 37 (.bin .mul (.t 35) (.t 36)),gg 38 (.bik .shr .u64 (.t 37) 15),gm 4 38] (sr [gm 39 4,gg 40 (.bik .shr .u64 (.t 39) 16),gm 5 40] (sr [gm 41 3,gg 42 (.bin .mul (xk .u64 2) (.t 41)),gm 43 5,gg 44 (.bin .add (.t 42) (.t 43)),gm 3 44] (sr [gm 45 5,gg 46 (.bin .neq (.t 45) (xk .u64 0))] (.cond (.t 46) (.reg [gm 47 4,gg 48 (.bik .shr .u64 (.t 47) 1),gm 4 48]) .skip)))))) (.reg [gg 49 (.bin .add (.t 33) (xk .i64 1)),gm 33 49]))))))) (sr [gm 50 0,gg 51 (.nil (.t 50)),gg 52 (.ffa (.t 51) 8),gg 53 (.ld (.t 52) none),gg 54 (.bin .mul (.t 53) (xk .u64 8)),gm 6 54] (.cut (sr [gm 55 6,gm 56 3,gg 57 (.bin .leq (.t 55) (.t 56))] (.cond (.t 57) (sr [gg 2 (.mov (xk .u64 0))] .ret) .skip)) (sr [gm 58 6,gm 59 3,gg 60 (.bin .sub (.t 58) (.t 59)),gm 2 60] .ret))))))))) 1 [(.t 2)]):=by kernel_rfl
theorem c44_:compF Tryz.prog 44=some (.mk (sr [gg 4 (.mov (xk .u32 0))] (sr [gm 5 0,gm 6 1,gg 7 (.call 84 [(.t 5),(.t 6)]),gm 4 7] .ret)) 2 [(.t 4)]):=by kernel_rfl
theorem c45_:compF Tryz.prog 45=some (.mk (.reg [gm 8 0,gm 9 0,gg 10 (.nil (.t 9)),gg 11 (.ffa (.t 10) 4),gg 12 (.ld (.t 11) none),gm 13 3,gg 14 (.bin .quo (.t 12) (.t 13)),gm 15 1,gm 16 2,gm 17 3,gg 18 (.call 85 [(.t 8),(.t 14),(.t 15),(.t 16),(.t 17)])]) 4 []):=by kernel_rfl
theorem c46_:compF Tryz.prog 46=some (.mk (sr [gg 4 (.mov (xk .u32 0))] (sr [gm 7 0,gg 8 (.nil (.t 7)),gg 9 (.ffa (.t 8) 4),gg 10 (.ld (.t 9) none),gm 11 1,gg 12 (.bin .shr (.t 10) (.t 11)),gm 5 12] (sr [gg 6 (.mov (xk .u32 0))] (.cut (sr [gm 13 0,gg 14 (.nil (.t 13)),gg 15 (.ffa (.t 14) 5),gg 16 (.ld (.t 15) none),gm 17 5,gg 18 (.bin .geq (.t 16) (.t 17))] (.cond (.t 18) (sr [gm 19 0,gg 20 (.nil (.t 19)),gg 21 (.ffa (.t 20) 5),gg 22 (.ld (.t 21) none),gm 23 5,gg 24 (.bin .sub (.t 22) (.t 23)),gg 25 (.nil (.t 19)),gg 26 (.ffa (.t 25) 5),(G.mk none none (.st (.t 26) (.t 24) 1))] (.reg [gm 27 0,gg 28 (.nil (.t 27)),gg 29 (.ffa (.t 28) 4),gg 30 (.ld (.t 29) none),gm 31 5,gg 32 (.bin .sub (.t 30) (.t 31)),gg 33 (.nil (.t 27)),gg 34 (.ffa (.t 33) 4),(G.mk none none (.st (.t 34) (.t 32) 1))])) (sr [gm 35 0,gm 36 5,gg 37 (.nil (.t 35)),gg 38 (.ffa (.t 37) 4),(G.mk none none (.st (.t 38) (.t 36) 1))] (.reg [gg 6 (.mov (xk .u32 1))])))) (sr [gm 39 0,gg 40 (.call 83 [(.t 39)])] (sr [gm 41 6,gm 4 41] .ret)))))) 2 [(.t 4)]):=by kernel_rfl
theorem c47_:compF Tryz.prog 47=some (.mk (sr [gg 4 (.mov (xk .u32 0))] (sr [gm 11 1,gg 12 (.ia (.t 11) (xk .i64 0) 1),gg 13 (.ld (.t 12) none),gg 14 (.cvi .u32 (.t 13)),gm 5 14] (sr [gm 15 1,gg 16 (.slq (.t 15) (some (xk .i64 1)) none 1),gm 1 16] (sr [gm 17 0,gg 18 (.nil (.t 17)),gg 19 (.ffa (.t 18) 4),gg 20 (.ld (.t 19) none),gm 21 5,gg 22 (.bin .quo (.t 20) (.t 21)),gm 6 22] (sr [gm 23 0,gg 24 (.nil (.t 23)),gg 25 (.ffa (.t 24) 5),gg 26 (.ld (.t 25) none),gm 27 6,gg 28 (.bin .quo (.t 26) (.t 27)),gg 29 (.bin .add (.t 28) (xk .u32 1)),gm 7 29] (sr [gm 30 5,gm 31 7,gg 32 (.cvi .u64 (.t 31)),gm 33 5,gg 34 (.cvi .u64 (.t 33)),gg 35 (.call 86 [(.t 32),(.t 34)]),gg 36 (.cvi .u32 (.t 35)),gg 37 (.bin .sub (.t 30) (.t 36)),gm 7 37] (sr [gg 8 (.mov (xk .u32 0))] (.cut (.block 0 (.loop (.seq (sr [gm 38 1,gm 39 8,gg 40 (.ia (.t 38) (.t 39) 1),gg 41 (.ld (.t 40) none),gg 42 (.cvi .u32 (.t 41)),gm 43 7,gg 44 (.bin .leq (.t 42) (.t 43))] (.cond (.t 44) .skip (.exit 0))) (.block 1 (.reg [gm 45 8,gg 46 (.bin .add (.t 45) (xk .u32 1)),gm 8 46]))))) (sr [gm 47 1,gm 48 8,gg 49 (.ia (.t 47) (.t 48) 1),gg 50 (.ld (.t 49) none),gg 51 (.cvi .u32 (.t 50)),gm 9 51] (sr [gg 10 (.mov (xk .u32 0))] (.cut (sr [gm 52 8,gg 53 (.bin .neq (.t 52) (xk .u32 0))] (.cond (.t 53) (.reg [gm 54 1,gm 55 8,gg 56 (.bin .sub (.t 55) (xk .u32 1)),gg 57 (.ia (.t 54) (.t 56) 1),gg 58 (.ld (.t 57) none),gg 59 (.cvi .u32 (.t 58)),gm 10 59]) .skip)) (sr [gm 60 0,gm 61 6,gm 62 10,gm 63 9,gm 64 5,gg 65 (.call 85 [(.t 60),(.t 61),(.t 62),(.t 63),(.t 64)])] (sr [gm 66 8,gm 4 66] .ret))))))))))))) 2 [(.t 4)]):=by kernel_rfl
theorem c48_:compF Tryz.prog 48=some (.mk (sr [gg 4 (.mov (xk .u32 0)),gg 5 (.mov (.k (.bool false)))] (.cut (sr [gm 12 1,gg 13 (.bin .eql (.t 12) (xk .u32 0))] (.cond (.t 13) (sr [gg 4 (.mov (xk .u32 0)),gg 5 (.mov (.k (.bool false)))] .ret) .skip)) (.cut (sr [gm 14 1,gg 15 (.bin .eql (.t 14) (xk .u32 1))] (.cond (.t 15) (sr [gg 4 (.mov (xk .u32 0)),gg 5 (.mov (.k (.bool true)))] .ret) .skip)) (sr [gm 16 1,gg 17 (.bin .sub (.t 16) (xk .u32 1)),gm 6 17] (sr [gm 18 6,gg 19 (.call 75 [(.t 18)]),gm 7 19] (.cut (sr [gm 20 7,gg 21 (.bin .leq (.t 20) (xk .i64 8))] (.cond (.t 21) (sr [gm 22 0,gm 23 1,gg 24 (.call 87 [(.t 22),(.t 23)]),gm 4 24,gg 5 (.mov (.k (.bool true)))] .ret) .skip)) (sr [gm 25 7,gg 26 (.bin .sub (.t 25) (xk .i64 8)),gm 8 26] (sr [gm 27 6,gm 28 8,gg 29 (.bin .shr (.t 27) (.t 28)),gg 30 (.bin .add (.t 29) (xk .u32 1)),gm 9 30] (sr [gm 31 0,gm 32 9,gg 33 (.call 87 [(.t 31),(.t 32)]),gm 10 33] (.seq (.drw [(.mk (gm 34 10) 0 true []),(.mk (gm 35 8) 1 true []),(.mk (gg 36 (.bin .shl (.t 34) (.t 35))) 2 true []),(.mk (gm 37 0) 3 true []),(.mk (gm 38 8) 4 true []),(.mk (gg 39 (.cvi .u64 (.t 38))) 5 true []),(.mk (gg 40 (.call 49 [(.t 37),(.t 39)])) 6 false []),(.mk (gg 41 (.bin .or (.t 36) (.t 40))) 7 true []),(.mk (gm 11 41) 8 true [])]) (.cut (sr [gm 42 11,gm 43 6,gg 44 (.bin .leq (.t 42) (.t 43))] (.cond (.t 44) (sr [gm 45 11,gm 4 45,gg 5 (.mov (.k (.bool true)))] .ret) .skip)) (sr [gm 46 6,gm 4 46,gg 5 (.mov (.k (.bool false)))] .ret)))))))))))) 2 [(.t 4),(.t 5)]):=by kernel_rfl
theorem c49_:compF Tryz.prog 49=some (.mk (sr [gg 4 (.mov (xk .u32 0))] (sr [gm 5 0,gm 6 1,gg 7 (.call 88 [(.t 5),(.t 6)]),gm 4 7] .ret)) 2 [(.t 4)]):=by kernel_rfl
theorem c50_:compF Tryz.prog 50=some (.mk (sr [gg 6 (.mov (xk .i64 0))] (sr [gg 7 (.mov (xk .i64 0))] (sr [gm 13 0,gg 14 (.call 84 [(.t 13),(xk .u32 32768)]),gm 8 14] (sr [gg 9 (.mov (xk .u32 0))] (sr [gm 15 1,gm 10 15] (.cut (sr [gm 16 8,gm 17 10,gg 18 (.bin .geq (.t 16) (.t 17))] (.cond (.t 18) (sr [gm 19 7,gg 20 (.bin .add (.t 19) (xk .i64 1)),gm 7 20] (sr [gm 21 10,gm 9 21] (sr [gm 22 1,gm 23 2,gg 24 (.call 89 [(.t 22),(.t 23)]),gg 25 (.bin .add (.t 24) (xk .u32 1)),gm 10 25] (.cut (.block 0 (.loop (.seq (sr [gm 26 10,gg 27 (.bin .gtr (.t 26) (xk .u32 1)),gm 28 27,gq 29 28 true (.mov (.t 8)),gq 30 28 true (.mov (.t 9)),gq 31 28 true (.mov (.t 10)),gq 32 28 true (.bin .mul (xk .u32 2) (.t 31)),gq 33 28 true (.bin .add (.t 30) (.t 32)),gq 34 28 true (.bin .geq (.t 29) (.t 33)),gg 35 (.pick (.t 28) (.t 34) (.k (.bool false)))] (.cond (.t 35) .skip (.exit 0))) (.block 1 (sr [gm 36 10,gg 37 (.bin .mul (.t 36) (xk .u32 2)),gm 10 37] (sr [gm 38 9,gm 39 10,gg 40 (.bin .add (.t 38) (.t 39)),gm 9 40] (sr [gm 41 10,gg 42 (.bin .sub (.t 41) (xk .u32 2)),gm 43 2,gg 44 (.bin .mul (.t 42) (.t 43)),gg 45 (.bik .shr .u64 (.t 44) 15),gm 10 45] (sr [gm 46 10,gg 47 (.bin .add (.t 46) (xk .u32 1)),gm 10 47] (.reg [gm 48 7,gg 49 (.bin .add (.t 48) (xk .i64 1)),gm 7 49]))))))))) (.cut (sr [gm 50 10,gg 51 (.bin .leq (.t 50) (xk .u32 1))] (.cond (.t 51) (sr [gm 52 8,gm 53 9,gg 54 (.bin .sub (.t 52) (.t 53)),gg 55 (.bik .shr .u64 (.t 54) 1),gm 11 55] (sr [gm 56 7,gm 57 11,gg 58 (.cvi .i64 (.t 57)),gg 59 (.bin .add (.t 56) (.t 58)),gm 7 59] (.reg [gm 60 9,gm 61 11,gg 62 (.bin .mul (xk .u32 2) (.t 61)),gg 63 (.bin .mul (.t 62) (xk .u32 1)),gg 64 (.bin .add (.t 60) (.t 63)),gm 9 64]))) .skip)) (sr [gm 65 8,gm 66 9,gm 67 10,gg 68 (.bin .add (.t 66) (.t 67)),gg 69 (.bin .lss (.t 65) (.t 68))] (.cond (.t 69) (.reg [gm 70 7,gg 71 (.un .neg (.t 70)),gm 7 71]) (.reg [gm 72 9,gm 73 10,gg 74 (.bin .add (.t 72) (.t 73)),gm 9 74])))))))) .skip)) (sr [gm 75 9,gm 76 10,gg 77 (.bin .add (.t 75) (.t 76)),gg 78 (.mn (.t 77) [(xk .u32 32768)]),gm 12 78] (sr [gm 79 0,gm 80 0,gg 81 (.nil (.t 80)),gg 82 (.ffa (.t 81) 4),gg 83 (.ld (.t 82) none),gg 84 (.bik .quo .u32 (.t 83) 32768),gm 85 9,gm 86 12,gg 87 (.call 85 [(.t 79),(.t 84),(.t 85),(.t 86),(xk .u32 32768)])] (sr [gm 88 7,gm 6 88] .ret))))))))) 3 [(.t 6)]):=by kernel_rfl
theorem c51_:compF Tryz.prog 51=some (.mk (.cut (sr [gm 4 1,gg 5 (.bin .lss (.t 4) (xk .i64 0))] (.cond (.t 5) (.reg [gg 1 (.mov (xk .i64 0))]) .skip)) (sr [gm 6 1,gm 7 0,gg 8 (.nil (.t 7)),gg 9 (.ffa (.t 8) 0),gg 10 (.ld (.t 9) none),gg 11 (.len false (.t 10)),gg 12 (.bin .lss (.t 6) (.t 11))] (.cond (.t 12) (.reg [gm 13 0,gm 14 0,gg 15 (.nil (.t 14)),gg 16 (.ffa (.t 15) 0),gg 17 (.ld (.t 16) none),gm 18 1,gg 19 (.slc (.t 17) none (some (.t 18)) 1),gg 20 (.nil (.t 13)),gg 21 (.ffa (.t 20) 0),(G.mk none none (.st (.t 21) (.t 19) 1))]) .skip))) 2 []):=by kernel_rfl
theorem c52_:compF Tryz.prog 52=some (.mk (sr [gg 2 (.mov (xk .u32 0))] (sr [gm 3 0,gg 4 (.nil (.t 3)),gg 5 (.ffa (.t 4) 4),gg 6 (.ld (.t 5) none),gm 2 6] .ret)) 1 [(.t 2)]):=by kernel_rfl
theorem c53_:compF Tryz.prog 53=some (.mk (sr [gg 2 (.mov (xk .u64 0))] (sr [gm 4 0,gg 5 (.nil (.t 4)),gg 6 (.ffa (.t 5) 4),gg 7 (.ld (.t 6) none),gg 8 (.call 75 [(.t 7)]),gg 9 (.cvi .u64 (.t 8)),gm 3 9] (.cut (sr [gm 10 3,gg 11 (.bin .eql (.t 10) (xk .u64 0))] (.cond (.t 11) (sr [gm 12 0,gg 13 (.nil (.t 12)),gg 14 (.ffa (.t 13) 3),gg 15 (.ld (.t 14) none),gm 2 15] .ret) .skip)) (.cut (sr [gm 16 0,gg 17 (.nil (.t 16)),gg 18 (.ffa (.t 17) 3),gg 19 (.ld (.t 18) none),gm 20 3,gg 21 (.bin .leq (.t 19) (.t 20))] (.cond (.t 21) (sr [gg 2 (.mov (xk .u64 0))] .ret) .skip)) (sr [gm 22 0,gg 23 (.nil (.t 22)),gg 24 (.ffa (.t 23) 3),gg 25 (.ld (.t 24) none),gm 26 3,gg 27 (.bin .sub (.t 25) (.t 26)),gm 2 27] .ret))))) 1 [(.t 2)]):=by kernel_rfl
theorem c54_:compF Tryz.prog 54=some (.mk (sr [gg 2 (.mov (xk .u64 0))] (sr [gm 7 0,gg 8 (.nil (.t 7)),gg 9 (.ffa (.t 8) 4),gg 10 (.ld (.t 9) none),gg 11 (.call 75 [(.t 10)]),gg 12 (.cvi .u64 (.t 11)),gm 3 12] (.cut (sr [gm 13 3,gg 14 (.bin .eql (.t 13) (xk .u64 0))] (.cond (.t 14) (sr [gm 15 0,gg 16 (.nil (.t 15)),gg 17 (.ffa (.t 16) 3),gg 18 (.ld (.t 17) none),gg 19 (.bin .mul (.t 18) (xk .u64 8)),gm 2 19] .ret) .skip)) (.cut (sr [gm 20 3,gg 21 (.bin .lss (.t 20) (xk .u64 24))] (.cond (.t 21) (sr [gm 22 0,gg 23 (.call 53 [(.t 22)]),gg 24 (.bin .mul (.t 23) (xk .u64 8)),gm 2 24] .ret) .skip)) (sr [gm 25 0,gg 26 (.nil (.t 25)),gg 27 (.ffa (.t 26) 4),gg 28 (.ld (.t 27) none),gm 29 3,gg 30 (.bin .sub (.t 29) (xk .u64 16)),gg 31 (.bin .shr (.t 28) (.t 30)),gg 32 (.cvi .u64 (.t 31)),gm 4 32] (.cut (sr [gg 33 (.mov (xk .i64 0))] (.block 0 (.loop (sr [gg 34 (.bin .lss (.t 33) (xk .i64 3))] (.seq (.cond (.t 34) .skip (.exit 0)) (.cut (.block 1 (sr [gm 35 4,gm 36 4,gg 37 (.bin .mul (.t 35) (.t 36)),gg 38 (.bik .shr .u64 (.t 37) 15),gm 4 38] (sr [gm 39 4,gg 40 (.bik .shr .u64 (.t 39) 16),gm 5 40] (sr [gm 41 3,gg 42 (.bin .mul (xk .u64 2) (.t 41)),gm 43 5,gg 44 (.bin .add (.t 42) (.t 43)),gm 3 44] (sr [gm 45 5,gg 46 (.bin .neq (.t 45) (xk .u64 0))] (.cond (.t 46) (.reg [gm 47 4,gg 48 (.bik .shr .u64 (.t 47) 1),gm 4 48]) .skip)))))) (.reg [gg 49 (.bin .add (.t 33) (xk .i64 1)),gm 33 49]))))))) (sr [gm 50 0,gg 51 (.nil (.t 50)),gg 52 (.ffa (.t 51) 3),gg 53 (.ld (.t 52) none),gg 54 (.bin .mul (.t 53) (xk .u64 8)),gm 6 54] (.cut (sr [gm 55 6,gm 56 3,gg 57 (.bin .leq (.t 55) (.t 56))] (.cond (.t 57) (sr [gg 2 (.mov (xk .u64 0))] .ret) .skip)) (sr [gm 58 6,gm 59 3,gg 60 (.bin .sub (.t 58) (.t 59)),gm 2 60] .ret))))))))) 1 [(.t 2)]):=by kernel_rfl
theorem c55_:compF Tryz.prog 55=some (.mk (sr [gg 2 (.mov (xk .i64 0))] (.seq (.drw [(.mk (gm 3 0) 0 true []),(.mk (gg 4 (.nil (.t 3))) 1 true []),(.mk (gg 5 (.ffa (.t 4) 0)) 2 true []),(.mk (gg 6 (.ld (.t 5) none)) 3 true []),(.mk (gg 7 (.len false (.t 6))) 4 true []),(.mk (gg 8 (.bin .mul (.t 7) (xk .i64 8))) 5 true []),(.mk (gm 9 0) 6 true []),(.mk (gg 10 (.nil (.t 9))) 7 true []),(.mk (gg 11 (.ffa (.t 10) 1)) 8 true []),(.mk (gg 12 (.ld (.t 11) none)) 9 true []),(.mk (gg 13 (.cvi .i64 (.t 12))) 10 true []),(.mk (gg 14 (.bin .sub (.t 8) (.t 13))) 11 true []),(.mk (gm 15 0) 12 true []),(.mk (gg 16 (.nil (.t 15))) 13 true []),(.mk (gg 17 (.ffa (.t 16) 2)) 14 true []),(.mk (gg 18 (.ld (.t 17) none)) 15 true []),(.mk (gg 19 (.cvi .i64 (.t 18))) 16 true []),(.mk (gg 20 (.bin .sub (.t 14) (.t 19))) 17 true []),(.mk (gm 2 20) 18 true [])]) .ret)) 1 [(.t 2)]):=by kernel_rfl
theorem c74_:compF Tryz.prog 74=some (.mk (.block 0 (.loop (.seq (sr [gm 2 0,gg 3 (.nil (.t 2)),gg 4 (.ffa (.t 3) 4),gg 5 (.ld (.t 4) none),gg 6 (.bin .leq (.t 5) (xk .u32 8388608))] (.cond (.t 6) .skip (.exit 0))) (.block 1 (sr [gm 7 0,gm 8 0,gg 9 (.nil (.t 8)),gg 10 (.ffa (.t 9) 5),gg 11 (.ld (.t 10) none),gg 12 (.bik .shr .u64 (.t 11) 23),gg 13 (.cvi .i64 (.t 12)),gg 14 (.call 79 [(.t 7),(.t 13)])] (sr [gm 15 0,gm 16 0,gg 17 (.nil (.t 16)),gg 18 (.ffa (.t 17) 5),gg 19 (.ld (.t 18) none),gg 20 (.bik .shl .u64 (.t 19) 8),gg 21 (.bin .and (.t 20) (xk .u32 2147483647)),gg 22 (.nil (.t 15)),gg 23 (.ffa (.t 22) 5),(G.mk none none (.st (.t 23) (.t 21) 1))] (sr [gm 24 0,gg 25 (.nil (.t 24)),gg 26 (.ffa (.t 25) 4),gg 27 (.ld (.t 26) none),gg 28 (.bik .shl .u64 (.t 27) 8),gg 29 (.nil (.t 24)),gg 30 (.ffa (.t 29) 4),(G.mk none none (.st (.t 30) (.t 28) 1))] (.reg [gm 31 0,gg 32 (.nil (.t 31)),gg 33 (.ffa (.t 32) 8),gg 34 (.ld (.t 33) none),gg 35 (.bin .add (.t 34) (xk .u64 8)),gg 36 (.nil (.t 31)),gg 37 (.ffa (.t 36) 8),(G.mk none none (.st (.t 37) (.t 35) 1))])))))))) 1 []):=by kernel_rfl
theorem c100_:compF Tryz.prog 100=some (.mk (sr [gg 2 (.mov (xk .u32 0))] (sr [gm 5 0,gg 6 (.nil (.t 5)),gg 7 (.ffa (.t 6) 1),gg 8 (.ld (.t 7) none),gg 9 (.bik .quo .u64 (.t 8) 8),gm 3 9] (sr [gm 10 0,gg 11 (.nil (.t 10)),gg 12 (.ffa (.t 11) 1),gg 13 (.ld (.t 12) none),gg 14 (.bik .rem .u64 (.t 13) 8),gm 4 14] (.cut (sr [gm 15 3,gm 16 0,gg 17 (.nil (.t 16)),gg 18 (.ffa (.t 17) 0),gg 19 (.ld (.t 18) none),gg 20 (.len false (.t 19)),gg 21 (.cvi .u64 (.t 20)),gg 22 (.bin .geq (.t 15) (.t 21))] (.cond (.t 22) (sr [gg 2 (.mov (xk .u32 0))] .ret) .skip)) (sr [gm 23 0,gg 24 (.nil (.t 23)),gg 25 (.ffa (.t 24) 1),gg 26 (.ld (.t 25) none),gg 27 (.bin .add (.t 26) (xk .u64 1)),gg 28 (.nil (.t 23)),gg 29 (.ffa (.t 28) 1),(G.mk none none (.st (.t 29) (.t 27) 1))] (sr [gm 30 0,gg 31 (.nil (.t 30)),gg 32 (.ffa (.t 31) 0),gg 33 (.ld (.t 32) none),gm 34 3,gg 35 (.ia (.t 33) (.t 34) 1),gg 36 (.ld (.t 35) none),gm 37 4,gg 38 (.bin .sub (xk .u64 7) (.t 37)),gg 39 (.bin .shr (.t 36) (.t 38)),gg 40 (.bin .and (.t 39) (xk .u8 1)),gg 41 (.cvi .u32 (.t 40)),gm 2 41] .ret)))))) 1 [(.t 2)]):=by kernel_rfl
theorem c84_:compF Tryz.prog 84=some (.mk (sr [gg 4 (.mov (xk .u32 0))] (sr [gm 7 0,gg 8 (.nil (.t 7)),gg 9 (.ffa (.t 8) 4),gg 10 (.ld (.t 9) none),gm 11 1,gg 12 (.bin .quo (.t 10) (.t 11)),gm 5 12] (sr [gm 13 0,gg 14 (.nil (.t 13)),gg 15 (.ffa (.t 14) 5),gg 16 (.ld (.t 15) none),gm 17 5,gg 18 (.bin .quo (.t 16) (.t 17)),gg 19 (.bin .add (.t 18) (xk .u32 1)),gm 6 19] (sr [gm 20 1,gm 21 6,gg 22 (.cvi .u64 (.t 21)),gm 23 1,gg 24 (.cvi .u64 (.t 23)),gg 25 (.call 86 [(.t 22),(.t 24)]),gg 26 (.cvi .u32 (.t 25)),gg 27 (.bin .sub (.t 20) (.t 26)),gm 4 27] .ret)))) 2 [(.t 4)]):=by kernel_rfl
theorem c85_:compF Tryz.prog 85=some (.mk (sr [gm 10 0,gg 11 (.nil (.t 10)),gg 12 (.ffa (.t 11) 5),gg 13 (.ld (.t 12) none),gm 14 1,gm 15 4,gm 16 3,gg 17 (.bin .sub (.t 15) (.t 16)),gg 18 (.bin .mul (.t 14) (.t 17)),gg 19 (.bin .sub (.t 13) (.t 18)),gg 20 (.nil (.t 10)),gg 21 (.ffa (.t 20) 5),(G.mk none none (.st (.t 21) (.t 19) 1))] (.cut (sr [gm 22 2,gg 23 (.bin .neq (.t 22) (xk .u32 0))] (.cond (.t 23) (.reg [gm 24 0,gm 25 1,gm 26 3,gm 27 2,gg 28 (.bin .sub (.t 26) (.t 27)),gg 29 (.bin .mul (.t 25) (.t 28)),gg 30 (.nil (.t 24)),gg 31 (.ffa (.t 30) 4),(G.mk none none (.st (.t 31) (.t 29) 1))]) (.reg [gm 32 0,gg 33 (.nil (.t 32)),gg 34 (.ffa (.t 33) 4),gg 35 (.ld (.t 34) none),gm 36 1,gm 37 4,gm 38 3,gg 39 (.bin .sub (.t 37) (.t 38)),gg 40 (.bin .mul (.t 36) (.t 39)),gg 41 (.bin .sub (.t 35) (.t 40)),gg 42 (.nil (.t 32)),gg 43 (.ffa (.t 42) 4),(G.mk none none (.st (.t 43) (.t 41) 1))]))) (.reg [gm 44 0,gg 45 (.call 83 [(.t 44)])]))) 5 []):=by kernel_rfl
theorem c86_:compF Tryz.prog 86=some (.mk (sr [gg 4 (.mov (xk .u64 0))] (.cut (sr [gm 5 0,gm 6 1,gg 7 (.bin .lss (.t 5) (.t 6))] (.cond (.t 7) (sr [gm 8 0,gm 4 8] .ret) .skip)) (sr [gm 9 1,gm 4 9] .ret))) 2 [(.t 4)]):=by kernel_rfl
theorem c87_:compF Tryz.prog 87=some (.mk (sr [gg 4 (.mov (xk .u32 0))] (sr [gm 6 0,gm 7 1,gg 8 (.call 84 [(.t 6),(.t 7)]),gm 5 8] (sr [gm 9 0,gm 10 0,gg 11 (.nil (.t 10)),gg 12 (.ffa (.t 11) 4),gg 13 (.ld (.t 12) none),gm 14 1,gg 15 (.bin .quo (.t 13) (.t 14)),gm 16 5,gm 17 5,gg 18 (.bin .add (.t 17) (xk .u32 1)),gm 19 1,gg 20 (.call 85 [(.t 9),(.t 15),(.t 16),(.t 18),(.t 19)])] (sr [gm 21 5,gm 4 21] .ret)))) 2 [(.t 4)]):=by kernel_rfl
theorem c88_:compF Tryz.prog 88=some (.mk (sr [gg 4 (.mov (xk .u32 0))] (sr [gg 5 (.mov (xk .u32 0))] (.cut (sr [gg 6 (.mov (xk .u64 0))] (.block 0 (.loop (.seq (sr [gm 8 6,gm 9 1,gg 10 (.bin .lss (.t 8) (.t 9)),gm 11 10,gq 12 11 true (.mov (.t 6)),gq 13 11 true (.bin .lss (.t 12) (xk .u64 32)),gg 14 (.pick (.t 11) (.t 13) (.k (.bool false)))] (.cond (.t 14) .skip (.exit 0))) (.seq (.block 1 (.reg [gm 17 5,gm 18 0,gg 19 (.call 101 [(.t 18)]),gm 20 6,gg 21 (.bin .shl (.t 19) (.t 20)),gg 22 (.bin .or (.t 17) (.t 21)),gm 5 22])) (.reg [gm 15 6,gg 16 (.bin .add (.t 15) (xk .u64 1)),gm 6 16])))))) (.cut (sr [gg 7 (.mov (xk .u64 32))] (.block 2 (.loop (.seq (sr [gm 23 7,gm 24 1,gg 25 (.bin .lss (.t 23) (.t 24))] (.cond (.t 25) .skip (.exit 2))) (.seq (.block 3 (.reg [gm 28 0,gg 29 (.call 101 [(.t 28)])])) (.reg [gm 26 7,gg 27 (.bin .add (.t 26) (xk .u64 1)),gm 7 27])))))) (sr [gm 30 5,gm 4 30] .ret))))) 2 [(.t 4)]):=by kernel_rfl
theorem c89_:compF Tryz.prog 89=some (.mk (sr [gg 4 (.mov (xk .u32 0))] (sr [gm 6 0,gg 7 (.bin .sub (xk .u32 32736) (.t 6)),gm 5 7] (sr [gm 8 5,gm 9 1,gg 10 (.bin .sub (xk .u32 16384) (.t 9)),gg 11 (.bin .mul (.t 8) (.t 10)),gg 12 (.bik .shr .u64 (.t 11) 15),gm 4 12] .ret))) 2 [(.t 4)]):=by kernel_rfl
theorem c101_:compF Tryz.prog 101=some (.mk (sr [gg 2 (.mov (xk .u32 0))] (sr [gm 6 0,gg 7 (.nil (.t 6)),gg 8 (.ffa (.t 7) 2),gg 9 (.ld (.t 8) none),gg 10 (.bik .quo .u64 (.t 9) 8),gm 3 10] (sr [gm 11 0,gg 12 (.nil (.t 11)),gg 13 (.ffa (.t 12) 2),gg 14 (.ld (.t 13) none),gg 15 (.bik .rem .u64 (.t 14) 8),gm 4 15] (sr [gm 16 0,gg 17 (.nil (.t 16)),gg 18 (.ffa (.t 17) 2),gg 19 (.ld (.t 18) none),gg 20 (.bin .add (.t 19) (xk .u64 1)),gg 21 (.nil (.t 16)),gg 22 (.ffa (.t 21) 2),(G.mk none none (.st (.t 22) (.t 20) 1))] (sr [gm 23 0,gg 24 (.nil (.t 23)),gg 25 (.ffa (.t 24) 3),gg 26 (.ld (.t 25) none),gg 27 (.bin .add (.t 26) (xk .u64 1)),gg 28 (.nil (.t 23)),gg 29 (.ffa (.t 28) 3),(G.mk none none (.st (.t 29) (.t 27) 1))] (.cut (sr [gm 30 3,gm 31 0,gg 32 (.nil (.t 31)),gg 33 (.ffa (.t 32) 0),gg 34 (.ld (.t 33) none),gg 35 (.len false (.t 34)),gg 36 (.cvi .u64 (.t 35)),gg 37 (.bin .geq (.t 30) (.t 36))] (.cond (.t 37) (sr [gg 2 (.mov (xk .u32 0))] .ret) .skip)) (sr [gm 38 0,gg 39 (.nil (.t 38)),gg 40 (.ffa (.t 39) 0),gg 41 (.ld (.t 40) none),gg 42 (.len false (.t 41)),gg 43 (.bin .sub (.t 42) (xk .i64 1)),gm 44 3,gg 45 (.cvi .i64 (.t 44)),gg 46 (.bin .sub (.t 43) (.t 45)),gm 5 46] (sr [gm 47 0,gg 48 (.nil (.t 47)),gg 49 (.ffa (.t 48) 0),gg 50 (.ld (.t 49) none),gm 51 5,gg 52 (.ia (.t 50) (.t 51) 1),gg 53 (.ld (.t 52) none),gm 54 4,gg 55 (.bin .shr (.t 53) (.t 54)),gg 56 (.bin .and (.t 55) (xk .u8 1)),gg 57 (.cvi .u32 (.t 56)),gm 2 57] .ret)))))))) 1 [(.t 2)]):=by kernel_rfl
end Go.Proofs.YtbpogapddpacoaaGreatDoor
end
section
section
namespace Go.Proofs.YtbpogapddpacoaaGreatDoor
open Go Go.Vc
set_option maxRecDepth 100000
set_option maxHeartbeats 8000000
theorem nwrap32 {n:Nat} (h:n<4294967296):IntKind.u32.wrap (n:Int)=n:=by rw [IntKind.wrap_u32]; omega
theorem nwrap64 {n:Nat} (h:n<18446744073709551616):IntKind.u64.wrap (n:Int)=n:=by rw [IntKind.wrap_u64]; omega
theorem nwrap8 {n:Nat} (h:n<256):IntKind.u8.wrap (n:Int)=n:=by rw [IntKind.wrap_u8]; omega
theorem nwrapi {n:Nat} (h:n<9223372036854775808):IntKind.i64.wrap (n:Int)=n:=by rw [IntKind.wrap_i64]; omega
theorem ntdiv (a b:Nat):(a:Int).tdiv (b:Int)=((a / b:Nat):Int):=(Int.ofNat_tdiv a b).symm
theorem ntmod (a b:Nat):(a:Int).tmod (b:Int)=((a % b:Nat):Int):=(Int.ofNat_tmod a b).symm
theorem nfdiv (a n:Nat):(a:Int).fdiv ((2:Int) ^ n)=((a / 2 ^ n:Nat):Int):=by
 rw [Int.fdiv_eq_ediv_of_nonneg _ (by exact_mod_cast Nat.zero_le _)]
 norm_cast
theorem nshl (a n:Nat):(a:Int)*(2:Int) ^ n=((a*2 ^ n:Nat):Int):=by norm_cast
theorem ofInt_nat (w n:Nat):(BitVec.ofInt w (n:Int))=BitVec.ofNat w n:=by
 simp
theorem nand32 {a b:Nat} (ha:a<4294967296) (hb:b<4294967296):IntKind.u32.wrap (((BitVec.ofInt IntKind.u32.bits (a:Int) &&& BitVec.ofInt IntKind.u32.bits (b:Int)).toNat:Nat):Int)=((a &&& b:Nat):Int):=by
 rw [ofInt_nat,ofInt_nat,BitVec.toNat_and,BitVec.toNat_ofNat,BitVec.toNat_ofNat]
 rw [Nat.mod_eq_of_lt (by simpa [IntKind.bits] using ha),Nat.mod_eq_of_lt (by simpa [IntKind.bits] using hb)]
 exact nwrap32 (Nat.lt_of_le_of_lt Nat.and_le_left ha)
theorem nand64 {a b:Nat} (ha:a<18446744073709551616) (hb:b<18446744073709551616):IntKind.u64.wrap (((BitVec.ofInt IntKind.u64.bits (a:Int) &&& BitVec.ofInt IntKind.u64.bits (b:Int)).toNat:Nat):Int)=((a &&& b:Nat):Int):=by
 rw [ofInt_nat,ofInt_nat,BitVec.toNat_and,BitVec.toNat_ofNat,BitVec.toNat_ofNat]
 rw [Nat.mod_eq_of_lt (by simpa [IntKind.bits] using ha),Nat.mod_eq_of_lt (by simpa [IntKind.bits] using hb)]
 exact nwrap64 (Nat.lt_of_le_of_lt Nat.and_le_left ha)
theorem nandi {a b:Nat} (ha:a<9223372036854775808) (hb:b<9223372036854775808):IntKind.i64.wrap (((BitVec.ofInt IntKind.i64.bits (a:Int) &&& BitVec.ofInt IntKind.i64.bits (b:Int)).toNat:Nat):Int)=((a &&& b:Nat):Int):=by
 rw [ofInt_nat,ofInt_nat,BitVec.toNat_and,BitVec.toNat_ofNat,BitVec.toNat_ofNat]
 rw [Nat.mod_eq_of_lt (by simp [IntKind.bits]; omega),Nat.mod_eq_of_lt (by simp [IntKind.bits]; omega)]
 exact nwrapi (Nat.lt_of_le_of_lt Nat.and_le_left ha)
theorem nand8 {a b:Nat} (ha:a<256) (hb:b<256):IntKind.u8.wrap (((BitVec.ofInt IntKind.u8.bits (a:Int) &&& BitVec.ofInt IntKind.u8.bits (b:Int)).toNat:Nat):Int)=((a &&& b:Nat):Int):=by
 rw [ofInt_nat,ofInt_nat,BitVec.toNat_and,BitVec.toNat_ofNat,BitVec.toNat_ofNat]
 rw [Nat.mod_eq_of_lt (by simpa [IntKind.bits] using ha),Nat.mod_eq_of_lt (by simpa [IntKind.bits] using hb)]
 exact nwrap8 (Nat.lt_of_le_of_lt Nat.and_le_left ha)
theorem nor32 {a b:Nat} (ha:a<4294967296) (hb:b<4294967296):IntKind.u32.wrap (((BitVec.ofInt IntKind.u32.bits (a:Int) ||| BitVec.ofInt IntKind.u32.bits (b:Int)).toNat:Nat):Int)=((a ||| b:Nat):Int):=by
 rw [ofInt_nat,ofInt_nat,BitVec.toNat_or,BitVec.toNat_ofNat,BitVec.toNat_ofNat]
 rw [Nat.mod_eq_of_lt (by simpa [IntKind.bits] using ha),Nat.mod_eq_of_lt (by simpa [IntKind.bits] using hb)]
 exact nwrap32 (Nat.or_lt_two_pow (n:=32) ha hb)
theorem nor_add {a b i:Nat} (hb:b<2 ^ i):a*2 ^ i ||| b=a*2 ^ i+b:=by
 rw [Nat.mul_comm,Nat.two_pow_add_eq_or_of_lt hb]
theorem nand_mask (a i:Nat):a &&& (2 ^ i - 1)=a % 2 ^ i:=Nat.and_two_pow_sub_one_eq_mod a i
theorem nshr (k:IntKind) (a n:Nat) (h:n≤k.bits):(a:Int).fdiv ((2:Int) ^ min n k.bits)=((a / 2 ^ n:Nat):Int):=by rw [Nat.min_eq_left h,nfdiv]
theorem nshrv (k:IntKind) (a n:Nat) (h:n≤k.bits):(a:Int).fdiv ((2:Int) ^ min ((n:Nat):Int).toNat k.bits)=((a / 2 ^ n:Nat):Int):=by rw [Int.toNat_natCast,Nat.min_eq_left h,nfdiv]
theorem nshlk (k:IntKind) (a n:Nat) (h:n≤k.bits):(a:Int)*((2:Int) ^ min n k.bits)=((a*2 ^ n:Nat):Int):=by rw [Nat.min_eq_left h,nshl]
theorem nshlv (k:IntKind) (a n:Nat) (h:n≤k.bits):(a:Int)*((2:Int) ^ min ((n:Nat):Int).toNat k.bits)=((a*2 ^ n:Nat):Int):=by rw [Int.toNat_natCast,Nat.min_eq_left h,nshl]
theorem nsub {a b:Nat} (h:b≤a):(a:Int) - (b:Int)=((a - b:Nat):Int):=by omega
theorem nadd (a b:Nat):(a:Int)+(b:Int)=((a+b:Nat):Int):=by omega
theorem nmul (a b:Nat):(a:Int)*(b:Int)=((a*b:Nat):Int):=by norm_cast
theorem nshr8 (a n:Nat) (h:n≤8):(a:Int).fdiv ((2:Int) ^ min n IntKind.u8.bits)=((a / 2 ^ n:Nat):Int):=nshr .u8 a n h
theorem nshr32 (a n:Nat) (h:n≤32):(a:Int).fdiv ((2:Int) ^ min n IntKind.u32.bits)=((a / 2 ^ n:Nat):Int):=nshr .u32 a n h
theorem nshl32 (a n:Nat) (h:n≤32):(a:Int)*((2:Int) ^ min n IntKind.u32.bits)=((a*2 ^ n:Nat):Int):=nshlk .u32 a n h
theorem nshr64 (a n:Nat) (h:n≤64):(a:Int).fdiv ((2:Int) ^ min n IntKind.u64.bits)=((a / 2 ^ n:Nat):Int):=nshr .u64 a n h
theorem nshri (a n:Nat) (h:n≤64):(a:Int).fdiv ((2:Int) ^ min n IntKind.i64.bits)=((a / 2 ^ n:Nat):Int):=nshr .i64 a n h
theorem nshlvi (a n:Nat) (h:n≤64):(a:Int)*((2:Int) ^ min ((n:Nat):Int).toNat IntKind.i64.bits)=((a*2 ^ n:Nat):Int):=nshlv .i64 a n h
def u32 (n:Nat):AV := .o (.c (.val (.int .u32 n)))
def u64 (n:Nat):AV := .o (.c (.val (.int .u64 n)))
def i64 (n:Int):AV := .o (.c (.val (.int .i64 n)))
theorem u32_of {x:Int} {n:Nat} (h:x=n):resV [(A1.c (.val (.int .u32 x))).norm]=u32 n:=by subst h; rfl
theorem u64_of {x:Int} {n:Nat} (h:x=n):resV [(A1.c (.val (.int .u64 x))).norm]=u64 n:=by subst h; rfl
theorem i64_of {x y:Int} (h:x=y):resV [(A1.c (.val (.int .i64 x))).norm]=i64 y:=by subst h; rfl
theorem eq_u32 {x y:Int} (h:x=y):some (AV.o (.c (.val (.int .u32 x))))=some (AV.o (.c (.val (.int .u32 y)))):=by rw [h]
theorem eq_u64 {x y:Int} (h:x=y):some (AV.o (.c (.val (.int .u64 x))))=some (AV.o (.c (.val (.int .u64 y)))):=by rw [h]
theorem eq_i64 {x y:Int} (h:x=y):some (AV.o (.c (.val (.int .i64 x))))=some (AV.o (.c (.val (.int .i64 y)))):=by rw [h]
theorem bne_f {a b:Nat} (h:((a:Int) != (b:Int))=false):a=b:=by
 have:(a:Int)=b:=by
  by_cases hab:(a:Int)=b
  ·exact hab
  rw [bne_iff_ne.2 hab] at h
  cases h
 omega
theorem bne_t {a b:Nat} (h:((a:Int) != (b:Int))=true):a≠b:=by
 have:=bne_iff_ne.1 h
 omega
theorem beq_t {a b:Nat} (h:((a:Int) == (b:Int))=true):a=b:=by
 have:=eq_of_beq h
 omega
theorem beq_f {a b:Nat} (h:((a:Int) == (b:Int))=false):a≠b:=by
 intro hab
 subst hab
 simp at h
theorem lt_t {a b:Nat} (h:decide ((a:Int)<(b:Int))=true):a<b:=by
 have:=of_decide_eq_true h
 omega
theorem lt_f {a b:Nat} (h:decide ((a:Int)<(b:Int))=false):b≤a:=by
 have:=of_decide_eq_false h
 omega
theorem le_t {a b:Nat} (h:decide ((a:Int)≤(b:Int))=true):a≤b:=by
 have:=of_decide_eq_true h
 omega
theorem le_f {a b:Nat} (h:decide ((a:Int)≤(b:Int))=false):b<a:=by
 have:=of_decide_eq_false h
 omega
theorem ge_t {a b:Nat} (h:decide ((a:Int)≥(b:Int))=true):b≤a:=by
 have:=of_decide_eq_true h
 omega
theorem ge_f {a b:Nat} (h:decide ((a:Int)≥(b:Int))=false):a<b:=by
 have:=of_decide_eq_false h
 omega
theorem gt_t {a b:Nat} (h:decide ((a:Int)>(b:Int))=true):b<a:=by
 have:=of_decide_eq_true h
 omega
theorem gt_f {a b:Nat} (h:decide ((a:Int)>(b:Int))=false):a≤b:=by
 have:=of_decide_eq_false h
 omega
theorem CallsA_frame {P:Program} {w0:World} {f:FuncId} {args:List A1} {v:AV} (hargs:args.map (A1.ren [])=args) (hv:v.ren []=v) (h:CallsA P w0 f args [] fun r H=>r=v∧H=[]) (H:List Blk) :
 CallsA P w0 f args H fun r H'=>r=v∧H'=H:=by
 refine CallsA.lift (H0:=[]) [] rfl trivial hargs h ?_
 rintro _ _ ⟨rfl,rfl⟩
 exact ⟨hv,by simp [putAll]⟩
theorem embNil {e0 e:Env} (h:embE [] e e0):EmbS 0 ⟨e0,[]⟩ ⟨e,[]⟩:=⟨[],⟨rfl,trivial,rfl⟩,h⟩
theorem ieq_f {a b:Int} (h:(a == b)=false):a≠b:=by
 rintro rfl
 rw [beq_self_eq_true] at h
 cases h
structure Dec where
 data:List Int
 br:Nat
 rb:Nat
 nb:Nat
 rng:Nat
 val:Nat
def Dec.H (d:Dec):List Blk:=[.cells 98 [.vec 1 d.data.length,.val (.int .u64 d.br),.val (.int .u64 d.rb),.val (.int .u64 d.nb),.val (.int .u32 d.rng),.val (.int .u32 d.val)],.vec false 5 (encI .u8) [] 1 d.data]
structure Dec.ok (d:Dec):Prop where
 bytes:∀ x∈d.data,0≤x∧x<256
 len:d.data.length≤1099511627776
 br:d.br≤8796093022208
 rb:d.rb≤4611686018427387904
 nb:d.nb≤4611686018427387904
theorem Dec.H_of {d:Dec} {br rb nb rng val:Int} (h1:br=d.br) (h2:rb=d.rb) (h3:nb=d.nb) (h4:rng=d.rng) (h5:val=d.val) :
 [Blk.cells 98 [.vec 1 d.data.length,.val (.int .u64 br),.val (.int .u64 rb),.val (.int .u64 nb),.val (.int .u32 rng),.val (.int .u32 val)],.vec false 5 (encI .u8) [] 1 d.data]=d.H:=by
 subst h1 h2 h3 h4 h5
 rfl
def Dec.byte (d:Dec) (i:Nat):Nat:=(d.data.getD i 0).toNat
theorem Dec.byte_get {d:Dec} (h:d.ok) {i:Nat} (hi:i<d.data.length):d.data[i]? = some (d.byte i:Int)∧d.byte i<256:=by
 have hm:=h.bytes _ (List.getElem_mem hi)
 unfold Dec.byte
 rw [List.getD_eq_getElem?_getD,List.getElem?_eq_getElem hi,Option.getD_some]
 exact ⟨by congr 1; omega,by omega⟩
theorem Dec.byte_out {d:Dec} {i:Nat} (hi:d.data.length≤i):d.byte i=0:=by
 unfold Dec.byte
 rw [List.getD_eq_getElem?_getD,List.getElem?_eq_none hi]
 rfl
theorem Dec.byte_lt {d:Dec} (h:d.ok) (i:Nat):d.byte i<256:=by
 rcases Nat.lt_or_ge i d.data.length with hi | hi
 ·exact (d.byte_get h hi).2
 rw [d.byte_out hi]
 omega
def Dec.bit (d:Dec):Nat:=d.byte (d.br / 8) / 2 ^ (7 - d.br % 8) % 2
def Dec.bitOn (d:Dec):Dec:={ d with br:=if d.br / 8<d.data.length then d.br+1 else d.br }
theorem getBit (w0:World) (d:Dec) (h:d.ok):CallsA Tryz.prog w0 100 [.c (.ptr 0 0)] d.H fun r H=>r=u32 d.bit∧H=d.bitOn.H:=by
 have:=h.br
 have:=h.len
 refine callsA_of_ev c100_ ?_
 conv=>whnf
 refine Or.inl ?_
 conv=>whnf
 refine ⟨fun h1 => ?_,fun h1 => ?_⟩
 ·simp only [decide_eq_true_eq,IntKind.wrap_u64] at h1
  rw [ntdiv] at h1
  have h2:¬ d.br / 8<d.data.length:=by omega
  conv=>whnf
  refine Or.inl ⟨?_,?_⟩
  ·unfold Dec.bit
   rw [d.byte_out (by omega),Nat.zero_div]
   rfl
  exact Dec.H_of (d:=d.bitOn) (by simp [Dec.bitOn,h2]) rfl rfl rfl rfl
 simp only [decide_eq_false_iff_not,IntKind.wrap_u64] at h1
 rw [ntdiv] at h1
 have h2:d.br / 8<d.data.length:=by omega
 obtain ⟨hb,hb2⟩:=d.byte_get h h2
 conv=>whnf
 rw [ntdiv,nwrap64 (by omega)]
 refine ⟨by omega,?_⟩
 conv=>whnf
 refine ⟨_,hb,?_⟩
 conv=>whnf
 rw [ntmod,nsub (by omega),nwrap64 (by omega)]
 refine ⟨by omega,?_⟩
 conv=>whnf
 refine Or.inl ⟨u32_of ?_,Dec.H_of (d:=d.bitOn) ?_ rfl rfl rfl rfl⟩
 ·have h3:d.byte (d.br / 8) / 2 ^ (7 - d.br % 8)<256:=Nat.lt_of_le_of_lt (Nat.div_le_self _ _) hb2
  rw [nshrv _ _ _ (by show 7 - d.br % 8≤8; omega),nand8 h3 (by omega),Nat.and_one_is_mod,nwrap32 (by omega)]
  rfl
 rw [nadd,nwrap64 (by omega)]
 simp [Dec.bitOn,h2]
def Dec.two (d:Dec):Nat:=d.byte (d.br / 8)*256+d.byte (d.br / 8+1)
def Dec.bits (d:Dec) (n:Nat):Nat:=d.two / 2 ^ (16 - d.br % 8 - n) % 2 ^ n
def Dec.bitsOn (d:Dec) (n:Nat):Dec:={ d with br:=if d.br+n≤8*d.data.length then d.br+n else max d.br (8*d.data.length) }
theorem Dec.bits_succ {d:Dec} (h:d.ok) {i:Nat} (hi:i<8):d.bits (i+1)=2*d.bits i+(d.bitsOn i).bit:=by
 have hx:=d.byte_lt h (d.br / 8)
 have hy:=d.byte_lt h (d.br / 8+1)
 have hbit:(d.bitsOn i).bit=d.two / 2 ^ (16 - d.br % 8 - (i+1)) % 2:=by
  have hb1:∀ e:Dec,e.data=d.data → ∀ k,e.byte k=d.byte k:=fun e he k=>by unfold Dec.byte; rw [he]
  unfold Dec.bit
  rw [hb1 (d.bitsOn i) rfl]
  unfold Dec.bitsOn
  simp only
  split
  ·rename_i hle
   rcases Nat.lt_or_ge (d.br % 8+i) 8 with hp | hp
   ·have e1:(d.br+i) / 8=d.br / 8:=by omega
    have e2:(d.br+i) % 8=d.br % 8+i:=by omega
    have e3:16 - d.br % 8 - (i+1)=8+(7 - (d.br % 8+i)):=by omega
    rw [e1,e2,e3,Nat.pow_add,← Nat.div_div_eq_div_mul]
    congr 2
    unfold Dec.two
    omega
   have e1:(d.br+i) / 8=d.br / 8+1:=by omega
   have e2:(d.br+i) % 8=d.br % 8+i - 8:=by omega
   have e3:16 - d.br % 8 - (i+1)=7 - (d.br % 8+i - 8):=by omega
   rw [e1,e2,e3]
   have e4:d.two=2 ^ (7 - (d.br % 8+i - 8))*(2*(d.byte (d.br / 8)*2 ^ (d.br % 8+i - 8)))+d.byte (d.br / 8+1):=by
    unfold Dec.two
    congr 1
    have:(256:Nat)=2 ^ (7 - (d.br % 8+i - 8))*(2*2 ^ (d.br % 8+i - 8)):=by
     rw [Nat.mul_left_comm,← Nat.pow_add,show 7 - (d.br % 8+i - 8)+(d.br % 8+i - 8)=7 by omega]
    rw [this]
    ac_rfl
   rw [e4,Nat.mul_add_div (Nat.two_pow_pos _),Nat.mul_add_mod]
  rename_i hgt
  have hz:d.byte (max d.br (8*d.data.length) / 8)=0:=d.byte_out (by omega)
  rw [hz,Nat.zero_div]
  rcases Nat.lt_or_ge (d.br / 8) d.data.length with hl | hl
  ·have e0:d.byte (d.br / 8+1)=0:=d.byte_out (by omega)
   have e3:16 - d.br % 8 - (i+1)=7 - (d.br % 8+i - 8):=by omega
   rw [e3]
   have e4:d.two=2 ^ (7 - (d.br % 8+i - 8))*(2*(d.byte (d.br / 8)*2 ^ (d.br % 8+i - 8))):=by
    unfold Dec.two
    rw [e0,Nat.add_zero]
    have:(256:Nat)=2 ^ (7 - (d.br % 8+i - 8))*(2*2 ^ (d.br % 8+i - 8)):=by
     rw [Nat.mul_left_comm,← Nat.pow_add,show 7 - (d.br % 8+i - 8)+(d.br % 8+i - 8)=7 by omega]
    rw [this]
    ac_rfl
   rw [e4,Nat.mul_div_cancel_left _ (Nat.two_pow_pos _)]
   omega
  have e0:d.byte (d.br / 8)=0:=d.byte_out hl
  have e1:d.byte (d.br / 8+1)=0:=d.byte_out (by omega)
  unfold Dec.two
  rw [e0,e1]
  simp
 rw [hbit]
 unfold Dec.bits
 have e5:16 - d.br % 8 - i=16 - d.br % 8 - (i+1)+1:=by omega
 rw [e5,Nat.pow_succ 2 (16 - d.br % 8 - (i+1)),← Nat.div_div_eq_div_mul]
 generalize d.two / 2 ^ (16 - d.br % 8 - (i+1))=v
 rw [Nat.pow_succ,Nat.mul_comm (2 ^ i) 2,Nat.mod_mul]
 omega
theorem Dec.bits_zero (d:Dec):d.bits 0=0:=by simp [Dec.bits,Nat.mod_one]
theorem Dec.bits_lt (d:Dec) (n:Nat):d.bits n<2 ^ n:=Nat.mod_lt _ (Nat.two_pow_pos _)
theorem Dec.bitsOn_zero (d:Dec):d.bitsOn 0=d:=by
 unfold Dec.bitsOn
 split
 ·rfl
 rw [Nat.max_eq_left (by omega)]
theorem Dec.bitsOn_succ (d:Dec) (i:Nat):(d.bitsOn i).bitOn=d.bitsOn (i+1):=by
 unfold Dec.bitOn Dec.bitsOn
 simp only
 congr 1
 split <;> split <;> (try split) <;> omega
theorem Dec.bitsOn_ok {d:Dec} (h:d.ok) (n:Nat):(d.bitsOn n).ok:=by
 have:=h.br
 have:=h.len
 refine ⟨h.bytes,h.len,?_,h.rb,h.nb⟩
 unfold Dec.bitsOn
 simp only
 split <;> omega
theorem Dec.fast {d:Dec} (h:d.ok) {n y:Nat} (hy:y=d.byte (d.br / 8+1)):d.byte (d.br / 8)*2 ^ 8 ||| y=d.two∧d.two<65536∧d.two / 2 ^ (16 - d.br % 8 - n) &&& (2 ^ n - 1)=d.bits n:=by
 have h1:=d.byte_lt h (d.br / 8)
 have h2:=d.byte_lt h (d.br / 8+1)
 subst hy
 refine ⟨nor_add (i:=8) h2,?_,nand_mask _ _⟩
 unfold Dec.two
 omega
theorem Dec.emb {d d':Dec} {e0 e:Env} (hd:d'=d) (he:embE [0,1] e e0):EmbS 2 ⟨e0,d.H⟩ ⟨e,d'.H⟩:=by
 subst hd
 exact ⟨[0,1],⟨rfl,⟨rfl,rfl,rfl,rfl,trivial⟩,rfl⟩,he⟩
theorem Dec.embH {d:Dec} {H:List Blk} {e0 e:Env} (hd:H=d.H) (he:embE [0,1] e e0):EmbS 2 ⟨e0,d.H⟩ ⟨e,H⟩:=by
 subst hd
 exact ⟨[0,1],⟨rfl,⟨rfl,rfl,rfl,rfl,trivial⟩,rfl⟩,he⟩
theorem getBits (w0:World) (d:Dec) (h:d.ok) {n:Nat} (hn:1≤n) (hn8:n≤8):CallsA Tryz.prog w0 82 [.c (.ptr 0 0),.c (.val (.int .i64 n))] d.H fun r H=>r=u32 (d.bits n)∧H=(d.bitsOn n).H:=by
 have hbr:=h.br
 have hlen:=h.len
 have hp8:2 ^ n≤2 ^ 8:=Nat.pow_le_pow_right (by omega) hn8
 have hp1:=Nat.two_pow_pos n
 refine callsA_of_ev c82_ ?_
 conv=>whnf
 refine Or.inl ?_
 conv=>whnf
 refine ⟨fun h1 => ?_,fun h1 => ?_⟩
 ·conv=>whnf
  refine ⟨fun h2 => ?_,fun h2 => ?_⟩
  ·conv=>whnf
   simp (disch:=omega) only [nadd,nmul,nwrap64]
   refine ⟨fun h3 => ?_,fun h3 => ?_⟩
   ·have h3:=of_decide_eq_true h3
    obtain ⟨hb,hb2⟩:=d.byte_get h (i:=d.br / 8) (by omega)
    conv=>whnf
    simp (disch:=omega) only [ntdiv,nwrap64]
    refine ⟨by omega,?_⟩
    conv=>whnf
    refine ⟨_,hb,?_⟩
    conv=>whnf
    refine Or.inl ?_
    conv=>whnf
    simp (disch:=omega) only [nadd,nwrap64]
    have hfin:∀ (z y:Nat),z=d.byte (d.br / 8)*2 ^ 8 ||| y→y=d.byte (d.br / 8+1) → ∀ m:Nat,m=2 ^ n - 1→IntKind.u32.wrap (((BitVec.ofInt IntKind.u32.bits ((z / 2 ^ (16 - d.br % 8 - n):Nat):Int) &&& BitVec.ofInt IntKind.u32.bits (m:Int)).toNat:Nat):Int)=(d.bits n:Int):=by
     intro z y hz hy m hm
     obtain ⟨f1,f2,f3⟩:=d.fast h (n:=n) hy
     rw [f1] at hz
     subst hz hm
     rw [nand32 (Nat.lt_of_le_of_lt (Nat.div_le_self _ _) (by omega)) (by omega),f3]
    have hon:(d.bitsOn n).br=d.br+n:=by simp [Dec.bitsOn]; omega
    refine ⟨fun h4 => ?_,fun h4 => ?_⟩
    ·have h4:=of_decide_eq_true h4
     obtain ⟨hc,hc2⟩:=d.byte_get h (i:=d.br / 8+1) (by omega)
     conv=>whnf
     simp (disch:=omega) only [nadd,nwrap64]
     refine ⟨by omega,?_⟩
     conv=>whnf
     refine ⟨_,hc,?_⟩
     conv=>whnf
     simp (disch:=omega) only [nadd,nwrap64,ntmod,nsub]
     refine ⟨by omega,?_⟩
     conv=>whnf
     refine ⟨by omega,?_⟩
     conv=>whnf
     refine Or.inl ⟨u32_of ?_,Dec.H_of (d:=d.bitsOn n) (by rw [hon]) rfl rfl rfl rfl⟩
     simp (disch:=omega) only [nwrap32,nshl32,nshr32,nor32,Int.toNat_natCast,Nat.one_mul,nsub]
     exact hfin _ _ rfl rfl _ rfl
    have h4:=of_decide_eq_false h4
    conv=>whnf
    simp (disch:=omega) only [nadd,nwrap64,ntmod,nsub]
    refine ⟨by omega,?_⟩
    conv=>whnf
    refine ⟨by omega,?_⟩
    conv=>whnf
    refine Or.inl ⟨u32_of ?_,Dec.H_of (d:=d.bitsOn n) (by rw [hon]) rfl rfl rfl rfl⟩
    simp (disch:=omega) only [nwrap32,nshl32,nshr32,Int.toNat_natCast,Nat.one_mul,nsub]
    refine hfin _ 0 (by simp) (d.byte_out (by omega)).symm _ rfl
   have h3:=of_decide_eq_false h3
   conv=>whnf
   refine Or.inl ?_
   conv=>whnf
   refine ⟨Fin (n+1),fun i=>⟨[(0,.o (.c (.ptr 0 0))),(8,.o (.c (.val (.int .u32 (d.bits i.1:Nat))))),(92,.o (.c (.val (.int .i64 n)))),(93,.o (.c (.val (.int .i64 (i.1:Nat)))))],(d.bitsOn i.1).H⟩,fun i=>n - i.1,⟨⟨0,by omega⟩,Dec.emb (d.bitsOn_zero).symm ⟨rfl,?_,rfl,rfl,trivial⟩⟩,fun ⟨i,hi⟩ => ?_⟩
   ·rw [d.bits_zero]
    rfl
   conv=>whnf
   refine ⟨fun h4 => ?_,fun h4 => ?_⟩
   ·have h4:(i:Int)<n:=of_decide_eq_true h4
    conv=>whnf
    refine Or.inl ?_
    conv=>whnf
    refine Or.inl ?_
    conv=>whnf
    have hi8:i<8:=by omega
    have hlt:=d.bits_lt i
    have hp7:2 ^ i≤2 ^ 7:=Nat.pow_le_pow_right (by omega) (by omega)
    have hbit:=Nat.mod_lt ((d.bitsOn i).byte ((d.bitsOn i).br / 8) / 2 ^ (7 - (d.bitsOn i).br % 8)) (show 0<2 by omega)
    refine ⟨fun h5 => ?_,fun h5 => ?_⟩
    ·conv=>whnf
     simp (disch:=omega) only [nwrap32,nshl32]
     refine (getBit w0 (d.bitsOn i) (d.bitsOn_ok h i)).mono fun r H ⟨hr,hH⟩ => ?_
     subst hr hH
     conv=>whnf
     refine ⟨⟨i+1,by omega⟩,Dec.emb (d.bitsOn_succ i) ⟨rfl,?_,rfl,?_,trivial⟩,?_⟩
     ·refine eq_u32 ?_
      rw [nor32 (by omega) (by show _ % 2<_; omega),nor_add (i:=1) (b:=(d.bitsOn i).bit) hbit,d.bits_succ h hi8]
      show ((d.bits i*2+(d.bitsOn i).bit:Nat):Int)=_
      omega
     ·refine eq_i64 ?_
      rw [nadd,nwrapi (by omega)]
     show n - (i+1)<n - i
     omega
    conv=>whnf
    have h5:i=0:=by simpa using h5
    subst h5
    refine (getBit w0 (d.bitsOn 0) (d.bitsOn_ok h 0)).mono fun r H ⟨hr,hH⟩ => ?_
    subst hr hH
    conv=>whnf
    refine ⟨⟨1,by omega⟩,Dec.emb (d.bitsOn_succ 0) ⟨rfl,?_,rfl,?_,trivial⟩,?_⟩
    ·refine eq_u32 ?_
     have e0:(d.bitsOn 0).bit=d.bits 1:=by rw [d.bits_succ h (i:=0) (by omega),d.bits_zero]; omega
     show IntKind.u32.wrap (((BitVec.ofInt IntKind.u32.bits ((d.bits 0:Nat):Int) ||| BitVec.ofInt IntKind.u32.bits (((d.bitsOn 0).bit:Nat):Int)).toNat:Nat):Int)=_
     rw [d.bits_zero,nor32 (by omega) (by show _ % 2<_; omega),e0,Nat.zero_or]
    ·rfl
    show n - 1<n - 0
    omega
   have h4:¬ (i:Int)<n:=of_decide_eq_false h4
   have hin:i=n:=by omega
   subst hin
   conv=>whnf
   refine Or.inl ⟨rfl,rfl⟩
  simp at h2
  omega
 simp at h1
 omega
def Dec.step (d:Dec):Dec:={ d.bitsOn 8 with rng:=d.rng*256,nb:=d.nb+8,val:=(d.val*256+(255 - d.bits 8)) % 2147483648 }
def Dec.iter (d:Dec):Nat→Dec
 | 0=>d
 | k+1=>(d.iter k).step
def Dec.norm (d:Dec):Dec :=
 if d.rng≤8388608 then (if d.step.rng≤8388608 then (if d.step.step.rng≤8388608 then d.step.step.step else d.step.step) else d.step) else d
theorem Dec.step_ok {d:Dec} (h:d.ok) (hn:d.nb≤4611686018427387896):d.step.ok:=by
 have:=d.bitsOn_ok h 8
 exact ⟨this.bytes,this.len,this.br,this.rb,by show d.nb+8≤_; omega⟩
theorem Dec.iter_facts {d:Dec} (h:d.ok) (hn:d.nb≤4611686018427387800):∀ k,k≤4→(d.iter k).ok∧(d.iter k).rng=d.rng*256 ^ k∧(d.iter k).nb=d.nb+8*k
 | 0,_=>⟨h,by simp [Dec.iter],rfl⟩
 | k+1,hk=>by
  obtain ⟨h1,h2,h3⟩:=Dec.iter_facts h hn k (by omega)
  refine ⟨Dec.step_ok h1 (by omega),?_,?_⟩
  ·show (d.iter k).rng*256=_
   rw [h2,Nat.mul_assoc,← Nat.pow_succ]
  show (d.iter k).nb+8=_
  omega
theorem Dec.norm_iter {d:Dec} {k:Nat} (hk:k≤3) (h:∀ i,i<k→(d.iter i).rng≤8388608) (hg:8388608<(d.iter k).rng):d.norm=d.iter k:=by
 unfold Dec.norm
 rcases k with _ | _ | _ | _ | k
 ·have:¬ d.rng≤8388608:=by simpa [Dec.iter] using hg
  rw [if_neg this]
  rfl
 ·have h0:d.rng≤8388608:=h 0 (by omega)
  have:¬ d.step.rng≤8388608:=by simpa [Dec.iter] using hg
  rw [if_pos h0,if_neg this]
  rfl
 ·have h0:d.rng≤8388608:=h 0 (by omega)
  have h1:d.step.rng≤8388608:=h 1 (by omega)
  have:¬ d.step.step.rng≤8388608:=by simpa [Dec.iter] using hg
  rw [if_pos h0,if_pos h1,if_neg this]
  rfl
 ·have h0:d.rng≤8388608:=h 0 (by omega)
  have h1:d.step.rng≤8388608:=h 1 (by omega)
  have h2:d.step.step.rng≤8388608:=h 2 (by omega)
  rw [if_pos h0,if_pos h1,if_pos h2]
  rfl
 omega
structure Dec.pre (d:Dec):Prop where
 ok:d.ok
 nb:d.nb≤4611686018427387800
 lo:1≤d.rng
 hi:d.rng≤2147483648
 val:d.val<4294967296
theorem normalize (w0:World) (d:Dec) (h:d.pre):CallsA Tryz.prog w0 83 [.c (.ptr 0 0)] d.H fun r H=>r = .t []∧H=d.norm.H:=by
 have hlo:=h.lo
 have hhi:=h.hi
 refine callsA_of_ev c83_ ?_
 conv=>whnf
 refine ⟨{k:Nat // k≤3 ∧ ∀ i,i<k→(d.iter i).rng≤8388608},fun k=>⟨[(0,.o (.c (.ptr 0 0)))],(d.iter k.1).H⟩,fun k=>3 - k.1,⟨⟨0,by omega,by omega⟩,Dec.emb rfl ⟨rfl,trivial⟩⟩,fun ⟨k,hk3,hk⟩ => ?_⟩
 obtain ⟨hok,hr,hb⟩:=d.iter_facts h.ok h.nb k (by omega)
 have hnb:=h.nb
 have hpow:d.rng*256 ^ k≤8388608→d.rng*256 ^ k*256≤2147483648:=by omega
 have hval:(d.iter k).val<4294967296:=by
  cases k with
  | zero=>exact h.val
  | succ k =>
   show (_:Nat) % 2147483648<_
   omega
 conv=>whnf
 refine ⟨fun h1 => ?_,fun h1 => ?_⟩
 ·have h1:=of_decide_eq_true h1
  have h1:(d.iter k).rng≤8388608:=by
   have h1:((d.iter k).rng:Int)≤((8388608:Nat):Int):=h1
   omega
  have hk2:k<3:=by
   rcases Nat.lt_or_ge k 3 with h | h
   ·exact h
   have:k=3:=by omega
   subst this
   rw [hr] at h1
   omega
  conv=>whnf
  simp (disch:=omega) only [nshl32,nwrap32,nadd,nwrap64]
  refine (getBits w0 ⟨(d.iter k).data,(d.iter k).br,(d.iter k).rb,(d.iter k).nb+8,(d.iter k).rng*2 ^ 8,(d.iter k).val⟩ ⟨hok.bytes,hok.len,hok.br,hok.rb,by show (d.iter k).nb+8≤_; omega⟩ (n:=8) (by omega) (by omega)).mono ?_
  rintro _ _ ⟨rfl,rfl⟩
  conv=>whnf
  refine ⟨⟨⟨rfl,rfl⟩,trivial⟩,?_⟩
  conv=>whnf
  refine ⟨trivial,?_⟩
  conv=>whnf
  refine ⟨⟨k+1,by omega,fun i hi => ?_⟩,Dec.embH (Dec.H_of (d:=(d.iter k).step) rfl rfl rfl rfl ?_) ⟨rfl,trivial⟩,?_⟩
  ·rcases Nat.lt_or_ge i k with h | h
   ·exact hk i h
   have:i=k:=by omega
   subst this
   exact h1
  ·generalize hv:(d.iter k).val=v at *
   have hb8:=(d.iter k).bits_lt 8
   change IntKind.u32.wrap (((BitVec.ofInt IntKind.u32.bits (IntKind.u32.wrap (IntKind.u32.wrap ((v*2 ^ 8:Nat):Int)+IntKind.u32.wrap (((255:Nat):Int) - (((d.iter k).bits 8:Nat):Int)))) &&& BitVec.ofInt IntKind.u32.bits ((2147483647:Nat):Int)).toNat:Nat):Int)=((((d.iter k).val*256+(255 - (d.iter k).bits 8)) % 2147483648:Nat):Int)
   rw [hv]
   generalize (d.iter k).bits 8=b at *
   have e1:IntKind.u32.wrap (IntKind.u32.wrap ((v*2 ^ 8:Nat):Int)+IntKind.u32.wrap (((255:Nat):Int) - (b:Int)))=(((v*256+(255 - b)) % 4294967296:Nat):Int):=by
    simp only [IntKind.wrap_u32]
    omega
   rw [e1,nand32 (Nat.mod_lt _ (by omega)) (by omega)]
   have e2:=nand_mask ((v*256+(255 - b)) % 4294967296) 31
   rw [show (2:Nat) ^ 31 - 1=2147483647 by rfl] at e2
   rw [e2]
   omega
  show 3 - (k+1)<3 - k
  omega
 have h1:=of_decide_eq_false h1
 have h1:8388608<(d.iter k).rng:=by
  have h1:¬ ((d.iter k).rng:Int)≤((8388608:Nat):Int):=h1
  omega
 conv=>whnf
 exact Or.inl ⟨rfl,by rw [d.norm_iter hk3 hk h1]⟩
theorem localMin (w0:World) (H:List Blk) (a b:Nat):CallsA Tryz.prog w0 86 [.c (.val (.int .u64 a)),.c (.val (.int .u64 b))] H fun r H'=>r=u64 (min a b)∧H'=H:=by
 refine callsA_of_ev c86_ ?_
 conv=>whnf
 refine Or.inl ?_
 conv=>whnf
 refine ⟨fun h1 => ?_,fun h1 => ?_⟩
 ·have h1:(a:Int)<(b:Int):=of_decide_eq_true h1
  conv=>whnf
  refine Or.inl ⟨u64_of ?_,rfl⟩
  rw [Nat.min_eq_left (by omega)]
 have h1:¬ (a:Int)<(b:Int):=of_decide_eq_false h1
 conv=>whnf
 refine Or.inl ⟨u64_of ?_,rfl⟩
 rw [Nat.min_eq_right (by omega)]
def Dec.at (d:Dec) (total:Nat):Nat:=total - min (d.val / (d.rng / total)+1) total
theorem uniSym (w0:World) (d:Dec) {n:Nat} (hn:1≤n) (hr:n≤d.rng) (hr2:d.rng<4294967296) (hv:d.val<4294967295) :
 CallsA Tryz.prog w0 84 [.c (.ptr 0 0),.c (.val (.int .u32 n))] d.H fun r H=>r=u32 (d.at n)∧H=d.H:=by
 have hdiv:1≤d.rng / n:=Nat.div_pos hr hn
 have hq:d.rng / n≤d.rng:=Nat.div_le_self _ _
 have hq2:d.val / (d.rng / n)≤d.val:=Nat.div_le_self _ _
 refine callsA_of_ev c84_ ?_
 conv=>whnf
 simp (disch:=omega) only [ntdiv,nwrap32]
 refine ⟨by omega,?_⟩
 conv=>whnf
 simp (disch:=omega) only [ntdiv,nwrap32]
 refine ⟨by omega,?_⟩
 conv=>whnf
 simp (disch:=omega) only [nwrap32,nadd,nwrap64]
 refine (localMin w0 d.H _ _).mono ?_
 rintro _ _ ⟨rfl,rfl⟩
 conv=>whnf
 refine Or.inl ⟨u32_of ?_,rfl⟩
 have hle:n - min (d.val / (d.rng / n)+1) n≤n:=Nat.sub_le _ _
 rw [nwrap32 (Nat.lt_of_le_of_lt (Nat.min_le_right _ _) (by omega)),nsub (Nat.min_le_right _ _),nwrap32 (by omega)]
 rfl
def Dec.cut (d:Dec) (scale low high total:Nat):Dec :=
 { d with val:=d.val - scale*(total - high),rng:=if low≠0 then scale*(high - low) else d.rng - scale*(total - high) }
theorem update (w0:World) (d:Dec) (h:d.pre) {scale low high total:Nat} (hs:1≤scale) (hl:low<high) (hh:high≤total) (ht:scale*total≤d.rng) (hv:scale*(total - high)≤d.val) :
 CallsA Tryz.prog w0 85 [.c (.ptr 0 0),.c (.val (.int .u32 scale)),.c (.val (.int .u32 low)),.c (.val (.int .u32 high)),.c (.val (.int .u32 total))] d.H fun r H=>r = .t []∧H=(d.cut scale low high total).norm.H∧(d.cut scale low high total).pre:=by
 have hhi:=h.hi
 have hval:=h.val
 have hlo:=h.lo
 have e1:scale*(total - high)+scale*high=scale*total:=by rw [← Nat.mul_add,Nat.sub_add_cancel hh]
 have e2:scale*(high - low)+scale*low=scale*high:=by rw [← Nat.mul_add,Nat.sub_add_cancel (by omega)]
 have e3:1≤scale*(high - low):=Nat.mul_pos hs (by omega)
 have e4:total≤scale*total:=Nat.le_mul_of_pos_left _ hs
 have e5:1≤scale*high:=Nat.mul_pos hs (by omega)
 have hpre:(d.cut scale low high total).pre:=by
  refine ⟨⟨h.ok.bytes,h.ok.len,h.ok.br,h.ok.rb,h.ok.nb⟩,h.nb,?_,?_,?_⟩
  ·show 1≤(if low≠0 then _ else _)
   split <;> omega
  ·show (if low≠0 then _ else _)≤_
   split <;> omega
  show d.val - _<_
  omega
 refine callsA_of_ev c85_ ?_
 conv=>whnf
 simp (disch:=omega) only [nsub,nwrap32,nmul]
 refine Or.inl ?_
 conv=>whnf
 refine ⟨fun h1 => ?_,fun h1 => ?_⟩
 ·have h1:low≠0:=by
   intro h0
   subst h0
   cases h1
  conv=>whnf
  simp (disch:=omega) only [nsub,nwrap32,nmul]
  refine (normalize w0 ⟨d.data,d.br,d.rb,d.nb,scale*(high - low),d.val - scale*(total - high)⟩ ?_).mono ?_
  ·have:=hpre
   unfold Dec.cut at this
   rwa [if_pos h1] at this
  rintro _ _ ⟨rfl,rfl⟩
  conv=>whnf
  refine Or.inl ⟨rfl,?_,hpre⟩
  show Dec.H _=_
  unfold Dec.cut
  rw [if_pos h1]
 have h1:low=0:=by
  have h1:((low:Int) != ((0:Nat):Int))=false:=h1
  simpa using h1
 conv=>whnf
 simp (disch:=omega) only [nsub,nwrap32,nmul]
 refine (normalize w0 ⟨d.data,d.br,d.rb,d.nb,d.rng - scale*(total - high),d.val - scale*(total - high)⟩ ?_).mono ?_
 ·have:=hpre
  unfold Dec.cut at this
  rwa [if_neg (by simp [h1])] at this
 rintro _ _ ⟨rfl,rfl⟩
 conv=>whnf
 refine Or.inl ⟨rfl,?_,hpre⟩
 show Dec.H _=_
 unfold Dec.cut
 rw [if_neg (by simp [h1])]
def len (n:Nat):Nat:=if n=0 then 0 else n.log2+1
theorem len_eq {n k:Nat} (h1:2 ^ k≤n) (h2:n<2 ^ (k+1)):len n=k+1:=by
 have h0:n≠0:=by
  have:=Nat.two_pow_pos k
  omega
 unfold len
 rw [if_neg h0,(Nat.log2_eq_iff h0).2 ⟨h1,h2⟩]
theorem len_spec {n:Nat} (h:n≠0):∃ k,len n=k+1∧2 ^ k≤n∧n<2 ^ (k+1):=by
 refine ⟨n.log2,by unfold len; rw [if_neg h],?_⟩
 exact (Nat.log2_eq_iff h).1 rfl
theorem len_div {n j:Nat} (h:2 ^ j≤n):len n=len (n / 2 ^ j)+j:=by
 have hp:=Nat.two_pow_pos j
 have h0:n / 2 ^ j≠0:=by
  have:=Nat.div_pos h hp
  omega
 obtain ⟨k,h1,h2,h3⟩:=len_spec h0
 have:len n=(k+j)+1:=by
  refine len_eq ?_ ?_
  ·rw [Nat.pow_add]
   exact (Nat.le_div_iff_mul_le hp).1 h2
  rw [show k+j+1=(k+1)+j by omega,Nat.pow_add]
  exact (Nat.div_lt_iff_lt_mul hp).1 h3
 omega
theorem len_le {n k:Nat} (h:n<2 ^ k):len n≤k:=by
 by_cases h0:n=0
 ·subst h0
  exact Nat.zero_le _
 obtain ⟨j,h1,h2,h3⟩:=len_spec h0
 have:=(Nat.pow_lt_pow_iff_right (show 1<2 by omega)).1 (Nat.lt_of_le_of_lt h2 h)
 omega
theorem le_len {n k:Nat} (h:2 ^ k≤n):k+1≤len n:=by
 have hp:=Nat.two_pow_pos k
 obtain ⟨j,h1,h2,h3⟩:=len_spec (n:=n) (by omega)
 have:=(Nat.pow_lt_pow_iff_right (show 1<2 by omega)).1 (Nat.lt_of_le_of_lt h h3)
 omega
def lens:ByteArray:=ByteArray.mk #[0,1,2,2,3,3,3,3,4,4,4,4,4,4,4,4,5,5,5,5,5,5,5,5,5,5,5,5,5,5,5,5,6,6,6,6,6,6,6,6,6,6,6,6,6,6,6,6,6,6,6,6,6,6,6,6,6,6,6,6,6,6,6,6,7,7,7,7,7,7,7,7,7,7,7,7,7,7,7,7,7,7,7,7,7,7,7,7,7,7,7,7,7,7,7,7,7,7,7,7,7,7,7,7,7,7,7,7,7,7,7,7,7,7,7,7,7,7,7,7,7,7,7,7,7,7,7,7,8,8,8,8,8,8,8,8,8,8,8,8,8,8,8,8,8,8,8,8,8,8,8,8,8,8,8,8,8,8,8,8,8,8,8,8,8,8,8,8,8,8,8,8,8,8,8,8,8,8,8,8,8,8,8,8,8,8,8,8,8,8,8,8,8,8,8,8,8,8,8,8,8,8,8,8,8,8,8,8,8,8,8,8,8,8,8,8,8,8,8,8,8,8,8,8,8,8,8,8,8,8,8,8,8,8,8,8,8,8,8,8,8,8,8,8,8,8,8,8,8,8,8,8,8,8,8,8]
theorem lens_get:∀ x,x<256→lens[x]? = some (UInt8.ofNat (len x)):=by decide +kernel
theorem len32 (w0:World) (H:List Blk) {n:Nat} (hn:n<4294967296):CallsA Tryz.prog w0 75 [.c (.val (.int .u32 n))] H fun r H'=>r=i64 (len n)∧H'=H:=by
 refine CallsA_frame rfl rfl ?_ H
 refine callsA_of_ev c75_ ?_
 conv=>whnf
 refine Or.inr ⟨{p:Nat × Nat // p.1<65536∧len n=p.2+len p.1∧p.2≤16},fun p=>⟨[(0,.o (.c (.val (.int .u32 (p.1.1:Nat))))),(2,.o (.c (.val (.int .i64 (p.1.2:Nat)))))],[]⟩,?_,?_⟩
 ·conv=>whnf
  refine ⟨fun h1 => ?_,fun h1 => ?_⟩
  ·have h1:=of_decide_eq_true h1
   have h1:65536≤n:=by
    have h1:(n:Int)≥((65536:Nat):Int):=h1
    omega
   conv=>whnf
   simp (disch:=omega) only [nshr32]
   refine ⟨⟨(n / 2 ^ 16,16),by simp only; omega,?_,by simp⟩,embNil ⟨rfl,rfl,trivial⟩⟩
   rw [len_div (j:=16) h1]
   simp only
   omega
  have h1:=of_decide_eq_false h1
  have h1:n<65536:=by
   have h1:¬ (n:Int)≥((65536:Nat):Int):=h1
   omega
  conv=>whnf
  exact ⟨⟨(n,0),h1,by simp,by simp⟩,embNil ⟨rfl,rfl,trivial⟩⟩
 rintro ⟨⟨x,b⟩,hx,hl,hb⟩
 simp only at hx hl hb
 conv=>whnf
 refine Or.inr ⟨{p:Nat × Nat // p.1<256∧len n=p.2+len p.1∧p.2≤24},fun p=>⟨[(0,.o (.c (.val (.int .u32 (p.1.1:Nat))))),(2,.o (.c (.val (.int .i64 (p.1.2:Nat)))))],[]⟩,?_,?_⟩
 ·conv=>whnf
  refine ⟨fun h1 => ?_,fun h1 => ?_⟩
  ·have h1:=of_decide_eq_true h1
   have h1:256≤x:=by
    have h1:(x:Int)≥((256:Nat):Int):=h1
    omega
   conv=>whnf
   refine ⟨⟨(x / 2 ^ 8,b+8),by simp only; omega,?_,by simp only; omega⟩,embNil ⟨?_,?_,trivial⟩⟩
   ·rw [hl,len_div (j:=8) h1]
    simp only
    omega
   ·refine eq_u32 ?_
    rw [nshr32 _ _ (by omega)]
   refine eq_i64 ?_
   show IntKind.i64.wrap ((b:Int)+((8:Nat):Int))=_
   rw [nadd,nwrapi (by omega)]
  have h1:=of_decide_eq_false h1
  have h1:x<256:=by
   have h1:¬ (x:Int)≥((256:Nat):Int):=h1
   omega
  conv=>whnf
  exact ⟨⟨(x,b),h1,hl,by simp only; omega⟩,embNil ⟨rfl,rfl,trivial⟩⟩
 rintro ⟨⟨x,b⟩,hx,hl,hb⟩
 simp only at hx hl hb
 have hl8:=len_le (n:=x) (k:=8) hx
 conv=>whnf
 refine ⟨UInt8.ofNat (len x),?_,?_⟩
 ·show (if 0≤IntKind.u8.wrap (x:Int) then lens[(IntKind.u8.wrap (x:Int)).toNat]? else none)=_
  rw [nwrap8 hx,if_pos (by omega),Int.toNat_natCast]
  exact lens_get x hx
 conv=>whnf
 refine Or.inl ⟨i64_of ?_,rfl⟩
 have e1:(UInt8.ofNat (len x)).toNat=len x:=by
  rw [UInt8.toNat_ofNat']
  omega
 show IntKind.i64.wrap ((b:Int)+IntKind.i64.wrap (((UInt8.ofNat (len x)).toNat:Nat):Int))=_
 rw [e1,nwrapi (by omega),nadd,nwrapi (by omega),hl]
theorem finalRange (w0:World) (d:Dec):CallsA Tryz.prog w0 52 [.c (.ptr 0 0)] d.H fun r H=>r=u32 d.rng∧H=d.H:=by
 refine callsA_of_ev c52_ ?_
 conv=>whnf
 exact Or.inl ⟨rfl,rfl⟩
theorem remaining (w0:World) (d:Dec) (h:d.ok):CallsA Tryz.prog w0 55 [.c (.ptr 0 0)] d.H fun r H=>r=i64 ((d.data.length*8:Nat) - (d.br:Int) - (d.rb:Int))∧H=d.H:=by
 have:=h.br
 have:=h.rb
 have:=h.len
 refine callsA_of_ev c55_ ?_
 conv=>whnf
 refine Or.inl ⟨i64_of ?_,rfl⟩
 simp only [IntKind.wrap_i64]
 omega
def Dec.tell (d:Dec):Nat:=d.nb - len d.rng
theorem tell (w0:World) (d:Dec) (h:d.ok) (h1:1≤d.rng) (h2:d.rng<4294967296):CallsA Tryz.prog w0 53 [.c (.ptr 0 0)] d.H fun r H=>r=u64 d.tell∧H=d.H:=by
 have hnb:=h.nb
 have hl1:=le_len (n:=d.rng) (k:=0) h1
 have hl2:=len_le (n:=d.rng) (k:=32) h2
 refine callsA_of_ev c53_ ?_
 conv=>whnf
 refine (len32 w0 d.H h2).mono ?_
 rintro _ _ ⟨rfl,rfl⟩
 conv=>whnf
 refine Or.inl ?_
 conv=>whnf
 simp (disch:=omega) only [nwrap64]
 refine ⟨fun h3 => ?_,fun h3 => ?_⟩
 ·have h3:((len d.rng:Nat):Int)=((0:Nat):Int):=by simpa using h3
  omega
 conv=>whnf
 refine Or.inl ?_
 conv=>whnf
 refine ⟨fun h4 => ?_,fun h4 => ?_⟩
 ·have h4:=of_decide_eq_true h4
  have h4:(d.nb:Int)≤((len d.rng:Nat):Int):=h4
  conv=>whnf
  refine Or.inl ⟨u64_of ?_,rfl⟩
  unfold Dec.tell
  omega
 have h4:=of_decide_eq_false h4
 have h4:¬ (d.nb:Int)≤((len d.rng:Nat):Int):=h4
 conv=>whnf
 refine Or.inl ⟨u64_of ?_,rfl⟩
 unfold Dec.tell
 rw [nsub (by omega),nwrap64 (by omega)]
def fracStep (p:Nat × Nat):Nat × Nat :=
 let s:=p.1*p.1 / 32768
 let b:=s / 65536
 (if b≠0 then s / 2 else s,2*p.2+b)
def fracIter (p:Nat × Nat):Nat→Nat × Nat
 | 0=>p
 | k+1=>fracStep (fracIter p k)
def frac (total rng:Nat):Nat:=total*8 - (fracIter (rng / 2 ^ (len rng - 16),len rng) 3).2
def Dec.frac (d:Dec):Nat:=Go.Proofs.YtbpogapddpacoaaGreatDoor.frac d.nb d.rng
theorem fracStep_pos {r l:Nat} (h:r*r / 32768 / 65536≠0):(fracStep (r,l)).1=r*r / 32768 / 2:=if_pos h
theorem fracStep_neg {r l:Nat} (h:r*r / 32768 / 65536=0):(fracStep (r,l)).1=r*r / 32768:=if_neg (fun hn=>hn h)
theorem fracStep_lt {p:Nat × Nat} (h:32768≤p.1) (h2:p.1<65536):32768≤(fracStep p).1∧(fracStep p).1<65536∧(fracStep p).2≤2*p.2+1∧p.1*p.1<4294967296:=by
 have h3:32768*32768≤p.1*p.1:=Nat.mul_le_mul h h
 have h4:p.1*p.1≤65535*65535:=Nat.mul_le_mul (by omega) (by omega)
 unfold fracStep
 simp only
 generalize p.1*p.1=m at *
 refine ⟨?_,?_,?_,?_⟩
 ·split <;> omega
 ·split <;> omega
 ·omega
 omega
theorem fracIter_lt {p:Nat × Nat} (h:32768≤p.1) (h2:p.1<65536) (h3:p.2≤32):∀ k,k≤3→32768≤(fracIter p k).1∧(fracIter p k).1<65536∧(fracIter p k).2+1≤2 ^ k*33
 | 0,_=>⟨h,h2,by simp [fracIter]; omega⟩
 | k+1,hk=>by
  obtain ⟨a,b,c⟩:=fracIter_lt h h2 h3 k (by omega)
  obtain ⟨a',b',c',_⟩:=fracStep_lt a b
  refine ⟨a',b',?_⟩
  have:(fracIter p (k+1)).2≤2*(fracIter p k).2+1:=c'
  rw [Nat.pow_succ]
  omega
theorem top_bits {n:Nat} (h:8388608≤n):32768≤n / 2 ^ (len n - 16)∧n / 2 ^ (len n - 16)<65536:=by
 obtain ⟨k,h1,h2,h3⟩:=len_spec (n:=n) (by omega)
 have h4:=le_len (n:=n) (k:=23) h
 have e1:len n - 16=k - 15:=by omega
 have hp:=Nat.two_pow_pos (k - 15)
 rw [e1]
 constructor
 ·rw [Nat.le_div_iff_mul_le hp,show (32768:Nat)=2 ^ 15 by rfl,← Nat.pow_add,show 15+(k - 15)=k by omega]
  exact h2
 rw [Nat.div_lt_iff_lt_mul hp,show (65536:Nat)=2 ^ 16 by rfl,← Nat.pow_add,show 16+(k - 15)=k+1 by omega]
 exact h3
theorem tellFrac (w0:World) (d:Dec) (hnb:d.nb≤1152921504606846976) (h1:8388608≤d.rng) (h2:d.rng<4294967296):CallsA Tryz.prog w0 54 [.c (.ptr 0 0)] d.H fun r H=>r=u64 d.frac∧H=d.H:=by
 have hl1:=le_len (n:=d.rng) (k:=23) h1
 have hl2:=len_le (n:=d.rng) (k:=32) h2
 obtain ⟨ht1,ht2⟩:=top_bits h1
 refine callsA_of_ev c54_ ?_
 conv=>whnf
 refine (len32 w0 d.H h2).mono ?_
 rintro _ _ ⟨rfl,rfl⟩
 conv=>whnf
 refine Or.inl ?_
 conv=>whnf
 simp (disch:=omega) only [nwrap64]
 refine ⟨fun h3 => ?_,fun h3 => ?_⟩
 ·have h3:((len d.rng:Nat):Int)=((0:Nat):Int):=by simpa using h3
  omega
 conv=>whnf
 refine Or.inl ?_
 conv=>whnf
 refine ⟨fun h4 => ?_,fun h4 => ?_⟩
 ·have h4:=of_decide_eq_true h4
  have h4:((len d.rng:Nat):Int)<((24:Nat):Int):=h4
  omega
 conv=>whnf
 simp (disch:=omega) only [nsub,nwrap64]
 refine ⟨by omega,?_⟩
 conv=>whnf
 simp (disch:=omega) only [Int.toNat_natCast,nshr32,nwrap64]
 refine Or.inl ?_
 conv=>whnf
 refine ⟨_root_.Fin 4,fun ⟨k,_⟩=>⟨[(0,.o (.c (.ptr 0 0))),(3,.o (.c (.val (.int .u64 ((fracIter (d.rng / 2 ^ (len d.rng - 16),len d.rng) k).2:Nat))))),(4,.o (.c (.val (.int .u64 ((fracIter (d.rng / 2 ^ (len d.rng - 16),len d.rng) k).1:Nat))))),(33,.o (.c (.val (.int .i64 (k:Nat)))))],d.H⟩,fun k=>3 - k.1,⟨0,Dec.embH rfl ⟨rfl,rfl,rfl,rfl,trivial⟩⟩,fun ⟨k,hk⟩ => ?_⟩
 obtain ⟨a,b,c⟩:=fracIter_lt (p:=(d.rng / 2 ^ (len d.rng - 16),len d.rng)) ht1 ht2 hl2 k (by omega)
 have hpk:2 ^ k≤2 ^ 3:=Nat.pow_le_pow_right (by omega) (by omega)
 obtain ⟨a',b',c',d'⟩:=fracStep_lt a b
 conv=>whnf
 refine ⟨fun h5 => ?_,fun h5 => ?_⟩
 ·have h5:=of_decide_eq_true h5
  have h5:(k:Int)<((3:Nat):Int):=h5
  conv=>whnf
  refine Or.inl ?_
  conv=>whnf
  have hs:fracIter (d.rng / 2 ^ (len d.rng - 16),len d.rng) (k+1)=fracStep (fracIter (d.rng / 2 ^ (len d.rng - 16),len d.rng) k):=rfl
  generalize hq:fracIter (d.rng / 2 ^ (len d.rng - 16),len d.rng) k=q at *
  obtain ⟨r,l⟩:=q
  simp only at a b c d'
  have hb2:r*r / 32768 / 65536≤1:=by omega
  simp (disch:=omega) only [nmul,nwrap64,nshr64,nadd]
  refine ⟨fun h6 => ?_,fun h6 => ?_⟩
  ·have h6:r*r / 2 ^ 15 / 2 ^ 16≠0:=by
    intro h0
    rw [h0] at h6
    cases h6
   conv=>whnf
   refine ⟨⟨k+1,by omega⟩,Dec.embH rfl ⟨rfl,?_,?_,?_,trivial⟩,?_⟩
   ·refine eq_u64 ?_
    rw [hs]
    rfl
   ·refine eq_u64 ?_
    rw [hs,nshr64 _ _ (by omega),fracStep_pos h6]
   ·refine eq_i64 ?_
    rw [nadd,nwrapi (by omega)]
   show 3 - (k+1)<3 - k
   omega
  have h6:r*r / 2 ^ 15 / 2 ^ 16=0:=bne_f h6
  conv=>whnf
  refine ⟨⟨k+1,by omega⟩,Dec.embH rfl ⟨rfl,?_,?_,?_,trivial⟩,?_⟩
  ·refine eq_u64 ?_
   rw [hs]
   rfl
  ·refine eq_u64 ?_
   rw [hs,fracStep_neg h6]
  ·refine eq_i64 ?_
   rw [nadd,nwrapi (by omega)]
  show 3 - (k+1)<3 - k
  omega
 have h5:=of_decide_eq_false h5
 have h5:¬ (k:Int)<((3:Nat):Int):=h5
 have hk3:k=3:=by omega
 subst hk3
 conv=>whnf
 refine Or.inl ?_
 conv=>whnf
 simp (disch:=omega) only [nmul,nwrap64]
 refine ⟨fun h6 => ?_,fun h6 => ?_⟩
 ·have h6:=of_decide_eq_true h6
  conv=>whnf
  refine Or.inl ⟨u64_of ?_,rfl⟩
  have h6:((d.nb*8:Nat):Int)≤((fracIter (d.rng / 2 ^ (len d.rng - 16),len d.rng) 3).2:Nat):=h6
  show (0:Int)=((d.nb*8 - (fracIter (d.rng / 2 ^ (len d.rng - 16),len d.rng) 3).2:Nat):Int)
  omega
 have h6:=of_decide_eq_false h6
 conv=>whnf
 refine Or.inl ⟨u64_of ?_,rfl⟩
 have h6:¬ ((d.nb*8:Nat):Int)≤((fracIter (d.rng / 2 ^ (len d.rng - 16),len d.rng) 3).2:Nat):=h6
 show _=((d.nb*8 - (fracIter (d.rng / 2 ^ (len d.rng - 16),len d.rng) 3).2:Nat):Int)
 rw [nsub (by omega),nwrap64 (by omega)]
structure Dec.inv (d:Dec) (N:Nat):Prop where
 bytes:∀ x∈d.data,0≤x∧x<256
 len:d.data.length≤1099511627776
 br:d.br≤8796093022208
 nb:d.nb≤N
 rb:d.rb≤N
 lo:8388608<d.rng
 hi:d.rng≤2147483648
 val:d.val<d.rng
theorem Dec.inv.pre {d:Dec} {N:Nat} (h:d.inv N) (hN:N≤2305843009213693952):d.pre:=by
 have:=h.nb; have:=h.rb; have:=h.lo; have:=h.hi; have:=h.val
 exact ⟨⟨h.bytes,h.len,h.br,by omega,by omega⟩,by omega,by omega,by omega,by omega⟩
theorem Dec.iter_val {d:Dec} (hv:d.val<d.rng):∀ k,(d.iter k).val<(d.iter k).rng
 | 0=>hv
 | k+1=>by
  have:=Dec.iter_val hv k
  show ((d.iter k).val*256+(255 - (d.iter k).bits 8)) % 2147483648<(d.iter k).rng*256
  exact Nat.lt_of_le_of_lt (Nat.mod_le _ _) (by omega)
theorem Dec.iter_data {d:Dec}:∀ k,(d.iter k).data=d.data∧(d.iter k).rb=d.rb
 | 0=>⟨rfl,rfl⟩
 | k+1=>Dec.iter_data k
theorem Dec.norm_inv {d:Dec} {N:Nat} (hN:N≤1152921504606846976) (hb:∀ x∈d.data,0≤x∧x<256) (hl:d.data.length≤1099511627776) (hbr:d.br≤8796093022208) (hnb:d.nb≤N) (hrb:d.rb≤N) (hlo:1≤d.rng) (hhi:d.rng≤2147483648) (hv:d.val<d.rng) :
 d.norm.inv (N+24)∧d.norm.data=d.data∧d.norm.rb=d.rb:=by
 have hok:d.ok:=⟨hb,hl,hbr,by omega,by omega⟩
 have key:∃ k,k≤3∧(∀ i,i<k→(d.iter i).rng≤8388608)∧8388608<(d.iter k).rng:=by
  have hr:=fun k hk=>(d.iter_facts hok (by omega) k hk).2.1
  have h0:=hr 0 (by omega); have h1:=hr 1 (by omega); have h2:=hr 2 (by omega); have h3:=hr 3 (by omega)
  by_cases c0:8388608<(d.iter 0).rng
  ·exact ⟨0,by omega,fun i hi=>by omega,c0⟩
  by_cases c1:8388608<(d.iter 1).rng
  ·refine ⟨1,by omega,fun i hi => ?_,c1⟩
   have:i=0:=by omega
   subst this
   omega
  by_cases c2:8388608<(d.iter 2).rng
  ·refine ⟨2,by omega,fun i hi => ?_,c2⟩
   rcases (show i=0∨i=1 by omega) with rfl | rfl <;> omega
  refine ⟨3,by omega,fun i hi => ?_,?_⟩
  ·rcases (show i=0∨i=1∨i=2 by omega) with rfl | rfl | rfl <;> omega
  rw [h3]
  omega
 obtain ⟨k,hk,h1,h2⟩:=key
 obtain ⟨g1,g2,g3⟩:=d.iter_facts hok (by omega) k (by omega)
 obtain ⟨e1,e2⟩:=d.iter_data k
 rw [d.norm_iter hk h1 h2]
 refine ⟨⟨g1.bytes,g1.len,g1.br,by omega,by omega,h2,?_,d.iter_val hv k⟩,e1,e2⟩
 cases k with
 | zero=>exact hhi
 | succ k =>
  have:=h1 k (by omega)
  show (d.iter k).rng*256≤_
  omega
theorem Dec.at_spec {d:Dec} {N n:Nat} (h:d.inv N) (hn:1≤n) (hn2:n≤65536) :
 d.at n<n∧1≤d.rng / n∧d.rng / n*n≤d.rng ∧ ∀ low high,low≤d.at n→d.at n<high→high≤n→d.rng / n*(n - high)≤d.val∧(low≠0→d.val<d.rng / n*(n - low)):=by
 have hlo:=h.lo
 have hhi:=h.hi
 have hs:1≤d.rng / n:=Nat.div_pos (by omega) hn
 have hmul:=Nat.div_mul_le_self d.rng n
 refine ⟨?_,hs,hmul,fun low high hl hh hhn => ?_⟩
 ·unfold Dec.at
  generalize d.val / (d.rng / n)=q
  omega
 unfold Dec.at at hl hh
 generalize hsc:d.rng / n=s at *
 have hdm:=Nat.div_add_mod d.val s
 have hml:=Nat.mod_lt d.val (show 0<s by omega)
 generalize d.val / s=q at *
 constructor
 ·have:n - high≤q:=by omega
  have:=Nat.mul_le_mul_left s this
  omega
 intro hl0
 have h1:q+1≤n - low:=by omega
 have h2:=Nat.mul_le_mul_left s h1
 have h3:s*(q+1)=s*q+s:=Nat.mul_succ s q
 omega
theorem Dec.cut_inv {d:Dec} {N n low high:Nat} (h:d.inv N) (hN:N≤1152921504606846976) (hn:1≤n) (hn2:n≤65536) (hl:low≤d.at n) (hh:d.at n<high) (hhn:high≤n) :
 (d.cut (d.rng / n) low high n).norm.inv (N+24)∧(d.cut (d.rng / n) low high n).norm.data=d.data∧(d.cut (d.rng / n) low high n).norm.rb=d.rb:=by
 obtain ⟨h1,h2,h3,h4⟩:=d.at_spec h hn hn2
 obtain ⟨h5,h6⟩:=h4 low high hl hh hhn
 have hlo:=h.lo; have hhi:=h.hi; have hv:=h.val
 generalize d.rng / n=s at *
 have e1:s*(n - high)+s*high=s*n:=by rw [← Nat.mul_add,Nat.sub_add_cancel hhn]
 have e2:s*(high - low)+s*low=s*high:=by rw [← Nat.mul_add,Nat.sub_add_cancel (by omega)]
 have e3:1≤s*(high - low):=Nat.mul_pos h2 (by omega)
 have e4:s*(n - low)+s*low=s*n:=by rw [← Nat.mul_add,Nat.sub_add_cancel (by omega)]
 have:=Dec.norm_inv (d:=d.cut s low high n) hN h.bytes h.len h.br h.nb h.rb ?_ ?_ ?_
 ·exact this
 ·show 1≤(if low≠0 then _ else _)
  split <;> omega
 ·show (if low≠0 then _ else _)≤_
  split <;> omega
 show d.val - s*(n - high)<(if low≠0 then _ else _)
 split
 ·rename_i hl0
  have:=h6 hl0
  omega
 omega
theorem updateAt (w0:World) {d:Dec} {N n low high:Nat} (h:d.inv N) (hN:N≤1152921504606846976) (hn:1≤n) (hn2:n≤65536) (hl:low≤d.at n) (hh:d.at n<high) (hhn:high≤n) :
 CallsA Tryz.prog w0 85 [.c (.ptr 0 0),.c (.val (.int .u32 (d.rng / n:Nat))),.c (.val (.int .u32 low)),.c (.val (.int .u32 high)),.c (.val (.int .u32 n))] d.H fun r H=>r = .t []∧H=(d.cut (d.rng / n) low high n).norm.H:=by
 obtain ⟨h1,h2,h3,h4⟩:=d.at_spec h hn hn2
 obtain ⟨h5,h6⟩:=h4 low high hl hh hhn
 exact (update w0 d (h.pre (by omega)) h2 (by omega) hhn h3 h5).mono fun r H h=>⟨h.1,h.2.1⟩
theorem cumulative (w0:World) {d:Dec} {N n:Nat} (h:d.inv N) (hn:1≤n) (hn2:n≤65536) :
 CallsA Tryz.prog w0 44 [.c (.ptr 0 0),.c (.val (.int .u32 n))] d.H fun r H=>r=u32 (d.at n)∧H=d.H:=by
 have hlo:=h.lo; have hhi:=h.hi; have hv:=h.val
 refine callsA_of_ev c44_ ?_
 conv=>whnf
 refine (uniSym w0 d hn (by omega) (by omega) (by omega)).mono ?_
 rintro _ _ ⟨rfl,rfl⟩
 conv=>whnf
 exact Or.inl ⟨rfl,rfl⟩
theorem updCumulative (w0:World) {d:Dec} {N n low high:Nat} (h:d.inv N) (hN:N≤1152921504606846976) (hn:1≤n) (hn2:n≤65536) (hl:low≤d.at n) (hh:d.at n<high) (hhn:high≤n) :
 CallsA Tryz.prog w0 45 [.c (.ptr 0 0),.c (.val (.int .u32 low)),.c (.val (.int .u32 high)),.c (.val (.int .u32 n))] d.H fun r H=>r = .t []∧H=(d.cut (d.rng / n) low high n).norm.H:=by
 have hlo:=h.lo; have hhi:=h.hi; have hv:=h.val
 have hq:=Nat.div_le_self d.rng n
 refine callsA_of_ev c45_ ?_
 conv=>whnf
 simp (disch:=omega) only [ntdiv,nwrap32]
 refine ⟨by omega,?_⟩
 conv=>whnf
 refine (updateAt w0 h hN hn hn2 hl hh hhn).mono ?_
 rintro _ _ ⟨rfl,rfl⟩
 conv=>whnf
 exact Or.inl ⟨rfl,rfl⟩
def Dec.uni (d:Dec) (n:Nat):Dec:=(d.cut (d.rng / n) (d.at n) (d.at n+1) n).norm
theorem uniUpd (w0:World) {d:Dec} {N n:Nat} (h:d.inv N) (hN:N≤1152921504606846976) (hn:1≤n) (hn2:n≤65536) :
 CallsA Tryz.prog w0 87 [.c (.ptr 0 0),.c (.val (.int .u32 n))] d.H fun r H=>r=u32 (d.at n)∧H=(d.uni n).H:=by
 have hlo:=h.lo; have hhi:=h.hi; have hv:=h.val
 have hq:=Nat.div_le_self d.rng n
 obtain ⟨h1,h2,h3,h4⟩:=d.at_spec h hn hn2
 refine callsA_of_ev c87_ ?_
 conv=>whnf
 refine (uniSym w0 d hn (by omega) (by omega) (by omega)).mono ?_
 rintro _ _ ⟨rfl,rfl⟩
 conv=>whnf
 simp (disch:=omega) only [ntdiv,nwrap32]
 refine ⟨by omega,?_⟩
 conv=>whnf
 simp (disch:=omega) only [nadd,nwrap32]
 refine (updateAt w0 h hN hn hn2 (Nat.le_refl _) (Nat.lt_succ_self _) h1).mono ?_
 rintro _ _ ⟨rfl,rfl⟩
 conv=>whnf
 exact Or.inl ⟨rfl,rfl⟩
def Dec.logp (d:Dec) (k:Nat):Nat × Dec :=
 if d.rng / 2 ^ k≤d.val then (0,{ d with val:=d.val - d.rng / 2 ^ k,rng:=d.rng - d.rng / 2 ^ k }.norm) else (1,{ d with rng:=d.rng / 2 ^ k }.norm)
theorem Dec.logp_inv {d:Dec} {N k:Nat} (h:d.inv N) (hN:N≤1152921504606846976) (hk:1≤k) (hk2:k≤15):(d.logp k).2.inv (N+24)∧(d.logp k).2.data=d.data∧(d.logp k).2.rb=d.rb∧1≤d.rng / 2 ^ k∧2*(d.rng / 2 ^ k)≤d.rng:=by
 have hlo:=h.lo; have hhi:=h.hi; have hv:=h.val
 have hp:2 ^ k≤2 ^ 15:=Nat.pow_le_pow_right (by omega) hk2
 have hp1:2 ^ 1≤2 ^ k:=Nat.pow_le_pow_right (by omega) hk
 have h1:1≤d.rng / 2 ^ k:=Nat.div_pos (by omega) (by omega)
 have h2:2*(d.rng / 2 ^ k)≤d.rng:=by
  have:=Nat.div_mul_le_self d.rng (2 ^ k)
  have h3:=Nat.mul_le_mul_left (d.rng / 2 ^ k) hp1
  omega
 unfold Dec.logp
 split
 ·obtain ⟨a,b,c⟩:=Dec.norm_inv (d:={ d with val:=d.val - d.rng / 2 ^ k,rng:=d.rng - d.rng / 2 ^ k }) hN h.bytes h.len h.br h.nb h.rb (by show 1≤d.rng - _; omega) (by show d.rng - _≤_; omega) (by show d.val - _<d.rng - _; omega)
  exact ⟨a,b,c,h1,h2⟩
 obtain ⟨a,b,c⟩:=Dec.norm_inv (d:={ d with rng:=d.rng / 2 ^ k }) hN h.bytes h.len h.br h.nb h.rb (by show 1≤d.rng / _; omega) (by show d.rng / _≤_; omega) (by show d.val<d.rng / _; omega)
 exact ⟨a,b,c,h1,h2⟩
theorem logP (w0:World) {d:Dec} {N k:Nat} (h:d.inv N) (hN:N≤1152921504606846976) (hk:1≤k) (hk2:k≤15) :
 CallsA Tryz.prog w0 46 [.c (.ptr 0 0),.c (.val (.int .u64 k))] d.H fun r H=>r=u32 (d.logp k).1∧H=(d.logp k).2.H:=by
 have hlo:=h.lo; have hhi:=h.hi; have hv:=h.val
 have hnb:=h.nb; have hrb:=h.rb
 obtain ⟨_,_,_,h1,h2⟩:=d.logp_inv h hN hk hk2
 refine callsA_of_ev c46_ ?_
 conv=>whnf
 refine ⟨by omega,?_⟩
 conv=>whnf
 simp (disch:=omega) only [Int.toNat_natCast,nshr32]
 refine Or.inl ?_
 conv=>whnf
 refine ⟨fun h3 => ?_,fun h3 => ?_⟩
 ·have h3:d.rng / 2 ^ k≤d.val:=le_t h3
  conv=>whnf
  simp (disch:=omega) only [nsub,nwrap32]
  refine (normalize w0 ⟨d.data,d.br,d.rb,d.nb,d.rng - d.rng / 2 ^ k,d.val - d.rng / 2 ^ k⟩ ⟨⟨h.bytes,h.len,h.br,by show d.rb≤_; omega,by show d.nb≤_; omega⟩,by show d.nb≤_; omega,by show 1≤d.rng - _; omega,by show d.rng - _≤_; omega,by show d.val - _<_; omega⟩).mono ?_
  rintro _ _ ⟨rfl,rfl⟩
  conv=>whnf
  unfold Dec.logp
  rw [if_pos h3]
  exact Or.inl ⟨rfl,rfl⟩
 have h3:d.val<d.rng / 2 ^ k:=le_f h3
 conv=>whnf
 refine (normalize w0 ⟨d.data,d.br,d.rb,d.nb,d.rng / 2 ^ k,d.val⟩ ⟨⟨h.bytes,h.len,h.br,by show d.rb≤_; omega,by show d.nb≤_; omega⟩,by show d.nb≤_; omega,by show 1≤d.rng / _; omega,by show d.rng / _≤_; omega,by show d.val<_; omega⟩).mono ?_
 rintro _ _ ⟨rfl,rfl⟩
 conv=>whnf
 unfold Dec.logp
 rw [if_neg (by omega)]
 exact Or.inl ⟨rfl,rfl⟩
def Dec.rawAt (d:Dec) (i:Nat):Nat:=if i / 8<d.data.length then d.byte (d.data.length - 1 - i / 8) / 2 ^ (i % 8) % 2 else 0
def Dec.rawOn (d:Dec) (n:Nat):Dec:={ d with rb:=d.rb+n,nb:=d.nb+n }
theorem Dec.rawAt_lt (d:Dec) (i:Nat):d.rawAt i<2:=by
 unfold Dec.rawAt
 split
 ·exact Nat.mod_lt _ (by omega)
 omega
def Dec.raw (d:Dec):Nat→Nat
 | 0=>0
 | n+1=>d.raw n+d.rawAt (d.rb+n)*2 ^ n
theorem Dec.raw_lt (d:Dec):∀ n,d.raw n<2 ^ n
 | 0=>by simp [Dec.raw]
 | n+1=>by
  have h1:=Dec.raw_lt d n
  have h2:=d.rawAt_lt (d.rb+n)
  have h3:d.rawAt (d.rb+n)*2 ^ n≤1*2 ^ n:=Nat.mul_le_mul_right _ (by omega)
  show d.raw n+_<_
  rw [Nat.pow_succ]
  omega
theorem Dec.rawOn_inv {d:Dec} {N n:Nat} (h:d.inv N):(d.rawOn n).inv (N+n):=by
 have:=h.nb; have:=h.rb
 exact ⟨h.bytes,h.len,h.br,by show d.nb+n≤_; omega,by show d.rb+n≤_; omega,h.lo,h.hi,h.val⟩
theorem rawBit (w0:World) (d:Dec) (h:d.ok) (hrb:d.rb≤4611686018427387800) (hnb:d.nb≤4611686018427387800) :
 CallsA Tryz.prog w0 101 [.c (.ptr 0 0)] d.H fun r H=>r=u32 (d.rawAt d.rb)∧H=(d.rawOn 1).H:=by
 have hlen:=h.len
 refine callsA_of_ev c101_ ?_
 conv=>whnf
 simp (disch:=omega) only [ntdiv,ntmod,nwrap64,nadd]
 refine Or.inl ?_
 conv=>whnf
 refine ⟨fun h1 => ?_,fun h1 => ?_⟩
 ·have h1:d.data.length≤d.rb / 8:=by
   have h1:=of_decide_eq_true h1
   simp only [IntKind.wrap_u64] at h1
   omega
  conv=>whnf
  refine Or.inl ⟨u32_of ?_,rfl⟩
  unfold Dec.rawAt
  rw [if_neg (by omega)]
 have h1:d.rb / 8<d.data.length:=by
  have h1:=of_decide_eq_false h1
  simp only [IntKind.wrap_u64] at h1
  omega
 obtain ⟨hb,hb2⟩:=d.byte_get h (i:=d.data.length - 1 - d.rb / 8) (by omega)
 conv=>whnf
 simp (disch:=omega) only [nsub,nwrapi]
 refine ⟨by omega,?_⟩
 conv=>whnf
 refine ⟨_,hb,?_⟩
 conv=>whnf
 refine ⟨by omega,?_⟩
 conv=>whnf
 refine Or.inl ⟨u32_of ?_,rfl⟩
 have h3:d.byte (d.data.length - 1 - d.rb / 8) / 2 ^ (d.rb % 8)<256:=Nat.lt_of_le_of_lt (Nat.div_le_self _ _) hb2
 rw [Int.toNat_natCast,nshr8 _ _ (by omega),nand8 h3 (by omega),Nat.and_one_is_mod,nwrap32 (by omega)]
 unfold Dec.rawAt
 rw [if_pos h1]
theorem getRawBits (w0:World) {d:Dec} {N n:Nat} (h:d.inv N) (hN:N≤1152921504606846976) (hn:n≤32) :
 CallsA Tryz.prog w0 88 [.c (.ptr 0 0),.c (.val (.int .u64 n))] d.H fun r H=>r=u32 (d.raw n)∧H=(d.rawOn n).H:=by
 have hnb:=h.nb; have hrb:=h.rb
 refine callsA_of_ev c88_ ?_
 conv=>whnf
 refine Or.inl ?_
 conv=>whnf
 refine ⟨_root_.Fin (n+1),fun ⟨i,_⟩=>⟨[(0,.o (.c (.ptr 0 0))),(1,.o (.c (.val (.int .u64 n)))),(5,.o (.c (.val (.int .u32 (d.raw i:Nat))))),(6,.o (.c (.val (.int .u64 i))))],(d.rawOn i).H⟩,fun i=>n - i.1,⟨⟨0,by omega⟩,Dec.embH rfl ⟨rfl,rfl,rfl,rfl,trivial⟩⟩,fun ⟨i,hi⟩ => ?_⟩
 conv=>whnf
 refine ⟨fun h1 => ?_,fun h1 => ?_⟩
 ·have h1:i<n:=lt_t h1
  conv=>whnf
  refine ⟨fun h2 => ?_,fun h2 => ?_⟩
  ·conv=>whnf
   have hin:=d.rawOn_inv (n:=i) h
   refine (rawBit w0 (d.rawOn i) (hin.pre (by omega)).ok (by show d.rb+i≤_; omega) (by show d.nb+i≤_; omega)).mono ?_
   rintro _ _ ⟨rfl,rfl⟩
   have hlt:=d.raw_lt i
   have hlt1:=d.raw_lt (i+1)
   have hb:=d.rawAt_lt (d.rb+i)
   have hp:2 ^ i≤2 ^ 31:=Nat.pow_le_pow_right (by omega) (by omega)
   have hsh:(d.rawOn i).rawAt (d.rawOn i).rb=d.rawAt (d.rb+i):=rfl
   have hm:d.rawAt (d.rb+i)*2 ^ i≤1*2 ^ i:=Nat.mul_le_mul_right _ (by omega)
   conv=>whnf
   refine ⟨by omega,?_⟩
   conv=>whnf
   refine ⟨⟨i+1,by omega⟩,Dec.embH rfl ⟨rfl,rfl,?_,?_,trivial⟩,?_⟩
   ·refine eq_u32 ?_
    rw [hsh,Int.toNat_natCast,nshl32 _ _ (by omega),nwrap32 (n:=d.rawAt (d.rb+i)*2 ^ i) (by omega),nor32 (by omega) (by omega),Nat.or_comm,nor_add hlt]
    show _=((d.raw i+d.rawAt (d.rb+i)*2 ^ i:Nat):Int)
    omega
   ·refine eq_u64 ?_
    rw [nadd,nwrap64 (by omega)]
   show n - (i+1)<n - i
   omega
  have h2:32≤i:=lt_f h2
  omega
 have h1:n≤i:=lt_f h1
 have:i=n:=by omega
 subst this
 conv=>whnf
 refine Or.inl ?_
 conv=>whnf
 refine ⟨Unit,fun _=>⟨[(0,.o (.c (.ptr 0 0))),(1,.o (.c (.val (.int .u64 i)))),(5,.o (.c (.val (.int .u32 (d.raw i:Nat))))),(7,.o (.c (.val (.int .u64 ((32:Nat):Int)))))],(d.rawOn i).H⟩,fun _=>0,⟨(),Dec.embH rfl ⟨rfl,rfl,rfl,rfl,trivial⟩⟩,fun _=>?_⟩
 conv=>whnf
 refine ⟨fun h3 => ?_,fun h3 => ?_⟩
 ·have h3:32<i:=lt_t h3
  omega
 conv=>whnf
 exact Or.inl ⟨rfl,rfl⟩
theorem rawBits (w0:World) {d:Dec} {N n:Nat} (h:d.inv N) (hN:N≤1152921504606846976) (hn:n≤32) :
 CallsA Tryz.prog w0 49 [.c (.ptr 0 0),.c (.val (.int .u64 n))] d.H fun r H=>r=u32 (d.raw n)∧H=(d.rawOn n).H:=by
 refine callsA_of_ev c49_ ?_
 conv=>whnf
 refine (getRawBits w0 h hN hn).mono ?_
 rintro _ _ ⟨rfl,rfl⟩
 conv=>whnf
 exact Or.inl ⟨rfl,rfl⟩
def Dec.whole (d:Dec) (n:Nat):Nat × Bool × Dec :=
 if len (n - 1)≤8 then (d.at n,true,d.uni n)
 else
  let k:=len (n - 1) - 8
  let t:=(n - 1) / 2 ^ k+1
  let v:=d.at t*2 ^ k+(d.uni t).raw k
  (if v≤n - 1 then v else n - 1,decide (v≤n - 1),(d.uni t).rawOn k)
theorem small_of_len {n:Nat} (h:len n≤8):n<256:=by
 rcases Nat.lt_or_ge n 256 with h1 | h1
 ·exact h1
 have:=le_len (n:=n) (k:=8) h1
 omega
theorem top_small {n:Nat} (h:8<len n):n / 2 ^ (len n - 8)<256∧1≤n / 2 ^ (len n - 8):=by
 have h0:n≠0:=by
  intro h0
  subst h0
  simp [len] at h
 obtain ⟨k,h1,h2,h3⟩:=len_spec h0
 have hp:=Nat.two_pow_pos (len n - 8)
 constructor
 ·rw [Nat.div_lt_iff_lt_mul hp,show (256:Nat)=2 ^ 8 by rfl,← Nat.pow_add,show 8+(len n - 8)=k+1 by omega]
  exact h3
 rw [Nat.le_div_iff_mul_le hp,Nat.one_mul]
 exact Nat.le_trans (Nat.pow_le_pow_right (by omega) (by omega)) h2
theorem Dec.uni_inv {d:Dec} {N n:Nat} (h:d.inv N) (hN:N≤1152921504606846976) (hn:1≤n) (hn2:n≤65536):(d.uni n).inv (N+24)∧(d.uni n).data=d.data∧(d.uni n).rb=d.rb :=
 Dec.cut_inv h hN hn hn2 (Nat.le_refl _) (Nat.lt_succ_self _) (d.at_spec h hn hn2).1
theorem Dec.whole_inv {d:Dec} {N n:Nat} (h:d.inv N) (hN:N≤1152921504606846976) (hn:1≤n) (hn2:n<4294967296):(d.whole n).2.2.inv (N+48)∧(d.whole n).2.2.data=d.data:=by
 unfold Dec.whole
 split
 ·rename_i hl
  have:=small_of_len hl
  obtain ⟨a,b,c⟩:=d.uni_inv h hN hn (by omega)
  exact ⟨⟨a.bytes,a.len,a.br,Nat.le_trans a.nb (by omega),Nat.le_trans a.rb (by omega),a.lo,a.hi,a.val⟩,b⟩
 rename_i hl
 obtain ⟨h1,h2⟩:=top_small (n:=n - 1) (by omega)
 have h3:=len_le (n:=n - 1) (k:=32) (by omega)
 obtain ⟨a,b,c⟩:=d.uni_inv (n:=(n - 1) / 2 ^ (len (n - 1) - 8)+1) h hN (by omega) (by omega)
 have:=Dec.rawOn_inv (n:=len (n - 1) - 8) a
 exact ⟨⟨this.bytes,this.len,this.br,Nat.le_trans this.nb (by omega),Nat.le_trans this.rb (by omega),this.lo,this.hi,this.val⟩,b⟩
theorem uniform (w0:World) {d:Dec} {N n:Nat} (h:d.inv N) (hN:N≤1152921504606846900) (hn:2≤n) (hn2:n<4294967296) :
 CallsA Tryz.prog w0 48 [.c (.ptr 0 0),.c (.val (.int .u32 n))] d.H fun r H=>r = .t [.c (.val (.int .u32 ((d.whole n).1:Nat))),.c (.val (.bool (d.whole n).2.1))]∧H=(d.whole n).2.2.H:=by
 have h32:=len_le (n:=n - 1) (k:=32) (by omega)
 refine callsA_of_ev c48_ ?_
 conv=>whnf
 refine Or.inl ?_
 conv=>whnf
 refine ⟨fun h1=>absurd (beq_t h1) (by omega),fun h1 => ?_⟩
 conv=>whnf
 refine Or.inl ?_
 conv=>whnf
 refine ⟨fun h2=>absurd (beq_t h2) (by omega),fun h2 => ?_⟩
 conv=>whnf
 simp (disch:=omega) only [nsub,nwrap32]
 refine (len32 w0 d.H (n:=n - 1) (by omega)).mono ?_
 rintro _ _ ⟨rfl,rfl⟩
 conv=>whnf
 refine Or.inl ?_
 conv=>whnf
 refine ⟨fun h3 => ?_,fun h3 => ?_⟩
 ·have h3:len (n - 1)≤8:=le_t h3
  have:=small_of_len h3
  conv=>whnf
  refine (uniUpd w0 h (by omega) (n:=n) (by omega) (by omega)).mono ?_
  rintro _ _ ⟨rfl,rfl⟩
  conv=>whnf
  unfold Dec.whole
  rw [if_pos h3]
  exact Or.inl ⟨rfl,rfl⟩
 have h3:8<len (n - 1):=le_f h3
 obtain ⟨t1,t2⟩:=top_small (n:=n - 1) h3
 conv=>whnf
 simp (disch:=omega) only [nsub,nwrapi]
 refine ⟨by omega,?_⟩
 conv=>whnf
 simp (disch:=omega) only [Int.toNat_natCast,nshr32,nadd,nwrap32]
 refine (uniUpd w0 h (by omega) (n:=(n - 1) / 2 ^ (len (n - 1) - 8)+1) (by omega) (by omega)).mono ?_
 rintro _ _ ⟨rfl,rfl⟩
 have hat:=(d.at_spec h (n:=(n - 1) / 2 ^ (len (n - 1) - 8)+1) (by omega) (by omega)).1
 obtain ⟨a,b,c⟩:=d.uni_inv (n:=(n - 1) / 2 ^ (len (n - 1) - 8)+1) h (by omega) (by omega) (by omega)
 have hraw:=(d.uni ((n - 1) / 2 ^ (len (n - 1) - 8)+1)).raw_lt (len (n - 1) - 8)
 have hp24:2 ^ (len (n - 1) - 8)≤2 ^ 24:=Nat.pow_le_pow_right (by omega) (by omega)
 have hval:(if d.at ((n - 1) / 2 ^ (len (n - 1) - 8)+1)*2 ^ (len (n - 1) - 8)+(d.uni ((n - 1) / 2 ^ (len (n - 1) - 8)+1)).raw (len (n - 1) - 8)≤n - 1 then (d.at ((n - 1) / 2 ^ (len (n - 1) - 8)+1)*2 ^ (len (n - 1) - 8)+(d.uni ((n - 1) / 2 ^ (len (n - 1) - 8)+1)).raw (len (n - 1) - 8)) else n - 1)=(d.whole n).1∧decide (d.at ((n - 1) / 2 ^ (len (n - 1) - 8)+1)*2 ^ (len (n - 1) - 8)+(d.uni ((n - 1) / 2 ^ (len (n - 1) - 8)+1)).raw (len (n - 1) - 8)≤n - 1)=(d.whole n).2.1∧(d.uni ((n - 1) / 2 ^ (len (n - 1) - 8)+1)).rawOn (len (n - 1) - 8)=(d.whole n).2.2:=by
  have hw:d.whole n=_:=if_neg (show ¬ len (n - 1)≤8 by omega)
  rw [hw]
  exact ⟨rfl,rfl,rfl⟩
 have ht256:(n - 1) / 2 ^ (len (n - 1) - 8)+1≤256:=t1
 generalize hk:len (n - 1) - 8=k at *
 generalize (n - 1) / 2 ^ k+1=t at *
 have hmul:d.at t*2 ^ k≤255*2 ^ k:=Nat.mul_le_mul_right _ (by omega)
 conv=>whnf
 refine ⟨by omega,?_⟩
 conv=>whnf
 simp (disch:=omega) only [Int.toNat_natCast,nshl32,nwrap32,nwrap64]
 refine (rawBits w0 (d:=d.uni t) a (by omega) (n:=k) (by omega)).mono ?_
 rintro _ _ ⟨rfl,rfl⟩
 conv=>whnf
 refine ⟨trivial,?_⟩
 conv=>whnf
 simp (disch:=omega) only [nor32,nor_add]
 refine Or.inl ?_
 conv=>whnf
 obtain ⟨v1,v2,v3⟩:=hval
 refine ⟨fun h4 => ?_,fun h4 => ?_⟩
 ·have h4:d.at t*2 ^ k+(d.uni t).raw k≤n - 1:=le_t h4
  conv=>whnf
  rw [if_pos h4] at v1
  rw [decide_eq_true h4] at v2
  rw [← v1,← v2,← v3]
  exact Or.inl ⟨rfl,rfl⟩
 have h4:n - 1<d.at t*2 ^ k+(d.uni t).raw k:=le_f h4
 conv=>whnf
 rw [if_neg (by omega)] at v1
 rw [decide_eq_false (by omega)] at v2
 rw [← v1,← v2,← v3]
 exact Or.inl ⟨rfl,rfl⟩
def lapFirst (fs decay:Nat):Nat:=(32736 - fs)*(16384 - decay) / 32768
def lapGo (decay sym:Nat):Nat→Nat × Nat × Nat→Nat × Nat × Nat
 | 0,s=>s
 | n+1,(v,l,f)=>if 1<f∧l+2*f≤sym then lapGo decay sym n (v+1,l+2*f,(2*f - 2)*decay / 32768+1) else (v,l,f)
def lap (fs decay sym:Nat):Int × Nat × Nat :=
 if sym<fs then (0,0,min fs 32768)
 else
  let (v,l,f):=lapGo decay sym sym (1,fs,lapFirst fs decay+1)
  let x:=if f≤1 then (sym - l) / 2 else 0
  if sym<l+2*x+f then (-((v+x:Nat):Int),l+2*x,min (l+2*x+f) 32768)
  else (((v+x:Nat):Int),l+2*x+f,min (l+2*x+f+f) 32768)
theorem lapGo_stable (decay sym:Nat):∀ (n:Nat) (v l f m:Nat),sym - l≤n→sym - l≤m→lapGo decay sym n (v,l,f)=lapGo decay sym m (v,l,f):=by
 intro n
 induction n with
 | zero =>
  intro v l f m h1 h2
  cases m with
  | zero=>rfl
  | succ m =>
   unfold lapGo
   rw [if_neg (by omega)]
 | succ n ih =>
  intro v l f m h1 h2
  cases m with
  | zero =>
   unfold lapGo
   rw [if_neg (by omega)]
  | succ m =>
   unfold lapGo
   split
   ·exact ih _ _ _ m (by omega) (by omega)
   rfl
theorem lapGo_done {decay sym v l f:Nat} (h:¬ (1<f∧l+2*f≤sym)):∀ n,lapGo decay sym n (v,l,f)=(v,l,f)
 | 0=>rfl
 | n+1=>by
  unfold lapGo
  rw [if_neg h]
theorem lap_of {fs decay sym v l f:Nat} (h:fs≤sym) (hgo:lapGo decay sym sym (1,fs,lapFirst fs decay+1)=(v,l,f)) {x:Nat} (hx:x=if f≤1 then (sym - l) / 2 else 0) :
 lap fs decay sym=if sym<l+2*x+f then (-((v+x:Nat):Int),l+2*x,min (l+2*x+f) 32768) else (((v+x:Nat):Int),l+2*x+f,min (l+2*x+f+f) 32768):=by
 unfold lap
 rw [if_neg (by omega),hgo,hx]
theorem lapFirst_lt {fs decay:Nat}:lapFirst fs decay≤16368:=by
 have:(32736 - fs)*(16384 - decay)≤32736*16384:=Nat.mul_le_mul (by omega) (by omega)
 unfold lapFirst
 omega
theorem lapMul {f decay:Nat} (hf:f≤16385) (hd:decay≤16384):(2*f - 2)*decay≤32768*16384:=Nat.mul_le_mul (by omega) hd
theorem lapFirstW (w0:World) (H:List Blk) {fs decay:Nat} (h1:fs≤32736) (h2:decay≤16384):CallsA Tryz.prog w0 89 [.c (.val (.int .u32 fs)),.c (.val (.int .u32 decay))] H fun r H'=>r=u32 (lapFirst fs decay)∧H'=H:=by
 refine CallsA_frame rfl rfl ?_ H
 have h3:(32736 - fs)*(16384 - decay)≤32736*16384:=Nat.mul_le_mul (by omega) (by omega)
 refine callsA_of_ev c89_ ?_
 conv=>whnf
 simp (disch:=omega) only [nsub,nwrap32,nmul,nshr32]
 exact Or.inl ⟨rfl,trivial⟩
theorem lap_spec {fs decay sym:Nat} (h0:1≤fs) (h:sym<32768):(lap fs decay sym).2.1≤sym∧sym<(lap fs decay sym).2.2∧(lap fs decay sym).2.2≤32768:=by
 have inv:∀ (n v l f:Nat),l≤sym→1≤f→sym - l≤n→(lapGo decay sym n (v,l,f)).2.1≤sym∧1≤(lapGo decay sym n (v,l,f)).2.2∧((lapGo decay sym n (v,l,f)).2.2≤1∨sym<(lapGo decay sym n (v,l,f)).2.1+2*(lapGo decay sym n (v,l,f)).2.2):=by
  intro n
  induction n with
  | zero =>
   intro v l f hl hf hn
   exact ⟨hl,hf,.inr (by show sym<l+2*f; omega)⟩
  | succ n ih =>
   intro v l f hl hf hn
   unfold lapGo
   split
   ·exact ih _ _ _ (by omega) (by omega) (by omega)
   rename_i hc
   refine ⟨hl,hf,?_⟩
   show f≤1∨sym<l+2*f
   omega
 unfold lap
 split
 ·refine ⟨?_,?_,?_⟩ <;> simp only <;> omega
 rename_i hge
 have:=inv sym 1 fs (lapFirst fs decay+1) (by omega) (by omega) (by omega)
 generalize lapGo decay sym sym (1,fs,lapFirst fs decay+1)=q at *
 obtain ⟨v,l,f⟩:=q
 simp only at this ⊢
 obtain ⟨a,b,c⟩:=this
 split <;> split <;> (refine ⟨?_,?_,?_⟩ <;> simp only <;> omega)
def Dec.lapl (d:Dec) (fs decay:Nat):Int × Dec :=
 ((lap fs decay (d.at 32768)).1,(d.cut (d.rng / 32768) (lap fs decay (d.at 32768)).2.1 (lap fs decay (d.at 32768)).2.2 32768).norm)
theorem Dec.lapl_inv {d:Dec} {N fs decay:Nat} (h:d.inv N) (hN:N≤1152921504606846976) (h1:1≤fs):(d.lapl fs decay).2.inv (N+24)∧(d.lapl fs decay).2.data=d.data∧(d.lapl fs decay).2.rb=d.rb:=by
 have hat:=(d.at_spec h (n:=32768) (by omega) (by omega)).1
 obtain ⟨a,b,c⟩:=lap_spec (fs:=fs) (decay:=decay) h1 hat
 exact Dec.cut_inv h hN (by omega) (by omega) a b c
theorem laplace (w0:World) {d:Dec} {N fs decay:Nat} (h:d.inv N) (hN:N≤1152921504606846976) (h1:1≤fs) (h2:fs≤32000) (h3:decay≤16000) :
 CallsA Tryz.prog w0 50 [.c (.ptr 0 0),.c (.val (.int .u32 fs)),.c (.val (.int .u32 decay))] d.H fun r H=>r=i64 (d.lapl fs decay).1∧H=(d.lapl fs decay).2.H:=by
 have hlo:=h.lo; have hhi:=h.hi; have hv:=h.val
 have hat:=(d.at_spec h (n:=32768) (by omega) (by omega)).1
 have hspec:=lap_spec (fs:=fs) (decay:=decay) h1 hat
 have hlf:=lapFirst_lt (fs:=fs) (decay:=decay)
 have hdef:d.lapl fs decay=((lap fs decay (d.at 32768)).1,(d.cut (d.rng / 32768) (lap fs decay (d.at 32768)).2.1 (lap fs decay (d.at 32768)).2.2 32768).norm):=rfl
 have hupd:∀ x l m,lap fs decay (d.at 32768)=(x,l,m)→CallsA Tryz.prog w0 85 [.c (.ptr 0 0),.c (.val (.int .u32 (d.rng / 32768:Nat))),.c (.val (.int .u32 l)),.c (.val (.int .u32 m)),.c (.val (.int .u32 ((32768:Nat):Int)))] d.H fun r H=>r = .t []∧i64 x=i64 (d.lapl fs decay).1∧H=(d.lapl fs decay).2.H:=by
  intro x l m he
  rw [hdef,he]
  rw [he] at hspec
  exact (updateAt w0 h hN (n:=32768) (by omega) (by omega) hspec.1 hspec.2.1 hspec.2.2).mono fun r H hh=>⟨hh.1,rfl,hh.2⟩
 clear hdef
 generalize d.lapl fs decay=res at *
 refine callsA_of_ev c50_ ?_
 conv=>whnf
 refine (uniSym w0 d (n:=32768) (by omega) (by omega) (by omega) (by omega)).mono ?_
 rintro _ _ ⟨rfl,rfl⟩
 generalize d.at 32768=sym at *
 conv=>whnf
 refine Or.inr ⟨{p:Int × Nat × Nat // lap fs decay sym=(p.1,p.2.1,min (p.2.1+p.2.2) 32768)∧p.2.1+p.2.2<1048576},fun ⟨(x,l,f),_⟩=>⟨[(0,.o (.c (.ptr 0 0))),(7,.o (.c (.val (.int .i64 x)))),(9,.o (.c (.val (.int .u32 l)))),(10,.o (.c (.val (.int .u32 f))))],d.H⟩,?_,?_⟩
 ·conv=>whnf
  refine ⟨fun h4 => ?_,fun h4 => ?_⟩
  ·have h4:fs≤sym:=ge_t h4
   conv=>whnf
   refine (lapFirstW w0 d.H (fs:=fs) (decay:=decay) (by omega) (by omega)).mono ?_
   rintro _ _ ⟨rfl,rfl⟩
   conv=>whnf
   simp (disch:=omega) only [nadd,nwrap32,nwrapi]
   refine Or.inr ⟨{p:Nat × Nat × Nat // p.2.1≤sym∧1≤p.2.2∧p.2.2≤16385∧p.1≤p.2.1∧lapGo decay sym sym (1,fs,lapFirst fs decay+1)=p∧(p.2.2≤1∨sym<p.2.1+2*p.2.2)},fun ⟨(v,l,f),_⟩=>⟨[(0,.o (.c (.ptr 0 0))),(7,.o (.c (.val (.int .i64 (v:Nat))))),(8,.o (.c (.val (.int .u32 sym)))),(9,.o (.c (.val (.int .u32 l)))),(10,.o (.c (.val (.int .u32 f))))],d.H⟩,?_,?_⟩
   ·conv=>whnf
    refine ⟨{p:Nat × Nat × Nat // p.2.1≤sym∧1≤p.2.2∧p.2.2≤16385∧p.1≤p.2.1∧lapGo decay sym (sym - p.2.1) p=lapGo decay sym sym (1,fs,lapFirst fs decay+1)},fun ⟨(v,l,f),_⟩=>⟨[(0,.o (.c (.ptr 0 0))),(1,.o (.c (.val (.int .u32 fs)))),(2,.o (.c (.val (.int .u32 decay)))),(7,.o (.c (.val (.int .i64 (v:Nat))))),(8,.o (.c (.val (.int .u32 sym)))),(9,.o (.c (.val (.int .u32 l)))),(10,.o (.c (.val (.int .u32 f))))],d.H⟩,fun p=>sym - p.1.2.1,⟨⟨(1,fs,lapFirst fs decay+1),h4,by simp only; omega,by simp only; omega,by simp only; omega,lapGo_stable _ _ _ _ _ _ _ (Nat.le_refl _) (by omega)⟩,Dec.embH rfl ⟨rfl,rfl,rfl,rfl,rfl,rfl,rfl,trivial⟩⟩,fun ⟨(v,l,f),hl,hf,hf2,hvl,hgo⟩ => ?_⟩
    simp only at hl hf hf2 hvl hgo
    have hmul:=lapMul hf2 (show decay≤16384 by omega)
    conv=>whnf
    refine ⟨fun h5 => ?_,fun h5 => ?_⟩
    ·have h5:1<f:=gt_t h5
     conv=>whnf
     simp (disch:=omega) only [nmul,nadd,nwrap32]
     refine ⟨fun h6 => ?_,fun h6 => ?_⟩
     ·have h6:l+2*f≤sym:=ge_t h6
      conv=>whnf
      refine ⟨⟨(v+1,l+2*f,(2*f - 2)*decay / 32768+1),?_,?_,?_,?_,?_⟩,Dec.embH rfl ⟨rfl,rfl,rfl,?_,rfl,?_,?_,trivial⟩,?_⟩
      ·exact h6
      ·show 1≤(2*f - 2)*decay / 32768+1
       omega
      ·show (2*f - 2)*decay / 32768+1≤16385
       omega
      ·show v+1≤l+2*f
       omega
      ·rw [← hgo]
       have e:sym - l=(sym - l - 1)+1:=by omega
       rw [e]
       show _=(if 1<f∧l+2*f≤sym then _ else _)
       rw [if_pos ⟨h5,h6⟩]
       exact lapGo_stable _ _ _ _ _ _ _ (Nat.le_refl _) (by omega)
      ·refine eq_i64 ?_
       try dsimp only
       rw [nadd,nwrapi (by omega)]
      ·refine eq_u32 ?_
       try dsimp only
       rw [nmul,nwrap32 (n:=f*2) (by omega),nadd,nwrap32 (by omega)]
       omega
      ·refine eq_u32 ?_
       try dsimp only
       rw [nmul,nwrap32 (n:=f*2) (by omega),nsub (by omega),nwrap32 (n:=f*2 - 2) (by omega),nmul,Nat.mul_comm f 2,nwrap32 (n:=(2*f - 2)*decay) (by omega),nshr32 _ _ (by omega),nadd,nwrap32 (by omega)]
      show sym - (l+2*f)<sym - l
      omega
     have h6:sym<l+2*f:=ge_f h6
     conv=>whnf
     refine ⟨⟨(v,l,f),hl,hf,hf2,hvl,?_,.inr h6⟩,Dec.embH rfl ⟨rfl,rfl,rfl,rfl,rfl,trivial⟩⟩
     rw [← hgo,lapGo_done (by omega)]
    have h5:f≤1:=gt_f h5
    conv=>whnf
    refine ⟨⟨(v,l,f),hl,hf,hf2,hvl,?_,.inl h5⟩,Dec.embH rfl ⟨rfl,rfl,rfl,rfl,rfl,trivial⟩⟩
    rw [← hgo,lapGo_done (by omega)]
   rintro ⟨⟨v,l,f⟩,hl,hf,hf2,hvl,hgo,hex⟩
   simp only at hl hf hf2 hvl hgo hex
   conv=>whnf
   refine Or.inl ?_
   conv=>whnf
   refine ⟨fun h5 => ?_,fun h5 => ?_⟩
   ·have h5:f≤1:=le_t h5
    have hf1:f=1:=by omega
    subst hf1
    have hlap:=lap_of h4 hgo (x:=(sym - l) / 2) (by simp)
    conv=>whnf
    simp (disch:=omega) only [nsub,nwrap32,nshr32,nadd,nmul,nwrapi]
    refine ⟨fun h6 => ?_,fun h6 => ?_⟩
    ·have h6:=lt_t h6
     conv=>whnf
     rw [if_pos (by omega)] at hlap
     refine ⟨⟨(_,_,1),hlap,?_⟩,Dec.embH rfl ⟨rfl,?_,?_,rfl,trivial⟩⟩
     ·simp only; omega
     ·refine eq_i64 ?_
      try dsimp only
      simp only [IntKind.wrap_i64]
      omega
     refine eq_u32 ?_
     try dsimp only
     omega
    have h6:=lt_f h6
    conv=>whnf
    rw [if_neg (by omega)] at hlap
    refine ⟨⟨(_,_,1),hlap,?_⟩,Dec.embH rfl ⟨rfl,?_,?_,rfl,trivial⟩⟩
    ·simp only; omega
    ·refine eq_i64 ?_
     try dsimp only
     skip
    refine eq_u32 ?_
    try dsimp only
    simp (disch:=omega) only [nadd,nwrap32]
    omega
   have h5:1<f:=le_f h5
   have hlap:=lap_of h4 hgo (x:=0) (by rw [if_neg (by omega)])
   conv=>whnf
   simp (disch:=omega) only [nwrap32,nadd]
   refine ⟨fun h6 => ?_,fun h6 => ?_⟩
   ·have h6:=lt_t h6
    conv=>whnf
    rw [if_pos (by omega)] at hlap
    refine ⟨⟨(_,_,f),hlap,?_⟩,Dec.embH rfl ⟨rfl,?_,?_,rfl,trivial⟩⟩
    ·simp only; omega
    ·refine eq_i64 ?_
     try dsimp only
     simp only [IntKind.wrap_i64]
     omega
    refine eq_u32 ?_
    try dsimp only
    omega
   have h6:=lt_f h6
   conv=>whnf
   rw [if_neg (by omega)] at hlap
   refine ⟨⟨(_,_,f),hlap,?_⟩,Dec.embH rfl ⟨rfl,?_,?_,rfl,trivial⟩⟩
   ·simp only; omega
   ·refine eq_i64 ?_
    try dsimp only
    simp only [Nat.add_zero]
   refine eq_u32 ?_
   try dsimp only
   simp (disch:=omega) only [nadd,nwrap32]
   omega
  have h4:sym<fs:=ge_f h4
  conv=>whnf
  refine ⟨⟨(0,0,fs),?_,by simp only; omega⟩,Dec.embH rfl ⟨rfl,rfl,rfl,rfl,trivial⟩⟩
  unfold lap
  rw [if_pos h4,Nat.zero_add]
 rintro ⟨⟨x,l,f⟩,hlap,hlf2⟩
 simp only at hlap hlf2
 conv=>whnf
 have hq:=Nat.div_le_self d.rng 32768
 simp (disch:=omega) only [nadd,nwrap32,ntdiv]
 have e:(if ((32768:Nat):Int)<((l+f:Nat):Int) then ((32768:Nat):Int) else ((l+f:Nat):Int))=((min (l+f) 32768:Nat):Int):=by split <;> omega
 have hu:=hupd x l _ hlap
 rw [← e] at hu
 refine hu.mono ?_
 rintro _ _ ⟨rfl,hx,rfl⟩
 conv=>whnf
 exact Or.inl ⟨hx,rfl⟩
def Dec.raw0 (xs:List Int):Dec:=⟨xs,0,0,9,128,0⟩
def Dec.init0 (xs:List Int):Dec:={ (Dec.raw0 xs).bitsOn 7 with val:=127 - (Dec.raw0 xs).bits 7 }
def Dec.init (xs:List Int):Dec:=(Dec.init0 xs).norm
theorem Dec.raw0_ok {xs:List Int} (hb:∀ x∈xs,0≤x∧x<256) (hl:xs.length≤1099511627776):(Dec.raw0 xs).ok:=⟨hb,hl,by show 0≤_; omega,by show 0≤_; omega,by show 9≤_; omega⟩
theorem Dec.init_inv {xs:List Int} (hb:∀ x∈xs,0≤x∧x<256) (hl:xs.length≤1099511627776):(Dec.init xs).inv 33∧(Dec.init xs).data=xs∧(Dec.init xs).rb=0:=by
 have h7:=(Dec.raw0 xs).bits_lt 7
 have hok:=Dec.bitsOn_ok (Dec.raw0_ok hb hl) 7
 exact Dec.norm_inv (d:=Dec.init0 xs) (N:=9) (by omega) hok.bytes hok.len hok.br (Nat.le_refl _) (by show 0≤_; omega) (by show 1≤128; omega) (by show 128≤_; omega) (by show 127 - _<128; omega)
theorem decInit (w0:World) {xs:List Int} (hb:∀ x∈xs,0≤x∧x<256) (hl:xs.length≤1099511627776) :
 CallsA Tryz.prog w0 43 [.c (.ptr 0 0),.c (.vec 1 xs.length)] [.cells 98 [.val (.slice none 0 0),.val (.int .u64 0),.val (.int .u64 0),.val (.int .u64 0),.val (.int .u32 0),.val (.int .u32 0)],.vec false 5 (encI .u8) [] 1 xs] fun r H=>r = .t []∧H=(Dec.init xs).H:=by
 have h7:=(Dec.raw0 xs).bits_lt 7
 have h7:(Dec.raw0 xs).bits 7<128:=h7
 have hok:=Dec.bitsOn_ok (Dec.raw0_ok hb hl) 7
 refine callsA_of_ev c43_ ?_
 conv=>whnf
 refine (getBits w0 (Dec.raw0 xs) (Dec.raw0_ok hb hl) (n:=7) (by omega) (by omega)).mono ?_
 rintro _ _ ⟨rfl,rfl⟩
 conv=>whnf
 simp (disch:=omega) only [nsub,nwrap32]
 refine (normalize w0 (Dec.init0 xs) ⟨⟨hok.bytes,hok.len,hok.br,hok.rb,hok.nb⟩,by show 9≤_; omega,by show 1≤128; omega,by show 128≤_; omega,by show 127 - _<_; omega⟩).mono ?_
 rintro _ _ ⟨rfl,rfl⟩
 conv=>whnf
 exact Or.inl ⟨rfl,rfl⟩
def Dec.size (d:Dec) (n:Nat):Dec:={ d with data:=d.data.take n }
theorem Dec.size_inv {d:Dec} {N n:Nat} (h:d.inv N):(d.size n).inv N :=
 ⟨fun x hx=>h.bytes x (List.mem_of_mem_take hx),by show (d.data.take n).length≤_; rw [List.length_take]; have:=h.len; omega,h.br,h.nb,h.rb,h.lo,h.hi,h.val⟩
def Dec.H2 (d:Dec):List Blk:=[.cells 98 [.vec 2 d.data.length,.val (.int .u64 d.br),.val (.int .u64 d.rb),.val (.int .u64 d.nb),.val (.int .u32 d.rng),.val (.int .u32 d.val)],.dead,.vec false 5 (encI .u8) [] 1 d.data]
theorem setSize (w0:World) (d:Dec) {n:Nat} (hn:n<4294967296) :
 CallsA Tryz.prog w0 51 [.c (.ptr 0 0),.c (.val (.int .i64 n))] d.H fun r H=>r = .t []∧((d.data.length≤n∧H=d.H)∨(n<d.data.length∧H=(d.size n).H2)):=by
 refine callsA_of_ev c51_ ?_
 conv=>whnf
 refine Or.inl ?_
 conv=>whnf
 refine ⟨fun h1=>absurd (lt_t h1) (by omega),fun h1 => ?_⟩
 conv=>whnf
 refine ⟨fun h2 => ?_,fun h2 => ?_⟩
 ·have h2:=lt_t h2
  conv=>whnf
  refine ⟨by omega,Or.inr ⟨rfl,?_⟩⟩
  conv=>whnf
  refine Or.inl ⟨rfl,.inr ⟨h2,?_⟩⟩
  have e:(d.data.take n).length=n:=by rw [List.length_take]; omega
  unfold Dec.H2 Dec.size
  simp only [e]
  rfl
 have h2:=lt_f h2
 conv=>whnf
 exact Or.inl ⟨rfl,.inl ⟨h2,rfl⟩⟩
structure TabOk (total:Nat) (rest:List Nat):Prop where
 lo:1≤total
 hi:total≤65536
 le:∀ x∈rest,x≤total
 mem:total∈rest
 len:rest.length≤65535
def tabK (rest:List Nat) (sym:Nat):Nat:=rest.findIdx fun x=>decide (sym<x)
def tabLow (rest:List Nat) (k:Nat):Nat:=if k=0 then 0 else rest.getD (k - 1) 0
def Dec.icdf (d:Dec) (total:Nat) (rest:List Nat):Nat × Dec :=
 let k:=tabK rest (d.at total)
 (k,(d.cut (d.rng / total) (tabLow rest k) (rest.getD k 0) total).norm)
theorem tabK_spec {total sym:Nat} {rest:List Nat} (h:TabOk total rest) (hs:sym<total) :
 tabK rest sym<rest.length∧rest[tabK rest sym]? = some (rest.getD (tabK rest sym) 0)∧sym<rest.getD (tabK rest sym) 0∧rest.getD (tabK rest sym) 0≤total∧tabLow rest (tabK rest sym)≤sym ∧
  (∀ i,i<tabK rest sym→rest[i]? = some (rest.getD i 0)∧rest.getD i 0≤sym):=by
 have hlt:tabK rest sym<rest.length:=List.findIdx_lt_length.2 ⟨total,h.mem,by simpa using hs⟩
 have hget:∀ i,i<rest.length→rest[i]? = some (rest.getD i 0):=fun i hi=>by rw [List.getD_eq_getElem?_getD,List.getElem?_eq_getElem hi]; rfl
 have hk:sym<rest.getD (tabK rest sym) 0:=by
  have:=List.findIdx_getElem (xs:=rest) (p:=fun x=>decide (sym<x)) (w:=hlt)
  rw [List.getD_eq_getElem?_getD,List.getElem?_eq_getElem hlt]
  have this:sym<rest[tabK rest sym]:=of_decide_eq_true this
  simpa using this
 have hbelow:∀ i,i<tabK rest sym→rest[i]? = some (rest.getD i 0)∧rest.getD i 0≤sym:=by
  intro i hi
  have:=List.not_of_lt_findIdx (xs:=rest) (p:=fun x=>decide (sym<x)) hi
  refine ⟨hget i (by omega),?_⟩
  rw [List.getD_eq_getElem?_getD,List.getElem?_eq_getElem (by omega)]
  simp at this
  simpa using this
 refine ⟨hlt,hget _ hlt,hk,?_,?_,hbelow⟩
 ·refine h.le _ ?_
  rw [List.getD_eq_getElem?_getD,List.getElem?_eq_getElem hlt]
  exact List.getElem_mem hlt
 unfold tabLow
 split
 ·omega
 exact (hbelow _ (by omega)).2
theorem Dec.icdf_inv {d:Dec} {N total:Nat} {rest:List Nat} (h:d.inv N) (hN:N≤1152921504606846976) (ht:TabOk total rest):(d.icdf total rest).2.inv (N+24)∧(d.icdf total rest).2.data=d.data∧(d.icdf total rest).2.rb=d.rb:=by
 obtain ⟨a,b,c,e,f,g⟩:=tabK_spec ht (d.at_spec h ht.lo ht.hi).1
 exact Dec.cut_inv h hN ht.lo ht.hi f c e
def tabBlk (total:Nat) (rest:List Nat):Blk := .vec true 70 (encI .u64) [] 1 ((total::rest).map fun (x:Nat)=>(x:Int))
theorem emb3 {d:Dec} {k:Blk} {e0 e:Env} (hk:k.ren [0,1,2]=k) (hl:k.live=true) (he:embE [0,1,2] e e0):EmbS 3 ⟨e0,d.H++[k]⟩ ⟨e,d.H++[k]⟩:=by
 refine ⟨[0,1,2],⟨rfl,?_,?_⟩,he⟩
 ·show embH [0,1,2] (d.H++[k]) (d.H++[k]) [0,1,2]
  cases k with
  | dead=>cases hl
  | cells T cs=>exact ⟨rfl,rfl,rfl,rfl,congrArg some hk.symm,rfl,trivial⟩
  | vec wr T e bs wd xs=>exact ⟨rfl,rfl,rfl,rfl,congrArg some hk.symm,by rw [hk]; rfl,trivial⟩
  | fam T e wd xss=>exact ⟨rfl,rfl,rfl,rfl,rfl,rfl,trivial⟩
 cases k with
 | dead=>cases hl
 | cells T cs=>rfl
 | vec wr T e bs wd xs=>rfl
 | fam T e wd xss=>rfl
theorem tab_get {total:Nat} {rest:List Nat} {i x:Nat} (h:rest[i]? = some x) {j:Nat} (hj:j=i+1):((total::rest).map fun (x:Nat)=>(x:Int))[j]? = some (x:Int):=by
 subst hj
 simp [h]
theorem symIcdf (w0:World) {d:Dec} {N total:Nat} {rest:List Nat} (h:d.inv N) (hN:N≤1152921504606846976) (ht:TabOk total rest) :
 CallsA Tryz.prog w0 47 [.c (.ptr 0 0),.c (.vec 2 (rest.length+1))] (d.H++[tabBlk total rest]) fun r H=>r=u32 (d.icdf total rest).1∧H=(d.icdf total rest).2.H++[tabBlk total rest]:=by
 have hlo:=h.lo; have hhi:=h.hi; have hv:=h.val
 obtain ⟨a1,a2,a3,a4⟩:=d.at_spec h ht.lo ht.hi
 have hq:=Nat.div_le_self d.rng total
 have hq2:=Nat.div_le_self d.val (d.rng / total)
 have htl:=ht.lo; have hth:=ht.hi; have hrl:=ht.len
 refine callsA_of_ev c47_ ?_
 conv=>whnf
 refine ⟨by omega,?_⟩
 conv=>whnf
 refine ⟨_,rfl,?_⟩
 conv=>whnf
 refine ⟨by omega,Or.inl ⟨fun c hc1 hc2 => ?_,fun hl => ?_,fun hl => ?_⟩⟩
 ·conv=>whnf
  simp (disch:=omega) only [ntdiv,nwrap32]
  refine ⟨by omega,?_⟩
  conv=>whnf
  simp (disch:=omega) only [ntdiv,nwrap32]
  refine ⟨by omega,?_⟩
  conv=>whnf
  simp (disch:=omega) only [nwrap32,nadd,nwrap64]
  refine (localMin w0 _ _ _).mono ?_
  rintro _ _ ⟨rfl,rfl⟩
  have hat:total - min (d.val / (d.rng / total)+1) total=d.at total:=rfl
  have hle:min (d.val / (d.rng / total)+1) total≤total:=Nat.min_le_right _ _
  obtain ⟨s1,s2,s3,s4,s5,s6⟩:=tabK_spec ht a1
  conv=>whnf
  rw [nwrap32 (n:=min (d.val / (d.rng / total)+1) total) (by omega),nsub hle,hat,nwrap32 (n:=d.at total) (by omega)]
  refine Or.inl ?_
  conv=>whnf
  refine ⟨{k:Nat // k≤tabK rest (d.at total)},fun ⟨k,_⟩=>⟨[(0,.o (.c (.ptr 0 0))),(1,.o (.c (.sli 2 1 1 rest.length (c - 1)))),(5,.o (.c (.val (.int .u32 total)))),(6,.o (.c (.val (.int .u32 (d.rng / total:Nat))))),(7,.o (.c (.val (.int .u32 (d.at total:Nat))))),(8,.o (.c (.val (.int .u32 k))))],d.H++[tabBlk total rest]⟩,fun k=>tabK rest (d.at total) - k.1,⟨⟨0,by omega⟩,emb3 rfl rfl ⟨rfl,rfl,rfl,rfl,rfl,rfl,trivial⟩⟩,fun ⟨k,hk⟩ => ?_⟩
  conv=>whnf
  refine ⟨by omega,?_⟩
  conv=>whnf
  have hidx:∀ i:Nat,1+((i:Nat):Int).toNat=i+1:=fun i=>by omega
  have hge:∀ i,i≤tabK rest (d.at total)→rest[i]? = some (rest.getD i 0)∧rest.getD i 0≤total:=by
   intro i hi
   rcases Nat.lt_or_ge i (tabK rest (d.at total)) with h | h
   ·exact ⟨(s6 i h).1,by have:=(s6 i h).2; omega⟩
   have:i=tabK rest (d.at total):=by omega
   subst this
   exact ⟨s2,s4⟩
  refine ⟨_,tab_get (hge k hk).1 (hidx k),?_⟩
  have hle2:=(hge k hk).2
  conv=>whnf
  rw [nwrap32 (n:=rest.getD k 0) (by omega)]
  refine ⟨fun h1 => ?_,fun h1 => ?_⟩
  ·have h1:rest.getD k 0≤d.at total:=le_t h1
   have hlt:k<tabK rest (d.at total):=by
    rcases Nat.lt_or_ge k (tabK rest (d.at total)) with h | h
    ·exact h
    have:k=tabK rest (d.at total):=by omega
    subst this
    omega
   conv=>whnf
   refine ⟨⟨k+1,hlt⟩,emb3 rfl rfl ⟨rfl,rfl,rfl,rfl,rfl,?_,trivial⟩,?_⟩
   ·refine eq_u32 ?_
    rw [nadd,nwrap32 (by omega)]
   show _ - (k+1)<_ - k
   omega
  have h1:d.at total<rest.getD k 0:=le_f h1
  have hkk:k=tabK rest (d.at total):=by
   rcases Nat.lt_or_ge k (tabK rest (d.at total)) with h | h
   ·have:=(s6 k h).2
    omega
   omega
  have hfin:∀ lo hi:Int,lo=(tabLow rest k:Nat)→hi=(rest.getD k 0:Nat)→CallsA Tryz.prog w0 85 [.c (.ptr 0 0),.c (.val (.int .u32 (d.rng / total:Nat))),.c (.val (.int .u32 lo)),.c (.val (.int .u32 hi)),.c (.val (.int .u32 total))] (d.H++[tabBlk total rest]) fun r H=>r = .t []∧H=(d.icdf total rest).2.H++[tabBlk total rest]:=by
   rintro _ _ rfl rfl
   subst hkk
   refine CallsA.lift (H0:=d.H) [0,1] rfl ⟨rfl,rfl,rfl,rfl,trivial⟩ rfl (updateAt w0 h hN ht.lo ht.hi s5 s3 s4) ?_
   rintro _ _ ⟨rfl,rfl⟩
   exact ⟨rfl,rfl⟩
  have hres:(d.icdf total rest).1=k:=hkk.symm
  conv=>whnf
  refine ⟨by omega,?_⟩
  conv=>whnf
  refine ⟨_,tab_get (hge k hk).1 (hidx k),?_⟩
  conv=>whnf
  refine Or.inl ?_
  conv=>whnf
  refine ⟨fun h2 => ?_,fun h2 => ?_⟩
  ·have h2:k≠0:=bne_t h2
   have hle3:=(hge (k - 1) (by omega)).2
   conv=>whnf
   rw [nsub (a:=k) (b:=1) (by omega),nwrap32 (n:=k - 1) (by omega)]
   refine ⟨by omega,?_⟩
   conv=>whnf
   refine ⟨_,tab_get (hge (k - 1) (by omega)).1 (hidx (k - 1)),?_⟩
   conv=>whnf
   refine (hfin _ _ ?_ ?_).mono ?_
   ·rw [nwrap32 (by omega)]
    unfold tabLow
    rw [if_neg h2]
   ·rw [nwrap32 (by omega)]
   rintro _ _ ⟨rfl,rfl⟩
   conv=>whnf
   rw [hres]
   exact Or.inl ⟨rfl,rfl⟩
  have h2:k=0:=bne_f h2
  conv=>whnf
  refine (hfin _ _ ?_ ?_).mono ?_
  ·unfold tabLow
   rw [if_pos h2]
  ·rw [nwrap32 (by omega)]
  rintro _ _ ⟨rfl,rfl⟩
  conv=>whnf
  rw [hres]
  exact Or.inl ⟨rfl,rfl⟩
 ·have:((1:Nat):Int)=((rest.length+1:Nat):Int):=hl
  have h0:rest.length=0:=by omega
  have:=ht.mem
  rw [List.length_eq_zero_iff.1 h0] at this
  cases this
 omega
end Go.Proofs.YtbpogapddpacoaaGreatDoor
end
end
