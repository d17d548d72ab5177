/- The machine by which the functions are read, and what is proved of them (part 6): no premise. -/
import Derived.Lib.AtoiAll
import Derived.Lib.ConvBytes
import Derived.Calls
import Derived.Test.YtpmdjfblfpjpoaaGreatDoorWe
set_option linter.all false
namespace Wax
open Go (IntKind)

def b_impl_resultFor_1:SCode :=
 (.seq
 (.region [sO 106 (.bin .lss (.t 105) (.t 104))] [1,3,4,103,104,105,106] [] [])
 (.seq
 (.cond (.t 106)
 .skip
 (.exit 1))
 (.seq
 (.block 2
 (.seq
 (.region [sO 107 (.iAddr 2 (.t 103) (.t 105)),sO 108 (.load (some 2) (.t 107)),sO 6 (.alloc [(.str []),(.str [])]),sN (.store 2 (.t 6) (.t 108))] [1,3,4,6,103,104,105] [] [[],[107]])
 (.region [sO 109 (.mv (.t 4)),sO 110 (.fAddr 0 (.t 6)),sO 111 (.load none (.t 110)),sO 112 (.fAddr 1 (.t 6)),sO 113 (.load none (.t 112)),sN (.mput (.t 109) (.t 111) (.t 113))] [1,3,4,103,104,105] [6] [[],[],[110],[6],[112]])))
 (.region [sO 114 (.bin .add (.t 105) (.k (.int .i64 1))),sO 105 (.mv (.t 114))] [1,3,4,103,104,105] [] []))))

def t_impl_resultFor_2:SCode :=
 (.seq
 (.seq
 (.region [sO 115 (.fAddr 1 (.t 1)),sO 116 (.load none (.t 115)),sO 117 (.mv (.t 3)),sO 118 (.mv (.t 4)),sO 119 (.agg [(.str []),(.str []),.nilM] [(0,1,(.t 116)),(1,1,(.t 117)),(2,1,(.t 118))]),sO 120 (.box (.t 119)),sO 121 (.mkIfc 15 (.t 120)),sO 2 (.mv (.t 121))] [2] [1] [[1],[115],[3],[4],[116,117,118],[119],[120]])
 (.ghost [.frz 101]))
 .ret)

def c_impl_resultFor:SFn:=⟨1,
 (.seq
 (.region [sO 1 (.box (.t 0)),sO 2 (.mv (.k .nilI))] [1] [] [[0]])
 (.seq
 (.region [sO 7 (.fAddr 2 (.t 1)),sO 8 (.load none (.t 7)),sO 3 (.mv (.t 8))] [1,3] [] [[],[7]])
 (.seq
 (.seq
 (.region [sO 9 (.fAddr 0 (.t 1)),sO 10 (.load none (.t 9))] [1,3,10] [] [])
 (.block 0
 (.seq
 (.region [sO 12 (.bin .eql (.t 10) (.k (.int .i64 1))),sO 11 (.mv (.t 12))] [1,3,10,11] [] [])
 (.cond (.t 11)
 (.seq
 (.region [sO 13 (.mv (.t 3)),sO 14 (.fAddr 3 (.t 1)),sO 15 (.load none (.t 14)),sO 16 (.fAddr 10 (.t 1)),sO 17 (.load none (.t 16)),sO 18 (.agg [(.str []),(.str []),(.str [])] [(0,1,(.t 13)),(1,1,(.t 15)),(2,1,(.t 17))]),sO 19 (.box (.t 18)),sO 20 (.mkIfc 8 (.t 19)),sO 2 (.mv (.t 20))] [2] [1] [[3],[],[14],[1],[16],[13,15,17],[18],[19]])
 .ret)
 (.seq
 (.region [sO 22 (.bin .eql (.t 10) (.k (.int .i64 2))),sO 21 (.mv (.t 22))] [1,3,10,21] [] [])
 (.cond (.t 21)
 (.seq
 (.region [sO 23 (.mv (.t 3)),sO 24 (.fAddr 3 (.t 1)),sO 25 (.load none (.t 24)),sO 26 (.fAddr 4 (.t 1)),sO 27 (.load none (.t 26)),sO 28 (.fAddr 5 (.t 1)),sO 29 (.load none (.t 28)),sO 30 (.agg [(.str []),(.str []),(.str []),(.str [])] [(0,1,(.t 23)),(1,1,(.t 25)),(2,1,(.t 27)),(3,1,(.t 29))]),sO 31 (.box (.t 30)),sO 32 (.mkIfc 9 (.t 31)),sO 2 (.mv (.t 32))] [2] [1] [[3],[],[24],[],[26],[1],[28],[23,25,27,29],[30],[31]])
 .ret)
 (.seq
 (.region [sO 34 (.bin .eql (.t 10) (.k (.int .i64 3))),sO 33 (.mv (.t 34))] [1,3,10,33] [] [])
 (.cond (.t 33)
 (.seq
 (.region [sO 35 (.mv (.t 3)),sO 36 (.fAddr 3 (.t 1)),sO 37 (.load none (.t 36)),sO 38 (.fAddr 4 (.t 1)),sO 39 (.load none (.t 38)),sO 40 (.fAddr 6 (.t 1)),sO 41 (.load none (.t 40)),sO 42 (.fAddr 7 (.t 1)),sO 43 (.load none (.t 42)),sO 44 (.agg [(.str []),(.str []),(.str []),(.str []),(.str [])] [(0,1,(.t 35)),(1,1,(.t 37)),(2,1,(.t 39)),(3,1,(.t 41)),(4,1,(.t 43))]),sO 45 (.box (.t 44)),sO 46 (.mkIfc 10 (.t 45)),sO 2 (.mv (.t 46))] [2] [1] [[3],[],[36],[],[38],[],[40],[1],[42],[35,37,39,41,43],[44],[45]])
 .ret)
 (.seq
 (.region [sO 48 (.bin .eql (.t 10) (.k (.int .i64 4))),sO 47 (.mv (.t 48))] [1,3,10,47] [] [])
 (.cond (.t 47)
 (.seq
 (.region [sO 49 (.mv (.t 3)),sO 50 (.fAddr 3 (.t 1)),sO 51 (.load none (.t 50)),sO 52 (.fAddr 8 (.t 1)),sO 53 (.load none (.t 52)),sO 54 (.agg [(.str []),(.str []),(.str [])] [(0,1,(.t 49)),(1,1,(.t 51)),(2,1,(.t 53))]),sO 55 (.box (.t 54)),sO 56 (.mkIfc 11 (.t 55)),sO 2 (.mv (.t 56))] [2] [1] [[3],[],[50],[1],[52],[49,51,53],[54],[55]])
 .ret)
 (.seq
 (.region [sO 58 (.bin .eql (.t 10) (.k (.int .i64 5))),sO 57 (.mv (.t 58))] [1,3,10,57] [] [])
 (.cond (.t 57)
 (.seq
 (.region [sO 59 (.mv (.t 3)),sO 60 (.fAddr 3 (.t 1)),sO 61 (.load none (.t 60)),sO 62 (.fAddr 11 (.t 1)),sO 63 (.load none (.t 62)),sO 64 (.fAddr 12 (.t 1)),sO 65 (.load none (.t 64)),sO 66 (.agg [(.str []),(.str []),(.str []),(.str [])] [(0,1,(.t 59)),(1,1,(.t 61)),(2,1,(.t 63)),(3,1,(.t 65))]),sO 67 (.box (.t 66)),sO 68 (.mkIfc 12 (.t 67)),sO 2 (.mv (.t 68))] [2] [1] [[3],[],[60],[],[62],[1],[64],[59,61,63,65],[66],[67]])
 .ret)
 (.seq
 (.region [sO 70 (.bin .eql (.t 10) (.k (.int .i64 6))),sO 69 (.mv (.t 70))] [1,3,10,69] [] [])
 (.cond (.t 69)
 (.seq
 (.region [sO 71 (.mv (.t 3)),sO 72 (.fAddr 3 (.t 1)),sO 73 (.load none (.t 72)),sO 74 (.fAddr 6 (.t 1)),sO 75 (.load none (.t 74)),sO 76 (.fAddr 9 (.t 1)),sO 77 (.load none (.t 76)),sO 78 (.agg [(.str []),(.str []),(.str []),(.str [])] [(0,1,(.t 71)),(1,1,(.t 73)),(2,1,(.t 75)),(3,1,(.t 77))]),sO 79 (.box (.t 78)),sO 80 (.mkIfc 13 (.t 79)),sO 2 (.mv (.t 80))] [2] [1] [[3],[],[72],[],[74],[1],[76],[71,73,75,77],[78],[79]])
 .ret)
 (.seq
 (.region [sO 82 (.bin .eql (.t 10) (.k (.int .i64 7))),sO 81 (.mv (.t 82))] [1,3,10,81] [] [])
 (.cond (.t 81)
 (.seq
 (.region [sO 83 (.mv (.t 3)),sO 84 (.fAddr 3 (.t 1)),sO 85 (.load none (.t 84)),sO 86 (.fAddr 6 (.t 1)),sO 87 (.load none (.t 86)),sO 88 (.agg [(.str []),(.str []),(.str [])] [(0,1,(.t 83)),(1,1,(.t 85)),(2,1,(.t 87))]),sO 89 (.box (.t 88)),sO 90 (.mkIfc 14 (.t 89)),sO 2 (.mv (.t 90))] [2] [1] [[3],[],[84],[1],[86],[83,85,87],[88],[89]])
 .ret)
 (.seq
 (.region [sO 92 (.bin .eql (.t 10) (.k (.int .i64 8))),sO 91 (.mv (.t 92))] [1,3,91] [] [[10]])
 (.cond (.t 91)
 (.seq
 (.region [sO 93 (.mv (.t 3)),sO 94 (.fAddr 13 (.t 1)),sO 95 (.load none (.t 94)),sO 96 (.fAddr 14 (.t 1)),sO 97 (.load none (.t 96)),sO 98 (.agg [(.str []),(.str []),(.int .i64 0)] [(0,1,(.t 93)),(1,1,(.t 95)),(2,1,(.t 97))]),sO 99 (.box (.t 98)),sO 100 (.mkIfc 7 (.t 99)),sO 2 (.mv (.t 100))] [2] [1] [[3],[],[94],[1],[96],[93,95,97],[98],[99]])
 .ret)
 .skip))))))))))))))))))
 (.seq
 (.region [sO 101 (.mkMap),sO 4 (.mv (.t 101))] [1,3,4] [] [])
 (.seq
 (.seq
 (.region [sO 102 (.fAddr 15 (.t 1)),sO 103 (.load none (.t 102)),sO 104 (.len 1 (.t 103)),sO 105 (.mv (.k (.int .i64 0)))] [1,3,4,103,104,105] [] [[],[102]])
 (.block 1
 (.loop [1,3,4,103,104,105]
 b_impl_resultFor_1)))
 t_impl_resultFor_2))))),
 [.t 2]⟩

def l_impl_resultFor:Lay:={ rg:=[(0,([1],[])),(1,([1,3],[])),(2,([1,3,10],[])),(3,([1,3,10,11],[])),(4,([2],[1])),(5,([1,3,10,21],[])),(6,([2],[1])),(7,([1,3,10,33],[])),(8,([2],[1])),(9,([1,3,10,47],[])),(10,([2],[1])),(11,([1,3,10,57],[])),(12,([2],[1])),(13,([1,3,10,69],[])),(14,([2],[1])),(15,([1,3,10,81],[])),(16,([2],[1])),(17,([1,3,91],[])),(18,([2],[1])),(19,([1,3,4],[])),(20,([1,3,4,103,104,105],[])),(21,([1,3,4,103,104,105,106],[])),(22,([1,3,4,6,103,104,105],[])),(23,([1,3,4,103,104,105],[6])),(24,([1,3,4,103,104,105],[])),(25,([2],[1])),(1000021,([1,3,4,103,104,105],[]))],dd:=[(0,[[0]]),(1,[[],[7]]),(4,[[3],[],[14],[1],[16],[13,15,17],[18],[19]]),(6,[[3],[],[24],[],[26],[1],[28],[23,25,27,29],[30],[31]]),(8,[[3],[],[36],[],[38],[],[40],[1],[42],[35,37,39,41,43],[44],[45]]),(10,[[3],[],[50],[1],[52],[49,51,53],[54],[55]]),(12,[[3],[],[60],[],[62],[1],[64],[59,61,63,65],[66],[67]]),(14,[[3],[],[72],[],[74],[1],[76],[71,73,75,77],[78],[79]]),(16,[[3],[],[84],[1],[86],[83,85,87],[88],[89]]),(17,[[10]]),(18,[[3],[],[94],[1],[96],[93,95,97],[98],[99]]),(20,[[],[102]]),(22,[[],[107]]),(23,[[],[],[110],[6],[112]]),(25,[[1],[115],[3],[4],[116,117,118],[119],[120]])],gh:=[(25,[.frz 101])] }

def c_authres_resultMethod:SFn:=⟨1,
 (.seq
 (.region [sO 2 (.mv (.k (.str [])))] [0] [] [])
 (.seq
 (.region [sO 12 (.mv (.t 0))] [12] [] [])
 (.block 0
 (.seq
 (.region [sO 13 (.assert 8 .nilP true (.t 12)),sO 14 (.extr (.t 13) 1),sO 15 (.extr (.t 13) 0)] [12,14,15] [] [])
 (.cond (.t 14)
 (.seq
 (.region [sO 3 (.mv (.t 15))] [] [] [])
 (.seq
 (.region [sO 2 (.mv (.k (.str [97,117,116,104])))] [2] [] [])
 .ret))
 (.seq
 (.region [sO 16 (.assert 9 .nilP true (.t 12)),sO 17 (.extr (.t 16) 1),sO 18 (.extr (.t 16) 0)] [12,17,18] [] [])
 (.cond (.t 17)
 (.seq
 (.region [sO 4 (.mv (.t 18))] [] [] [])
 (.seq
 (.region [sO 2 (.mv (.k (.str [100,107,105,109])))] [2] [] [])
 .ret))
 (.seq
 (.region [sO 19 (.assert 10 .nilP true (.t 12)),sO 20 (.extr (.t 19) 1),sO 21 (.extr (.t 19) 0)] [12,20,21] [] [])
 (.cond (.t 20)
 (.seq
 (.region [sO 5 (.mv (.t 21))] [] [] [])
 (.seq
 (.region [sO 2 (.mv (.k (.str [100,111,109,97,105,110,107,101,121,115])))] [2] [] [])
 .ret))
 (.seq
 (.region [sO 22 (.assert 11 .nilP true (.t 12)),sO 23 (.extr (.t 22) 1),sO 24 (.extr (.t 22) 0)] [12,23,24] [] [])
 (.cond (.t 23)
 (.seq
 (.region [sO 6 (.mv (.t 24))] [] [] [])
 (.seq
 (.region [sO 2 (.mv (.k (.str [105,112,114,101,118])))] [2] [] [])
 .ret))
 (.seq
 (.region [sO 25 (.assert 12 .nilP true (.t 12)),sO 26 (.extr (.t 25) 1),sO 27 (.extr (.t 25) 0)] [12,26,27] [] [])
 (.cond (.t 26)
 (.seq
 (.region [sO 7 (.mv (.t 27))] [] [] [])
 (.seq
 (.region [sO 2 (.mv (.k (.str [115,101,110,100,101,114,45,105,100])))] [2] [] [])
 .ret))
 (.seq
 (.region [sO 28 (.assert 13 .nilP true (.t 12)),sO 29 (.extr (.t 28) 1),sO 30 (.extr (.t 28) 0)] [12,29,30] [] [])
 (.cond (.t 29)
 (.seq
 (.region [sO 8 (.mv (.t 30))] [] [] [])
 (.seq
 (.region [sO 2 (.mv (.k (.str [115,112,102])))] [2] [] [])
 .ret))
 (.seq
 (.region [sO 31 (.assert 14 .nilP true (.t 12)),sO 32 (.extr (.t 31) 1),sO 33 (.extr (.t 31) 0)] [12,32,33] [] [])
 (.cond (.t 32)
 (.seq
 (.region [sO 9 (.mv (.t 33))] [] [] [])
 (.seq
 (.region [sO 2 (.mv (.k (.str [100,109,97,114,99])))] [2] [] [])
 .ret))
 (.seq
 (.region [sO 34 (.assert 15 .nilP true (.t 12)),sO 35 (.extr (.t 34) 1),sO 36 (.extr (.t 34) 0)] [12,35,36] [] [])
 (.cond (.t 35)
 (.seq
 (.region [sO 10 (.mv (.t 36))] [10] [] [])
 (.seq
 (.region [sO 37 (.mv (.t 10)),sO 38 (.chk (.t 37)),sO 39 (.fAddr 0 (.t 38)),sO 40 (.load none (.t 39)),sO 2 (.mv (.t 40))] [2] [] [[10],[37],[38],[39]])
 .ret))
 (.seq
 (.region [sO 11 (.mv (.t 12))] [] [] [])
 (.seq
 (.region [sO 2 (.mv (.k (.str [])))] [2] [] [])
 .ret))))))))))))))))))))),
 [.t 2]⟩

def l_authres_resultMethod:Lay:={ rg:=[(0,([0],[])),(1,([12],[])),(2,([],[])),(3,([2],[])),(4,([12,14,15],[])),(5,([],[])),(6,([2],[])),(7,([12,17,18],[])),(8,([],[])),(9,([2],[])),(10,([12,20,21],[])),(11,([],[])),(12,([2],[])),(13,([12,23,24],[])),(14,([],[])),(15,([2],[])),(16,([12,26,27],[])),(17,([],[])),(18,([2],[])),(19,([12,29,30],[])),(20,([],[])),(21,([2],[])),(22,([12,32,33],[])),(23,([],[])),(24,([2],[])),(25,([12,35,36],[])),(26,([10],[])),(27,([2],[]))],dd:=[(27,[[10],[37],[38],[39]])] }

def c_authres_AuthResult_format:SFn:=⟨1,
 (.seq
 (.region [sO 2 (.mv (.k (.str []))),sO 3 (.mv (.k .nilM))] [0] [] [[2]])
 (.seq
 (.seq
 (.region [sO 4 (.fl (.mv (.t 0))),sO 5 (.fl (.chk (.t 4))),sO 6 (.fl (.fAddr 0 (.t 5))),sO 7 (.fl (.load none (.t 6))),sO 8 (.mkMap),sO 9 (.fl (.mv (.t 0))),sO 10 (.fl (.chk (.t 9))),sO 11 (.fl (.fAddr 2 (.t 10))),sO 12 (.fl (.load none (.t 11))),sN (.mputD (.t 8) (.k (.str [115,109,116,112,46,97,117,116,104])) (.t 12)),sO 13 (.mv (.t 8)),sO 2 (.mv (.t 7)),sO 3 (.mv (.t 13))] [2,3] [] [])
 (.ghost [.frz 8]))
 .ret)),
 [.t 2,.t 3]⟩

def l_authres_AuthResult_format:Lay:={ rg:=[(0,([0],[])),(1,([2,3],[]))],dd:=[(0,[[2]])],gh:=[(1,[.frz 8])],md:=[8],fl:=[4,5,6,7,9,10,11,12] }

def c_authres_DKIMResult_format:SFn:=⟨1,
 (.seq
 (.region [sO 2 (.mv (.k (.str []))),sO 3 (.mv (.k .nilM))] [0] [] [[2]])
 (.seq
 (.seq
 (.region [sO 4 (.fl (.mv (.t 0))),sO 5 (.fl (.chk (.t 4))),sO 6 (.fl (.fAddr 0 (.t 5))),sO 7 (.fl (.load none (.t 6))),sO 8 (.mkMap),sO 9 (.fl (.mv (.t 0))),sO 10 (.fl (.chk (.t 9))),sO 11 (.fl (.fAddr 1 (.t 10))),sO 12 (.fl (.load none (.t 11))),sN (.mputD (.t 8) (.k (.str [114,101,97,115,111,110])) (.t 12)),sO 13 (.fl (.mv (.t 0))),sO 14 (.fl (.chk (.t 13))),sO 15 (.fl (.fAddr 2 (.t 14))),sO 16 (.fl (.load none (.t 15))),sN (.mputD (.t 8) (.k (.str [104,101,97,100,101,114,46,100])) (.t 16)),sO 17 (.fl (.mv (.t 0))),sO 18 (.fl (.chk (.t 17))),sO 19 (.fl (.fAddr 3 (.t 18))),sO 20 (.fl (.load none (.t 19))),sN (.mputD (.t 8) (.k (.str [104,101,97,100,101,114,46,105])) (.t 20)),sO 21 (.mv (.t 8)),sO 2 (.mv (.t 7)),sO 3 (.mv (.t 21))] [2,3] [] [])
 (.ghost [.frz 8]))
 .ret)),
 [.t 2,.t 3]⟩

def l_authres_DKIMResult_format:Lay:={ rg:=[(0,([0],[])),(1,([2,3],[]))],dd:=[(0,[[2]])],gh:=[(1,[.frz 8])],md:=[8],fl:=[4,5,6,7,9,10,11,12,13,14,15,16,17,18,19,20] }

def c_authres_DomainKeysResult_format:SFn:=⟨1,
 (.seq
 (.region [sO 2 (.mv (.k (.str []))),sO 3 (.mv (.k .nilM))] [0] [] [[2]])
 (.seq
 (.seq
 (.region [sO 4 (.fl (.mv (.t 0))),sO 5 (.fl (.chk (.t 4))),sO 6 (.fl (.fAddr 0 (.t 5))),sO 7 (.fl (.load none (.t 6))),sO 8 (.mkMap),sO 9 (.fl (.mv (.t 0))),sO 10 (.fl (.chk (.t 9))),sO 11 (.fl (.fAddr 1 (.t 10))),sO 12 (.fl (.load none (.t 11))),sN (.mputD (.t 8) (.k (.str [114,101,97,115,111,110])) (.t 12)),sO 13 (.fl (.mv (.t 0))),sO 14 (.fl (.chk (.t 13))),sO 15 (.fl (.fAddr 2 (.t 14))),sO 16 (.fl (.load none (.t 15))),sN (.mputD (.t 8) (.k (.str [104,101,97,100,101,114,46,100])) (.t 16)),sO 17 (.fl (.mv (.t 0))),sO 18 (.fl (.chk (.t 17))),sO 19 (.fl (.fAddr 3 (.t 18))),sO 20 (.fl (.load none (.t 19))),sN (.mputD (.t 8) (.k (.str [104,101,97,100,101,114,46,102,114,111,109])) (.t 20)),sO 21 (.fl (.mv (.t 0))),sO 22 (.fl (.chk (.t 21))),sO 23 (.fl (.fAddr 4 (.t 22))),sO 24 (.fl (.load none (.t 23))),sN (.mputD (.t 8) (.k (.str [104,101,97,100,101,114,46,115,101,110,100,101,114])) (.t 24)),sO 25 (.mv (.t 8)),sO 2 (.mv (.t 7)),sO 3 (.mv (.t 25))] [2,3] [] [])
 (.ghost [.frz 8]))
 .ret)),
 [.t 2,.t 3]⟩

def l_authres_DomainKeysResult_format:Lay:={ rg:=[(0,([0],[])),(1,([2,3],[]))],dd:=[(0,[[2]])],gh:=[(1,[.frz 8])],md:=[8],fl:=[4,5,6,7,9,10,11,12,13,14,15,16,17,18,19,20,21,22,23,24] }

def c_authres_IPRevResult_format:SFn:=⟨1,
 (.seq
 (.region [sO 2 (.mv (.k (.str []))),sO 3 (.mv (.k .nilM))] [0] [] [[2]])
 (.seq
 (.seq
 (.region [sO 4 (.fl (.mv (.t 0))),sO 5 (.fl (.chk (.t 4))),sO 6 (.fl (.fAddr 0 (.t 5))),sO 7 (.fl (.load none (.t 6))),sO 8 (.mkMap),sO 9 (.fl (.mv (.t 0))),sO 10 (.fl (.chk (.t 9))),sO 11 (.fl (.fAddr 1 (.t 10))),sO 12 (.fl (.load none (.t 11))),sN (.mputD (.t 8) (.k (.str [114,101,97,115,111,110])) (.t 12)),sO 13 (.fl (.mv (.t 0))),sO 14 (.fl (.chk (.t 13))),sO 15 (.fl (.fAddr 2 (.t 14))),sO 16 (.fl (.load none (.t 15))),sN (.mputD (.t 8) (.k (.str [112,111,108,105,99,121,46,105,112,114,101,118])) (.t 16)),sO 17 (.mv (.t 8)),sO 2 (.mv (.t 7)),sO 3 (.mv (.t 17))] [2,3] [] [])
 (.ghost [.frz 8]))
 .ret)),
 [.t 2,.t 3]⟩

def l_authres_IPRevResult_format:Lay:={ rg:=[(0,([0],[])),(1,([2,3],[]))],dd:=[(0,[[2]])],gh:=[(1,[.frz 8])],md:=[8],fl:=[4,5,6,7,9,10,11,12,13,14,15,16] }

def c_authres_SenderIDResult_format:SFn:=⟨1,
 (.seq
 (.region [sO 2 (.mv (.k (.str []))),sO 3 (.mv (.k .nilM))] [0] [] [[2]])
 (.seq
 (.seq
 (.region [sO 4 (.fl (.mv (.t 0))),sO 5 (.fl (.chk (.t 4))),sO 6 (.fl (.fAddr 0 (.t 5))),sO 7 (.fl (.load none (.t 6))),sO 8 (.mkMap),sO 9 (.fl (.mv (.t 0))),sO 10 (.fl (.chk (.t 9))),sO 11 (.fl (.fAddr 1 (.t 10))),sO 12 (.fl (.load none (.t 11))),sN (.mputD (.t 8) (.k (.str [114,101,97,115,111,110])) (.t 12)),sO 13 (.fl (.mv (.t 0))),sO 14 (.fl (.chk (.t 13))),sO 15 (.fl (.fAddr 2 (.t 14))),sO 16 (.fl (.load none (.t 15))),sO 17 (.fl (.call 172 [(.t 16)])),sO 18 (.fl (.bin .add (.k (.str [104,101,97,100,101,114,46])) (.t 17))),sO 19 (.fl (.mv (.t 0))),sO 20 (.fl (.chk (.t 19))),sO 21 (.fl (.fAddr 3 (.t 20))),sO 22 (.fl (.load none (.t 21))),sN (.mputD (.t 8) (.t 18) (.t 22)),sO 23 (.mv (.t 8)),sO 2 (.mv (.t 7)),sO 3 (.mv (.t 23))] [2,3] [] [])
 (.ghost [.frz 8]))
 .ret)),
 [.t 2,.t 3]⟩

def l_authres_SenderIDResult_format:Lay:={ rg:=[(0,([0],[])),(1,([2,3],[]))],dd:=[(0,[[2]])],gh:=[(1,[.frz 8])],md:=[8],fl:=[4,5,6,7,9,10,11,12,13,14,15,16,17,18,19,20,21,22] }

def c_authres_SPFResult_format:SFn:=⟨1,
 (.seq
 (.region [sO 2 (.mv (.k (.str []))),sO 3 (.mv (.k .nilM))] [0] [] [[2]])
 (.seq
 (.seq
 (.region [sO 4 (.fl (.mv (.t 0))),sO 5 (.fl (.chk (.t 4))),sO 6 (.fl (.fAddr 0 (.t 5))),sO 7 (.fl (.load none (.t 6))),sO 8 (.mkMap),sO 9 (.fl (.mv (.t 0))),sO 10 (.fl (.chk (.t 9))),sO 11 (.fl (.fAddr 1 (.t 10))),sO 12 (.fl (.load none (.t 11))),sN (.mputD (.t 8) (.k (.str [114,101,97,115,111,110])) (.t 12)),sO 13 (.fl (.mv (.t 0))),sO 14 (.fl (.chk (.t 13))),sO 15 (.fl (.fAddr 2 (.t 14))),sO 16 (.fl (.load none (.t 15))),sN (.mputD (.t 8) (.k (.str [115,109,116,112,46,109,97,105,108,102,114,111,109])) (.t 16)),sO 17 (.fl (.mv (.t 0))),sO 18 (.fl (.chk (.t 17))),sO 19 (.fl (.fAddr 3 (.t 18))),sO 20 (.fl (.load none (.t 19))),sN (.mputD (.t 8) (.k (.str [115,109,116,112,46,104,101,108,111])) (.t 20)),sO 21 (.mv (.t 8)),sO 2 (.mv (.t 7)),sO 3 (.mv (.t 21))] [2,3] [] [])
 (.ghost [.frz 8]))
 .ret)),
 [.t 2,.t 3]⟩

def l_authres_SPFResult_format:Lay:={ rg:=[(0,([0],[])),(1,([2,3],[]))],dd:=[(0,[[2]])],gh:=[(1,[.frz 8])],md:=[8],fl:=[4,5,6,7,9,10,11,12,13,14,15,16,17,18,19,20] }

def c_authres_DMARCResult_format:SFn:=⟨1,
 (.seq
 (.region [sO 2 (.mv (.k (.str []))),sO 3 (.mv (.k .nilM))] [0] [] [[2]])
 (.seq
 (.region [sO 4 (.fl (.mv (.t 0))),sO 5 (.fl (.chk (.t 4))),sO 6 (.fl (.fAddr 0 (.t 5))),sO 7 (.fl (.load none (.t 6))),sO 8 (.mkMap),sO 9 (.fl (.mv (.t 0))),sO 10 (.fl (.chk (.t 9))),sO 11 (.fl (.fAddr 1 (.t 10))),sO 12 (.fl (.load none (.t 11))),sN (.mputD (.t 8) (.k (.str [114,101,97,115,111,110])) (.t 12)),sO 13 (.fl (.mv (.t 0))),sO 14 (.fl (.chk (.t 13))),sO 15 (.fl (.fAddr 2 (.t 14))),sO 16 (.fl (.load none (.t 15))),sN (.mputD (.t 8) (.k (.str [104,101,97,100,101,114,46,102,114,111,109])) (.t 16)),sO 17 (.mv (.t 8)),sO 2 (.mv (.t 7)),sO 3 (.mv (.t 17))] [2,3] [] [])
 .ret)),
 [.t 2,.t 3]⟩

def l_authres_DMARCResult_format:Lay:={ rg:=[(0,([0],[])),(1,([2,3],[]))],dd:=[(0,[[2]])],gh:=[(4,[.frz 19])],md:=[8],fl:=[4,5,6,7,9,10,11,12,13,14,15,16] }

def c_authres_GenericResult_format:SFn:=⟨1,
 (.seq
 (.region [sO 2 (.mv (.k (.str []))),sO 3 (.mv (.k .nilM))] [0] [] [[2]])
 (.seq
 (.region [sO 4 (.fl (.mv (.t 0))),sO 5 (.fl (.chk (.t 4))),sO 6 (.fl (.fAddr 1 (.t 5))),sO 7 (.fl (.load none (.t 6))),sO 8 (.fl (.mv (.t 0))),sO 9 (.fl (.chk (.t 8))),sO 10 (.fl (.fAddr 2 (.t 9))),sO 11 (.fl (.load none (.t 10))),sO 2 (.mv (.t 7)),sO 3 (.mv (.t 11))] [2,3] [] [])
 .ret)),
 [.t 2,.t 3]⟩

def l_authres_GenericResult_format:Lay:={ rg:=[(0,([0],[])),(1,([2,3],[]))],dd:=[(0,[[2]])],fl:=[4,5,6,7,8,9,10,11] }

def b_authres_formatParams_1:SCode :=
 (.seq
 (.regM (some 15) (.t 14) [sO 16 (.extr (.t 15) 0)] [0,3,14,16] [] [])
 (.seq
 (.cond (.t 16)
 .skip
 (.exit 0))
 (.block 1
 (.seq
 (.region [sO 17 (.entry (.t 14)),sO 18 (.extr (.t 17) 0),sO 4 (.mv (.t 18))] [0,3,4,14] [] [[],[17]])
 (.seq
 (.seq
 (.region [sO 19 (.mv (.t 4)),sO 20 (.bin .eql (.t 19) (.k (.str [114,101,97,115,111,110])))] [0,3,4,14,20] [] [])
 (.cond (.t 20)
 (.exit 1)
 .skip))
 (.region [sO 21 (.mv (.t 3)),sO 22 (.mv (.t 4)),sO 23 (.mkSl 1 1 [(.str [])] [(0,(.t 22))]),sO 24 (.app 1 16 (.t 21) (.t 23)),sO 3 (.mv (.t 24))] [0,3,14] [23] [[],[4],[22],[21,23]]))))))

def b_authres_formatParams_2:SCode :=
 (.seq
 (.region [sO 36 (.bin .lss (.t 35) (.t 34))] [0,5,6,33,34,35,36] [] [])
 (.seq
 (.cond (.t 36)
 .skip
 (.exit 2))
 (.seq
 (.block 3
 (.seq
 (.region [sO 37 (.iAddr 1 (.t 33) (.t 35)),sO 38 (.load none (.t 37)),sO 8 (.mv (.t 38))] [0,5,6,8,33,34,35] [] [[],[37]])
 (.seq
 (.seq
 (.region [sO 39 (.mv (.t 0)),sO 40 (.mv (.t 8)),sO 41 (.look (.str []) false (.t 39) (.t 40)),sO 42 (.bin .eql (.t 41) (.k (.str [])))] [0,5,6,8,33,34,35,42] [] [[],[],[39,40]])
 (.cond (.t 42)
 (.exit 3)
 .skip))
 (.seq
 (.seq
 (.region [sO 43 (.mv (.t 6)),sO 44 (.bin .gtr (.t 43) (.k (.int .i64 0)))] [0,5,6,8,33,34,35,44] [] [])
 (.cond (.t 44)
 (.region [sO 45 (.mv (.t 5)),sO 46 (.bin .add (.t 45) (.k (.str [32]))),sO 5 (.mv (.t 46))] [0,5,6,8,33,34,35] [] [[],[45]])
 .skip))
 (.seq
 (.region [sO 9 (.mv (.k (.str [])))] [0,5,6,8,33,34,35] [] [])
 (.seq
 (.seq
 (.region [sO 47 (.mv (.t 8)),sO 48 (.bin .eql (.t 47) (.k (.str [114,101,97,115,111,110])))] [0,5,6,8,33,34,35,48] [] [])
 (.cond (.t 48)
 (.region [sO 49 (.mv (.t 0)),sO 50 (.mv (.t 8)),sO 51 (.look (.str []) false (.t 49) (.t 50)),sO 52 (.call 241 [(.t 51)]),sO 9 (.mv (.t 52))] [0,5,6,8,9,33,34,35] [] [[],[],[49,50],[51]])
 (.region [sO 53 (.mv (.t 0)),sO 54 (.mv (.t 8)),sO 55 (.look (.str []) false (.t 53) (.t 54)),sO 56 (.call 242 [(.t 55)]),sO 9 (.mv (.t 56))] [0,5,6,8,9,33,34,35] [] [[],[],[53,54],[55]])))
 (.seq
 (.region [sO 57 (.mv (.t 5)),sO 58 (.mv (.t 8)),sO 59 (.bin .add (.t 58) (.k (.str [61]))),sO 60 (.mv (.t 9)),sO 61 (.bin .add (.t 59) (.t 60)),sO 62 (.bin .add (.t 57) (.t 61)),sO 5 (.mv (.t 62))] [0,5,6,33,34,35] [] [[],[8],[58],[9],[59,60],[57,61]])
 (.region [sO 63 (.mv (.t 6)),sO 64 (.bin .add (.t 63) (.k (.int .i64 1))),sO 6 (.mv (.t 64))] [0,5,6,33,34,35] [] [[],[63]]))))))))
 (.region [sO 65 (.bin .add (.t 35) (.k (.int .i64 1))),sO 35 (.mv (.t 65))] [0,5,6,33,34,35] [] []))))

def t_authres_formatParams_3:SCode :=
 (.seq
 (.region [sO 66 (.mv (.t 5)),sO 2 (.mv (.t 66))] [2] [12,24,26,30,32,100026] [[5]])
 .ret)

def t_authres_formatParams_4:SCode :=
 (.seq
 (.region [sO 25 (.mv (.t 3)),sO 26 (.callS 240 [(.t 25)])] [0,3] [14] [])
 (.seq
 (.seq
 (.region [sO 27 (.mv (.t 0)),sO 28 (.look (.str []) false (.t 27) (.k (.str [114,101,97,115,111,110]))),sO 29 (.bin .neq (.t 28) (.k (.str [])))] [0,3,29] [] [[],[27]])
 (.cond (.t 29)
 (.region [sO 30 (.mkSl 1 1 [(.str [])] [(0,(.k (.str [114,101,97,115,111,110])))]),sO 31 (.mv (.t 3)),sO 32 (.app 1 16 (.t 30) (.t 31)),sO 3 (.mv (.t 32))] [0,3] [] [[],[],[30,31]])
 .skip))
 (.seq
 (.region [sO 5 (.mv (.k (.str [])))] [0,3,5] [] [])
 (.seq
 (.region [sO 6 (.mv (.k (.int .i64 0)))] [0,3,5,6] [] [])
 (.seq
 (.seq
 (.region [sO 33 (.mv (.t 3)),sO 34 (.len 1 (.t 33)),sO 35 (.mv (.k (.int .i64 0)))] [0,5,6,33,34,35] [] [[3]])
 (.block 2
 (.loop [0,5,6,33,34,35]
 b_authres_formatParams_2)))
 t_authres_formatParams_3)))))

def c_authres_formatParams:SFn:=⟨1,
 (.seq
 (.region [sO 2 (.mv (.k (.str [])))] [0] [] [])
 (.seq
 (.region [sO 10 (.mv (.t 0)),sO 11 (.len 2 (.t 10)),sO 12 (.mkSlice 1 16 [(.str [])] (.k (.int .i64 0)) (.t 11)),sO 3 (.mv (.t 12))] [0,3] [] [[],[10],[11]])
 (.seq
 (.seq
 (.region [sO 13 (.mv (.t 0)),sO 14 (.rangeM (.t 13))] [0,3,14] [] [])
 (.block 0
 (.loop [0,3,14]
 b_authres_formatParams_1)))
 t_authres_formatParams_4))),
 [.t 2]⟩

def l_authres_formatParams:Lay:={ rg:=[(0,([0],[])),(1,([0,3],[])),(2,([0,3,14],[])),(3,([0,3,14,16],[])),(4,([0,3,4,14],[])),(5,([0,3,4,14,20],[])),(6,([0,3,14],[23])),(7,([0,3],[14])),(8,([0,3,29],[])),(9,([0,3],[])),(10,([0,3,5],[])),(11,([0,3,5,6],[])),(12,([0,5,6,33,34,35],[])),(13,([0,5,6,33,34,35,36],[])),(14,([0,5,6,8,33,34,35],[])),(15,([0,5,6,8,33,34,35,42],[])),(16,([0,5,6,8,33,34,35,44],[])),(17,([0,5,6,8,33,34,35],[])),(18,([0,5,6,8,33,34,35],[])),(19,([0,5,6,8,33,34,35,48],[])),(20,([0,5,6,8,9,33,34,35],[])),(21,([0,5,6,8,9,33,34,35],[])),(22,([0,5,6,33,34,35],[])),(23,([0,5,6,33,34,35],[])),(24,([0,5,6,33,34,35],[])),(25,([2],[12,24,26,30,32,100026])),(1000003,([0,3,14],[])),(1000013,([0,5,6,33,34,35],[]))],dd:=[(1,[[],[10],[11]]),(4,[[],[17]]),(6,[[],[4],[22],[21,23]]),(8,[[],[27]]),(9,[[],[],[30,31]]),(12,[[3]]),(14,[[],[37]]),(15,[[],[],[39,40]]),(17,[[],[45]]),(20,[[],[],[49,50],[51]]),(21,[[],[],[53,54],[55]]),(22,[[],[8],[58],[9],[59,60],[57,61]]),(23,[[],[63]]),(25,[[5]])],sf:=[240] }

def b_authres_formatValue_1:SCode :=
 (.seq
 (.region [sO 9 (.nextS (.t 8)),sO 10 (.extr (.t 9) 0)] [0,3,8,9,10] [] [])
 (.seq
 (.cond (.t 10)
 .skip
 (.exit 0))
 (.block 1
 (.seq
 (.region [sO 11 (.extr (.t 9) 2),sO 5 (.mv (.t 11))] [0,3,5,8] [] [[9]])
 (.seq
 (.region [sO 12 (.mv (.t 5)),sO 13 (.call 243 [(.t 12)]),sO 6 (.mv (.t 13))] [0,3,5,6,8] [] [[],[12]])
 (.seq
 (.region [sO 14 (.mv (.t 5)),sO 15 (.bin .leq (.t 14) (.k (.int .i32 32))),sO 16 (.mv (.t 15)),sG 17 (.mv (.t 6)) 16 false,sO 18 (.pick (.t 16) (.k (.bool true)) (.t 17))] [0,3,8,18] [] [[5],[14],[15],[6]])
 (.cond (.t 18)
 (.region [sO 3 (.mv (.k (.bool true)))] [0,3,8] [] [])
 .skip)))))))

def t_authres_formatValue_2:SCode :=
 (.seq
 (.seq
 (.region [sO 19 (.mv (.t 3))] [0,19] [8] [])
 (.cond (.t 19)
 (.seq
 (.region [sO 20 (.mv (.t 0)),sO 21 (.call 244 [(.t 20)]),sO 22 (.bin .add (.k (.str [34])) (.t 21)),sO 23 (.bin .add (.t 22) (.k (.str [34]))),sO 2 (.mv (.t 23))] [2] [] [[0],[20],[21],[22]])
 .ret)
 .skip))
 (.seq
 (.region [sO 24 (.mv (.t 0)),sO 2 (.mv (.t 24))] [2] [] [[0]])
 .ret))

def c_authres_formatValue:SFn:=⟨1,
 (.seq
 (.region [sO 2 (.mv (.k (.str [])))] [0] [] [])
 (.seq
 (.region [sO 3 (.mv (.k (.bool false)))] [0,3] [] [])
 (.seq
 (.seq
 (.region [sO 7 (.mv (.t 0)),sO 8 (.rangeS (.t 7))] [0,3,8] [] [])
 (.block 0
 (.loop [0,3,8]
 b_authres_formatValue_1)))
 t_authres_formatValue_2))),
 [.t 2]⟩

def l_authres_formatValue:Lay:={ rg:=[(0,([0],[])),(1,([0,3],[])),(2,([0,3,8],[])),(3,([0,3,8,9,10],[])),(4,([0,3,5,8],[])),(5,([0,3,5,6,8],[])),(6,([0,3,8,18],[])),(7,([0,3,8],[])),(8,([0,19],[8])),(9,([2],[])),(10,([2],[])),(1000003,([0,3,8],[]))],dd:=[(4,[[9]]),(5,[[],[12]]),(6,[[5],[14],[15],[6]]),(9,[[0],[20],[21],[22]]),(10,[[0]])] }

def b_authres_formatPvalue_1:SCode :=
 (.seq
 (.region [sO 9 (.nextS (.t 8)),sO 10 (.extr (.t 9) 0)] [0,3,8,9,10] [] [])
 (.seq
 (.cond (.t 10)
 .skip
 (.exit 0))
 (.block 1
 (.seq
 (.region [sO 11 (.extr (.t 9) 2),sO 5 (.mv (.t 11))] [0,3,5,8] [] [[9]])
 (.seq
 (.region [sO 12 (.mv (.t 5)),sO 13 (.call 245 [(.t 12)]),sO 6 (.mv (.t 13))] [0,3,5,6,8] [] [[],[12]])
 (.seq
 (.region [sO 14 (.mv (.t 5)),sO 15 (.call 246 [(.t 14)]),sO 16 (.un .not (.t 15)),sO 17 (.mv (.t 16)),sG 18 (.mv (.t 5)) 17 true,sG 19 (.call 247 [(.t 18)]) 17 true,sG 20 (.un .not (.t 19)) 17 true,sO 21 (.pick (.t 17) (.t 20) (.k (.bool false))),sO 22 (.mv (.t 21)),sG 23 (.mv (.t 6)) 22 true,sG 24 (.un .not (.t 23)) 22 true,sO 25 (.pick (.t 22) (.t 24) (.k (.bool false)))] [0,3,8,25] [] [[],[14],[15],[16],[5],[18],[19],[17,20],[21],[6],[23]])
 (.cond (.t 25)
 (.region [sO 3 (.mv (.k (.bool false)))] [0,3,8] [] [])
 .skip)))))))

def t_authres_formatPvalue_2:SCode :=
 (.seq
 (.seq
 (.region [sO 26 (.mv (.t 3))] [0,26] [8] [])
 (.cond (.t 26)
 (.seq
 (.region [sO 27 (.mv (.t 0)),sO 2 (.mv (.t 27))] [2] [] [[0]])
 .ret)
 .skip))
 (.seq
 (.region [sO 28 (.mv (.t 0)),sO 29 (.call 241 [(.t 28)]),sO 2 (.mv (.t 29))] [2] [] [[0],[28]])
 .ret))

def c_authres_formatPvalue:SFn:=⟨1,
 (.seq
 (.region [sO 2 (.mv (.k (.str [])))] [0] [] [])
 (.seq
 (.region [sO 3 (.mv (.k (.bool true)))] [0,3] [] [])
 (.seq
 (.seq
 (.region [sO 7 (.mv (.t 0)),sO 8 (.rangeS (.t 7))] [0,3,8] [] [])
 (.block 0
 (.loop [0,3,8]
 b_authres_formatPvalue_1)))
 t_authres_formatPvalue_2))),
 [.t 2]⟩

def l_authres_formatPvalue:Lay:={ rg:=[(0,([0],[])),(1,([0,3],[])),(2,([0,3,8],[])),(3,([0,3,8,9,10],[])),(4,([0,3,5,8],[])),(5,([0,3,5,6,8],[])),(6,([0,3,8,25],[])),(7,([0,3,8],[])),(8,([0,26],[8])),(9,([2],[])),(10,([2],[])),(1000003,([0,3,8],[]))],dd:=[(4,[[9]]),(5,[[],[12]]),(6,[[],[14],[15],[16],[5],[18],[19],[17,20],[21],[6],[23]]),(9,[[0]]),(10,[[0],[28]])] }

def c_authres_tspecial:SFn:=⟨1,
 (.seq
 (.region [sO 2 (.mv (.k (.bool false)))] [0] [] [])
 (.seq
 (.seq
 (.region [sO 3 (.mv (.t 0))] [3] [] [])
 (.block 0
 (.seq
 (.seq
 (.region [sO 5 (.bin .eql (.t 3) (.k (.int .i32 40))),sO 4 (.mv (.t 5))] [3,4] [] [])
 (.cond (.t 4)
 .skip
 (.seq
 (.region [sO 6 (.bin .eql (.t 3) (.k (.int .i32 41))),sO 4 (.mv (.t 6))] [3,4] [] [])
 (.cond (.t 4)
 .skip
 (.seq
 (.region [sO 7 (.bin .eql (.t 3) (.k (.int .i32 60))),sO 4 (.mv (.t 7))] [3,4] [] [])
 (.cond (.t 4)
 .skip
 (.seq
 (.region [sO 8 (.bin .eql (.t 3) (.k (.int .i32 62))),sO 4 (.mv (.t 8))] [3,4] [] [])
 (.cond (.t 4)
 .skip
 (.seq
 (.region [sO 9 (.bin .eql (.t 3) (.k (.int .i32 64))),sO 4 (.mv (.t 9))] [3,4] [] [])
 (.cond (.t 4)
 .skip
 (.seq
 (.region [sO 10 (.bin .eql (.t 3) (.k (.int .i32 44))),sO 4 (.mv (.t 10))] [3,4] [] [])
 (.cond (.t 4)
 .skip
 (.seq
 (.region [sO 11 (.bin .eql (.t 3) (.k (.int .i32 59))),sO 4 (.mv (.t 11))] [3,4] [] [])
 (.cond (.t 4)
 .skip
 (.seq
 (.region [sO 12 (.bin .eql (.t 3) (.k (.int .i32 58))),sO 4 (.mv (.t 12))] [3,4] [] [])
 (.cond (.t 4)
 .skip
 (.seq
 (.region [sO 13 (.bin .eql (.t 3) (.k (.int .i32 92))),sO 4 (.mv (.t 13))] [3,4] [] [])
 (.cond (.t 4)
 .skip
 (.seq
 (.region [sO 14 (.bin .eql (.t 3) (.k (.int .i32 34))),sO 4 (.mv (.t 14))] [3,4] [] [])
 (.cond (.t 4)
 .skip
 (.seq
 (.region [sO 15 (.bin .eql (.t 3) (.k (.int .i32 47))),sO 4 (.mv (.t 15))] [3,4] [] [])
 (.cond (.t 4)
 .skip
 (.seq
 (.region [sO 16 (.bin .eql (.t 3) (.k (.int .i32 91))),sO 4 (.mv (.t 16))] [3,4] [] [])
 (.cond (.t 4)
 .skip
 (.seq
 (.region [sO 17 (.bin .eql (.t 3) (.k (.int .i32 93))),sO 4 (.mv (.t 17))] [3,4] [] [])
 (.cond (.t 4)
 .skip
 (.seq
 (.region [sO 18 (.bin .eql (.t 3) (.k (.int .i32 63))),sO 4 (.mv (.t 18))] [3,4] [] [])
 (.cond (.t 4)
 .skip
 (.region [sO 19 (.bin .eql (.t 3) (.k (.int .i32 61))),sO 4 (.mv (.t 19))] [4] [] [[3]])))))))))))))))))))))))))))))
 (.cond (.t 4)
 (.seq
 (.region [sO 2 (.mv (.k (.bool true)))] [2] [] [])
 .ret)
 .skip))))
 (.seq
 (.region [sO 2 (.mv (.k (.bool false)))] [2] [] [])
 .ret))),
 [.t 2]⟩

def l_authres_tspecial:Lay:={ rg:=[(0,([0],[])),(1,([3],[])),(2,([3,4],[])),(3,([3,4],[])),(4,([3,4],[])),(5,([3,4],[])),(6,([3,4],[])),(7,([3,4],[])),(8,([3,4],[])),(9,([3,4],[])),(10,([3,4],[])),(11,([3,4],[])),(12,([3,4],[])),(13,([3,4],[])),(14,([3,4],[])),(15,([3,4],[])),(16,([4],[])),(17,([2],[])),(18,([2],[]))],dd:=[(16,[[3]])] }

def c_authres_addressOk:SFn:=⟨1,
 (.seq
 (.region [sO 2 (.mv (.k (.bool false)))] [0] [] [])
 (.seq
 (.seq
 (.region [sO 3 (.mv (.t 0))] [3] [] [])
 (.block 0
 (.seq
 (.seq
 (.region [sO 5 (.bin .eql (.t 3) (.k (.int .i32 35))),sO 4 (.mv (.t 5))] [3,4] [] [])
 (.cond (.t 4)
 .skip
 (.seq
 (.region [sO 6 (.bin .eql (.t 3) (.k (.int .i32 36))),sO 4 (.mv (.t 6))] [3,4] [] [])
 (.cond (.t 4)
 .skip
 (.seq
 (.region [sO 7 (.bin .eql (.t 3) (.k (.int .i32 37))),sO 4 (.mv (.t 7))] [3,4] [] [])
 (.cond (.t 4)
 .skip
 (.seq
 (.region [sO 8 (.bin .eql (.t 3) (.k (.int .i32 38))),sO 4 (.mv (.t 8))] [3,4] [] [])
 (.cond (.t 4)
 .skip
 (.seq
 (.region [sO 9 (.bin .eql (.t 3) (.k (.int .i32 39))),sO 4 (.mv (.t 9))] [3,4] [] [])
 (.cond (.t 4)
 .skip
 (.seq
 (.region [sO 10 (.bin .eql (.t 3) (.k (.int .i32 42))),sO 4 (.mv (.t 10))] [3,4] [] [])
 (.cond (.t 4)
 .skip
 (.seq
 (.region [sO 11 (.bin .eql (.t 3) (.k (.int .i32 43))),sO 4 (.mv (.t 11))] [3,4] [] [])
 (.cond (.t 4)
 .skip
 (.seq
 (.region [sO 12 (.bin .eql (.t 3) (.k (.int .i32 44))),sO 4 (.mv (.t 12))] [3,4] [] [])
 (.cond (.t 4)
 .skip
 (.seq
 (.region [sO 13 (.bin .eql (.t 3) (.k (.int .i32 46))),sO 4 (.mv (.t 13))] [3,4] [] [])
 (.cond (.t 4)
 .skip
 (.seq
 (.region [sO 14 (.bin .eql (.t 3) (.k (.int .i32 47))),sO 4 (.mv (.t 14))] [3,4] [] [])
 (.cond (.t 4)
 .skip
 (.seq
 (.region [sO 15 (.bin .eql (.t 3) (.k (.int .i32 45))),sO 4 (.mv (.t 15))] [3,4] [] [])
 (.cond (.t 4)
 .skip
 (.seq
 (.region [sO 16 (.bin .eql (.t 3) (.k (.int .i32 64))),sO 4 (.mv (.t 16))] [3,4] [] [])
 (.cond (.t 4)
 .skip
 (.seq
 (.region [sO 17 (.bin .eql (.t 3) (.k (.int .i32 91))),sO 4 (.mv (.t 17))] [3,4] [] [])
 (.cond (.t 4)
 .skip
 (.seq
 (.region [sO 18 (.bin .eql (.t 3) (.k (.int .i32 93))),sO 4 (.mv (.t 18))] [3,4] [] [])
 (.cond (.t 4)
 .skip
 (.seq
 (.region [sO 19 (.bin .eql (.t 3) (.k (.int .i32 92))),sO 4 (.mv (.t 19))] [3,4] [] [])
 (.cond (.t 4)
 .skip
 (.seq
 (.region [sO 20 (.bin .eql (.t 3) (.k (.int .i32 94))),sO 4 (.mv (.t 20))] [3,4] [] [])
 (.cond (.t 4)
 .skip
 (.seq
 (.region [sO 21 (.bin .eql (.t 3) (.k (.int .i32 95))),sO 4 (.mv (.t 21))] [3,4] [] [])
 (.cond (.t 4)
 .skip
 (.seq
 (.region [sO 22 (.bin .eql (.t 3) (.k (.int .i32 96))),sO 4 (.mv (.t 22))] [3,4] [] [])
 (.cond (.t 4)
 .skip
 (.seq
 (.region [sO 23 (.bin .eql (.t 3) (.k (.int .i32 123))),sO 4 (.mv (.t 23))] [3,4] [] [])
 (.cond (.t 4)
 .skip
 (.seq
 (.region [sO 24 (.bin .eql (.t 3) (.k (.int .i32 124))),sO 4 (.mv (.t 24))] [3,4] [] [])
 (.cond (.t 4)
 .skip
 (.seq
 (.region [sO 25 (.bin .eql (.t 3) (.k (.int .i32 125))),sO 4 (.mv (.t 25))] [3,4] [] [])
 (.cond (.t 4)
 .skip
 (.region [sO 26 (.bin .eql (.t 3) (.k (.int .i32 126))),sO 4 (.mv (.t 26))] [4] [] [[3]])))))))))))))))))))))))))))))))))))))))))))
 (.cond (.t 4)
 (.seq
 (.region [sO 2 (.mv (.k (.bool true)))] [2] [] [])
 .ret)
 .skip))))
 (.seq
 (.region [sO 2 (.mv (.k (.bool false)))] [2] [] [])
 .ret))),
 [.t 2]⟩

def l_authres_addressOk:Lay:={ rg:=[(0,([0],[])),(1,([3],[])),(2,([3,4],[])),(3,([3,4],[])),(4,([3,4],[])),(5,([3,4],[])),(6,([3,4],[])),(7,([3,4],[])),(8,([3,4],[])),(9,([3,4],[])),(10,([3,4],[])),(11,([3,4],[])),(12,([3,4],[])),(13,([3,4],[])),(14,([3,4],[])),(15,([3,4],[])),(16,([3,4],[])),(17,([3,4],[])),(18,([3,4],[])),(19,([3,4],[])),(20,([3,4],[])),(21,([3,4],[])),(22,([3,4],[])),(23,([4],[])),(24,([2],[])),(25,([2],[]))],dd:=[(23,[[3]])] }

def c_authres_zzIsLetter:SFn:=⟨1,
 (.seq
 (.region [sO 2 (.mv (.k (.bool false)))] [0] [] [])
 (.seq
 (.block 0
 (.seq
 (.seq
 (.region [sO 4 (.mv (.t 0)),sO 5 (.bin .leq (.k (.int .i32 97)) (.t 4)),sO 6 (.mv (.t 5)),sG 7 (.mv (.t 0)) 6 true,sG 8 (.bin .leq (.t 7) (.k (.int .i32 122))) 6 true,sO 9 (.pick (.t 6) (.t 8) (.k (.bool false))),sO 3 (.mv (.t 9))] [0,3] [] [[],[4],[5],[],[7],[6,8]])
 (.cond (.t 3)
 .skip
 (.seq
 (.region [sO 10 (.mv (.t 0)),sO 11 (.bin .leq (.k (.int .i32 65)) (.t 10)),sO 12 (.mv (.t 11)),sG 13 (.mv (.t 0)) 12 true,sG 14 (.bin .leq (.t 13) (.k (.int .i32 90))) 12 true,sO 15 (.pick (.t 12) (.t 14) (.k (.bool false))),sO 3 (.mv (.t 15))] [0,3] [] [[],[10],[11],[],[13],[12,14]])
 (.cond (.t 3)
 .skip
 (.seq
 (.region [sO 16 (.mv (.t 0)),sO 17 (.bin .eql (.t 16) (.k (.int .i32 170))),sO 3 (.mv (.t 17))] [0,3] [] [[],[16]])
 (.cond (.t 3)
 .skip
 (.seq
 (.region [sO 18 (.mv (.t 0)),sO 19 (.bin .eql (.t 18) (.k (.int .i32 181))),sO 3 (.mv (.t 19))] [0,3] [] [[],[18]])
 (.cond (.t 3)
 .skip
 (.seq
 (.region [sO 20 (.mv (.t 0)),sO 21 (.bin .eql (.t 20) (.k (.int .i32 186))),sO 3 (.mv (.t 21))] [0,3] [] [[],[20]])
 (.cond (.t 3)
 .skip
 (.region [sO 22 (.mv (.t 0)),sO 23 (.bin .geq (.t 22) (.k (.int .i32 192))),sO 24 (.mv (.t 23)),sG 25 (.mv (.t 0)) 24 true,sG 26 (.bin .leq (.t 25) (.k (.int .i32 255))) 24 true,sO 27 (.pick (.t 24) (.t 26) (.k (.bool false))),sO 28 (.mv (.t 27)),sG 29 (.mv (.t 0)) 28 true,sG 30 (.bin .neq (.t 29) (.k (.int .i32 215))) 28 true,sO 31 (.pick (.t 28) (.t 30) (.k (.bool false))),sO 32 (.mv (.t 31)),sG 33 (.mv (.t 0)) 32 true,sG 34 (.bin .neq (.t 33) (.k (.int .i32 247))) 32 true,sO 35 (.pick (.t 32) (.t 34) (.k (.bool false))),sO 3 (.mv (.t 35))] [3] [] [[],[22],[23],[],[25],[24,26],[27],[],[29],[28,30],[31],[0],[33],[32,34]])))))))))))
 (.cond (.t 3)
 (.seq
 (.region [sO 2 (.mv (.k (.bool true)))] [2] [] [])
 .ret)
 .skip)))
 (.seq
 (.region [sO 2 (.mv (.k (.bool false)))] [2] [] [])
 .ret))),
 [.t 2]⟩

def l_authres_zzIsLetter:Lay:={ rg:=[(0,([0],[])),(1,([0,3],[])),(2,([0,3],[])),(3,([0,3],[])),(4,([0,3],[])),(5,([0,3],[])),(6,([3],[])),(7,([2],[])),(8,([2],[]))],dd:=[(1,[[],[4],[5],[],[7],[6,8]]),(2,[[],[10],[11],[],[13],[12,14]]),(3,[[],[16]]),(4,[[],[18]]),(5,[[],[20]]),(6,[[],[22],[23],[],[25],[24,26],[27],[],[29],[28,30],[31],[0],[33],[32,34]])] }

def c_authres_zzIsDigit:SFn:=⟨1,
 (.seq
 (.region [sO 2 (.mv (.k (.bool false)))] [0] [] [])
 (.seq
 (.region [sO 3 (.mv (.t 0)),sO 4 (.bin .leq (.k (.int .i32 48)) (.t 3)),sO 5 (.mv (.t 4)),sG 6 (.mv (.t 0)) 5 true,sG 7 (.bin .leq (.t 6) (.k (.int .i32 57))) 5 true,sO 8 (.pick (.t 5) (.t 7) (.k (.bool false))),sO 2 (.mv (.t 8))] [2] [] [[],[3],[4],[0],[6],[5,7]])
 .ret)),
 [.t 2]⟩

def l_authres_zzIsDigit:Lay:={ rg:=[(0,([0],[])),(1,([2],[]))],dd:=[(1,[[],[3],[4],[0],[6],[5,7]])] }

def c_authres_zzQuotes:SFn:=⟨1,
 (.seq
 (.region [sO 2 (.mv (.k (.str [])))] [0] [] [])
 (.seq
 (.region [sO 3 (.mv (.k .nilS))] [0,3] [] [])
 (.seq
 (.seq
 (.region [sO 4 (.mv (.k (.int .i64 0)))] [0,3,4] [] [])
 (.block 0
 (.loop [0,3,4]
 (.seq
 (.seq
 (.region [sO 5 (.mv (.t 4)),sO 6 (.mv (.t 0)),sO 7 (.len 0 (.t 6)),sO 8 (.bin .lss (.t 5) (.t 7))] [0,3,4,8] [] [[],[],[6]])
 (.cond (.t 8)
 .skip
 (.exit 0)))
 (.seq
 (.block 1
 (.seq
 (.seq
 (.region [sO 11 (.mv (.t 0)),sO 12 (.mv (.t 4)),sO 13 (.iStr (.t 11) (.t 12)),sO 14 (.bin .eql (.t 13) (.k (.int .u8 34)))] [0,3,4,14] [] [[],[],[11,12]])
 (.cond (.t 14)
 (.region [sO 15 (.mv (.t 3)),sO 16 (.mkSl 1 1 [(.int .u8 0)] [(0,(.k (.int .u8 92)))]),sO 17 (.app 1 1 (.t 15) (.t 16)),sO 3 (.mv (.t 17))] [0,3,4] [16] [[],[],[15,16]])
 .skip))
 (.region [sO 18 (.mv (.t 3)),sO 19 (.mv (.t 0)),sO 20 (.mv (.t 4)),sO 21 (.iStr (.t 19) (.t 20)),sO 22 (.mkSl 1 1 [(.int .u8 0)] [(0,(.t 21))]),sO 23 (.app 1 1 (.t 18) (.t 22)),sO 3 (.mv (.t 23))] [0,3,4] [22] [[],[],[],[19,20],[21],[18,22]])))
 (.region [sO 9 (.mv (.t 4)),sO 10 (.bin .add (.t 9) (.k (.int .i64 1))),sO 4 (.mv (.t 10))] [0,3,4] [] [[],[9]]))))))
 (.seq
 (.region [sO 24 (.mv (.t 3)),sO 25 (.cBytesStr (.t 24)),sO 2 (.mv (.t 25))] [2] [17,23] [[3],[24]])
 .ret)))),
 [.t 2]⟩

def l_authres_zzQuotes:Lay:={ rg:=[(0,([0],[])),(1,([0,3],[])),(2,([0,3,4],[])),(3,([0,3,4,8],[])),(4,([0,3,4],[])),(5,([0,3,4,14],[])),(6,([0,3,4],[16])),(7,([0,3,4],[22])),(8,([2],[17,23])),(1000003,([0,3,4],[]))],dd:=[(3,[[],[],[6]]),(4,[[],[9]]),(5,[[],[],[11,12]]),(6,[[],[],[15,16]]),(7,[[],[],[],[19,20],[21],[18,22]]),(8,[[3],[24]])] }

def b_laws_FnAuthFormats_1:SCode :=
 (.seq
 (.region [sO 57 (.bin .lss (.t 56) (.t 55))] [1,5,55,56,57] [] [])
 (.seq
 (.cond (.t 57)
 .skip
 (.exit 0))
 (.seq
 (.block 1
 (.seq
 (.region [sO 58 (.mv (.t 56)),sO 7 (.mv (.t 58))] [1,5,7,55,56] [] [])
 (.seq
 (.region [sO 59 (.fAddr 2 (.t 5)),sO 60 (.load none (.t 59)),sO 61 (.mv (.t 7)),sO 62 (.iAddr 5 (.t 60) (.t 61)),sO 63 (.load (some 5) (.t 62)),sO 64 (.mv (.t 1)),sO 65 (.mv (.t 7)),sO 66 (.iAddr 16 (.t 64) (.t 65)),sO 67 (.load (some 16) (.t 66)),sO 68 (.call 249 [(.t 63),(.t 67)]),sO 69 (.un .not (.t 68))] [1,5,55,56,69] [] [])
 (.cond (.t 69)
 (.seq
 (.region [sO 4 (.mv (.k (.bool false)))] [4] [5] [])
 .ret)
 .skip))))
 (.region [sO 70 (.bin .add (.t 56) (.k (.int .i64 1))),sO 56 (.mv (.t 70))] [1,5,55,56] [] []))))

def t_laws_FnAuthFormats_2:SCode :=
 (.seq
 (.region [sO 71 (.call 137 []),sO 4 (.mv (.t 71))] [4] [5] [])
 .ret)

def c_laws_FnAuthFormats:SFn:=⟨2,
 (.seq
 (.region [sO 4 (.mv (.k (.bool false)))] [0,1] [] [])
 (.seq
 (.seq
 (.region [sO 8 (.mv (.t 0)),sO 9 (.len 0 (.t 8)),sO 10 (.bin .gtr (.t 9) (.k (.int .i64 2147483647))),sO 11 (.mv (.t 10)),sG 12 (.mv (.t 1)) 11 false,sG 13 (.call 213 [(.t 12)]) 11 false,sG 14 (.un .not (.t 13)) 11 false,sO 15 (.pick (.t 11) (.k (.bool true)) (.t 14))] [0,1,15] [] [[],[8],[9],[10],[],[12],[13]])
 (.cond (.t 15)
 (.seq
 (.region [sO 4 (.mv (.k (.bool true)))] [4] [] [])
 .ret)
 .skip))
 (.seq
 (.region [sO 16 (.mv (.t 1)),sO 17 (.call 214 [(.t 16)]),sO 1 (.mv (.t 17))] [0,1] [] [[],[16]])
 (.seq
 (.seq
 (.region [sO 18 (.mv (.t 0)),sO 19 (.call 204 [(.t 18)]),sO 20 (.un .not (.t 19)),sO 21 (.mv (.t 20)),sG 22 (.mv (.t 1)) 21 false,sG 23 (.call 215 [(.t 22)]) 21 false,sG 24 (.un .not (.t 23)) 21 false,sO 25 (.pick (.t 21) (.k (.bool true)) (.t 24)),sO 26 (.mv (.t 25)),sG 27 (.mv (.t 1)) 26 false,sG 28 (.call 248 [(.t 27)]) 26 false,sG 29 (.un .not (.t 28)) 26 false,sO 30 (.pick (.t 26) (.k (.bool true)) (.t 29))] [0,1,30] [] [[],[18],[19],[20],[],[22],[23],[21,24],[25],[],[27],[28]])
 (.cond (.t 30)
 (.seq
 (.region [sO 4 (.mv (.k (.bool true)))] [4] [] [])
 .ret)
 .skip))
 (.seq
 (.region [sO 32 (.mv (.t 0)),sO 33 (.mv (.t 1)),sO 34 (.call 233 [(.t 32),(.t 33)]),sO 35 (.call 234 [(.t 34)]),sO 31 (.mv (.t 35)),sO 36 (.extr (.t 31) 0),sO 37 (.extr (.t 31) 1),sO 5 (.alloc [(.str []),(.str []),.nilS]),sN (.store 3 (.t 5) (.t 36)),sO 6 (.mv (.t 37))] [0,1,5,6] [] [[],[],[32,33],[34],[35],[],[31],[],[36]])
 (.seq
 (.seq
 (.region [sO 38 (.mv (.t 6)),sO 39 (.un .not (.t 38)),sO 40 (.mv (.t 39)),sG 41 (.fAddr 0 (.t 5)) 40 false,sG 42 (.load none (.t 41)) 40 false,sG 43 (.mv (.t 0)) 40 false,sG 44 (.bin .neq (.t 42) (.t 43)) 40 false,sO 45 (.pick (.t 40) (.k (.bool true)) (.t 44)),sO 46 (.mv (.t 45)),sG 47 (.fAddr 2 (.t 5)) 46 false,sG 48 (.load none (.t 47)) 46 false,sG 49 (.len 1 (.t 48)) 46 false,sG 50 (.mv (.t 1)) 46 false,sG 51 (.len 1 (.t 50)) 46 false,sG 52 (.bin .neq (.t 49) (.t 51)) 46 false,sO 53 (.pick (.t 46) (.k (.bool true)) (.t 52))] [1,5,53] [] [[6],[38],[39],[],[41],[0],[42,43],[40,44],[45],[],[47],[48],[],[50],[49,51]])
 (.cond (.t 53)
 (.seq
 (.region [sO 4 (.mv (.k (.bool false)))] [4] [5] [])
 .ret)
 .skip))
 (.seq
 (.seq
 (.region [sO 54 (.mv (.t 1)),sO 55 (.len 1 (.t 54)),sO 56 (.mv (.k (.int .i64 0)))] [1,5,55,56] [] [[],[54]])
 (.block 0
 (.loop [1,5,55,56]
 b_laws_FnAuthFormats_1)))
 t_laws_FnAuthFormats_2))))))),
 [.t 4]⟩

def l_laws_FnAuthFormats:Lay:={ rg:=[(0,([0,1],[])),(1,([0,1,15],[])),(2,([4],[])),(3,([0,1],[])),(4,([0,1,30],[])),(5,([4],[])),(6,([0,1,5,6],[])),(7,([1,5,53],[])),(8,([4],[5])),(9,([1,5,55,56],[])),(10,([1,5,55,56,57],[])),(11,([1,5,7,55,56],[])),(12,([1,5,55,56,69],[])),(13,([4],[5])),(14,([1,5,55,56],[])),(15,([4],[5])),(1000010,([1,5,55,56],[]))],dd:=[(1,[[],[8],[9],[10],[],[12],[13]]),(3,[[],[16]]),(4,[[],[18],[19],[20],[],[22],[23],[21,24],[25],[],[27],[28]]),(6,[[],[],[32,33],[34],[35],[],[31],[],[36]]),(7,[[6],[38],[39],[],[41],[0],[42,43],[40,44],[45],[],[47],[48],[],[50],[49,51]]),(9,[[],[54]])] }

def b_spec_AAgree_1:SCode :=
 (.seq
 (.region [sO 53 (.bin .lss (.t 52) (.t 51))] [2,7,8,43,44,45,50,51,52,53] [] [])
 (.seq
 (.cond (.t 53)
 .skip
 (.exit 2))
 (.seq
 (.block 3
 (.seq
 (.region [sO 54 (.iAddr 3 (.t 50) (.t 52)),sO 55 (.load (some 3) (.t 54)),sO 10 (.alloc [(.str []),(.str []),(.str [])]),sN (.store 3 (.t 10) (.t 55))] [2,7,8,10,43,44,45,50,51,52] [] [[],[54]])
 (.seq
 (.region [sO 56 (.load (some 3) (.t 7)),sO 57 (.load (some 3) (.t 10)),sO 58 (.eqA false [2,2,2] (.t 56) (.t 57))] [2,7,8,43,44,45,50,51,52,58] [10] [[],[10]])
 (.cond (.t 58)
 (.region [sO 59 (.mv (.t 8)),sO 60 (.bin .add (.t 59) (.k (.int .i64 1))),sO 8 (.mv (.t 60))] [2,7,8,43,44,45,50,51,52] [] [[],[59]])
 .skip))))
 (.region [sO 61 (.bin .add (.t 52) (.k (.int .i64 1))),sO 52 (.mv (.t 61))] [2,7,8,43,44,45,50,51,52] [] []))))

def t_spec_AAgree_2:SCode :=
 (.seq
 (.region [sO 62 (.mv (.t 8)),sO 63 (.bin .neq (.t 62) (.k (.int .i64 1)))] [2,43,44,45,63] [7] [[8]])
 (.cond (.t 63)
 (.seq
 (.region [sO 4 (.mv (.k (.bool false)))] [4] [2] [])
 .ret)
 .skip))

def t_spec_AAgree_3:SCode :=
 (.region [sO 64 (.bin .add (.t 45) (.k (.int .i64 1))),sO 45 (.mv (.t 64))] [2,43,44,45] [] [])

def b_spec_AAgree_4:SCode :=
 (.seq
 (.region [sO 46 (.bin .lss (.t 45) (.t 44))] [2,43,44,45,46] [] [])
 (.seq
 (.cond (.t 46)
 .skip
 (.exit 0))
 (.seq
 (.block 1
 (.seq
 (.region [sO 47 (.iAddr 3 (.t 43) (.t 45)),sO 48 (.load (some 3) (.t 47)),sO 7 (.alloc [(.str []),(.str []),(.str [])]),sN (.store 3 (.t 7) (.t 48))] [2,7,43,44,45] [] [[],[47]])
 (.seq
 (.region [sO 8 (.mv (.k (.int .i64 0)))] [2,7,8,43,44,45] [] [])
 (.seq
 (.seq
 (.region [sO 49 (.fAddr 4 (.t 2)),sO 50 (.load none (.t 49)),sO 51 (.len 1 (.t 50)),sO 52 (.mv (.k (.int .i64 0)))] [2,7,8,43,44,45,50,51,52] [] [[],[49]])
 (.block 2
 (.loop [2,7,8,43,44,45,50,51,52]
 b_spec_AAgree_1)))
 t_spec_AAgree_2))))
 t_spec_AAgree_3)))

def t_spec_AAgree_5:SCode :=
 (.seq
 (.region [sO 4 (.mv (.k (.bool true)))] [4] [2] [])
 .ret)

def c_spec_AAgree:SFn:=⟨2,
 (.seq
 (.region [sO 2 (.box (.t 0)),sO 3 (.box (.t 1)),sO 4 (.mv (.k (.bool false)))] [2,3] [] [[0],[1]])
 (.seq
 (.region [sO 11 (.load (some 16) (.t 3)),sO 12 (.call 206 [(.t 11)]),sO 5 (.alloc [(.str []),(.str []),(.str []),(.str []),.nilS]),sN (.store 5 (.t 5) (.t 12))] [2,5] [3] [[3],[11]])
 (.seq
 (.seq
 (.region [sO 13 (.fAddr 0 (.t 2)),sO 14 (.load none (.t 13)),sO 15 (.call 112 [(.t 14)]),sO 16 (.fAddr 0 (.t 5)),sO 17 (.load none (.t 16)),sO 18 (.bin .neq (.t 15) (.t 17)),sO 19 (.mv (.t 18)),sG 20 (.fAddr 2 (.t 2)) 19 false,sG 21 (.load none (.t 20)) 19 false,sG 22 (.fAddr 2 (.t 5)) 19 false,sG 23 (.load none (.t 22)) 19 false,sG 24 (.bin .neq (.t 21) (.t 23)) 19 false,sO 25 (.pick (.t 19) (.k (.bool true)) (.t 24)),sO 26 (.mv (.t 25)),sG 27 (.fAddr 3 (.t 2)) 26 false,sG 28 (.load none (.t 27)) 26 false,sG 29 (.fAddr 3 (.t 5)) 26 false,sG 30 (.load none (.t 29)) 26 false,sG 31 (.bin .neq (.t 28) (.t 30)) 26 false,sO 32 (.pick (.t 26) (.k (.bool true)) (.t 31)),sO 33 (.mv (.t 32)),sG 34 (.fAddr 4 (.t 2)) 33 false,sG 35 (.load none (.t 34)) 33 false,sG 36 (.len 1 (.t 35)) 33 false,sG 37 (.fAddr 4 (.t 5)) 33 false,sG 38 (.load none (.t 37)) 33 false,sG 39 (.len 1 (.t 38)) 33 false,sG 40 (.bin .neq (.t 36) (.t 39)) 33 false,sO 41 (.pick (.t 33) (.k (.bool true)) (.t 40))] [2,5,41] [] [])
 (.cond (.t 41)
 (.seq
 (.region [sO 4 (.mv (.k (.bool false)))] [4] [2,5] [])
 .ret)
 .skip))
 (.seq
 (.seq
 (.region [sO 42 (.fAddr 4 (.t 5)),sO 43 (.load none (.t 42)),sO 44 (.len 1 (.t 43)),sO 45 (.mv (.k (.int .i64 0)))] [2,43,44,45] [5] [[5],[42]])
 (.block 0
 (.loop [2,43,44,45]
 b_spec_AAgree_4)))
 t_spec_AAgree_5)))),
 [.t 4]⟩

def l_spec_AAgree:Lay:={ rg:=[(0,([2,3],[])),(1,([2,5],[3])),(2,([2,5,41],[])),(3,([4],[2,5])),(4,([2,43,44,45],[5])),(5,([2,43,44,45,46],[])),(6,([2,7,43,44,45],[])),(7,([2,7,8,43,44,45],[])),(8,([2,7,8,43,44,45,50,51,52],[])),(9,([2,7,8,43,44,45,50,51,52,53],[])),(10,([2,7,8,10,43,44,45,50,51,52],[])),(11,([2,7,8,43,44,45,50,51,52,58],[10])),(12,([2,7,8,43,44,45,50,51,52],[])),(13,([2,7,8,43,44,45,50,51,52],[])),(14,([2,43,44,45,63],[7])),(15,([4],[2])),(16,([2,43,44,45],[])),(17,([4],[2])),(1000005,([2,43,44,45],[])),(1000009,([2,7,8,43,44,45,50,51,52],[]))],dd:=[(0,[[0],[1]]),(1,[[3],[11]]),(4,[[5],[42]]),(6,[[],[47]]),(8,[[],[49]]),(10,[[],[54]]),(11,[[],[10]]),(12,[[],[59]]),(14,[[8]])] }

def b_spec_AMute_1:SCode :=
 (.seq
 (.seq
 (.region [sO 30 (.mv (.t 7)),sO 31 (.fAddr 2 (.t 6)),sO 32 (.load none (.t 31)),sO 33 (.len 0 (.t 32)),sO 34 (.bin .lss (.t 30) (.t 33))] [6,7,8,9,10,24,25,26,34] [] [[],[],[31],[32]])
 (.cond (.t 34)
 .skip
 (.exit 4)))
 (.seq
 (.block 5
 (.seq
 (.region [sO 37 (.fAddr 2 (.t 6)),sO 38 (.load none (.t 37)),sO 39 (.mv (.t 7)),sO 40 (.iStr (.t 38) (.t 39)),sO 41 (.bin .eql (.t 40) (.k (.int .u8 33)))] [6,7,8,9,10,24,25,26,41] [] [[],[37],[],[38,39]])
 (.cond (.t 41)
 (.seq
 (.region [sO 2 (.mv (.k (.bool false)))] [2] [6] [])
 .ret)
 .skip)))
 (.region [sO 35 (.mv (.t 7)),sO 36 (.bin .add (.t 35) (.k (.int .i64 1))),sO 7 (.mv (.t 36))] [6,7,8,9,10,24,25,26] [] [[],[35]])))

def t_spec_AMute_2:SCode :=
 (.region [sO 42 (.bin .add (.t 26) (.k (.int .i64 1))),sO 26 (.mv (.t 42))] [8,9,10,24,25,26] [6] [])

def b_spec_AMute_3:SCode :=
 (.seq
 (.region [sO 27 (.bin .lss (.t 26) (.t 25))] [8,9,10,24,25,26,27] [] [])
 (.seq
 (.cond (.t 27)
 .skip
 (.exit 2))
 (.seq
 (.block 3
 (.seq
 (.region [sO 28 (.iAddr 3 (.t 24) (.t 26)),sO 29 (.load (some 3) (.t 28)),sO 6 (.alloc [(.str []),(.str []),(.str [])]),sN (.store 3 (.t 6) (.t 29))] [6,8,9,10,24,25,26] [] [[],[28]])
 (.seq
 (.region [sO 7 (.mv (.k (.int .i64 0)))] [6,7,8,9,10,24,25,26] [] [])
 (.block 4
 (.loop [6,7,8,9,10,24,25,26]
 b_spec_AMute_1)))))
 t_spec_AMute_2)))

def t_spec_AMute_4:SCode :=
 (.region [sO 43 (.bin .add (.t 10) (.k (.int .i64 1))),sO 10 (.mv (.t 43))] [8,9,10] [] [])

def b_spec_AMute_5:SCode :=
 (.seq
 (.region [sO 11 (.bin .lss (.t 10) (.t 9))] [8,9,10,11] [] [])
 (.seq
 (.cond (.t 11)
 .skip
 (.exit 0))
 (.seq
 (.block 1
 (.seq
 (.region [sO 12 (.iAddr 16 (.t 8) (.t 10)),sO 13 (.load (some 16) (.t 12)),sO 4 (.alloc [(.int .i64 0),(.str []),(.str []),(.str []),(.str []),(.str []),(.str []),(.str []),(.str []),(.str []),(.str []),(.str []),(.str []),(.str []),(.int .i64 0),.nilS]),sN (.store 16 (.t 4) (.t 13))] [4,8,9,10] [] [[],[12]])
 (.seq
 (.seq
 (.region [sO 14 (.fAddr 0 (.t 4)),sO 15 (.load none (.t 14)),sO 16 (.bin .eql (.t 15) (.k (.int .i64 1))),sO 17 (.mv (.t 16)),sG 18 (.fAddr 3 (.t 4)) 17 true,sG 19 (.load none (.t 18)) 17 true,sG 20 (.bin .neq (.t 19) (.k (.str []))) 17 true,sO 21 (.pick (.t 17) (.t 20) (.k (.bool false)))] [4,8,9,10,21] [] [[],[14],[15],[16],[],[18],[19]])
 (.cond (.t 21)
 (.seq
 (.region [sO 2 (.mv (.k (.bool false)))] [2] [4] [])
 .ret)
 .skip))
 (.seq
 (.region [sO 22 (.load (some 16) (.t 4)),sO 23 (.call 206 [(.t 22)]),sO 24 (.field 4 none (.t 23)),sO 25 (.len 1 (.t 24)),sO 26 (.mv (.k (.int .i64 0)))] [8,9,10,24,25,26] [4] [[4],[22],[23]])
 (.block 2
 (.loop [8,9,10,24,25,26]
 b_spec_AMute_3))))))
 t_spec_AMute_4)))

def t_spec_AMute_6:SCode :=
 (.seq
 (.region [sO 2 (.mv (.k (.bool true)))] [2] [] [])
 .ret)

def c_spec_AMute:SFn:=⟨1,
 (.seq
 (.region [sO 2 (.mv (.k (.bool false)))] [0] [] [])
 (.seq
 (.seq
 (.region [sO 8 (.mv (.t 0)),sO 9 (.len 1 (.t 8)),sO 10 (.mv (.k (.int .i64 0)))] [8,9,10] [] [[0]])
 (.block 0
 (.loop [8,9,10]
 b_spec_AMute_5)))
 t_spec_AMute_6)),
 [.t 2]⟩

def l_spec_AMute:Lay:={ rg:=[(0,([0],[])),(1,([8,9,10],[])),(2,([8,9,10,11],[])),(3,([4,8,9,10],[])),(4,([4,8,9,10,21],[])),(5,([2],[4])),(6,([8,9,10,24,25,26],[4])),(7,([8,9,10,24,25,26,27],[])),(8,([6,8,9,10,24,25,26],[])),(9,([6,7,8,9,10,24,25,26],[])),(10,([6,7,8,9,10,24,25,26,34],[])),(11,([6,7,8,9,10,24,25,26],[])),(12,([6,7,8,9,10,24,25,26,41],[])),(13,([2],[6])),(14,([8,9,10,24,25,26],[6])),(15,([8,9,10],[])),(16,([2],[])),(1000002,([8,9,10],[])),(1000007,([8,9,10,24,25,26],[])),(1000010,([6,7,8,9,10,24,25,26],[]))],dd:=[(1,[[0]]),(3,[[],[12]]),(4,[[],[14],[15],[16],[],[18],[19]]),(6,[[4],[22],[23]]),(8,[[],[28]]),(10,[[],[],[31],[32]]),(11,[[],[35]]),(12,[[],[37],[],[38,39]])] }

end Wax


namespace Wax
open Go (IntKind)

def c_maps_Keys:SFn:=⟨1,
 (.seq
 (.region [sO 1 (.boxF (.t 0)),sO 2 (.mv (.k .nilF))] [1] [] [[0]])
 (.seq
 (.region [sO 3 (.mkFn 55 [(.t 1)]),sO 2 (.mv (.t 3))] [2] [] [[1]])
 .ret)),
 [.t 2]⟩

def l_maps_Keys:Lay:={ rg:=[(0,([1],[])),(1,([2],[]))],dd:=[(0,[[0]]),(1,[[1]])],fz:=[1] }

end Wax


namespace Wax
open Go Go.RowKit

def gam0 (ms:List (Nat × String × Nat)):Gam:=⟨fun _ _=>none,fun t name=>(ms.find? fun m=>m.1 == t && m.2.1 == name).map (·.2.2),fun _ _ _=>none⟩

def Gam.add (Γ:Gam) (g:Nat) (c:List AV→Option AV):Gam:=⟨fun h=>if h=g then c else Γ.fn h,Γ.mth,Γ.st⟩

def Gam.addS (Γ:Gam) (g:Nat) (c:List AV→List (Nat × AObj)→Option (AV × List (Nat × AObj))):Gam:=⟨Γ.fn,Γ.mth,fun h=>if h=g then c else Γ.st h⟩

@[simp] theorem add_fn_same {Γ:Gam} {g:Nat} {c:List AV→Option AV}:(Γ.add g c).fn g=c:=by simp [Gam.add]
theorem add_fn_other {Γ:Gam} {g h:Nat} {c:List AV→Option AV} (e:h ≠ g):(Γ.add g c).fn h=Γ.fn h:=by simp [Gam.add,e]
@[simp] theorem add_mth {Γ:Gam} {g:Nat} {c:List AV→Option AV}:(Γ.add g c).mth=Γ.mth:=rfl

@[simp] theorem add_st {Γ:Gam} {g:Nat} {c:List AV→Option AV}:(Γ.add g c).st=Γ.st:=rfl
@[simp] theorem addS_fn {Γ:Gam} {g:Nat} {c}:(Γ.addS g c).fn=Γ.fn:=rfl
@[simp] theorem addS_mth {Γ:Gam} {g:Nat} {c}:(Γ.addS g c).mth=Γ.mth:=rfl
@[simp] theorem addS_st_same {Γ:Gam} {g:Nat} {c}:(Γ.addS g c).st g=c:=by simp [Gam.addS]
theorem addS_st_other {Γ:Gam} {g h:Nat} {c} (e:h ≠ g):(Γ.addS g c).st h=Γ.st h:=by simp [Gam.addS,e]

def injB (l:List (Nat × Nat)):Bool:=l.all fun p=>l.all fun q=>p.2 != q.2 || p.1 == q.1

theorem lkN_mem:∀ {l:List (Nat × Nat)} {i v:Nat},lkN l i=some v→(i,v)∈l
  | (j,u)::r,i,v,h=>by
    simp only [lkN] at h
    split at h
    · rename_i e; simp at e h; subst e; subst h; simp
    · exact List.mem_cons_of_mem _ (lkN_mem h)

theorem injB_spec {l:List (Nat × Nat)} (h:injB l=true) {i j v:Nat} (hi:lkN l i=some v) (hj:lkN l j=some v):i=j:=by
  simp only [injB,List.all_eq_true] at h
  have:=h _ (lkN_mem hi) _ (lkN_mem hj)
  simpa using this

theorem tinj {T:Tab} (h:injB T.tys=true):TInj T:=fun _ _ _ ht hu=>injB_spec h ht hu

def mthB (P:Program) (t:TypeId) (name:String) (f:FuncId):Bool :=
  match P.info? t with
  | none=>false
  | some i=>match i.methods.find? (·.name == name) with
    | none=>false
    | some m=>m.path.size == 0 && (match m.func with
      | some (g,pr)=>g == f && (match P.underlying t with
        | some (.pointer _)=>pr
        | some _ => !pr
        | none=>false)
      | none=>false)

theorem mthB_spec {P:Program} {t:TypeId} {name:String} {f:FuncId} (h:mthB P t name f=true):MthOk P t name f:=by
  intro v w
  simp only [mthB] at h
  cases hi:P.info? t with
  | none=>simp [hi] at h
  | some i =>
    simp only [hi] at h
    cases hm:i.methods.find? (·.name == name) with
    | none=>simp [hm] at h
    | some m =>
      simp only [hm,Bool.and_eq_true,beq_iff_eq] at h
      obtain ⟨hp,h⟩:=h
      cases hf:m.func with
      | none=>simp [hf] at h
      | some gp =>
        obtain ⟨g,pr⟩:=gp
        simp only [hf,Bool.and_eq_true,beq_iff_eq] at h
        obtain ⟨rfl,h⟩:=h
        have hpl:m.path.toList=[]:=by
          have:m.path.toList.length=0:=by simpa using hp
          exact List.length_eq_zero_iff.1 this
        have hrec:∀ wr,(receiverAt t (.val v) pr wr).run P w=.ok v w:=by
          intro wr
          cases hu:P.underlying t with
          | none=>simp [hu] at h
          | some d =>
            simp only [hu] at h
            simp only [receiverAt,Sem.run_bind,rUnder hu,Result.andThen_ok]
            cases d <;> cases pr <;> simp at h <;> simp [Place.get]
        have e:P.types.size+Made.depth=(P.types.size+99)+1:=rfl
        rw [e]
        generalize P.types.size+99=fuel
        simp only [method,Sem.run_bind,rInfo hi,Result.andThen_ok,hm,hpl,follow,Sem.run_pure,hf,hrec]

theorem gam0_ok {P:Program} {T:Tab} {ms:List (Nat × String × Nat)} (h:∀ t g name q,lkN T.tys t=some g→(gam0 ms).mth g name=some q→∃ f,lkN T.fns f=some q∧MthOk P t name f):GamOk P T (gam0 ms) :=
  ⟨fun f g args r _ h=>by simp [gam0] at h,h,fun f g args hp q _ h=>by simp [gam0] at h⟩

def mthsB (P:Program) (T:Tab) (ms:List (Nat × String × Nat)):Bool :=
  T.tys.all fun tg=>ms.all fun m=>m.1 != tg.2 || T.fns.any fun fg=>fg.2 == m.2.2 && lkN T.fns fg.1 == some m.2.2 && mthB P tg.1 m.2.1 fg.1

theorem mthsB_spec {P:Program} {T:Tab} {ms:List (Nat × String × Nat)} (h:mthsB P T ms=true):GamOk P T (gam0 ms):=by
  refine gam0_ok ?_
  intro t g name q ht hm
  simp only [gam0,Option.map_eq_some_iff] at hm
  obtain ⟨m,hm,rfl⟩:=hm
  have h1:=List.mem_of_find?_eq_some hm
  have h2:=List.find?_some hm
  simp only [Bool.and_eq_true,beq_iff_eq] at h2
  simp only [mthsB,List.all_eq_true,List.any_eq_true] at h
  have h3:=h _ (lkN_mem ht) m h1
  simp only [Bool.or_eq_true,bne_iff_ne,ne_eq] at h3
  rcases h3 with h3 | h3
  · exact absurd h2.1 h3
  · simp only [List.any_eq_true,Bool.and_eq_true,beq_iff_eq] at h3
    obtain ⟨fg,_,⟨_,h5⟩,h6⟩:=h3
    exact ⟨fg.1,h5,by rw [← h2.2]; exact mthB_spec h6⟩

theorem GamOk.add {P:Program} {T:Tab} {Γ:Gam} (G:GamOk P T Γ) (hF:injB T.fns=true) {f g:Nat} (hf:lkN T.fns f=some g) (hb:hasBody P f=true) {c:List AV→Option AV} (h:∀ args r,c args=some r→OkCall P T f args r) :
    GamOk P T (Γ.add g c) where
  fn:=by
    intro f' g' args r hf' hc
    by_cases e:g'=g
    · subst e
      have:=injB_spec hF hf' hf; subst this
      rw [add_fn_same] at hc
      exact ⟨hb,h args r hc⟩
    · rw [add_fn_other e] at hc
      exact G.fn f' g' args r hf' hc
  mth:=G.mth
  st:=G.st

theorem GamOk.addS {P:Program} {T:Tab} {Γ:Gam} (G:GamOk P T Γ) (hF:injB T.fns=true) {f g:Nat} (hf:lkN T.fns f=some g) (hb:hasBody P f=true) {c:List AV→List (Nat × AObj)→Option (AV × List (Nat × AObj))} (h:∀ args hp q,c args hp=some q→OkS P T f args hp q.1 q.2) :
    GamOk P T (Γ.addS g c) where
  fn:=G.fn
  mth:=G.mth
  st:=by
    intro f' g' args hp q hf' hc
    by_cases e:g'=g
    · subst e
      have:=injB_spec hF hf' hf; subst this
      rw [addS_st_same] at hc
      exact ⟨hb,h args hp q hc⟩
    · rw [addS_st_other e] at hc
      exact G.st f' g' args hp q hf' hc

theorem GamOk.walk {P:Program} {T:Tab} {Γ:Gam} (G:GamOk P T Γ) (hT:injB T.tys=true) (hF:injB T.fns=true) {f g:Nat} (hf:lkN T.fns f=some g) (hb:hasBody P f=true) {L:Lay} {fn:Func} {sfn:SFn}
    (hfn:P.funcs[f]? = some fn) (hc:compFn P T L fn=some sfn) {c:List AV→Option AV} (h:∀ args r,c args=some r→runs Γ sfn args (fun v=>v=r)):GamOk P T (Γ.add g c) :=
  G.add hF hf hb fun args r hr=>fn_sound (tinj hT) G hfn hc (h args r hr)

theorem GamOk.walkS {P:Program} {T:Tab} {Γ:Gam} (G:GamOk P T Γ) (hT:injB T.tys=true) (hF:injB T.fns=true) {f g:Nat} (hf:lkN T.fns f=some g) (hb:hasBody P f=true) {L:Lay} {fn:Func} {sfn:SFn}
    (hfn:P.funcs[f]? = some fn) (hc:compFn P T L fn=some sfn) {c:List AV→List (Nat × AObj)→Option (AV × List (Nat × AObj))} (h:∀ args hp q,c args hp=some q→runsS Γ sfn args hp (fun v=>v=some q)):GamOk P T (Γ.addS g c) :=
  G.addS hF hf hb fun args hp q hr=>fnS_sound (tinj hT) G hfn hc (h args hp q hr)
end Wax


namespace Wax
open Go (IntKind)

section
theorem ite_some {α:Type} {p:Prop} [Decidable p] {a r:α} (h:(if p then some a else none)=some r):p∧a=r:=by
  by_cases e:p <;> simp [e] at h ⊢; exact h
@[simp] theorem bcA_nil:bcA []=[]:=rfl
@[simp] theorem bcA_cons {b:UInt8} {s:List UInt8}:bcA (b::s)=.int .u8 (b.toNat:Int)::bcA s:=rfl
@[simp] theorem bcA_app {s t:List UInt8}:bcA (s++t)=bcA s++bcA t:=by simp [bcA]
@[simp] theorem bcA_length {s:List UInt8}:(bcA s).length=s.length:=by simp [bcA]
@[simp] theorem bcA_get {s:List UInt8} {i:Nat}:(bcA s)[i]? = s[i]?.map fun b=>AV.int .u8 (b.toNat:Int):=by simp [bcA]
@[simp] theorem bcA_drop {s:List UInt8} {i:Nat}:(bcA s).drop i=bcA (s.drop i):=by simp [bcA,List.map_drop]
@[simp] theorem bcA_take {s:List UInt8} {i:Nat}:(bcA s).take i=bcA (s.take i):=by simp [bcA,List.map_take]
@[simp] theorem atoms_app {a b:List AV}:atoms (a++b)=(atoms a && atoms b):=by
  induction a with
  | nil=>simp
  | cons x r ih=>simp [ih,Bool.and_assoc]
@[simp] theorem atoms_bcA {s:List UInt8}:atoms (bcA s)=true:=by induction s <;> simp_all
@[simp] theorem killL_app {d:Nat} {a b:List AV}:killL d (a++b)=killL d a++killL d b:=by
  induction a with
  | nil=>simp
  | cons x r ih=>simp [ih]
@[simp] theorem killL_bcA {d:Nat} {s:List UInt8}:killL d (bcA s)=bcA s:=by induction s <;> simp_all
@[simp] theorem killL_length {d:Nat} {s:List AV}:(killL d s).length=s.length:=by induction s <;> simp_all
@[simp] theorem toBytes_bcA {s:List UInt8}:toBytes (bcA s)=some s:=by
  induction s with
  | nil=>rfl
  | cons b r ih=>simp [toBytes,ih]
@[simp] theorem loadC_drop {cs:List AV} {i:Nat}:loadC none (cs.drop i)=cs[i]?.bind fun c=>if atom c=true then some c else none:=by
  cases h:cs[i]? with
  | none =>
    have:cs.drop i=[]:=List.drop_eq_nil_of_le (by simpa using h)
    simp [this]
  | some c =>
    have hl:i < cs.length:=by
      rcases Nat.lt_or_ge i cs.length with h' | h'
      · exact h'
      · rw [List.getElem?_eq_none h'] at h; simp at h
    rw [List.drop_eq_getElem_cons hl]
    have:cs[i]=c:=by rw [List.getElem?_eq_getElem hl] at h; simpa using h
    simp [this]
@[simp] theorem spliceL_one {cs:List AV} {i:Nat} {x:AV}:spliceL cs i [x]=cs.set i x:=rfl
@[simp] theorem spliceL_nil {cs:List AV} {i:Nat}:spliceL cs i []=cs:=rfl
@[simp] theorem toBytes_nil:toBytes []=some []:=rfl
@[simp] theorem toBytes_byte {b:UInt8} {r:List AV}:toBytes (.int .u8 (b.toNat:Int)::r)=(toBytes r).map (b :: ·):=by
  simp [toBytes]
@[simp] theorem made_o2 {hp:List (Nat × AObj)} {d:Nat} {o:AObj} {v:AV}:made hp d o v=some (o2 hp d v o):=rfl
def outV (d:Nat) (out:List UInt8):AV:=match out with | []=>.nilS | _=>.msl d 1 0 out.length
def outH (d:Nat) (out:List UInt8):List (Nat × AObj):=match out with | []=>[] | _=>[(d,.cells (bcA out))]
@[simp] theorem outV_nil {d:Nat}:outV d []=.nilS:=rfl
@[simp] theorem outH_nil {d:Nat}:outH d []=[]:=rfl
theorem outV_ne {d:Nat} {out:List UInt8} (h:out ≠ []):outV d out=.msl d 1 0 out.length:=by cases out <;> first | exact absurd rfl h | rfl
theorem outH_ne {d:Nat} {out:List UInt8} (h:out ≠ []):outH d out=[(d,.cells (bcA out))]:=by cases out <;> first | exact absurd rfl h | rfl
@[simp] theorem toNat_ofNat {n:Nat}:(n:Int).toNat=n:=by simp
end
end Wax


namespace Wax
open Go (IntKind)

def big:Nat:=4611686018427387904

def isWs (n:Int):Bool:=decide (n=32∨n=9∨n=13∨n=10)

def cutAt (c:Int):List UInt8→Option (List UInt8 × List UInt8)
  | []=>none
  | x::r=>if (x.toNat:Int)=c then some ([],r) else (cutAt c r).map fun p=>(x::p.1,p.2)

def noB (c:Int) (s:List UInt8):Prop:=∀ x∈s,(x.toNat:Int) ≠ c

theorem cutAt_app (c:Int):∀ (pre post:List UInt8),noB c pre→cutAt c (pre++post)=(cutAt c post).map fun p=>(pre++p.1,p.2)
  | [],post,_=>by simp
  | x::r,post,h=>by
    have h1:(x.toNat:Int) ≠ c:=h x (by simp)
    have h2:noB c r:=fun y hy=>h y (by simp [hy])
    simp only [List.cons_append,cutAt,if_neg h1,cutAt_app c r post h2,Option.map_map]
    rfl

def cutV (c:Int) (s:List UInt8):AV :=
  match cutAt c s with
  | some p=>.tup [.str p.1,.str p.2,.bool true]
  | none=>.tup [.str s,.str [],.bool false]

def plainB (b:UInt8):Bool:=decide ((b.toNat:Int) < 128∧(b.toNat:Int) ≠ 11∧(b.toNat:Int) ≠ 12)
theorem plainB_true {b:UInt8} (h:(b.toNat:Int) < 128∧¬ (b.toNat:Int)=11∧¬ (b.toNat:Int)=12):plainB b=true:=decide_eq_true h
def trimL (s:List UInt8):List UInt8:=s.dropWhile fun b=>isWs b.toNat
def trimR (s:List UInt8):List UInt8:=(s.reverse.dropWhile fun b=>isWs b.toNat).reverse
def trimS (s:List UInt8):List UInt8:=trimR (trimL s)

def lowB (b:UInt8):UInt8:=if 65≤b.toNat∧b.toNat≤90 then b+32 else b

theorem lowB_toNat (b:UInt8):((lowB b).toNat:Int)=if 65≤(b.toNat:Int)∧(b.toNat:Int)≤90 then (b.toNat:Int)+32 else (b.toNat:Int):=by
  unfold lowB
  by_cases h:65≤b.toNat∧b.toNat≤90
  · rw [if_pos h,if_pos (by omega),UInt8.toNat_add]
    have:(32:UInt8).toNat=32:=rfl
    rw [this]; omega
  · rw [if_neg h,if_neg (by omega)]

def lowS (s:List UInt8):List UInt8:=s.map lowB

@[simp] theorem lowS_length {s:List UInt8}:(lowS s).length=s.length:=by simp [lowS]
@[simp] theorem lowS_nil:lowS []=[]:=rfl
@[simp] theorem lowS_app {s t:List UInt8}:lowS (s++t)=lowS s++lowS t:=by simp [lowS]
@[simp] theorem lowS_cons {b:UInt8} {s:List UInt8}:lowS (b::s)=lowB b::lowS s:=rfl

end Wax


namespace Wax
open Go (IntKind)

def mid:Nat:=1099511627776

end Wax


namespace Wax
open Go (IntKind)

def strsA (l:List (List UInt8)):List AV:=l.map .str

def asStrs:List AV→Option (List (List UInt8))
  | []=>some []
  | .str s::r=>(asStrs r).map (s :: ·)
  | _::_=>none

theorem asStrs_spec:∀ {xs:List AV} {l:List (List UInt8)},asStrs xs=some l→xs=strsA l
  | [],l,h=>by simp [asStrs] at h; subst h; rfl
  | .str s::r,l,h=>by
    simp only [asStrs] at h
    cases hr:asStrs r with
    | none=>simp [hr] at h
    | some q=>simp [hr] at h; subst h; rw [asStrs_spec hr]; rfl
  | .junk::_,_,h=>by simp [asStrs] at h
  | .bool _::_,_,h=>by simp [asStrs] at h
  | .int _ _::_,_,h=>by simp [asStrs] at h
  | .nilI::_,_,h=>by simp [asStrs] at h
  | .nilP::_,_,h=>by simp [asStrs] at h
  | .nilF::_,_,h=>by simp [asStrs] at h
  | .nilM::_,_,h=>by simp [asStrs] at h
  | .nilS::_,_,h=>by simp [asStrs] at h
  | .sl _ _::_,_,h=>by simp [asStrs] at h
  | .ptr _::_,_,h=>by simp [asStrs] at h
  | .agg _::_,_,h=>by simp [asStrs] at h
  | .tup _::_,_,h=>by simp [asStrs] at h
  | .ifc _ _::_,_,h=>by simp [asStrs] at h
  | .fn _ _::_,_,h=>by simp [asStrs] at h
  | .mp _::_,_,h=>by simp [asStrs] at h
  | .ref _ _::_,_,h=>by simp [asStrs] at h
  | .msl _ _ _ _::_,_,h=>by simp [asStrs] at h
  | .mref _::_,_,h=>by simp [asStrs] at h

@[simp] theorem strsA_length {l:List (List UInt8)}:(strsA l).length=l.length:=by simp [strsA]
@[simp] theorem strsA_get {l:List (List UInt8)} {i:Nat}:(strsA l)[i]? = l[i]?.map .str:=by simp [strsA]
@[simp] theorem asStrs_strsA {l:List (List UInt8)}:asStrs (strsA l)=some l:=by induction l <;> simp_all [strsA,asStrs]

def slStrs:AV→Option (List (List UInt8))
  | .nilS=>some []
  | .sl es xs=>if es=1 then asStrs xs else none
  | _=>none

theorem trimL_length (s:List UInt8):(trimL s).length≤s.length:=by
  unfold trimL
  exact (List.dropWhile_sublist _).length_le
theorem trimR_length (s:List UInt8):(trimR s).length≤s.length:=by
  unfold trimR
  have:=(List.dropWhile_sublist (fun b:UInt8=>isWs b.toNat) (l:=s.reverse)).length_le
  simpa using this
theorem trimS_length (s:List UInt8):(trimS s).length≤s.length:=Nat.le_trans (trimR_length _) (trimL_length _)

end Wax


namespace Wax
open Go (IntKind)

def findAt (sub:List UInt8):List UInt8→Nat→Option Nat
  | [],n=>if sub=[] then some n else none
  | x::r,n=>if sub.isPrefixOf (x::r) then some n else findAt sub r (n+1)

def idxV (sub s:List UInt8):Int:=match findAt sub s 0 with | some n=>(n:Int) | none => -1

def con_zzIndex:List AV→Option AV
  | [.str s,.str sub]=>if s.length < big∧sub.length < big then some (.int .i64 (idxV sub s)) else none
  | _=>none

theorem isPrefixOf_take (sub:List UInt8) (s:List UInt8) (h:sub.length≤s.length):sub.isPrefixOf s=decide (s.take sub.length=sub):=by
  induction sub generalizing s with
  | nil=>simp
  | cons a r ih =>
    cases s with
    | nil=>simp at h
    | cons b s =>
      simp at h
      simp only [List.isPrefixOf,ih s h,List.length_cons,List.take_succ_cons]
      by_cases e:a=b
      · subst e; simp
      · have e':¬ b=a:=fun x=>e x.symm
        simp [e,e']

theorem isPrefixOf_long (sub:List UInt8) (s:List UInt8) (h:s.length < sub.length):sub.isPrefixOf s=false:=by
  induction sub generalizing s with
  | nil=>simp at h
  | cons a r ih =>
    cases s with
    | nil=>simp [List.isPrefixOf]
    | cons b s =>
      simp at h
      simp [List.isPrefixOf,ih s h]

theorem findAt_none (sub:List UInt8):∀ (s:List UInt8) (n:Nat),s.length < sub.length→findAt sub s n=none
  | [],n,h=>by
    have:sub ≠ []:=by intro e; subst e; simp at h
    simp [findAt,this]
  | x::r,n,h=>by
    simp only [findAt,isPrefixOf_long sub (x::r) h,Bool.false_eq_true,if_false]
    exact findAt_none sub r (n+1) (by simp at h; omega)

theorem findAt_one (c:UInt8):∀ (s:List UInt8) (n:Nat),findAt [c] s n=(cutAt c.toNat s).map fun p=>n+p.1.length
  | [],n=>by simp [findAt,cutAt]
  | x::r,n=>by
    simp only [findAt,cutAt,List.isPrefixOf,Bool.and_true]
    by_cases e:x=c
    · subst e; simp
    · have e1:¬ (x.toNat:Int)=(c.toNat:Int):=fun h=>e (UInt8.toNat_inj.1 (by omega))
      have e2:(c == x)=false:=by simp; exact fun h=>e h.symm
      simp only [e2,Bool.false_eq_true,if_false,if_neg e1,findAt_one c r (n+1),Option.map_map]
      congr 1; funext p; simp; omega

theorem cutAt_eq {c:Int}:∀ {s a b:List UInt8},cutAt c s=some (a,b)→∃ x:UInt8,(x.toNat:Int)=c∧s=a++x::b∧noB c a
  | [],a,b,h=>by simp [cutAt] at h
  | x::r,a,b,h=>by
    simp only [cutAt] at h
    split at h
    · rename_i e; simp at h; obtain ⟨rfl,rfl⟩:=h; exact ⟨x,e,by simp,by simp [noB]⟩
    · rename_i e
      cases hr:cutAt c r with
      | none=>simp [hr] at h
      | some p =>
        simp [hr] at h
        obtain ⟨rfl,rfl⟩:=h
        obtain ⟨y,h1,h2,h3⟩:=cutAt_eq (a:=p.1) (b:=p.2) hr
        refine ⟨y,h1,by rw [h2]; simp,?_⟩
        intro z hz
        simp at hz
        rcases hz with rfl | hz
        · exact e
        · exact h3 z hz

def con_zzCut:List AV→Option AV
  | [.str s,.str [c]]=>if s.length < big then some (cutV c.toNat s) else none
  | _=>none

end Wax


namespace Wax
open Go (IntKind)

def ascii (s:List UInt8):Bool:=s.all fun b=>decide (b.toNat < 128)

theorem ascii_cons {x:UInt8} {s:List UInt8}:ascii (x::s)=(decide (x.toNat < 128) && ascii s):=rfl
theorem ascii_app {s t:List UInt8}:ascii (s++t)=(ascii s && ascii t):=by simp [ascii]

def con_zzToLower:List AV→Option AV
  | [.str s]=>if s.length < mid∧ascii s=true then some (.str (lowS s)) else none
  | _=>none

end Wax


namespace Wax
open Go (IntKind)

def isSp (n:Int):Bool:=decide ((9≤n∧n≤13)∨n=32)

def con_zzIsSpace:List AV→Option AV
  | [.int .i32 n]=>if n < 128 then some (.bool (isSp n)) else none
  | _=>none

def wordsGo:List UInt8→List UInt8→List (List UInt8)
  | cur,[]=>if cur=[] then [] else [cur]
  | cur,x::r=>if isWs x.toNat then (if cur=[] then wordsGo [] r else cur::wordsGo [] r) else wordsGo (cur++[x]) r
def wordsOf (s:List UInt8):List (List UInt8):=wordsGo [] s

def plain (s:List UInt8):Bool:=s.all plainB

def con_zzTrimSpace:List AV→Option AV
  | [.str s]=>if s.length < mid∧plain s=true then some (.str (trimS s)) else none
  | _=>none

theorem plain_ascii {s:List UInt8} (h:plain s=true):ascii s=true:=by
  simp only [plain,ascii,List.all_eq_true] at h ⊢
  intro b hb
  have:=of_decide_eq_true (h b hb)
  exact decide_eq_true (by omega)

end Wax


namespace Wax
open Go (IntKind)

theorem decR_ascii {x:UInt8} {r:List UInt8} (h:x.toNat < 128):decR (x::r)=(x.toNat,1):=by
  have e:(⟨(x::r).toArray⟩:ByteArray).get! 0=x:=by
    show (x::r).toArray[0]! = x
    simp
  simp [decR,Go.Utf8.decode,e,h]

theorem plainB_lt {x:UInt8} (h:plainB x=true):x.toNat < 128:=by
  have:=of_decide_eq_true h
  omega

theorem isSp_ws {x:UInt8} (h:plainB x=true):isSp x.toNat=isWs x.toNat:=by
  have:=of_decide_eq_true h
  unfold isSp isWs
  apply decide_eq_decide.2
  omega

theorem plain_app {s t:List UInt8}:plain (s++t)=(plain s && plain t):=by simp [plain]

theorem trimR_ws {c:List UInt8} {x:UInt8} (h:isWs x.toNat=true):trimR (c++[x])=trimR c:=by simp [trimR,h]
theorem trimR_nw {c:List UInt8} {x:UInt8} (h:isWs x.toNat=false):trimR (c++[x])=c++[x]:=by simp [trimR,h]

theorem trimR_prefix (c:List UInt8):∃ t,c=trimR c++t:=by
  obtain ⟨t,ht⟩:=List.dropWhile_suffix (fun b:UInt8=>isWs b.toNat) (l:=c.reverse)
  refine ⟨t.reverse,?_⟩
  have:=congrArg List.reverse ht
  simpa [trimR] using this.symm

theorem trimL_app {a b:List UInt8} (ha:∀ x∈a,isWs x.toNat=true):trimL (a++b)=trimL b:=by
  induction a with
  | nil=>rfl
  | cons x r ih =>
    have h1:=ha x (by simp)
    simp only [trimL,List.cons_append,List.dropWhile_cons,h1,if_true]
    exact ih fun y hy=>ha y (by simp [hy])

theorem trimL_nw {b:List UInt8} (hb:∀ x r,b=x::r→isWs x.toNat=false):trimL b=b:=by
  cases b with
  | nil=>rfl
  | cons x r=>simp [trimL,hb x r rfl]

def toV (n:Nat) (a c:List UInt8):Int:=if c=[] then (n:Int) else (a.length:Int)+((trimR c).length:Int)

end Wax


namespace Wax
open Go (IntKind)

theorem awp_loop2 {σ:Type} {Γ:Gam} {Q:APost} {st:St} {live:List Nat} {c:SCode} (f:σ→St) (ok:σ→Prop) (m:σ→Nat) (s0:σ) (h0:norm live st=f s0) (hok:ok s0)
    (hr:∀ s,ok s→∀ LQ:St→Prop,(∀ s',ok s'→m s' < m s→∀ st,norm live st=f s'→LQ st)→awp Γ c (thenQ LQ Q) (f s)):awp Γ (.loop live c) Q st:=by
  refine awp_loop f ok m s0 h0 hok fun s hs=>hr s hs _ ?_
  intro s' h1 h2 st h3
  exact ⟨s',h3,h1,h2⟩

@[simp] theorem reach_nil {hp:List (Nat × AObj)} {n:Nat} {acc:List Nat}:reach hp n [] acc=acc:=by cases n <;> rfl
theorem reach_succ {hp:List (Nat × AObj)} {n i:Nat} {r acc:List Nat}:reach hp (n+1) (i::r) acc=if acc.contains i then reach hp n r acc else reach hp n (r++(match hlk hp i with | some o=>refsO o | none=>[])) (acc++[i]):=rfl

def grV (d es n:Nat):AV:=match n with | 0=>.nilS | n+1=>.msl d es 0 (n+1)
def grH (d n:Nat) (cs:List AV):List (Nat × AObj):=match n with | 0=>[] | _+1=>[(d,.cells cs)]
@[simp] theorem grV_zero {d es:Nat}:grV d es 0=.nilS:=rfl
@[simp] theorem grH_zero {d:Nat} {cs:List AV}:grH d 0 cs=[]:=rfl
@[simp] theorem grV_succ {d es n:Nat}:grV d es (n+1)=.msl d es 0 (n+1):=rfl
@[simp] theorem grH_succ {d n:Nat} {cs:List AV}:grH d (n+1) cs=[(d,.cells cs)]:=rfl

@[simp] theorem strsA_nil:strsA []=[]:=rfl
@[simp] theorem strsA_cons {x:List UInt8} {l:List (List UInt8)}:strsA (x::l)=.str x::strsA l:=rfl
@[simp] theorem strsA_app {l m:List (List UInt8)}:strsA (l++m)=strsA l++strsA m:=by simp [strsA]
@[simp] theorem atoms_strsA {l:List (List UInt8)}:atoms (strsA l)=true:=by induction l <;> simp_all
@[simp] theorem killL_strsA {d:Nat} {l:List (List UInt8)}:killL d (strsA l)=strsA l:=by induction l <;> simp_all
@[simp] theorem hasRefL_strsA {l:List (List UInt8)}:hasRefL (strsA l)=false:=by induction l <;> simp_all
@[simp] theorem refsL_strsA {l:List (List UInt8)}:refsL (strsA l)=[]:=by induction l <;> simp_all
@[simp] theorem mapIdL_strsA {g:Nat→Nat} {l:List (List UInt8)}:mapIdL g (strsA l)=strsA l:=by induction l <;> simp_all
@[simp] theorem hasRefL_bcA {l:List UInt8}:hasRefL (bcA l)=false:=by induction l <;> simp_all
@[simp] theorem refsL_bcA {l:List UInt8}:refsL (bcA l)=[]:=by induction l <;> simp_all
@[simp] theorem mapIdL_bcA {g:Nat→Nat} {l:List UInt8}:mapIdL g (bcA l)=bcA l:=by induction l <;> simp_all
@[simp] theorem strsA_drop {l:List (List UInt8)} {i:Nat}:(strsA l).drop i=strsA (l.drop i):=by simp [strsA,List.map_drop]
@[simp] theorem strsA_take {l:List (List UInt8)} {i:Nat}:(strsA l).take i=strsA (l.take i):=by simp [strsA,List.map_take]
@[simp] theorem strsA_set {l:List (List UInt8)} {i:Nat} {x:List UInt8}:(strsA l).set i (.str x)=strsA (l.set i x):=by simp [strsA,List.map_set]
@[simp] theorem snapWL_strsA {g:AV→AV} {l:List (List UInt8)}:snapWL g (strsA l)=strsA l:=by induction l <;> simp_all
@[simp] theorem snapWL_bcA {g:AV→AV} {l:List UInt8}:snapWL g (bcA l)=bcA l:=by induction l <;> simp_all
@[simp] theorem map_snap_strsA {n:Nat} {hp:List (Nat × AObj)} {l:List (List UInt8)}:(strsA l).map (snap (n+1) hp)=strsA l:=by induction l <;> simp_all [snap]
@[simp] theorem map_snap_bcA {n:Nat} {hp:List (Nat × AObj)} {l:List UInt8}:(bcA l).map (snap (n+1) hp)=bcA l:=by induction l <;> simp_all [snap]

@[simp] theorem refsL_app {a b:List AV}:refsL (a++b)=refsL a++refsL b:=by induction a <;> simp_all
@[simp] theorem mapIdL_app {g:Nat→Nat} {a b:List AV}:mapIdL g (a++b)=mapIdL g a++mapIdL g b:=by induction a <;> simp_all
@[simp] theorem hasRefL_appB {a b:List AV}:hasRefL (a++b)=(hasRefL a || hasRefL b):=by induction a <;> simp_all [Bool.or_assoc]
@[simp] theorem snapWL_app {g:AV→AV} {a b:List AV}:snapWL g (a++b)=snapWL g a++snapWL g b:=by induction a <;> simp_all
@[simp] theorem map_snapW_strsA {g:AV→AV} {l:List (List UInt8)}:(strsA l).map (snapW g)=strsA l:=by induction l <;> simp_all
@[simp] theorem map_snapW_bcA {g:AV→AV} {l:List UInt8}:(bcA l).map (snapW g)=bcA l:=by induction l <;> simp_all
@[simp high] theorem aload_ref {hp:List (Nat × AObj)} {id off:Nat}:aload hp none (.ref id off)=(oCells (hlk hp id)).bind fun cs=>cs[off]?.bind fun c=>if atom c=true then some c else none:=by
  simp only [aload]
  cases hlk hp id with
  | none=>rfl
  | some o=>cases o <;> simp only [oCells,Option.bind_some,loadC_drop] <;> rfl
theorem get_mid {α:Type} {a b:List α} {x:α} {n:Nat} (h:a.length=n):(a++x::b)[n]? = some x:=by
  subst h; rw [List.getElem?_append_right (Nat.le_refl _)]; simp
theorem set_mid {α:Type} {a b:List α} {x y:α} {n:Nat} (h:a.length=n):(a++x::b).set n y=a++y::b:=by
  subst h; simp
@[simp] theorem spliceL_more {cs:List AV} {i:Nat} {x y:AV} {r:List AV}:spliceL cs i (x::y::r)=spliceL (cs.set i x) (i+1) (y::r):=rfl
@[simp] theorem killL_repl {d n:Nat} {v:AV}:killL d (List.replicate n v)=List.replicate n (kill d v):=by induction n <;> simp_all [List.replicate_succ]
@[simp] theorem refsL_repl {n:Nat} {v:AV} (h:refs v=[]):refsL (List.replicate n v)=[]:=by induction n <;> simp_all [List.replicate_succ]
@[simp] theorem mapIdL_repl {g:Nat→Nat} {n:Nat} {v:AV}:mapIdL g (List.replicate n v)=List.replicate n (mapId g v):=by induction n <;> simp_all [List.replicate_succ]
@[simp] theorem atoms_repl {n:Nat} {v:AV} (h:atom v=true):atoms (List.replicate n v)=true:=by induction n <;> simp_all [List.replicate_succ]
theorem xor_neg1 (n:Int):IntKind.i64.wrap ((BitVec.ofInt 64 (-1) ^^^ BitVec.ofInt 64 n).toNat:Int)=IntKind.i64.wrap (-n - 1):=by
  have e:BitVec.ofInt 64 (-1) ^^^ BitVec.ofInt 64 n = ~~~ BitVec.ofInt 64 n:=by
    have:BitVec.ofInt 64 (-1)=BitVec.allOnes 64:=by decide
    rw [this,BitVec.allOnes_xor]
  rw [e,BitVec.toNat_not,BitVec.toNat_ofInt,IntKind.wrap_i64,IntKind.wrap_i64]
  omega
@[simp high] theorem aun_xor64 {n:Int}:aun .xor (.int .i64 n)=some (.int .i64 (IntKind.i64.wrap (-n - 1))):=by
  have:=xor_neg1 n
  show some (AV.int .i64 (IntKind.i64.wrap ((BitVec.ofInt 64 (-1) ^^^ BitVec.ofInt 64 n).toNat:Int)))=_
  rw [this]
@[simp high] theorem aun_not {b:Bool}:aun .not (.bool b)=some (.bool (!b)):=rfl
@[simp high] theorem aun_neg {k:IntKind} {n:Int}:aun .neg (.int k n)=some (.int k (k.wrap (0 - n))):=rfl

section
variable {n:Nat} {hp:List (Nat × AObj)}
@[simp] theorem snap_junk:snap (n+1) hp .junk=.junk:=rfl
@[simp] theorem snap_bool {b}:snap (n+1) hp (.bool b)=.bool b:=rfl
@[simp] theorem snap_int {k m}:snap (n+1) hp (.int k m)=.int k m:=rfl
@[simp] theorem snap_str {s}:snap (n+1) hp (.str s)=.str s:=rfl
@[simp] theorem snap_nilI:snap (n+1) hp .nilI=.nilI:=rfl
@[simp] theorem snap_nilP:snap (n+1) hp .nilP=.nilP:=rfl
@[simp] theorem snap_nilF:snap (n+1) hp .nilF=.nilF:=rfl
@[simp] theorem snap_nilM:snap (n+1) hp .nilM=.nilM:=rfl
@[simp] theorem snap_nilS:snap (n+1) hp .nilS=.nilS:=rfl
@[simp] theorem snap_sl {e xs}:snap (n+1) hp (.sl e xs)=.sl e xs:=rfl
@[simp] theorem snap_ptr {cs}:snap (n+1) hp (.ptr cs)=.ptr cs:=rfl
@[simp] theorem snap_bx {cs}:snap (n+1) hp (.bx cs)=.bx cs:=rfl
@[simp] theorem snap_mp {es}:snap (n+1) hp (.mp es)=.mp es:=rfl
@[simp] theorem snap_ifc {t v}:snap (n+1) hp (.ifc t v)=.ifc t (snap (n+1) hp v):=rfl
theorem snapWL_map {g:AV→AV}:∀ l:List AV,snapWL g l=l.map (snapW g)
  | []=>rfl
  | x::r=>by simp [snapWL,snapWL_map r]
@[simp] theorem snap_agg {cs}:snap (n+1) hp (.agg cs)=.agg (cs.map (snap (n+1) hp)):=by
  show AV.agg (snapWL _ cs)=_
  rw [snapWL_map]; rfl
@[simp] theorem snap_tup {cs}:snap (n+1) hp (.tup cs)=.tup (cs.map (snap (n+1) hp)):=by
  show AV.tup (snapWL _ cs)=_
  rw [snapWL_map]; rfl
@[simp] theorem snap_fn {f cs}:snap (n+1) hp (.fn f cs)=.fn f (cs.map (snap (n+1) hp)):=by
  show AV.fn f (snapWL _ cs)=_
  rw [snapWL_map]; rfl
@[simp] theorem snap_ref {id off}:snap (n+1) hp (.ref id off)=match oCells (hlk hp id) with | some cs=>.ptr ((cs.drop off).map (snap n hp)) | none=>.junk:=by
  show resolveA (snap n hp) hp (.ref id off)=_
  simp only [resolveA]
  cases hlk hp id with
  | none=>rfl
  | some o=>cases o <;> rfl
@[simp] theorem snap_msl {id es off m}:snap (n+1) hp (.msl id es off m)=match oCells (hlk hp id) with | some cs=>if off+m * es≤cs.length∧atoms cs=true∧0 < es then .sl es (elems es m ((cs.drop off).map (snap n hp))) else .junk | none=>.junk:=by
  show resolveA (snap n hp) hp (.msl id es off m)=_
  simp only [resolveA]
  cases hlk hp id with
  | none=>rfl
  | some o=>cases o <;> rfl
@[simp] theorem snap_mref {id}:snap (n+1) hp (.mref id)=match oMp (hlk hp id) with | some es=>.mp es | none=>.junk:=by
  show resolveA (snap n hp) hp (.mref id)=_
  simp only [resolveA]
  cases hlk hp id with
  | none=>rfl
  | some o=>cases o <;> rfl
end
end Wax


namespace Wax
open Go (IntKind)

def splitB (b:UInt8):List UInt8→List (List UInt8)
  | []=>[[]]
  | x::r=>if x=b then []::splitB b r else match splitB b r with
    | []=>[[x]]
    | h::t=>(x::h)::t

theorem splitB_ne (b:UInt8) (s:List UInt8):splitB b s ≠ []:=by
  cases s with
  | nil=>simp [splitB]
  | cons x r=>simp only [splitB]; split; simp; split <;> simp

theorem splitB_cut (b:UInt8):∀ (s:List UInt8),splitB b s=match cutAt b.toNat s with | none=>[s] | some (a,c)=>a::splitB b c
  | []=>rfl
  | x::r=>by
    have ih:=splitB_cut b r
    simp only [splitB,cutAt]
    by_cases e:x=b
    · subst e; simp
    · have e1:¬ (x.toNat:Int)=(b.toNat:Int):=fun h=>e (UInt8.toNat_inj.1 (by omega))
      rw [if_neg e,if_neg e1,ih]
      cases cutAt b.toNat r with
      | none=>rfl
      | some p=>rfl

theorem splitB_length (b:UInt8):∀ (s:List UInt8),(splitB b s).length≤s.length+1
  | []=>by simp [splitB]
  | x::r=>by
    have ih:=splitB_length b r
    simp only [splitB]
    split
    · simp; omega
    · split
      · simp
      · rename_i h t e; rw [e] at ih; simp at ih ⊢; omega

theorem splitB_mem_length (b:UInt8):∀ (s p:List UInt8),p∈splitB b s→p.length≤s.length
  | [],p,h=>by simp [splitB] at h; subst h; simp
  | x::r,p,h=>by
    have ih:=splitB_mem_length b r
    simp only [splitB] at h
    split at h
    · rcases List.mem_cons.1 h with e | h
      · subst e; simp
      · have:=ih p h; simp; omega
    · split at h
      · simp at h; subst h; simp
      · rename_i hd t e
        rcases List.mem_cons.1 h with e' | h
        · subst e'
          have:=ih hd (by rw [e]; simp); simp; omega
        · have:=ih p (by rw [e]; simp [h]); simp; omega

def con_zzSplit:List AV→List (Nat × AObj)→Option (AV × List (Nat × AObj))
  | [.str s,.str [b]],[]=>if s.length < mid then some (.msl 0 1 0 (splitB b s).length,[(0,.cells (strsA (splitB b s)))]) else none
  | _,_=>none

end Wax


namespace Wax
open Go (IntKind)

theorem decA {x:UInt8} {r:List UInt8} (h:x.toNat < 128):decR (x::r)=(x.toNat,1):=by
  have e:(⟨(x::r).toArray⟩:ByteArray).get! 0=x:=by
    show (x::r).toArray[0]! = x
    simp
  simp [decR,Go.Utf8.decode,e,h]

theorem ascii_lt {x:UInt8} {s:List UInt8} (h:ascii (x::s)=true):x.toNat < 128∧ascii s=true:=by
  rw [ascii_cons] at h; simpa using h

end Wax


namespace Wax
open Go (IntKind)

theorem slStrs_cases {v:AV} {l:List (List UInt8)} (h:slStrs v=some l):(v=.nilS∧l=[])∨v=.sl 1 (strsA l):=by
  cases v <;> simp [slStrs] at h
  · left; exact ⟨rfl,h⟩
  · right; obtain ⟨e,h⟩:=h; rw [asStrs_spec h,e]

end Wax


namespace Wax
open Go (IntKind)

theorem cutAt_le {c:Int} {s:List UInt8} {p:List UInt8 × List UInt8} (h:cutAt c s=some p):p.1.length+p.2.length < s.length∧∃ x,s=p.1++x::p.2:=by
  obtain ⟨a,b⟩:=p
  obtain ⟨x,hx1,hx2,_⟩:=cutAt_eq h
  subst hx2
  simp

attribute [local simp] lowS_cons lowS_nil lowS_app
@[simp] theorem lowS_len {l:List UInt8}:(lowS l).length=l.length:=by simp [lowS]

end Wax


namespace Wax
open Go (IntKind)

theorem slf_alen {u:AV} {l:List (List UInt8)} (h:slStrs u=some l) (hp:List (Nat × AObj)):alen hp 1 u=some l.length:=by
  rcases slStrs_cases h with ⟨rfl,rfl⟩ | rfl <;> simp
theorem slf_ref {u:AV} {l:List (List UInt8)} (h:slStrs u=some l):hasRef u=false:=by
  rcases slStrs_cases h with ⟨rfl,rfl⟩ | rfl <;> simp
theorem slf_ne {u:AV} {l:List (List UInt8)} (h:slStrs u=some l) (hl:l ≠ []):u=.sl 1 (strsA l):=by
  rcases slStrs_cases h with ⟨rfl,rfl⟩ | rfl
  · exact absurd rfl hl
  · rfl

theorem plain_sub {s t:List UInt8} (h:∀ x∈t,x∈s) (hs:plain s=true):plain t=true:=by
  simp only [plain,List.all_eq_true] at hs ⊢
  exact fun x hx=>hs x (h x hx)

theorem trimS_sub {t:List UInt8}:∀ x∈trimS t,x∈t:=by
  intro x hx
  simp only [trimS,trimR,trimL,List.mem_reverse] at hx
  have:=(List.dropWhile_suffix _).mem hx
  rw [List.mem_reverse] at this
  exact (List.dropWhile_suffix _).mem this

end Wax


namespace Wax
open Go (IntKind)

def pr2 (l:List (List UInt8 × List UInt8)):List AV:=l.map fun p=>.agg [.str p.1,.str p.2]
def pc2 (l:List (List UInt8 × List UInt8)):List AV:=l.flatMap fun p=>[.str p.1,.str p.2]
@[simp] theorem pr2_nil:pr2 []=[]:=rfl
@[simp] theorem pr2_cons {x l}:pr2 (x::l)=.agg [.str x.1,.str x.2]::pr2 l:=rfl
@[simp] theorem pr2_app {l m}:pr2 (l++m)=pr2 l++pr2 m:=by simp [pr2]
@[simp] theorem pr2_length {l}:(pr2 l).length=l.length:=by simp [pr2]
@[simp] theorem pc2_nil:pc2 []=[]:=rfl
@[simp] theorem pc2_cons {x:List UInt8 × List UInt8} {l}:pc2 (x::l)=.str x.1::.str x.2::pc2 l:=rfl
@[simp] theorem pc2_app {l m}:pc2 (l++m)=pc2 l++pc2 m:=by simp [pc2]
@[simp] theorem pc2_length {l:List (List UInt8 × List UInt8)}:(pc2 l).length=l.length * 2:=by induction l <;> simp_all; omega
@[simp] theorem atoms_pc2 {l}:atoms (pc2 l)=true:=by induction l <;> simp_all
@[simp] theorem killL_pc2 {d l}:killL d (pc2 l)=pc2 l:=by induction l <;> simp_all
@[simp] theorem map_snap_pc2 {n:Nat} {hp:List (Nat × AObj)} {l}:(pc2 l).map (snap (n+1) hp)=pc2 l:=by induction l <;> simp_all
@[simp] theorem snapWL_pc2 {g:AV→AV} {l}:snapWL g (pc2 l)=pc2 l:=by induction l <;> simp_all
@[simp] theorem group_pc2:∀ {l:List (List UInt8 × List UInt8)},group 2 l.length (pc2 l)=pr2 l
  | []=>rfl
  | x::l=>by simp [group,group_pc2 (l:=l)]

def pairV (l:List (List UInt8 × List UInt8)):AV:=match l with | []=>.nilS | _=>.sl 2 (pr2 l)
def asPairs:List AV→Option (List (List UInt8 × List UInt8))
  | []=>some []
  | .agg [.str a,.str b]::r=>(asPairs r).map ((a,b) :: ·)
  | _::_=>none
def slPairs:AV→Option (List (List UInt8 × List UInt8))
  | .nilS=>some []
  | .sl es xs=>if es=2 then asPairs xs else none
  | _=>none
theorem asPairs_pr2:∀ l,asPairs (pr2 l)=some l
  | []=>rfl
  | x::l=>by simp [asPairs,asPairs_pr2 l]
theorem asPairs_spec:∀ {xs l},asPairs xs=some l→xs=pr2 l
  | [],l,h=>by simp [asPairs] at h; subst h; rfl
  | v::r,l,h=>by
    unfold asPairs at h
    split at h
    · simp at h; rename_i e; simp at e
    · rename_i a b r' e
      simp at e; obtain ⟨rfl,rfl⟩:=e
      cases hr:asPairs r with
      | none=>rw [hr] at h; simp at h
      | some l'=>rw [hr] at h; simp at h; subst h; rw [asPairs_spec hr]; rfl
    · simp at h
theorem slPairs_cases {v:AV} {l} (h:slPairs v=some l):(v=.nilS∧l=[])∨v=.sl 2 (pr2 l):=by
  cases v <;> simp [slPairs] at h
  · left; exact ⟨rfl,h⟩
  · right; obtain ⟨e,h⟩:=h; rw [asPairs_spec h,e]
end Wax


namespace Wax
open Go (IntKind)

theorem slp_alen {u:AV} {l} (h:slPairs u=some l) (hp:List (Nat × AObj)):alen hp 1 u=some l.length:=by
  rcases slPairs_cases h with ⟨rfl,rfl⟩ | rfl <;> simp
theorem slp_ne {u:AV} {l} (h:slPairs u=some l) (hl:l ≠ []):u=.sl 2 (pr2 l):=by
  rcases slPairs_cases h with ⟨rfl,rfl⟩ | rfl
  · exact absurd rfl hl
  · rfl
@[simp] theorem pr2_get {l:List (List UInt8 × List UInt8)} {i:Nat}:(pr2 l)[i]? = l[i]?.map fun p=>AV.agg [.str p.1,.str p.2]:=by simp [pr2]

def half:Nat:=549755813888

end Wax


namespace Wax
open Go (IntKind)

def cutS (s:List UInt8) (p:Nat × Nat):List UInt8:=(s.take p.2).drop p.1

structure FF (s pre post:List UInt8) (sp:List (Nat × Nat)) (cur:List UInt8) (v:Int):Prop where
  cut:s=pre++post
  words:wordsOf s=sp.map (cutS s)++wordsGo cur post
  none:cur=[]→v < 0 ∧ -1099511627777 < v
  some:cur ≠ []→∃ p,pre=p++cur∧v=p.length
  ok:∀ p∈sp,p.1≤p.2∧p.2≤s.length
  len:sp.length≤pre.length

theorem FF.on {s pre post:List UInt8} {sp:List (Nat × Nat)} {cur:List UInt8} {v:Int} {x:UInt8} (h:FF s pre (x::post) sp cur v) (hw:isWs x.toNat=false) (hc:cur ≠ []):FF s (pre++[x]) post sp (cur++[x]) v:=by
  refine ⟨by rw [h.cut]; simp,?_,fun hn=>by simp at hn,fun _=>?_,h.ok,by have:=h.len; simp; omega⟩
  · have:=h.words
    simpa [wordsGo,hw] using this
  · obtain ⟨p,hp,hv⟩:=h.some hc
    exact ⟨p,by rw [hp]; simp,hv⟩

end Wax


namespace Wax
open Go (IntKind)

def con_errorsNew:List AV→Option AV
  | [.str s]=>some (.ifc 3 (.ptr [.str s]))
  | _=>none

theorem ok_errorsNew (Γ:Gam):∀ args r,con_errorsNew args=some r→runs Γ c_errors_New args (fun v=>v=r):=by
  intro args r h
  simp only [con_errorsNew] at h
  split at h <;> (try simp at h; done)
  injection h with h; subst h
  simp [c_errors_New]

def msgBad:List UInt8:=[100,107,105,109,58,32,109,97,108,102,111,114,109,101,100,32,104,101,97,100,101,114,32,112,97,114,97,109,115]
def msgTwice:List UInt8:=[100,107,105,109,58,32,100,117,112,108,105,99,97,116,101,32,116,97,103,32,110,97,109,101]

def pmA (l:List (List UInt8 × List UInt8)):List (List UInt8 × AV):=l.map fun p=>(p.1,.str p.2)
def hasK (k:List UInt8) (l:List (List UInt8 × List UInt8)):Bool:=l.any fun p=>decide (k=p.1)
def prm:List (List UInt8)→List (List UInt8 × List UInt8)→List (List UInt8 × List UInt8) × Option (List UInt8)
  | [],acc=>(acc,none)
  | p::r,acc=>match cutAt 61 p with
    | none=>if trimS p=[] then prm r acc else (acc,some msgBad)
    | some q=>if hasK (trimS q.1) acc=true then (acc,some msgTwice) else prm r (acc++[(trimS q.1,trimS q.2)])

theorem splitB_sub (b:UInt8):∀ (s p:List UInt8),p∈splitB b s→∀ y∈p,y∈s
  | [],p,h,y,hy=>by simp [splitB] at h; subst h; exact hy
  | x::r,p,h,y,hy=>by
    have ih:=splitB_sub b r
    simp only [splitB] at h
    split at h
    · rcases List.mem_cons.1 h with e | h
      · subst e; simp at hy
      · exact List.mem_cons_of_mem _ (ih p h y hy)
    · split at h
      · simp at h; subst h; simp at hy; subst hy; simp
      · rename_i hd t e
        rcases List.mem_cons.1 h with e' | h
        · subst e'
          rcases List.mem_cons.1 hy with e2 | hy
          · subst e2; simp
          · exact List.mem_cons_of_mem _ (ih hd (by rw [e]; simp) y hy)
        · exact List.mem_cons_of_mem _ (ih p (by rw [e]; simp [h]) y hy)
theorem splitB_plain (b:UInt8) (s p:List UInt8) (hs:plain s=true) (h:p∈splitB b s):plain p=true:=plain_sub (splitB_sub b s p h) hs

end Wax


namespace Wax
open Go (IntKind)

def nonWs (s:List UInt8):Prop:=∀ x∈s,isWs x.toNat=false
def allWs (s:List UInt8):Prop:=∀ x∈s,isWs x.toNat=true

theorem wordsGo_ws:∀ {b:List UInt8} (s:List UInt8),allWs b→wordsGo [] (b++s)=wordsGo [] s
  | [],s,_=>rfl
  | x::r,s,h=>by
    have h1:=h x (by simp)
    simp only [List.cons_append,wordsGo,h1,if_true]
    exact wordsGo_ws s fun y hy=>h y (by simp [hy])

theorem wordsGo_word:∀ {w:List UInt8} (cur s:List UInt8),nonWs w→wordsGo cur (w++s)=wordsGo (cur++w) s
  | [],cur,s,_=>by simp
  | x::r,cur,s,h=>by
    have h1:=h x (by simp)
    simp only [List.cons_append,wordsGo,h1,Bool.false_eq_true,if_false]
    rw [wordsGo_word _ s fun y hy=>h y (by simp [hy])]
    simp

theorem wordsGo_end {b cur s:List UInt8} (hc:cur ≠ []) (hb:b ≠ []) (hw:allWs b):wordsGo cur (b++s)=cur::wordsGo [] (b++s):=by
  cases b with
  | nil=>exact absurd rfl hb
  | cons x r =>
    have h1:=hw x (by simp)
    simp only [List.cons_append,wordsGo,h1,if_true,if_neg hc]

theorem trimS_word {n b:List UInt8} (hn:nonWs n) (hne:n ≠ []) (hb:allWs b):trimS (n++b)=n:=by
  have h1:trimL (n++b)=n++b:=by
    cases n with
    | nil=>exact absurd rfl hne
    | cons x r=>simp [trimL,hn x (by simp)]
  rw [trimS,h1,trimR,List.reverse_append,List.dropWhile_append_of_pos (by intro x hx; exact hb x (by simpa using hx))]
  have h2:n.reverse.dropWhile (fun b=>isWs b.toNat)=n.reverse:=by
    cases hr:n.reverse with
    | nil=>rfl
    | cons x r =>
      have:x∈n:=by rw [← List.mem_reverse,hr]; simp
      simp [hn x this]
  rw [h2,List.reverse_reverse]

theorem cutAt_noB {c:UInt8} {n r:List UInt8} (h:noB c.toNat n):cutAt c.toNat (n++c::r)=some (n,r):=by
  rw [cutAt_app _ _ _ h]; simp [cutAt]

end Wax


namespace Wax
open Go (IntKind)

abbrev L8:=List UInt8
abbrev KVp:=List UInt8 × List UInt8

def tokStop:L8:=[40,41,60,62,64,44,59,58,92,34,47,91,93,63,61]
def tokB (c:UInt8):Bool:=decide (32 < c.toNat) && decide (c.toNat < 127) && !tokStop.contains c
def mTok (s:L8):Bool:=s.all tokB && decide (s ≠ [])
def kwB (c:UInt8):Bool:=decide ((97≤c.toNat∧c.toNat≤122)∨(65≤c.toNat∧c.toNat≤90)∨(48≤c.toNat∧c.toNat≤57)∨c.toNat=45)
def mKw (s:L8):Bool:=s.all kwB && decide (s ≠ []) && decide (s.head? ≠ some 45) && decide (s.getLast? ≠ some 45)
def mDom (s:L8):Bool:=(splitB 46 s).all (fun p=>mKw p && decide (p.length≤63)) && decide (s.length≤253)
def digB (c:UInt8):Bool:=decide (48≤c.toNat∧c.toNat≤57)
def numW (n:Int) (s:L8):Int:=s.foldl (fun n c=>IntKind.i64.wrap (IntKind.i64.wrap (10 * n)+((c.toNat:Int) - 48))) n
def mNum (s:L8) (most:Int):Int × Bool:=if s.all digB=true then (numW 0 s,decide (s ≠ []) && decide ((s.length:Int)≤most)) else (0,false)

def sNone:L8:=[110,111,110,101]
def sQuar:L8:=[113,117,97,114,97,110,116,105,110,101]
def sReject:L8:=[114,101,106,101,99,116]
def polB (s:L8):Bool:=decide (s=sNone∨s=sQuar∨s=sReject)
def sMailto:L8:=[109,97,105,108,116,111,58]
def sKmgt:L8:=[107,109,103,116]
def s01ds:L8:=[48,49,100,115]
def sAfrf:L8:=[97,102,114,102]

def addrB (s:L8):Bool:=match cutAt 64 s with
  | some p=>mTok p.1 && mDom p.2
  | none=>false
def sizeOff (s:L8):L8:=match s.getLast? with
  | some c=>if sKmgt.contains c then s.dropLast else s
  | none=>s
def muri (s:L8):Bool:=decide (8≤s.length) && decide (s.take 7=sMailto) && (match cutAt 33 (s.drop 7) with
  | some p=>(mNum (sizeOff p.2) 9).2 && addrB p.1
  | none=>addrB (s.drop 7))

def kAdkim:L8:=[97,100,107,105,109]
def kAspf:L8:=[97,115,112,102]
def kFo:L8:=[102,111]
def kPct:L8:=[112,99,116]
def kRf:L8:=[114,102]
def kRi:L8:=[114,105]
def kRua:L8:=[114,117,97]
def kRuf:L8:=[114,117,102]
def kSp:L8:=[115,112]
def kP:L8:=[112]
def kV:L8:=[118]
def sDM:L8:=[68,77,65,82,67,49]
def sR:L8:=[114]
def sS:L8:=[115]

structure MR where
  adkim:L8
  aspf:L8
  fo:Int
  p:L8
  pct:Int
  has:Bool
  rf:Option (List L8)
  ri:Int
  rua:Option (List L8)
  ruf:Option (List L8)
  sp:L8
  deriving DecidableEq

def slO:Option (List L8)→AV
  | none=>.nilS
  | some l=>.sl 1 (strsA l)
def MR.cells (r:MR):List AV:=[.str r.adkim,.str r.aspf,.int .i64 r.fo,.str r.p,.int .i64 r.pct,.bool r.has,slO r.rf,.int .i64 r.ri,slO r.rua,slO r.ruf,.str r.sp]
def mr0:MR:=⟨[],[],0,[],0,false,none,0,none,none,[]⟩

def alignB (s:L8):Bool:=decide (s=sR∨s=sS)
def orI (x y:Int):Int:=IntKind.i64.wrap ((BitVec.ofInt 64 x ||| BitVec.ofInt 64 y).toNat:Int)
def foBit:L8→Int
  | [c]=>if c=48 then 1 else if c=49 then 2 else if c=100 then 4 else 8
  | _=>0
def foOk (s:L8):Bool:=match s with | [c]=>s01ds.contains c | _=>false
def foOf (l:List L8):Int:=l.foldl (fun n x=>orI n (foBit x)) 0
def mlist (b:UInt8) (right:L8→Bool) (s:L8):Option (List L8):=if (splitB b s).all right=true then some (splitB b s) else none

def mOk (t:KVp):Bool :=
  if t.1=kAdkim then alignB t.2 else if t.1=kAspf then alignB t.2 else if t.1=kP then polB t.2 else if t.1=kSp then polB t.2
  else if t.1=kFo then (mlist 58 foOk t.2).isSome
  else if t.1=kPct then (mNum t.2 3).2 && decide ((mNum t.2 3).1≤100)
  else if t.1=kRf then (mlist 58 (fun s=>decide (s=sAfrf)) t.2).isSome
  else if t.1=kRi then (mNum t.2 10).2 && decide (0 < (mNum t.2 10).1) && decide ((mNum t.2 10).1 < 4294967296)
  else if t.1=kRua then (mlist 44 muri t.2).isSome
  else if t.1=kRuf then (mlist 44 muri t.2).isSome
  else true

def mPut (r:MR) (t:KVp):MR :=
  if t.1=kAdkim then { r with adkim:=t.2 } else if t.1=kAspf then { r with aspf:=t.2 } else if t.1=kP then { r with p:=t.2 } else if t.1=kSp then { r with sp:=t.2 }
  else if t.1=kFo then { r with fo:=foOf ((mlist 58 foOk t.2).getD []) }
  else if t.1=kPct then { r with pct:=(mNum t.2 3).1,has:=true }
  else if t.1=kRf then { r with rf:=mlist 58 (fun s=>decide (s=sAfrf)) t.2 }
  else if t.1=kRi then { r with ri:=IntKind.i64.wrap ((mNum t.2 10).1 * 1000000000) }
  else if t.1=kRua then { r with rua:=mlist 44 muri t.2 }
  else if t.1=kRuf then { r with ruf:=mlist 44 muri t.2 }
  else r

def mKnown:List L8:=[kP,kAdkim,kAspf,kFo,kPct,kRf,kRi,kRua,kRuf,kSp]
def mSameAt (k:L8) (a b:MR):Bool :=
  if k=kAdkim then decide (a.adkim=b.adkim) else if k=kAspf then decide (a.aspf=b.aspf) else if k=kP then decide (a.p=b.p) else if k=kSp then decide (a.sp=b.sp)
  else if k=kFo then decide (a.fo=b.fo) else if k=kPct then a.has && decide (a.pct=b.pct) else if k=kRf then decide (a.rf.getD []=b.rf.getD []) else if k=kRi then decide (a.ri=b.ri)
  else if k=kRua then decide (a.rua.getD []=b.rua.getD []) else if k=kRuf then decide (a.ruf.getD []=b.ruf.getD []) else true
def mHas (r:MR) (l:List KVp):Bool:=l.all fun t=>mSameAt t.1 r (mPut mr0 t)
def psetL:List KVp→L8→L8→List KVp
  | [],k,v=>[(k,v)]
  | (i,u)::r,k,v=>if k=i then (k,v)::r else (i,u)::psetL r k v
theorem mset_pmA:∀ (l:List KVp) (k v:L8),mset (pmA l) k (.str v)=pmA (psetL l k v)
  | [],_,_=>rfl
  | (i,u)::r,k,v=>by
    have ih:=mset_pmA r k v
    simp only [pmA,List.map_cons,mset,psetL] at ih ⊢
    by_cases h:k=i
    · simp [h]
    · simp only [if_neg h,List.map_cons,ih]
theorem psetL_new:∀ {l:List KVp} {k v:L8},hasK k l=false→psetL l k v=l++[(k,v)]
  | [],_,_,_=>rfl
  | (i,u)::r,k,v,h=>by
    simp only [hasK,List.any_cons,Bool.or_eq_false_iff,decide_eq_false_iff_not] at h
    simp only [psetL,if_neg h.1,List.cons_append]
    rw [psetL_new (l:=r) h.2]

structure DR where
  dk:L8
  sp:L8
  fo:Int
  p:L8
  pct:Option Int
  rf:Option (List L8)
  ri:Int
  rua:Option (List L8)
  ruf:Option (List L8)
  sub:L8

def recM (r:DR):MR:=⟨r.dk,r.sp,r.fo,r.p,r.pct.getD 0,r.pct.isSome,if r.rf.getD []=[] then none else r.rf,IntKind.i64.wrap (r.ri * 1000000000),r.rua,r.ruf,r.sub⟩

def fobit2 (s:L8):Option Int:=if trimS s=[48] then some 1 else if trimS s=[49] then some 2 else if trimS s=[100] then some 4 else if trimS s=[115] then some 8 else none
def fo2:Int→List L8→Option Int
  | n,[]=>some n
  | n,x::r=>match fobit2 x with
    | some b=>fo2 (orI n b) r
    | none=>none
def uris (s:L8):List L8:=(splitB 44 s).map trimS
end Wax


namespace Wax
open Go (IntKind)

theorem ar_ok_zzIndex (Γ:Gam):∀ args r,con_zzIndex args=some r→runs Γ c_authres_zzIndex args (fun v=>v=r):=by
  intro args r h
  simp only [con_zzIndex] at h
  split at h <;> (try simp at h; done)
  rename_i s sub
  obtain ⟨⟨hs,hb⟩,rfl⟩:=ite_some h
  clear h
  simp only [big] at hs hb
  simp [c_authres_zzIndex]
  refine awp_loop (σ:=List UInt8 × List UInt8) (fun p=>⟨[(0,.str s),(1,.str sub),(5,.int .i64 p.1.length)],[]⟩) (fun p=>s=p.1++p.2∧findAt sub s 0=findAt sub p.2 p.1.length) (fun p=>p.2.length) ([],s) (by simp) (by simp) ?_
  rintro ⟨pre,post⟩ ⟨hs1,hs2⟩
  simp only at hs1 hs2
  subst hs1
  simp at hs
  simp (disch:=omega) [wrap64]
  refine ⟨fun hle=>?_,fun hlt=>?_⟩
  · have et:((pre.length:Int)+(sub.length:Int)).toNat=pre.length+sub.length:=by omega
    have e:List.drop pre.length (List.take (pre.length+sub.length) (pre++post))=post.take sub.length:=by
      rw [List.take_length_add_append,List.drop_left]
    rw [et,e]
    refine ⟨⟨by omega,hle⟩,fun h=>?_,fun h=>?_⟩
    · rw [idxV,hs2]
      cases post with
      | nil =>
        have:sub=[]:=by cases sub <;> simp at hle ⊢
        simp [findAt,this]
      | cons x post=>simp only [findAt,isPrefixOf_take sub (x::post) hle,h,decide_true,if_true]
    · cases post with
      | nil =>
        have:sub=[]:=by cases sub <;> simp at hle ⊢
        subst this; simp at h
      | cons x post =>
        refine ⟨(pre++[x],post),by simp,⟨by simp,?_⟩,by simp⟩
        rw [hs2]
        simp only [findAt,isPrefixOf_take sub (x::post) hle,h,decide_false,Bool.false_eq_true,if_false]
        simp
  · rw [idxV,hs2,findAt_none sub post _ (by omega)]


theorem ar_ok_zzCut (Γ:Gam) (h22:Γ.fn 169=con_zzIndex):∀ args r,con_zzCut args=some r→runs Γ c_authres_zzCut args (fun v=>v=r):=by
  intro args r h
  simp only [con_zzCut] at h
  split at h <;> (try simp at h; done)
  rename_i s c
  obtain ⟨hs,rfl⟩:=ite_some h
  clear h
  simp [c_authres_zzCut]
  have h1:1 < big:=by decide
  simp [acall,h22,con_zzIndex,hs,h1]
  simp only [big] at hs
  simp only [idxV,findAt_one]
  cases hc:cutAt c.toNat s with
  | none=>simp [cutV,hc]
  | some p =>
    obtain ⟨a,b⟩:=p
    obtain ⟨x,hx1,hx2,hx3⟩:=cutAt_eq hc
    subst hx2
    simp at hs
    simp (disch:=omega) [cutV,hc,wrap64]
    have e2:((a.length:Int)+1).toNat=a.length+1:=by omega
    omega

theorem ar_ok_zzSplit (Γ:Gam) (h22:Γ.fn 169=con_zzIndex):∀ args hp q,con_zzSplit args hp=some q→runsS Γ c_authres_zzSplit args hp (fun v=>v=some q):=by
  intro args hp q h
  simp only [con_zzSplit] at h
  split at h <;> (try simp at h; done)
  rename_i s b
  obtain ⟨hs,rfl⟩:=ite_some h
  clear h
  simp only [mid] at hs
  have h1:1 < big:=by decide
  simp [c_authres_zzSplit,t_authres_zzSplit_4]
  refine awp_loop2 (σ:=List (List UInt8) × List UInt8) (fun p=>⟨[(0,.str p.2),(1,.str [b]),(5,grV 51 1 p.1.length)],grH 51 p.1.length (strsA p.1)⟩)
    (fun p=>splitB b s=p.1++splitB b p.2∧p.1.length+p.2.length≤s.length) (fun p=>p.2.length) ([],s) (by simp) (by simp) ?_
  rintro ⟨done,cur⟩ ⟨hs1,hs2⟩ LQ hLQ
  simp only at hs1 hs2
  have hcb:cur.length < big:=by simp only [big]; omega
  simp [b_authres_zzSplit_3,acall,h22,con_zzIndex,hcb,h1]
  simp only [idxV,findAt_one]
  rw [splitB_cut b cur] at hs1
  cases hc:cutAt b.toNat cur with
  | none =>
    simp only [hc] at hs1
    rw [hs1]
    cases done with
    | nil=>simp [reach_succ]
    | cons d0 dr =>
      simp [reach_succ]
      simp at hs2
      omega
  | some p =>
    obtain ⟨a,c⟩:=p
    simp only [hc] at hs1
    obtain ⟨x,hx1,hx2,hx3⟩:=cutAt_eq hc
    subst hx2
    simp at hs2
    have fin:∀ st,norm [0,1,5] st=⟨[(0,.str c),(1,.str [b]),(5,grV 51 1 (done++[a]).length)],grH 51 (done++[a]).length (strsA (done++[a]))⟩→LQ st:=by
      intro st hst
      exact hLQ (done++[a],c) ⟨by simpa using hs1,by simp; omega⟩ (by simp; omega) st hst
    have e2:((a.length:Int)+1).toNat=a.length+1:=by omega
    cases done with
    | nil =>
      simp (disch:=omega) [wrap64]
      refine ⟨by omega,by omega,⟨by omega,by omega⟩,fin _ ?_⟩
      simp
    | cons d0 dr =>
      simp at hs2
      simp (disch:=omega) [wrap64]
      refine ⟨by omega,by omega,by omega,⟨by omega,by omega⟩,fin _ ?_⟩
      simp

theorem ar_ok_zzIsSpace (Γ:Gam):∀ args r,con_zzIsSpace args=some r→runs Γ c_authres_zzIsSpace args (fun v=>v=r):=by
  intro args r h
  simp only [con_zzIsSpace] at h
  split at h <;> (try simp at h; done)
  rename_i n
  obtain ⟨hn,rfl⟩:=ite_some h
  clear h
  have f1:¬ n=133:=by omega
  have f2:¬ n=160:=by omega
  have f3:¬ n=5760:=by omega
  have f4:¬ 8192≤n:=by omega
  have f5:¬ n=8232:=by omega
  have f6:¬ n=8233:=by omega
  have f7:¬ n=8239:=by omega
  have f8:¬ n=8287:=by omega
  have f9:¬ n=12288:=by omega
  have key:∀ b:Bool,((9≤n∧n≤13)∨n=32 ↔ b=true)→b=isSp n:=by
    intro b hb; unfold isSp; cases b <;> simp at hb ⊢ <;> omega
  by_cases h1:9≤n <;> by_cases h2:n≤13 <;> by_cases h3:n=32 <;>
    simp [c_authres_zzIsSpace,f1,f2,f3,f4,f5,f6,f7,f8,f9,h1,h2,h3] <;> first | rfl | exact decide_eq_true (by omega) | exact decide_eq_false (by omega)

theorem ar_trim_inner (Γ:Gam) (Q:APost) (S:List UInt8) (x:UInt8) (i n:Nat) (f t:Int) (hn:S.length=n) (hi:S[i]? = some x) (hx:x.toNat < 128) (hb:n < 1099511627776) (hib:i < 1099511627776)
    (h:Q (.exit 4) ⟨[(0,.str S),(3,.int .i64 f),(4,.int .i64 t),(7,.int .i64 i),(8,.int .i64 1),(54,.bool false)],[]⟩) :
    awp Γ b_authres_zzTrimSpace_2 Q ⟨[(0,.str S),(3,.int .i64 f),(4,.int .i64 t),(7,.int .i64 i),(8,.int .i64 1)],[]⟩:=by
  have e192:¬ (192:Int)≤(x.toNat:Int):=by omega
  have ew:IntKind.i64.wrap ((i:Int)+1)=(i:Int)+1:=wrap64 (by omega) (by omega)
  simp only [b_authres_zzTrimSpace_2,awp_seq]
  refine awp_region_to ⟨[(0,.str S),(3,.int .i64 f),(4,.int .i64 t),(7,.int .i64 i),(8,.int .i64 1),(54,.bool false)],[]⟩ ?_ ?_
  · by_cases hlast:(i:Int)+1 < (n:Int)
    · have h1:((i:Int)+1 < (n:Int))=True:=eq_true hlast
      simp (maxSteps:=1000000) [ew,hn,hi,e192,h1]
    · have h1:((i:Int)+1 < (n:Int))=False:=eq_false hlast
      simp (maxSteps:=1000000) [ew,hn,h1]
  · simpa using h

theorem ar_ok_zzToLower (Γ:Gam):∀ args r,con_zzToLower args=some r→runs Γ c_authres_zzToLower args (fun v=>v=r):=by
  intro args r h
  simp only [con_zzToLower] at h
  split at h <;> (try simp at h; done)
  rename_i s
  obtain ⟨⟨hs,ha⟩,rfl⟩:=ite_some h
  clear h
  simp only [mid] at hs
  simp [c_authres_zzToLower,b_authres_zzToLower_1,t_authres_zzToLower_2]
  refine awp_loop (σ:=List UInt8 × List UInt8 × Nat) (fun p=>⟨[(0,.str s),(3,outV p.2.2 (lowS p.1)),(4,.int .i64 p.1.length)],outH p.2.2 (lowS p.1)⟩)
    (fun p=>s=p.1++p.2.1∧(p.2.2=18∨p.2.2=31)) (fun p=>p.2.1.length) ([],s,18) (by simp) (by simp) ?_
  rintro ⟨pre,post,d⟩ ⟨hs1,hd⟩
  simp only at hs1 hd
  subst hs1
  cases post with
  | nil =>
    by_cases ho:pre=[]
    · subst ho; simp
    · have hne:lowS pre ≠ []:=by intro e; apply ho; simpa [lowS] using e
      have e:List.take pre.length (lowS pre)=lowS pre:=List.take_of_length_le (by simp)
      simp [outV_ne hne,outH_ne hne,e]
  | cons x post =>
    simp at hs
    have hx:x.toNat < 128:=by
      have:=(by simpa [ascii_app,ascii_cons] using ha:ascii pre=true∧x.toNat < 128∧ascii post=true)
      exact this.2.1
    have hl:=lowB_toNat x
    have step:∀ (n:Int) d',n=(lowB x).toNat→(d'=18∨d'=31) →
        loopQ [0,3,4] (fun p:List UInt8 × List UInt8 × Nat=>⟨[(0,.str (pre++x::post)),(3,outV p.2.2 (lowS p.1)),(4,.int .i64 p.1.length)],outH p.2.2 (lowS p.1)⟩)
          (fun p=>pre++x::post=p.1++p.2.1∧(p.2.2=18∨p.2.2=31)) (fun p=>p.2.1.length) (pre,x::post,d)
          ⟨[(0,.str (pre++x::post)),(3,.msl d' 1 0 (pre.length+1)),(4,.int .i64 (IntKind.i64.wrap (pre.length+1)))],[(d',.cells (bcA (lowS pre)++[.int .u8 n]))]⟩:=by
      intro n d' hn h1
      subst hn
      refine ⟨(pre++[x],post,d'),?_,⟨by simp,h1⟩,by simp⟩
      have e1:outV d' (lowS (pre++[x]))=.msl d' 1 0 (pre.length+1):=by rw [outV_ne (by simp)]; simp
      have e2:outH d' (lowS (pre++[x]))=[(d',.cells (bcA (lowS pre)++[.int .u8 (lowB x).toNat]))]:=by rw [outH_ne (by simp)]; simp
      simp (disch:=omega) only [e1,e2]
      simp (disch:=omega) [wrap64]
    generalize hl2:loopQ [0,3,4] (fun p:List UInt8 × List UInt8 × Nat=>(⟨[(0,.str (pre++x::post)),(3,outV p.2.2 (lowS p.1)),(4,.int .i64 p.1.length)],outH p.2.2 (lowS p.1)⟩:St))
          (fun p=>pre++x::post=p.1++p.2.1∧(p.2.2=18∨p.2.2=31)) (fun p=>p.2.1.length) (pre,x::post,d)=LQ at step ⊢
    clear hl2
    by_cases hlow:65≤(x.toNat:Int)∧(x.toNat:Int)≤90
    · obtain ⟨l1,l2⟩:=hlow
      rw [if_pos ⟨l1,l2⟩] at hl
      have w1:IntKind.u8.wrap ((x.toNat:Int)+97)=(x.toNat:Int)+97:=Go.IntWalk.u8_in _ ⟨by omega,by omega⟩
      have w2:IntKind.u8.wrap ((x.toNat:Int)+97 - 65)=(x.toNat:Int)+97 - 65:=Go.IntWalk.u8_in _ ⟨by omega,by omega⟩
      have st:=step ((x.toNat:Int)+97 - 65) 31 (by omega) (.inr rfl)
      have tk:List.take pre.length (lowS pre)=lowS pre:=List.take_of_length_le (by simp)
      by_cases ho:pre=[]
      · subst ho
        simp [w1,w2,l1,l2]
        simpa using st
      · have hne:lowS pre ≠ []:=by intro e; apply ho; simpa [lowS] using e
        rcases hd with rfl | rfl
        · simp [outV_ne hne,outH_ne hne,w1,w2,l1,l2,tk]
          exact ⟨fun _=>⟨by omega,st⟩,by omega⟩
        · simp [outV_ne hne,outH_ne hne,w1,w2,l1,l2,tk]
          exact ⟨fun _=>⟨by omega,st⟩,by omega⟩
    · rw [if_neg hlow] at hl
      have st:=step (x.toNat:Int) 18 (by omega) (.inl rfl)
      have tk:List.take pre.length (lowS pre)=lowS pre:=List.take_of_length_le (by simp)
      have hx226:¬ x=226:=by intro e; subst e; simp at hx
      have et:((pre.length:Int)+3).toNat=pre.length+3:=by omega
      have e3:List.drop pre.length (List.take (pre.length+3) (pre++x::post))=x::post.take 2:=by
        rw [List.take_length_add_append,List.drop_left]; rfl
      have ew:((pre.length:Int)+((post.length:Int)+1) - (pre.length:Int))=(post.length:Int)+1:=by omega
      have hcase:(¬ 65≤(x.toNat:Int))∨((65≤(x.toNat:Int))∧¬ (x.toNat:Int)≤90):=by omega
      have ewr:IntKind.i64.wrap ((pre.length:Int)+1)=(pre.length:Int)+1:=wrap64 (by omega) (by omega)
      rw [ewr] at st
      by_cases ho:pre=[]
      · subst ho
        simp at st e3
        rcases hcase with l1 | ⟨l1,l2⟩
        · simp [l1]
          simp (disch:=omega) [wrap64,l1,hx226,e3]
          exact ⟨fun h=>⟨h,st⟩,fun _=>st⟩
        · simp [l1,l2]
          simp (disch:=omega) [wrap64,l1,l2,hx226,e3]
          exact ⟨fun h=>⟨h,st⟩,fun _=>st⟩
      · have hne:lowS pre ≠ []:=by intro e; apply ho; simpa [lowS] using e
        rcases hcase with l1 | ⟨l1,l2⟩
        · rcases hd with rfl | rfl
          · simp [outV_ne hne,outH_ne hne,l1]
            simp (disch:=omega) [tk,wrap64,l1,hx226,et,e3,ew]
            exact ⟨fun _=>⟨fun h=>⟨⟨by omega,h⟩,by omega,st⟩,fun _=>⟨by omega,st⟩⟩,by omega⟩
          · simp [outV_ne hne,outH_ne hne,l1]
            simp (disch:=omega) [tk,wrap64,l1,hx226,et,e3,ew]
            exact ⟨fun _=>⟨fun h=>⟨⟨by omega,h⟩,by omega,st⟩,fun _=>⟨by omega,st⟩⟩,by omega⟩
        · rcases hd with rfl | rfl
          · simp [outV_ne hne,outH_ne hne,l1,l2]
            simp (disch:=omega) [tk,wrap64,l1,l2,hx226,et,e3,ew]
            exact ⟨fun _=>⟨fun h=>⟨⟨by omega,h⟩,by omega,st⟩,fun _=>⟨by omega,st⟩⟩,by omega⟩
          · simp [outV_ne hne,outH_ne hne,l1,l2]
            simp (disch:=omega) [tk,wrap64,l1,l2,hx226,et,e3,ew]
            exact ⟨fun _=>⟨fun h=>⟨⟨by omega,h⟩,by omega,st⟩,fun _=>⟨by omega,st⟩⟩,by omega⟩

theorem ar_trim_loop2 (Γ:Gam) (h23:Γ.fn 165=con_zzIsSpace) (a b:List UInt8) (hp:plain (a++b)=true) (hs:(a++b).length < 1099511627776) (ha:∀ x∈a,isWs x.toNat=true) (hb:∀ x r,b=x::r→isWs x.toNat=false) :
    awp Γ (.loop [0,3,4,7] b_authres_zzTrimSpace_4) (blockQ 2 (thenQ (awp Γ t_authres_zzTrimSpace_5 (finQ [.t 2] fun v=>v=.str (trimS (a++b)))) (finQ [.t 2] fun v=>v=.str (trimS (a++b)))))
      ⟨[(0,.str (a++b)),(3,.int .i64 a.length),(4,.int .i64 (a++b).length),(7,.int .i64 a.length)],[]⟩:=by
  have htrim:trimS (a++b)=trimR b:=by rw [trimS,trimL_app ha,trimL_nw hb]
  rw [htrim]
  refine awp_loop (σ:=List UInt8 × List UInt8) (fun p=>⟨[(0,.str (a++b)),(3,.int .i64 a.length),(4,.int .i64 (toV (a++b).length a p.1)),(7,.int .i64 (a.length+p.1.length))],[]⟩)
    (fun p=>b=p.1++p.2) (fun p=>p.2.length) ([],b) (by simp [toV]) (by simp) ?_
  rintro ⟨c,d⟩ hcd
  simp only at hcd
  subst hcd
  simp at hs
  cases d with
  | nil =>
    simp [b_authres_zzTrimSpace_4,t_authres_zzTrimSpace_5]
    refine ⟨fun h=>?_,fun h=>?_⟩
    · have:c=[]:=List.length_eq_zero_iff.1 (by omega)
      subst this; simp [trimR]
    · have hc:c ≠ []:=by intro e; subst e; simp at h
      obtain ⟨t,ht⟩:=trimR_prefix c
      have hl:(trimR c).length≤c.length:=trimR_length c
      have e1:toV (a.length+c.length) a c=(a.length:Int)+((trimR c).length:Int):=if_neg hc
      have e2:((a.length:Int)+((trimR c).length:Int)).toNat=a.length+(trimR c).length:=by omega
      rw [e1,e2]
      refine ⟨⟨by omega,by omega⟩,?_⟩
      rw [List.take_length_add_append,List.drop_left]
      generalize trimR c=q at ht ⊢
      subst ht; simp
  | cons x d =>
    have hpx:plainB x=true:=by
      have h1:(plain a && (plain c && plain (x::d)))=true:=by rw [← plain_app,← plain_app]; exact hp
      simp only [Bool.and_eq_true,plain,List.all_cons] at h1
      exact h1.2.2.1
    have hx:=plainB_lt hpx
    have hx2:(x.toNat:Int) < 128:=by omega
    have step:∀ v:Int,v=toV (a++(c++x::d)).length a (c++[x])→loopQ [0,3,4,7] (fun p:List UInt8 × List UInt8=>⟨[(0,.str (a++(c++x::d))),(3,.int .i64 a.length),(4,.int .i64 (toV (a++(c++x::d)).length a p.1)),(7,.int .i64 (a.length+p.1.length))],[]⟩)
        (fun p=>c++x::d=p.1++p.2) (fun p=>p.2.length) (c,x::d)
        ⟨[(0,.str (a++(c++x::d))),(3,.int .i64 a.length),(4,.int .i64 v),(7,.int .i64 (a.length+c.length+1))],[]⟩:=by
      intro v hv
      subst hv
      refine ⟨(c++[x],d),?_,by simp,by simp⟩
      have:((a.length:Int)+c.length+1)=(a.length:Int)+((c++[x]).length:Int):=by simp; omega
      rw [this]
      simp
    generalize hl:loopQ [0,3,4,7] (fun p:List UInt8 × List UInt8=>(⟨[(0,.str (a++(c++x::d))),(3,.int .i64 a.length),(4,.int .i64 (toV (a++(c++x::d)).length a p.1)),(7,.int .i64 (a.length+p.1.length))],[]⟩:St))
        (fun p=>c++x::d=p.1++p.2) (fun p=>p.2.length) (c,x::d)=LQ at step ⊢
    clear hl
    simp at hs
    have hget:(a++(c++x::d))[a.length+c.length]? = some x:=by
      rw [← List.append_assoc,List.getElem?_append_right (by simp)]; simp
    simp [b_authres_zzTrimSpace_4]
    refine ⟨fun _=>?_,fun h=>by omega⟩
    refine awp_loop (σ:=Unit) (fun _=>⟨[(0,.str (a++(c++x::d))),(3,.int .i64 a.length),(4,.int .i64 (toV (a.length+(c.length+(d.length+1))) a c)),(7,.int .i64 (a.length+c.length)),(8,.int .i64 1)],[]⟩) (fun _=>True) (fun _=>0) () (by simp) trivial ?_
    intro _ _
    have en:((a.length:Int)+(c.length:Int))=((a.length+c.length:Nat):Int):=by omega
    have ew:IntKind.i64.wrap ((a.length:Int)+c.length+1)=(a.length:Int)+c.length+1:=wrap64 (by omega) (by omega)
    rw [en]
    refine ar_trim_inner Γ _ (a++(c++x::d)) x (a.length+c.length) (a.length+(c.length+(d.length+1))) _ _ (by simp) hget hx (by omega) (by omega) ?_
    rw [← en]
    have en2:((a.length:Int)+(c.length:Int)).toNat=a.length+c.length:=by omega
    have en3:((a.length:Int)+(c.length:Int)+1).toNat=a.length+c.length+1:=by omega
    have esl:List.drop (a.length+c.length) (List.take (a.length+c.length+1) (a++(c++x::d)))=[x]:=by
      rw [← List.append_assoc,show a.length+c.length=(a++c).length by simp,List.take_length_add_append,List.drop_left]; rfl
    have erun:runesF 1 [x]=[x.toNat]:=by simp [runesF,decR_ascii hx]
    simp [t_authres_zzTrimSpace_3,ew,en2,en3,esl,erun,rcA,acall,h23,con_zzIsSpace,hx2]
    refine ⟨⟨by omega,by omega,by omega⟩,fun hw=>step _ ?_,fun hw=>step _ ?_⟩
    · rw [isSp_ws hpx] at hw
      simp [toV,trimR_nw hw]
      try omega
    · rw [isSp_ws hpx] at hw
      have hc:c ≠ []:=by
        intro e; subst e
        rw [hb x d rfl] at hw; simp at hw
      simp [toV,hc,trimR_ws hw]

theorem ar_ok_zzTrimSpace (Γ:Gam) (h23:Γ.fn 165=con_zzIsSpace):∀ args r,con_zzTrimSpace args=some r→runs Γ c_authres_zzTrimSpace args (fun v=>v=r):=by
  intro args r h
  simp only [con_zzTrimSpace] at h
  split at h <;> (try simp at h; done)
  rename_i s
  obtain ⟨⟨hs,hp⟩,rfl⟩:=ite_some h
  clear h
  simp only [mid] at hs
  simp [c_authres_zzTrimSpace]
  refine awp_loop (σ:=List UInt8 × List UInt8) (fun p=>⟨[(0,.str s),(3,.int .i64 s.length),(4,.int .i64 s.length),(16,.ref 16 0)],[(16,.sit s p.1.length)]⟩)
    (fun p=>s=p.1++p.2∧∀ x∈p.1,isWs x.toNat=true) (fun p=>p.2.length) ([],s) (by simp) (by simp) ?_
  rintro ⟨a,b⟩ ⟨hs1,ha⟩
  simp only at hs1 ha
  cases b with
  | nil =>
    simp at hs1
    subst hs1
    simp [b_authres_zzTrimSpace_1,t_authres_zzTrimSpace_6]
    have:=ar_trim_loop2 Γ h23 s [] (by simpa using hp) (by simpa using hs) ha (by simp)
    simpa using this
  | cons x b =>
    subst hs1
    have hpx:plainB x=true∧plain b=true:=by
      have:(plain a && plain (x::b))=true:=by rw [← plain_app]; exact hp
      simp only [Bool.and_eq_true] at this
      have h2:=this.2
      simp only [plain,List.all_cons,Bool.and_eq_true] at h2
      exact h2
    have e1:List.drop a.length (a++x::b)=x::b:=by simp
    have hx:=plainB_lt hpx.1
    have hx2:(x.toNat:Int) < 128:=by omega
    simp [b_authres_zzTrimSpace_1,t_authres_zzTrimSpace_6,e1,decR_ascii hx,acall,h23,con_zzIsSpace,hx2]
    refine ⟨fun hw=>?_,fun hw=>?_⟩
    · have:=ar_trim_loop2 Γ h23 a (x::b) hp hs ha (fun y r e=>by injection e with e1 e2; subst e1; rw [← isSp_ws hpx.1]; exact hw)
      simpa using this
    · refine ⟨(a++[x],b),by simp,⟨by simp,?_⟩,by simp⟩
      intro y hy
      simp at hy
      rcases hy with hy | rfl
      · exact ha y hy
      · rw [← isSp_ws hpx.1]; exact hw

end Wax


namespace Wax
open Go (IntKind)

def strV (l:List (List UInt8)):AV:=match l with | []=>.nilS | _=>.sl 1 (strsA l)
theorem slStrs_strV {l:List (List UInt8)}:slStrs (strV l)=some l:=by
  cases l <;> simp [strV,slStrs,← strsA_cons]

end Wax


namespace Wax
open Go (IntKind)

def sortB (l:List (List UInt8)):List (List UInt8):=l.mergeSort (fun x y=>decide (x≤y))

def con_Keys:List AV→Option AV
  | [.mp es]=>some (.fn 55 [.bx [.mp es]])
  | _=>none

theorem ok_Keys (Γ:Gam):∀ args r,con_Keys args=some r→runs Γ c_maps_Keys args (fun v=>v=r):=by
  intro args r h
  simp only [con_Keys] at h
  split at h <;> (try simp at h; done)
  injection h with h; subst h
  simp [c_maps_Keys]

def con_Sorted:List AV→Option AV
  | [.fn 55 [.bx [.mp es]]]=>if es.length < half∧(∀ q∈es,q.1.length < half) then some (strV (sortB (es.map (·.1)))) else none
  | _=>none

def lookP:List (List UInt8 × List UInt8)→List UInt8→List UInt8
  | [],_=>[]
  | (i,v)::r,k=>if k=i then v else lookP r k
theorem lookA_pmA:∀ (l:List (List UInt8 × List UInt8)) (k:List UInt8),lookA (pmA l) k (.str []) false=.str (lookP l k)
  | [],k=>rfl
  | (i,v)::r,k=>by
    have:=lookA_pmA r k
    by_cases h:k=i <;> simp [pmA,lookA,mfind,lookP,h] at this ⊢
    exact this

def sortP (acc:List (List UInt8 × List UInt8)):List (List UInt8 × List UInt8):=(sortB (acc.map (·.1))).map fun k=>(k,lookP acc k)

end Wax


namespace Wax
open Go (IntKind)

theorem pl_cons {x:UInt8} {s:L8}:plain (x::s)=(plainB x && plain s):=rfl

def wordsV (l:List L8):AV:=match l with | []=>.nilS | _=>.sl 1 (strsA l)
def con_zzFields:List AV→Option AV
  | [.str s]=>if s.length < mid∧plain s=true then some (wordsV (wordsOf s)) else none
  | _=>none

def fromV (pre cur:L8):Int:=if cur=[] then -1 else (pre.length:Int)

set_option maxHeartbeats 1000000 in
theorem ok_zzFields (Γ:Gam) (h165:Γ.fn 165=con_zzIsSpace):∀ args r,con_zzFields args=some r→runs Γ c_authres_zzFields args (fun v=>v=r):=by
  intro args r h
  simp only [con_zzFields] at h
  split at h <;> (try simp at h; done)
  rename_i s
  obtain ⟨⟨hs,hp⟩,rfl⟩:=ite_some h
  clear h
  simp only [mid] at hs
  simp -implicitDefEqProofs [c_authres_zzFields]
  refine awp_loop2 (σ:=List L8 × L8 × L8 × L8) (fun p=>⟨[(0,.str s),(3,grV 24 1 p.1.length),(4,.int .i64 (fromV p.2.1 p.2.2.1)),(8,.ref 8 0)],grH 24 p.1.length (strsA p.1)++[(8,.sit s (p.2.1.length+p.2.2.1.length))]⟩)
    (fun p=>s=p.2.1++(p.2.2.1++p.2.2.2)∧wordsOf s=p.1++wordsGo p.2.2.1 p.2.2.2∧p.1.length≤p.2.1.length) (fun p=>p.2.2.2.length) ([],[],[],s) (by simp [fromV]) (by simp [wordsOf]) ?_
  rintro ⟨outs,pre,cur,post⟩ ⟨e1,e2,e3⟩ LQ hLQ
  simp only at e1 e2 e3
  have hlen:s.length=pre.length+(cur.length+post.length):=by rw [e1]; simp
  cases post with
  | nil =>
    simp only [List.append_nil,wordsGo] at e1 e2
    simp only [List.length_nil,Nat.add_zero] at hlen
    rw [e2]
    by_cases hc:cur=[]
    · subst hc
      cases outs with
      | nil=>simp -implicitDefEqProofs [b_authres_zzFields_1,t_authres_zzFields_2,hlen,fromV,wordsV]
      | cons o outs=>simp -implicitDefEqProofs [b_authres_zzFields_1,t_authres_zzFields_2,hlen,fromV,wordsV]
    · have ed:s.drop pre.length=cur:=by rw [e1,List.drop_left' rfl]
      have hf:fromV pre cur=(pre.length:Int):=if_neg hc
      have hle:(pre.length:Int)≤(s.length:Int):=by omega
      cases outs with
      | nil =>
        simp -implicitDefEqProofs [b_authres_zzFields_1,t_authres_zzFields_2,hlen,hf,hc,wordsV,ed]
        try omega
      | cons o outs =>
        simp at e3
        simp -implicitDefEqProofs [b_authres_zzFields_1,t_authres_zzFields_2,hlen,hf,hc,wordsV,ed]
        exact ⟨by omega,List.take_of_length_le (by simp)⟩
  | cons x post =>
    have hpx:plainB x=true:=by
      rw [e1,plain_app,plain_app,pl_cons] at hp
      simp only [Bool.and_eq_true] at hp
      exact hp.2.2.1
    have hx:=plainB_lt hpx
    have hx2:(x.toNat:Int) < 128:=by omega
    have hpos:pre.length+cur.length < s.length:=by rw [hlen]; simp
    have hdr:s.drop (pre.length+cur.length)=x::post:=by
      rw [e1,← List.append_assoc,show pre.length+cur.length=(pre++cur).length by simp,List.drop_left' rfl]
    have hd:decR (x::post)=(x.toNat,1):=decR_ascii hx
    have hsp:=isSp_ws hpx
    simp only [List.length_cons] at hlen
    cases hw:isWs x.toNat with
    | false =>
      rw [hw] at hsp
      have e2':wordsOf s=outs++wordsGo (cur++[x]) post:=by rw [e2]; simp [wordsGo,hw]
      have f:∀ st,norm [0,3,4,8] st=⟨[(0,.str s),(3,grV 24 1 outs.length),(4,.int .i64 (pre.length:Int)),(8,.ref 8 0)],grH 24 outs.length (strsA outs)++[(8,.sit s (pre.length+(cur.length+1)))]⟩→LQ st:=by
        intro st hst
        refine hLQ (outs,pre,cur++[x],post) ⟨by rw [e1]; simp,e2',e3⟩ (by simp) st ?_
        rw [hst]; simp [fromV]
      by_cases hc:cur=[]
      · subst hc
        have hf:fromV pre ([]:L8) = -1:=if_pos rfl
        simp only [List.length_nil,Nat.add_zero] at hpos hdr
        cases outs with
        | nil =>
          simp -implicitDefEqProofs [b_authres_zzFields_1,hpos,hdr,hd,acall,h165,con_zzIsSpace,hx2,hsp,hf]
          exact f _ (by simp)
        | cons o outs =>
          simp -implicitDefEqProofs [b_authres_zzFields_1,hpos,hdr,hd,acall,h165,con_zzIsSpace,hx2,hsp,hf]
          exact f _ (by simp)
      · have hf:fromV pre cur=(pre.length:Int):=if_neg hc
        have hng:¬ ((pre.length:Int) < 0):=by omega
        cases outs with
        | nil =>
          simp -implicitDefEqProofs [b_authres_zzFields_1,hpos,hdr,hd,acall,h165,con_zzIsSpace,hx2,hsp,hf,hng]
          exact f _ (by simp [Nat.add_assoc])
        | cons o outs =>
          simp -implicitDefEqProofs [b_authres_zzFields_1,hpos,hdr,hd,acall,h165,con_zzIsSpace,hx2,hsp,hf,hng]
          exact f _ (by simp [Nat.add_assoc])
    | true =>
      rw [hw] at hsp
      by_cases hc:cur=[]
      · subst hc
        have hf:fromV pre ([]:L8) = -1:=if_pos rfl
        simp only [List.length_nil,Nat.add_zero] at hpos hdr
        have e2':wordsOf s=outs++wordsGo [] post:=by rw [e2]; simp [wordsGo,hw]
        have f:∀ st,norm [0,3,4,8] st=⟨[(0,.str s),(3,grV 24 1 outs.length),(4,.int .i64 (-1)),(8,.ref 8 0)],grH 24 outs.length (strsA outs)++[(8,.sit s (pre.length+1))]⟩→LQ st:=by
          intro st hst
          refine hLQ (outs,pre++[x],[],post) ⟨by rw [e1]; simp,e2',by simp; omega⟩ (by simp) st ?_
          rw [hst]; simp [fromV]
        cases outs with
        | nil =>
          simp -implicitDefEqProofs [b_authres_zzFields_1,hpos,hdr,hd,acall,h165,con_zzIsSpace,hx2,hsp,hf]
          exact f _ (by simp)
        | cons o outs =>
          simp -implicitDefEqProofs [b_authres_zzFields_1,hpos,hdr,hd,acall,h165,con_zzIsSpace,hx2,hsp,hf]
          exact f _ (by simp)
      · have hf:fromV pre cur=(pre.length:Int):=if_neg hc
        have hcl:0 < cur.length:=List.length_pos_iff.2 hc
        have e2':wordsOf s=(outs++[cur])++wordsGo [] post:=by rw [e2]; simp [wordsGo,hw,hc]
        have et:List.drop pre.length (List.take (pre.length+cur.length) s)=cur:=by
          rw [e1,← List.append_assoc,show pre.length+cur.length=(pre++cur).length by simp,List.take_left' rfl,List.drop_left' rfl]
        have f:∀ st,norm [0,3,4,8] st=⟨[(0,.str s),(3,.msl 24 1 0 (outs.length+1)),(4,.int .i64 (-1)),(8,.ref 8 0)],[(24,.cells (strsA outs++[.str cur])),(8,.sit s (pre.length+cur.length+1))]⟩→LQ st:=by
          intro st hst
          refine hLQ (outs++[cur],pre++cur++[x],[],post) ⟨by rw [e1]; simp,e2',by simp; omega⟩ (by simp) st ?_
          rw [hst]; simp [fromV,Nat.add_assoc]
        have en1:((pre.length:Int)+(cur.length:Int)).toNat=pre.length+cur.length:=by omega
        cases outs with
        | nil =>
          simp -implicitDefEqProofs [b_authres_zzFields_1,hpos,hdr,hd,acall,h165,con_zzIsSpace,hx2,hsp,hf,et,en1]
          refine ⟨?_,f _ ?_⟩
          · omega
          · simp
        | cons o outs =>
          simp at e3
          simp -implicitDefEqProofs [b_authres_zzFields_1,hpos,hdr,hd,acall,h165,con_zzIsSpace,hx2,hsp,hf,et,en1]
          refine ⟨?_,?_,f _ ?_⟩
          · omega
          · omega
          · simp

def arMsg:L8:=[109,115,103,97,117,116,104,58,32,109,97,108,102,111,114,109,101,100,32,97,117,116,104,101,110,116,105,99,97,116,105,111,110,32,109,101,116,104,111,100,32,97,110,100,32,118,97,108,117,101]
def kvOf (s:L8):Option KVp:=(cutAt 61 s).map fun p=>(lowS (trimS p.1),trimS p.2)
def kvV:Option KVp→AV
  | some p=>.tup [.str p.1,.str p.2,.nilI]
  | none=>.tup [.str [],.str [],.ifc 3 (.ptr [.str arMsg])]
def con_parseParam:List AV→Option AV
  | [.str s]=>if s.length < mid∧plain s=true then some (kvV (kvOf s)) else none
  | _=>none

theorem ar_trimS_mem {s:L8} {x:UInt8} (h:x∈trimS s):x∈s:=by
  simp only [trimS,trimR,trimL,List.mem_reverse] at h
  have h1:=(List.dropWhile_sublist _).mem h
  exact (List.dropWhile_sublist _).mem (List.mem_reverse.1 h1)

theorem ok_parseParam (Γ:Gam) (h174:Γ.fn 174=con_zzCut) (h50:Γ.fn 50=con_errorsNew) (h163:Γ.fn 163=con_zzTrimSpace) (h172:Γ.fn 172=con_zzToLower) :
    ∀ args r,con_parseParam args=some r→runs Γ c_authres_parseParam args (fun v=>v=r):=by
  intro args r h
  simp only [con_parseParam] at h
  split at h <;> (try simp at h; done)
  rename_i s
  obtain ⟨⟨hs,hp⟩,rfl⟩:=ite_some h
  clear h
  have e1:s.length < big:=by simp only [mid,big] at *; omega
  have k1:con_zzCut [.str s,.str [61]]=some (cutV 61 s):=if_pos e1
  cases hc:cutAt 61 s with
  | none =>
    simp -implicitDefEqProofs [c_authres_parseParam,acall,h174,k1,cutV,hc,h50,con_errorsNew,kvOf,kvV,arMsg]
  | some p =>
    obtain ⟨x,hx1,hx2,hx3⟩:=cutAt_eq hc
    have m1:∀ y∈p.1,y∈s:=fun y hy=>by rw [hx2]; simp [hy]
    have m2:∀ y∈p.2,y∈s:=fun y hy=>by rw [hx2]; simp [hy]
    have l1:p.1.length < s.length∧p.2.length < s.length:=by rw [hx2]; simp; omega
    have t1:=trimS_length p.1
    have k2:con_zzTrimSpace [.str p.1]=some (.str (trimS p.1)):=if_pos ⟨by omega,plain_sub m1 hp⟩
    have k3:con_zzTrimSpace [.str p.2]=some (.str (trimS p.2)):=if_pos ⟨by omega,plain_sub m2 hp⟩
    have k4:con_zzToLower [.str (trimS p.1)]=some (.str (lowS (trimS p.1))):=if_pos ⟨by omega,plain_ascii (plain_sub (fun y hy=>m1 y (ar_trimS_mem hy)) hp)⟩
    simp -implicitDefEqProofs [c_authres_parseParam,acall,h174,k1,cutV,hc,h163,k2,k3,h172,k4,kvOf,kvV]

def wsAt:L8→Nat→Option Nat
  | [],_=>none
  | x::r,n=>if isWs x.toNat then some n else wsAt r (n+1)
def wsV (s:L8):Int:=match wsAt s 0 with | some n=>(n:Int) | none => -1
def con_indexFunc:List AV→Option AV
  | [.str s,.fn 165 [],.bool true]=>if s.length < mid∧plain s=true then some (.int .i64 (wsV s)) else none
  | _=>none
def con_IndexFunc:List AV→Option AV
  | [.str s,.fn 165 []]=>if s.length < mid∧plain s=true then some (.int .i64 (wsV s)) else none
  | _=>none

theorem ok_indexFunc (Γ:Gam) (h165:Γ.fn 165=con_zzIsSpace):∀ args r,con_indexFunc args=some r→runs Γ c_strings_indexFunc args (fun v=>v=r):=by
  intro args r h
  simp only [con_indexFunc] at h
  split at h <;> (try simp at h; done)
  rename_i s
  obtain ⟨⟨hs,hp⟩,rfl⟩:=ite_some h
  clear h
  simp only [mid] at hs
  simp -implicitDefEqProofs [c_strings_indexFunc]
  refine awp_loop2 (σ:=L8 × L8) (fun p=>⟨[(1,.fn 165 []),(2,.bool true),(10,.ref 10 0)],[(10,.sit s p.1.length)]⟩)
    (fun p=>s=p.1++p.2∧wsAt s 0=wsAt p.2 p.1.length) (fun p=>p.2.length) ([],s) (by simp) (by simp) ?_
  rintro ⟨pre,post⟩ ⟨e1,e2⟩ LQ hLQ
  simp only at e1 e2
  cases post with
  | nil =>
    have hlen:s.length=pre.length:=by rw [e1]; simp
    simp -implicitDefEqProofs [hlen,wsV,e2,wsAt]
  | cons x post =>
    have hpx:plainB x=true:=by
      rw [e1,plain_app,pl_cons] at hp
      simp only [Bool.and_eq_true] at hp
      exact hp.2.1
    have hx:=plainB_lt hpx
    have hx2:(x.toNat:Int) < 128:=by omega
    have hlen:s.length=pre.length+(post.length+1):=by rw [e1]; simp
    have hpos:pre.length < s.length:=by omega
    have hdr:s.drop pre.length=x::post:=by rw [e1,List.drop_left' rfl]
    have hd:decR (x::post)=(x.toNat,1):=decR_ascii hx
    have hsp:=isSp_ws hpx
    cases hw:isWs x.toNat with
    | true =>
      rw [hw] at hsp
      simp -implicitDefEqProofs [hpos,hdr,hd,acall,h165,con_zzIsSpace,hx2,hsp,wsV,e2,wsAt,hw,leafEq]
    | false =>
      rw [hw] at hsp
      simp -implicitDefEqProofs [hpos,hdr,hd,acall,h165,con_zzIsSpace,hx2,hsp,leafEq]
      exact hLQ (pre++[x],post) ⟨by rw [e1]; simp,by rw [e2]; simp [wsAt,hw]⟩ (by simp) _ (by simp)
theorem ok_IndexFunc (Γ:Gam) (h197:Γ.fn 197=con_indexFunc):∀ args r,con_IndexFunc args=some r→runs Γ c_strings_IndexFunc args (fun v=>v=r):=by
  intro args r h
  simp only [con_IndexFunc] at h
  split at h <;> (try simp at h; done)
  rename_i s
  obtain ⟨hs,rfl⟩:=ite_some h
  clear h
  have k:con_indexFunc [.str s,.fn 165 [],.bool true]=some (.int .i64 (wsV s)):=if_pos hs
  simp -implicitDefEqProofs [c_strings_IndexFunc,acall,h197,k]
end Wax


namespace Wax
open Go Go.RowKit

def badAt (x:Lib.NumEnd Int):Prop:=(∀ v,x ≠ .ok v)∧x ≠ .range
theorem badAt_eq {x y:Lib.NumEnd Int} (h:badAt x) (hy:badAt y:=by exact ⟨fun v h=>(by cases h),fun h=>(by cases h)⟩):x=y:=by
  cases x <;> cases y <;> first | rfl | exact absurd rfl (h.1 _) | exact absurd rfl h.2 | exact absurd rfl (hy.1 _) | exact absurd rfl hy.2

def AtoiSays (P:Program) (T:Tab) (f:FuncId):Prop :=
  ∃ (e5 tE:TypeId) (gS gR:Nat),lkN T.tys tE=some 4∧lkGl T.gl gS=some [.ifc 3 .junk]∧lkGl T.gl gR=some [.ifc 3 .junk] ∧
  (∀ (s:ByteArray) (_:s.size≤9223372036854775806) (v:Int) (_:Lib.atoiAll s.data.toList=.ok v) (w:World),
    Calls P f #[.string s] w fun e w'=>e=.returned (.tuple #[.int .i64 v,.nilIface])∧(w'=w∨∃ t,w'=Lib.bytesWorld w e5 t)) ∧
  (∀ (s:ByteArray) (_:s.size≤281474976710656) (_:badAt (Lib.atoiAll s.data.toList)) (ev:Value) (w:World) (_:w.cell? ⟨gS,0,none⟩=some ev) (_:ev=.nilIface∨∃ te pe,ev=.iface te pe),
    Calls P f #[.string s] w fun e w'=>∃ y,e=.returned (.tuple #[.int .i64 0,.iface tE y])∧Below w.heap.size w w') ∧
  (∀ (s:ByteArray) (_:s.size≤281474976710656) (_:Lib.atoiAll s.data.toList=.range) (ev:Value) (w:World) (_:w.cell? ⟨gR,0,none⟩=some ev) (_:ev=.nilIface∨∃ te pe,ev=.iface te pe),
    Calls P f #[.string s] w fun e w'=>∃ y,e=.returned (.tuple #[.int .i64 (Lib.atoiSat s.data.toList),.iface tE y])∧Below w.heap.size w w')

def atoiV (s:List UInt8):AV:=match Lib.atoiAll s with
  | .ok v=>.tup [.int .i64 v,.nilI]
  | .range=>.tup [.int .i64 (Lib.atoiSat s),.ifc 4 .junk]
  | _=>.tup [.int .i64 0,.ifc 4 .junk]

def con_Atoi:List AV→Option AV
  | [.str s]=>if s.length < mid then some (atoiV s) else none
  | _=>none

theorem globErr2 {T:Tab} {w:World} {F:Frz} {g:Nat} (hgl:GlobOk T w F) (hg:lkGl T.gl g=some [.ifc 3 .junk]):∃ ev,w.cell? ⟨g,0,none⟩=some ev∧(ev=.nilIface∨∃ te pe,ev=.iface te pe):=by
  have h:=(hgl g _ hg).1
  simp only [RepAt,Rep,and_true] at h
  obtain ⟨_,x,hx,t,y,rfl,_⟩:=h
  exact ⟨_,hx,.inr ⟨t,y,rfl⟩⟩

theorem below_bytesW2 (w:World) (e:TypeId) (s:ByteArray):Below w.heap.size w (Lib.bytesWorld w e s) :=
  ⟨rfl,rfl,rfl,by rw [Lib.bytesWorld_size]; omega,fun j hj=>Lib.bytesWorld_at_old w e s j hj⟩

theorem ok_Atoi {P:Program} {T:Tab} {f:FuncId} (H:AtoiSays P T f):∀ args r,con_Atoi args=some r→OkCall P T f args r:=by
  intro args r h w F vs hF hgl hx
  obtain ⟨e5,tE,gS,gR,ht,hgS,hgR,H1,H2,H3⟩:=H
  simp only [con_Atoi] at h
  split at h <;> (try simp at h; done)
  rename_i s
  obtain ⟨hlen,rfl⟩:=ite_some h
  clear h
  simp only [mid] at hlen
  match vs,hx with
  | [v1],hx =>
    simp only [RepL,and_true,Rep] at hx
    subst hx
    have hsz:(⟨s.toArray⟩:ByteArray).size=s.length:=by show s.toArray.size=_; simp
    have he:Lib.atoiAll (⟨s.toArray⟩:ByteArray).data.toList=Lib.atoiAll s:=rfl
    have he2:Lib.atoiSat (⟨s.toArray⟩:ByteArray).data.toList=Lib.atoiSat s:=rfl
    have bad:∀ (n:Int) e w',(∃ y,e=Ending.returned (.tuple #[.int .i64 n,.iface tE y])∧Below w.heap.size w w')→∃ v,e=.returned v∧Below w.heap.size w w'∧Rep T w' (fun b=>F b∨(w.heap.size≤b∧b < w'.heap.size)) noRho (.tup [.int .i64 n,.ifc 4 .junk]) v:=by
      rintro n e w' ⟨y,rfl,hb⟩
      refine ⟨_,rfl,hb,_,rfl,?_⟩
      simp only [RepL,Rep,and_true,true_and]
      exact ⟨tE,y,rfl,ht⟩
    simp only [atoiV]
    cases hq:Lib.atoiAll s with
    | ok v =>
      refine (H1 _ (by omega) v (by rw [he,hq]) w).mono ?_
      rintro e w' ⟨rfl,hw⟩
      refine ⟨_,rfl,?_,?_⟩
      · rcases hw with rfl | ⟨t,rfl⟩
        · exact Below.refl _ _
        · exact below_bytesW2 _ _ _
      · exact ⟨_,rfl,by simp [RepL,Rep]⟩
    | range =>
      obtain ⟨ev,h1,h2⟩:=globErr2 hgl hgR
      exact (H3 _ (by omega) (by rw [he,hq]) ev w h1 h2).mono (bad _ · ·)
    | _ =>
      obtain ⟨ev,h1,h2⟩:=globErr2 hgl hgS
      exact (H2 _ (by omega) (by rw [he,hq]; exact ⟨fun v h=>(by cases h),fun h=>(by cases h)⟩) ev w h1 h2).mono (bad _ · ·)
end Wax


namespace Wax

theorem lexLt_eq:∀ x y:List UInt8,lexLt x y=decide (x < y)
  | [],[]=>by simp [lexLt,Go.Op.bytesLess]
  | _::_,[]=>by simp [lexLt,Go.Op.bytesLess]
  | [],_::_=>by simp [lexLt,Go.Op.bytesLess]
  | a::x,b::y=>by
    have ih:=lexLt_eq x y
    simp only [lexLt] at ih
    simp only [lexLt,Go.Op.bytesLess,ih,List.cons_lt_cons_iff,Bool.decide_or,Bool.decide_and]
    congr 2

abbrev KV:=List UInt8 × List UInt8

def Asc (l:List KV):Prop:=l.Pairwise fun a b=>a.1 < b.1

theorem lookP_mem:∀ {l:List KV} {k v},(l.map (·.1)).Nodup→(k,v)∈l→lookP l k=v
  | [],k,v,_,h=>by simp at h
  | (i,u)::r,k,v,hn,h=>by
    simp only [List.map_cons,List.nodup_cons] at hn
    rcases List.mem_cons.1 h with h | h
    · simp at h; obtain ⟨rfl,rfl⟩:=h; simp [lookP]
    · have:¬ k=i:=fun e=>hn.1 (by rw [← e]; exact List.mem_map.2 ⟨_,h,rfl⟩)
      simp only [lookP,if_neg this]
      exact lookP_mem hn.2 h

end Wax


namespace Wax
open Go (IntKind)

theorem dm_ok_zzIndex (Γ:Gam):∀ args r,con_zzIndex args=some r→runs Γ c_dmarc_zzIndex args (fun v=>v=r):=by
  intro args r h
  simp only [con_zzIndex] at h
  split at h <;> (try simp at h; done)
  rename_i s sub
  obtain ⟨⟨hs,hb⟩,rfl⟩:=ite_some h
  clear h
  simp only [big] at hs hb
  simp [c_dmarc_zzIndex]
  refine awp_loop (σ:=List UInt8 × List UInt8) (fun p=>⟨[(0,.str s),(1,.str sub),(5,.int .i64 p.1.length)],[]⟩) (fun p=>s=p.1++p.2∧findAt sub s 0=findAt sub p.2 p.1.length) (fun p=>p.2.length) ([],s) (by simp) (by simp) ?_
  rintro ⟨pre,post⟩ ⟨hs1,hs2⟩
  simp only at hs1 hs2
  subst hs1
  simp at hs
  simp (disch:=omega) [wrap64]
  refine ⟨fun hle=>?_,fun hlt=>?_⟩
  · have et:((pre.length:Int)+(sub.length:Int)).toNat=pre.length+sub.length:=by omega
    have e:List.drop pre.length (List.take (pre.length+sub.length) (pre++post))=post.take sub.length:=by
      rw [List.take_length_add_append,List.drop_left]
    rw [et,e]
    refine ⟨⟨by omega,hle⟩,fun h=>?_,fun h=>?_⟩
    · rw [idxV,hs2]
      cases post with
      | nil =>
        have:sub=[]:=by cases sub <;> simp at hle ⊢
        simp [findAt,this]
      | cons x post=>simp only [findAt,isPrefixOf_take sub (x::post) hle,h,decide_true,if_true]
    · cases post with
      | nil =>
        have:sub=[]:=by cases sub <;> simp at hle ⊢
        subst this; simp at h
      | cons x post =>
        refine ⟨(pre++[x],post),by simp,⟨by simp,?_⟩,by simp⟩
        rw [hs2]
        simp only [findAt,isPrefixOf_take sub (x::post) hle,h,decide_false,Bool.false_eq_true,if_false]
        simp
  · rw [idxV,hs2,findAt_none sub post _ (by omega)]


theorem dm_ok_zzSplit (Γ:Gam) (h22:Γ.fn 161=con_zzIndex):∀ args hp q,con_zzSplit args hp=some q→runsS Γ c_dmarc_zzSplit args hp (fun v=>v=some q):=by
  intro args hp q h
  simp only [con_zzSplit] at h
  split at h <;> (try simp at h; done)
  rename_i s b
  obtain ⟨hs,rfl⟩:=ite_some h
  clear h
  simp only [mid] at hs
  have h1:1 < big:=by decide
  simp [c_dmarc_zzSplit,t_dmarc_zzSplit_4]
  refine awp_loop2 (σ:=List (List UInt8) × List UInt8) (fun p=>⟨[(0,.str p.2),(1,.str [b]),(5,grV 51 1 p.1.length)],grH 51 p.1.length (strsA p.1)⟩)
    (fun p=>splitB b s=p.1++splitB b p.2∧p.1.length+p.2.length≤s.length) (fun p=>p.2.length) ([],s) (by simp) (by simp) ?_
  rintro ⟨done,cur⟩ ⟨hs1,hs2⟩ LQ hLQ
  simp only at hs1 hs2
  have hcb:cur.length < big:=by simp only [big]; omega
  simp [b_dmarc_zzSplit_3,acall,h22,con_zzIndex,hcb,h1]
  simp only [idxV,findAt_one]
  rw [splitB_cut b cur] at hs1
  cases hc:cutAt b.toNat cur with
  | none =>
    simp only [hc] at hs1
    rw [hs1]
    cases done with
    | nil=>simp [reach_succ]
    | cons d0 dr =>
      simp [reach_succ]
      simp at hs2
      omega
  | some p =>
    obtain ⟨a,c⟩:=p
    simp only [hc] at hs1
    obtain ⟨x,hx1,hx2,hx3⟩:=cutAt_eq hc
    subst hx2
    simp at hs2
    have fin:∀ st,norm [0,1,5] st=⟨[(0,.str c),(1,.str [b]),(5,grV 51 1 (done++[a]).length)],grH 51 (done++[a]).length (strsA (done++[a]))⟩→LQ st:=by
      intro st hst
      exact hLQ (done++[a],c) ⟨by simpa using hs1,by simp; omega⟩ (by simp; omega) st hst
    have e2:((a.length:Int)+1).toNat=a.length+1:=by omega
    cases done with
    | nil =>
      simp (disch:=omega) [wrap64]
      refine ⟨by omega,by omega,⟨by omega,by omega⟩,fin _ ?_⟩
      simp
    | cons d0 dr =>
      simp at hs2
      simp (disch:=omega) [wrap64]
      refine ⟨by omega,by omega,by omega,⟨by omega,by omega⟩,fin _ ?_⟩
      simp

theorem dm_ok_zzIsSpace (Γ:Gam):∀ args r,con_zzIsSpace args=some r→runs Γ c_dmarc_zzIsSpace args (fun v=>v=r):=by
  intro args r h
  simp only [con_zzIsSpace] at h
  split at h <;> (try simp at h; done)
  rename_i n
  obtain ⟨hn,rfl⟩:=ite_some h
  clear h
  have f1:¬ n=133:=by omega
  have f2:¬ n=160:=by omega
  have f3:¬ n=5760:=by omega
  have f4:¬ 8192≤n:=by omega
  have f5:¬ n=8232:=by omega
  have f6:¬ n=8233:=by omega
  have f7:¬ n=8239:=by omega
  have f8:¬ n=8287:=by omega
  have f9:¬ n=12288:=by omega
  have key:∀ b:Bool,((9≤n∧n≤13)∨n=32 ↔ b=true)→b=isSp n:=by
    intro b hb; unfold isSp; cases b <;> simp at hb ⊢ <;> omega
  by_cases h1:9≤n <;> by_cases h2:n≤13 <;> by_cases h3:n=32 <;>
    simp [c_dmarc_zzIsSpace,f1,f2,f3,f4,f5,f6,f7,f8,f9,h1,h2,h3] <;> first | rfl | exact decide_eq_true (by omega) | exact decide_eq_false (by omega)

theorem dm_trim_inner (Γ:Gam) (Q:APost) (S:List UInt8) (x:UInt8) (i n:Nat) (f t:Int) (hn:S.length=n) (hi:S[i]? = some x) (hx:x.toNat < 128) (hb:n < 1099511627776) (hib:i < 1099511627776)
    (h:Q (.exit 4) ⟨[(0,.str S),(3,.int .i64 f),(4,.int .i64 t),(7,.int .i64 i),(8,.int .i64 1),(54,.bool false)],[]⟩) :
    awp Γ b_dmarc_zzTrimSpace_2 Q ⟨[(0,.str S),(3,.int .i64 f),(4,.int .i64 t),(7,.int .i64 i),(8,.int .i64 1)],[]⟩:=by
  have e192:¬ (192:Int)≤(x.toNat:Int):=by omega
  have ew:IntKind.i64.wrap ((i:Int)+1)=(i:Int)+1:=wrap64 (by omega) (by omega)
  simp only [b_dmarc_zzTrimSpace_2,awp_seq]
  refine awp_region_to ⟨[(0,.str S),(3,.int .i64 f),(4,.int .i64 t),(7,.int .i64 i),(8,.int .i64 1),(54,.bool false)],[]⟩ ?_ ?_
  · by_cases hlast:(i:Int)+1 < (n:Int)
    · have h1:((i:Int)+1 < (n:Int))=True:=eq_true hlast
      simp (maxSteps:=1000000) [ew,hn,hi,e192,h1]
    · have h1:((i:Int)+1 < (n:Int))=False:=eq_false hlast
      simp (maxSteps:=1000000) [ew,hn,h1]
  · simpa using h

theorem dm_trim_loop2 (Γ:Gam) (h23:Γ.fn 168=con_zzIsSpace) (a b:List UInt8) (hp:plain (a++b)=true) (hs:(a++b).length < 1099511627776) (ha:∀ x∈a,isWs x.toNat=true) (hb:∀ x r,b=x::r→isWs x.toNat=false) :
    awp Γ (.loop [0,3,4,7] b_dmarc_zzTrimSpace_4) (blockQ 2 (thenQ (awp Γ t_dmarc_zzTrimSpace_5 (finQ [.t 2] fun v=>v=.str (trimS (a++b)))) (finQ [.t 2] fun v=>v=.str (trimS (a++b)))))
      ⟨[(0,.str (a++b)),(3,.int .i64 a.length),(4,.int .i64 (a++b).length),(7,.int .i64 a.length)],[]⟩:=by
  have htrim:trimS (a++b)=trimR b:=by rw [trimS,trimL_app ha,trimL_nw hb]
  rw [htrim]
  refine awp_loop (σ:=List UInt8 × List UInt8) (fun p=>⟨[(0,.str (a++b)),(3,.int .i64 a.length),(4,.int .i64 (toV (a++b).length a p.1)),(7,.int .i64 (a.length+p.1.length))],[]⟩)
    (fun p=>b=p.1++p.2) (fun p=>p.2.length) ([],b) (by simp [toV]) (by simp) ?_
  rintro ⟨c,d⟩ hcd
  simp only at hcd
  subst hcd
  simp at hs
  cases d with
  | nil =>
    simp [b_dmarc_zzTrimSpace_4,t_dmarc_zzTrimSpace_5]
    refine ⟨fun h=>?_,fun h=>?_⟩
    · have:c=[]:=List.length_eq_zero_iff.1 (by omega)
      subst this; simp [trimR]
    · have hc:c ≠ []:=by intro e; subst e; simp at h
      obtain ⟨t,ht⟩:=trimR_prefix c
      have hl:(trimR c).length≤c.length:=trimR_length c
      have e1:toV (a.length+c.length) a c=(a.length:Int)+((trimR c).length:Int):=if_neg hc
      have e2:((a.length:Int)+((trimR c).length:Int)).toNat=a.length+(trimR c).length:=by omega
      rw [e1,e2]
      refine ⟨⟨by omega,by omega⟩,?_⟩
      rw [List.take_length_add_append,List.drop_left]
      generalize trimR c=q at ht ⊢
      subst ht; simp
  | cons x d =>
    have hpx:plainB x=true:=by
      have h1:(plain a && (plain c && plain (x::d)))=true:=by rw [← plain_app,← plain_app]; exact hp
      simp only [Bool.and_eq_true,plain,List.all_cons] at h1
      exact h1.2.2.1
    have hx:=plainB_lt hpx
    have hx2:(x.toNat:Int) < 128:=by omega
    have step:∀ v:Int,v=toV (a++(c++x::d)).length a (c++[x])→loopQ [0,3,4,7] (fun p:List UInt8 × List UInt8=>⟨[(0,.str (a++(c++x::d))),(3,.int .i64 a.length),(4,.int .i64 (toV (a++(c++x::d)).length a p.1)),(7,.int .i64 (a.length+p.1.length))],[]⟩)
        (fun p=>c++x::d=p.1++p.2) (fun p=>p.2.length) (c,x::d)
        ⟨[(0,.str (a++(c++x::d))),(3,.int .i64 a.length),(4,.int .i64 v),(7,.int .i64 (a.length+c.length+1))],[]⟩:=by
      intro v hv
      subst hv
      refine ⟨(c++[x],d),?_,by simp,by simp⟩
      have:((a.length:Int)+c.length+1)=(a.length:Int)+((c++[x]).length:Int):=by simp; omega
      rw [this]
      simp
    generalize hl:loopQ [0,3,4,7] (fun p:List UInt8 × List UInt8=>(⟨[(0,.str (a++(c++x::d))),(3,.int .i64 a.length),(4,.int .i64 (toV (a++(c++x::d)).length a p.1)),(7,.int .i64 (a.length+p.1.length))],[]⟩:St))
        (fun p=>c++x::d=p.1++p.2) (fun p=>p.2.length) (c,x::d)=LQ at step ⊢
    clear hl
    simp at hs
    have hget:(a++(c++x::d))[a.length+c.length]? = some x:=by
      rw [← List.append_assoc,List.getElem?_append_right (by simp)]; simp
    simp [b_dmarc_zzTrimSpace_4]
    refine ⟨fun _=>?_,fun h=>by omega⟩
    refine awp_loop (σ:=Unit) (fun _=>⟨[(0,.str (a++(c++x::d))),(3,.int .i64 a.length),(4,.int .i64 (toV (a.length+(c.length+(d.length+1))) a c)),(7,.int .i64 (a.length+c.length)),(8,.int .i64 1)],[]⟩) (fun _=>True) (fun _=>0) () (by simp) trivial ?_
    intro _ _
    have en:((a.length:Int)+(c.length:Int))=((a.length+c.length:Nat):Int):=by omega
    have ew:IntKind.i64.wrap ((a.length:Int)+c.length+1)=(a.length:Int)+c.length+1:=wrap64 (by omega) (by omega)
    rw [en]
    refine dm_trim_inner Γ _ (a++(c++x::d)) x (a.length+c.length) (a.length+(c.length+(d.length+1))) _ _ (by simp) hget hx (by omega) (by omega) ?_
    rw [← en]
    have en2:((a.length:Int)+(c.length:Int)).toNat=a.length+c.length:=by omega
    have en3:((a.length:Int)+(c.length:Int)+1).toNat=a.length+c.length+1:=by omega
    have esl:List.drop (a.length+c.length) (List.take (a.length+c.length+1) (a++(c++x::d)))=[x]:=by
      rw [← List.append_assoc,show a.length+c.length=(a++c).length by simp,List.take_length_add_append,List.drop_left]; rfl
    have erun:runesF 1 [x]=[x.toNat]:=by simp [runesF,decR_ascii hx]
    simp [t_dmarc_zzTrimSpace_3,ew,en2,en3,esl,erun,rcA,acall,h23,con_zzIsSpace,hx2]
    refine ⟨⟨by omega,by omega,by omega⟩,fun hw=>step _ ?_,fun hw=>step _ ?_⟩
    · rw [isSp_ws hpx] at hw
      simp [toV,trimR_nw hw]
      try omega
    · rw [isSp_ws hpx] at hw
      have hc:c ≠ []:=by
        intro e; subst e
        rw [hb x d rfl] at hw; simp at hw
      simp [toV,hc,trimR_ws hw]

theorem dm_ok_zzTrimSpace (Γ:Gam) (h23:Γ.fn 168=con_zzIsSpace):∀ args r,con_zzTrimSpace args=some r→runs Γ c_dmarc_zzTrimSpace args (fun v=>v=r):=by
  intro args r h
  simp only [con_zzTrimSpace] at h
  split at h <;> (try simp at h; done)
  rename_i s
  obtain ⟨⟨hs,hp⟩,rfl⟩:=ite_some h
  clear h
  simp only [mid] at hs
  simp [c_dmarc_zzTrimSpace]
  refine awp_loop (σ:=List UInt8 × List UInt8) (fun p=>⟨[(0,.str s),(3,.int .i64 s.length),(4,.int .i64 s.length),(16,.ref 16 0)],[(16,.sit s p.1.length)]⟩)
    (fun p=>s=p.1++p.2∧∀ x∈p.1,isWs x.toNat=true) (fun p=>p.2.length) ([],s) (by simp) (by simp) ?_
  rintro ⟨a,b⟩ ⟨hs1,ha⟩
  simp only at hs1 ha
  cases b with
  | nil =>
    simp at hs1
    subst hs1
    simp [b_dmarc_zzTrimSpace_1,t_dmarc_zzTrimSpace_6]
    have:=dm_trim_loop2 Γ h23 s [] (by simpa using hp) (by simpa using hs) ha (by simp)
    simpa using this
  | cons x b =>
    subst hs1
    have hpx:plainB x=true∧plain b=true:=by
      have:(plain a && plain (x::b))=true:=by rw [← plain_app]; exact hp
      simp only [Bool.and_eq_true] at this
      have h2:=this.2
      simp only [plain,List.all_cons,Bool.and_eq_true] at h2
      exact h2
    have e1:List.drop a.length (a++x::b)=x::b:=by simp
    have hx:=plainB_lt hpx.1
    have hx2:(x.toNat:Int) < 128:=by omega
    simp [b_dmarc_zzTrimSpace_1,t_dmarc_zzTrimSpace_6,e1,decR_ascii hx,acall,h23,con_zzIsSpace,hx2]
    refine ⟨fun hw=>?_,fun hw=>?_⟩
    · have:=dm_trim_loop2 Γ h23 a (x::b) hp hs ha (fun y r e=>by injection e with e1 e2; subst e1; rw [← isSp_ws hpx.1]; exact hw)
      simpa using this
    · refine ⟨(a++[x],b),by simp,⟨by simp,?_⟩,by simp⟩
      intro y hy
      simp at hy
      rcases hy with hy | rfl
      · exact ha y hy
      · rw [← isSp_ws hpx.1]; exact hw

def cutTwo (c:Int) (s:List UInt8):List (List UInt8):=match cutAt c s with | none=>[s] | some p=>[p.1,p.2]

def con_dmCut2:List AV→Option AV
  | [.str s,.int .u8 c]=>if s.length < mid then some (.sl 1 (strsA (cutTwo c s))) else none
  | _=>none

theorem dm_ok_zzCut2 (Γ:Gam):∀ args r,con_dmCut2 args=some r→runs Γ c_dmarc_zzCut2 args (fun v=>v=r):=by
  intro args r h
  simp only [con_dmCut2] at h
  split at h <;> (try simp at h; done)
  rename_i s c
  obtain ⟨hs,rfl⟩:=ite_some h
  clear h
  simp only [mid] at hs
  simp -implicitDefEqProofs [c_dmarc_zzCut2]
  refine awp_loop2 (σ:=List UInt8 × List UInt8) (fun p=>⟨[(0,.str s),(1,.int .u8 c),(5,.int .i64 p.1.length)],[]⟩) (fun p=>s=p.1++p.2∧noB c p.1) (fun p=>p.2.length) ([],s) (by simp) (by simp [noB]) ?_
  rintro ⟨pre,post⟩ ⟨hs1,hs2⟩ LQ hLQ
  simp only at hs1 hs2
  subst hs1
  cases post with
  | nil =>
    have e:cutAt c pre=none:=by have:=cutAt_app c pre [] hs2; simpa [cutAt] using this
    simp -implicitDefEqProofs [b_dmarc_zzCut2_1,t_dmarc_zzCut2_2,cutTwo,e]
  | cons x post =>
    simp at hs
    have ew:IntKind.i64.wrap ((pre.length:Int)+1)=(pre.length:Int)+1:=wrap64 (by omega) (by omega)
    have hlt:(pre.length:Int) < (pre.length:Int)+((post.length:Int)+1):=by omega
    by_cases he:(x.toNat:Int)=c
    · have e1:(0:Int)≤(pre.length:Int)+1∧(pre.length:Int)+1≤(pre.length:Int)+((post.length:Int)+1):=by omega
      have e2:((pre.length:Int)+1).toNat=pre.length+1:=by omega
      simp -implicitDefEqProofs [b_dmarc_zzCut2_1,ew,cutTwo,cutAt_app _ _ _ hs2,cutAt,e1,e2,he]
      omega
    · simp -implicitDefEqProofs [b_dmarc_zzCut2_1,ew,he,hlt]
      refine hLQ (pre++[x],post) ⟨by simp,?_⟩ (by simp) _ (by simp)
      intro y hy
      simp at hy
      rcases hy with hy | rfl
      · exact hs2 y hy
      · exact he

end Wax


namespace Wax
open Go (IntKind)

def d64:List UInt8:=[65,66,67,68,69,70,71,72,73,74,75,76,77,78,79,80,81,82,83,84,85,86,87,88,89,90,97,98,99,100,101,102,103,104,105,106,107,108,109,110,111,112,113,114,115,116,117,118,119,120,121,122,48,49,50,51,52,53,54,55,56,57,43,47]
def scanV (c:UInt8):List UInt8→Int→Int→Int
  | [],_,v=>v
  | x::r,k,v=>scanV c r (k+1) (if x=c then k else v)

def v64 (c:UInt8):Int:=scanV c d64 0 (-1)
end Wax


namespace Wax
open Go (IntKind)

def findP:List (List UInt8 × List UInt8)→List UInt8→Option (List UInt8)
  | [],_=>none
  | (i,v)::r,k=>if i=k then some v else findP r k

def valV:Option (List UInt8)→AV
  | some v=>.tup [.str v,.bool true]
  | none=>.tup [.str [],.bool false]

end Wax


namespace Wax
open Go (IntKind)

def eN (m:L8):AV:=.ifc 3 (.ptr [.str m])
def mBad:L8:=[100,109,97,114,99,58,32,109,97,108,102,111,114,109,101,100,32,112,97,114,97,109,115]

def prdV (x:List KVp × Bool):AV:=.tup [.mp (pmA x.1),if x.2 then .nilI else eN mBad]
def prd2:List L8→List KVp→List KVp × Bool
  | [],acc=>(acc,true)
  | p::r,acc=>match cutAt 61 p with
    | none=>if trimS p=[] then prd2 r acc else (acc,false)
    | some q=>prd2 r (psetL acc (trimS q.1) (trimS q.2))
def con_dmParams:List AV→Option AV
  | [.str s]=>if s.length < mid∧plain s=true then some (prdV (prd2 (splitB 59 s) [])) else none
  | _=>none

set_option maxRecDepth 100000 in
theorem ok_dmParams (Γ:Gam) (s154:Γ.st 154=con_zzSplit) (h159:Γ.fn 159=con_dmCut2) (h160:Γ.fn 160=con_zzTrimSpace) (h50:Γ.fn 50=con_errorsNew):∀ args r,con_dmParams args=some r→runs Γ c_dmarc_parseParams args (fun v=>v=r):=by
  intro args r h
  simp only [con_dmParams] at h
  split at h <;> (try simp at h; done)
  rename_i s
  obtain ⟨⟨hs,hp⟩,rfl⟩:=ite_some h
  clear h
  have hsp:con_zzSplit [.str s,.str [59]] []=some (.msl 0 1 0 (splitB 59 s).length,[(0,.cells (strsA (splitB 59 s)))]):=if_pos hs
  have hl:=splitB_length 59 s
  have hml:=splitB_mem_length 59 s
  have hmp:=fun p=>splitB_plain 59 s p hp
  simp -implicitDefEqProofs [c_dmarc_parseParams,acallS,s154,hsp]
  clear hsp
  generalize splitB 59 s=L at *
  have hs':=hs
  simp only [mid] at hs'
  refine awp_loop2 (σ:=List L8 × List L8 × List KVp) (fun p=>⟨[(5,.mref 11),(12,.msl 10 1 0 L.length),(13,.int .i64 L.length),(14,.int .i64 p.1.length)],[(11,.mp (pmA p.2.2)),(10,.cells (strsA L))]⟩)
    (fun p=>L=p.1++p.2.1∧prd2 L []=prd2 p.2.1 p.2.2) (fun p=>p.2.1.length) ([],L,[]) ?_ (by simp) ?_
  · simp [pmA]
  rintro ⟨pre,post,acc⟩ ⟨e1,e2⟩ LQ hLQ
  simp only at e1 e2
  cases post with
  | nil =>
    simp at e1
    rw [e2]
    simp -implicitDefEqProofs [b_dmarc_parseParams_1,t_dmarc_parseParams_2,e1,prd2,prdV]
  | cons x post =>
    have hxm:x∈L:=by rw [e1]; simp
    have hxl:=hml x hxm
    have hxp:=hmp x hxm
    have hlen:L.length=pre.length+post.length+1:=by rw [e1]; simp; omega
    have hlt:pre.length < L.length:=by omega
    have g2:List.drop pre.length L=x::post:=by rw [e1]; simp
    have g3:L[pre.length]? = some x:=by rw [e1]; exact get_mid rfl
    have ew:IntKind.i64.wrap ((pre.length:Int)+1)=(pre.length:Int)+1:=wrap64 (by omega) (by omega)
    have hlt':(pre.length:Int) < (L.length:Int):=by omega
    have k159:con_dmCut2 [.str x,.int .u8 61]=some (.sl 1 (strsA (cutTwo 61 x))):=by
      simp only [con_dmCut2]; exact if_pos (by omega)
    have k160:∀ t:L8,t.length≤s.length→plain t=true→con_zzTrimSpace [.str t]=some (.str (trimS t)):=by
      intro t ht hpt
      simp only [con_zzTrimSpace]; exact if_pos ⟨by omega,hpt⟩
    have fin:∀ acc',prd2 (x::post) acc=prd2 post acc'→∀ st,norm [5,12,13,14] st=⟨[(5,.mref 11),(12,.msl 10 1 0 L.length),(13,.int .i64 L.length),(14,.int .i64 ((pre.length:Int)+1))],[(11,.mp (pmA acc')),(10,.cells (strsA L))]⟩→LQ st:=by
      intro acc' he st hst
      exact hLQ (pre++[x],post,acc') ⟨by rw [e1]; simp,by rw [e2,he]⟩ (by simp) st (by simpa using hst)
    cases hc:cutAt 61 x with
    | none =>
      have kx:=k160 x hxl hxp
      by_cases ht:trimS x=[]
      · have f1:=fin acc (by simp [prd2,hc,ht])
        simp -implicitDefEqProofs [b_dmarc_parseParams_1,hlt,hlt',g2,g3,acall,h159,k159,cutTwo,hc,h160,kx,ht,ew]
        exact f1 _ (by simp)
      · rw [e2]
        simp -implicitDefEqProofs [b_dmarc_parseParams_1,hlt,hlt',g2,g3,acall,h159,k159,cutTwo,hc,h160,kx,ht,h50,con_errorsNew,prd2,prdV,mBad,eN]
    | some q =>
      obtain ⟨hql,y,hy⟩:=cutAt_le hc
      have hxp':=hxp
      rw [hy,plain_app] at hxp'
      simp only [Bool.and_eq_true] at hxp'
      have hp2:plain q.2=true:=by
        have:=hxp'.2
        simp only [plain,List.all_cons,Bool.and_eq_true] at this
        exact this.2
      have kk:=k160 q.1 (by omega) hxp'.1
      have kv:=k160 q.2 (by omega) hp2
      have f1:=fin (psetL acc (trimS q.1) (trimS q.2)) (by simp [prd2,hc])
      simp -implicitDefEqProofs [b_dmarc_parseParams_1,hlt,hlt',g2,g3,acall,h159,k159,cutTwo,hc,h160,kk,kv,mset_pmA,ew]
      exact f1 _ (by simp)

def mPol:L8:=[100,109,97,114,99,58,32,105,110,118,97,108,105,100,32,112,111,108,105,99,121,32,102,111,114,32,112,97,114,97,109,101,116,101,114,32]
def mAlign:L8:=[100,109,97,114,99,58,32,105,110,118,97,108,105,100,32,97,108,105,103,110,109,101,110,116,32,109,111,100,101,32,102,111,114,32,112,97,114,97,109,101,116,101,114,32]

def con_dmPolicy:List AV→Option AV
  | [.str s,.str p]=>if p.length < mid then some (if polB s=true then .tup [.str s,.nilI] else .tup [.str [],eN (mPol++p)]) else none
  | _=>none
theorem ok_dmPolicy (Γ:Gam) (h50:Γ.fn 50=con_errorsNew):∀ args r,con_dmPolicy args=some r→runs Γ c_dmarc_parsePolicy args (fun v=>v=r):=by
  intro args r h
  simp only [con_dmPolicy] at h
  split at h <;> (try simp at h; done)
  rename_i s p
  obtain ⟨hp,rfl⟩:=ite_some h
  clear h
  simp only [mid] at hp
  have hp2:36+p.length < 4611686018427387904:=by omega
  by_cases h1:s=sNone
  · subst h1
    simp -implicitDefEqProofs [c_dmarc_parsePolicy,sNone,polB]
  · by_cases h2:s=sQuar
    · subst h2
      simp -implicitDefEqProofs [c_dmarc_parsePolicy,sNone,sQuar,polB]
    · by_cases h3:s=sReject
      · subst h3
        simp -implicitDefEqProofs [c_dmarc_parsePolicy,sNone,sQuar,sReject,polB]
      · have e:polB s=false:=by simp [polB,h1,h2,h3]
        simp only [sNone,sQuar,sReject] at h1 h2 h3
        simp -implicitDefEqProofs [c_dmarc_parsePolicy,h1,h2,h3,e,hp2,acall,h50,con_errorsNew,eN,mPol]
        try omega

def con_dmAlign:List AV→Option AV
  | [.str s,.str p]=>if p.length < mid then some (if alignB s=true then .tup [.str s,.nilI] else .tup [.str [],eN (mAlign++p)]) else none
  | _=>none
theorem ok_dmAlign (Γ:Gam) (h50:Γ.fn 50=con_errorsNew):∀ args r,con_dmAlign args=some r→runs Γ c_dmarc_parseAlignmentMode args (fun v=>v=r):=by
  intro args r h
  simp only [con_dmAlign] at h
  split at h <;> (try simp at h; done)
  rename_i s p
  obtain ⟨hp,rfl⟩:=ite_some h
  clear h
  simp only [mid] at hp
  by_cases h1:s=sR
  · subst h1
    simp -implicitDefEqProofs [c_dmarc_parseAlignmentMode,sR,alignB]
  · by_cases h2:s=sS
    · subst h2
      simp -implicitDefEqProofs [c_dmarc_parseAlignmentMode,sR,sS,alignB]
    · have e:alignB s=false:=by simp [alignB,h1,h2]
      simp only [sR,sS] at h1 h2
      simp -implicitDefEqProofs [c_dmarc_parseAlignmentMode,h1,h2,e,acall,h50,con_errorsNew,eN,mAlign]
      try omega

def mFo:L8:=[100,109,97,114,99,58,32,105,110,118,97,108,105,100,32,102,97,105,108,117,114,101,32,111,112,116,105,111,110,32,105,110,32,112,97,114,97,109,101,116,101,114,32,39,102,111,39]
def foV (s:L8):AV:=match fo2 0 (splitB 58 s) with
  | some n=>.tup [.int .i64 n,.nilI]
  | none=>.tup [.int .i64 0,eN mFo]
def con_dmFo:List AV→Option AV
  | [.str s]=>if s.length < mid∧plain s=true then some (foV s) else none
  | _=>none

set_option maxHeartbeats 1000000 in
theorem ok_dmFo (Γ:Gam) (s154:Γ.st 154=con_zzSplit) (h160:Γ.fn 160=con_zzTrimSpace) (h50:Γ.fn 50=con_errorsNew):∀ args r,con_dmFo args=some r→runs Γ c_dmarc_parseFailureOptions args (fun v=>v=r):=by
  intro args r h
  simp only [con_dmFo] at h
  split at h <;> (try simp at h; done)
  rename_i s
  obtain ⟨⟨hs,hp⟩,rfl⟩:=ite_some h
  clear h
  have hsp:con_zzSplit [.str s,.str [58]] []=some (.msl 0 1 0 (splitB 58 s).length,[(0,.cells (strsA (splitB 58 s)))]):=if_pos hs
  have hl:=splitB_length 58 s
  have hml:=splitB_mem_length 58 s
  have hmp:=fun p=>splitB_plain 58 s p hp
  simp only [foV]
  simp -implicitDefEqProofs [c_dmarc_parseFailureOptions,acallS,s154,hsp]
  clear hsp
  generalize splitB 58 s=L at *
  simp only [mid] at hs
  refine awp_loop2 (σ:=List L8 × List L8 × Int) (fun p=>⟨[(5,.int .i64 p.2.2),(10,.msl 9 1 0 L.length),(11,.int .i64 L.length),(12,.int .i64 p.1.length)],[(9,.cells (strsA L))]⟩)
    (fun p=>L=p.1++p.2.1∧fo2 0 L=fo2 p.2.2 p.2.1) (fun p=>p.2.1.length) ([],L,0) ?_ (by simp) ?_
  · simp
  rintro ⟨pre,post,n⟩ ⟨e1,e2⟩ LQ hLQ
  simp only at e1 e2
  cases post with
  | nil =>
    simp at e1
    rw [e2]
    simp -implicitDefEqProofs [b_dmarc_parseFailureOptions_1,t_dmarc_parseFailureOptions_2,e1,fo2]
  | cons x post =>
    have hxm:x∈L:=by rw [e1]; simp
    have hxl:=hml x hxm
    have hxp:=hmp x hxm
    have hlen:L.length=pre.length+post.length+1:=by rw [e1]; simp; omega
    have hlt':(pre.length:Int) < (L.length:Int):=by omega
    have hlt:pre.length < L.length:=by omega
    have g2:List.drop pre.length L=x::post:=by rw [e1]; simp
    have g3:L[pre.length]? = some x:=by rw [e1]; exact get_mid rfl
    have ew:IntKind.i64.wrap ((pre.length:Int)+1)=(pre.length:Int)+1:=wrap64 (by omega) (by omega)
    have k160:con_zzTrimSpace [.str x]=some (.str (trimS x)):=if_pos ⟨by simp only [mid]; omega,hxp⟩
    have fin:∀ m,fo2 n (x::post)=fo2 m post→∀ st,norm [5,10,11,12] st=⟨[(5,.int .i64 m),(10,.msl 9 1 0 L.length),(11,.int .i64 L.length),(12,.int .i64 ((pre.length:Int)+1))],[(9,.cells (strsA L))]⟩→LQ st:=by
      intro m he st hst
      exact hLQ (pre++[x],post,m) ⟨by rw [e1]; simp,by rw [e2,he]⟩ (by simp) st (by simpa using hst)
    generalize ht:trimS x=tx at *
    by_cases c1:tx=[48]
    · have f:=fin (orI n 1) (by simp [fo2,fobit2,ht,c1])
      simp -implicitDefEqProofs [b_dmarc_parseFailureOptions_1,hlt,hlt',g2,g3,acall,h160,k160,ew,c1]
      exact f _ (by simp [orI]; rfl)
    · by_cases c2:tx=[49]
      · have f:=fin (orI n 2) (by simp [fo2,fobit2,ht,c2])
        simp -implicitDefEqProofs [b_dmarc_parseFailureOptions_1,hlt,hlt',g2,g3,acall,h160,k160,ew,c2]
        exact f _ (by simp [orI]; rfl)
      · by_cases c3:tx=[100]
        · have f:=fin (orI n 4) (by simp [fo2,fobit2,ht,c3])
          simp -implicitDefEqProofs [b_dmarc_parseFailureOptions_1,hlt,hlt',g2,g3,acall,h160,k160,ew,c3]
          exact f _ (by simp [orI]; rfl)
        · by_cases c4:tx=[115]
          · have f:=fin (orI n 8) (by simp [fo2,fobit2,ht,c4])
            simp -implicitDefEqProofs [b_dmarc_parseFailureOptions_1,hlt,hlt',g2,g3,acall,h160,k160,ew,c4]
            exact f _ (by simp [orI]; rfl)
          · have e3:fo2 0 L=none:=by rw [e2]; simp [fo2,fobit2,ht,c1,c2,c3,c4]
            rw [e3]
            simp -implicitDefEqProofs [b_dmarc_parseFailureOptions_1,hlt,hlt',g2,g3,acall,h160,k160,c1,c2,c3,c4,h50,con_errorsNew,eN,mFo]

def con_dmURIs:List AV→Option AV
  | [.str s]=>if s.length < mid∧plain s=true then some (.sl 1 (strsA (uris s))) else none
  | _=>none

theorem ok_dmURIs (Γ:Gam) (s154:Γ.st 154=con_zzSplit) (h160:Γ.fn 160=con_zzTrimSpace):∀ args r,con_dmURIs args=some r→runs Γ c_dmarc_parseURIList args (fun v=>v=r):=by
  intro args r h
  simp only [con_dmURIs] at h
  split at h <;> (try simp at h; done)
  rename_i s
  obtain ⟨⟨hs,hp⟩,rfl⟩:=ite_some h
  clear h
  have hsp:con_zzSplit [.str s,.str [44]] []=some (.msl 0 1 0 (splitB 44 s).length,[(0,.cells (strsA (splitB 44 s)))]):=if_pos hs
  have hl:=splitB_length 44 s
  have hml:=splitB_mem_length 44 s
  have hmp:=fun p=>splitB_plain 44 s p hp
  simp only [uris]
  simp -implicitDefEqProofs [c_dmarc_parseURIList,acallS,s154,hsp]
  clear hsp
  generalize splitB 44 s=L at *
  simp only [mid] at hs
  refine awp_loop2 (σ:=List L8 × List L8) (fun p=>⟨[(3,.msl 7 1 0 L.length),(8,.msl 7 1 0 L.length),(9,.int .i64 L.length),(10,.int .i64 p.1.length)],[(7,.cells (strsA (p.1.map trimS++p.2)))]⟩)
    (fun p=>L=p.1++p.2) (fun p=>p.2.length) ([],L) ?_ (by simp) ?_
  · simp
  rintro ⟨pre,post⟩ e1 LQ hLQ
  simp only at e1
  cases post with
  | nil =>
    simp at e1
    simp -implicitDefEqProofs [b_dmarc_parseURIList_1,t_dmarc_parseURIList_2,e1,snap,resolveA,List.take_of_length_le]
  | cons x post =>
    have hxm:x∈L:=by rw [e1]; simp
    have hxl:=hml x hxm
    have hxp:=hmp x hxm
    have hlen:L.length=pre.length+post.length+1:=by rw [e1]; simp; omega
    have hlt':(pre.length:Int) < (L.length:Int):=by omega
    have hlt:pre.length < L.length:=by omega
    have ew:IntKind.i64.wrap ((pre.length:Int)+1)=(pre.length:Int)+1:=wrap64 (by omega) (by omega)
    have k160:con_zzTrimSpace [.str x]=some (.str (trimS x)):=if_pos ⟨by simp only [mid]; omega,hxp⟩
    simp (disch:=first | omega | simp) [b_dmarc_parseURIList_1,hlt,hlt',acall,h160,k160,ew,get_mid,set_mid]
    refine hLQ (pre++[x],post) (by simp [e1]) (by simp) _ ?_
    simp
end Wax


namespace Wax
open Go (IntKind)

def anyN (n:Int) (s:L8):Bool:=s.any fun b=>decide ((b.toNat:Int)=n)

def con_MailAny:List AV→Option AV
  | [.int .u8 n,.str s]=>if s.length < big then some (.bool (anyN n s)) else none
  | _=>none

theorem ok_MailAny (Γ:Gam):∀ args r,con_MailAny args=some r→runs Γ c_spec_MailAny args (fun v=>v=r):=by
  intro args r h
  simp only [con_MailAny] at h
  split at h <;> (try simp at h; done)
  rename_i n s
  obtain ⟨hs,rfl⟩:=ite_some h
  clear h
  simp only [big] at hs
  simp -implicitDefEqProofs [c_spec_MailAny]
  refine awp_loop2 (σ:=L8 × L8) (fun p=>⟨[(0,.int .u8 n),(1,.str s),(5,.int .i64 p.1.length)],[]⟩) (fun p=>s=p.1++p.2∧anyN n p.1=false) (fun p=>p.2.length) ([],s) (by simp) (by simp [anyN]) ?_
  rintro ⟨pre,post⟩ ⟨e1,e2⟩ LQ hLQ
  simp only at e1 e2
  subst e1
  cases post with
  | nil=>simp -implicitDefEqProofs [b_spec_MailAny_1,t_spec_MailAny_2,e2]
  | cons x post =>
    simp at hs
    have hlt:(pre.length:Int) < (pre.length:Int)+((post.length:Int)+1):=by omega
    have ew:IntKind.i64.wrap ((pre.length:Int)+1)=(pre.length:Int)+1:=wrap64 (by omega) (by omega)
    by_cases h:(x.toNat:Int)=n
    · simp -implicitDefEqProofs [b_spec_MailAny_1,hlt,h,anyN]
    · simp -implicitDefEqProofs [b_spec_MailAny_1,hlt,h,ew]
      exact hLQ (pre++[x],post) ⟨by simp,by simp only [anyN,List.any_append,Bool.or_eq_false_iff] at e2 ⊢; exact ⟨e2,by simp [h]⟩⟩ (by simp) _ (by simp)

theorem kwB_true {x:UInt8} (h:(97≤(x.toNat:Int)∧(x.toNat:Int)≤122)∨(65≤(x.toNat:Int)∧(x.toNat:Int)≤90)∨(48≤(x.toNat:Int)∧(x.toNat:Int)≤57)∨(x.toNat:Int)=45):kwB x=true:=decide_eq_true (by omega)
theorem kwB_false {x:UInt8} (h:¬ ((97≤(x.toNat:Int)∧(x.toNat:Int)≤122)∨(65≤(x.toNat:Int)∧(x.toNat:Int)≤90)∨(48≤(x.toNat:Int)∧(x.toNat:Int)≤57)∨(x.toNat:Int)=45)):kwB x=false:=decide_eq_false (by omega)

def con_MailKeyword:List AV→Option AV
  | [.str s]=>if s.length < big then some (.bool (mKw s)) else none
  | _=>none

theorem mKw_bad {pre post:L8} {x:UInt8} (h:kwB x=false):mKw (pre++x::post)=false:=by simp [mKw,h]

theorem ok_MailKeyword (Γ:Gam):∀ args r,con_MailKeyword args=some r→runs Γ c_spec_MailKeyword args (fun v=>v=r):=by
  intro args r h
  simp only [con_MailKeyword] at h
  split at h <;> (try simp at h; done)
  rename_i s
  obtain ⟨hs,rfl⟩:=ite_some h
  clear h
  simp only [big] at hs
  simp -implicitDefEqProofs [c_spec_MailKeyword]
  refine awp_loop2 (σ:=L8 × L8) (fun p=>⟨[(0,.str s),(3,.int .i64 p.1.length)],[]⟩) (fun p=>s=p.1++p.2∧p.1.all kwB=true) (fun p=>p.2.length) ([],s) (by simp) (by simp) ?_
  rintro ⟨pre,post⟩ ⟨e1,e2⟩ LQ hLQ
  simp only at e1 e2
  subst e1
  cases post with
  | nil =>
    simp at hs
    cases pre with
    | nil=>simp -implicitDefEqProofs [b_spec_MailKeyword_1,t_spec_MailKeyword_2,mKw]
    | cons a pre =>
      simp at hs
      have ew:IntKind.i64.wrap (pre.length:Int)=pre.length:=wrap64 (by omega) (by omega)
      obtain ⟨z,hz⟩:∃ z,(a::pre)[pre.length]? = some z:=⟨(a::pre)[pre.length]'(by simp),by simp⟩
      have hl:(a::pre).getLast? = some z:=by rw [List.getLast?_eq_getElem?]; simpa using hz
      have eI:∀ c:UInt8,((c.toNat:Int)=45) ↔ c=45:=by
        intro c; rw [← UInt8.toNat_inj]; simp; omega
      have hk:mKw (a::pre)=(decide (¬ a=45) && decide (¬ z=45)):=by
        simp only [mKw,e2,hl]; simp
      simp only [List.append_nil]
      rw [hk]
      by_cases ha:a=45
      · subst ha
        simp -implicitDefEqProofs [b_spec_MailKeyword_1,t_spec_MailKeyword_2]
      · have ha':¬ ((a.toNat:Int)=45):=by rw [eI]; exact ha
        simp -implicitDefEqProofs [b_spec_MailKeyword_1,t_spec_MailKeyword_2,ha,ha',ew,hz,eI]
        rw [List.getElem?_eq_getElem (by simp)] at hz
        injection hz with hz
        rw [hz]
  | cons x post =>
    simp at hs
    have hlt:(pre.length:Int) < (pre.length:Int)+((post.length:Int)+1):=by omega
    have ew:IntKind.i64.wrap ((pre.length:Int)+1)=(pre.length:Int)+1:=wrap64 (by omega) (by omega)
    have good:kwB x=true→LQ ⟨[(0,.str (pre++x::post)),(3,.int .i64 ((pre.length:Int)+1))],[]⟩:=fun h =>
      hLQ (pre++[x],post) ⟨by simp,by simp only [List.all_append,e2,List.all_cons,h]; rfl⟩ (by simp) _ (by simp)
    simp -implicitDefEqProofs [b_spec_MailKeyword_1,hlt,ew]
    repeat' (first | apply And.intro | intro _)
    all_goals first | exact good (kwB_true (by omega)) | exact mKw_bad (kwB_false (by omega))

set_option maxRecDepth 100000 in
theorem tokB_eq {x:UInt8}:tokB x=(decide (32 < (x.toNat:Int)) && decide ((x.toNat:Int) < 127) && !anyN x.toNat tokStop):=by
  have e:anyN x.toNat tokStop=tokStop.contains x:=by
    rw [Bool.eq_iff_iff]
    simp only [anyN,List.any_eq_true,decide_eq_true_eq,List.contains_eq_mem]
    constructor
    · rintro ⟨y,hy,h⟩
      have:y=x:=UInt8.toNat_inj.1 (by omega)
      exact this ▸ hy
    · intro h; exact ⟨x,h,rfl⟩
  rw [tokB,e]
  congr 2
  · congr 1; rw [eq_iff_iff]; omega
  · congr 1; rw [eq_iff_iff]; omega

def con_MailToken:List AV→Option AV
  | [.str s]=>if s.length < big then some (.bool (mTok s)) else none
  | _=>none

set_option maxRecDepth 1000000 in
theorem ok_MailToken (Γ:Gam) (h100:Γ.fn 100=con_MailAny):∀ args r,con_MailToken args=some r→runs Γ c_spec_MailToken args (fun v=>v=r):=by
  intro args r h
  simp only [con_MailToken] at h
  split at h <;> (try simp at h; done)
  rename_i s
  obtain ⟨hs,rfl⟩:=ite_some h
  clear h
  simp only [big] at hs
  have k:∀ c:UInt8,con_MailAny [.int .u8 c.toNat,.str [40,41,60,62,64,44,59,58,92,34,47,91,93,63,61]]=some (.bool (anyN c.toNat tokStop)):=by
    intro c
    simp only [con_MailAny]
    exact if_pos (by simp [big])
  simp -implicitDefEqProofs [c_spec_MailToken]
  refine awp_loop2 (σ:=L8 × L8) (fun p=>⟨[(0,.str s),(3,.int .i64 p.1.length)],[]⟩) (fun p=>s=p.1++p.2∧p.1.all tokB=true) (fun p=>p.2.length) ([],s) (by simp) (by simp) ?_
  rintro ⟨pre,post⟩ ⟨e1,e2⟩ LQ hLQ
  simp only at e1 e2
  subst e1
  cases post with
  | nil=>simp -implicitDefEqProofs [b_spec_MailToken_1,t_spec_MailToken_2,mTok,e2]
  | cons x post =>
    simp at hs
    have hlt:(pre.length:Int) < (pre.length:Int)+((post.length:Int)+1):=by omega
    have ew:IntKind.i64.wrap ((pre.length:Int)+1)=(pre.length:Int)+1:=wrap64 (by omega) (by omega)
    have good:tokB x=true→LQ ⟨[(0,.str (pre++x::post)),(3,.int .i64 ((pre.length:Int)+1))],[]⟩:=fun h =>
      hLQ (pre++[x],post) ⟨by simp,by simp only [List.all_append,e2,List.all_cons,h]; rfl⟩ (by simp) _ (by simp)
    have bad:tokB x=false→mTok (pre++x::post)=false:=by intro h; simp [mTok,h]
    rw [tokB_eq] at good bad
    by_cases h1:(x.toNat:Int)≤32
    · have h1':¬ (32 < (x.toNat:Int)):=by omega
      have b:=bad (by simp [h1'])
      simp -implicitDefEqProofs [b_spec_MailToken_1,hlt,ew,h1,b]
    · have h1':32 < (x.toNat:Int):=by omega
      by_cases h2:127≤(x.toNat:Int)
      · have h2':¬ ((x.toNat:Int) < 127):=by omega
        have b:=bad (by simp [h2'])
        simp -implicitDefEqProofs [b_spec_MailToken_1,hlt,ew,h1,h2,b]
      · have h2':(x.toNat:Int) < 127:=by omega
        cases h3:anyN x.toNat tokStop with
        | true =>
          have b:=bad (by simp [h3])
          simp -implicitDefEqProofs [b_spec_MailToken_1,hlt,ew,h1,h2,acall,h100,k,h3,b]
        | false =>
          have g:=good (by simp [h3,h1',h2'])
          simp -implicitDefEqProofs [b_spec_MailToken_1,hlt,ew,h1,h2,acall,h100,k,h3,g]

end Wax


