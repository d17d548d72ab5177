/- The machine by which the functions are read, and what is proved of them (part 5): no premise. -/
import Derived.Test.YtpmdjfblfpjpoaaGreatDoorWd
set_option linter.all false
namespace Wax
open Go (IntKind)

def c_spec_APlain:SFn:=⟨1,
 (.seq
 (.region [sO 2 (.mv (.k (.bool false)))] [0] [] [])
 (.seq
 (.region [sO 7 (.mv (.t 0)),sO 8 (.call 102 [(.t 7),(.k (.int .u8 64))]),sO 6 (.mv (.t 8)),sO 9 (.extr (.t 6) 0),sO 10 (.extr (.t 6) 1),sO 11 (.extr (.t 6) 2),sO 3 (.mv (.t 9)),sO 4 (.mv (.t 10)),sO 5 (.mv (.t 11))] [0,3,4,5] [] [[],[7],[8],[],[],[6],[9],[10]])
 (.seq
 (.seq
 (.region [sO 12 (.mv (.t 5)),sO 13 (.un .not (.t 12))] [0,3,4,13] [] [[5]])
 (.cond (.t 13)
 (.seq
 (.region [sO 14 (.mv (.t 0)),sO 15 (.call 104 [(.t 14)]),sO 16 (.mv (.t 15)),sG 17 (.mv (.t 0)) 16 true,sG 18 (.len 0 (.t 17)) 16 true,sG 19 (.bin .leq (.t 18) (.k (.int .i64 200))) 16 true,sO 20 (.pick (.t 16) (.t 19) (.k (.bool false))),sO 2 (.mv (.t 20))] [2] [] [[],[14],[15],[0],[17],[18],[16,19]])
 .ret)
 .skip))
 (.seq
 (.region [sO 21 (.mv (.t 3)),sO 22 (.bin .eql (.t 21) (.k (.str []))),sO 23 (.mv (.t 22)),sG 24 (.mv (.t 3)) 23 false,sG 25 (.call 104 [(.t 24)]) 23 false,sO 26 (.pick (.t 23) (.k (.bool true)) (.t 25)),sO 27 (.mv (.t 26)),sG 28 (.mv (.t 4)) 27 true,sG 29 (.call 105 [(.t 28)]) 27 true,sO 30 (.pick (.t 27) (.t 29) (.k (.bool false))),sO 31 (.mv (.t 30)),sG 32 (.mv (.t 0)) 31 true,sG 33 (.len 0 (.t 32)) 31 true,sG 34 (.bin .leq (.t 33) (.k (.int .i64 200))) 31 true,sO 35 (.pick (.t 31) (.t 34) (.k (.bool false))),sO 2 (.mv (.t 35))] [2] [] [[],[21],[22],[3],[24],[23,25],[26],[4],[28],[27,29],[30],[0],[32],[33],[31,34]])
 .ret)))),
 [.t 2]⟩

def l_spec_APlain:Lay:={ rg:=[(0,([0],[])),(1,([0,3,4,5],[])),(2,([0,3,4,13],[])),(3,([2],[])),(4,([2],[]))],dd:=[(1,[[],[7],[8],[],[],[6],[9],[10]]),(2,[[5]]),(3,[[],[14],[15],[0],[17],[18],[16,19]]),(4,[[],[21],[22],[3],[24],[23,25],[26],[4],[28],[27,29],[30],[0],[32],[33],[31,34]])] }

def c_spec_AValues:SFn:=⟨0,
 (.seq
 (.region [sO 0 (.mv (.k .nilS))] [] [] [])
 (.seq
 (.region [sO 1 (.mkSl 1 9 [(.str [])] [(0,(.k (.str [110,111,110,101]))),(1,(.k (.str [112,97,115,115]))),(2,(.k (.str [102,97,105,108]))),(3,(.k (.str [112,111,108,105,99,121]))),(4,(.k (.str [110,101,117,116,114,97,108]))),(5,(.k (.str [116,101,109,112,101,114,114,111,114]))),(6,(.k (.str [112,101,114,109,101,114,114,111,114]))),(7,(.k (.str [115,111,102,116,102,97,105,108]))),(8,(.k (.str [104,97,114,100,102,97,105,108])))]),sO 0 (.mv (.t 1))] [0] [] [])
 .ret)),
 [.t 0]⟩

def l_spec_AValues:Lay:={ rg:=[(0,([],[])),(1,([0],[]))] }

def c_spec_AMethods:SFn:=⟨0,
 (.seq
 (.region [sO 0 (.mv (.k .nilS))] [] [] [])
 (.seq
 (.region [sO 1 (.mkSl 1 8 [(.str [])] [(0,(.k (.str [97,117,116,104]))),(1,(.k (.str [100,107,105,109]))),(2,(.k (.str [100,111,109,97,105,110,107,101,121,115]))),(3,(.k (.str [105,112,114,101,118]))),(4,(.k (.str [115,101,110,100,101,114,45,105,100]))),(5,(.k (.str [115,112,102]))),(6,(.k (.str [100,109,97,114,99]))),(7,(.k (.str [97,114,99])))]),sO 0 (.mv (.t 1))] [0] [] [])
 .ret)),
 [.t 0]⟩

def l_spec_AMethods:Lay:={ rg:=[(0,([],[])),(1,([0],[]))] }

def c_spec_AProps:SFn:=⟨1,
 (.seq
 (.seq
 (.region [sO 1 (.box (.t 0)),sO 2 (.mv (.k .nilS))] [1] [] [[0]])
 (.ghost [.frz 1]))
 (.seq
 (.seq
 (.region [sO 3 (.fAddr 0 (.t 1)),sO 4 (.load none (.t 3))] [1,4] [] [])
 (.block 0
 (.seq
 (.region [sO 6 (.bin .eql (.t 4) (.k (.int .i64 1))),sO 5 (.mv (.t 6))] [1,4,5] [] [])
 (.cond (.t 5)
 (.seq
 (.region [sO 7 (.fAddr 10 (.t 1)),sO 8 (.load none (.t 7)),sO 9 (.agg [(.str []),(.str []),(.str [])] [(0,1,(.k (.str [115,109,116,112]))),(1,1,(.k (.str [97,117,116,104]))),(2,1,(.t 8))]),sO 10 (.mkSl 3 1 [(.str []),(.str []),(.str [])] [(0,(.t 9))]),sO 2 (.mv (.t 10))] [2] [] [[1],[7],[8],[9]])
 .ret)
 (.seq
 (.region [sO 12 (.bin .eql (.t 4) (.k (.int .i64 2))),sO 11 (.mv (.t 12))] [1,4,11] [] [])
 (.cond (.t 11)
 (.seq
 (.region [sO 13 (.fAddr 4 (.t 1)),sO 14 (.load none (.t 13)),sO 15 (.agg [(.str []),(.str []),(.str [])] [(0,1,(.k (.str [104,101,97,100,101,114]))),(1,1,(.k (.str [100]))),(2,1,(.t 14))]),sO 16 (.fAddr 5 (.t 1)),sO 17 (.load none (.t 16)),sO 18 (.agg [(.str []),(.str []),(.str [])] [(0,1,(.k (.str [104,101,97,100,101,114]))),(1,1,(.k (.str [105]))),(2,1,(.t 17))]),sO 19 (.mkSl 3 2 [(.str []),(.str []),(.str [])] [(0,(.t 15)),(1,(.t 18))]),sO 2 (.mv (.t 19))] [2] [] [[],[13],[14],[1],[16],[17],[15,18]])
 .ret)
 (.seq
 (.region [sO 21 (.bin .eql (.t 4) (.k (.int .i64 3))),sO 20 (.mv (.t 21))] [1,4,20] [] [])
 (.cond (.t 20)
 (.seq
 (.region [sO 22 (.fAddr 4 (.t 1)),sO 23 (.load none (.t 22)),sO 24 (.agg [(.str []),(.str []),(.str [])] [(0,1,(.k (.str [104,101,97,100,101,114]))),(1,1,(.k (.str [100]))),(2,1,(.t 23))]),sO 25 (.fAddr 6 (.t 1)),sO 26 (.load none (.t 25)),sO 27 (.agg [(.str []),(.str []),(.str [])] [(0,1,(.k (.str [104,101,97,100,101,114]))),(1,1,(.k (.str [102,114,111,109]))),(2,1,(.t 26))]),sO 28 (.fAddr 7 (.t 1)),sO 29 (.load none (.t 28)),sO 30 (.agg [(.str []),(.str []),(.str [])] [(0,1,(.k (.str [104,101,97,100,101,114]))),(1,1,(.k (.str [115,101,110,100,101,114]))),(2,1,(.t 29))]),sO 31 (.mkSl 3 3 [(.str []),(.str []),(.str [])] [(0,(.t 24)),(1,(.t 27)),(2,(.t 30))]),sO 2 (.mv (.t 31))] [2] [] [[],[22],[23],[],[25],[26],[1],[28],[29],[24,27,30]])
 .ret)
 (.seq
 (.region [sO 33 (.bin .eql (.t 4) (.k (.int .i64 4))),sO 32 (.mv (.t 33))] [1,4,32] [] [])
 (.cond (.t 32)
 (.seq
 (.region [sO 34 (.fAddr 8 (.t 1)),sO 35 (.load none (.t 34)),sO 36 (.agg [(.str []),(.str []),(.str [])] [(0,1,(.k (.str [112,111,108,105,99,121]))),(1,1,(.k (.str [105,112,114,101,118]))),(2,1,(.t 35))]),sO 37 (.mkSl 3 1 [(.str []),(.str []),(.str [])] [(0,(.t 36))]),sO 2 (.mv (.t 37))] [2] [] [[1],[34],[35],[36]])
 .ret)
 (.seq
 (.region [sO 39 (.bin .eql (.t 4) (.k (.int .i64 5))),sO 38 (.mv (.t 39))] [1,4,38] [] [])
 (.cond (.t 38)
 (.seq
 (.region [sO 40 (.fAddr 11 (.t 1)),sO 41 (.load none (.t 40)),sO 42 (.fAddr 12 (.t 1)),sO 43 (.load none (.t 42)),sO 44 (.agg [(.str []),(.str []),(.str [])] [(0,1,(.k (.str [104,101,97,100,101,114]))),(1,1,(.t 41)),(2,1,(.t 43))]),sO 45 (.mkSl 3 1 [(.str []),(.str []),(.str [])] [(0,(.t 44))]),sO 2 (.mv (.t 45))] [2] [] [[],[40],[1],[42],[41,43],[44]])
 .ret)
 (.seq
 (.region [sO 47 (.bin .eql (.t 4) (.k (.int .i64 6))),sO 46 (.mv (.t 47))] [1,4,46] [] [])
 (.cond (.t 46)
 (.seq
 (.region [sO 48 (.fAddr 6 (.t 1)),sO 49 (.load none (.t 48)),sO 50 (.agg [(.str []),(.str []),(.str [])] [(0,1,(.k (.str [115,109,116,112]))),(1,1,(.k (.str [109,97,105,108,102,114,111,109]))),(2,1,(.t 49))]),sO 51 (.fAddr 9 (.t 1)),sO 52 (.load none (.t 51)),sO 53 (.agg [(.str []),(.str []),(.str [])] [(0,1,(.k (.str [115,109,116,112]))),(1,1,(.k (.str [104,101,108,111]))),(2,1,(.t 52))]),sO 54 (.mkSl 3 2 [(.str []),(.str []),(.str [])] [(0,(.t 50)),(1,(.t 53))]),sO 2 (.mv (.t 54))] [2] [] [[],[48],[49],[1],[51],[52],[50,53]])
 .ret)
 (.seq
 (.region [sO 56 (.bin .eql (.t 4) (.k (.int .i64 7))),sO 55 (.mv (.t 56))] [1,55] [] [[4]])
 (.cond (.t 55)
 (.seq
 (.region [sO 57 (.fAddr 6 (.t 1)),sO 58 (.load none (.t 57)),sO 59 (.agg [(.str []),(.str []),(.str [])] [(0,1,(.k (.str [104,101,97,100,101,114]))),(1,1,(.k (.str [102,114,111,109]))),(2,1,(.t 58))]),sO 60 (.mkSl 3 1 [(.str []),(.str []),(.str [])] [(0,(.t 59))]),sO 2 (.mv (.t 60))] [2] [] [[1],[57],[58],[59]])
 .ret)
 .skip))))))))))))))))
 (.seq
 (.region [sO 2 (.mv (.k .nilS))] [2] [] [])
 .ret))),
 [.t 2]⟩

def l_spec_AProps:Lay:={ rg:=[(0,([1],[])),(1,([1,4],[])),(2,([1,4,5],[])),(3,([2],[])),(4,([1,4,11],[])),(5,([2],[])),(6,([1,4,20],[])),(7,([2],[])),(8,([1,4,32],[])),(9,([2],[])),(10,([1,4,38],[])),(11,([2],[])),(12,([1,4,46],[])),(13,([2],[])),(14,([1,55],[])),(15,([2],[])),(16,([2],[]))],dd:=[(0,[[0]]),(3,[[1],[7],[8],[9]]),(5,[[],[13],[14],[1],[16],[17],[15,18]]),(7,[[],[22],[23],[],[25],[26],[1],[28],[29],[24,27,30]]),(9,[[1],[34],[35],[36]]),(11,[[],[40],[1],[42],[41,43],[44]]),(13,[[],[48],[49],[1],[51],[52],[50,53]]),(14,[[4]]),(15,[[1],[57],[58],[59]])],gh:=[(0,[.frz 1])] }

def c_spec_AOnly:SFn:=⟨1,
 (.seq
 (.seq
 (.region [sO 1 (.box (.t 0)),sO 2 (.alloc [(.int .i64 0),(.str []),(.str []),(.str []),(.str []),(.str []),(.str []),(.str []),(.str []),(.str []),(.str []),(.str []),(.str []),(.str []),(.int .i64 0),.nilS])] [1,2] [] [[0]])
 (.ghost [.frz 1]))
 (.seq
 (.region [sO 4 (.fAddr 0 (.t 1)),sO 5 (.load none (.t 4)),sO 6 (.fAddr 2 (.t 1)),sO 7 (.load none (.t 6)),sO 8 (.fAddr 3 (.t 1)),sO 9 (.load none (.t 8)),sO 10 (.agg [(.int .i64 0),(.str []),(.str []),(.str []),(.str []),(.str []),(.str []),(.str []),(.str []),(.str []),(.str []),(.str []),(.str []),(.str []),(.int .i64 0),.nilS] [(0,1,(.t 5)),(2,1,(.t 7)),(3,1,(.t 9))]),sO 3 (.alloc [(.int .i64 0),(.str []),(.str []),(.str []),(.str []),(.str []),(.str []),(.str []),(.str []),(.str []),(.str []),(.str []),(.str []),(.str []),(.int .i64 0),.nilS]),sN (.store 16 (.t 3) (.t 10))] [1,2,3] [] [[],[4],[],[6],[],[8],[5,7,9]])
 (.seq
 (.seq
 (.region [sO 11 (.fAddr 0 (.t 1)),sO 12 (.load none (.t 11))] [1,2,3,12] [] [])
 (.block 0
 (.seq
 (.region [sO 14 (.bin .eql (.t 12) (.k (.int .i64 0))),sO 13 (.mv (.t 14))] [1,2,3,12,13] [] [])
 (.cond (.t 13)
 (.region [sO 15 (.fl (.fAddr 1 (.t 1))),sO 16 (.fl (.load none (.t 15))),sO 17 (.fl (.fAddr 15 (.t 1))),sO 18 (.fl (.load none (.t 17))),sO 19 (.fAddr 1 (.t 3)),sN (.store 1 (.t 19) (.t 16)),sO 20 (.fAddr 15 (.t 3)),sN (.store 1 (.t 20) (.t 18)),sO 21 (.fAddr 3 (.t 3)),sN (.store 1 (.t 21) (.k (.str [])))] [2,3] [] [])
 (.seq
 (.region [sO 23 (.bin .eql (.t 12) (.k (.int .i64 1))),sO 22 (.mv (.t 23))] [1,2,3,12,22] [] [])
 (.cond (.t 22)
 (.region [sO 24 (.fAddr 10 (.t 1)),sO 25 (.load none (.t 24)),sO 26 (.fAddr 10 (.t 3)),sN (.store 1 (.t 26) (.t 25))] [2,3] [] [[1],[24]])
 (.seq
 (.region [sO 28 (.bin .eql (.t 12) (.k (.int .i64 2))),sO 27 (.mv (.t 28))] [1,2,3,12,27] [] [])
 (.cond (.t 27)
 (.region [sO 29 (.fl (.fAddr 4 (.t 1))),sO 30 (.fl (.load none (.t 29))),sO 31 (.fl (.fAddr 5 (.t 1))),sO 32 (.fl (.load none (.t 31))),sO 33 (.fAddr 4 (.t 3)),sN (.store 1 (.t 33) (.t 30)),sO 34 (.fAddr 5 (.t 3)),sN (.store 1 (.t 34) (.t 32))] [2,3] [] [])
 (.seq
 (.region [sO 36 (.bin .eql (.t 12) (.k (.int .i64 3))),sO 35 (.mv (.t 36))] [1,2,3,12,35] [] [])
 (.cond (.t 35)
 (.region [sO 37 (.fl (.fAddr 4 (.t 1))),sO 38 (.fl (.load none (.t 37))),sO 39 (.fl (.fAddr 6 (.t 1))),sO 40 (.fl (.load none (.t 39))),sO 41 (.fl (.fAddr 7 (.t 1))),sO 42 (.fl (.load none (.t 41))),sO 43 (.fAddr 4 (.t 3)),sN (.store 1 (.t 43) (.t 38)),sO 44 (.fAddr 6 (.t 3)),sN (.store 1 (.t 44) (.t 40)),sO 45 (.fAddr 7 (.t 3)),sN (.store 1 (.t 45) (.t 42))] [2,3] [] [])
 (.seq
 (.region [sO 47 (.bin .eql (.t 12) (.k (.int .i64 4))),sO 46 (.mv (.t 47))] [1,2,3,12,46] [] [])
 (.cond (.t 46)
 (.region [sO 48 (.fAddr 8 (.t 1)),sO 49 (.load none (.t 48)),sO 50 (.fAddr 8 (.t 3)),sN (.store 1 (.t 50) (.t 49))] [2,3] [] [[1],[48]])
 (.seq
 (.region [sO 52 (.bin .eql (.t 12) (.k (.int .i64 5))),sO 51 (.mv (.t 52))] [1,2,3,12,51] [] [])
 (.cond (.t 51)
 (.region [sO 53 (.fl (.fAddr 11 (.t 1))),sO 54 (.fl (.load none (.t 53))),sO 55 (.fl (.fAddr 12 (.t 1))),sO 56 (.fl (.load none (.t 55))),sO 57 (.fAddr 11 (.t 3)),sN (.store 1 (.t 57) (.t 54)),sO 58 (.fAddr 12 (.t 3)),sN (.store 1 (.t 58) (.t 56))] [2,3] [] [])
 (.seq
 (.region [sO 60 (.bin .eql (.t 12) (.k (.int .i64 6))),sO 59 (.mv (.t 60))] [1,2,3,12,59] [] [])
 (.cond (.t 59)
 (.region [sO 61 (.fl (.fAddr 6 (.t 1))),sO 62 (.fl (.load none (.t 61))),sO 63 (.fl (.fAddr 9 (.t 1))),sO 64 (.fl (.load none (.t 63))),sO 65 (.fAddr 6 (.t 3)),sN (.store 1 (.t 65) (.t 62)),sO 66 (.fAddr 9 (.t 3)),sN (.store 1 (.t 66) (.t 64))] [2,3] [] [])
 (.seq
 (.region [sO 68 (.bin .eql (.t 12) (.k (.int .i64 7))),sO 67 (.mv (.t 68))] [1,2,3,67] [] [[12]])
 (.cond (.t 67)
 (.region [sO 69 (.fAddr 6 (.t 1)),sO 70 (.load none (.t 69)),sO 71 (.fAddr 6 (.t 3)),sN (.store 1 (.t 71) (.t 70))] [2,3] [] [[1],[69]])
 .skip))))))))))))))))))
 (.seq
 (.region [sO 72 (.load (some 16) (.t 3)),sN (.store 16 (.t 2) (.t 72))] [2] [3] [[3]])
 .ret)))),
 [.c (some 16) 2]⟩

def l_spec_AOnly:Lay:={ rg:=[(0,([1,2],[])),(1,([1,2,3],[])),(2,([1,2,3,12],[])),(3,([1,2,3,12,13],[])),(4,([2,3],[])),(5,([1,2,3,12,22],[])),(6,([2,3],[])),(7,([1,2,3,12,27],[])),(8,([2,3],[])),(9,([1,2,3,12,35],[])),(10,([2,3],[])),(11,([1,2,3,12,46],[])),(12,([2,3],[])),(13,([1,2,3,12,51],[])),(14,([2,3],[])),(15,([1,2,3,12,59],[])),(16,([2,3],[])),(17,([1,2,3,67],[])),(18,([2,3],[])),(19,([2],[3]))],dd:=[(0,[[0]]),(1,[[],[4],[],[6],[],[8],[5,7,9]]),(6,[[1],[24]]),(12,[[1],[48]]),(17,[[12]]),(18,[[1],[69]]),(19,[[3]])],gh:=[(0,[.frz 1])],fl:=[15,16,17,18,29,30,31,32,37,38,39,40,41,42,53,54,55,56,61,62,63,64] }

def b_spec_AInfoOf_1:SCode :=
 (.seq
 (.region [sO 23 (.bin .lss (.t 22) (.t 21))] [2,3,20,21,22,23] [] [])
 (.seq
 (.cond (.t 23)
 .skip
 (.exit 0))
 (.seq
 (.block 1
 (.seq
 (.seq
 (.region [sO 24 (.iAddr 2 (.t 20) (.t 22)),sO 25 (.load (some 2) (.t 24)),sO 5 (.alloc [(.str []),(.str [])]),sN (.store 2 (.t 5) (.t 25))] [2,3,5,20,21,22] [] [[],[24]])
 (.ghost [.frz 5]))
 (.seq
 (.region [sO 27 (.fAddr 0 (.t 5)),sO 28 (.load none (.t 27)),sO 29 (.call 102 [(.t 28),(.k (.int .u8 46))]),sO 26 (.mv (.t 29)),sO 30 (.extr (.t 26) 0),sO 31 (.extr (.t 26) 1),sO 32 (.extr (.t 26) 2),sO 6 (.mv (.t 30)),sO 7 (.mv (.t 31)),sO 8 (.mv (.t 32))] [2,3,5,6,7,20,21,22] [] [[],[27],[28],[29],[],[],[26],[30],[31]])
 (.region [sO 33 (.fAddr 4 (.t 3)),sO 34 (.load none (.t 33)),sO 35 (.mv (.t 6)),sO 36 (.mv (.t 7)),sO 37 (.fAddr 1 (.t 5)),sO 38 (.load none (.t 37)),sO 39 (.agg [(.str []),(.str []),(.str [])] [(0,1,(.t 35)),(1,1,(.t 36)),(2,1,(.t 38))]),sO 40 (.mkSl 3 1 [(.str []),(.str []),(.str [])] [(0,(.t 39))]),sO 41 (.app 3 48 (.t 34) (.t 40)),sO 42 (.fAddr 4 (.t 3)),sN (.store 1 (.t 42) (.t 41))] [2,3,20,21,22] [40] [[],[33],[6],[7],[5],[37],[35,36,38],[39],[34,40]]))))
 (.region [sO 43 (.bin .add (.t 22) (.k (.int .i64 1))),sO 22 (.mv (.t 43))] [2,3,20,21,22] [] []))))

def t_spec_AInfoOf_2:SCode :=
 (.seq
 (.region [sO 44 (.load (some 5) (.t 3)),sN (.store 5 (.t 2) (.t 44))] [2] [3] [[3]])
 .ret)

def t_spec_AInfoOf_3:SCode :=
 (.seq
 (.region [sO 45 (.call 200 []),sO 46 (.fAddr 0 (.t 1)),sO 47 (.load none (.t 46)),sO 48 (.bin .sub (.t 47) (.k (.int .i64 1))),sO 49 (.iAddr 1 (.t 45) (.t 48)),sO 50 (.load none (.t 49)),sO 51 (.load (some 16) (.t 1)),sO 52 (.call 201 [(.t 51)]),sO 53 (.fAddr 0 (.t 3)),sN (.store 1 (.t 53) (.t 50)),sO 54 (.fAddr 4 (.t 3)),sN (.store 1 (.t 54) (.t 52))] [2,3] [] [])
 (.seq
 (.region [sO 55 (.load (some 5) (.t 3)),sN (.store 5 (.t 2) (.t 55))] [2] [3] [[3]])
 .ret))

def c_spec_AInfoOf:SFn:=⟨1,
 (.seq
 (.seq
 (.region [sO 1 (.box (.t 0)),sO 2 (.alloc [(.str []),(.str []),(.str []),(.str []),.nilS])] [1,2] [] [[0]])
 (.ghost [.frz 1]))
 (.seq
 (.region [sO 9 (.fAddr 1 (.t 1)),sO 10 (.load none (.t 9)),sO 11 (.fAddr 2 (.t 1)),sO 12 (.load none (.t 11)),sO 13 (.fAddr 3 (.t 1)),sO 14 (.load none (.t 13)),sO 15 (.agg [(.str []),(.str []),(.str []),(.str []),.nilS] [(0,1,(.t 10)),(2,1,(.t 12)),(3,1,(.t 14))]),sO 3 (.alloc [(.str []),(.str []),(.str []),(.str []),.nilS]),sN (.store 5 (.t 3) (.t 15))] [1,2,3] [] [[],[9],[],[11],[],[13],[10,12,14]])
 (.seq
 (.seq
 (.region [sO 16 (.fAddr 0 (.t 1)),sO 17 (.load none (.t 16)),sO 18 (.bin .eql (.t 17) (.k (.int .i64 0)))] [1,2,3,18] [] [[],[16]])
 (.cond (.t 18)
 (.seq
 (.seq
 (.region [sO 19 (.fAddr 15 (.t 1)),sO 20 (.load none (.t 19)),sO 21 (.len 1 (.t 20)),sO 22 (.mv (.k (.int .i64 0)))] [2,3,20,21,22] [] [[1],[19]])
 (.block 0
 (.loop [2,3,20,21,22]
 b_spec_AInfoOf_1)))
 t_spec_AInfoOf_2)
 .skip))
 t_spec_AInfoOf_3))),
 [.c (some 5) 2]⟩

def l_spec_AInfoOf:Lay:={ rg:=[(0,([1,2],[])),(1,([1,2,3],[])),(2,([1,2,3,18],[])),(3,([2,3,20,21,22],[])),(4,([2,3,20,21,22,23],[])),(5,([2,3,5,20,21,22],[])),(6,([2,3,5,6,7,20,21,22],[])),(7,([2,3,20,21,22],[40])),(8,([2,3,20,21,22],[])),(9,([2],[3])),(10,([2,3],[])),(11,([2],[3])),(1000004,([2,3,20,21,22],[]))],dd:=[(0,[[0]]),(1,[[],[9],[],[11],[],[13],[10,12,14]]),(2,[[],[16]]),(3,[[1],[19]]),(5,[[],[24]]),(6,[[],[27],[28],[29],[],[],[26],[30],[31]]),(7,[[],[33],[6],[7],[5],[37],[35,36,38],[39],[34,40]]),(9,[[3]]),(11,[[3]])],gh:=[(0,[.frz 1]),(5,[.frz 5])] }

def b_spec_AFits_1:SCode :=
 (.seq
 (.region [sO 26 (.bin .lss (.t 25) (.t 24))] [0,4,5,17,18,19,23,24,25,26] [] [])
 (.seq
 (.cond (.t 26)
 .skip
 (.exit 2))
 (.seq
 (.block 3
 (.seq
 (.region [sO 27 (.iAddr 1 (.t 23) (.t 25)),sO 28 (.load none (.t 27)),sO 7 (.mv (.t 28))] [0,4,5,7,17,18,19,23,24,25] [] [[],[27]])
 (.region [sO 29 (.mv (.t 5)),sO 30 (.mv (.t 29)),sG 31 (.mv (.t 7)) 30 false,sG 32 (.fAddr 2 (.t 4)) 30 false,sG 33 (.load none (.t 32)) 30 false,sG 34 (.bin .eql (.t 31) (.t 33)) 30 false,sO 35 (.pick (.t 30) (.k (.bool true)) (.t 34)),sO 5 (.mv (.t 35))] [0,4,5,17,18,19,23,24,25] [] [[],[29],[7],[],[32],[31,33],[30,34]])))
 (.region [sO 36 (.bin .add (.t 25) (.k (.int .i64 1))),sO 25 (.mv (.t 36))] [0,4,5,17,18,19,23,24,25] [] []))))

def b_spec_AFits_2:SCode :=
 (.seq
 (.region [sO 94 (.bin .lss (.t 93) (.t 92))] [0,4,17,18,19,91,92,93,94] [] [])
 (.seq
 (.cond (.t 94)
 .skip
 (.exit 4))
 (.seq
 (.block 5
 (.seq
 (.region [sO 95 (.iAddr 1 (.t 91) (.t 93)),sO 96 (.load none (.t 95)),sO 9 (.mv (.t 96))] [0,4,9,17,18,19,91,92,93] [] [[],[95]])
 (.seq
 (.region [sO 97 (.mv (.t 9)),sO 98 (.fAddr 1 (.t 4)),sO 99 (.load none (.t 98)),sO 100 (.bin .eql (.t 97) (.t 99))] [0,4,17,18,19,91,92,93,100] [] [[9],[],[98]])
 (.cond (.t 100)
 (.seq
 (.region [sO 2 (.mv (.k (.bool false)))] [2] [] [])
 .ret)
 .skip))))
 (.region [sO 101 (.bin .add (.t 93) (.k (.int .i64 1))),sO 93 (.mv (.t 101))] [0,4,17,18,19,91,92,93] [] []))))

def b_spec_AFits_3:SCode :=
 (.seq
 (.region [sO 106 (.bin .lss (.t 105) (.t 104))] [0,4,17,18,19,103,104,105,106] [] [])
 (.seq
 (.cond (.t 106)
 .skip
 (.exit 6))
 (.seq
 (.block 7
 (.seq
 (.seq
 (.region [sO 107 (.mv (.t 105)),sO 108 (.iAddr 2 (.t 103) (.t 105)),sO 109 (.load (some 2) (.t 108)),sO 11 (.alloc [(.str []),(.str [])]),sO 10 (.mv (.t 107)),sN (.store 2 (.t 11) (.t 109))] [0,4,10,11,17,18,19,103,104,105] [] [[],[],[108],[],[107]])
 (.ghost [.frz 11]))
 (.seq
 (.region [sO 111 (.fAddr 0 (.t 11)),sO 112 (.load none (.t 111)),sO 113 (.call 102 [(.t 112),(.k (.int .u8 46))]),sO 110 (.mv (.t 113)),sO 114 (.extr (.t 110) 0),sO 115 (.extr (.t 110) 1),sO 116 (.extr (.t 110) 2),sO 12 (.mv (.t 114)),sO 13 (.mv (.t 115)),sO 14 (.mv (.t 116))] [0,4,10,11,12,13,14,17,18,19,103,104,105] [] [[],[111],[112],[113],[],[],[110],[114],[115]])
 (.seq
 (.region [sO 117 (.mv (.t 14)),sO 118 (.un .not (.t 117)),sO 119 (.mv (.t 118)),sG 120 (.mv (.t 12)) 119 false,sG 121 (.call 99 [(.t 120)]) 119 false,sG 122 (.un .not (.t 121)) 119 false,sO 123 (.pick (.t 119) (.k (.bool true)) (.t 122)),sO 124 (.mv (.t 123)),sG 125 (.mv (.t 13)) 124 false,sG 126 (.call 99 [(.t 125)]) 124 false,sG 127 (.un .not (.t 126)) 124 false,sO 128 (.pick (.t 124) (.k (.bool true)) (.t 127)),sO 129 (.mv (.t 128)),sG 130 (.fAddr 0 (.t 11)) 129 false,sG 131 (.load none (.t 130)) 129 false,sG 132 (.call 112 [(.t 131)]) 129 false,sG 133 (.fAddr 0 (.t 11)) 129 false,sG 134 (.load none (.t 133)) 129 false,sG 135 (.bin .neq (.t 132) (.t 134)) 129 false,sO 136 (.pick (.t 129) (.k (.bool true)) (.t 135)),sO 137 (.mv (.t 136)),sG 138 (.fAddr 1 (.t 11)) 137 false,sG 139 (.load none (.t 138)) 137 false,sG 140 (.call 204 [(.t 139)]) 137 false,sG 141 (.un .not (.t 140)) 137 false,sO 142 (.pick (.t 137) (.k (.bool true)) (.t 141)),sO 143 (.mv (.t 142)),sG 144 (.mv (.t 10)) 143 false,sG 145 (.bin .gtr (.t 144) (.k (.int .i64 0))) 143 false,sG 146 (.mv (.t 145)) 143 false,sG 147 (.fAddr 15 (.t 4)) 146 true,sG 148 (.load none (.t 147)) 146 true,sG 149 (.mv (.t 10)) 146 true,sG 150 (.bin .sub (.t 149) (.k (.int .i64 1))) 146 true,sG 151 (.iAddr 2 (.t 148) (.t 150)) 146 true,sG 152 (.fAddr 0 (.t 151)) 146 true,sG 153 (.load none (.t 152)) 146 true,sG 154 (.fAddr 0 (.t 11)) 146 true,sG 155 (.load none (.t 154)) 146 true,sG 156 (.bin .geq (.t 153) (.t 155)) 146 true,sG 157 (.pick (.t 146) (.t 156) (.k (.bool false))) 143 false,sO 158 (.pick (.t 143) (.k (.bool true)) (.t 157))] [0,4,17,18,19,103,104,105,158] [] [])
 (.cond (.t 158)
 (.seq
 (.region [sO 2 (.mv (.k (.bool false)))] [2] [] [])
 .ret)
 .skip)))))
 (.region [sO 159 (.bin .add (.t 105) (.k (.int .i64 1))),sO 105 (.mv (.t 159))] [0,4,17,18,19,103,104,105] [] []))))

def f_spec_AFits_4:SCode :=
 (.seq
 (.seq
 (.region [sO 102 (.fAddr 15 (.t 4)),sO 103 (.load none (.t 102)),sO 104 (.len 1 (.t 103)),sO 105 (.mv (.k (.int .i64 0)))] [0,4,17,18,19,103,104,105] [] [[],[102]])
 (.block 6
 (.loop [0,4,17,18,19,103,104,105]
 b_spec_AFits_3)))
 (.exit 1))

def f_spec_AFits_5:SCode :=
 (.seq
 (.seq
 (.region [sO 91 (.call 200 []),sO 92 (.len 1 (.t 91)),sO 93 (.mv (.k (.int .i64 0)))] [0,4,17,18,19,91,92,93] [] [])
 (.block 4
 (.loop [0,4,17,18,19,91,92,93]
 b_spec_AFits_2)))
 f_spec_AFits_4)

def b_spec_AFits_6:SCode :=
 (.seq
 (.region [sO 164 (.bin .lss (.t 163) (.t 162))] [0,17,18,19,161,162,163,164] [] [])
 (.seq
 (.cond (.t 164)
 .skip
 (.exit 8))
 (.seq
 (.block 9
 (.seq
 (.seq
 (.region [sO 165 (.iAddr 3 (.t 161) (.t 163)),sO 166 (.load (some 3) (.t 165)),sO 16 (.alloc [(.str []),(.str []),(.str [])]),sN (.store 3 (.t 16) (.t 166))] [0,16,17,18,19,161,162,163] [] [[],[165]])
 (.ghost [.frz 16]))
 (.seq
 (.region [sO 167 (.fAddr 2 (.t 16)),sO 168 (.load none (.t 167)),sO 169 (.call 204 [(.t 168)]),sO 170 (.un .not (.t 169)),sO 171 (.mv (.t 170)),sG 172 (.fAddr 1 (.t 16)) 171 false,sG 173 (.load none (.t 172)) 171 false,sG 174 (.call 99 [(.t 173)]) 171 false,sG 175 (.un .not (.t 174)) 171 false,sO 176 (.pick (.t 171) (.k (.bool true)) (.t 175)),sO 177 (.mv (.t 176)),sG 178 (.fAddr 1 (.t 16)) 177 false,sG 179 (.load none (.t 178)) 177 false,sG 180 (.call 112 [(.t 179)]) 177 false,sG 181 (.fAddr 1 (.t 16)) 177 false,sG 182 (.load none (.t 181)) 177 false,sG 183 (.bin .neq (.t 180) (.t 182)) 177 false,sO 184 (.pick (.t 177) (.k (.bool true)) (.t 183))] [0,17,18,19,161,162,163,184] [] [])
 (.cond (.t 184)
 (.seq
 (.region [sO 2 (.mv (.k (.bool false)))] [2] [] [])
 .ret)
 .skip))))
 (.region [sO 185 (.bin .add (.t 163) (.k (.int .i64 1))),sO 163 (.mv (.t 185))] [0,17,18,19,161,162,163] [] []))))

def f_spec_AFits_7:SCode :=
 (.seq
 (.region [sO 160 (.load (some 16) (.t 4)),sO 161 (.call 201 [(.t 160)]),sO 162 (.len 1 (.t 161)),sO 163 (.mv (.k (.int .i64 0)))] [0,17,18,19,161,162,163] [] [[4],[160]])
 (.block 8
 (.loop [0,17,18,19,161,162,163]
 b_spec_AFits_6)))

def f_spec_AFits_8:SCode :=
 (.seq
 (.seq
 (.region [sO 60 (.fAddr 0 (.t 4)),sO 61 (.load none (.t 60)),sO 62 (.bin .eql (.t 61) (.k (.int .i64 0)))] [0,4,17,18,19,62] [] [[],[60]])
 (.cond (.t 62)
 (.seq
 (.seq
 (.region [sO 63 (.fAddr 1 (.t 4)),sO 64 (.load none (.t 63)),sO 65 (.call 99 [(.t 64)]),sO 66 (.un .not (.t 65)),sO 67 (.mv (.t 66)),sG 68 (.fAddr 1 (.t 4)) 67 false,sG 69 (.load none (.t 68)) 67 false,sG 70 (.call 112 [(.t 69)]) 67 false,sG 71 (.fAddr 1 (.t 4)) 67 false,sG 72 (.load none (.t 71)) 67 false,sG 73 (.bin .neq (.t 70) (.t 72)) 67 false,sO 74 (.pick (.t 67) (.k (.bool true)) (.t 73)),sO 75 (.mv (.t 74)),sG 76 (.fAddr 1 (.t 4)) 75 false,sG 77 (.load none (.t 76)) 75 false,sG 78 (.bin .eql (.t 77) (.k (.str [110,111,110,101]))) 75 false,sO 79 (.pick (.t 75) (.k (.bool true)) (.t 78)),sO 80 (.mv (.t 79)),sG 81 (.fAddr 3 (.t 4)) 80 false,sG 82 (.load none (.t 81)) 80 false,sG 83 (.bin .neq (.t 82) (.k (.str []))) 80 false,sO 84 (.pick (.t 80) (.k (.bool true)) (.t 83)),sO 85 (.mv (.t 84)),sG 86 (.fAddr 1 (.t 4)) 85 false,sG 87 (.load none (.t 86)) 85 false,sG 88 (.len 0 (.t 87)) 85 false,sG 89 (.bin .gtr (.t 88) (.k (.int .i64 30))) 85 false,sO 90 (.pick (.t 85) (.k (.bool true)) (.t 89))] [0,4,17,18,19,90] [] [])
 (.cond (.t 90)
 (.seq
 (.region [sO 2 (.mv (.k (.bool false)))] [2] [] [])
 .ret)
 .skip))
 f_spec_AFits_5)
 .skip))
 f_spec_AFits_7)

def f_spec_AFits_9:SCode :=
 (.seq
 (.seq
 (.region [sO 37 (.mv (.t 5)),sO 38 (.un .not (.t 37)),sO 39 (.mv (.t 38)),sG 40 (.fAddr 0 (.t 4)) 39 false,sG 41 (.load none (.t 40)) 39 false,sG 42 (.bin .lss (.t 41) (.k (.int .i64 0))) 39 false,sO 43 (.pick (.t 39) (.k (.bool true)) (.t 42)),sO 44 (.mv (.t 43)),sG 45 (.fAddr 0 (.t 4)) 44 false,sG 46 (.load none (.t 45)) 44 false,sG 47 (.bin .gtr (.t 46) (.k (.int .i64 7))) 44 false,sO 48 (.pick (.t 44) (.k (.bool true)) (.t 47)),sO 49 (.mv (.t 48)),sG 50 (.fAddr 3 (.t 4)) 49 false,sG 51 (.load none (.t 50)) 49 false,sG 52 (.bin .neq (.t 51) (.k (.str []))) 49 false,sG 53 (.mv (.t 52)) 49 false,sG 54 (.fAddr 3 (.t 4)) 53 true,sG 55 (.load none (.t 54)) 53 true,sG 56 (.call 104 [(.t 55)]) 53 true,sG 57 (.un .not (.t 56)) 53 true,sG 58 (.pick (.t 53) (.t 57) (.k (.bool false))) 49 false,sO 59 (.pick (.t 49) (.k (.bool true)) (.t 58))] [0,4,17,18,19,59] [] [[5],[37],[38],[],[40],[41],[39,42],[43],[],[45],[46],[44,47],[48],[],[50],[51],[52],[],[54],[55],[56],[53,57]])
 (.cond (.t 59)
 (.seq
 (.region [sO 2 (.mv (.k (.bool false)))] [2] [] [])
 .ret)
 .skip))
 f_spec_AFits_8)

def t_spec_AFits_10:SCode :=
 (.region [sO 186 (.bin .add (.t 19) (.k (.int .i64 1))),sO 19 (.mv (.t 186))] [0,17,18,19] [] [])

def b_spec_AFits_11:SCode :=
 (.seq
 (.region [sO 20 (.bin .lss (.t 19) (.t 18))] [0,17,18,19,20] [] [])
 (.seq
 (.cond (.t 20)
 .skip
 (.exit 0))
 (.seq
 (.block 1
 (.seq
 (.seq
 (.region [sO 21 (.iAddr 16 (.t 17) (.t 19)),sO 22 (.load (some 16) (.t 21)),sO 4 (.alloc [(.int .i64 0),(.str []),(.str []),(.str []),(.str []),(.str []),(.str []),(.str []),(.str []),(.str []),(.str []),(.str []),(.str []),(.str []),(.int .i64 0),.nilS]),sN (.store 16 (.t 4) (.t 22))] [0,4,17,18,19] [] [[],[21]])
 (.ghost [.frz 4]))
 (.seq
 (.region [sO 5 (.mv (.k (.bool false)))] [0,4,5,17,18,19] [] [])
 (.seq
 (.seq
 (.region [sO 23 (.call 203 []),sO 24 (.len 1 (.t 23)),sO 25 (.mv (.k (.int .i64 0)))] [0,4,5,17,18,19,23,24,25] [] [])
 (.block 2
 (.loop [0,4,5,17,18,19,23,24,25]
 b_spec_AFits_1)))
 f_spec_AFits_9))))
 t_spec_AFits_10)))

def t_spec_AFits_12:SCode :=
 (.seq
 (.region [sO 187 (.mv (.t 0)),sO 188 (.len 1 (.t 187)),sO 189 (.bin .leq (.t 188) (.k (.int .i64 10))),sO 2 (.mv (.t 189))] [2] [] [[0],[187],[188]])
 .ret)

def c_spec_AFits:SFn:=⟨1,
 (.seq
 (.region [sO 2 (.mv (.k (.bool false)))] [0] [] [])
 (.seq
 (.seq
 (.region [sO 17 (.mv (.t 0)),sO 18 (.len 1 (.t 17)),sO 19 (.mv (.k (.int .i64 0)))] [0,17,18,19] [] [])
 (.block 0
 (.loop [0,17,18,19]
 b_spec_AFits_11)))
 t_spec_AFits_12)),
 [.t 2]⟩

def l_spec_AFits:Lay:={ rg:=[(0,([0],[])),(1,([0,17,18,19],[])),(2,([0,17,18,19,20],[])),(3,([0,4,17,18,19],[])),(4,([0,4,5,17,18,19],[])),(5,([0,4,5,17,18,19,23,24,25],[])),(6,([0,4,5,17,18,19,23,24,25,26],[])),(7,([0,4,5,7,17,18,19,23,24,25],[])),(8,([0,4,5,17,18,19,23,24,25],[])),(9,([0,4,5,17,18,19,23,24,25],[])),(10,([0,4,17,18,19,59],[])),(11,([2],[])),(12,([0,4,17,18,19,62],[])),(13,([0,4,17,18,19,90],[])),(14,([2],[])),(15,([0,4,17,18,19,91,92,93],[])),(16,([0,4,17,18,19,91,92,93,94],[])),(17,([0,4,9,17,18,19,91,92,93],[])),(18,([0,4,17,18,19,91,92,93,100],[])),(19,([2],[])),(20,([0,4,17,18,19,91,92,93],[])),(21,([0,4,17,18,19,103,104,105],[])),(22,([0,4,17,18,19,103,104,105,106],[])),(23,([0,4,10,11,17,18,19,103,104,105],[])),(24,([0,4,10,11,12,13,14,17,18,19,103,104,105],[])),(25,([0,4,17,18,19,103,104,105,158],[])),(26,([2],[])),(27,([0,4,17,18,19,103,104,105],[])),(28,([0,17,18,19,161,162,163],[])),(29,([0,17,18,19,161,162,163,164],[])),(30,([0,16,17,18,19,161,162,163],[])),(31,([0,17,18,19,161,162,163,184],[])),(32,([2],[])),(33,([0,17,18,19,161,162,163],[])),(34,([0,17,18,19],[])),(35,([2],[])),(1000002,([0,17,18,19],[])),(1000006,([0,4,5,17,18,19,23,24,25],[])),(1000016,([0,4,17,18,19,91,92,93],[])),(1000022,([0,4,17,18,19,103,104,105],[])),(1000029,([0,17,18,19,161,162,163],[]))],dd:=[(3,[[],[21]]),(7,[[],[27]]),(8,[[],[29],[7],[],[32],[31,33],[30,34]]),(10,[[5],[37],[38],[],[40],[41],[39,42],[43],[],[45],[46],[44,47],[48],[],[50],[51],[52],[],[54],[55],[56],[53,57]]),(12,[[],[60]]),(17,[[],[95]]),(18,[[9],[],[98]]),(21,[[],[102]]),(23,[[],[],[108],[],[107]]),(24,[[],[111],[112],[113],[],[],[110],[114],[115]]),(28,[[4],[160]]),(30,[[],[165]]),(35,[[0],[187],[188]])],gh:=[(3,[.frz 4]),(23,[.frz 11]),(30,[.frz 16])] }

def b_laws_only_1:SCode :=
 (.seq
 (.region [sO 9 (.bin .lss (.t 8) (.t 7))] [3,6,7,8,9] [] [])
 (.seq
 (.cond (.t 9)
 .skip
 (.exit 0))
 (.seq
 (.block 1
 (.seq
 (.seq
 (.region [sO 10 (.iAddr 16 (.t 6) (.t 8)),sO 11 (.load (some 16) (.t 10)),sO 5 (.alloc [(.int .i64 0),(.str []),(.str []),(.str []),(.str []),(.str []),(.str []),(.str []),(.str []),(.str []),(.str []),(.str []),(.str []),(.str []),(.int .i64 0),.nilS]),sN (.store 16 (.t 5) (.t 11))] [3,5,6,7,8] [] [[],[10]])
 (.ghost [.frz 5]))
 (.region [sO 12 (.mv (.t 3)),sO 13 (.load (some 16) (.t 5)),sO 14 (.call 208 [(.t 13)]),sO 15 (.mkSl 16 1 [(.int .i64 0),(.str []),(.str []),(.str []),(.str []),(.str []),(.str []),(.str []),(.str []),(.str []),(.str []),(.str []),(.str []),(.str []),(.int .i64 0),.nilS] [(0,(.t 14))]),sO 16 (.app 16 248 (.t 12) (.t 15)),sO 3 (.mv (.t 16))] [3,6,7,8] [15] [[],[5],[13],[14],[12,15]])))
 (.region [sO 17 (.bin .add (.t 8) (.k (.int .i64 1))),sO 8 (.mv (.t 17))] [3,6,7,8] [] []))))

def t_laws_only_2:SCode :=
 (.seq
 (.region [sO 18 (.mv (.t 3)),sO 2 (.mv (.t 18))] [2] [] [[3]])
 .ret)

def c_laws_only:SFn:=⟨1,
 (.seq
 (.region [sO 2 (.mv (.k .nilS))] [0] [] [])
 (.seq
 (.region [sO 3 (.mv (.k .nilS))] [0,3] [] [])
 (.seq
 (.seq
 (.region [sO 6 (.mv (.t 0)),sO 7 (.len 1 (.t 6)),sO 8 (.mv (.k (.int .i64 0)))] [3,6,7,8] [] [[0]])
 (.block 0
 (.loop [3,6,7,8]
 b_laws_only_1)))
 t_laws_only_2))),
 [.t 2]⟩

def l_laws_only:Lay:={ rg:=[(0,([0],[])),(1,([0,3],[])),(2,([3,6,7,8],[])),(3,([3,6,7,8,9],[])),(4,([3,5,6,7,8],[])),(5,([3,6,7,8],[15])),(6,([3,6,7,8],[])),(7,([2],[])),(1000003,([3,6,7,8],[]))],dd:=[(2,[[0]]),(4,[[],[10]]),(5,[[],[5],[13],[14],[12,15]]),(7,[[3]])],gh:=[(4,[.frz 5])] }

def b_laws_zzFits1_1:SCode :=
 (.seq
 (.region [sO 11 (.bin .lss (.t 10) (.t 9))] [8,9,10,11] [] [])
 (.seq
 (.cond (.t 11)
 .skip
 (.exit 0))
 (.seq
 (.block 1
 (.seq
 (.seq
 (.region [sO 12 (.iAddr 16 (.t 8) (.t 10)),sO 13 (.load (some 16) (.t 12)),sO 4 (.alloc [(.int .i64 0),(.str []),(.str []),(.str []),(.str []),(.str []),(.str []),(.str []),(.str []),(.str []),(.str []),(.str []),(.str []),(.str []),(.int .i64 0),.nilS]),sN (.store 16 (.t 4) (.t 13))] [4,8,9,10] [] [[],[12]])
 (.ghost [.frz 4]))
 (.seq
 (.region [sO 14 (.load (some 16) (.t 4)),sO 15 (.call 209 [(.t 14)]),sO 16 (.un .not (.t 15))] [8,9,10,16] [] [[4],[14]])
 (.cond (.t 16)
 (.seq
 (.region [sO 2 (.mv (.k (.bool false)))] [2] [] [])
 .ret)
 .skip))))
 (.region [sO 17 (.bin .add (.t 10) (.k (.int .i64 1))),sO 10 (.mv (.t 17))] [8,9,10] [] []))))

def t_laws_zzFits1_2:SCode :=
 (.seq
 (.region [sO 2 (.mv (.k (.bool true)))] [2] [] [])
 .ret)

def c_laws_zzFits1:SFn:=⟨1,
 (.seq
 (.region [sO 2 (.mv (.k (.bool false)))] [0] [] [])
 (.seq
 (.seq
 (.region [sO 5 (.mv (.t 0)),sO 6 (.len 1 (.t 5)),sO 7 (.bin .gtr (.t 6) (.k (.int .i64 2147483647)))] [0,7] [] [[],[5]])
 (.cond (.t 7)
 (.seq
 (.region [sO 2 (.mv (.k (.bool false)))] [2] [] [])
 .ret)
 .skip))
 (.seq
 (.seq
 (.region [sO 8 (.mv (.t 0)),sO 9 (.len 1 (.t 8)),sO 10 (.mv (.k (.int .i64 0)))] [8,9,10] [] [[0]])
 (.block 0
 (.loop [8,9,10]
 b_laws_zzFits1_1)))
 t_laws_zzFits1_2))),
 [.t 2]⟩

def l_laws_zzFits1:Lay:={ rg:=[(0,([0],[])),(1,([0,7],[])),(2,([2],[])),(3,([8,9,10],[])),(4,([8,9,10,11],[])),(5,([4,8,9,10],[])),(6,([8,9,10,16],[])),(7,([2],[])),(8,([8,9,10],[])),(9,([2],[])),(1000004,([8,9,10],[]))],dd:=[(1,[[],[5]]),(3,[[0]]),(5,[[],[12]]),(6,[[4],[14]])],gh:=[(5,[.frz 4])] }

def c_laws_zzFits2:SFn:=⟨1,
 (.seq
 (.seq
 (.region [sO 1 (.box (.t 0)),sO 2 (.mv (.k (.bool false)))] [1] [] [[0]])
 (.ghost [.frz 1]))
 (.seq
 (.seq
 (.region [sO 3 (.fAddr 1 (.t 1)),sO 4 (.load none (.t 3)),sO 5 (.len 0 (.t 4)),sO 6 (.bin .gtr (.t 5) (.k (.int .i64 2147483647)))] [1,6] [] [[],[3],[4]])
 (.cond (.t 6)
 (.seq
 (.region [sO 2 (.mv (.k (.bool false)))] [2] [] [])
 .ret)
 .skip))
 (.seq
 (.seq
 (.region [sO 7 (.fAddr 2 (.t 1)),sO 8 (.load none (.t 7)),sO 9 (.len 0 (.t 8)),sO 10 (.bin .gtr (.t 9) (.k (.int .i64 2147483647)))] [1,10] [] [[],[7],[8]])
 (.cond (.t 10)
 (.seq
 (.region [sO 2 (.mv (.k (.bool false)))] [2] [] [])
 .ret)
 .skip))
 (.seq
 (.seq
 (.region [sO 11 (.fAddr 3 (.t 1)),sO 12 (.load none (.t 11)),sO 13 (.len 0 (.t 12)),sO 14 (.bin .gtr (.t 13) (.k (.int .i64 2147483647)))] [1,14] [] [[],[11],[12]])
 (.cond (.t 14)
 (.seq
 (.region [sO 2 (.mv (.k (.bool false)))] [2] [] [])
 .ret)
 .skip))
 (.seq
 (.seq
 (.region [sO 15 (.fAddr 4 (.t 1)),sO 16 (.load none (.t 15)),sO 17 (.len 0 (.t 16)),sO 18 (.bin .gtr (.t 17) (.k (.int .i64 2147483647)))] [1,18] [] [[],[15],[16]])
 (.cond (.t 18)
 (.seq
 (.region [sO 2 (.mv (.k (.bool false)))] [2] [] [])
 .ret)
 .skip))
 (.seq
 (.seq
 (.region [sO 19 (.fAddr 5 (.t 1)),sO 20 (.load none (.t 19)),sO 21 (.len 0 (.t 20)),sO 22 (.bin .gtr (.t 21) (.k (.int .i64 2147483647)))] [1,22] [] [[],[19],[20]])
 (.cond (.t 22)
 (.seq
 (.region [sO 2 (.mv (.k (.bool false)))] [2] [] [])
 .ret)
 .skip))
 (.seq
 (.seq
 (.region [sO 23 (.fAddr 6 (.t 1)),sO 24 (.load none (.t 23)),sO 25 (.len 0 (.t 24)),sO 26 (.bin .gtr (.t 25) (.k (.int .i64 2147483647)))] [1,26] [] [[],[23],[24]])
 (.cond (.t 26)
 (.seq
 (.region [sO 2 (.mv (.k (.bool false)))] [2] [] [])
 .ret)
 .skip))
 (.seq
 (.seq
 (.region [sO 27 (.fAddr 7 (.t 1)),sO 28 (.load none (.t 27)),sO 29 (.len 0 (.t 28)),sO 30 (.bin .gtr (.t 29) (.k (.int .i64 2147483647)))] [1,30] [] [[],[27],[28]])
 (.cond (.t 30)
 (.seq
 (.region [sO 2 (.mv (.k (.bool false)))] [2] [] [])
 .ret)
 .skip))
 (.seq
 (.seq
 (.region [sO 31 (.fAddr 8 (.t 1)),sO 32 (.load none (.t 31)),sO 33 (.len 0 (.t 32)),sO 34 (.bin .gtr (.t 33) (.k (.int .i64 2147483647)))] [1,34] [] [[],[31],[32]])
 (.cond (.t 34)
 (.seq
 (.region [sO 2 (.mv (.k (.bool false)))] [2] [] [])
 .ret)
 .skip))
 (.seq
 (.seq
 (.region [sO 35 (.fAddr 9 (.t 1)),sO 36 (.load none (.t 35)),sO 37 (.len 0 (.t 36)),sO 38 (.bin .gtr (.t 37) (.k (.int .i64 2147483647)))] [1,38] [] [[],[35],[36]])
 (.cond (.t 38)
 (.seq
 (.region [sO 2 (.mv (.k (.bool false)))] [2] [] [])
 .ret)
 .skip))
 (.seq
 (.seq
 (.region [sO 39 (.fAddr 10 (.t 1)),sO 40 (.load none (.t 39)),sO 41 (.len 0 (.t 40)),sO 42 (.bin .gtr (.t 41) (.k (.int .i64 2147483647)))] [1,42] [] [[],[39],[40]])
 (.cond (.t 42)
 (.seq
 (.region [sO 2 (.mv (.k (.bool false)))] [2] [] [])
 .ret)
 .skip))
 (.seq
 (.seq
 (.region [sO 43 (.fAddr 11 (.t 1)),sO 44 (.load none (.t 43)),sO 45 (.len 0 (.t 44)),sO 46 (.bin .gtr (.t 45) (.k (.int .i64 2147483647)))] [1,46] [] [[],[43],[44]])
 (.cond (.t 46)
 (.seq
 (.region [sO 2 (.mv (.k (.bool false)))] [2] [] [])
 .ret)
 .skip))
 (.seq
 (.seq
 (.region [sO 47 (.fAddr 12 (.t 1)),sO 48 (.load none (.t 47)),sO 49 (.len 0 (.t 48)),sO 50 (.bin .gtr (.t 49) (.k (.int .i64 2147483647)))] [1,50] [] [[],[47],[48]])
 (.cond (.t 50)
 (.seq
 (.region [sO 2 (.mv (.k (.bool false)))] [2] [] [])
 .ret)
 .skip))
 (.seq
 (.seq
 (.region [sO 51 (.fAddr 13 (.t 1)),sO 52 (.load none (.t 51)),sO 53 (.len 0 (.t 52)),sO 54 (.bin .gtr (.t 53) (.k (.int .i64 2147483647)))] [1,54] [] [[],[51],[52]])
 (.cond (.t 54)
 (.seq
 (.region [sO 2 (.mv (.k (.bool false)))] [2] [] [])
 .ret)
 .skip))
 (.seq
 (.seq
 (.region [sO 55 (.fAddr 15 (.t 1)),sO 56 (.load none (.t 55)),sO 57 (.call 210 [(.t 56)]),sO 58 (.un .not (.t 57))] [58] [] [[1],[55],[56]])
 (.cond (.t 58)
 (.seq
 (.region [sO 2 (.mv (.k (.bool false)))] [2] [] [])
 .ret)
 .skip))
 (.seq
 (.region [sO 2 (.mv (.k (.bool true)))] [2] [] [])
 .ret)))))))))))))))),
 [.t 2]⟩

def l_laws_zzFits2:Lay:={ rg:=[(0,([1],[])),(1,([1,6],[])),(2,([2],[])),(3,([1,10],[])),(4,([2],[])),(5,([1,14],[])),(6,([2],[])),(7,([1,18],[])),(8,([2],[])),(9,([1,22],[])),(10,([2],[])),(11,([1,26],[])),(12,([2],[])),(13,([1,30],[])),(14,([2],[])),(15,([1,34],[])),(16,([2],[])),(17,([1,38],[])),(18,([2],[])),(19,([1,42],[])),(20,([2],[])),(21,([1,46],[])),(22,([2],[])),(23,([1,50],[])),(24,([2],[])),(25,([1,54],[])),(26,([2],[])),(27,([58],[])),(28,([2],[])),(29,([2],[]))],dd:=[(0,[[0]]),(1,[[],[3],[4]]),(3,[[],[7],[8]]),(5,[[],[11],[12]]),(7,[[],[15],[16]]),(9,[[],[19],[20]]),(11,[[],[23],[24]]),(13,[[],[27],[28]]),(15,[[],[31],[32]]),(17,[[],[35],[36]]),(19,[[],[39],[40]]),(21,[[],[43],[44]]),(23,[[],[47],[48]]),(25,[[],[51],[52]]),(27,[[1],[55],[56]])],gh:=[(0,[.frz 1])] }

def b_laws_zzFits3_1:SCode :=
 (.seq
 (.region [sO 11 (.bin .lss (.t 10) (.t 9))] [8,9,10,11] [] [])
 (.seq
 (.cond (.t 11)
 .skip
 (.exit 0))
 (.seq
 (.block 1
 (.seq
 (.seq
 (.region [sO 12 (.iAddr 2 (.t 8) (.t 10)),sO 13 (.load (some 2) (.t 12)),sO 4 (.alloc [(.str []),(.str [])]),sN (.store 2 (.t 4) (.t 13))] [4,8,9,10] [] [[],[12]])
 (.ghost [.frz 4]))
 (.seq
 (.region [sO 14 (.load (some 2) (.t 4)),sO 15 (.call 211 [(.t 14)]),sO 16 (.un .not (.t 15))] [8,9,10,16] [] [[4],[14]])
 (.cond (.t 16)
 (.seq
 (.region [sO 2 (.mv (.k (.bool false)))] [2] [] [])
 .ret)
 .skip))))
 (.region [sO 17 (.bin .add (.t 10) (.k (.int .i64 1))),sO 10 (.mv (.t 17))] [8,9,10] [] []))))

def t_laws_zzFits3_2:SCode :=
 (.seq
 (.region [sO 2 (.mv (.k (.bool true)))] [2] [] [])
 .ret)

def c_laws_zzFits3:SFn:=⟨1,
 (.seq
 (.region [sO 2 (.mv (.k (.bool false)))] [0] [] [])
 (.seq
 (.seq
 (.region [sO 5 (.mv (.t 0)),sO 6 (.len 1 (.t 5)),sO 7 (.bin .gtr (.t 6) (.k (.int .i64 2147483647)))] [0,7] [] [[],[5]])
 (.cond (.t 7)
 (.seq
 (.region [sO 2 (.mv (.k (.bool false)))] [2] [] [])
 .ret)
 .skip))
 (.seq
 (.seq
 (.region [sO 8 (.mv (.t 0)),sO 9 (.len 1 (.t 8)),sO 10 (.mv (.k (.int .i64 0)))] [8,9,10] [] [[0]])
 (.block 0
 (.loop [8,9,10]
 b_laws_zzFits3_1)))
 t_laws_zzFits3_2))),
 [.t 2]⟩

def l_laws_zzFits3:Lay:={ rg:=[(0,([0],[])),(1,([0,7],[])),(2,([2],[])),(3,([8,9,10],[])),(4,([8,9,10,11],[])),(5,([4,8,9,10],[])),(6,([8,9,10,16],[])),(7,([2],[])),(8,([8,9,10],[])),(9,([2],[])),(1000004,([8,9,10],[]))],dd:=[(1,[[],[5]]),(3,[[0]]),(5,[[],[12]]),(6,[[4],[14]])],gh:=[(5,[.frz 4])] }

def c_laws_zzFits4:SFn:=⟨1,
 (.seq
 (.seq
 (.region [sO 1 (.box (.t 0)),sO 2 (.mv (.k (.bool false)))] [1] [] [[0]])
 (.ghost [.frz 1]))
 (.seq
 (.seq
 (.region [sO 3 (.fAddr 0 (.t 1)),sO 4 (.load none (.t 3)),sO 5 (.len 0 (.t 4)),sO 6 (.bin .gtr (.t 5) (.k (.int .i64 2147483647)))] [1,6] [] [[],[3],[4]])
 (.cond (.t 6)
 (.seq
 (.region [sO 2 (.mv (.k (.bool false)))] [2] [] [])
 .ret)
 .skip))
 (.seq
 (.seq
 (.region [sO 7 (.fAddr 1 (.t 1)),sO 8 (.load none (.t 7)),sO 9 (.len 0 (.t 8)),sO 10 (.bin .gtr (.t 9) (.k (.int .i64 2147483647)))] [10] [] [[1],[7],[8]])
 (.cond (.t 10)
 (.seq
 (.region [sO 2 (.mv (.k (.bool false)))] [2] [] [])
 .ret)
 .skip))
 (.seq
 (.region [sO 2 (.mv (.k (.bool true)))] [2] [] [])
 .ret)))),
 [.t 2]⟩

def l_laws_zzFits4:Lay:={ rg:=[(0,([1],[])),(1,([1,6],[])),(2,([2],[])),(3,([10],[])),(4,([2],[])),(5,([2],[]))],dd:=[(0,[[0]]),(1,[[],[3],[4]]),(3,[[1],[7],[8]])],gh:=[(0,[.frz 1])] }

end Wax


namespace Wax
open Go (IntKind)

def c_spec_areader_blank:SFn:=⟨1,
 (.seq
 (.region [sO 2 (.mv (.k (.bool false)))] [0] [] [])
 (.seq
 (.block 0
 (.loop [0]
 (.seq
 (.seq
 (.region [sO 5 (.mv (.t 0)),sO 6 (.chk (.t 5)),sO 7 (.fAddr 1 (.t 6)),sO 8 (.load none (.t 7)),sO 9 (.mv (.t 0)),sO 10 (.chk (.t 9)),sO 11 (.fAddr 0 (.t 10)),sO 12 (.load none (.t 11)),sO 13 (.len 0 (.t 12)),sO 14 (.bin .lss (.t 8) (.t 13))] [0,14] [] [])
 (.cond (.t 14)
 .skip
 (.exit 0)))
 (.block 1
 (.seq
 (.region [sO 15 (.mv (.t 0)),sO 16 (.chk (.t 15)),sO 17 (.fAddr 0 (.t 16)),sO 18 (.load none (.t 17)),sO 19 (.mv (.t 0)),sO 20 (.chk (.t 19)),sO 21 (.fAddr 1 (.t 20)),sO 22 (.load none (.t 21)),sO 23 (.iStr (.t 18) (.t 22)),sO 3 (.mv (.t 23))] [0,3] [] [])
 (.block 2
 (.seq
 (.region [sO 25 (.mv (.t 3)),sO 26 (.call 100 [(.t 25),(.k (.str [32,9,13,10]))]),sO 24 (.mv (.t 26))] [0,3,24] [] [[],[25]])
 (.cond (.t 24)
 (.region [sO 27 (.mv (.t 0)),sO 28 (.chk (.t 27)),sO 29 (.fAddr 1 (.t 28)),sO 30 (.load none (.t 29)),sO 31 (.bin .add (.t 30) (.k (.int .i64 1))),sO 32 (.chk (.t 27)),sO 33 (.fAddr 1 (.t 32)),sN (.store 1 (.t 33) (.t 31))] [0] [] [[],[],[28],[29],[30],[27],[32]])
 (.seq
 (.region [sO 35 (.mv (.t 3)),sO 36 (.bin .eql (.t 35) (.k (.int .u8 40))),sO 34 (.mv (.t 36))] [0,34] [] [[3],[35]])
 (.cond (.t 34)
 (.seq
 (.region [sO 4 (.mv (.k (.int .i64 0)))] [0,4] [] [])
 (.block 3
 (.loop [0,4]
 (.block 4
 (.seq
 (.seq
 (.region [sO 37 (.mv (.t 0)),sO 38 (.chk (.t 37)),sO 39 (.fAddr 1 (.t 38)),sO 40 (.load none (.t 39)),sO 41 (.mv (.t 0)),sO 42 (.chk (.t 41)),sO 43 (.fAddr 0 (.t 42)),sO 44 (.load none (.t 43)),sO 45 (.len 0 (.t 44)),sO 46 (.bin .geq (.t 40) (.t 45))] [0,4,46] [] [])
 (.cond (.t 46)
 (.seq
 (.region [sO 2 (.mv (.k (.bool false)))] [2] [] [])
 .ret)
 .skip))
 (.seq
 (.seq
 (.region [sO 47 (.mv (.t 0)),sO 48 (.chk (.t 47)),sO 49 (.fAddr 0 (.t 48)),sO 50 (.load none (.t 49)),sO 51 (.mv (.t 0)),sO 52 (.chk (.t 51)),sO 53 (.fAddr 1 (.t 52)),sO 54 (.load none (.t 53)),sO 55 (.iStr (.t 50) (.t 54))] [0,4,55] [] [])
 (.block 5
 (.seq
 (.region [sO 57 (.bin .eql (.t 55) (.k (.int .u8 92))),sO 56 (.mv (.t 57))] [0,4,55,56] [] [])
 (.cond (.t 56)
 (.region [sO 58 (.mv (.t 0)),sO 59 (.chk (.t 58)),sO 60 (.fAddr 1 (.t 59)),sO 61 (.load none (.t 60)),sO 62 (.bin .add (.t 61) (.k (.int .i64 1))),sO 63 (.chk (.t 58)),sO 64 (.fAddr 1 (.t 63)),sN (.store 1 (.t 64) (.t 62))] [0,4] [] [[],[],[59],[60],[61],[58],[63]])
 (.seq
 (.region [sO 66 (.bin .eql (.t 55) (.k (.int .u8 40))),sO 65 (.mv (.t 66))] [0,4,55,65] [] [])
 (.cond (.t 65)
 (.region [sO 67 (.mv (.t 4)),sO 68 (.bin .add (.t 67) (.k (.int .i64 1))),sO 4 (.mv (.t 68))] [0,4] [] [[],[67]])
 (.seq
 (.region [sO 70 (.bin .eql (.t 55) (.k (.int .u8 41))),sO 69 (.mv (.t 70))] [0,4,69] [] [[55]])
 (.cond (.t 69)
 (.region [sO 71 (.mv (.t 4)),sO 72 (.bin .sub (.t 71) (.k (.int .i64 1))),sO 4 (.mv (.t 72))] [0,4] [] [[],[71]])
 .skip))))))))
 (.seq
 (.region [sO 73 (.mv (.t 0)),sO 74 (.chk (.t 73)),sO 75 (.fAddr 1 (.t 74)),sO 76 (.load none (.t 75)),sO 77 (.bin .add (.t 76) (.k (.int .i64 1))),sO 78 (.chk (.t 73)),sO 79 (.fAddr 1 (.t 78)),sN (.store 1 (.t 79) (.t 77))] [0,4] [] [[],[],[74],[75],[76],[73],[78]])
 (.seq
 (.region [sO 80 (.mv (.t 4)),sO 81 (.bin .eql (.t 80) (.k (.int .i64 0)))] [0,4,81] [] [])
 (.cond (.t 81)
 (.exit 3)
 .skip)))))))))
 (.seq
 (.region [sO 2 (.mv (.k (.bool true)))] [2] [] [])
 .ret)))))))))))
 (.seq
 (.region [sO 2 (.mv (.k (.bool true)))] [2] [] [])
 .ret))),
 [.t 2]⟩

def l_spec_areader_blank:Lay:={ rg:=[(0,([0],[])),(1,([0,14],[])),(2,([0,3],[])),(3,([2],[])),(4,([0,3,24],[])),(5,([0],[])),(6,([0,34],[])),(7,([0,4],[])),(8,([0,4,46],[])),(9,([2],[])),(10,([0,4,55],[])),(11,([0,4,55,56],[])),(12,([0,4],[])),(13,([0,4,55,65],[])),(14,([0,4],[])),(15,([0,4,69],[])),(16,([0,4],[])),(17,([0,4],[])),(18,([0,4,81],[])),(19,([2],[])),(1000001,([0],[])),(1000008,([0,4],[]))],dd:=[(4,[[],[25]]),(5,[[],[],[28],[29],[30],[27],[32]]),(6,[[3],[35]]),(12,[[],[],[59],[60],[61],[58],[63]]),(14,[[],[67]]),(15,[[55]]),(16,[[],[71]]),(17,[[],[],[74],[75],[76],[73],[78]])] }

def c_spec_areader_has:SFn:=⟨2,
 (.seq
 (.region [sO 4 (.mv (.k (.bool false)))] [0,1] [] [])
 (.seq
 (.seq
 (.region [sO 5 (.mv (.t 0)),sO 6 (.chk (.t 5)),sO 7 (.fAddr 1 (.t 6)),sO 8 (.load none (.t 7)),sO 9 (.mv (.t 0)),sO 10 (.chk (.t 9)),sO 11 (.fAddr 0 (.t 10)),sO 12 (.load none (.t 11)),sO 13 (.len 0 (.t 12)),sO 14 (.bin .lss (.t 8) (.t 13)),sO 15 (.mv (.t 14)),sG 16 (.mv (.t 0)) 15 true,sG 17 (.chk (.t 16)) 15 true,sG 18 (.fAddr 0 (.t 17)) 15 true,sG 19 (.load none (.t 18)) 15 true,sG 20 (.mv (.t 0)) 15 true,sG 21 (.chk (.t 20)) 15 true,sG 22 (.fAddr 1 (.t 21)) 15 true,sG 23 (.load none (.t 22)) 15 true,sG 24 (.iStr (.t 19) (.t 23)) 15 true,sG 25 (.mv (.t 1)) 15 true,sG 26 (.bin .eql (.t 24) (.t 25)) 15 true,sO 27 (.pick (.t 15) (.t 26) (.k (.bool false)))] [0,27] [] [])
 (.cond (.t 27)
 (.seq
 (.region [sO 28 (.mv (.t 0)),sO 29 (.chk (.t 28)),sO 30 (.fAddr 1 (.t 29)),sO 31 (.load none (.t 30)),sO 32 (.bin .add (.t 31) (.k (.int .i64 1))),sO 33 (.chk (.t 28)),sO 34 (.fAddr 1 (.t 33)),sN (.store 1 (.t 34) (.t 32))] [] [] [[0],[],[29],[30],[31],[28],[33]])
 (.seq
 (.region [sO 4 (.mv (.k (.bool true)))] [4] [] [])
 .ret))
 .skip))
 (.seq
 (.region [sO 4 (.mv (.k (.bool false)))] [4] [] [])
 .ret))),
 [.t 4]⟩

def l_spec_areader_has:Lay:={ rg:=[(0,([0,1],[])),(1,([0,27],[])),(2,([],[])),(3,([4],[])),(4,([4],[]))],dd:=[(2,[[0],[],[29],[30],[31],[28],[33]])] }

def b_spec_areader_word_1:SCode :=
 (.seq
 (.seq
 (.region [sO 10 (.mv (.t 0)),sO 11 (.chk (.t 10)),sO 12 (.fAddr 1 (.t 11)),sO 13 (.load none (.t 12)),sO 14 (.mv (.t 0)),sO 15 (.chk (.t 14)),sO 16 (.fAddr 0 (.t 15)),sO 17 (.load none (.t 16)),sO 18 (.len 0 (.t 17)),sO 19 (.bin .lss (.t 13) (.t 18)),sO 20 (.mv (.t 19)),sG 21 (.mv (.t 0)) 20 true,sG 22 (.chk (.t 21)) 20 true,sG 23 (.fAddr 0 (.t 22)) 20 true,sG 24 (.load none (.t 23)) 20 true,sG 25 (.mv (.t 0)) 20 true,sG 26 (.chk (.t 25)) 20 true,sG 27 (.fAddr 1 (.t 26)) 20 true,sG 28 (.load none (.t 27)) 20 true,sG 29 (.mv (.t 0)) 20 true,sG 30 (.chk (.t 29)) 20 true,sG 31 (.fAddr 1 (.t 30)) 20 true,sG 32 (.load none (.t 31)) 20 true,sG 33 (.bin .add (.t 32) (.k (.int .i64 1))) 20 true,sG 34 (.slStr (.t 24) (some (.t 28)) (some (.t 33))) 20 true,sG 35 (.call 104 [(.t 34)]) 20 true,sG 36 (.mv (.t 35)) 20 true,sG 37 (.mv (.t 0)) 36 false,sG 38 (.chk (.t 37)) 36 false,sG 39 (.fAddr 0 (.t 38)) 36 false,sG 40 (.load none (.t 39)) 36 false,sG 41 (.mv (.t 0)) 36 false,sG 42 (.chk (.t 41)) 36 false,sG 43 (.fAddr 1 (.t 42)) 36 false,sG 44 (.load none (.t 43)) 36 false,sG 45 (.iStr (.t 40) (.t 44)) 36 false,sG 46 (.mv (.t 1)) 36 false,sG 47 (.call 100 [(.t 45),(.t 46)]) 36 false,sG 48 (.pick (.t 36) (.k (.bool true)) (.t 47)) 20 true,sO 49 (.pick (.t 20) (.t 48) (.k (.bool false)))] [0,1,5,49] [] [])
 (.cond (.t 49)
 .skip
 (.exit 0)))
 (.block 1
 (.region [sO 50 (.mv (.t 0)),sO 51 (.chk (.t 50)),sO 52 (.fAddr 1 (.t 51)),sO 53 (.load none (.t 52)),sO 54 (.bin .add (.t 53) (.k (.int .i64 1))),sO 55 (.chk (.t 50)),sO 56 (.fAddr 1 (.t 55)),sN (.store 1 (.t 56) (.t 54))] [0,1,5] [] [[],[],[51],[52],[53],[50],[55]])))

def t_spec_areader_word_2:SCode :=
 (.seq
 (.region [sO 57 (.mv (.t 0)),sO 58 (.chk (.t 57)),sO 59 (.fAddr 0 (.t 58)),sO 60 (.load none (.t 59)),sO 61 (.mv (.t 5)),sO 62 (.mv (.t 0)),sO 63 (.chk (.t 62)),sO 64 (.fAddr 1 (.t 63)),sO 65 (.load none (.t 64)),sO 66 (.slStr (.t 60) (some (.t 61)) (some (.t 65))),sO 4 (.mv (.t 66))] [4] [] [])
 .ret)

def c_spec_areader_word:SFn:=⟨2,
 (.seq
 (.region [sO 4 (.mv (.k (.str [])))] [0,1] [] [])
 (.seq
 (.region [sO 6 (.mv (.t 0)),sO 7 (.chk (.t 6)),sO 8 (.fAddr 1 (.t 7)),sO 9 (.load none (.t 8)),sO 5 (.mv (.t 9))] [0,1,5] [] [[],[6],[7],[8]])
 (.seq
 (.block 0
 (.loop [0,1,5]
 b_spec_areader_word_1))
 t_spec_areader_word_2))),
 [.t 4]⟩

def l_spec_areader_word:Lay:={ rg:=[(0,([0,1],[])),(1,([0,1,5],[])),(2,([0,1,5,49],[])),(3,([0,1,5],[])),(4,([4],[])),(1000002,([0,1,5],[]))],dd:=[(1,[[],[6],[7],[8]]),(3,[[],[],[51],[52],[53],[50],[55]])] }

def b_spec_areader_quoted_1:SCode :=
 (.seq
 (.seq
 (.region [sO 6 (.mv (.t 0)),sO 7 (.chk (.t 6)),sO 8 (.fAddr 1 (.t 7)),sO 9 (.load none (.t 8)),sO 10 (.mv (.t 0)),sO 11 (.chk (.t 10)),sO 12 (.fAddr 0 (.t 11)),sO 13 (.load none (.t 12)),sO 14 (.len 0 (.t 13)),sO 15 (.bin .lss (.t 9) (.t 14))] [0,4,15] [] [])
 (.cond (.t 15)
 .skip
 (.exit 0)))
 (.block 1
 (.seq
 (.region [sO 16 (.mv (.t 0)),sO 17 (.chk (.t 16)),sO 18 (.fAddr 0 (.t 17)),sO 19 (.load none (.t 18)),sO 20 (.mv (.t 0)),sO 21 (.chk (.t 20)),sO 22 (.fAddr 1 (.t 21)),sO 23 (.load none (.t 22)),sO 24 (.iStr (.t 19) (.t 23)),sO 5 (.mv (.t 24))] [0,4,5] [] [])
 (.seq
 (.region [sO 25 (.mv (.t 0)),sO 26 (.chk (.t 25)),sO 27 (.fAddr 1 (.t 26)),sO 28 (.load none (.t 27)),sO 29 (.bin .add (.t 28) (.k (.int .i64 1))),sO 30 (.chk (.t 25)),sO 31 (.fAddr 1 (.t 30)),sN (.store 1 (.t 31) (.t 29))] [0,4,5] [] [[],[],[26],[27],[28],[25],[30]])
 (.seq
 (.seq
 (.region [sO 32 (.mv (.t 5))] [0,4,5,32] [] [])
 (.block 2
 (.seq
 (.region [sO 34 (.bin .eql (.t 32) (.k (.int .u8 34))),sO 33 (.mv (.t 34))] [0,4,5,32,33] [] [])
 (.cond (.t 33)
 (.seq
 (.region [sO 35 (.mv (.t 4)),sO 36 (.cBytesStr (.t 35)),sO 2 (.mv (.t 36)),sO 3 (.mv (.k (.bool true)))] [2,3] [71] [[4],[35],[36]])
 .ret)
 (.seq
 (.region [sO 38 (.bin .eql (.t 32) (.k (.int .u8 92))),sO 37 (.mv (.t 38))] [0,4,5,32,37] [] [])
 (.cond (.t 37)
 (.seq
 (.seq
 (.region [sO 39 (.mv (.t 0)),sO 40 (.chk (.t 39)),sO 41 (.fAddr 1 (.t 40)),sO 42 (.load none (.t 41)),sO 43 (.mv (.t 0)),sO 44 (.chk (.t 43)),sO 45 (.fAddr 0 (.t 44)),sO 46 (.load none (.t 45)),sO 47 (.len 0 (.t 46)),sO 48 (.bin .geq (.t 42) (.t 47))] [0,4,48] [] [])
 (.cond (.t 48)
 (.seq
 (.region [sO 2 (.mv (.k (.str []))),sO 3 (.mv (.k (.bool false)))] [2,3] [71] [])
 .ret)
 .skip))
 (.seq
 (.region [sO 49 (.mv (.t 0)),sO 50 (.chk (.t 49)),sO 51 (.fAddr 0 (.t 50)),sO 52 (.load none (.t 51)),sO 53 (.mv (.t 0)),sO 54 (.chk (.t 53)),sO 55 (.fAddr 1 (.t 54)),sO 56 (.load none (.t 55)),sO 57 (.iStr (.t 52) (.t 56)),sO 5 (.mv (.t 57))] [0,4,5] [] [])
 (.region [sO 58 (.mv (.t 0)),sO 59 (.chk (.t 58)),sO 60 (.fAddr 1 (.t 59)),sO 61 (.load none (.t 60)),sO 62 (.bin .add (.t 61) (.k (.int .i64 1))),sO 63 (.chk (.t 58)),sO 64 (.fAddr 1 (.t 63)),sN (.store 1 (.t 64) (.t 62))] [0,4,5] [] [[],[],[59],[60],[61],[58],[63]])))
 (.seq
 (.seq
 (.region [sO 66 (.bin .eql (.t 32) (.k (.int .u8 13))),sO 65 (.mv (.t 66))] [0,4,5,32,65] [] [])
 (.cond (.t 65)
 .skip
 (.region [sO 67 (.bin .eql (.t 32) (.k (.int .u8 10))),sO 65 (.mv (.t 67))] [0,4,5,65] [] [[32]])))
 (.cond (.t 65)
 (.exit 1)
 .skip))))))))
 (.region [sO 68 (.mv (.t 4)),sO 69 (.mv (.t 5)),sO 70 (.mkSl 1 1 [(.int .u8 0)] [(0,(.t 69))]),sO 71 (.app 1 1 (.t 68) (.t 70)),sO 4 (.mv (.t 71))] [0,4] [70] [[],[5],[69],[68,70]]))))))

def t_spec_areader_quoted_2:SCode :=
 (.seq
 (.region [sO 2 (.mv (.k (.str []))),sO 3 (.mv (.k (.bool false)))] [2,3] [71] [])
 .ret)

def c_spec_areader_quoted:SFn:=⟨1,
 (.seq
 (.region [sO 2 (.mv (.k (.str []))),sO 3 (.mv (.k (.bool false)))] [0] [] [[2]])
 (.seq
 (.region [sO 4 (.mv (.k .nilS))] [0,4] [] [])
 (.seq
 (.block 0
 (.loop [0,4]
 b_spec_areader_quoted_1))
 t_spec_areader_quoted_2))),
 [.t 2,.t 3]⟩

def l_spec_areader_quoted:Lay:={ rg:=[(0,([0],[])),(1,([0,4],[])),(2,([0,4,15],[])),(3,([0,4,5],[])),(4,([0,4,5],[])),(5,([0,4,5,32],[])),(6,([0,4,5,32,33],[])),(7,([2,3],[71])),(8,([0,4,5,32,37],[])),(9,([0,4,48],[])),(10,([2,3],[71])),(11,([0,4,5],[])),(12,([0,4,5],[])),(13,([0,4,5,32,65],[])),(14,([0,4,5,65],[])),(15,([0,4],[70])),(16,([2,3],[71])),(1000002,([0,4],[]))],dd:=[(0,[[2]]),(4,[[],[],[26],[27],[28],[25],[30]]),(7,[[4],[35],[36]]),(12,[[],[],[59],[60],[61],[58],[63]]),(14,[[32]]),(15,[[],[5],[69],[68,70]])] }

def c_spec_areader_value:SFn:=⟨2,
 (.seq
 (.region [sO 4 (.mv (.k (.str []))),sO 5 (.mv (.k (.bool false)))] [0,1] [] [[4]])
 (.seq
 (.seq
 (.region [sO 7 (.mv (.t 0)),sO 8 (.callS 224 [(.t 7),(.k (.int .u8 34))])] [0,1,8] [] [])
 (.cond (.t 8)
 (.seq
 (.region [sO 9 (.mv (.t 0)),sO 10 (.callS 225 [(.t 9)]),sO 11 (.extr (.t 10) 0),sO 12 (.extr (.t 10) 1),sO 4 (.mv (.t 11)),sO 5 (.mv (.t 12))] [4,5] [8,100008] [[0],[9],[],[10],[11]])
 .ret)
 .skip))
 (.seq
 (.region [sO 13 (.mv (.t 0)),sO 14 (.mv (.t 1)),sO 15 (.callS 226 [(.t 13),(.t 14)]),sO 6 (.mv (.t 15))] [6] [8,100008] [[0],[1],[13,14]])
 (.seq
 (.region [sO 16 (.mv (.t 6)),sO 17 (.mv (.t 6)),sO 18 (.bin .neq (.t 17) (.k (.str []))),sO 4 (.mv (.t 16)),sO 5 (.mv (.t 18))] [4,5] [] [[],[6],[17],[16]])
 .ret)))),
 [.t 4,.t 5]⟩

def l_spec_areader_value:Lay:={ rg:=[(0,([0,1],[])),(1,([0,1,8],[])),(2,([4,5],[8,100008])),(3,([6],[8,100008])),(4,([4,5],[]))],dd:=[(0,[[4]]),(2,[[0],[9],[],[10],[11]]),(3,[[0],[1],[13,14]]),(4,[[],[6],[17],[16]])],sf:=[224,225,226] }

def f_spec_areader_info_1:SCode :=
 (.seq
 (.region [sO 150 (.mv (.t 5)),sO 151 (.call 102 [(.t 150),(.k (.int .u8 46))]),sO 149 (.mv (.t 151)),sO 152 (.extr (.t 149) 0),sO 153 (.extr (.t 149) 1),sO 154 (.extr (.t 149) 2),sO 8 (.mv (.t 152)),sO 9 (.mv (.t 153)),sO 10 (.mv (.t 154))] [0,2,8,9,10] [110,100110] [[5],[150],[151],[],[],[149],[152],[153]])
 (.seq
 (.region [sO 156 (.mv (.t 0)),sO 157 (.callS 228 [(.t 156),(.k (.str [64,58]))]),sO 155 (.mv (.t 157)),sO 158 (.extr (.t 155) 0),sO 159 (.extr (.t 155) 1),sO 11 (.mv (.t 158)),sO 12 (.mv (.t 159))] [0,2,8,9,10,11,12] [] [[],[156],[157],[],[155],[158]])
 (.seq
 (.seq
 (.region [sO 160 (.mv (.t 12)),sO 161 (.un .not (.t 160)),sO 162 (.mv (.t 161)),sG 163 (.mv (.t 10)) 162 false,sG 164 (.un .not (.t 163)) 162 false,sO 165 (.pick (.t 162) (.k (.bool true)) (.t 164)),sO 166 (.mv (.t 165)),sG 167 (.mv (.t 8)) 166 false,sG 168 (.call 99 [(.t 167)]) 166 false,sG 169 (.un .not (.t 168)) 166 false,sO 170 (.pick (.t 166) (.k (.bool true)) (.t 169)),sO 171 (.mv (.t 170)),sG 172 (.mv (.t 9)) 171 false,sG 173 (.bin .eql (.t 172) (.k (.str []))) 171 false,sO 174 (.pick (.t 171) (.k (.bool true)) (.t 173))] [0,2,8,9,11,174] [] [[12],[160],[161],[10],[163],[162,164],[165],[],[167],[168],[166,169],[170],[],[172]])
 (.cond (.t 174)
 (.seq
 (.seq
 (.region [sO 175 (.load (some 5) (.t 2)),sN (.store 5 (.t 2) (.t 175)),sO 3 (.mv (.k (.bool false))),sO 4 (.mv (.k (.bool false)))] [2,3,4] [] [[],[175]])
 (.ghost [.frz 183]))
 .ret)
 .skip))
 (.region [sO 176 (.fAddr 4 (.t 2)),sO 177 (.load none (.t 176)),sO 178 (.mv (.t 8)),sO 179 (.mv (.t 9)),sO 180 (.mv (.t 11)),sO 181 (.agg [(.str []),(.str []),(.str [])] [(0,1,(.t 178)),(1,1,(.t 179)),(2,1,(.t 180))]),sO 182 (.mkSl 3 1 [(.str []),(.str []),(.str [])] [(0,(.t 181))]),sO 183 (.app 3 48 (.t 177) (.t 182)),sO 184 (.fAddr 4 (.t 2)),sN (.store 1 (.t 184) (.t 183))] [0,2] [182] [[],[176],[8],[9],[11],[178,179,180],[181],[177,182]]))))

def f_spec_areader_info_2:SCode :=
 (.seq
 (.seq
 (.region [sO 125 (.mv (.t 5)),sO 126 (.call 112 [(.t 125)]),sO 127 (.bin .eql (.t 126) (.k (.str [114,101,97,115,111,110])))] [0,2,5,127] [] [[],[125]])
 (.cond (.t 127)
 (.seq
 (.region [sO 129 (.mv (.t 0)),sO 130 (.callS 228 [(.t 129),(.k (.str []))]),sO 128 (.mv (.t 130)),sO 131 (.extr (.t 128) 0),sO 132 (.extr (.t 128) 1),sO 6 (.mv (.t 131)),sO 7 (.mv (.t 132))] [0,2,6,7] [110,100110] [[],[129],[130],[],[128],[131]])
 (.seq
 (.seq
 (.region [sO 133 (.mv (.t 7)),sO 134 (.un .not (.t 133)),sO 135 (.mv (.t 134)),sG 136 (.fAddr 3 (.t 2)) 135 false,sG 137 (.load none (.t 136)) 135 false,sG 138 (.bin .neq (.t 137) (.k (.str []))) 135 false,sO 139 (.pick (.t 135) (.k (.bool true)) (.t 138)),sO 140 (.mv (.t 139)),sG 141 (.fAddr 4 (.t 2)) 140 false,sG 142 (.load none (.t 141)) 140 false,sG 143 (.len 1 (.t 142)) 140 false,sG 144 (.bin .gtr (.t 143) (.k (.int .i64 0))) 140 false,sO 145 (.pick (.t 140) (.k (.bool true)) (.t 144))] [0,2,6,145] [] [[7],[133],[134],[],[136],[137],[135,138],[139],[],[141],[142],[143]])
 (.cond (.t 145)
 (.seq
 (.seq
 (.region [sO 146 (.load (some 5) (.t 2)),sN (.store 5 (.t 2) (.t 146)),sO 3 (.mv (.k (.bool false))),sO 4 (.mv (.k (.bool false)))] [2,3,4] [] [[],[146]])
 (.ghost [.frz 183]))
 .ret)
 .skip))
 (.seq
 (.region [sO 147 (.mv (.t 6)),sO 148 (.fAddr 3 (.t 2)),sN (.store 1 (.t 148) (.t 147))] [0,2] [] [[6]])
 (.exit 1))))
 .skip))
 f_spec_areader_info_1)

def f_spec_areader_info_3:SCode :=
 (.seq
 (.region [sO 109 (.mv (.t 0)),sO 110 (.callS 226 [(.t 109),(.k (.str []))]),sO 5 (.mv (.t 110))] [0,2,5] [] [[],[109]])
 (.seq
 (.seq
 (.region [sO 111 (.mv (.t 0)),sO 112 (.callS 227 [(.t 111)]),sO 113 (.un .not (.t 112)),sO 114 (.mv (.t 113)),sG 115 (.mv (.t 0)) 114 false,sG 116 (.callS 224 [(.t 115),(.k (.int .u8 61))]) 114 false,sG 117 (.un .not (.t 116)) 114 false,sO 118 (.pick (.t 114) (.k (.bool true)) (.t 117)),sO 119 (.mv (.t 118)),sG 120 (.mv (.t 0)) 119 false,sG 121 (.callS 227 [(.t 120)]) 119 false,sG 122 (.un .not (.t 121)) 119 false,sO 123 (.pick (.t 119) (.k (.bool true)) (.t 122))] [0,2,5,123] [112,116,121,100112,100116,100121] [[],[111],[112],[113],[],[115],[116],[114,117],[118],[],[120],[121]])
 (.cond (.t 123)
 (.seq
 (.seq
 (.region [sO 124 (.load (some 5) (.t 2)),sN (.store 5 (.t 2) (.t 124)),sO 3 (.mv (.k (.bool false))),sO 4 (.mv (.k (.bool false)))] [2,3,4] [110,100110] [[],[124]])
 (.ghost [.frz 183]))
 .ret)
 .skip))
 f_spec_areader_info_2))

def f_spec_areader_info_4:SCode :=
 (.seq
 (.seq
 (.region [sO 86 (.mv (.t 0)),sO 87 (.chk (.t 86)),sO 88 (.fAddr 1 (.t 87)),sO 89 (.load none (.t 88)),sO 90 (.mv (.t 0)),sO 91 (.chk (.t 90)),sO 92 (.fAddr 0 (.t 91)),sO 93 (.load none (.t 92)),sO 94 (.len 0 (.t 93)),sO 95 (.bin .eql (.t 89) (.t 94)),sO 96 (.mv (.t 95)),sG 97 (.mv (.t 0)) 96 false,sG 98 (.chk (.t 97)) 96 false,sG 99 (.fAddr 0 (.t 98)) 96 false,sG 100 (.load none (.t 99)) 96 false,sG 101 (.mv (.t 0)) 96 false,sG 102 (.chk (.t 101)) 96 false,sG 103 (.fAddr 1 (.t 102)) 96 false,sG 104 (.load none (.t 103)) 96 false,sG 105 (.iStr (.t 100) (.t 104)) 96 false,sG 106 (.bin .eql (.t 105) (.k (.int .u8 59))) 96 false,sO 107 (.pick (.t 96) (.k (.bool true)) (.t 106))] [0,2,107] [] [])
 (.cond (.t 107)
 (.seq
 (.seq
 (.region [sO 108 (.load (some 5) (.t 2)),sN (.store 5 (.t 2) (.t 108)),sO 3 (.mv (.k (.bool false))),sO 4 (.mv (.k (.bool true)))] [2,3,4] [] [[],[108]])
 (.ghost [.frz 183]))
 .ret)
 .skip))
 f_spec_areader_info_3)

def b_spec_areader_info_5:SCode :=
 (.block 1
 (.seq
 (.seq
 (.region [sO 82 (.mv (.t 0)),sO 83 (.callS 227 [(.t 82)]),sO 84 (.un .not (.t 83))] [0,2,84] [83,100083] [[],[82]])
 (.cond (.t 84)
 (.seq
 (.seq
 (.region [sO 85 (.load (some 5) (.t 2)),sN (.store 5 (.t 2) (.t 85)),sO 3 (.mv (.k (.bool false))),sO 4 (.mv (.k (.bool false)))] [2,3,4] [] [[],[85]])
 (.ghost [.frz 183]))
 .ret)
 .skip))
 f_spec_areader_info_4))

def f_spec_areader_info_6:SCode :=
 (.seq
 (.region [sO 74 (.mv (.t 0)),sO 75 (.callS 226 [(.t 74),(.k (.str []))]),sO 76 (.fAddr 2 (.t 2)),sN (.store 1 (.t 76) (.t 75))] [0,2] [] [[],[74]])
 (.seq
 (.seq
 (.region [sO 77 (.fAddr 2 (.t 2)),sO 78 (.load none (.t 77)),sO 79 (.call 99 [(.t 78)]),sO 80 (.un .not (.t 79))] [0,2,80] [] [[],[77],[78]])
 (.cond (.t 80)
 (.seq
 (.region [sO 81 (.load (some 5) (.t 2)),sN (.store 5 (.t 2) (.t 81)),sO 3 (.mv (.k (.bool false))),sO 4 (.mv (.k (.bool false)))] [2,3,4] [] [[],[81]])
 .ret)
 .skip))
 (.block 0
 (.loop [0,2]
 b_spec_areader_info_5))))

def f_spec_areader_info_7:SCode :=
 (.seq
 (.seq
 (.region [sO 65 (.mv (.t 0)),sO 66 (.callS 224 [(.t 65),(.k (.int .u8 61))]),sO 67 (.un .not (.t 66)),sO 68 (.mv (.t 67)),sG 69 (.mv (.t 0)) 68 false,sG 70 (.callS 227 [(.t 69)]) 68 false,sG 71 (.un .not (.t 70)) 68 false,sO 72 (.pick (.t 68) (.k (.bool true)) (.t 71))] [0,2,72] [48,66,70,100048,100066,100070] [[],[65],[66],[67],[],[69],[70]])
 (.cond (.t 72)
 (.seq
 (.region [sO 73 (.load (some 5) (.t 2)),sN (.store 5 (.t 2) (.t 73)),sO 3 (.mv (.k (.bool false))),sO 4 (.mv (.k (.bool false)))] [2,3,4] [] [[],[73]])
 .ret)
 .skip))
 f_spec_areader_info_6)

def f_spec_areader_info_8:SCode :=
 (.seq
 (.seq
 (.region [sO 47 (.mv (.t 0)),sO 48 (.callS 224 [(.t 47),(.k (.int .u8 47))])] [0,2,48] [] [])
 (.cond (.t 48)
 (.seq
 (.seq
 (.region [sO 49 (.mv (.t 0)),sO 50 (.callS 227 [(.t 49)]),sO 51 (.un .not (.t 50))] [0,2,51] [48,50,100048,100050] [[],[49]])
 (.cond (.t 51)
 (.seq
 (.region [sO 52 (.load (some 5) (.t 2)),sN (.store 5 (.t 2) (.t 52)),sO 3 (.mv (.k (.bool false))),sO 4 (.mv (.k (.bool false)))] [2,3,4] [] [[],[52]])
 .ret)
 .skip))
 (.seq
 (.region [sO 53 (.mv (.t 0)),sO 54 (.callS 226 [(.t 53),(.k (.str []))]),sO 55 (.fAddr 1 (.t 2)),sN (.store 1 (.t 55) (.t 54))] [0,2] [] [[],[53]])
 (.seq
 (.region [sO 56 (.fAddr 1 (.t 2)),sO 57 (.load none (.t 56)),sO 58 (.bin .eql (.t 57) (.k (.str []))),sO 59 (.mv (.t 58)),sG 60 (.mv (.t 0)) 59 false,sG 61 (.callS 227 [(.t 60)]) 59 false,sG 62 (.un .not (.t 61)) 59 false,sO 63 (.pick (.t 59) (.k (.bool true)) (.t 62))] [0,2,63] [61,100061] [[],[56],[57],[58],[],[60],[61]])
 (.cond (.t 63)
 (.seq
 (.region [sO 64 (.load (some 5) (.t 2)),sN (.store 5 (.t 2) (.t 64)),sO 3 (.mv (.k (.bool false))),sO 4 (.mv (.k (.bool false)))] [2,3,4] [] [[],[64]])
 .ret)
 .skip))))
 .skip))
 f_spec_areader_info_7)

def f_spec_areader_info_9:SCode :=
 (.seq
 (.seq
 (.region [sO 30 (.fAddr 0 (.t 2)),sO 31 (.load none (.t 30)),sO 32 (.call 112 [(.t 31)]),sO 33 (.bin .eql (.t 32) (.k (.str [110,111,110,101]))),sO 34 (.mv (.t 33)),sG 35 (.mv (.t 0)) 34 true,sG 36 (.chk (.t 35)) 34 true,sG 37 (.fAddr 1 (.t 36)) 34 true,sG 38 (.load none (.t 37)) 34 true,sG 39 (.mv (.t 0)) 34 true,sG 40 (.chk (.t 39)) 34 true,sG 41 (.fAddr 0 (.t 40)) 34 true,sG 42 (.load none (.t 41)) 34 true,sG 43 (.len 0 (.t 42)) 34 true,sG 44 (.bin .eql (.t 38) (.t 43)) 34 true,sO 45 (.pick (.t 34) (.t 44) (.k (.bool false)))] [0,2,45] [] [])
 (.cond (.t 45)
 (.seq
 (.region [sO 46 (.load (some 5) (.t 2)),sN (.store 5 (.t 2) (.t 46)),sO 3 (.mv (.k (.bool true))),sO 4 (.mv (.k (.bool true)))] [2,3,4] [] [[],[46]])
 .ret)
 .skip))
 f_spec_areader_info_8)

def f_spec_areader_info_10:SCode :=
 (.seq
 (.region [sO 17 (.mv (.t 0)),sO 18 (.callS 226 [(.t 17),(.k (.str []))]),sO 19 (.fAddr 0 (.t 2)),sN (.store 1 (.t 19) (.t 18))] [0,2] [] [[],[17]])
 (.seq
 (.seq
 (.region [sO 20 (.fAddr 0 (.t 2)),sO 21 (.load none (.t 20)),sO 22 (.call 99 [(.t 21)]),sO 23 (.un .not (.t 22)),sO 24 (.mv (.t 23)),sG 25 (.mv (.t 0)) 24 false,sG 26 (.callS 227 [(.t 25)]) 24 false,sG 27 (.un .not (.t 26)) 24 false,sO 28 (.pick (.t 24) (.k (.bool true)) (.t 27))] [0,2,28] [26,100026] [[],[20],[21],[22],[23],[],[25],[26]])
 (.cond (.t 28)
 (.seq
 (.region [sO 29 (.load (some 5) (.t 2)),sN (.store 5 (.t 2) (.t 29)),sO 3 (.mv (.k (.bool false))),sO 4 (.mv (.k (.bool false)))] [2,3,4] [] [[],[29]])
 .ret)
 .skip))
 f_spec_areader_info_9))

def c_spec_areader_info:SFn:=⟨1,
 (.seq
 (.region [sO 2 (.alloc [(.str []),(.str []),(.str []),(.str []),.nilS]),sO 3 (.mv (.k (.bool false))),sO 4 (.mv (.k (.bool false)))] [0,2] [] [[],[3]])
 (.seq
 (.seq
 (.region [sO 13 (.mv (.t 0)),sO 14 (.callS 227 [(.t 13)]),sO 15 (.un .not (.t 14))] [0,2,15] [14,100014] [[],[13]])
 (.cond (.t 15)
 (.seq
 (.region [sO 16 (.load (some 5) (.t 2)),sN (.store 5 (.t 2) (.t 16)),sO 3 (.mv (.k (.bool false))),sO 4 (.mv (.k (.bool false)))] [2,3,4] [] [[],[16]])
 .ret)
 .skip))
 f_spec_areader_info_10)),
 [.c (some 5) 2,.t 3,.t 4]⟩

def l_spec_areader_info:Lay:={ rg:=[(0,([0,2],[])),(1,([0,2,15],[14,100014])),(2,([2,3,4],[])),(3,([0,2],[])),(4,([0,2,28],[26,100026])),(5,([2,3,4],[])),(6,([0,2,45],[])),(7,([2,3,4],[])),(8,([0,2,48],[])),(9,([0,2,51],[48,50,100048,100050])),(10,([2,3,4],[])),(11,([0,2],[])),(12,([0,2,63],[61,100061])),(13,([2,3,4],[])),(14,([0,2,72],[48,66,70,100048,100066,100070])),(15,([2,3,4],[])),(16,([0,2],[])),(17,([0,2,80],[])),(18,([2,3,4],[])),(19,([0,2,84],[83,100083])),(20,([2,3,4],[])),(21,([0,2,107],[])),(22,([2,3,4],[])),(23,([0,2,5],[])),(24,([0,2,5,123],[112,116,121,100112,100116,100121])),(25,([2,3,4],[110,100110])),(26,([0,2,5,127],[])),(27,([0,2,6,7],[110,100110])),(28,([0,2,6,145],[])),(29,([2,3,4],[])),(30,([0,2],[])),(31,([0,2,8,9,10],[110,100110])),(32,([0,2,8,9,10,11,12],[])),(33,([0,2,8,9,11,174],[])),(34,([2,3,4],[])),(35,([0,2],[182])),(1000019,([0,2],[]))],dd:=[(0,[[],[3]]),(1,[[],[13]]),(2,[[],[16]]),(3,[[],[17]]),(4,[[],[20],[21],[22],[23],[],[25],[26]]),(5,[[],[29]]),(7,[[],[46]]),(9,[[],[49]]),(10,[[],[52]]),(11,[[],[53]]),(12,[[],[56],[57],[58],[],[60],[61]]),(13,[[],[64]]),(14,[[],[65],[66],[67],[],[69],[70]]),(15,[[],[73]]),(16,[[],[74]]),(17,[[],[77],[78]]),(18,[[],[81]]),(19,[[],[82]]),(20,[[],[85]]),(22,[[],[108]]),(23,[[],[109]]),(24,[[],[111],[112],[113],[],[115],[116],[114,117],[118],[],[120],[121]]),(25,[[],[124]]),(26,[[],[125]]),(27,[[],[129],[130],[],[128],[131]]),(28,[[7],[133],[134],[],[136],[137],[135,138],[139],[],[141],[142],[143]]),(29,[[],[146]]),(30,[[6]]),(31,[[5],[150],[151],[],[],[149],[152],[153]]),(32,[[],[156],[157],[],[155],[158]]),(33,[[12],[160],[161],[10],[163],[162,164],[165],[],[167],[168],[166,169],[170],[],[172]]),(34,[[],[175]]),(35,[[],[176],[8],[9],[11],[178,179,180],[181],[177,182]])],gh:=[(20,[.frz 183]),(22,[.frz 183]),(25,[.frz 183]),(29,[.frz 183]),(34,[.frz 183])],sf:=[224,226,227,228] }

def b_spec_ARead_1:SCode :=
 (.seq
 (.seq
 (.region [sO 68 (.mv (.t 4)),sO 69 (.chk (.t 68)),sO 70 (.fAddr 1 (.t 69)),sO 71 (.load none (.t 70)),sO 72 (.mv (.t 4)),sO 73 (.chk (.t 72)),sO 74 (.fAddr 0 (.t 73)),sO 75 (.load none (.t 74)),sO 76 (.len 0 (.t 75)),sO 77 (.bin .lss (.t 71) (.t 76))] [2,4,5,8,77] [] [])
 (.cond (.t 77)
 .skip
 (.exit 0)))
 (.seq
 (.block 1
 (.seq
 (.seq
 (.region [sO 80 (.mv (.t 4)),sO 81 (.callS 224 [(.t 80),(.k (.int .u8 59))]),sO 82 (.un .not (.t 81))] [2,4,5,8,82] [] [[],[80]])
 (.cond (.t 82)
 (.seq
 (.region [sO 83 (.load (some 3) (.t 5)),sN (.store 3 (.t 2) (.t 83)),sO 3 (.mv (.k (.bool false)))] [2,3] [5] [[5],[83]])
 .ret)
 .skip))
 (.seq
 (.region [sO 85 (.mv (.t 4)),sO 86 (.callS 229 [(.t 85)]),sO 84 (.mv (.t 86)),sO 87 (.extr (.t 84) 0),sO 88 (.extr (.t 84) 1),sO 89 (.extr (.t 84) 2),sO 9 (.alloc [(.str []),(.str []),(.str []),(.str []),.nilS]),sN (.store 5 (.t 9) (.t 87)),sO 10 (.mv (.t 88)),sO 11 (.mv (.t 89))] [2,4,5,8,9,10,11] [] [[],[85],[86],[],[],[84],[],[87],[88]])
 (.seq
 (.seq
 (.region [sO 90 (.mv (.t 11)),sO 91 (.un .not (.t 90)),sO 92 (.mv (.t 91)),sG 93 (.mv (.t 10)) 92 false,sG 94 (.mv (.t 93)) 92 false,sG 95 (.mv (.t 8)) 94 true,sG 96 (.bin .gtr (.t 95) (.k (.int .i64 0))) 94 true,sG 97 (.pick (.t 94) (.t 96) (.k (.bool false))) 92 false,sO 98 (.pick (.t 92) (.k (.bool true)) (.t 97))] [2,4,5,8,9,10,98] [] [[11],[90],[91],[],[93],[],[95],[94,96]])
 (.cond (.t 98)
 (.seq
 (.region [sO 99 (.load (some 3) (.t 5)),sN (.store 3 (.t 2) (.t 99)),sO 3 (.mv (.k (.bool false)))] [2,3] [5,9] [[5],[99]])
 .ret)
 .skip))
 (.seq
 (.region [sO 100 (.mv (.t 10)),sO 101 (.un .not (.t 100))] [2,4,5,8,9,101] [] [[10]])
 (.cond (.t 101)
 (.region [sO 102 (.fAddr 2 (.t 5)),sO 103 (.load none (.t 102)),sO 104 (.load (some 5) (.t 9)),sO 105 (.mkSl 5 1 [(.str []),(.str []),(.str []),(.str []),.nilS] [(0,(.t 104))]),sO 106 (.app 5 88 (.t 103) (.t 105)),sO 107 (.fAddr 2 (.t 5)),sN (.store 1 (.t 107) (.t 106))] [2,4,5,8] [9,105] [[],[102],[9],[104],[103,105]])
 .skip))))))
 (.region [sO 78 (.mv (.t 8)),sO 79 (.bin .add (.t 78) (.k (.int .i64 1))),sO 8 (.mv (.t 79))] [2,4,5,8] [9] [[],[78]])))

def t_spec_ARead_2:SCode :=
 (.seq
 (.region [sO 108 (.load (some 3) (.t 5)),sN (.store 3 (.t 2) (.t 108)),sO 3 (.mv (.k (.bool true)))] [2,3] [5] [[5],[108]])
 .ret)

def f_spec_ARead_3:SCode :=
 (.seq
 (.seq
 (.region [sO 8 (.mv (.k (.int .i64 0)))] [2,4,5,8] [] [])
 (.block 0
 (.loop [2,4,5,8]
 b_spec_ARead_1)))
 t_spec_ARead_2)

def f_spec_ARead_4:SCode :=
 (.seq
 (.seq
 (.region [sO 34 (.mv (.t 4)),sO 35 (.chk (.t 34)),sO 36 (.fAddr 1 (.t 35)),sO 37 (.load none (.t 36)),sO 38 (.mv (.t 4)),sO 39 (.chk (.t 38)),sO 40 (.fAddr 0 (.t 39)),sO 41 (.load none (.t 40)),sO 42 (.len 0 (.t 41)),sO 43 (.bin .lss (.t 37) (.t 42)),sO 44 (.mv (.t 43)),sG 45 (.mv (.t 4)) 44 true,sG 46 (.chk (.t 45)) 44 true,sG 47 (.fAddr 0 (.t 46)) 44 true,sG 48 (.load none (.t 47)) 44 true,sG 49 (.mv (.t 4)) 44 true,sG 50 (.chk (.t 49)) 44 true,sG 51 (.fAddr 1 (.t 50)) 44 true,sG 52 (.load none (.t 51)) 44 true,sG 53 (.iStr (.t 48) (.t 52)) 44 true,sG 54 (.bin .neq (.t 53) (.k (.int .u8 59))) 44 true,sO 55 (.pick (.t 44) (.t 54) (.k (.bool false)))] [2,4,5,55] [] [])
 (.cond (.t 55)
 (.seq
 (.region [sO 56 (.mv (.t 4)),sO 57 (.callS 226 [(.t 56),(.k (.str []))]),sO 58 (.fAddr 1 (.t 5)),sN (.store 1 (.t 58) (.t 57))] [2,4,5] [] [[],[56]])
 (.seq
 (.region [sO 59 (.fAddr 1 (.t 5)),sO 60 (.load none (.t 59)),sO 61 (.bin .eql (.t 60) (.k (.str []))),sO 62 (.mv (.t 61)),sG 63 (.mv (.t 4)) 62 false,sG 64 (.callS 227 [(.t 63)]) 62 false,sG 65 (.un .not (.t 64)) 62 false,sO 66 (.pick (.t 62) (.k (.bool true)) (.t 65))] [2,4,5,66] [] [[],[59],[60],[61],[],[63],[64]])
 (.cond (.t 66)
 (.seq
 (.region [sO 67 (.load (some 3) (.t 5)),sN (.store 3 (.t 2) (.t 67)),sO 3 (.mv (.k (.bool false)))] [2,3] [5] [[5],[67]])
 .ret)
 .skip)))
 .skip))
 f_spec_ARead_3)

def f_spec_ARead_5:SCode :=
 (.seq
 (.region [sO 20 (.mv (.t 4)),sO 21 (.callS 228 [(.t 20),(.k (.str [64]))]),sO 19 (.mv (.t 21)),sO 22 (.extr (.t 19) 0),sO 23 (.extr (.t 19) 1),sO 6 (.mv (.t 22)),sO 7 (.mv (.t 23))] [2,4,5,6,7] [] [[],[20],[21],[],[19],[22]])
 (.seq
 (.seq
 (.region [sO 24 (.mv (.t 7)),sO 25 (.un .not (.t 24)),sO 26 (.mv (.t 25)),sG 27 (.mv (.t 4)) 26 false,sG 28 (.callS 227 [(.t 27)]) 26 false,sG 29 (.un .not (.t 28)) 26 false,sO 30 (.pick (.t 26) (.k (.bool true)) (.t 29))] [2,4,5,6,30] [] [[7],[24],[25],[],[27],[28]])
 (.cond (.t 30)
 (.seq
 (.region [sO 31 (.load (some 3) (.t 5)),sN (.store 3 (.t 2) (.t 31)),sO 3 (.mv (.k (.bool false)))] [2,3] [5] [[5],[31]])
 .ret)
 .skip))
 (.seq
 (.region [sO 32 (.mv (.t 6)),sO 33 (.fAddr 0 (.t 5)),sN (.store 1 (.t 33) (.t 32))] [2,4,5] [] [[6]])
 f_spec_ARead_4)))

def c_spec_ARead:SFn:=⟨1,
 (.seq
 (.region [sO 2 (.alloc [(.str []),(.str []),.nilS]),sO 3 (.mv (.k (.bool false)))] [0,2] [] [])
 (.seq
 (.region [sO 12 (.mv (.t 0)),sO 13 (.agg [(.str []),(.int .i64 0)] [(0,1,(.t 12))]),sO 14 (.box (.t 13)),sO 4 (.mv (.t 14))] [2,4] [] [[0],[12],[13]])
 (.seq
 (.region [sO 5 (.alloc [(.str []),(.str []),.nilS])] [2,4,5] [] [])
 (.seq
 (.seq
 (.region [sO 15 (.mv (.t 4)),sO 16 (.callS 227 [(.t 15)]),sO 17 (.un .not (.t 16))] [2,4,5,17] [] [[],[15]])
 (.cond (.t 17)
 (.seq
 (.region [sO 18 (.load (some 3) (.t 5)),sN (.store 3 (.t 2) (.t 18)),sO 3 (.mv (.k (.bool false)))] [2,3] [5] [[5],[18]])
 .ret)
 .skip))
 f_spec_ARead_5)))),
 [.c (some 3) 2,.t 3]⟩

def l_spec_ARead:Lay:={ rg:=[(0,([0,2],[])),(1,([2,4],[])),(2,([2,4,5],[])),(3,([2,4,5,17],[])),(4,([2,3],[5])),(5,([2,4,5,6,7],[])),(6,([2,4,5,6,30],[])),(7,([2,3],[5])),(8,([2,4,5],[])),(9,([2,4,5,55],[])),(10,([2,4,5],[])),(11,([2,4,5,66],[])),(12,([2,3],[5])),(13,([2,4,5,8],[])),(14,([2,4,5,8,77],[])),(15,([2,4,5,8],[9])),(16,([2,4,5,8,82],[])),(17,([2,3],[5])),(18,([2,4,5,8,9,10,11],[])),(19,([2,4,5,8,9,10,98],[])),(20,([2,3],[5,9])),(21,([2,4,5,8,9,101],[])),(22,([2,4,5,8],[9,105])),(23,([2,3],[5])),(1000014,([2,4,5,8],[]))],dd:=[(1,[[0],[12],[13]]),(3,[[],[15]]),(4,[[5],[18]]),(5,[[],[20],[21],[],[19],[22]]),(6,[[7],[24],[25],[],[27],[28]]),(7,[[5],[31]]),(8,[[6]]),(10,[[],[56]]),(11,[[],[59],[60],[61],[],[63],[64]]),(12,[[5],[67]]),(15,[[],[78]]),(16,[[],[80]]),(17,[[5],[83]]),(18,[[],[85],[86],[],[],[84],[],[87],[88]]),(19,[[11],[90],[91],[],[93],[],[95],[94,96]]),(20,[[5],[99]]),(21,[[10]]),(22,[[],[102],[9],[104],[103,105]]),(23,[[5],[108]])],sf:=[224,226,227,228,229] }

end Wax


namespace Wax
open Go (IntKind)

def c_impl_AFormat:SFn:=⟨2,
 (.seq
 (.region [sO 4 (.mv (.k (.str [])))] [0,1] [] [])
 (.seq
 (.region [sO 5 (.mv (.k .nilS))] [0,1,5] [] [])
 (.seq
 (.seq
 (.region [sO 8 (.mv (.t 1)),sO 9 (.len 1 (.t 8)),sO 10 (.mv (.k (.int .i64 0)))] [0,5,8,9,10] [] [[1]])
 (.block 0
 (.loop [0,5,8,9,10]
 (.seq
 (.region [sO 11 (.bin .lss (.t 10) (.t 9))] [0,5,8,9,10,11] [] [])
 (.seq
 (.cond (.t 11)
 .skip
 (.exit 0))
 (.seq
 (.block 1
 (.seq
 (.region [sO 12 (.iAddr 16 (.t 8) (.t 10)),sO 13 (.load (some 16) (.t 12)),sO 7 (.alloc [(.int .i64 0),(.str []),(.str []),(.str []),(.str []),(.str []),(.str []),(.str []),(.str []),(.str []),(.str []),(.str []),(.str []),(.str []),(.int .i64 0),.nilS]),sN (.store 16 (.t 7) (.t 13))] [0,5,7,8,9,10] [] [[],[12]])
 (.region [sO 14 (.mv (.t 5)),sO 15 (.load (some 16) (.t 7)),sO 16 (.call 235 [(.t 15)]),sO 17 (.mkSl 1 1 [.nilI] [(0,(.t 16))]),sO 18 (.app 1 16 (.t 14) (.t 17)),sO 5 (.mv (.t 18))] [0,5,8,9,10] [7,17] [[],[7],[15],[16],[14,17]])))
 (.region [sO 19 (.bin .add (.t 10) (.k (.int .i64 1))),sO 10 (.mv (.t 19))] [0,5,8,9,10] [] [])))))))
 (.seq
 (.region [sO 20 (.mv (.t 0)),sO 21 (.mv (.t 5)),sO 22 (.call 236 [(.t 20),(.t 21)]),sO 4 (.mv (.t 22))] [4] [18] [[0],[5],[20,21]])
 .ret)))),
 [.t 4]⟩

def l_impl_AFormat:Lay:={ rg:=[(0,([0,1],[])),(1,([0,1,5],[])),(2,([0,5,8,9,10],[])),(3,([0,5,8,9,10,11],[])),(4,([0,5,7,8,9,10],[])),(5,([0,5,8,9,10],[7,17])),(6,([0,5,8,9,10],[])),(7,([4],[18])),(1000003,([0,5,8,9,10],[]))],dd:=[(2,[[1]]),(4,[[],[12]]),(5,[[],[7],[15],[16],[14,17]]),(7,[[0],[5],[20,21]])] }

def c_authres_Format:SFn:=⟨2,
 (.seq
 (.region [sO 4 (.mv (.k (.str [])))] [0,1] [] [])
 (.seq
 (.region [sO 11 (.mv (.t 0)),sO 5 (.mv (.t 11))] [1,5] [] [[0]])
 (.seq
 (.seq
 (.region [sO 12 (.mv (.t 1)),sO 13 (.len 1 (.t 12)),sO 14 (.bin .eql (.t 13) (.k (.int .i64 0)))] [1,5,14] [] [[],[12]])
 (.cond (.t 14)
 (.seq
 (.region [sO 15 (.mv (.t 5)),sO 16 (.bin .add (.t 15) (.k (.str [59,32,110,111,110,101]))),sO 5 (.mv (.t 16))] [5] [] [[],[15]])
 (.seq
 (.region [sO 17 (.mv (.t 5)),sO 4 (.mv (.t 17))] [4] [] [[5]])
 .ret))
 .skip))
 (.seq
 (.seq
 (.region [sO 18 (.mv (.t 1)),sO 19 (.len 1 (.t 18)),sO 20 (.mv (.k (.int .i64 0)))] [5,18,19,20] [] [[1]])
 (.block 0
 (.loop [5,18,19,20]
 (.seq
 (.region [sO 21 (.bin .lss (.t 20) (.t 19))] [5,18,19,20,21] [] [])
 (.seq
 (.cond (.t 21)
 .skip
 (.exit 0))
 (.seq
 (.block 1
 (.seq
 (.region [sO 22 (.iAddr 1 (.t 18) (.t 20)),sO 23 (.load none (.t 22)),sO 7 (.mv (.t 23))] [5,7,18,19,20] [] [[],[22]])
 (.seq
 (.region [sO 24 (.mv (.t 7)),sO 25 (.call 237 [(.t 24)]),sO 8 (.mv (.t 25))] [5,7,8,18,19,20] [] [[],[24]])
 (.seq
 (.region [sO 27 (.mv (.t 7)),sO 28 (.inv (.t 27) "given.example/pub-waxseal/pub/msgauth/authres.format" []),sO 26 (.mv (.t 28)),sO 29 (.extr (.t 26) 0),sO 30 (.extr (.t 26) 1),sO 9 (.mv (.t 29)),sO 10 (.mv (.t 30))] [5,8,9,10,18,19,20] [] [[7],[27],[28],[],[26],[29]])
 (.region [sO 31 (.mv (.t 5)),sO 32 (.mv (.t 8)),sO 33 (.bin .add (.k (.str [59,32])) (.t 32)),sO 34 (.bin .add (.t 33) (.k (.str [61]))),sO 35 (.mv (.t 9)),sO 36 (.bin .add (.t 34) (.t 35)),sO 37 (.bin .add (.t 36) (.k (.str [32]))),sO 38 (.mv (.t 10)),sO 39 (.call 238 [(.t 38)]),sO 40 (.bin .add (.t 37) (.t 39)),sO 41 (.bin .add (.t 31) (.t 40)),sO 5 (.mv (.t 41))] [5,18,19,20] [] [[],[8],[32],[33],[9],[34,35],[36],[10],[38],[37,39],[31,40]])))))
 (.region [sO 42 (.bin .add (.t 20) (.k (.int .i64 1))),sO 20 (.mv (.t 42))] [5,18,19,20] [] [])))))))
 (.seq
 (.region [sO 43 (.mv (.t 5)),sO 4 (.mv (.t 43))] [4] [] [[5]])
 .ret))))),
 [.t 4]⟩

def l_authres_Format:Lay:={ rg:=[(0,([0,1],[])),(1,([1,5],[])),(2,([1,5,14],[])),(3,([5],[])),(4,([4],[])),(5,([5,18,19,20],[])),(6,([5,18,19,20,21],[])),(7,([5,7,18,19,20],[])),(8,([5,7,8,18,19,20],[])),(9,([5,8,9,10,18,19,20],[])),(10,([5,18,19,20],[])),(11,([5,18,19,20],[])),(12,([4],[])),(1000006,([5,18,19,20],[]))],dd:=[(1,[[0]]),(2,[[],[12]]),(3,[[],[15]]),(4,[[5]]),(5,[[1]]),(7,[[],[22]]),(8,[[],[24]]),(9,[[7],[27],[28],[],[26],[29]]),(10,[[],[8],[32],[33],[9],[34,35],[36],[10],[38],[37,39],[31,40]]),(12,[[5]])] }

end Wax


namespace Wax
open Go (IntKind)

def c_errors_New:SFn:=⟨1,
 (.seq
 (.region [sO 2 (.mv (.k .nilI))] [0] [] [])
 (.seq
 (.region [sO 3 (.mv (.t 0)),sO 4 (.agg [(.str [])] [(0,1,(.t 3))]),sO 5 (.box (.t 4)),sO 6 (.mkIfc 3 (.t 5)),sO 2 (.mv (.t 6))] [2] [] [[0],[3],[4],[5]])
 .ret)),
 [.t 2]⟩

def l_errors_New:Lay:={ rg:=[(0,([0],[])),(1,([2],[]))],dd:=[(1,[[0],[3],[4],[5]])] }

end Wax


