/- The machine by which the functions are read, and what is proved of them (part 5): no premise. -/
import Derived.Test.YtpmdjfblfpjpoabGreatDoorWd
set_option linter.all false
namespace Wax
open Go (IntKind)

def c_spec_APlain:SFn:=⟨1,
 (.seq
 (.region [⟨some 2,.mv (.k (.bool false)),none⟩] [0] [] [])
 (.seq
 (.region [⟨some 7,.mv (.t 0),none⟩,⟨some 8,.call 102 [(.t 7),(.k (.int .u8 64))],none⟩,⟨some 6,.mv (.t 8),none⟩,⟨some 9,.extr (.t 6) 0,none⟩,⟨some 10,.extr (.t 6) 1,none⟩,⟨some 11,.extr (.t 6) 2,none⟩,⟨some 3,.mv (.t 9),none⟩,⟨some 4,.mv (.t 10),none⟩,⟨some 5,.mv (.t 11),none⟩] [0,3,4,5] [] [[],[7],[8],[],[],[6],[9],[10]])
 (.seq
 (.seq
 (.region [⟨some 12,.mv (.t 5),none⟩,⟨some 13,.un .not (.t 12),none⟩] [0,3,4,13] [] [[5]])
 (.cond (.t 13)
 (.seq
 (.region [⟨some 14,.mv (.t 0),none⟩,⟨some 15,.call 104 [(.t 14)],none⟩,⟨some 16,.mv (.t 15),none⟩,⟨some 17,.mv (.t 0),some (16,true)⟩,⟨some 18,.len 0 (.t 17),some (16,true)⟩,⟨some 19,.bin .leq (.t 18) (.k (.int .i64 200)),some (16,true)⟩,⟨some 20,.pick (.t 16) (.t 19) (.k (.bool false)),none⟩,⟨some 2,.mv (.t 20),none⟩] [2] [] [[],[14],[15],[0],[17],[18],[16,19]])
 .ret)
 .skip))
 (.seq
 (.region [⟨some 21,.mv (.t 3),none⟩,⟨some 22,.bin .eql (.t 21) (.k (.str [])),none⟩,⟨some 23,.mv (.t 22),none⟩,⟨some 24,.mv (.t 3),some (23,false)⟩,⟨some 25,.call 104 [(.t 24)],some (23,false)⟩,⟨some 26,.pick (.t 23) (.k (.bool true)) (.t 25),none⟩,⟨some 27,.mv (.t 26),none⟩,⟨some 28,.mv (.t 4),some (27,true)⟩,⟨some 29,.call 105 [(.t 28)],some (27,true)⟩,⟨some 30,.pick (.t 27) (.t 29) (.k (.bool false)),none⟩,⟨some 31,.mv (.t 30),none⟩,⟨some 32,.mv (.t 0),some (31,true)⟩,⟨some 33,.len 0 (.t 32),some (31,true)⟩,⟨some 34,.bin .leq (.t 33) (.k (.int .i64 200)),some (31,true)⟩,⟨some 35,.pick (.t 31) (.t 34) (.k (.bool false)),none⟩,⟨some 2,.mv (.t 35),none⟩] [2] [] [[],[21],[22],[3],[24],[23,25],[26],[4],[28],[27,29],[30],[0],[32],[33],[31,34]])
 .ret)))),
 [.t 2]⟩

def l_spec_APlain:Lay:={ rg:=[(0,([0],[])),(1,([0,3,4,5],[])),(2,([0,3,4,13],[])),(3,([2],[])),(4,([2],[]))],dd:=[(1,[[],[7],[8],[],[],[6],[9],[10]]),(2,[[5]]),(3,[[],[14],[15],[0],[17],[18],[16,19]]),(4,[[],[21],[22],[3],[24],[23,25],[26],[4],[28],[27,29],[30],[0],[32],[33],[31,34]])] }

def c_spec_AValues:SFn:=⟨0,
 (.seq
 (.region [⟨some 0,.mv (.k .nilS),none⟩] [] [] [])
 (.seq
 (.region [⟨some 1,.mkSl 1 9 [(.str [])] [(0,(.k (.str [110,111,110,101]))),(1,(.k (.str [112,97,115,115]))),(2,(.k (.str [102,97,105,108]))),(3,(.k (.str [112,111,108,105,99,121]))),(4,(.k (.str [110,101,117,116,114,97,108]))),(5,(.k (.str [116,101,109,112,101,114,114,111,114]))),(6,(.k (.str [112,101,114,109,101,114,114,111,114]))),(7,(.k (.str [115,111,102,116,102,97,105,108]))),(8,(.k (.str [104,97,114,100,102,97,105,108])))],none⟩,⟨some 0,.mv (.t 1),none⟩] [0] [] [])
 .ret)),
 [.t 0]⟩

def l_spec_AValues:Lay:={ rg:=[(0,([],[])),(1,([0],[]))] }

def c_spec_AMethods:SFn:=⟨0,
 (.seq
 (.region [⟨some 0,.mv (.k .nilS),none⟩] [] [] [])
 (.seq
 (.region [⟨some 1,.mkSl 1 8 [(.str [])] [(0,(.k (.str [97,117,116,104]))),(1,(.k (.str [100,107,105,109]))),(2,(.k (.str [100,111,109,97,105,110,107,101,121,115]))),(3,(.k (.str [105,112,114,101,118]))),(4,(.k (.str [115,101,110,100,101,114,45,105,100]))),(5,(.k (.str [115,112,102]))),(6,(.k (.str [100,109,97,114,99]))),(7,(.k (.str [97,114,99])))],none⟩,⟨some 0,.mv (.t 1),none⟩] [0] [] [])
 .ret)),
 [.t 0]⟩

def l_spec_AMethods:Lay:={ rg:=[(0,([],[])),(1,([0],[]))] }

def c_spec_AProps:SFn:=⟨1,
 (.seq
 (.seq
 (.region [⟨some 1,.box (.t 0),none⟩,⟨some 2,.mv (.k .nilS),none⟩] [1] [] [[0]])
 (.ghost [.frz 1]))
 (.seq
 (.seq
 (.region [⟨some 3,.fAddr 0 (.t 1),none⟩,⟨some 4,.load none (.t 3),none⟩] [1,4] [] [])
 (.block 0
 (.seq
 (.region [⟨some 6,.bin .eql (.t 4) (.k (.int .i64 1)),none⟩,⟨some 5,.mv (.t 6),none⟩] [1,4,5] [] [])
 (.cond (.t 5)
 (.seq
 (.region [⟨some 7,.fAddr 10 (.t 1),none⟩,⟨some 8,.load none (.t 7),none⟩,⟨some 9,.agg [(.str []),(.str []),(.str [])] [(0,1,(.k (.str [115,109,116,112]))),(1,1,(.k (.str [97,117,116,104]))),(2,1,(.t 8))],none⟩,⟨some 10,.mkSl 3 1 [(.str []),(.str []),(.str [])] [(0,(.t 9))],none⟩,⟨some 2,.mv (.t 10),none⟩] [2] [] [[1],[7],[8],[9]])
 .ret)
 (.seq
 (.region [⟨some 12,.bin .eql (.t 4) (.k (.int .i64 2)),none⟩,⟨some 11,.mv (.t 12),none⟩] [1,4,11] [] [])
 (.cond (.t 11)
 (.seq
 (.region [⟨some 13,.fAddr 4 (.t 1),none⟩,⟨some 14,.load none (.t 13),none⟩,⟨some 15,.agg [(.str []),(.str []),(.str [])] [(0,1,(.k (.str [104,101,97,100,101,114]))),(1,1,(.k (.str [100]))),(2,1,(.t 14))],none⟩,⟨some 16,.fAddr 5 (.t 1),none⟩,⟨some 17,.load none (.t 16),none⟩,⟨some 18,.agg [(.str []),(.str []),(.str [])] [(0,1,(.k (.str [104,101,97,100,101,114]))),(1,1,(.k (.str [105]))),(2,1,(.t 17))],none⟩,⟨some 19,.mkSl 3 2 [(.str []),(.str []),(.str [])] [(0,(.t 15)),(1,(.t 18))],none⟩,⟨some 2,.mv (.t 19),none⟩] [2] [] [[],[13],[14],[1],[16],[17],[15,18]])
 .ret)
 (.seq
 (.region [⟨some 21,.bin .eql (.t 4) (.k (.int .i64 3)),none⟩,⟨some 20,.mv (.t 21),none⟩] [1,4,20] [] [])
 (.cond (.t 20)
 (.seq
 (.region [⟨some 22,.fAddr 4 (.t 1),none⟩,⟨some 23,.load none (.t 22),none⟩,⟨some 24,.agg [(.str []),(.str []),(.str [])] [(0,1,(.k (.str [104,101,97,100,101,114]))),(1,1,(.k (.str [100]))),(2,1,(.t 23))],none⟩,⟨some 25,.fAddr 6 (.t 1),none⟩,⟨some 26,.load none (.t 25),none⟩,⟨some 27,.agg [(.str []),(.str []),(.str [])] [(0,1,(.k (.str [104,101,97,100,101,114]))),(1,1,(.k (.str [102,114,111,109]))),(2,1,(.t 26))],none⟩,⟨some 28,.fAddr 7 (.t 1),none⟩,⟨some 29,.load none (.t 28),none⟩,⟨some 30,.agg [(.str []),(.str []),(.str [])] [(0,1,(.k (.str [104,101,97,100,101,114]))),(1,1,(.k (.str [115,101,110,100,101,114]))),(2,1,(.t 29))],none⟩,⟨some 31,.mkSl 3 3 [(.str []),(.str []),(.str [])] [(0,(.t 24)),(1,(.t 27)),(2,(.t 30))],none⟩,⟨some 2,.mv (.t 31),none⟩] [2] [] [[],[22],[23],[],[25],[26],[1],[28],[29],[24,27,30]])
 .ret)
 (.seq
 (.region [⟨some 33,.bin .eql (.t 4) (.k (.int .i64 4)),none⟩,⟨some 32,.mv (.t 33),none⟩] [1,4,32] [] [])
 (.cond (.t 32)
 (.seq
 (.region [⟨some 34,.fAddr 8 (.t 1),none⟩,⟨some 35,.load none (.t 34),none⟩,⟨some 36,.agg [(.str []),(.str []),(.str [])] [(0,1,(.k (.str [112,111,108,105,99,121]))),(1,1,(.k (.str [105,112,114,101,118]))),(2,1,(.t 35))],none⟩,⟨some 37,.mkSl 3 1 [(.str []),(.str []),(.str [])] [(0,(.t 36))],none⟩,⟨some 2,.mv (.t 37),none⟩] [2] [] [[1],[34],[35],[36]])
 .ret)
 (.seq
 (.region [⟨some 39,.bin .eql (.t 4) (.k (.int .i64 5)),none⟩,⟨some 38,.mv (.t 39),none⟩] [1,4,38] [] [])
 (.cond (.t 38)
 (.seq
 (.region [⟨some 40,.fAddr 11 (.t 1),none⟩,⟨some 41,.load none (.t 40),none⟩,⟨some 42,.fAddr 12 (.t 1),none⟩,⟨some 43,.load none (.t 42),none⟩,⟨some 44,.agg [(.str []),(.str []),(.str [])] [(0,1,(.k (.str [104,101,97,100,101,114]))),(1,1,(.t 41)),(2,1,(.t 43))],none⟩,⟨some 45,.mkSl 3 1 [(.str []),(.str []),(.str [])] [(0,(.t 44))],none⟩,⟨some 2,.mv (.t 45),none⟩] [2] [] [[],[40],[1],[42],[41,43],[44]])
 .ret)
 (.seq
 (.region [⟨some 47,.bin .eql (.t 4) (.k (.int .i64 6)),none⟩,⟨some 46,.mv (.t 47),none⟩] [1,4,46] [] [])
 (.cond (.t 46)
 (.seq
 (.region [⟨some 48,.fAddr 6 (.t 1),none⟩,⟨some 49,.load none (.t 48),none⟩,⟨some 50,.agg [(.str []),(.str []),(.str [])] [(0,1,(.k (.str [115,109,116,112]))),(1,1,(.k (.str [109,97,105,108,102,114,111,109]))),(2,1,(.t 49))],none⟩,⟨some 51,.fAddr 9 (.t 1),none⟩,⟨some 52,.load none (.t 51),none⟩,⟨some 53,.agg [(.str []),(.str []),(.str [])] [(0,1,(.k (.str [115,109,116,112]))),(1,1,(.k (.str [104,101,108,111]))),(2,1,(.t 52))],none⟩,⟨some 54,.mkSl 3 2 [(.str []),(.str []),(.str [])] [(0,(.t 50)),(1,(.t 53))],none⟩,⟨some 2,.mv (.t 54),none⟩] [2] [] [[],[48],[49],[1],[51],[52],[50,53]])
 .ret)
 (.seq
 (.region [⟨some 56,.bin .eql (.t 4) (.k (.int .i64 7)),none⟩,⟨some 55,.mv (.t 56),none⟩] [1,55] [] [[4]])
 (.cond (.t 55)
 (.seq
 (.region [⟨some 57,.fAddr 6 (.t 1),none⟩,⟨some 58,.load none (.t 57),none⟩,⟨some 59,.agg [(.str []),(.str []),(.str [])] [(0,1,(.k (.str [104,101,97,100,101,114]))),(1,1,(.k (.str [102,114,111,109]))),(2,1,(.t 58))],none⟩,⟨some 60,.mkSl 3 1 [(.str []),(.str []),(.str [])] [(0,(.t 59))],none⟩,⟨some 2,.mv (.t 60),none⟩] [2] [] [[1],[57],[58],[59]])
 .ret)
 .skip))))))))))))))))
 (.seq
 (.region [⟨some 2,.mv (.k .nilS),none⟩] [2] [] [])
 .ret))),
 [.t 2]⟩

def l_spec_AProps:Lay:={ rg:=[(0,([1],[])),(1,([1,4],[])),(2,([1,4,5],[])),(3,([2],[])),(4,([1,4,11],[])),(5,([2],[])),(6,([1,4,20],[])),(7,([2],[])),(8,([1,4,32],[])),(9,([2],[])),(10,([1,4,38],[])),(11,([2],[])),(12,([1,4,46],[])),(13,([2],[])),(14,([1,55],[])),(15,([2],[])),(16,([2],[]))],dd:=[(0,[[0]]),(3,[[1],[7],[8],[9]]),(5,[[],[13],[14],[1],[16],[17],[15,18]]),(7,[[],[22],[23],[],[25],[26],[1],[28],[29],[24,27,30]]),(9,[[1],[34],[35],[36]]),(11,[[],[40],[1],[42],[41,43],[44]]),(13,[[],[48],[49],[1],[51],[52],[50,53]]),(14,[[4]]),(15,[[1],[57],[58],[59]])],gh:=[(0,[.frz 1])] }

def b_spec_AInfoOf_1:SCode :=
 (.seq
 (.region [⟨some 23,.bin .lss (.t 22) (.t 21),none⟩] [2,3,20,21,22,23] [] [])
 (.seq
 (.cond (.t 23)
 .skip
 (.exit 0))
 (.seq
 (.block 1
 (.seq
 (.seq
 (.region [⟨some 24,.iAddr 2 (.t 20) (.t 22),none⟩,⟨some 25,.load (some 2) (.t 24),none⟩,⟨some 5,.alloc [(.str []),(.str [])],none⟩,
 ⟨none,.store 2 (.t 5) (.t 25),none⟩] [2,3,5,20,21,22] [] [[],[24]])
 (.ghost [.frz 5]))
 (.seq
 (.region [⟨some 27,.fAddr 0 (.t 5),none⟩,⟨some 28,.load none (.t 27),none⟩,⟨some 29,.call 102 [(.t 28),(.k (.int .u8 46))],none⟩,⟨some 26,.mv (.t 29),none⟩,⟨some 30,.extr (.t 26) 0,none⟩,⟨some 31,.extr (.t 26) 1,none⟩,⟨some 32,.extr (.t 26) 2,none⟩,⟨some 6,.mv (.t 30),none⟩,⟨some 7,.mv (.t 31),none⟩,⟨some 8,.mv (.t 32),none⟩] [2,3,5,6,7,20,21,22] [] [[],[27],[28],[29],[],[],[26],[30],[31]])
 (.region [⟨some 33,.fAddr 4 (.t 3),none⟩,⟨some 34,.load none (.t 33),none⟩,⟨some 35,.mv (.t 6),none⟩,⟨some 36,.mv (.t 7),none⟩,⟨some 37,.fAddr 1 (.t 5),none⟩,⟨some 38,.load none (.t 37),none⟩,⟨some 39,.agg [(.str []),(.str []),(.str [])] [(0,1,(.t 35)),(1,1,(.t 36)),(2,1,(.t 38))],none⟩,⟨some 40,.mkSl 3 1 [(.str []),(.str []),(.str [])] [(0,(.t 39))],none⟩,⟨some 41,.app 3 48 (.t 34) (.t 40),none⟩,⟨some 42,.fAddr 4 (.t 3),none⟩,
 ⟨none,.store 1 (.t 42) (.t 41),none⟩] [2,3,20,21,22] [40] [[],[33],[6],[7],[5],[37],[35,36,38],[39],[34,40]]))))
 (.region [⟨some 43,.bin .add (.t 22) (.k (.int .i64 1)),none⟩,⟨some 22,.mv (.t 43),none⟩] [2,3,20,21,22] [] []))))

def t_spec_AInfoOf_2:SCode :=
 (.seq
 (.region [⟨some 44,.load (some 5) (.t 3),none⟩,
 ⟨none,.store 5 (.t 2) (.t 44),none⟩] [2] [3] [[3]])
 .ret)

def t_spec_AInfoOf_3:SCode :=
 (.seq
 (.region [⟨some 45,.call 200 [],none⟩,⟨some 46,.fAddr 0 (.t 1),none⟩,⟨some 47,.load none (.t 46),none⟩,⟨some 48,.bin .sub (.t 47) (.k (.int .i64 1)),none⟩,⟨some 49,.iAddr 1 (.t 45) (.t 48),none⟩,⟨some 50,.load none (.t 49),none⟩,⟨some 51,.load (some 16) (.t 1),none⟩,⟨some 52,.call 201 [(.t 51)],none⟩,⟨some 53,.fAddr 0 (.t 3),none⟩,
 ⟨none,.store 1 (.t 53) (.t 50),none⟩,⟨some 54,.fAddr 4 (.t 3),none⟩,
 ⟨none,.store 1 (.t 54) (.t 52),none⟩] [2,3] [] [])
 (.seq
 (.region [⟨some 55,.load (some 5) (.t 3),none⟩,
 ⟨none,.store 5 (.t 2) (.t 55),none⟩] [2] [3] [[3]])
 .ret))

def c_spec_AInfoOf:SFn:=⟨1,
 (.seq
 (.seq
 (.region [⟨some 1,.box (.t 0),none⟩,⟨some 2,.alloc [(.str []),(.str []),(.str []),(.str []),.nilS],none⟩] [1,2] [] [[0]])
 (.ghost [.frz 1]))
 (.seq
 (.region [⟨some 9,.fAddr 1 (.t 1),none⟩,⟨some 10,.load none (.t 9),none⟩,⟨some 11,.fAddr 2 (.t 1),none⟩,⟨some 12,.load none (.t 11),none⟩,⟨some 13,.fAddr 3 (.t 1),none⟩,⟨some 14,.load none (.t 13),none⟩,⟨some 15,.agg [(.str []),(.str []),(.str []),(.str []),.nilS] [(0,1,(.t 10)),(2,1,(.t 12)),(3,1,(.t 14))],none⟩,⟨some 3,.alloc [(.str []),(.str []),(.str []),(.str []),.nilS],none⟩,
 ⟨none,.store 5 (.t 3) (.t 15),none⟩] [1,2,3] [] [[],[9],[],[11],[],[13],[10,12,14]])
 (.seq
 (.seq
 (.region [⟨some 16,.fAddr 0 (.t 1),none⟩,⟨some 17,.load none (.t 16),none⟩,⟨some 18,.bin .eql (.t 17) (.k (.int .i64 0)),none⟩] [1,2,3,18] [] [[],[16]])
 (.cond (.t 18)
 (.seq
 (.seq
 (.region [⟨some 19,.fAddr 15 (.t 1),none⟩,⟨some 20,.load none (.t 19),none⟩,⟨some 21,.len 1 (.t 20),none⟩,⟨some 22,.mv (.k (.int .i64 0)),none⟩] [2,3,20,21,22] [] [[1],[19]])
 (.block 0
 (.loop [2,3,20,21,22]
 b_spec_AInfoOf_1)))
 t_spec_AInfoOf_2)
 .skip))
 t_spec_AInfoOf_3))),
 [.c (some 5) 2]⟩

def l_spec_AInfoOf:Lay:={ rg:=[(0,([1,2],[])),(1,([1,2,3],[])),(2,([1,2,3,18],[])),(3,([2,3,20,21,22],[])),(4,([2,3,20,21,22,23],[])),(5,([2,3,5,20,21,22],[])),(6,([2,3,5,6,7,20,21,22],[])),(7,([2,3,20,21,22],[40])),(8,([2,3,20,21,22],[])),(9,([2],[3])),(10,([2,3],[])),(11,([2],[3])),(1000004,([2,3,20,21,22],[]))],dd:=[(0,[[0]]),(1,[[],[9],[],[11],[],[13],[10,12,14]]),(2,[[],[16]]),(3,[[1],[19]]),(5,[[],[24]]),(6,[[],[27],[28],[29],[],[],[26],[30],[31]]),(7,[[],[33],[6],[7],[5],[37],[35,36,38],[39],[34,40]]),(9,[[3]]),(11,[[3]])],gh:=[(0,[.frz 1]),(5,[.frz 5])] }

def b_spec_ASame_1:SCode :=
 (.seq
 (.region [⟨some 17,.bin .lss (.t 16) (.t 15),none⟩] [2,3,15,16,17] [] [])
 (.seq
 (.cond (.t 17)
 .skip
 (.exit 0))
 (.seq
 (.block 1
 (.seq
 (.region [⟨some 18,.mv (.t 16),none⟩,⟨some 5,.mv (.t 18),none⟩] [2,3,5,15,16] [] [])
 (.seq
 (.region [⟨some 19,.fAddr 15 (.t 2),none⟩,⟨some 20,.load none (.t 19),none⟩,⟨some 21,.mv (.t 5),none⟩,⟨some 22,.iAddr 2 (.t 20) (.t 21),none⟩,⟨some 23,.load (some 2) (.t 22),none⟩,⟨some 24,.fAddr 15 (.t 3),none⟩,⟨some 25,.load none (.t 24),none⟩,⟨some 26,.mv (.t 5),none⟩,⟨some 27,.iAddr 2 (.t 25) (.t 26),none⟩,⟨some 28,.load (some 2) (.t 27),none⟩,⟨some 29,.eqA true [2,2] (.t 23) (.t 28),none⟩] [2,3,15,16,29] [] [])
 (.cond (.t 29)
 (.seq
 (.region [⟨some 4,.mv (.k (.bool false)),none⟩] [4] [] [])
 .ret)
 .skip))))
 (.region [⟨some 30,.bin .add (.t 16) (.k (.int .i64 1)),none⟩,⟨some 16,.mv (.t 30),none⟩] [2,3,15,16] [] []))))

def t_spec_ASame_2:SCode :=
 (.seq
 (.region [⟨some 31,.fAddr 0 (.t 2),none⟩,⟨some 32,.load none (.t 31),none⟩,⟨some 33,.fAddr 0 (.t 3),none⟩,⟨some 34,.load none (.t 33),none⟩,⟨some 35,.bin .eql (.t 32) (.t 34),none⟩,⟨some 36,.mv (.t 35),none⟩,⟨some 37,.fAddr 1 (.t 2),some (36,true)⟩,⟨some 38,.load none (.t 37),some (36,true)⟩,⟨some 39,.fAddr 1 (.t 3),some (36,true)⟩,⟨some 40,.load none (.t 39),some (36,true)⟩,⟨some 41,.bin .eql (.t 38) (.t 40),some (36,true)⟩,⟨some 42,.pick (.t 36) (.t 41) (.k (.bool false)),none⟩,⟨some 43,.mv (.t 42),none⟩,⟨some 44,.fAddr 2 (.t 2),some (43,true)⟩,⟨some 45,.load none (.t 44),some (43,true)⟩,⟨some 46,.fAddr 2 (.t 3),some (43,true)⟩,⟨some 47,.load none (.t 46),some (43,true)⟩,⟨some 48,.bin .eql (.t 45) (.t 47),some (43,true)⟩,⟨some 49,.pick (.t 43) (.t 48) (.k (.bool false)),none⟩,⟨some 50,.mv (.t 49),none⟩,⟨some 51,.fAddr 3 (.t 2),some (50,true)⟩,⟨some 52,.load none (.t 51),some (50,true)⟩,⟨some 53,.fAddr 3 (.t 3),some (50,true)⟩,⟨some 54,.load none (.t 53),some (50,true)⟩,⟨some 55,.bin .eql (.t 52) (.t 54),some (50,true)⟩,⟨some 56,.pick (.t 50) (.t 55) (.k (.bool false)),none⟩,⟨some 57,.mv (.t 56),none⟩,⟨some 58,.fAddr 4 (.t 2),some (57,true)⟩,⟨some 59,.load none (.t 58),some (57,true)⟩,⟨some 60,.fAddr 4 (.t 3),some (57,true)⟩,⟨some 61,.load none (.t 60),some (57,true)⟩,⟨some 62,.bin .eql (.t 59) (.t 61),some (57,true)⟩,⟨some 63,.pick (.t 57) (.t 62) (.k (.bool false)),none⟩,⟨some 64,.mv (.t 63),none⟩,⟨some 65,.fAddr 5 (.t 2),some (64,true)⟩,⟨some 66,.load none (.t 65),some (64,true)⟩,⟨some 67,.fAddr 5 (.t 3),some (64,true)⟩,⟨some 68,.load none (.t 67),some (64,true)⟩,⟨some 69,.bin .eql (.t 66) (.t 68),some (64,true)⟩,⟨some 70,.pick (.t 64) (.t 69) (.k (.bool false)),none⟩,⟨some 71,.mv (.t 70),none⟩,⟨some 72,.fAddr 6 (.t 2),some (71,true)⟩,⟨some 73,.load none (.t 72),some (71,true)⟩,⟨some 74,.fAddr 6 (.t 3),some (71,true)⟩,⟨some 75,.load none (.t 74),some (71,true)⟩,⟨some 76,.bin .eql (.t 73) (.t 75),some (71,true)⟩,⟨some 77,.pick (.t 71) (.t 76) (.k (.bool false)),none⟩,⟨some 78,.mv (.t 77),none⟩,⟨some 79,.fAddr 7 (.t 2),some (78,true)⟩,⟨some 80,.load none (.t 79),some (78,true)⟩,⟨some 81,.fAddr 7 (.t 3),some (78,true)⟩,⟨some 82,.load none (.t 81),some (78,true)⟩,⟨some 83,.bin .eql (.t 80) (.t 82),some (78,true)⟩,⟨some 84,.pick (.t 78) (.t 83) (.k (.bool false)),none⟩,⟨some 85,.mv (.t 84),none⟩,⟨some 86,.fAddr 8 (.t 2),some (85,true)⟩,⟨some 87,.load none (.t 86),some (85,true)⟩,⟨some 88,.fAddr 8 (.t 3),some (85,true)⟩,⟨some 89,.load none (.t 88),some (85,true)⟩,⟨some 90,.bin .eql (.t 87) (.t 89),some (85,true)⟩,⟨some 91,.pick (.t 85) (.t 90) (.k (.bool false)),none⟩,⟨some 92,.mv (.t 91),none⟩,⟨some 93,.fAddr 9 (.t 2),some (92,true)⟩,⟨some 94,.load none (.t 93),some (92,true)⟩,⟨some 95,.fAddr 9 (.t 3),some (92,true)⟩,⟨some 96,.load none (.t 95),some (92,true)⟩,⟨some 97,.bin .eql (.t 94) (.t 96),some (92,true)⟩,⟨some 98,.pick (.t 92) (.t 97) (.k (.bool false)),none⟩,⟨some 99,.mv (.t 98),none⟩,⟨some 100,.fAddr 10 (.t 2),some (99,true)⟩,⟨some 101,.load none (.t 100),some (99,true)⟩,⟨some 102,.fAddr 10 (.t 3),some (99,true)⟩,⟨some 103,.load none (.t 102),some (99,true)⟩,⟨some 104,.bin .eql (.t 101) (.t 103),some (99,true)⟩,⟨some 105,.pick (.t 99) (.t 104) (.k (.bool false)),none⟩,⟨some 106,.mv (.t 105),none⟩,⟨some 107,.fAddr 11 (.t 2),some (106,true)⟩,⟨some 108,.load none (.t 107),some (106,true)⟩,⟨some 109,.fAddr 11 (.t 3),some (106,true)⟩,⟨some 110,.load none (.t 109),some (106,true)⟩,⟨some 111,.bin .eql (.t 108) (.t 110),some (106,true)⟩,⟨some 112,.pick (.t 106) (.t 111) (.k (.bool false)),none⟩,⟨some 113,.mv (.t 112),none⟩,⟨some 114,.fAddr 12 (.t 2),some (113,true)⟩,⟨some 115,.load none (.t 114),some (113,true)⟩,⟨some 116,.fAddr 12 (.t 3),some (113,true)⟩,⟨some 117,.load none (.t 116),some (113,true)⟩,⟨some 118,.bin .eql (.t 115) (.t 117),some (113,true)⟩,⟨some 119,.pick (.t 113) (.t 118) (.k (.bool false)),none⟩,⟨some 120,.mv (.t 119),none⟩,⟨some 121,.fAddr 13 (.t 2),some (120,true)⟩,⟨some 122,.load none (.t 121),some (120,true)⟩,⟨some 123,.fAddr 13 (.t 3),some (120,true)⟩,⟨some 124,.load none (.t 123),some (120,true)⟩,⟨some 125,.bin .eql (.t 122) (.t 124),some (120,true)⟩,⟨some 126,.pick (.t 120) (.t 125) (.k (.bool false)),none⟩,⟨some 127,.mv (.t 126),none⟩,⟨some 128,.fAddr 14 (.t 2),some (127,true)⟩,⟨some 129,.load none (.t 128),some (127,true)⟩,⟨some 130,.fAddr 14 (.t 3),some (127,true)⟩,⟨some 131,.load none (.t 130),some (127,true)⟩,⟨some 132,.bin .eql (.t 129) (.t 131),some (127,true)⟩,⟨some 133,.pick (.t 127) (.t 132) (.k (.bool false)),none⟩,⟨some 4,.mv (.t 133),none⟩] [4] [] [[],[31],[],[33],[32,34],[35],[],[37],[],[39],[38,40],[36,41],[42],[],[44],[],[46],[45,47],[43,48],[49],[],[51],[],[53],[52,54],[50,55],[56],[],[58],[],[60],[59,61],[57,62],[63],[],[65],[],[67],[66,68],[64,69],[70],[],[72],[],[74],[73,75],[71,76],[77],[],[79],[],[81],[80,82],[78,83],[84],[],[86],[],[88],[87,89],[85,90],[91],[],[93],[],[95],[94,96],[92,97],[98],[],[100],[],[102],[101,103],[99,104],[105],[],[107],[],[109],[108,110],[106,111],[112],[],[114],[],[116],[115,117],[113,118],[119],[],[121],[],[123],[122,124],[120,125],[126],[2],[128],[3],[130],[129,131],[127,132]])
 .ret)

def c_spec_ASame:SFn:=⟨2,
 (.seq
 (.seq
 (.region [⟨some 2,.box (.t 0),none⟩,⟨some 3,.box (.t 1),none⟩,⟨some 4,.mv (.k (.bool false)),none⟩] [2,3] [] [[0],[1]])
 (.ghost [.frz 2,.frz 3]))
 (.seq
 (.seq
 (.region [⟨some 6,.fAddr 15 (.t 2),none⟩,⟨some 7,.load none (.t 6),none⟩,⟨some 8,.len 1 (.t 7),none⟩,⟨some 9,.fAddr 15 (.t 3),none⟩,⟨some 10,.load none (.t 9),none⟩,⟨some 11,.len 1 (.t 10),none⟩,⟨some 12,.bin .neq (.t 8) (.t 11),none⟩] [2,3,12] [] [[],[6],[7],[],[9],[10]])
 (.cond (.t 12)
 (.seq
 (.region [⟨some 4,.mv (.k (.bool false)),none⟩] [4] [] [])
 .ret)
 .skip))
 (.seq
 (.seq
 (.region [⟨some 13,.fAddr 15 (.t 2),none⟩,⟨some 14,.load none (.t 13),none⟩,⟨some 15,.len 1 (.t 14),none⟩,⟨some 16,.mv (.k (.int .i64 0)),none⟩] [2,3,15,16] [] [[],[13],[14]])
 (.block 0
 (.loop [2,3,15,16]
 b_spec_ASame_1)))
 t_spec_ASame_2))),
 [.t 4]⟩

def l_spec_ASame:Lay:={ rg:=[(0,([2,3],[])),(1,([2,3,12],[])),(2,([4],[])),(3,([2,3,15,16],[])),(4,([2,3,15,16,17],[])),(5,([2,3,5,15,16],[])),(6,([2,3,15,16,29],[])),(7,([4],[])),(8,([2,3,15,16],[])),(9,([4],[])),(1000004,([2,3,15,16],[]))],dd:=[(0,[[0],[1]]),(1,[[],[6],[7],[],[9],[10]]),(3,[[],[13],[14]]),(9,[[],[31],[],[33],[32,34],[35],[],[37],[],[39],[38,40],[36,41],[42],[],[44],[],[46],[45,47],[43,48],[49],[],[51],[],[53],[52,54],[50,55],[56],[],[58],[],[60],[59,61],[57,62],[63],[],[65],[],[67],[66,68],[64,69],[70],[],[72],[],[74],[73,75],[71,76],[77],[],[79],[],[81],[80,82],[78,83],[84],[],[86],[],[88],[87,89],[85,90],[91],[],[93],[],[95],[94,96],[92,97],[98],[],[100],[],[102],[101,103],[99,104],[105],[],[107],[],[109],[108,110],[106,111],[112],[],[114],[],[116],[115,117],[113,118],[119],[],[121],[],[123],[122,124],[120,125],[126],[2],[128],[3],[130],[129,131],[127,132]])],gh:=[(0,[.frz 2,.frz 3])] }

def b_spec_ASames_1:SCode :=
 (.seq
 (.region [⟨some 14,.bin .lss (.t 13) (.t 12),none⟩] [0,1,12,13,14] [] [])
 (.seq
 (.cond (.t 14)
 .skip
 (.exit 0))
 (.seq
 (.block 1
 (.seq
 (.region [⟨some 15,.mv (.t 13),none⟩,⟨some 5,.mv (.t 15),none⟩] [0,1,5,12,13] [] [])
 (.seq
 (.region [⟨some 16,.mv (.t 0),none⟩,⟨some 17,.mv (.t 5),none⟩,⟨some 18,.iAddr 16 (.t 16) (.t 17),none⟩,⟨some 19,.load (some 16) (.t 18),none⟩,⟨some 20,.mv (.t 1),none⟩,⟨some 21,.mv (.t 5),none⟩,⟨some 22,.iAddr 16 (.t 20) (.t 21),none⟩,⟨some 23,.load (some 16) (.t 22),none⟩,⟨some 24,.call 202 [(.t 19),(.t 23)],none⟩,⟨some 25,.un .not (.t 24),none⟩] [0,1,12,13,25] [] [])
 (.cond (.t 25)
 (.seq
 (.region [⟨some 4,.mv (.k (.bool false)),none⟩] [4] [] [])
 .ret)
 .skip))))
 (.region [⟨some 26,.bin .add (.t 13) (.k (.int .i64 1)),none⟩,⟨some 13,.mv (.t 26),none⟩] [0,1,12,13] [] []))))

def t_spec_ASames_2:SCode :=
 (.seq
 (.region [⟨some 4,.mv (.k (.bool true)),none⟩] [4] [] [])
 .ret)

def c_spec_ASames:SFn:=⟨2,
 (.seq
 (.region [⟨some 4,.mv (.k (.bool false)),none⟩] [0,1] [] [])
 (.seq
 (.seq
 (.region [⟨some 6,.mv (.t 0),none⟩,⟨some 7,.len 1 (.t 6),none⟩,⟨some 8,.mv (.t 1),none⟩,⟨some 9,.len 1 (.t 8),none⟩,⟨some 10,.bin .neq (.t 7) (.t 9),none⟩] [0,1,10] [] [[],[6],[],[8]])
 (.cond (.t 10)
 (.seq
 (.region [⟨some 4,.mv (.k (.bool false)),none⟩] [4] [] [])
 .ret)
 .skip))
 (.seq
 (.seq
 (.region [⟨some 11,.mv (.t 0),none⟩,⟨some 12,.len 1 (.t 11),none⟩,⟨some 13,.mv (.k (.int .i64 0)),none⟩] [0,1,12,13] [] [[],[11]])
 (.block 0
 (.loop [0,1,12,13]
 b_spec_ASames_1)))
 t_spec_ASames_2))),
 [.t 4]⟩

def l_spec_ASames:Lay:={ rg:=[(0,([0,1],[])),(1,([0,1,10],[])),(2,([4],[])),(3,([0,1,12,13],[])),(4,([0,1,12,13,14],[])),(5,([0,1,5,12,13],[])),(6,([0,1,12,13,25],[])),(7,([4],[])),(8,([0,1,12,13],[])),(9,([4],[])),(1000004,([0,1,12,13],[]))],dd:=[(1,[[],[6],[],[8]]),(3,[[],[11]])] }

def b_spec_AFits_1:SCode :=
 (.seq
 (.region [⟨some 26,.bin .lss (.t 25) (.t 24),none⟩] [0,4,5,17,18,19,23,24,25,26] [] [])
 (.seq
 (.cond (.t 26)
 .skip
 (.exit 2))
 (.seq
 (.block 3
 (.seq
 (.region [⟨some 27,.iAddr 1 (.t 23) (.t 25),none⟩,⟨some 28,.load none (.t 27),none⟩,⟨some 7,.mv (.t 28),none⟩] [0,4,5,7,17,18,19,23,24,25] [] [[],[27]])
 (.region [⟨some 29,.mv (.t 5),none⟩,⟨some 30,.mv (.t 29),none⟩,⟨some 31,.mv (.t 7),some (30,false)⟩,⟨some 32,.fAddr 2 (.t 4),some (30,false)⟩,⟨some 33,.load none (.t 32),some (30,false)⟩,⟨some 34,.bin .eql (.t 31) (.t 33),some (30,false)⟩,⟨some 35,.pick (.t 30) (.k (.bool true)) (.t 34),none⟩,⟨some 5,.mv (.t 35),none⟩] [0,4,5,17,18,19,23,24,25] [] [[],[29],[7],[],[32],[31,33],[30,34]])))
 (.region [⟨some 36,.bin .add (.t 25) (.k (.int .i64 1)),none⟩,⟨some 25,.mv (.t 36),none⟩] [0,4,5,17,18,19,23,24,25] [] []))))

def b_spec_AFits_2:SCode :=
 (.seq
 (.region [⟨some 94,.bin .lss (.t 93) (.t 92),none⟩] [0,4,17,18,19,91,92,93,94] [] [])
 (.seq
 (.cond (.t 94)
 .skip
 (.exit 4))
 (.seq
 (.block 5
 (.seq
 (.region [⟨some 95,.iAddr 1 (.t 91) (.t 93),none⟩,⟨some 96,.load none (.t 95),none⟩,⟨some 9,.mv (.t 96),none⟩] [0,4,9,17,18,19,91,92,93] [] [[],[95]])
 (.seq
 (.region [⟨some 97,.mv (.t 9),none⟩,⟨some 98,.fAddr 1 (.t 4),none⟩,⟨some 99,.load none (.t 98),none⟩,⟨some 100,.bin .eql (.t 97) (.t 99),none⟩] [0,4,17,18,19,91,92,93,100] [] [[9],[],[98]])
 (.cond (.t 100)
 (.seq
 (.region [⟨some 2,.mv (.k (.bool false)),none⟩] [2] [] [])
 .ret)
 .skip))))
 (.region [⟨some 101,.bin .add (.t 93) (.k (.int .i64 1)),none⟩,⟨some 93,.mv (.t 101),none⟩] [0,4,17,18,19,91,92,93] [] []))))

def b_spec_AFits_3:SCode :=
 (.seq
 (.region [⟨some 106,.bin .lss (.t 105) (.t 104),none⟩] [0,4,17,18,19,103,104,105,106] [] [])
 (.seq
 (.cond (.t 106)
 .skip
 (.exit 6))
 (.seq
 (.block 7
 (.seq
 (.seq
 (.region [⟨some 107,.mv (.t 105),none⟩,⟨some 108,.iAddr 2 (.t 103) (.t 105),none⟩,⟨some 109,.load (some 2) (.t 108),none⟩,⟨some 11,.alloc [(.str []),(.str [])],none⟩,⟨some 10,.mv (.t 107),none⟩,
 ⟨none,.store 2 (.t 11) (.t 109),none⟩] [0,4,10,11,17,18,19,103,104,105] [] [[],[],[108],[],[107]])
 (.ghost [.frz 11]))
 (.seq
 (.region [⟨some 111,.fAddr 0 (.t 11),none⟩,⟨some 112,.load none (.t 111),none⟩,⟨some 113,.call 102 [(.t 112),(.k (.int .u8 46))],none⟩,⟨some 110,.mv (.t 113),none⟩,⟨some 114,.extr (.t 110) 0,none⟩,⟨some 115,.extr (.t 110) 1,none⟩,⟨some 116,.extr (.t 110) 2,none⟩,⟨some 12,.mv (.t 114),none⟩,⟨some 13,.mv (.t 115),none⟩,⟨some 14,.mv (.t 116),none⟩] [0,4,10,11,12,13,14,17,18,19,103,104,105] [] [[],[111],[112],[113],[],[],[110],[114],[115]])
 (.seq
 (.region [⟨some 117,.mv (.t 14),none⟩,⟨some 118,.un .not (.t 117),none⟩,⟨some 119,.mv (.t 118),none⟩,⟨some 120,.mv (.t 12),some (119,false)⟩,⟨some 121,.call 99 [(.t 120)],some (119,false)⟩,⟨some 122,.un .not (.t 121),some (119,false)⟩,⟨some 123,.pick (.t 119) (.k (.bool true)) (.t 122),none⟩,⟨some 124,.mv (.t 123),none⟩,⟨some 125,.mv (.t 13),some (124,false)⟩,⟨some 126,.call 99 [(.t 125)],some (124,false)⟩,⟨some 127,.un .not (.t 126),some (124,false)⟩,⟨some 128,.pick (.t 124) (.k (.bool true)) (.t 127),none⟩,⟨some 129,.mv (.t 128),none⟩,⟨some 130,.fAddr 0 (.t 11),some (129,false)⟩,⟨some 131,.load none (.t 130),some (129,false)⟩,⟨some 132,.call 112 [(.t 131)],some (129,false)⟩,⟨some 133,.fAddr 0 (.t 11),some (129,false)⟩,⟨some 134,.load none (.t 133),some (129,false)⟩,⟨some 135,.bin .neq (.t 132) (.t 134),some (129,false)⟩,⟨some 136,.pick (.t 129) (.k (.bool true)) (.t 135),none⟩,⟨some 137,.mv (.t 136),none⟩,⟨some 138,.fAddr 1 (.t 11),some (137,false)⟩,⟨some 139,.load none (.t 138),some (137,false)⟩,⟨some 140,.call 204 [(.t 139)],some (137,false)⟩,⟨some 141,.un .not (.t 140),some (137,false)⟩,⟨some 142,.pick (.t 137) (.k (.bool true)) (.t 141),none⟩,⟨some 143,.mv (.t 142),none⟩,⟨some 144,.mv (.t 10),some (143,false)⟩,⟨some 145,.bin .gtr (.t 144) (.k (.int .i64 0)),some (143,false)⟩,⟨some 146,.mv (.t 145),some (143,false)⟩,⟨some 147,.fAddr 15 (.t 4),some (146,true)⟩,⟨some 148,.load none (.t 147),some (146,true)⟩,⟨some 149,.mv (.t 10),some (146,true)⟩,⟨some 150,.bin .sub (.t 149) (.k (.int .i64 1)),some (146,true)⟩,⟨some 151,.iAddr 2 (.t 148) (.t 150),some (146,true)⟩,⟨some 152,.fAddr 0 (.t 151),some (146,true)⟩,⟨some 153,.load none (.t 152),some (146,true)⟩,⟨some 154,.fAddr 0 (.t 11),some (146,true)⟩,⟨some 155,.load none (.t 154),some (146,true)⟩,⟨some 156,.bin .geq (.t 153) (.t 155),some (146,true)⟩,⟨some 157,.pick (.t 146) (.t 156) (.k (.bool false)),some (143,false)⟩,⟨some 158,.pick (.t 143) (.k (.bool true)) (.t 157),none⟩] [0,4,17,18,19,103,104,105,158] [] [])
 (.cond (.t 158)
 (.seq
 (.region [⟨some 2,.mv (.k (.bool false)),none⟩] [2] [] [])
 .ret)
 .skip)))))
 (.region [⟨some 159,.bin .add (.t 105) (.k (.int .i64 1)),none⟩,⟨some 105,.mv (.t 159),none⟩] [0,4,17,18,19,103,104,105] [] []))))

def f_spec_AFits_4:SCode :=
 (.seq
 (.seq
 (.region [⟨some 102,.fAddr 15 (.t 4),none⟩,⟨some 103,.load none (.t 102),none⟩,⟨some 104,.len 1 (.t 103),none⟩,⟨some 105,.mv (.k (.int .i64 0)),none⟩] [0,4,17,18,19,103,104,105] [] [[],[102]])
 (.block 6
 (.loop [0,4,17,18,19,103,104,105]
 b_spec_AFits_3)))
 (.exit 1))

def f_spec_AFits_5:SCode :=
 (.seq
 (.seq
 (.region [⟨some 91,.call 200 [],none⟩,⟨some 92,.len 1 (.t 91),none⟩,⟨some 93,.mv (.k (.int .i64 0)),none⟩] [0,4,17,18,19,91,92,93] [] [])
 (.block 4
 (.loop [0,4,17,18,19,91,92,93]
 b_spec_AFits_2)))
 f_spec_AFits_4)

def b_spec_AFits_6:SCode :=
 (.seq
 (.region [⟨some 164,.bin .lss (.t 163) (.t 162),none⟩] [0,17,18,19,161,162,163,164] [] [])
 (.seq
 (.cond (.t 164)
 .skip
 (.exit 8))
 (.seq
 (.block 9
 (.seq
 (.seq
 (.region [⟨some 165,.iAddr 3 (.t 161) (.t 163),none⟩,⟨some 166,.load (some 3) (.t 165),none⟩,⟨some 16,.alloc [(.str []),(.str []),(.str [])],none⟩,
 ⟨none,.store 3 (.t 16) (.t 166),none⟩] [0,16,17,18,19,161,162,163] [] [[],[165]])
 (.ghost [.frz 16]))
 (.seq
 (.region [⟨some 167,.fAddr 2 (.t 16),none⟩,⟨some 168,.load none (.t 167),none⟩,⟨some 169,.call 204 [(.t 168)],none⟩,⟨some 170,.un .not (.t 169),none⟩,⟨some 171,.mv (.t 170),none⟩,⟨some 172,.fAddr 1 (.t 16),some (171,false)⟩,⟨some 173,.load none (.t 172),some (171,false)⟩,⟨some 174,.call 99 [(.t 173)],some (171,false)⟩,⟨some 175,.un .not (.t 174),some (171,false)⟩,⟨some 176,.pick (.t 171) (.k (.bool true)) (.t 175),none⟩,⟨some 177,.mv (.t 176),none⟩,⟨some 178,.fAddr 1 (.t 16),some (177,false)⟩,⟨some 179,.load none (.t 178),some (177,false)⟩,⟨some 180,.call 112 [(.t 179)],some (177,false)⟩,⟨some 181,.fAddr 1 (.t 16),some (177,false)⟩,⟨some 182,.load none (.t 181),some (177,false)⟩,⟨some 183,.bin .neq (.t 180) (.t 182),some (177,false)⟩,⟨some 184,.pick (.t 177) (.k (.bool true)) (.t 183),none⟩] [0,17,18,19,161,162,163,184] [] [])
 (.cond (.t 184)
 (.seq
 (.region [⟨some 2,.mv (.k (.bool false)),none⟩] [2] [] [])
 .ret)
 .skip))))
 (.region [⟨some 185,.bin .add (.t 163) (.k (.int .i64 1)),none⟩,⟨some 163,.mv (.t 185),none⟩] [0,17,18,19,161,162,163] [] []))))

def f_spec_AFits_7:SCode :=
 (.seq
 (.region [⟨some 160,.load (some 16) (.t 4),none⟩,⟨some 161,.call 201 [(.t 160)],none⟩,⟨some 162,.len 1 (.t 161),none⟩,⟨some 163,.mv (.k (.int .i64 0)),none⟩] [0,17,18,19,161,162,163] [] [[4],[160]])
 (.block 8
 (.loop [0,17,18,19,161,162,163]
 b_spec_AFits_6)))

def f_spec_AFits_8:SCode :=
 (.seq
 (.seq
 (.region [⟨some 60,.fAddr 0 (.t 4),none⟩,⟨some 61,.load none (.t 60),none⟩,⟨some 62,.bin .eql (.t 61) (.k (.int .i64 0)),none⟩] [0,4,17,18,19,62] [] [[],[60]])
 (.cond (.t 62)
 (.seq
 (.seq
 (.region [⟨some 63,.fAddr 1 (.t 4),none⟩,⟨some 64,.load none (.t 63),none⟩,⟨some 65,.call 99 [(.t 64)],none⟩,⟨some 66,.un .not (.t 65),none⟩,⟨some 67,.mv (.t 66),none⟩,⟨some 68,.fAddr 1 (.t 4),some (67,false)⟩,⟨some 69,.load none (.t 68),some (67,false)⟩,⟨some 70,.call 112 [(.t 69)],some (67,false)⟩,⟨some 71,.fAddr 1 (.t 4),some (67,false)⟩,⟨some 72,.load none (.t 71),some (67,false)⟩,⟨some 73,.bin .neq (.t 70) (.t 72),some (67,false)⟩,⟨some 74,.pick (.t 67) (.k (.bool true)) (.t 73),none⟩,⟨some 75,.mv (.t 74),none⟩,⟨some 76,.fAddr 1 (.t 4),some (75,false)⟩,⟨some 77,.load none (.t 76),some (75,false)⟩,⟨some 78,.bin .eql (.t 77) (.k (.str [110,111,110,101])),some (75,false)⟩,⟨some 79,.pick (.t 75) (.k (.bool true)) (.t 78),none⟩,⟨some 80,.mv (.t 79),none⟩,⟨some 81,.fAddr 3 (.t 4),some (80,false)⟩,⟨some 82,.load none (.t 81),some (80,false)⟩,⟨some 83,.bin .neq (.t 82) (.k (.str [])),some (80,false)⟩,⟨some 84,.pick (.t 80) (.k (.bool true)) (.t 83),none⟩,⟨some 85,.mv (.t 84),none⟩,⟨some 86,.fAddr 1 (.t 4),some (85,false)⟩,⟨some 87,.load none (.t 86),some (85,false)⟩,⟨some 88,.len 0 (.t 87),some (85,false)⟩,⟨some 89,.bin .gtr (.t 88) (.k (.int .i64 30)),some (85,false)⟩,⟨some 90,.pick (.t 85) (.k (.bool true)) (.t 89),none⟩] [0,4,17,18,19,90] [] [])
 (.cond (.t 90)
 (.seq
 (.region [⟨some 2,.mv (.k (.bool false)),none⟩] [2] [] [])
 .ret)
 .skip))
 f_spec_AFits_5)
 .skip))
 f_spec_AFits_7)

def f_spec_AFits_9:SCode :=
 (.seq
 (.seq
 (.region [⟨some 37,.mv (.t 5),none⟩,⟨some 38,.un .not (.t 37),none⟩,⟨some 39,.mv (.t 38),none⟩,⟨some 40,.fAddr 0 (.t 4),some (39,false)⟩,⟨some 41,.load none (.t 40),some (39,false)⟩,⟨some 42,.bin .lss (.t 41) (.k (.int .i64 0)),some (39,false)⟩,⟨some 43,.pick (.t 39) (.k (.bool true)) (.t 42),none⟩,⟨some 44,.mv (.t 43),none⟩,⟨some 45,.fAddr 0 (.t 4),some (44,false)⟩,⟨some 46,.load none (.t 45),some (44,false)⟩,⟨some 47,.bin .gtr (.t 46) (.k (.int .i64 7)),some (44,false)⟩,⟨some 48,.pick (.t 44) (.k (.bool true)) (.t 47),none⟩,⟨some 49,.mv (.t 48),none⟩,⟨some 50,.fAddr 3 (.t 4),some (49,false)⟩,⟨some 51,.load none (.t 50),some (49,false)⟩,⟨some 52,.bin .neq (.t 51) (.k (.str [])),some (49,false)⟩,⟨some 53,.mv (.t 52),some (49,false)⟩,⟨some 54,.fAddr 3 (.t 4),some (53,true)⟩,⟨some 55,.load none (.t 54),some (53,true)⟩,⟨some 56,.call 104 [(.t 55)],some (53,true)⟩,⟨some 57,.un .not (.t 56),some (53,true)⟩,⟨some 58,.pick (.t 53) (.t 57) (.k (.bool false)),some (49,false)⟩,⟨some 59,.pick (.t 49) (.k (.bool true)) (.t 58),none⟩] [0,4,17,18,19,59] [] [[5],[37],[38],[],[40],[41],[39,42],[43],[],[45],[46],[44,47],[48],[],[50],[51],[52],[],[54],[55],[56],[53,57]])
 (.cond (.t 59)
 (.seq
 (.region [⟨some 2,.mv (.k (.bool false)),none⟩] [2] [] [])
 .ret)
 .skip))
 f_spec_AFits_8)

def t_spec_AFits_10:SCode :=
 (.region [⟨some 186,.bin .add (.t 19) (.k (.int .i64 1)),none⟩,⟨some 19,.mv (.t 186),none⟩] [0,17,18,19] [] [])

def b_spec_AFits_11:SCode :=
 (.seq
 (.region [⟨some 20,.bin .lss (.t 19) (.t 18),none⟩] [0,17,18,19,20] [] [])
 (.seq
 (.cond (.t 20)
 .skip
 (.exit 0))
 (.seq
 (.block 1
 (.seq
 (.seq
 (.region [⟨some 21,.iAddr 16 (.t 17) (.t 19),none⟩,⟨some 22,.load (some 16) (.t 21),none⟩,⟨some 4,.alloc [(.int .i64 0),(.str []),(.str []),(.str []),(.str []),(.str []),(.str []),(.str []),(.str []),(.str []),(.str []),(.str []),(.str []),(.str []),(.int .i64 0),.nilS],none⟩,
 ⟨none,.store 16 (.t 4) (.t 22),none⟩] [0,4,17,18,19] [] [[],[21]])
 (.ghost [.frz 4]))
 (.seq
 (.region [⟨some 5,.mv (.k (.bool false)),none⟩] [0,4,5,17,18,19] [] [])
 (.seq
 (.seq
 (.region [⟨some 23,.call 203 [],none⟩,⟨some 24,.len 1 (.t 23),none⟩,⟨some 25,.mv (.k (.int .i64 0)),none⟩] [0,4,5,17,18,19,23,24,25] [] [])
 (.block 2
 (.loop [0,4,5,17,18,19,23,24,25]
 b_spec_AFits_1)))
 f_spec_AFits_9))))
 t_spec_AFits_10)))

def t_spec_AFits_12:SCode :=
 (.seq
 (.region [⟨some 187,.mv (.t 0),none⟩,⟨some 188,.len 1 (.t 187),none⟩,⟨some 189,.bin .leq (.t 188) (.k (.int .i64 10)),none⟩,⟨some 2,.mv (.t 189),none⟩] [2] [] [[0],[187],[188]])
 .ret)

def c_spec_AFits:SFn:=⟨1,
 (.seq
 (.region [⟨some 2,.mv (.k (.bool false)),none⟩] [0] [] [])
 (.seq
 (.seq
 (.region [⟨some 17,.mv (.t 0),none⟩,⟨some 18,.len 1 (.t 17),none⟩,⟨some 19,.mv (.k (.int .i64 0)),none⟩] [0,17,18,19] [] [])
 (.block 0
 (.loop [0,17,18,19]
 b_spec_AFits_11)))
 t_spec_AFits_12)),
 [.t 2]⟩

def l_spec_AFits:Lay:={ rg:=[(0,([0],[])),(1,([0,17,18,19],[])),(2,([0,17,18,19,20],[])),(3,([0,4,17,18,19],[])),(4,([0,4,5,17,18,19],[])),(5,([0,4,5,17,18,19,23,24,25],[])),(6,([0,4,5,17,18,19,23,24,25,26],[])),(7,([0,4,5,7,17,18,19,23,24,25],[])),(8,([0,4,5,17,18,19,23,24,25],[])),(9,([0,4,5,17,18,19,23,24,25],[])),(10,([0,4,17,18,19,59],[])),(11,([2],[])),(12,([0,4,17,18,19,62],[])),(13,([0,4,17,18,19,90],[])),(14,([2],[])),(15,([0,4,17,18,19,91,92,93],[])),(16,([0,4,17,18,19,91,92,93,94],[])),(17,([0,4,9,17,18,19,91,92,93],[])),(18,([0,4,17,18,19,91,92,93,100],[])),(19,([2],[])),(20,([0,4,17,18,19,91,92,93],[])),(21,([0,4,17,18,19,103,104,105],[])),(22,([0,4,17,18,19,103,104,105,106],[])),(23,([0,4,10,11,17,18,19,103,104,105],[])),(24,([0,4,10,11,12,13,14,17,18,19,103,104,105],[])),(25,([0,4,17,18,19,103,104,105,158],[])),(26,([2],[])),(27,([0,4,17,18,19,103,104,105],[])),(28,([0,17,18,19,161,162,163],[])),(29,([0,17,18,19,161,162,163,164],[])),(30,([0,16,17,18,19,161,162,163],[])),(31,([0,17,18,19,161,162,163,184],[])),(32,([2],[])),(33,([0,17,18,19,161,162,163],[])),(34,([0,17,18,19],[])),(35,([2],[])),(1000002,([0,17,18,19],[])),(1000006,([0,4,5,17,18,19,23,24,25],[])),(1000016,([0,4,17,18,19,91,92,93],[])),(1000022,([0,4,17,18,19,103,104,105],[])),(1000029,([0,17,18,19,161,162,163],[]))],dd:=[(3,[[],[21]]),(7,[[],[27]]),(8,[[],[29],[7],[],[32],[31,33],[30,34]]),(10,[[5],[37],[38],[],[40],[41],[39,42],[43],[],[45],[46],[44,47],[48],[],[50],[51],[52],[],[54],[55],[56],[53,57]]),(12,[[],[60]]),(17,[[],[95]]),(18,[[9],[],[98]]),(21,[[],[102]]),(23,[[],[],[108],[],[107]]),(24,[[],[111],[112],[113],[],[],[110],[114],[115]]),(28,[[4],[160]]),(30,[[],[165]]),(35,[[0],[187],[188]])],gh:=[(3,[.frz 4]),(23,[.frz 11]),(30,[.frz 16])] }

end Wax


namespace Wax
open Go (IntKind)

def c_impl_AFormat:SFn:=⟨2,
 (.seq
 (.region [⟨some 4,.mv (.k (.str [])),none⟩] [0,1] [] [])
 (.seq
 (.region [⟨some 5,.mv (.k .nilS),none⟩] [0,1,5] [] [])
 (.seq
 (.seq
 (.region [⟨some 8,.mv (.t 1),none⟩,⟨some 9,.len 1 (.t 8),none⟩,⟨some 10,.mv (.k (.int .i64 0)),none⟩] [0,5,8,9,10] [] [[1]])
 (.block 0
 (.loop [0,5,8,9,10]
 (.seq
 (.region [⟨some 11,.bin .lss (.t 10) (.t 9),none⟩] [0,5,8,9,10,11] [] [])
 (.seq
 (.cond (.t 11)
 .skip
 (.exit 0))
 (.seq
 (.block 1
 (.seq
 (.region [⟨some 12,.iAddr 16 (.t 8) (.t 10),none⟩,⟨some 13,.load (some 16) (.t 12),none⟩,⟨some 7,.alloc [(.int .i64 0),(.str []),(.str []),(.str []),(.str []),(.str []),(.str []),(.str []),(.str []),(.str []),(.str []),(.str []),(.str []),(.str []),(.int .i64 0),.nilS],none⟩,
 ⟨none,.store 16 (.t 7) (.t 13),none⟩] [0,5,7,8,9,10] [] [[],[12]])
 (.region [⟨some 14,.mv (.t 5),none⟩,⟨some 15,.load (some 16) (.t 7),none⟩,⟨some 16,.call 235 [(.t 15)],none⟩,⟨some 17,.mkSl 1 1 [.nilI] [(0,(.t 16))],none⟩,⟨some 18,.app 1 16 (.t 14) (.t 17),none⟩,⟨some 5,.mv (.t 18),none⟩] [0,5,8,9,10] [7,17] [[],[7],[15],[16],[14,17]])))
 (.region [⟨some 19,.bin .add (.t 10) (.k (.int .i64 1)),none⟩,⟨some 10,.mv (.t 19),none⟩] [0,5,8,9,10] [] [])))))))
 (.seq
 (.region [⟨some 20,.mv (.t 0),none⟩,⟨some 21,.mv (.t 5),none⟩,⟨some 22,.call 236 [(.t 20),(.t 21)],none⟩,⟨some 4,.mv (.t 22),none⟩] [4] [18] [[0],[5],[20,21]])
 .ret)))),
 [.t 4]⟩

def l_impl_AFormat:Lay:={ rg:=[(0,([0,1],[])),(1,([0,1,5],[])),(2,([0,5,8,9,10],[])),(3,([0,5,8,9,10,11],[])),(4,([0,5,7,8,9,10],[])),(5,([0,5,8,9,10],[7,17])),(6,([0,5,8,9,10],[])),(7,([4],[18])),(1000003,([0,5,8,9,10],[]))],dd:=[(2,[[1]]),(4,[[],[12]]),(5,[[],[7],[15],[16],[14,17]]),(7,[[0],[5],[20,21]])] }

def c_authres_Format:SFn:=⟨2,
 (.seq
 (.region [⟨some 4,.mv (.k (.str [])),none⟩] [0,1] [] [])
 (.seq
 (.region [⟨some 11,.mv (.t 0),none⟩,⟨some 5,.mv (.t 11),none⟩] [1,5] [] [[0]])
 (.seq
 (.seq
 (.region [⟨some 12,.mv (.t 1),none⟩,⟨some 13,.len 1 (.t 12),none⟩,⟨some 14,.bin .eql (.t 13) (.k (.int .i64 0)),none⟩] [1,5,14] [] [[],[12]])
 (.cond (.t 14)
 (.seq
 (.region [⟨some 15,.mv (.t 5),none⟩,⟨some 16,.bin .add (.t 15) (.k (.str [59,32,110,111,110,101])),none⟩,⟨some 5,.mv (.t 16),none⟩] [5] [] [[],[15]])
 (.seq
 (.region [⟨some 17,.mv (.t 5),none⟩,⟨some 4,.mv (.t 17),none⟩] [4] [] [[5]])
 .ret))
 .skip))
 (.seq
 (.seq
 (.region [⟨some 18,.mv (.t 1),none⟩,⟨some 19,.len 1 (.t 18),none⟩,⟨some 20,.mv (.k (.int .i64 0)),none⟩] [5,18,19,20] [] [[1]])
 (.block 0
 (.loop [5,18,19,20]
 (.seq
 (.region [⟨some 21,.bin .lss (.t 20) (.t 19),none⟩] [5,18,19,20,21] [] [])
 (.seq
 (.cond (.t 21)
 .skip
 (.exit 0))
 (.seq
 (.block 1
 (.seq
 (.region [⟨some 22,.iAddr 1 (.t 18) (.t 20),none⟩,⟨some 23,.load none (.t 22),none⟩,⟨some 7,.mv (.t 23),none⟩] [5,7,18,19,20] [] [[],[22]])
 (.seq
 (.region [⟨some 24,.mv (.t 7),none⟩,⟨some 25,.call 237 [(.t 24)],none⟩,⟨some 8,.mv (.t 25),none⟩] [5,7,8,18,19,20] [] [[],[24]])
 (.seq
 (.region [⟨some 27,.mv (.t 7),none⟩,⟨some 28,.inv (.t 27) "given.example/pub-waxseal/pub/msgauth/authres.format" [],none⟩,⟨some 26,.mv (.t 28),none⟩,⟨some 29,.extr (.t 26) 0,none⟩,⟨some 30,.extr (.t 26) 1,none⟩,⟨some 9,.mv (.t 29),none⟩,⟨some 10,.mv (.t 30),none⟩] [5,8,9,10,18,19,20] [] [[7],[27],[28],[],[26],[29]])
 (.region [⟨some 31,.mv (.t 5),none⟩,⟨some 32,.mv (.t 8),none⟩,⟨some 33,.bin .add (.k (.str [59,32])) (.t 32),none⟩,⟨some 34,.bin .add (.t 33) (.k (.str [61])),none⟩,⟨some 35,.mv (.t 9),none⟩,⟨some 36,.bin .add (.t 34) (.t 35),none⟩,⟨some 37,.bin .add (.t 36) (.k (.str [32])),none⟩,⟨some 38,.mv (.t 10),none⟩,⟨some 39,.call 238 [(.t 38)],none⟩,⟨some 40,.bin .add (.t 37) (.t 39),none⟩,⟨some 41,.bin .add (.t 31) (.t 40),none⟩,⟨some 5,.mv (.t 41),none⟩] [5,18,19,20] [] [[],[8],[32],[33],[9],[34,35],[36],[10],[38],[37,39],[31,40]])))))
 (.region [⟨some 42,.bin .add (.t 20) (.k (.int .i64 1)),none⟩,⟨some 20,.mv (.t 42),none⟩] [5,18,19,20] [] [])))))))
 (.seq
 (.region [⟨some 43,.mv (.t 5),none⟩,⟨some 4,.mv (.t 43),none⟩] [4] [] [[5]])
 .ret))))),
 [.t 4]⟩

def l_authres_Format:Lay:={ rg:=[(0,([0,1],[])),(1,([1,5],[])),(2,([1,5,14],[])),(3,([5],[])),(4,([4],[])),(5,([5,18,19,20],[])),(6,([5,18,19,20,21],[])),(7,([5,7,18,19,20],[])),(8,([5,7,8,18,19,20],[])),(9,([5,8,9,10,18,19,20],[])),(10,([5,18,19,20],[])),(11,([5,18,19,20],[])),(12,([4],[])),(1000006,([5,18,19,20],[]))],dd:=[(1,[[0]]),(2,[[],[12]]),(3,[[],[15]]),(4,[[5]]),(5,[[1]]),(7,[[],[22]]),(8,[[],[24]]),(9,[[7],[27],[28],[],[26],[29]]),(10,[[],[8],[32],[33],[9],[34,35],[36],[10],[38],[37,39],[31,40]]),(12,[[5]])] }

end Wax


namespace Wax
open Go (IntKind)

def c_errors_New:SFn:=⟨1,
 (.seq
 (.region [⟨some 2,.mv (.k .nilI),none⟩] [0] [] [])
 (.seq
 (.region [⟨some 3,.mv (.t 0),none⟩,⟨some 4,.agg [(.str [])] [(0,1,(.t 3))],none⟩,⟨some 5,.box (.t 4),none⟩,⟨some 6,.mkIfc 3 (.t 5),none⟩,⟨some 2,.mv (.t 6),none⟩] [2] [] [[0],[3],[4],[5]])
 .ret)),
 [.t 2]⟩

def l_errors_New:Lay:={ rg:=[(0,([0],[])),(1,([2],[]))],dd:=[(1,[[0],[3],[4],[5]])] }

end Wax


namespace Wax
open Go (IntKind)

def b_impl_resultFor_1:SCode :=
 (.seq
 (.region [⟨some 106,.bin .lss (.t 105) (.t 104),none⟩] [1,3,4,103,104,105,106] [] [])
 (.seq
 (.cond (.t 106)
 .skip
 (.exit 1))
 (.seq
 (.block 2
 (.seq
 (.region [⟨some 107,.iAddr 2 (.t 103) (.t 105),none⟩,⟨some 108,.load (some 2) (.t 107),none⟩,⟨some 6,.alloc [(.str []),(.str [])],none⟩,
 ⟨none,.store 2 (.t 6) (.t 108),none⟩] [1,3,4,6,103,104,105] [] [[],[107]])
 (.region [⟨some 109,.mv (.t 4),none⟩,⟨some 110,.fAddr 0 (.t 6),none⟩,⟨some 111,.load none (.t 110),none⟩,⟨some 112,.fAddr 1 (.t 6),none⟩,⟨some 113,.load none (.t 112),none⟩,
 ⟨none,.mput (.t 109) (.t 111) (.t 113),none⟩] [1,3,4,103,104,105] [6] [[],[],[110],[6],[112]])))
 (.region [⟨some 114,.bin .add (.t 105) (.k (.int .i64 1)),none⟩,⟨some 105,.mv (.t 114),none⟩] [1,3,4,103,104,105] [] []))))

def t_impl_resultFor_2:SCode :=
 (.seq
 (.seq
 (.region [⟨some 115,.fAddr 1 (.t 1),none⟩,⟨some 116,.load none (.t 115),none⟩,⟨some 117,.mv (.t 3),none⟩,⟨some 118,.mv (.t 4),none⟩,⟨some 119,.agg [(.str []),(.str []),.nilM] [(0,1,(.t 116)),(1,1,(.t 117)),(2,1,(.t 118))],none⟩,⟨some 120,.box (.t 119),none⟩,⟨some 121,.mkIfc 15 (.t 120),none⟩,⟨some 2,.mv (.t 121),none⟩] [2] [1] [[1],[115],[3],[4],[116,117,118],[119],[120]])
 (.ghost [.frz 101]))
 .ret)

def c_impl_resultFor:SFn:=⟨1,
 (.seq
 (.region [⟨some 1,.box (.t 0),none⟩,⟨some 2,.mv (.k .nilI),none⟩] [1] [] [[0]])
 (.seq
 (.region [⟨some 7,.fAddr 2 (.t 1),none⟩,⟨some 8,.load none (.t 7),none⟩,⟨some 3,.mv (.t 8),none⟩] [1,3] [] [[],[7]])
 (.seq
 (.seq
 (.region [⟨some 9,.fAddr 0 (.t 1),none⟩,⟨some 10,.load none (.t 9),none⟩] [1,3,10] [] [])
 (.block 0
 (.seq
 (.region [⟨some 12,.bin .eql (.t 10) (.k (.int .i64 1)),none⟩,⟨some 11,.mv (.t 12),none⟩] [1,3,10,11] [] [])
 (.cond (.t 11)
 (.seq
 (.region [⟨some 13,.mv (.t 3),none⟩,⟨some 14,.fAddr 3 (.t 1),none⟩,⟨some 15,.load none (.t 14),none⟩,⟨some 16,.fAddr 10 (.t 1),none⟩,⟨some 17,.load none (.t 16),none⟩,⟨some 18,.agg [(.str []),(.str []),(.str [])] [(0,1,(.t 13)),(1,1,(.t 15)),(2,1,(.t 17))],none⟩,⟨some 19,.box (.t 18),none⟩,⟨some 20,.mkIfc 8 (.t 19),none⟩,⟨some 2,.mv (.t 20),none⟩] [2] [1] [[3],[],[14],[1],[16],[13,15,17],[18],[19]])
 .ret)
 (.seq
 (.region [⟨some 22,.bin .eql (.t 10) (.k (.int .i64 2)),none⟩,⟨some 21,.mv (.t 22),none⟩] [1,3,10,21] [] [])
 (.cond (.t 21)
 (.seq
 (.region [⟨some 23,.mv (.t 3),none⟩,⟨some 24,.fAddr 3 (.t 1),none⟩,⟨some 25,.load none (.t 24),none⟩,⟨some 26,.fAddr 4 (.t 1),none⟩,⟨some 27,.load none (.t 26),none⟩,⟨some 28,.fAddr 5 (.t 1),none⟩,⟨some 29,.load none (.t 28),none⟩,⟨some 30,.agg [(.str []),(.str []),(.str []),(.str [])] [(0,1,(.t 23)),(1,1,(.t 25)),(2,1,(.t 27)),(3,1,(.t 29))],none⟩,⟨some 31,.box (.t 30),none⟩,⟨some 32,.mkIfc 9 (.t 31),none⟩,⟨some 2,.mv (.t 32),none⟩] [2] [1] [[3],[],[24],[],[26],[1],[28],[23,25,27,29],[30],[31]])
 .ret)
 (.seq
 (.region [⟨some 34,.bin .eql (.t 10) (.k (.int .i64 3)),none⟩,⟨some 33,.mv (.t 34),none⟩] [1,3,10,33] [] [])
 (.cond (.t 33)
 (.seq
 (.region [⟨some 35,.mv (.t 3),none⟩,⟨some 36,.fAddr 3 (.t 1),none⟩,⟨some 37,.load none (.t 36),none⟩,⟨some 38,.fAddr 4 (.t 1),none⟩,⟨some 39,.load none (.t 38),none⟩,⟨some 40,.fAddr 6 (.t 1),none⟩,⟨some 41,.load none (.t 40),none⟩,⟨some 42,.fAddr 7 (.t 1),none⟩,⟨some 43,.load none (.t 42),none⟩,⟨some 44,.agg [(.str []),(.str []),(.str []),(.str []),(.str [])] [(0,1,(.t 35)),(1,1,(.t 37)),(2,1,(.t 39)),(3,1,(.t 41)),(4,1,(.t 43))],none⟩,⟨some 45,.box (.t 44),none⟩,⟨some 46,.mkIfc 10 (.t 45),none⟩,⟨some 2,.mv (.t 46),none⟩] [2] [1] [[3],[],[36],[],[38],[],[40],[1],[42],[35,37,39,41,43],[44],[45]])
 .ret)
 (.seq
 (.region [⟨some 48,.bin .eql (.t 10) (.k (.int .i64 4)),none⟩,⟨some 47,.mv (.t 48),none⟩] [1,3,10,47] [] [])
 (.cond (.t 47)
 (.seq
 (.region [⟨some 49,.mv (.t 3),none⟩,⟨some 50,.fAddr 3 (.t 1),none⟩,⟨some 51,.load none (.t 50),none⟩,⟨some 52,.fAddr 8 (.t 1),none⟩,⟨some 53,.load none (.t 52),none⟩,⟨some 54,.agg [(.str []),(.str []),(.str [])] [(0,1,(.t 49)),(1,1,(.t 51)),(2,1,(.t 53))],none⟩,⟨some 55,.box (.t 54),none⟩,⟨some 56,.mkIfc 11 (.t 55),none⟩,⟨some 2,.mv (.t 56),none⟩] [2] [1] [[3],[],[50],[1],[52],[49,51,53],[54],[55]])
 .ret)
 (.seq
 (.region [⟨some 58,.bin .eql (.t 10) (.k (.int .i64 5)),none⟩,⟨some 57,.mv (.t 58),none⟩] [1,3,10,57] [] [])
 (.cond (.t 57)
 (.seq
 (.region [⟨some 59,.mv (.t 3),none⟩,⟨some 60,.fAddr 3 (.t 1),none⟩,⟨some 61,.load none (.t 60),none⟩,⟨some 62,.fAddr 11 (.t 1),none⟩,⟨some 63,.load none (.t 62),none⟩,⟨some 64,.fAddr 12 (.t 1),none⟩,⟨some 65,.load none (.t 64),none⟩,⟨some 66,.agg [(.str []),(.str []),(.str []),(.str [])] [(0,1,(.t 59)),(1,1,(.t 61)),(2,1,(.t 63)),(3,1,(.t 65))],none⟩,⟨some 67,.box (.t 66),none⟩,⟨some 68,.mkIfc 12 (.t 67),none⟩,⟨some 2,.mv (.t 68),none⟩] [2] [1] [[3],[],[60],[],[62],[1],[64],[59,61,63,65],[66],[67]])
 .ret)
 (.seq
 (.region [⟨some 70,.bin .eql (.t 10) (.k (.int .i64 6)),none⟩,⟨some 69,.mv (.t 70),none⟩] [1,3,10,69] [] [])
 (.cond (.t 69)
 (.seq
 (.region [⟨some 71,.mv (.t 3),none⟩,⟨some 72,.fAddr 3 (.t 1),none⟩,⟨some 73,.load none (.t 72),none⟩,⟨some 74,.fAddr 6 (.t 1),none⟩,⟨some 75,.load none (.t 74),none⟩,⟨some 76,.fAddr 9 (.t 1),none⟩,⟨some 77,.load none (.t 76),none⟩,⟨some 78,.agg [(.str []),(.str []),(.str []),(.str [])] [(0,1,(.t 71)),(1,1,(.t 73)),(2,1,(.t 75)),(3,1,(.t 77))],none⟩,⟨some 79,.box (.t 78),none⟩,⟨some 80,.mkIfc 13 (.t 79),none⟩,⟨some 2,.mv (.t 80),none⟩] [2] [1] [[3],[],[72],[],[74],[1],[76],[71,73,75,77],[78],[79]])
 .ret)
 (.seq
 (.region [⟨some 82,.bin .eql (.t 10) (.k (.int .i64 7)),none⟩,⟨some 81,.mv (.t 82),none⟩] [1,3,10,81] [] [])
 (.cond (.t 81)
 (.seq
 (.region [⟨some 83,.mv (.t 3),none⟩,⟨some 84,.fAddr 3 (.t 1),none⟩,⟨some 85,.load none (.t 84),none⟩,⟨some 86,.fAddr 6 (.t 1),none⟩,⟨some 87,.load none (.t 86),none⟩,⟨some 88,.agg [(.str []),(.str []),(.str [])] [(0,1,(.t 83)),(1,1,(.t 85)),(2,1,(.t 87))],none⟩,⟨some 89,.box (.t 88),none⟩,⟨some 90,.mkIfc 14 (.t 89),none⟩,⟨some 2,.mv (.t 90),none⟩] [2] [1] [[3],[],[84],[1],[86],[83,85,87],[88],[89]])
 .ret)
 (.seq
 (.region [⟨some 92,.bin .eql (.t 10) (.k (.int .i64 8)),none⟩,⟨some 91,.mv (.t 92),none⟩] [1,3,91] [] [[10]])
 (.cond (.t 91)
 (.seq
 (.region [⟨some 93,.mv (.t 3),none⟩,⟨some 94,.fAddr 13 (.t 1),none⟩,⟨some 95,.load none (.t 94),none⟩,⟨some 96,.fAddr 14 (.t 1),none⟩,⟨some 97,.load none (.t 96),none⟩,⟨some 98,.agg [(.str []),(.str []),(.int .i64 0)] [(0,1,(.t 93)),(1,1,(.t 95)),(2,1,(.t 97))],none⟩,⟨some 99,.box (.t 98),none⟩,⟨some 100,.mkIfc 7 (.t 99),none⟩,⟨some 2,.mv (.t 100),none⟩] [2] [1] [[3],[],[94],[1],[96],[93,95,97],[98],[99]])
 .ret)
 .skip))))))))))))))))))
 (.seq
 (.region [⟨some 101,.mkMap,none⟩,⟨some 4,.mv (.t 101),none⟩] [1,3,4] [] [])
 (.seq
 (.seq
 (.region [⟨some 102,.fAddr 15 (.t 1),none⟩,⟨some 103,.load none (.t 102),none⟩,⟨some 104,.len 1 (.t 103),none⟩,⟨some 105,.mv (.k (.int .i64 0)),none⟩] [1,3,4,103,104,105] [] [[],[102]])
 (.block 1
 (.loop [1,3,4,103,104,105]
 b_impl_resultFor_1)))
 t_impl_resultFor_2))))),
 [.t 2]⟩

def l_impl_resultFor:Lay:={ rg:=[(0,([1],[])),(1,([1,3],[])),(2,([1,3,10],[])),(3,([1,3,10,11],[])),(4,([2],[1])),(5,([1,3,10,21],[])),(6,([2],[1])),(7,([1,3,10,33],[])),(8,([2],[1])),(9,([1,3,10,47],[])),(10,([2],[1])),(11,([1,3,10,57],[])),(12,([2],[1])),(13,([1,3,10,69],[])),(14,([2],[1])),(15,([1,3,10,81],[])),(16,([2],[1])),(17,([1,3,91],[])),(18,([2],[1])),(19,([1,3,4],[])),(20,([1,3,4,103,104,105],[])),(21,([1,3,4,103,104,105,106],[])),(22,([1,3,4,6,103,104,105],[])),(23,([1,3,4,103,104,105],[6])),(24,([1,3,4,103,104,105],[])),(25,([2],[1])),(1000021,([1,3,4,103,104,105],[]))],dd:=[(0,[[0]]),(1,[[],[7]]),(4,[[3],[],[14],[1],[16],[13,15,17],[18],[19]]),(6,[[3],[],[24],[],[26],[1],[28],[23,25,27,29],[30],[31]]),(8,[[3],[],[36],[],[38],[],[40],[1],[42],[35,37,39,41,43],[44],[45]]),(10,[[3],[],[50],[1],[52],[49,51,53],[54],[55]]),(12,[[3],[],[60],[],[62],[1],[64],[59,61,63,65],[66],[67]]),(14,[[3],[],[72],[],[74],[1],[76],[71,73,75,77],[78],[79]]),(16,[[3],[],[84],[1],[86],[83,85,87],[88],[89]]),(17,[[10]]),(18,[[3],[],[94],[1],[96],[93,95,97],[98],[99]]),(20,[[],[102]]),(22,[[],[107]]),(23,[[],[],[110],[6],[112]]),(25,[[1],[115],[3],[4],[116,117,118],[119],[120]])],gh:=[(25,[.frz 101])] }

def c_authres_resultMethod:SFn:=⟨1,
 (.seq
 (.region [⟨some 2,.mv (.k (.str [])),none⟩] [0] [] [])
 (.seq
 (.region [⟨some 12,.mv (.t 0),none⟩] [12] [] [])
 (.block 0
 (.seq
 (.region [⟨some 13,.assert 8 .nilP true (.t 12),none⟩,⟨some 14,.extr (.t 13) 1,none⟩,⟨some 15,.extr (.t 13) 0,none⟩] [12,14,15] [] [])
 (.cond (.t 14)
 (.seq
 (.region [⟨some 3,.mv (.t 15),none⟩] [] [] [])
 (.seq
 (.region [⟨some 2,.mv (.k (.str [97,117,116,104])),none⟩] [2] [] [])
 .ret))
 (.seq
 (.region [⟨some 16,.assert 9 .nilP true (.t 12),none⟩,⟨some 17,.extr (.t 16) 1,none⟩,⟨some 18,.extr (.t 16) 0,none⟩] [12,17,18] [] [])
 (.cond (.t 17)
 (.seq
 (.region [⟨some 4,.mv (.t 18),none⟩] [] [] [])
 (.seq
 (.region [⟨some 2,.mv (.k (.str [100,107,105,109])),none⟩] [2] [] [])
 .ret))
 (.seq
 (.region [⟨some 19,.assert 10 .nilP true (.t 12),none⟩,⟨some 20,.extr (.t 19) 1,none⟩,⟨some 21,.extr (.t 19) 0,none⟩] [12,20,21] [] [])
 (.cond (.t 20)
 (.seq
 (.region [⟨some 5,.mv (.t 21),none⟩] [] [] [])
 (.seq
 (.region [⟨some 2,.mv (.k (.str [100,111,109,97,105,110,107,101,121,115])),none⟩] [2] [] [])
 .ret))
 (.seq
 (.region [⟨some 22,.assert 11 .nilP true (.t 12),none⟩,⟨some 23,.extr (.t 22) 1,none⟩,⟨some 24,.extr (.t 22) 0,none⟩] [12,23,24] [] [])
 (.cond (.t 23)
 (.seq
 (.region [⟨some 6,.mv (.t 24),none⟩] [] [] [])
 (.seq
 (.region [⟨some 2,.mv (.k (.str [105,112,114,101,118])),none⟩] [2] [] [])
 .ret))
 (.seq
 (.region [⟨some 25,.assert 12 .nilP true (.t 12),none⟩,⟨some 26,.extr (.t 25) 1,none⟩,⟨some 27,.extr (.t 25) 0,none⟩] [12,26,27] [] [])
 (.cond (.t 26)
 (.seq
 (.region [⟨some 7,.mv (.t 27),none⟩] [] [] [])
 (.seq
 (.region [⟨some 2,.mv (.k (.str [115,101,110,100,101,114,45,105,100])),none⟩] [2] [] [])
 .ret))
 (.seq
 (.region [⟨some 28,.assert 13 .nilP true (.t 12),none⟩,⟨some 29,.extr (.t 28) 1,none⟩,⟨some 30,.extr (.t 28) 0,none⟩] [12,29,30] [] [])
 (.cond (.t 29)
 (.seq
 (.region [⟨some 8,.mv (.t 30),none⟩] [] [] [])
 (.seq
 (.region [⟨some 2,.mv (.k (.str [115,112,102])),none⟩] [2] [] [])
 .ret))
 (.seq
 (.region [⟨some 31,.assert 14 .nilP true (.t 12),none⟩,⟨some 32,.extr (.t 31) 1,none⟩,⟨some 33,.extr (.t 31) 0,none⟩] [12,32,33] [] [])
 (.cond (.t 32)
 (.seq
 (.region [⟨some 9,.mv (.t 33),none⟩] [] [] [])
 (.seq
 (.region [⟨some 2,.mv (.k (.str [100,109,97,114,99])),none⟩] [2] [] [])
 .ret))
 (.seq
 (.region [⟨some 34,.assert 15 .nilP true (.t 12),none⟩,⟨some 35,.extr (.t 34) 1,none⟩,⟨some 36,.extr (.t 34) 0,none⟩] [12,35,36] [] [])
 (.cond (.t 35)
 (.seq
 (.region [⟨some 10,.mv (.t 36),none⟩] [10] [] [])
 (.seq
 (.region [⟨some 37,.mv (.t 10),none⟩,⟨some 38,.chk (.t 37),none⟩,⟨some 39,.fAddr 0 (.t 38),none⟩,⟨some 40,.load none (.t 39),none⟩,⟨some 2,.mv (.t 40),none⟩] [2] [] [[10],[37],[38],[39]])
 .ret))
 (.seq
 (.region [⟨some 11,.mv (.t 12),none⟩] [] [] [])
 (.seq
 (.region [⟨some 2,.mv (.k (.str [])),none⟩] [2] [] [])
 .ret))))))))))))))))))))),
 [.t 2]⟩

def l_authres_resultMethod:Lay:={ rg:=[(0,([0],[])),(1,([12],[])),(2,([],[])),(3,([2],[])),(4,([12,14,15],[])),(5,([],[])),(6,([2],[])),(7,([12,17,18],[])),(8,([],[])),(9,([2],[])),(10,([12,20,21],[])),(11,([],[])),(12,([2],[])),(13,([12,23,24],[])),(14,([],[])),(15,([2],[])),(16,([12,26,27],[])),(17,([],[])),(18,([2],[])),(19,([12,29,30],[])),(20,([],[])),(21,([2],[])),(22,([12,32,33],[])),(23,([],[])),(24,([2],[])),(25,([12,35,36],[])),(26,([10],[])),(27,([2],[]))],dd:=[(27,[[10],[37],[38],[39]])] }

def c_authres_AuthResult_format:SFn:=⟨1,
 (.seq
 (.region [⟨some 2,.mv (.k (.str [])),none⟩,⟨some 3,.mv (.k .nilM),none⟩] [0] [] [[2]])
 (.seq
 (.seq
 (.region [⟨some 4,.fl (.mv (.t 0)),none⟩,⟨some 5,.fl (.chk (.t 4)),none⟩,⟨some 6,.fl (.fAddr 0 (.t 5)),none⟩,⟨some 7,.fl (.load none (.t 6)),none⟩,⟨some 8,.mkMap,none⟩,⟨some 9,.fl (.mv (.t 0)),none⟩,⟨some 10,.fl (.chk (.t 9)),none⟩,⟨some 11,.fl (.fAddr 2 (.t 10)),none⟩,⟨some 12,.fl (.load none (.t 11)),none⟩,
 ⟨none,.mputD (.t 8) (.k (.str [115,109,116,112,46,97,117,116,104])) (.t 12),none⟩,⟨some 13,.mv (.t 8),none⟩,⟨some 2,.mv (.t 7),none⟩,⟨some 3,.mv (.t 13),none⟩] [2,3] [] [])
 (.ghost [.frz 8]))
 .ret)),
 [.t 2,.t 3]⟩

def l_authres_AuthResult_format:Lay:={ rg:=[(0,([0],[])),(1,([2,3],[]))],dd:=[(0,[[2]])],gh:=[(1,[.frz 8])],md:=[8],fl:=[4,5,6,7,9,10,11,12] }

def c_authres_DKIMResult_format:SFn:=⟨1,
 (.seq
 (.region [⟨some 2,.mv (.k (.str [])),none⟩,⟨some 3,.mv (.k .nilM),none⟩] [0] [] [[2]])
 (.seq
 (.seq
 (.region [⟨some 4,.fl (.mv (.t 0)),none⟩,⟨some 5,.fl (.chk (.t 4)),none⟩,⟨some 6,.fl (.fAddr 0 (.t 5)),none⟩,⟨some 7,.fl (.load none (.t 6)),none⟩,⟨some 8,.mkMap,none⟩,⟨some 9,.fl (.mv (.t 0)),none⟩,⟨some 10,.fl (.chk (.t 9)),none⟩,⟨some 11,.fl (.fAddr 1 (.t 10)),none⟩,⟨some 12,.fl (.load none (.t 11)),none⟩,
 ⟨none,.mputD (.t 8) (.k (.str [114,101,97,115,111,110])) (.t 12),none⟩,⟨some 13,.fl (.mv (.t 0)),none⟩,⟨some 14,.fl (.chk (.t 13)),none⟩,⟨some 15,.fl (.fAddr 2 (.t 14)),none⟩,⟨some 16,.fl (.load none (.t 15)),none⟩,
 ⟨none,.mputD (.t 8) (.k (.str [104,101,97,100,101,114,46,100])) (.t 16),none⟩,⟨some 17,.fl (.mv (.t 0)),none⟩,⟨some 18,.fl (.chk (.t 17)),none⟩,⟨some 19,.fl (.fAddr 3 (.t 18)),none⟩,⟨some 20,.fl (.load none (.t 19)),none⟩,
 ⟨none,.mputD (.t 8) (.k (.str [104,101,97,100,101,114,46,105])) (.t 20),none⟩,⟨some 21,.mv (.t 8),none⟩,⟨some 2,.mv (.t 7),none⟩,⟨some 3,.mv (.t 21),none⟩] [2,3] [] [])
 (.ghost [.frz 8]))
 .ret)),
 [.t 2,.t 3]⟩

def l_authres_DKIMResult_format:Lay:={ rg:=[(0,([0],[])),(1,([2,3],[]))],dd:=[(0,[[2]])],gh:=[(1,[.frz 8])],md:=[8],fl:=[4,5,6,7,9,10,11,12,13,14,15,16,17,18,19,20] }

def c_authres_DomainKeysResult_format:SFn:=⟨1,
 (.seq
 (.region [⟨some 2,.mv (.k (.str [])),none⟩,⟨some 3,.mv (.k .nilM),none⟩] [0] [] [[2]])
 (.seq
 (.seq
 (.region [⟨some 4,.fl (.mv (.t 0)),none⟩,⟨some 5,.fl (.chk (.t 4)),none⟩,⟨some 6,.fl (.fAddr 0 (.t 5)),none⟩,⟨some 7,.fl (.load none (.t 6)),none⟩,⟨some 8,.mkMap,none⟩,⟨some 9,.fl (.mv (.t 0)),none⟩,⟨some 10,.fl (.chk (.t 9)),none⟩,⟨some 11,.fl (.fAddr 1 (.t 10)),none⟩,⟨some 12,.fl (.load none (.t 11)),none⟩,
 ⟨none,.mputD (.t 8) (.k (.str [114,101,97,115,111,110])) (.t 12),none⟩,⟨some 13,.fl (.mv (.t 0)),none⟩,⟨some 14,.fl (.chk (.t 13)),none⟩,⟨some 15,.fl (.fAddr 2 (.t 14)),none⟩,⟨some 16,.fl (.load none (.t 15)),none⟩,
 ⟨none,.mputD (.t 8) (.k (.str [104,101,97,100,101,114,46,100])) (.t 16),none⟩,⟨some 17,.fl (.mv (.t 0)),none⟩,⟨some 18,.fl (.chk (.t 17)),none⟩,⟨some 19,.fl (.fAddr 3 (.t 18)),none⟩,⟨some 20,.fl (.load none (.t 19)),none⟩,
 ⟨none,.mputD (.t 8) (.k (.str [104,101,97,100,101,114,46,102,114,111,109])) (.t 20),none⟩,⟨some 21,.fl (.mv (.t 0)),none⟩,⟨some 22,.fl (.chk (.t 21)),none⟩,⟨some 23,.fl (.fAddr 4 (.t 22)),none⟩,⟨some 24,.fl (.load none (.t 23)),none⟩,
 ⟨none,.mputD (.t 8) (.k (.str [104,101,97,100,101,114,46,115,101,110,100,101,114])) (.t 24),none⟩,⟨some 25,.mv (.t 8),none⟩,⟨some 2,.mv (.t 7),none⟩,⟨some 3,.mv (.t 25),none⟩] [2,3] [] [])
 (.ghost [.frz 8]))
 .ret)),
 [.t 2,.t 3]⟩

def l_authres_DomainKeysResult_format:Lay:={ rg:=[(0,([0],[])),(1,([2,3],[]))],dd:=[(0,[[2]])],gh:=[(1,[.frz 8])],md:=[8],fl:=[4,5,6,7,9,10,11,12,13,14,15,16,17,18,19,20,21,22,23,24] }

def c_authres_IPRevResult_format:SFn:=⟨1,
 (.seq
 (.region [⟨some 2,.mv (.k (.str [])),none⟩,⟨some 3,.mv (.k .nilM),none⟩] [0] [] [[2]])
 (.seq
 (.seq
 (.region [⟨some 4,.fl (.mv (.t 0)),none⟩,⟨some 5,.fl (.chk (.t 4)),none⟩,⟨some 6,.fl (.fAddr 0 (.t 5)),none⟩,⟨some 7,.fl (.load none (.t 6)),none⟩,⟨some 8,.mkMap,none⟩,⟨some 9,.fl (.mv (.t 0)),none⟩,⟨some 10,.fl (.chk (.t 9)),none⟩,⟨some 11,.fl (.fAddr 1 (.t 10)),none⟩,⟨some 12,.fl (.load none (.t 11)),none⟩,
 ⟨none,.mputD (.t 8) (.k (.str [114,101,97,115,111,110])) (.t 12),none⟩,⟨some 13,.fl (.mv (.t 0)),none⟩,⟨some 14,.fl (.chk (.t 13)),none⟩,⟨some 15,.fl (.fAddr 2 (.t 14)),none⟩,⟨some 16,.fl (.load none (.t 15)),none⟩,
 ⟨none,.mputD (.t 8) (.k (.str [112,111,108,105,99,121,46,105,112,114,101,118])) (.t 16),none⟩,⟨some 17,.mv (.t 8),none⟩,⟨some 2,.mv (.t 7),none⟩,⟨some 3,.mv (.t 17),none⟩] [2,3] [] [])
 (.ghost [.frz 8]))
 .ret)),
 [.t 2,.t 3]⟩

def l_authres_IPRevResult_format:Lay:={ rg:=[(0,([0],[])),(1,([2,3],[]))],dd:=[(0,[[2]])],gh:=[(1,[.frz 8])],md:=[8],fl:=[4,5,6,7,9,10,11,12,13,14,15,16] }

def c_authres_SenderIDResult_format:SFn:=⟨1,
 (.seq
 (.region [⟨some 2,.mv (.k (.str [])),none⟩,⟨some 3,.mv (.k .nilM),none⟩] [0] [] [[2]])
 (.seq
 (.seq
 (.region [⟨some 4,.fl (.mv (.t 0)),none⟩,⟨some 5,.fl (.chk (.t 4)),none⟩,⟨some 6,.fl (.fAddr 0 (.t 5)),none⟩,⟨some 7,.fl (.load none (.t 6)),none⟩,⟨some 8,.mkMap,none⟩,⟨some 9,.fl (.mv (.t 0)),none⟩,⟨some 10,.fl (.chk (.t 9)),none⟩,⟨some 11,.fl (.fAddr 1 (.t 10)),none⟩,⟨some 12,.fl (.load none (.t 11)),none⟩,
 ⟨none,.mputD (.t 8) (.k (.str [114,101,97,115,111,110])) (.t 12),none⟩,⟨some 13,.fl (.mv (.t 0)),none⟩,⟨some 14,.fl (.chk (.t 13)),none⟩,⟨some 15,.fl (.fAddr 2 (.t 14)),none⟩,⟨some 16,.fl (.load none (.t 15)),none⟩,⟨some 17,.fl (.call 172 [(.t 16)]),none⟩,⟨some 18,.fl (.bin .add (.k (.str [104,101,97,100,101,114,46])) (.t 17)),none⟩,⟨some 19,.fl (.mv (.t 0)),none⟩,⟨some 20,.fl (.chk (.t 19)),none⟩,⟨some 21,.fl (.fAddr 3 (.t 20)),none⟩,⟨some 22,.fl (.load none (.t 21)),none⟩,
 ⟨none,.mputD (.t 8) (.t 18) (.t 22),none⟩,⟨some 23,.mv (.t 8),none⟩,⟨some 2,.mv (.t 7),none⟩,⟨some 3,.mv (.t 23),none⟩] [2,3] [] [])
 (.ghost [.frz 8]))
 .ret)),
 [.t 2,.t 3]⟩

def l_authres_SenderIDResult_format:Lay:={ rg:=[(0,([0],[])),(1,([2,3],[]))],dd:=[(0,[[2]])],gh:=[(1,[.frz 8])],md:=[8],fl:=[4,5,6,7,9,10,11,12,13,14,15,16,17,18,19,20,21,22] }

def c_authres_SPFResult_format:SFn:=⟨1,
 (.seq
 (.region [⟨some 2,.mv (.k (.str [])),none⟩,⟨some 3,.mv (.k .nilM),none⟩] [0] [] [[2]])
 (.seq
 (.seq
 (.region [⟨some 4,.fl (.mv (.t 0)),none⟩,⟨some 5,.fl (.chk (.t 4)),none⟩,⟨some 6,.fl (.fAddr 0 (.t 5)),none⟩,⟨some 7,.fl (.load none (.t 6)),none⟩,⟨some 8,.mkMap,none⟩,⟨some 9,.fl (.mv (.t 0)),none⟩,⟨some 10,.fl (.chk (.t 9)),none⟩,⟨some 11,.fl (.fAddr 1 (.t 10)),none⟩,⟨some 12,.fl (.load none (.t 11)),none⟩,
 ⟨none,.mputD (.t 8) (.k (.str [114,101,97,115,111,110])) (.t 12),none⟩,⟨some 13,.fl (.mv (.t 0)),none⟩,⟨some 14,.fl (.chk (.t 13)),none⟩,⟨some 15,.fl (.fAddr 2 (.t 14)),none⟩,⟨some 16,.fl (.load none (.t 15)),none⟩,
 ⟨none,.mputD (.t 8) (.k (.str [115,109,116,112,46,109,97,105,108,102,114,111,109])) (.t 16),none⟩,⟨some 17,.fl (.mv (.t 0)),none⟩,⟨some 18,.fl (.chk (.t 17)),none⟩,⟨some 19,.fl (.fAddr 3 (.t 18)),none⟩,⟨some 20,.fl (.load none (.t 19)),none⟩,
 ⟨none,.mputD (.t 8) (.k (.str [115,109,116,112,46,104,101,108,111])) (.t 20),none⟩,⟨some 21,.mv (.t 8),none⟩,⟨some 2,.mv (.t 7),none⟩,⟨some 3,.mv (.t 21),none⟩] [2,3] [] [])
 (.ghost [.frz 8]))
 .ret)),
 [.t 2,.t 3]⟩

def l_authres_SPFResult_format:Lay:={ rg:=[(0,([0],[])),(1,([2,3],[]))],dd:=[(0,[[2]])],gh:=[(1,[.frz 8])],md:=[8],fl:=[4,5,6,7,9,10,11,12,13,14,15,16,17,18,19,20] }

def c_authres_DMARCResult_format:SFn:=⟨1,
 (.seq
 (.region [⟨some 2,.mv (.k (.str [])),none⟩,⟨some 3,.mv (.k .nilM),none⟩] [0] [] [[2]])
 (.seq
 (.region [⟨some 4,.fl (.mv (.t 0)),none⟩,⟨some 5,.fl (.chk (.t 4)),none⟩,⟨some 6,.fl (.fAddr 0 (.t 5)),none⟩,⟨some 7,.fl (.load none (.t 6)),none⟩,⟨some 8,.mkMap,none⟩,⟨some 9,.fl (.mv (.t 0)),none⟩,⟨some 10,.fl (.chk (.t 9)),none⟩,⟨some 11,.fl (.fAddr 1 (.t 10)),none⟩,⟨some 12,.fl (.load none (.t 11)),none⟩,
 ⟨none,.mputD (.t 8) (.k (.str [114,101,97,115,111,110])) (.t 12),none⟩,⟨some 13,.fl (.mv (.t 0)),none⟩,⟨some 14,.fl (.chk (.t 13)),none⟩,⟨some 15,.fl (.fAddr 2 (.t 14)),none⟩,⟨some 16,.fl (.load none (.t 15)),none⟩,
 ⟨none,.mputD (.t 8) (.k (.str [104,101,97,100,101,114,46,102,114,111,109])) (.t 16),none⟩,⟨some 17,.mv (.t 8),none⟩,⟨some 2,.mv (.t 7),none⟩,⟨some 3,.mv (.t 17),none⟩] [2,3] [] [])
 .ret)),
 [.t 2,.t 3]⟩

def l_authres_DMARCResult_format:Lay:={ rg:=[(0,([0],[])),(1,([2,3],[]))],dd:=[(0,[[2]])],gh:=[(4,[.frz 19])],md:=[8],fl:=[4,5,6,7,9,10,11,12,13,14,15,16] }

def c_authres_GenericResult_format:SFn:=⟨1,
 (.seq
 (.region [⟨some 2,.mv (.k (.str [])),none⟩,⟨some 3,.mv (.k .nilM),none⟩] [0] [] [[2]])
 (.seq
 (.region [⟨some 4,.fl (.mv (.t 0)),none⟩,⟨some 5,.fl (.chk (.t 4)),none⟩,⟨some 6,.fl (.fAddr 1 (.t 5)),none⟩,⟨some 7,.fl (.load none (.t 6)),none⟩,⟨some 8,.fl (.mv (.t 0)),none⟩,⟨some 9,.fl (.chk (.t 8)),none⟩,⟨some 10,.fl (.fAddr 2 (.t 9)),none⟩,⟨some 11,.fl (.load none (.t 10)),none⟩,⟨some 2,.mv (.t 7),none⟩,⟨some 3,.mv (.t 11),none⟩] [2,3] [] [])
 .ret)),
 [.t 2,.t 3]⟩

def l_authres_GenericResult_format:Lay:={ rg:=[(0,([0],[])),(1,([2,3],[]))],dd:=[(0,[[2]])],fl:=[4,5,6,7,8,9,10,11] }

def b_authres_formatParams_1:SCode :=
 (.seq
 (.regM (some 15) (.t 14) [⟨some 16,.extr (.t 15) 0,none⟩] [0,3,14,16] [] [])
 (.seq
 (.cond (.t 16)
 .skip
 (.exit 0))
 (.block 1
 (.seq
 (.region [⟨some 17,.entry (.t 14),none⟩,⟨some 18,.extr (.t 17) 0,none⟩,⟨some 4,.mv (.t 18),none⟩] [0,3,4,14] [] [[],[17]])
 (.seq
 (.seq
 (.region [⟨some 19,.mv (.t 4),none⟩,⟨some 20,.bin .eql (.t 19) (.k (.str [114,101,97,115,111,110])),none⟩] [0,3,4,14,20] [] [])
 (.cond (.t 20)
 (.exit 1)
 .skip))
 (.region [⟨some 21,.mv (.t 3),none⟩,⟨some 22,.mv (.t 4),none⟩,⟨some 23,.mkSl 1 1 [(.str [])] [(0,(.t 22))],none⟩,⟨some 24,.app 1 16 (.t 21) (.t 23),none⟩,⟨some 3,.mv (.t 24),none⟩] [0,3,14] [23] [[],[4],[22],[21,23]]))))))

def b_authres_formatParams_2:SCode :=
 (.seq
 (.region [⟨some 36,.bin .lss (.t 35) (.t 34),none⟩] [0,5,6,33,34,35,36] [] [])
 (.seq
 (.cond (.t 36)
 .skip
 (.exit 2))
 (.seq
 (.block 3
 (.seq
 (.region [⟨some 37,.iAddr 1 (.t 33) (.t 35),none⟩,⟨some 38,.load none (.t 37),none⟩,⟨some 8,.mv (.t 38),none⟩] [0,5,6,8,33,34,35] [] [[],[37]])
 (.seq
 (.seq
 (.region [⟨some 39,.mv (.t 0),none⟩,⟨some 40,.mv (.t 8),none⟩,⟨some 41,.look (.str []) false (.t 39) (.t 40),none⟩,⟨some 42,.bin .eql (.t 41) (.k (.str [])),none⟩] [0,5,6,8,33,34,35,42] [] [[],[],[39,40]])
 (.cond (.t 42)
 (.exit 3)
 .skip))
 (.seq
 (.seq
 (.region [⟨some 43,.mv (.t 6),none⟩,⟨some 44,.bin .gtr (.t 43) (.k (.int .i64 0)),none⟩] [0,5,6,8,33,34,35,44] [] [])
 (.cond (.t 44)
 (.region [⟨some 45,.mv (.t 5),none⟩,⟨some 46,.bin .add (.t 45) (.k (.str [32])),none⟩,⟨some 5,.mv (.t 46),none⟩] [0,5,6,8,33,34,35] [] [[],[45]])
 .skip))
 (.seq
 (.region [⟨some 9,.mv (.k (.str [])),none⟩] [0,5,6,8,33,34,35] [] [])
 (.seq
 (.seq
 (.region [⟨some 47,.mv (.t 8),none⟩,⟨some 48,.bin .eql (.t 47) (.k (.str [114,101,97,115,111,110])),none⟩] [0,5,6,8,33,34,35,48] [] [])
 (.cond (.t 48)
 (.region [⟨some 49,.mv (.t 0),none⟩,⟨some 50,.mv (.t 8),none⟩,⟨some 51,.look (.str []) false (.t 49) (.t 50),none⟩,⟨some 52,.call 241 [(.t 51)],none⟩,⟨some 9,.mv (.t 52),none⟩] [0,5,6,8,9,33,34,35] [] [[],[],[49,50],[51]])
 (.region [⟨some 53,.mv (.t 0),none⟩,⟨some 54,.mv (.t 8),none⟩,⟨some 55,.look (.str []) false (.t 53) (.t 54),none⟩,⟨some 56,.call 242 [(.t 55)],none⟩,⟨some 9,.mv (.t 56),none⟩] [0,5,6,8,9,33,34,35] [] [[],[],[53,54],[55]])))
 (.seq
 (.region [⟨some 57,.mv (.t 5),none⟩,⟨some 58,.mv (.t 8),none⟩,⟨some 59,.bin .add (.t 58) (.k (.str [61])),none⟩,⟨some 60,.mv (.t 9),none⟩,⟨some 61,.bin .add (.t 59) (.t 60),none⟩,⟨some 62,.bin .add (.t 57) (.t 61),none⟩,⟨some 5,.mv (.t 62),none⟩] [0,5,6,33,34,35] [] [[],[8],[58],[9],[59,60],[57,61]])
 (.region [⟨some 63,.mv (.t 6),none⟩,⟨some 64,.bin .add (.t 63) (.k (.int .i64 1)),none⟩,⟨some 6,.mv (.t 64),none⟩] [0,5,6,33,34,35] [] [[],[63]]))))))))
 (.region [⟨some 65,.bin .add (.t 35) (.k (.int .i64 1)),none⟩,⟨some 35,.mv (.t 65),none⟩] [0,5,6,33,34,35] [] []))))

def t_authres_formatParams_3:SCode :=
 (.seq
 (.region [⟨some 66,.mv (.t 5),none⟩,⟨some 2,.mv (.t 66),none⟩] [2] [12,24,26,30,32,100026] [[5]])
 .ret)

def t_authres_formatParams_4:SCode :=
 (.seq
 (.region [⟨some 25,.mv (.t 3),none⟩,⟨some 26,.callS 240 [(.t 25)],none⟩] [0,3] [14] [])
 (.seq
 (.seq
 (.region [⟨some 27,.mv (.t 0),none⟩,⟨some 28,.look (.str []) false (.t 27) (.k (.str [114,101,97,115,111,110])),none⟩,⟨some 29,.bin .neq (.t 28) (.k (.str [])),none⟩] [0,3,29] [] [[],[27]])
 (.cond (.t 29)
 (.region [⟨some 30,.mkSl 1 1 [(.str [])] [(0,(.k (.str [114,101,97,115,111,110])))],none⟩,⟨some 31,.mv (.t 3),none⟩,⟨some 32,.app 1 16 (.t 30) (.t 31),none⟩,⟨some 3,.mv (.t 32),none⟩] [0,3] [] [[],[],[30,31]])
 .skip))
 (.seq
 (.region [⟨some 5,.mv (.k (.str [])),none⟩] [0,3,5] [] [])
 (.seq
 (.region [⟨some 6,.mv (.k (.int .i64 0)),none⟩] [0,3,5,6] [] [])
 (.seq
 (.seq
 (.region [⟨some 33,.mv (.t 3),none⟩,⟨some 34,.len 1 (.t 33),none⟩,⟨some 35,.mv (.k (.int .i64 0)),none⟩] [0,5,6,33,34,35] [] [[3]])
 (.block 2
 (.loop [0,5,6,33,34,35]
 b_authres_formatParams_2)))
 t_authres_formatParams_3)))))

def c_authres_formatParams:SFn:=⟨1,
 (.seq
 (.region [⟨some 2,.mv (.k (.str [])),none⟩] [0] [] [])
 (.seq
 (.region [⟨some 10,.mv (.t 0),none⟩,⟨some 11,.len 2 (.t 10),none⟩,⟨some 12,.mkSlice 1 16 [(.str [])] (.k (.int .i64 0)) (.t 11),none⟩,⟨some 3,.mv (.t 12),none⟩] [0,3] [] [[],[10],[11]])
 (.seq
 (.seq
 (.region [⟨some 13,.mv (.t 0),none⟩,⟨some 14,.rangeM (.t 13),none⟩] [0,3,14] [] [])
 (.block 0
 (.loop [0,3,14]
 b_authres_formatParams_1)))
 t_authres_formatParams_4))),
 [.t 2]⟩

def l_authres_formatParams:Lay:={ rg:=[(0,([0],[])),(1,([0,3],[])),(2,([0,3,14],[])),(3,([0,3,14,16],[])),(4,([0,3,4,14],[])),(5,([0,3,4,14,20],[])),(6,([0,3,14],[23])),(7,([0,3],[14])),(8,([0,3,29],[])),(9,([0,3],[])),(10,([0,3,5],[])),(11,([0,3,5,6],[])),(12,([0,5,6,33,34,35],[])),(13,([0,5,6,33,34,35,36],[])),(14,([0,5,6,8,33,34,35],[])),(15,([0,5,6,8,33,34,35,42],[])),(16,([0,5,6,8,33,34,35,44],[])),(17,([0,5,6,8,33,34,35],[])),(18,([0,5,6,8,33,34,35],[])),(19,([0,5,6,8,33,34,35,48],[])),(20,([0,5,6,8,9,33,34,35],[])),(21,([0,5,6,8,9,33,34,35],[])),(22,([0,5,6,33,34,35],[])),(23,([0,5,6,33,34,35],[])),(24,([0,5,6,33,34,35],[])),(25,([2],[12,24,26,30,32,100026])),(1000003,([0,3,14],[])),(1000013,([0,5,6,33,34,35],[]))],dd:=[(1,[[],[10],[11]]),(4,[[],[17]]),(6,[[],[4],[22],[21,23]]),(8,[[],[27]]),(9,[[],[],[30,31]]),(12,[[3]]),(14,[[],[37]]),(15,[[],[],[39,40]]),(17,[[],[45]]),(20,[[],[],[49,50],[51]]),(21,[[],[],[53,54],[55]]),(22,[[],[8],[58],[9],[59,60],[57,61]]),(23,[[],[63]]),(25,[[5]])],sf:=[240] }

def b_authres_formatValue_1:SCode :=
 (.seq
 (.region [⟨some 9,.nextS (.t 8),none⟩,⟨some 10,.extr (.t 9) 0,none⟩] [0,3,8,9,10] [] [])
 (.seq
 (.cond (.t 10)
 .skip
 (.exit 0))
 (.block 1
 (.seq
 (.region [⟨some 11,.extr (.t 9) 2,none⟩,⟨some 5,.mv (.t 11),none⟩] [0,3,5,8] [] [[9]])
 (.seq
 (.region [⟨some 12,.mv (.t 5),none⟩,⟨some 13,.call 243 [(.t 12)],none⟩,⟨some 6,.mv (.t 13),none⟩] [0,3,5,6,8] [] [[],[12]])
 (.seq
 (.region [⟨some 14,.mv (.t 5),none⟩,⟨some 15,.bin .leq (.t 14) (.k (.int .i32 32)),none⟩,⟨some 16,.mv (.t 15),none⟩,⟨some 17,.mv (.t 6),some (16,false)⟩,⟨some 18,.pick (.t 16) (.k (.bool true)) (.t 17),none⟩] [0,3,8,18] [] [[5],[14],[15],[6]])
 (.cond (.t 18)
 (.region [⟨some 3,.mv (.k (.bool true)),none⟩] [0,3,8] [] [])
 .skip)))))))

def t_authres_formatValue_2:SCode :=
 (.seq
 (.seq
 (.region [⟨some 19,.mv (.t 3),none⟩] [0,19] [8] [])
 (.cond (.t 19)
 (.seq
 (.region [⟨some 20,.mv (.t 0),none⟩,⟨some 21,.call 244 [(.t 20)],none⟩,⟨some 22,.bin .add (.k (.str [34])) (.t 21),none⟩,⟨some 23,.bin .add (.t 22) (.k (.str [34])),none⟩,⟨some 2,.mv (.t 23),none⟩] [2] [] [[0],[20],[21],[22]])
 .ret)
 .skip))
 (.seq
 (.region [⟨some 24,.mv (.t 0),none⟩,⟨some 2,.mv (.t 24),none⟩] [2] [] [[0]])
 .ret))

def c_authres_formatValue:SFn:=⟨1,
 (.seq
 (.region [⟨some 2,.mv (.k (.str [])),none⟩] [0] [] [])
 (.seq
 (.region [⟨some 3,.mv (.k (.bool false)),none⟩] [0,3] [] [])
 (.seq
 (.seq
 (.region [⟨some 7,.mv (.t 0),none⟩,⟨some 8,.rangeS (.t 7),none⟩] [0,3,8] [] [])
 (.block 0
 (.loop [0,3,8]
 b_authres_formatValue_1)))
 t_authres_formatValue_2))),
 [.t 2]⟩

def l_authres_formatValue:Lay:={ rg:=[(0,([0],[])),(1,([0,3],[])),(2,([0,3,8],[])),(3,([0,3,8,9,10],[])),(4,([0,3,5,8],[])),(5,([0,3,5,6,8],[])),(6,([0,3,8,18],[])),(7,([0,3,8],[])),(8,([0,19],[8])),(9,([2],[])),(10,([2],[])),(1000003,([0,3,8],[]))],dd:=[(4,[[9]]),(5,[[],[12]]),(6,[[5],[14],[15],[6]]),(9,[[0],[20],[21],[22]]),(10,[[0]])] }

def b_authres_formatPvalue_1:SCode :=
 (.seq
 (.region [⟨some 9,.nextS (.t 8),none⟩,⟨some 10,.extr (.t 9) 0,none⟩] [0,3,8,9,10] [] [])
 (.seq
 (.cond (.t 10)
 .skip
 (.exit 0))
 (.block 1
 (.seq
 (.region [⟨some 11,.extr (.t 9) 2,none⟩,⟨some 5,.mv (.t 11),none⟩] [0,3,5,8] [] [[9]])
 (.seq
 (.region [⟨some 12,.mv (.t 5),none⟩,⟨some 13,.call 245 [(.t 12)],none⟩,⟨some 6,.mv (.t 13),none⟩] [0,3,5,6,8] [] [[],[12]])
 (.seq
 (.region [⟨some 14,.mv (.t 5),none⟩,⟨some 15,.call 246 [(.t 14)],none⟩,⟨some 16,.un .not (.t 15),none⟩,⟨some 17,.mv (.t 16),none⟩,⟨some 18,.mv (.t 5),some (17,true)⟩,⟨some 19,.call 247 [(.t 18)],some (17,true)⟩,⟨some 20,.un .not (.t 19),some (17,true)⟩,⟨some 21,.pick (.t 17) (.t 20) (.k (.bool false)),none⟩,⟨some 22,.mv (.t 21),none⟩,⟨some 23,.mv (.t 6),some (22,true)⟩,⟨some 24,.un .not (.t 23),some (22,true)⟩,⟨some 25,.pick (.t 22) (.t 24) (.k (.bool false)),none⟩] [0,3,8,25] [] [[],[14],[15],[16],[5],[18],[19],[17,20],[21],[6],[23]])
 (.cond (.t 25)
 (.region [⟨some 3,.mv (.k (.bool false)),none⟩] [0,3,8] [] [])
 .skip)))))))

def t_authres_formatPvalue_2:SCode :=
 (.seq
 (.seq
 (.region [⟨some 26,.mv (.t 3),none⟩] [0,26] [8] [])
 (.cond (.t 26)
 (.seq
 (.region [⟨some 27,.mv (.t 0),none⟩,⟨some 2,.mv (.t 27),none⟩] [2] [] [[0]])
 .ret)
 .skip))
 (.seq
 (.region [⟨some 28,.mv (.t 0),none⟩,⟨some 29,.call 241 [(.t 28)],none⟩,⟨some 2,.mv (.t 29),none⟩] [2] [] [[0],[28]])
 .ret))

def c_authres_formatPvalue:SFn:=⟨1,
 (.seq
 (.region [⟨some 2,.mv (.k (.str [])),none⟩] [0] [] [])
 (.seq
 (.region [⟨some 3,.mv (.k (.bool true)),none⟩] [0,3] [] [])
 (.seq
 (.seq
 (.region [⟨some 7,.mv (.t 0),none⟩,⟨some 8,.rangeS (.t 7),none⟩] [0,3,8] [] [])
 (.block 0
 (.loop [0,3,8]
 b_authres_formatPvalue_1)))
 t_authres_formatPvalue_2))),
 [.t 2]⟩

def l_authres_formatPvalue:Lay:={ rg:=[(0,([0],[])),(1,([0,3],[])),(2,([0,3,8],[])),(3,([0,3,8,9,10],[])),(4,([0,3,5,8],[])),(5,([0,3,5,6,8],[])),(6,([0,3,8,25],[])),(7,([0,3,8],[])),(8,([0,26],[8])),(9,([2],[])),(10,([2],[])),(1000003,([0,3,8],[]))],dd:=[(4,[[9]]),(5,[[],[12]]),(6,[[],[14],[15],[16],[5],[18],[19],[17,20],[21],[6],[23]]),(9,[[0]]),(10,[[0],[28]])] }

def c_authres_tspecial:SFn:=⟨1,
 (.seq
 (.region [⟨some 2,.mv (.k (.bool false)),none⟩] [0] [] [])
 (.seq
 (.seq
 (.region [⟨some 3,.mv (.t 0),none⟩] [3] [] [])
 (.block 0
 (.seq
 (.seq
 (.region [⟨some 5,.bin .eql (.t 3) (.k (.int .i32 40)),none⟩,⟨some 4,.mv (.t 5),none⟩] [3,4] [] [])
 (.cond (.t 4)
 .skip
 (.seq
 (.region [⟨some 6,.bin .eql (.t 3) (.k (.int .i32 41)),none⟩,⟨some 4,.mv (.t 6),none⟩] [3,4] [] [])
 (.cond (.t 4)
 .skip
 (.seq
 (.region [⟨some 7,.bin .eql (.t 3) (.k (.int .i32 60)),none⟩,⟨some 4,.mv (.t 7),none⟩] [3,4] [] [])
 (.cond (.t 4)
 .skip
 (.seq
 (.region [⟨some 8,.bin .eql (.t 3) (.k (.int .i32 62)),none⟩,⟨some 4,.mv (.t 8),none⟩] [3,4] [] [])
 (.cond (.t 4)
 .skip
 (.seq
 (.region [⟨some 9,.bin .eql (.t 3) (.k (.int .i32 64)),none⟩,⟨some 4,.mv (.t 9),none⟩] [3,4] [] [])
 (.cond (.t 4)
 .skip
 (.seq
 (.region [⟨some 10,.bin .eql (.t 3) (.k (.int .i32 44)),none⟩,⟨some 4,.mv (.t 10),none⟩] [3,4] [] [])
 (.cond (.t 4)
 .skip
 (.seq
 (.region [⟨some 11,.bin .eql (.t 3) (.k (.int .i32 59)),none⟩,⟨some 4,.mv (.t 11),none⟩] [3,4] [] [])
 (.cond (.t 4)
 .skip
 (.seq
 (.region [⟨some 12,.bin .eql (.t 3) (.k (.int .i32 58)),none⟩,⟨some 4,.mv (.t 12),none⟩] [3,4] [] [])
 (.cond (.t 4)
 .skip
 (.seq
 (.region [⟨some 13,.bin .eql (.t 3) (.k (.int .i32 92)),none⟩,⟨some 4,.mv (.t 13),none⟩] [3,4] [] [])
 (.cond (.t 4)
 .skip
 (.seq
 (.region [⟨some 14,.bin .eql (.t 3) (.k (.int .i32 34)),none⟩,⟨some 4,.mv (.t 14),none⟩] [3,4] [] [])
 (.cond (.t 4)
 .skip
 (.seq
 (.region [⟨some 15,.bin .eql (.t 3) (.k (.int .i32 47)),none⟩,⟨some 4,.mv (.t 15),none⟩] [3,4] [] [])
 (.cond (.t 4)
 .skip
 (.seq
 (.region [⟨some 16,.bin .eql (.t 3) (.k (.int .i32 91)),none⟩,⟨some 4,.mv (.t 16),none⟩] [3,4] [] [])
 (.cond (.t 4)
 .skip
 (.seq
 (.region [⟨some 17,.bin .eql (.t 3) (.k (.int .i32 93)),none⟩,⟨some 4,.mv (.t 17),none⟩] [3,4] [] [])
 (.cond (.t 4)
 .skip
 (.seq
 (.region [⟨some 18,.bin .eql (.t 3) (.k (.int .i32 63)),none⟩,⟨some 4,.mv (.t 18),none⟩] [3,4] [] [])
 (.cond (.t 4)
 .skip
 (.region [⟨some 19,.bin .eql (.t 3) (.k (.int .i32 61)),none⟩,⟨some 4,.mv (.t 19),none⟩] [4] [] [[3]])))))))))))))))))))))))))))))
 (.cond (.t 4)
 (.seq
 (.region [⟨some 2,.mv (.k (.bool true)),none⟩] [2] [] [])
 .ret)
 .skip))))
 (.seq
 (.region [⟨some 2,.mv (.k (.bool false)),none⟩] [2] [] [])
 .ret))),
 [.t 2]⟩

def l_authres_tspecial:Lay:={ rg:=[(0,([0],[])),(1,([3],[])),(2,([3,4],[])),(3,([3,4],[])),(4,([3,4],[])),(5,([3,4],[])),(6,([3,4],[])),(7,([3,4],[])),(8,([3,4],[])),(9,([3,4],[])),(10,([3,4],[])),(11,([3,4],[])),(12,([3,4],[])),(13,([3,4],[])),(14,([3,4],[])),(15,([3,4],[])),(16,([4],[])),(17,([2],[])),(18,([2],[]))],dd:=[(16,[[3]])] }

def c_authres_addressOk:SFn:=⟨1,
 (.seq
 (.region [⟨some 2,.mv (.k (.bool false)),none⟩] [0] [] [])
 (.seq
 (.seq
 (.region [⟨some 3,.mv (.t 0),none⟩] [3] [] [])
 (.block 0
 (.seq
 (.seq
 (.region [⟨some 5,.bin .eql (.t 3) (.k (.int .i32 35)),none⟩,⟨some 4,.mv (.t 5),none⟩] [3,4] [] [])
 (.cond (.t 4)
 .skip
 (.seq
 (.region [⟨some 6,.bin .eql (.t 3) (.k (.int .i32 36)),none⟩,⟨some 4,.mv (.t 6),none⟩] [3,4] [] [])
 (.cond (.t 4)
 .skip
 (.seq
 (.region [⟨some 7,.bin .eql (.t 3) (.k (.int .i32 37)),none⟩,⟨some 4,.mv (.t 7),none⟩] [3,4] [] [])
 (.cond (.t 4)
 .skip
 (.seq
 (.region [⟨some 8,.bin .eql (.t 3) (.k (.int .i32 38)),none⟩,⟨some 4,.mv (.t 8),none⟩] [3,4] [] [])
 (.cond (.t 4)
 .skip
 (.seq
 (.region [⟨some 9,.bin .eql (.t 3) (.k (.int .i32 39)),none⟩,⟨some 4,.mv (.t 9),none⟩] [3,4] [] [])
 (.cond (.t 4)
 .skip
 (.seq
 (.region [⟨some 10,.bin .eql (.t 3) (.k (.int .i32 42)),none⟩,⟨some 4,.mv (.t 10),none⟩] [3,4] [] [])
 (.cond (.t 4)
 .skip
 (.seq
 (.region [⟨some 11,.bin .eql (.t 3) (.k (.int .i32 43)),none⟩,⟨some 4,.mv (.t 11),none⟩] [3,4] [] [])
 (.cond (.t 4)
 .skip
 (.seq
 (.region [⟨some 12,.bin .eql (.t 3) (.k (.int .i32 44)),none⟩,⟨some 4,.mv (.t 12),none⟩] [3,4] [] [])
 (.cond (.t 4)
 .skip
 (.seq
 (.region [⟨some 13,.bin .eql (.t 3) (.k (.int .i32 46)),none⟩,⟨some 4,.mv (.t 13),none⟩] [3,4] [] [])
 (.cond (.t 4)
 .skip
 (.seq
 (.region [⟨some 14,.bin .eql (.t 3) (.k (.int .i32 47)),none⟩,⟨some 4,.mv (.t 14),none⟩] [3,4] [] [])
 (.cond (.t 4)
 .skip
 (.seq
 (.region [⟨some 15,.bin .eql (.t 3) (.k (.int .i32 45)),none⟩,⟨some 4,.mv (.t 15),none⟩] [3,4] [] [])
 (.cond (.t 4)
 .skip
 (.seq
 (.region [⟨some 16,.bin .eql (.t 3) (.k (.int .i32 64)),none⟩,⟨some 4,.mv (.t 16),none⟩] [3,4] [] [])
 (.cond (.t 4)
 .skip
 (.seq
 (.region [⟨some 17,.bin .eql (.t 3) (.k (.int .i32 91)),none⟩,⟨some 4,.mv (.t 17),none⟩] [3,4] [] [])
 (.cond (.t 4)
 .skip
 (.seq
 (.region [⟨some 18,.bin .eql (.t 3) (.k (.int .i32 93)),none⟩,⟨some 4,.mv (.t 18),none⟩] [3,4] [] [])
 (.cond (.t 4)
 .skip
 (.seq
 (.region [⟨some 19,.bin .eql (.t 3) (.k (.int .i32 92)),none⟩,⟨some 4,.mv (.t 19),none⟩] [3,4] [] [])
 (.cond (.t 4)
 .skip
 (.seq
 (.region [⟨some 20,.bin .eql (.t 3) (.k (.int .i32 94)),none⟩,⟨some 4,.mv (.t 20),none⟩] [3,4] [] [])
 (.cond (.t 4)
 .skip
 (.seq
 (.region [⟨some 21,.bin .eql (.t 3) (.k (.int .i32 95)),none⟩,⟨some 4,.mv (.t 21),none⟩] [3,4] [] [])
 (.cond (.t 4)
 .skip
 (.seq
 (.region [⟨some 22,.bin .eql (.t 3) (.k (.int .i32 96)),none⟩,⟨some 4,.mv (.t 22),none⟩] [3,4] [] [])
 (.cond (.t 4)
 .skip
 (.seq
 (.region [⟨some 23,.bin .eql (.t 3) (.k (.int .i32 123)),none⟩,⟨some 4,.mv (.t 23),none⟩] [3,4] [] [])
 (.cond (.t 4)
 .skip
 (.seq
 (.region [⟨some 24,.bin .eql (.t 3) (.k (.int .i32 124)),none⟩,⟨some 4,.mv (.t 24),none⟩] [3,4] [] [])
 (.cond (.t 4)
 .skip
 (.seq
 (.region [⟨some 25,.bin .eql (.t 3) (.k (.int .i32 125)),none⟩,⟨some 4,.mv (.t 25),none⟩] [3,4] [] [])
 (.cond (.t 4)
 .skip
 (.region [⟨some 26,.bin .eql (.t 3) (.k (.int .i32 126)),none⟩,⟨some 4,.mv (.t 26),none⟩] [4] [] [[3]])))))))))))))))))))))))))))))))))))))))))))
 (.cond (.t 4)
 (.seq
 (.region [⟨some 2,.mv (.k (.bool true)),none⟩] [2] [] [])
 .ret)
 .skip))))
 (.seq
 (.region [⟨some 2,.mv (.k (.bool false)),none⟩] [2] [] [])
 .ret))),
 [.t 2]⟩

def l_authres_addressOk:Lay:={ rg:=[(0,([0],[])),(1,([3],[])),(2,([3,4],[])),(3,([3,4],[])),(4,([3,4],[])),(5,([3,4],[])),(6,([3,4],[])),(7,([3,4],[])),(8,([3,4],[])),(9,([3,4],[])),(10,([3,4],[])),(11,([3,4],[])),(12,([3,4],[])),(13,([3,4],[])),(14,([3,4],[])),(15,([3,4],[])),(16,([3,4],[])),(17,([3,4],[])),(18,([3,4],[])),(19,([3,4],[])),(20,([3,4],[])),(21,([3,4],[])),(22,([3,4],[])),(23,([4],[])),(24,([2],[])),(25,([2],[]))],dd:=[(23,[[3]])] }

def c_authres_zzIsLetter:SFn:=⟨1,
 (.seq
 (.region [⟨some 2,.mv (.k (.bool false)),none⟩] [0] [] [])
 (.seq
 (.block 0
 (.seq
 (.seq
 (.region [⟨some 4,.mv (.t 0),none⟩,⟨some 5,.bin .leq (.k (.int .i32 97)) (.t 4),none⟩,⟨some 6,.mv (.t 5),none⟩,⟨some 7,.mv (.t 0),some (6,true)⟩,⟨some 8,.bin .leq (.t 7) (.k (.int .i32 122)),some (6,true)⟩,⟨some 9,.pick (.t 6) (.t 8) (.k (.bool false)),none⟩,⟨some 3,.mv (.t 9),none⟩] [0,3] [] [[],[4],[5],[],[7],[6,8]])
 (.cond (.t 3)
 .skip
 (.seq
 (.region [⟨some 10,.mv (.t 0),none⟩,⟨some 11,.bin .leq (.k (.int .i32 65)) (.t 10),none⟩,⟨some 12,.mv (.t 11),none⟩,⟨some 13,.mv (.t 0),some (12,true)⟩,⟨some 14,.bin .leq (.t 13) (.k (.int .i32 90)),some (12,true)⟩,⟨some 15,.pick (.t 12) (.t 14) (.k (.bool false)),none⟩,⟨some 3,.mv (.t 15),none⟩] [0,3] [] [[],[10],[11],[],[13],[12,14]])
 (.cond (.t 3)
 .skip
 (.seq
 (.region [⟨some 16,.mv (.t 0),none⟩,⟨some 17,.bin .eql (.t 16) (.k (.int .i32 170)),none⟩,⟨some 3,.mv (.t 17),none⟩] [0,3] [] [[],[16]])
 (.cond (.t 3)
 .skip
 (.seq
 (.region [⟨some 18,.mv (.t 0),none⟩,⟨some 19,.bin .eql (.t 18) (.k (.int .i32 181)),none⟩,⟨some 3,.mv (.t 19),none⟩] [0,3] [] [[],[18]])
 (.cond (.t 3)
 .skip
 (.seq
 (.region [⟨some 20,.mv (.t 0),none⟩,⟨some 21,.bin .eql (.t 20) (.k (.int .i32 186)),none⟩,⟨some 3,.mv (.t 21),none⟩] [0,3] [] [[],[20]])
 (.cond (.t 3)
 .skip
 (.region [⟨some 22,.mv (.t 0),none⟩,⟨some 23,.bin .geq (.t 22) (.k (.int .i32 192)),none⟩,⟨some 24,.mv (.t 23),none⟩,⟨some 25,.mv (.t 0),some (24,true)⟩,⟨some 26,.bin .leq (.t 25) (.k (.int .i32 255)),some (24,true)⟩,⟨some 27,.pick (.t 24) (.t 26) (.k (.bool false)),none⟩,⟨some 28,.mv (.t 27),none⟩,⟨some 29,.mv (.t 0),some (28,true)⟩,⟨some 30,.bin .neq (.t 29) (.k (.int .i32 215)),some (28,true)⟩,⟨some 31,.pick (.t 28) (.t 30) (.k (.bool false)),none⟩,⟨some 32,.mv (.t 31),none⟩,⟨some 33,.mv (.t 0),some (32,true)⟩,⟨some 34,.bin .neq (.t 33) (.k (.int .i32 247)),some (32,true)⟩,⟨some 35,.pick (.t 32) (.t 34) (.k (.bool false)),none⟩,⟨some 3,.mv (.t 35),none⟩] [3] [] [[],[22],[23],[],[25],[24,26],[27],[],[29],[28,30],[31],[0],[33],[32,34]])))))))))))
 (.cond (.t 3)
 (.seq
 (.region [⟨some 2,.mv (.k (.bool true)),none⟩] [2] [] [])
 .ret)
 .skip)))
 (.seq
 (.region [⟨some 2,.mv (.k (.bool false)),none⟩] [2] [] [])
 .ret))),
 [.t 2]⟩

def l_authres_zzIsLetter:Lay:={ rg:=[(0,([0],[])),(1,([0,3],[])),(2,([0,3],[])),(3,([0,3],[])),(4,([0,3],[])),(5,([0,3],[])),(6,([3],[])),(7,([2],[])),(8,([2],[]))],dd:=[(1,[[],[4],[5],[],[7],[6,8]]),(2,[[],[10],[11],[],[13],[12,14]]),(3,[[],[16]]),(4,[[],[18]]),(5,[[],[20]]),(6,[[],[22],[23],[],[25],[24,26],[27],[],[29],[28,30],[31],[0],[33],[32,34]])] }

def c_authres_zzIsDigit:SFn:=⟨1,
 (.seq
 (.region [⟨some 2,.mv (.k (.bool false)),none⟩] [0] [] [])
 (.seq
 (.region [⟨some 3,.mv (.t 0),none⟩,⟨some 4,.bin .leq (.k (.int .i32 48)) (.t 3),none⟩,⟨some 5,.mv (.t 4),none⟩,⟨some 6,.mv (.t 0),some (5,true)⟩,⟨some 7,.bin .leq (.t 6) (.k (.int .i32 57)),some (5,true)⟩,⟨some 8,.pick (.t 5) (.t 7) (.k (.bool false)),none⟩,⟨some 2,.mv (.t 8),none⟩] [2] [] [[],[3],[4],[0],[6],[5,7]])
 .ret)),
 [.t 2]⟩

def l_authres_zzIsDigit:Lay:={ rg:=[(0,([0],[])),(1,([2],[]))],dd:=[(1,[[],[3],[4],[0],[6],[5,7]])] }

def c_authres_zzQuotes:SFn:=⟨1,
 (.seq
 (.region [⟨some 2,.mv (.k (.str [])),none⟩] [0] [] [])
 (.seq
 (.region [⟨some 3,.mv (.k .nilS),none⟩] [0,3] [] [])
 (.seq
 (.seq
 (.region [⟨some 4,.mv (.k (.int .i64 0)),none⟩] [0,3,4] [] [])
 (.block 0
 (.loop [0,3,4]
 (.seq
 (.seq
 (.region [⟨some 5,.mv (.t 4),none⟩,⟨some 6,.mv (.t 0),none⟩,⟨some 7,.len 0 (.t 6),none⟩,⟨some 8,.bin .lss (.t 5) (.t 7),none⟩] [0,3,4,8] [] [[],[],[6]])
 (.cond (.t 8)
 .skip
 (.exit 0)))
 (.seq
 (.block 1
 (.seq
 (.seq
 (.region [⟨some 11,.mv (.t 0),none⟩,⟨some 12,.mv (.t 4),none⟩,⟨some 13,.iStr (.t 11) (.t 12),none⟩,⟨some 14,.bin .eql (.t 13) (.k (.int .u8 34)),none⟩] [0,3,4,14] [] [[],[],[11,12]])
 (.cond (.t 14)
 (.region [⟨some 15,.mv (.t 3),none⟩,⟨some 16,.mkSl 1 1 [(.int .u8 0)] [(0,(.k (.int .u8 92)))],none⟩,⟨some 17,.app 1 1 (.t 15) (.t 16),none⟩,⟨some 3,.mv (.t 17),none⟩] [0,3,4] [16] [[],[],[15,16]])
 .skip))
 (.region [⟨some 18,.mv (.t 3),none⟩,⟨some 19,.mv (.t 0),none⟩,⟨some 20,.mv (.t 4),none⟩,⟨some 21,.iStr (.t 19) (.t 20),none⟩,⟨some 22,.mkSl 1 1 [(.int .u8 0)] [(0,(.t 21))],none⟩,⟨some 23,.app 1 1 (.t 18) (.t 22),none⟩,⟨some 3,.mv (.t 23),none⟩] [0,3,4] [22] [[],[],[],[19,20],[21],[18,22]])))
 (.region [⟨some 9,.mv (.t 4),none⟩,⟨some 10,.bin .add (.t 9) (.k (.int .i64 1)),none⟩,⟨some 4,.mv (.t 10),none⟩] [0,3,4] [] [[],[9]]))))))
 (.seq
 (.region [⟨some 24,.mv (.t 3),none⟩,⟨some 25,.cBytesStr (.t 24),none⟩,⟨some 2,.mv (.t 25),none⟩] [2] [17,23] [[3],[24]])
 .ret)))),
 [.t 2]⟩

def l_authres_zzQuotes:Lay:={ rg:=[(0,([0],[])),(1,([0,3],[])),(2,([0,3,4],[])),(3,([0,3,4,8],[])),(4,([0,3,4],[])),(5,([0,3,4,14],[])),(6,([0,3,4],[16])),(7,([0,3,4],[22])),(8,([2],[17,23])),(1000003,([0,3,4],[]))],dd:=[(3,[[],[],[6]]),(4,[[],[9]]),(5,[[],[],[11,12]]),(6,[[],[],[15,16]]),(7,[[],[],[],[19,20],[21],[18,22]]),(8,[[3],[24]])] }

def c_laws_FnAuthStable:SFn:=⟨1,
 (.seq
 (.region [⟨some 2,.mv (.k (.bool false)),none⟩] [0] [] [])
 (.seq
 (.seq
 (.region [⟨some 9,.mv (.t 0),none⟩,⟨some 10,.len 0 (.t 9),none⟩,⟨some 11,.bin .gtr (.t 10) (.k (.int .i64 2147483647)),none⟩] [0,11] [] [[],[9]])
 (.cond (.t 11)
 (.seq
 (.region [⟨some 2,.mv (.k (.bool true)),none⟩] [2] [] [])
 .ret)
 .skip))
 (.seq
 (.seq
 (.region [⟨some 12,.mv (.t 0),none⟩,⟨some 13,.len 0 (.t 12),none⟩,⟨some 14,.bin .gtr (.t 13) (.k (.int .i64 1000)),none⟩] [0,14] [] [[],[12]])
 (.cond (.t 14)
 (.seq
 (.region [⟨some 2,.mv (.k (.bool true)),none⟩] [2] [] [])
 .ret)
 .skip))
 (.seq
 (.region [⟨some 16,.mv (.t 0),none⟩,⟨some 17,.call 144 [(.t 16)],none⟩,⟨some 15,.mv (.t 17),none⟩,⟨some 18,.extr (.t 15) 0,none⟩,⟨some 19,.extr (.t 15) 1,none⟩,⟨some 20,.extr (.t 15) 2,none⟩,⟨some 3,.mv (.t 18),none⟩,⟨some 4,.mv (.t 19),none⟩,⟨some 5,.mv (.t 20),none⟩] [3,4,5] [] [[0],[16],[17],[],[],[15],[18],[19]])
 (.seq
 (.seq
 (.region [⟨some 21,.mv (.t 5),none⟩,⟨some 22,.un .not (.t 21),none⟩,⟨some 23,.mv (.t 22),none⟩,⟨some 24,.mv (.t 3),some (23,false)⟩,⟨some 25,.call 204 [(.t 24)],some (23,false)⟩,⟨some 26,.un .not (.t 25),some (23,false)⟩,⟨some 27,.pick (.t 23) (.k (.bool true)) (.t 26),none⟩,⟨some 28,.mv (.t 27),none⟩,⟨some 29,.mv (.t 4),some (28,false)⟩,⟨some 30,.call 215 [(.t 29)],some (28,false)⟩,⟨some 31,.un .not (.t 30),some (28,false)⟩,⟨some 32,.pick (.t 28) (.k (.bool true)) (.t 31),none⟩,⟨some 33,.mv (.t 32),none⟩,⟨some 34,.mv (.t 4),some (33,false)⟩,⟨some 35,.call 248 [(.t 34)],some (33,false)⟩,⟨some 36,.un .not (.t 35),some (33,false)⟩,⟨some 37,.pick (.t 33) (.k (.bool true)) (.t 36),none⟩] [3,4,37] [] [[5],[21],[22],[],[24],[25],[23,26],[27],[],[29],[30],[28,31],[32],[],[34],[35]])
 (.cond (.t 37)
 (.seq
 (.region [⟨some 38,.call 137 [],none⟩,⟨some 2,.mv (.t 38),none⟩] [2] [] [])
 .ret)
 .skip))
 (.seq
 (.region [⟨some 40,.mv (.t 3),none⟩,⟨some 41,.mv (.t 4),none⟩,⟨some 42,.call 233 [(.t 40),(.t 41)],none⟩,⟨some 43,.call 144 [(.t 42)],none⟩,⟨some 39,.mv (.t 43),none⟩,⟨some 44,.extr (.t 39) 0,none⟩,⟨some 45,.extr (.t 39) 1,none⟩,⟨some 46,.extr (.t 39) 2,none⟩,⟨some 6,.mv (.t 44),none⟩,⟨some 7,.mv (.t 45),none⟩,⟨some 8,.mv (.t 46),none⟩] [3,4,6,7,8] [] [[],[],[40,41],[42],[43],[],[],[39],[44],[45]])
 (.seq
 (.region [⟨some 47,.mv (.t 8),none⟩,⟨some 48,.mv (.t 47),none⟩,⟨some 49,.mv (.t 6),some (48,true)⟩,⟨some 50,.mv (.t 3),some (48,true)⟩,⟨some 51,.bin .eql (.t 49) (.t 50),some (48,true)⟩,⟨some 52,.pick (.t 48) (.t 51) (.k (.bool false)),none⟩,⟨some 53,.mv (.t 52),none⟩,⟨some 54,.mv (.t 7),some (53,true)⟩,⟨some 55,.mv (.t 4),some (53,true)⟩,⟨some 56,.call 217 [(.t 54),(.t 55)],some (53,true)⟩,⟨some 57,.pick (.t 53) (.t 56) (.k (.bool false)),none⟩,⟨some 58,.mv (.t 57),none⟩,⟨some 59,.call 137 [],some (58,true)⟩,⟨some 60,.pick (.t 58) (.t 59) (.k (.bool false)),none⟩,⟨some 2,.mv (.t 60),none⟩] [2] [] [[8],[47],[6],[3],[49,50],[48,51],[52],[7],[4],[54,55],[53,56],[57],[],[58,59]])
 .ret))))))),
 [.t 2]⟩

def l_laws_FnAuthStable:Lay:={ rg:=[(0,([0],[])),(1,([0,11],[])),(2,([2],[])),(3,([0,14],[])),(4,([2],[])),(5,([3,4,5],[])),(6,([3,4,37],[])),(7,([2],[])),(8,([3,4,6,7,8],[])),(9,([2],[]))],dd:=[(1,[[],[9]]),(3,[[],[12]]),(5,[[0],[16],[17],[],[],[15],[18],[19]]),(6,[[5],[21],[22],[],[24],[25],[23,26],[27],[],[29],[30],[28,31],[32],[],[34],[35]]),(8,[[],[],[40,41],[42],[43],[],[],[39],[44],[45]]),(9,[[8],[47],[6],[3],[49,50],[48,51],[52],[7],[4],[54,55],[53,56],[57],[],[58,59]])] }

def b_spec_AMute_1:SCode :=
 (.seq
 (.seq
 (.region [⟨some 30,.mv (.t 7),none⟩,⟨some 31,.fAddr 2 (.t 6),none⟩,⟨some 32,.load none (.t 31),none⟩,⟨some 33,.len 0 (.t 32),none⟩,⟨some 34,.bin .lss (.t 30) (.t 33),none⟩] [6,7,8,9,10,24,25,26,34] [] [[],[],[31],[32]])
 (.cond (.t 34)
 .skip
 (.exit 4)))
 (.seq
 (.block 5
 (.seq
 (.region [⟨some 37,.fAddr 2 (.t 6),none⟩,⟨some 38,.load none (.t 37),none⟩,⟨some 39,.mv (.t 7),none⟩,⟨some 40,.iStr (.t 38) (.t 39),none⟩,⟨some 41,.bin .eql (.t 40) (.k (.int .u8 33)),none⟩] [6,7,8,9,10,24,25,26,41] [] [[],[37],[],[38,39]])
 (.cond (.t 41)
 (.seq
 (.region [⟨some 2,.mv (.k (.bool false)),none⟩] [2] [6] [])
 .ret)
 .skip)))
 (.region [⟨some 35,.mv (.t 7),none⟩,⟨some 36,.bin .add (.t 35) (.k (.int .i64 1)),none⟩,⟨some 7,.mv (.t 36),none⟩] [6,7,8,9,10,24,25,26] [] [[],[35]])))

def t_spec_AMute_2:SCode :=
 (.region [⟨some 42,.bin .add (.t 26) (.k (.int .i64 1)),none⟩,⟨some 26,.mv (.t 42),none⟩] [8,9,10,24,25,26] [6] [])

def b_spec_AMute_3:SCode :=
 (.seq
 (.region [⟨some 27,.bin .lss (.t 26) (.t 25),none⟩] [8,9,10,24,25,26,27] [] [])
 (.seq
 (.cond (.t 27)
 .skip
 (.exit 2))
 (.seq
 (.block 3
 (.seq
 (.region [⟨some 28,.iAddr 3 (.t 24) (.t 26),none⟩,⟨some 29,.load (some 3) (.t 28),none⟩,⟨some 6,.alloc [(.str []),(.str []),(.str [])],none⟩,
 ⟨none,.store 3 (.t 6) (.t 29),none⟩] [6,8,9,10,24,25,26] [] [[],[28]])
 (.seq
 (.region [⟨some 7,.mv (.k (.int .i64 0)),none⟩] [6,7,8,9,10,24,25,26] [] [])
 (.block 4
 (.loop [6,7,8,9,10,24,25,26]
 b_spec_AMute_1)))))
 t_spec_AMute_2)))

def t_spec_AMute_4:SCode :=
 (.region [⟨some 43,.bin .add (.t 10) (.k (.int .i64 1)),none⟩,⟨some 10,.mv (.t 43),none⟩] [8,9,10] [] [])

def b_spec_AMute_5:SCode :=
 (.seq
 (.region [⟨some 11,.bin .lss (.t 10) (.t 9),none⟩] [8,9,10,11] [] [])
 (.seq
 (.cond (.t 11)
 .skip
 (.exit 0))
 (.seq
 (.block 1
 (.seq
 (.region [⟨some 12,.iAddr 16 (.t 8) (.t 10),none⟩,⟨some 13,.load (some 16) (.t 12),none⟩,⟨some 4,.alloc [(.int .i64 0),(.str []),(.str []),(.str []),(.str []),(.str []),(.str []),(.str []),(.str []),(.str []),(.str []),(.str []),(.str []),(.str []),(.int .i64 0),.nilS],none⟩,
 ⟨none,.store 16 (.t 4) (.t 13),none⟩] [4,8,9,10] [] [[],[12]])
 (.seq
 (.seq
 (.region [⟨some 14,.fAddr 0 (.t 4),none⟩,⟨some 15,.load none (.t 14),none⟩,⟨some 16,.bin .eql (.t 15) (.k (.int .i64 1)),none⟩,⟨some 17,.mv (.t 16),none⟩,⟨some 18,.fAddr 3 (.t 4),some (17,true)⟩,⟨some 19,.load none (.t 18),some (17,true)⟩,⟨some 20,.bin .neq (.t 19) (.k (.str [])),some (17,true)⟩,⟨some 21,.pick (.t 17) (.t 20) (.k (.bool false)),none⟩] [4,8,9,10,21] [] [[],[14],[15],[16],[],[18],[19]])
 (.cond (.t 21)
 (.seq
 (.region [⟨some 2,.mv (.k (.bool false)),none⟩] [2] [4] [])
 .ret)
 .skip))
 (.seq
 (.region [⟨some 22,.load (some 16) (.t 4),none⟩,⟨some 23,.call 206 [(.t 22)],none⟩,⟨some 24,.field 4 none (.t 23),none⟩,⟨some 25,.len 1 (.t 24),none⟩,⟨some 26,.mv (.k (.int .i64 0)),none⟩] [8,9,10,24,25,26] [4] [[4],[22],[23]])
 (.block 2
 (.loop [8,9,10,24,25,26]
 b_spec_AMute_3))))))
 t_spec_AMute_4)))

def t_spec_AMute_6:SCode :=
 (.seq
 (.region [⟨some 2,.mv (.k (.bool true)),none⟩] [2] [] [])
 .ret)

def c_spec_AMute:SFn:=⟨1,
 (.seq
 (.region [⟨some 2,.mv (.k (.bool false)),none⟩] [0] [] [])
 (.seq
 (.seq
 (.region [⟨some 8,.mv (.t 0),none⟩,⟨some 9,.len 1 (.t 8),none⟩,⟨some 10,.mv (.k (.int .i64 0)),none⟩] [8,9,10] [] [[0]])
 (.block 0
 (.loop [8,9,10]
 b_spec_AMute_5)))
 t_spec_AMute_6)),
 [.t 2]⟩

def l_spec_AMute:Lay:={ rg:=[(0,([0],[])),(1,([8,9,10],[])),(2,([8,9,10,11],[])),(3,([4,8,9,10],[])),(4,([4,8,9,10,21],[])),(5,([2],[4])),(6,([8,9,10,24,25,26],[4])),(7,([8,9,10,24,25,26,27],[])),(8,([6,8,9,10,24,25,26],[])),(9,([6,7,8,9,10,24,25,26],[])),(10,([6,7,8,9,10,24,25,26,34],[])),(11,([6,7,8,9,10,24,25,26],[])),(12,([6,7,8,9,10,24,25,26,41],[])),(13,([2],[6])),(14,([8,9,10,24,25,26],[6])),(15,([8,9,10],[])),(16,([2],[])),(1000002,([8,9,10],[])),(1000007,([8,9,10,24,25,26],[])),(1000010,([6,7,8,9,10,24,25,26],[]))],dd:=[(1,[[0]]),(3,[[],[12]]),(4,[[],[14],[15],[16],[],[18],[19]]),(6,[[4],[22],[23]]),(8,[[],[28]]),(10,[[],[],[31],[32]]),(11,[[],[35]]),(12,[[],[37],[],[38,39]])] }

end Wax


namespace Wax
open Go (IntKind)

def c_maps_Keys:SFn:=⟨1,
 (.seq
 (.region [⟨some 1,.boxF (.t 0),none⟩,⟨some 2,.mv (.k .nilF),none⟩] [1] [] [[0]])
 (.seq
 (.region [⟨some 3,.mkFn 55 [(.t 1)],none⟩,⟨some 2,.mv (.t 3),none⟩] [2] [] [[1]])
 .ret)),
 [.t 2]⟩

def l_maps_Keys:Lay:={ rg:=[(0,([1],[])),(1,([2],[]))],dd:=[(0,[[0]]),(1,[[1]])],fz:=[1] }

end Wax


namespace Wax
open Go Go.RowKit

def gam0 (ms:List (Nat × String × Nat)):Gam:=⟨fun _ _=>none,fun t name=>(ms.find? fun m=>m.1 == t && m.2.1 == name).map (·.2.2),fun _ _ _=>none⟩

def Gam.add (Γ:Gam) (g:Nat) (c:List AV→Option AV):Gam:=⟨fun h=>if h=g then c else Γ.fn h,Γ.mth,Γ.st⟩

def Gam.addS (Γ:Gam) (g:Nat) (c:List AV→List (Nat × AObj)→Option (AV × List (Nat × AObj))):Gam:=⟨Γ.fn,Γ.mth,fun h=>if h=g then c else Γ.st h⟩

@[simp] theorem add_fn_same {Γ:Gam} {g:Nat} {c:List AV→Option AV}:(Γ.add g c).fn g=c:=by simp [Gam.add]
theorem add_fn_other {Γ:Gam} {g h:Nat} {c:List AV→Option AV} (e:h ≠ g):(Γ.add g c).fn h=Γ.fn h:=by simp [Gam.add,e]
@[simp] theorem add_mth {Γ:Gam} {g:Nat} {c:List AV→Option AV}:(Γ.add g c).mth=Γ.mth:=rfl

@[simp] theorem add_st {Γ:Gam} {g:Nat} {c:List AV→Option AV}:(Γ.add g c).st=Γ.st:=rfl
@[simp] theorem addS_fn {Γ:Gam} {g:Nat} {c}:(Γ.addS g c).fn=Γ.fn:=rfl
@[simp] theorem addS_mth {Γ:Gam} {g:Nat} {c}:(Γ.addS g c).mth=Γ.mth:=rfl
@[simp] theorem addS_st_same {Γ:Gam} {g:Nat} {c}:(Γ.addS g c).st g=c:=by simp [Gam.addS]
theorem addS_st_other {Γ:Gam} {g h:Nat} {c} (e:h ≠ g):(Γ.addS g c).st h=Γ.st h:=by simp [Gam.addS,e]

def injB (l:List (Nat × Nat)):Bool:=l.all fun p=>l.all fun q=>p.2 != q.2 || p.1 == q.1

theorem lkN_mem:∀ {l:List (Nat × Nat)} {i v:Nat},lkN l i=some v→(i,v)∈l
  | (j,u)::r,i,v,h=>by
    simp only [lkN] at h
    split at h
    · rename_i e; simp at e h; subst e; subst h; simp
    · exact List.mem_cons_of_mem _ (lkN_mem h)

theorem injB_spec {l:List (Nat × Nat)} (h:injB l=true) {i j v:Nat} (hi:lkN l i=some v) (hj:lkN l j=some v):i=j:=by
  simp only [injB,List.all_eq_true] at h
  have:=h _ (lkN_mem hi) _ (lkN_mem hj)
  simpa using this

theorem tinj {T:Tab} (h:injB T.tys=true):TInj T:=fun _ _ _ ht hu=>injB_spec h ht hu

def mthB (P:Program) (t:TypeId) (name:String) (f:FuncId):Bool :=
  match P.info? t with
  | none=>false
  | some i=>match i.methods.find? (·.name == name) with
    | none=>false
    | some m=>m.path.size == 0 && (match m.func with
      | some (g,pr)=>g == f && (match P.underlying t with
        | some (.pointer _)=>pr
        | some _ => !pr
        | none=>false)
      | none=>false)

theorem mthB_spec {P:Program} {t:TypeId} {name:String} {f:FuncId} (h:mthB P t name f=true):MthOk P t name f:=by
  intro v w
  simp only [mthB] at h
  cases hi:P.info? t with
  | none=>simp [hi] at h
  | some i =>
    simp only [hi] at h
    cases hm:i.methods.find? (·.name == name) with
    | none=>simp [hm] at h
    | some m =>
      simp only [hm,Bool.and_eq_true,beq_iff_eq] at h
      obtain ⟨hp,h⟩:=h
      cases hf:m.func with
      | none=>simp [hf] at h
      | some gp =>
        obtain ⟨g,pr⟩:=gp
        simp only [hf,Bool.and_eq_true,beq_iff_eq] at h
        obtain ⟨rfl,h⟩:=h
        have hpl:m.path.toList=[]:=by
          have:m.path.toList.length=0:=by simpa using hp
          exact List.length_eq_zero_iff.1 this
        have hrec:∀ wr,(receiverAt t (.val v) pr wr).run P w=.ok v w:=by
          intro wr
          cases hu:P.underlying t with
          | none=>simp [hu] at h
          | some d =>
            simp only [hu] at h
            simp only [receiverAt,Sem.run_bind,rUnder hu,Result.andThen_ok]
            cases d <;> cases pr <;> simp at h <;> simp [Place.get]
        have e:P.types.size+Made.depth=(P.types.size+99)+1:=rfl
        rw [e]
        generalize P.types.size+99=fuel
        simp only [method,Sem.run_bind,rInfo hi,Result.andThen_ok,hm,hpl,follow,Sem.run_pure,hf,hrec]

theorem gam0_ok {P:Program} {T:Tab} {ms:List (Nat × String × Nat)} (h:∀ t g name q,lkN T.tys t=some g→(gam0 ms).mth g name=some q→∃ f,lkN T.fns f=some q∧MthOk P t name f):GamOk P T (gam0 ms) :=
  ⟨fun f g args r _ h=>by simp [gam0] at h,h,fun f g args hp q _ h=>by simp [gam0] at h⟩

def mthsB (P:Program) (T:Tab) (ms:List (Nat × String × Nat)):Bool :=
  T.tys.all fun tg=>ms.all fun m=>m.1 != tg.2 || T.fns.any fun fg=>fg.2 == m.2.2 && lkN T.fns fg.1 == some m.2.2 && mthB P tg.1 m.2.1 fg.1

theorem mthsB_spec {P:Program} {T:Tab} {ms:List (Nat × String × Nat)} (h:mthsB P T ms=true):GamOk P T (gam0 ms):=by
  refine gam0_ok ?_
  intro t g name q ht hm
  simp only [gam0,Option.map_eq_some_iff] at hm
  obtain ⟨m,hm,rfl⟩:=hm
  have h1:=List.mem_of_find?_eq_some hm
  have h2:=List.find?_some hm
  simp only [Bool.and_eq_true,beq_iff_eq] at h2
  simp only [mthsB,List.all_eq_true,List.any_eq_true] at h
  have h3:=h _ (lkN_mem ht) m h1
  simp only [Bool.or_eq_true,bne_iff_ne,ne_eq] at h3
  rcases h3 with h3 | h3
  · exact absurd h2.1 h3
  · simp only [List.any_eq_true,Bool.and_eq_true,beq_iff_eq] at h3
    obtain ⟨fg,_,⟨_,h5⟩,h6⟩:=h3
    exact ⟨fg.1,h5,by rw [← h2.2]; exact mthB_spec h6⟩

theorem GamOk.add {P:Program} {T:Tab} {Γ:Gam} (G:GamOk P T Γ) (hF:injB T.fns=true) {f g:Nat} (hf:lkN T.fns f=some g) (hb:hasBody P f=true) {c:List AV→Option AV} (h:∀ args r,c args=some r→OkCall P T f args r) :
    GamOk P T (Γ.add g c) where
  fn:=by
    intro f' g' args r hf' hc
    by_cases e:g'=g
    · subst e
      have:=injB_spec hF hf' hf; subst this
      rw [add_fn_same] at hc
      exact ⟨hb,h args r hc⟩
    · rw [add_fn_other e] at hc
      exact G.fn f' g' args r hf' hc
  mth:=G.mth
  st:=G.st

theorem GamOk.addS {P:Program} {T:Tab} {Γ:Gam} (G:GamOk P T Γ) (hF:injB T.fns=true) {f g:Nat} (hf:lkN T.fns f=some g) (hb:hasBody P f=true) {c:List AV→List (Nat × AObj)→Option (AV × List (Nat × AObj))} (h:∀ args hp q,c args hp=some q→OkS P T f args hp q.1 q.2) :
    GamOk P T (Γ.addS g c) where
  fn:=G.fn
  mth:=G.mth
  st:=by
    intro f' g' args hp q hf' hc
    by_cases e:g'=g
    · subst e
      have:=injB_spec hF hf' hf; subst this
      rw [addS_st_same] at hc
      exact ⟨hb,h args hp q hc⟩
    · rw [addS_st_other e] at hc
      exact G.st f' g' args hp q hf' hc

theorem GamOk.walk {P:Program} {T:Tab} {Γ:Gam} (G:GamOk P T Γ) (hT:injB T.tys=true) (hF:injB T.fns=true) {f g:Nat} (hf:lkN T.fns f=some g) (hb:hasBody P f=true) {L:Lay} {fn:Func} {sfn:SFn}
    (hfn:P.funcs[f]? = some fn) (hc:compFn P T L fn=some sfn) {c:List AV→Option AV} (h:∀ args r,c args=some r→runs Γ sfn args (fun v=>v=r)):GamOk P T (Γ.add g c) :=
  G.add hF hf hb fun args r hr=>fn_sound (tinj hT) G hfn hc (h args r hr)

theorem GamOk.walkS {P:Program} {T:Tab} {Γ:Gam} (G:GamOk P T Γ) (hT:injB T.tys=true) (hF:injB T.fns=true) {f g:Nat} (hf:lkN T.fns f=some g) (hb:hasBody P f=true) {L:Lay} {fn:Func} {sfn:SFn}
    (hfn:P.funcs[f]? = some fn) (hc:compFn P T L fn=some sfn) {c:List AV→List (Nat × AObj)→Option (AV × List (Nat × AObj))} (h:∀ args hp q,c args hp=some q→runsS Γ sfn args hp (fun v=>v=some q)):GamOk P T (Γ.addS g c) :=
  G.addS hF hf hb fun args hp q hr=>fnS_sound (tinj hT) G hfn hc (h args hp q hr)
end Wax


namespace Wax
open Go (IntKind)

section
theorem ite_some {α:Type} {p:Prop} [Decidable p] {a r:α} (h:(if p then some a else none)=some r):p∧a=r:=by
  by_cases e:p <;> simp [e] at h ⊢; exact h
@[simp] theorem bcA_nil:bcA []=[]:=rfl
@[simp] theorem bcA_cons {b:UInt8} {s:List UInt8}:bcA (b::s)=.int .u8 (b.toNat:Int)::bcA s:=rfl
@[simp] theorem bcA_app {s t:List UInt8}:bcA (s++t)=bcA s++bcA t:=by simp [bcA]
@[simp] theorem bcA_length {s:List UInt8}:(bcA s).length=s.length:=by simp [bcA]
@[simp] theorem bcA_get {s:List UInt8} {i:Nat}:(bcA s)[i]? = s[i]?.map fun b=>AV.int .u8 (b.toNat:Int):=by simp [bcA]
@[simp] theorem bcA_drop {s:List UInt8} {i:Nat}:(bcA s).drop i=bcA (s.drop i):=by simp [bcA,List.map_drop]
@[simp] theorem bcA_take {s:List UInt8} {i:Nat}:(bcA s).take i=bcA (s.take i):=by simp [bcA,List.map_take]
@[simp] theorem atoms_app {a b:List AV}:atoms (a++b)=(atoms a && atoms b):=by
  induction a with
  | nil=>simp
  | cons x r ih=>simp [ih,Bool.and_assoc]
@[simp] theorem atoms_bcA {s:List UInt8}:atoms (bcA s)=true:=by induction s <;> simp_all
@[simp] theorem killL_app {d:Nat} {a b:List AV}:killL d (a++b)=killL d a++killL d b:=by
  induction a with
  | nil=>simp
  | cons x r ih=>simp [ih]
@[simp] theorem killL_bcA {d:Nat} {s:List UInt8}:killL d (bcA s)=bcA s:=by induction s <;> simp_all
@[simp] theorem killL_length {d:Nat} {s:List AV}:(killL d s).length=s.length:=by induction s <;> simp_all
@[simp] theorem toBytes_bcA {s:List UInt8}:toBytes (bcA s)=some s:=by
  induction s with
  | nil=>rfl
  | cons b r ih=>simp [toBytes,ih]
@[simp] theorem loadC_drop {cs:List AV} {i:Nat}:loadC none (cs.drop i)=cs[i]?.bind fun c=>if atom c=true then some c else none:=by
  cases h:cs[i]? with
  | none =>
    have:cs.drop i=[]:=List.drop_eq_nil_of_le (by simpa using h)
    simp [this]
  | some c =>
    have hl:i < cs.length:=by
      rcases Nat.lt_or_ge i cs.length with h' | h'
      · exact h'
      · rw [List.getElem?_eq_none h'] at h; simp at h
    rw [List.drop_eq_getElem_cons hl]
    have:cs[i]=c:=by rw [List.getElem?_eq_getElem hl] at h; simpa using h
    simp [this]
@[simp] theorem spliceL_one {cs:List AV} {i:Nat} {x:AV}:spliceL cs i [x]=cs.set i x:=rfl
@[simp] theorem spliceL_nil {cs:List AV} {i:Nat}:spliceL cs i []=cs:=rfl
@[simp] theorem toBytes_nil:toBytes []=some []:=rfl
@[simp] theorem toBytes_byte {b:UInt8} {r:List AV}:toBytes (.int .u8 (b.toNat:Int)::r)=(toBytes r).map (b :: ·):=by
  simp [toBytes]
@[simp] theorem made_o2 {hp:List (Nat × AObj)} {d:Nat} {o:AObj} {v:AV}:made hp d o v=some (o2 hp d v o):=rfl
def outV (d:Nat) (out:List UInt8):AV:=match out with | []=>.nilS | _=>.msl d 1 0 out.length
def outH (d:Nat) (out:List UInt8):List (Nat × AObj):=match out with | []=>[] | _=>[(d,.cells (bcA out))]
@[simp] theorem outV_nil {d:Nat}:outV d []=.nilS:=rfl
@[simp] theorem outH_nil {d:Nat}:outH d []=[]:=rfl
theorem outV_ne {d:Nat} {out:List UInt8} (h:out ≠ []):outV d out=.msl d 1 0 out.length:=by cases out <;> first | exact absurd rfl h | rfl
theorem outH_ne {d:Nat} {out:List UInt8} (h:out ≠ []):outH d out=[(d,.cells (bcA out))]:=by cases out <;> first | exact absurd rfl h | rfl
@[simp] theorem toNat_ofNat {n:Nat}:(n:Int).toNat=n:=by simp
end
end Wax


namespace Wax
open Go (IntKind)

def big:Nat:=4611686018427387904

def isWs (n:Int):Bool:=decide (n=32∨n=9∨n=13∨n=10)

def cutAt (c:Int):List UInt8→Option (List UInt8 × List UInt8)
  | []=>none
  | x::r=>if (x.toNat:Int)=c then some ([],r) else (cutAt c r).map fun p=>(x::p.1,p.2)

def noB (c:Int) (s:List UInt8):Prop:=∀ x∈s,(x.toNat:Int) ≠ c

theorem cutAt_app (c:Int):∀ (pre post:List UInt8),noB c pre→cutAt c (pre++post)=(cutAt c post).map fun p=>(pre++p.1,p.2)
  | [],post,_=>by simp
  | x::r,post,h=>by
    have h1:(x.toNat:Int) ≠ c:=h x (by simp)
    have h2:noB c r:=fun y hy=>h y (by simp [hy])
    simp only [List.cons_append,cutAt,if_neg h1,cutAt_app c r post h2,Option.map_map]
    rfl

def cutV (c:Int) (s:List UInt8):AV :=
  match cutAt c s with
  | some p=>.tup [.str p.1,.str p.2,.bool true]
  | none=>.tup [.str s,.str [],.bool false]

def plainB (b:UInt8):Bool:=decide ((b.toNat:Int) < 128∧(b.toNat:Int) ≠ 11∧(b.toNat:Int) ≠ 12)
theorem plainB_true {b:UInt8} (h:(b.toNat:Int) < 128∧¬ (b.toNat:Int)=11∧¬ (b.toNat:Int)=12):plainB b=true:=decide_eq_true h
def trimL (s:List UInt8):List UInt8:=s.dropWhile fun b=>isWs b.toNat
def trimR (s:List UInt8):List UInt8:=(s.reverse.dropWhile fun b=>isWs b.toNat).reverse
def trimS (s:List UInt8):List UInt8:=trimR (trimL s)

def lowB (b:UInt8):UInt8:=if 65≤b.toNat∧b.toNat≤90 then b+32 else b

theorem lowB_toNat (b:UInt8):((lowB b).toNat:Int)=if 65≤(b.toNat:Int)∧(b.toNat:Int)≤90 then (b.toNat:Int)+32 else (b.toNat:Int):=by
  unfold lowB
  by_cases h:65≤b.toNat∧b.toNat≤90
  · rw [if_pos h,if_pos (by omega),UInt8.toNat_add]
    have:(32:UInt8).toNat=32:=rfl
    rw [this]; omega
  · rw [if_neg h,if_neg (by omega)]

def lowS (s:List UInt8):List UInt8:=s.map lowB

@[simp] theorem lowS_length {s:List UInt8}:(lowS s).length=s.length:=by simp [lowS]
@[simp] theorem lowS_nil:lowS []=[]:=rfl
@[simp] theorem lowS_app {s t:List UInt8}:lowS (s++t)=lowS s++lowS t:=by simp [lowS]
@[simp] theorem lowS_cons {b:UInt8} {s:List UInt8}:lowS (b::s)=lowB b::lowS s:=rfl

end Wax


namespace Wax
open Go (IntKind)

def mid:Nat:=1099511627776

end Wax


namespace Wax
open Go (IntKind)

def strsA (l:List (List UInt8)):List AV:=l.map .str

def asStrs:List AV→Option (List (List UInt8))
  | []=>some []
  | .str s::r=>(asStrs r).map (s :: ·)
  | _::_=>none

theorem asStrs_spec:∀ {xs:List AV} {l:List (List UInt8)},asStrs xs=some l→xs=strsA l
  | [],l,h=>by simp [asStrs] at h; subst h; rfl
  | .str s::r,l,h=>by
    simp only [asStrs] at h
    cases hr:asStrs r with
    | none=>simp [hr] at h
    | some q=>simp [hr] at h; subst h; rw [asStrs_spec hr]; rfl
  | .junk::_,_,h=>by simp [asStrs] at h
  | .bool _::_,_,h=>by simp [asStrs] at h
  | .int _ _::_,_,h=>by simp [asStrs] at h
  | .nilI::_,_,h=>by simp [asStrs] at h
  | .nilP::_,_,h=>by simp [asStrs] at h
  | .nilF::_,_,h=>by simp [asStrs] at h
  | .nilM::_,_,h=>by simp [asStrs] at h
  | .nilS::_,_,h=>by simp [asStrs] at h
  | .sl _ _::_,_,h=>by simp [asStrs] at h
  | .ptr _::_,_,h=>by simp [asStrs] at h
  | .agg _::_,_,h=>by simp [asStrs] at h
  | .tup _::_,_,h=>by simp [asStrs] at h
  | .ifc _ _::_,_,h=>by simp [asStrs] at h
  | .fn _ _::_,_,h=>by simp [asStrs] at h
  | .mp _::_,_,h=>by simp [asStrs] at h
  | .ref _ _::_,_,h=>by simp [asStrs] at h
  | .msl _ _ _ _::_,_,h=>by simp [asStrs] at h
  | .mref _::_,_,h=>by simp [asStrs] at h

@[simp] theorem strsA_length {l:List (List UInt8)}:(strsA l).length=l.length:=by simp [strsA]
@[simp] theorem strsA_get {l:List (List UInt8)} {i:Nat}:(strsA l)[i]? = l[i]?.map .str:=by simp [strsA]
@[simp] theorem asStrs_strsA {l:List (List UInt8)}:asStrs (strsA l)=some l:=by induction l <;> simp_all [strsA,asStrs]

def slStrs:AV→Option (List (List UInt8))
  | .nilS=>some []
  | .sl es xs=>if es=1 then asStrs xs else none
  | _=>none

theorem trimL_length (s:List UInt8):(trimL s).length≤s.length:=by
  unfold trimL
  exact (List.dropWhile_sublist _).length_le
theorem trimR_length (s:List UInt8):(trimR s).length≤s.length:=by
  unfold trimR
  have:=(List.dropWhile_sublist (fun b:UInt8=>isWs b.toNat) (l:=s.reverse)).length_le
  simpa using this
theorem trimS_length (s:List UInt8):(trimS s).length≤s.length:=Nat.le_trans (trimR_length _) (trimL_length _)

end Wax


namespace Wax
open Go (IntKind)

def findAt (sub:List UInt8):List UInt8→Nat→Option Nat
  | [],n=>if sub=[] then some n else none
  | x::r,n=>if sub.isPrefixOf (x::r) then some n else findAt sub r (n+1)

def idxV (sub s:List UInt8):Int:=match findAt sub s 0 with | some n=>(n:Int) | none => -1

def con_zzIndex:List AV→Option AV
  | [.str s,.str sub]=>if s.length < big∧sub.length < big then some (.int .i64 (idxV sub s)) else none
  | _=>none

theorem isPrefixOf_take (sub:List UInt8) (s:List UInt8) (h:sub.length≤s.length):sub.isPrefixOf s=decide (s.take sub.length=sub):=by
  induction sub generalizing s with
  | nil=>simp
  | cons a r ih =>
    cases s with
    | nil=>simp at h
    | cons b s =>
      simp at h
      simp only [List.isPrefixOf,ih s h,List.length_cons,List.take_succ_cons]
      by_cases e:a=b
      · subst e; simp
      · have e':¬ b=a:=fun x=>e x.symm
        simp [e,e']

theorem isPrefixOf_long (sub:List UInt8) (s:List UInt8) (h:s.length < sub.length):sub.isPrefixOf s=false:=by
  induction sub generalizing s with
  | nil=>simp at h
  | cons a r ih =>
    cases s with
    | nil=>simp [List.isPrefixOf]
    | cons b s =>
      simp at h
      simp [List.isPrefixOf,ih s h]

theorem findAt_none (sub:List UInt8):∀ (s:List UInt8) (n:Nat),s.length < sub.length→findAt sub s n=none
  | [],n,h=>by
    have:sub ≠ []:=by intro e; subst e; simp at h
    simp [findAt,this]
  | x::r,n,h=>by
    simp only [findAt,isPrefixOf_long sub (x::r) h,Bool.false_eq_true,if_false]
    exact findAt_none sub r (n+1) (by simp at h; omega)

theorem findAt_one (c:UInt8):∀ (s:List UInt8) (n:Nat),findAt [c] s n=(cutAt c.toNat s).map fun p=>n+p.1.length
  | [],n=>by simp [findAt,cutAt]
  | x::r,n=>by
    simp only [findAt,cutAt,List.isPrefixOf,Bool.and_true]
    by_cases e:x=c
    · subst e; simp
    · have e1:¬ (x.toNat:Int)=(c.toNat:Int):=fun h=>e (UInt8.toNat_inj.1 (by omega))
      have e2:(c == x)=false:=by simp; exact fun h=>e h.symm
      simp only [e2,Bool.false_eq_true,if_false,if_neg e1,findAt_one c r (n+1),Option.map_map]
      congr 1; funext p; simp; omega

theorem cutAt_eq {c:Int}:∀ {s a b:List UInt8},cutAt c s=some (a,b)→∃ x:UInt8,(x.toNat:Int)=c∧s=a++x::b∧noB c a
  | [],a,b,h=>by simp [cutAt] at h
  | x::r,a,b,h=>by
    simp only [cutAt] at h
    split at h
    · rename_i e; simp at h; obtain ⟨rfl,rfl⟩:=h; exact ⟨x,e,by simp,by simp [noB]⟩
    · rename_i e
      cases hr:cutAt c r with
      | none=>simp [hr] at h
      | some p =>
        simp [hr] at h
        obtain ⟨rfl,rfl⟩:=h
        obtain ⟨y,h1,h2,h3⟩:=cutAt_eq (a:=p.1) (b:=p.2) hr
        refine ⟨y,h1,by rw [h2]; simp,?_⟩
        intro z hz
        simp at hz
        rcases hz with rfl | hz
        · exact e
        · exact h3 z hz

def con_zzCut:List AV→Option AV
  | [.str s,.str [c]]=>if s.length < big then some (cutV c.toNat s) else none
  | _=>none

end Wax


namespace Wax
open Go (IntKind)

def ascii (s:List UInt8):Bool:=s.all fun b=>decide (b.toNat < 128)

theorem ascii_cons {x:UInt8} {s:List UInt8}:ascii (x::s)=(decide (x.toNat < 128) && ascii s):=rfl
theorem ascii_app {s t:List UInt8}:ascii (s++t)=(ascii s && ascii t):=by simp [ascii]

def con_zzToLower:List AV→Option AV
  | [.str s]=>if s.length < mid∧ascii s=true then some (.str (lowS s)) else none
  | _=>none

end Wax


namespace Wax
open Go (IntKind)

def isSp (n:Int):Bool:=decide ((9≤n∧n≤13)∨n=32)

def con_zzIsSpace:List AV→Option AV
  | [.int .i32 n]=>if n < 128 then some (.bool (isSp n)) else none
  | _=>none

def wordsGo:List UInt8→List UInt8→List (List UInt8)
  | cur,[]=>if cur=[] then [] else [cur]
  | cur,x::r=>if isWs x.toNat then (if cur=[] then wordsGo [] r else cur::wordsGo [] r) else wordsGo (cur++[x]) r
def wordsOf (s:List UInt8):List (List UInt8):=wordsGo [] s

def plain (s:List UInt8):Bool:=s.all plainB

def con_zzTrimSpace:List AV→Option AV
  | [.str s]=>if s.length < mid∧plain s=true then some (.str (trimS s)) else none
  | _=>none

theorem plain_ascii {s:List UInt8} (h:plain s=true):ascii s=true:=by
  simp only [plain,ascii,List.all_eq_true] at h ⊢
  intro b hb
  have:=of_decide_eq_true (h b hb)
  exact decide_eq_true (by omega)

end Wax


namespace Wax
open Go (IntKind)

theorem decR_ascii {x:UInt8} {r:List UInt8} (h:x.toNat < 128):decR (x::r)=(x.toNat,1):=by
  have e:(⟨(x::r).toArray⟩:ByteArray).get! 0=x:=by
    show (x::r).toArray[0]! = x
    simp
  simp [decR,Go.Utf8.decode,e,h]

theorem plainB_lt {x:UInt8} (h:plainB x=true):x.toNat < 128:=by
  have:=of_decide_eq_true h
  omega

theorem isSp_ws {x:UInt8} (h:plainB x=true):isSp x.toNat=isWs x.toNat:=by
  have:=of_decide_eq_true h
  unfold isSp isWs
  apply decide_eq_decide.2
  omega

theorem plain_app {s t:List UInt8}:plain (s++t)=(plain s && plain t):=by simp [plain]

theorem trimR_ws {c:List UInt8} {x:UInt8} (h:isWs x.toNat=true):trimR (c++[x])=trimR c:=by simp [trimR,h]
theorem trimR_nw {c:List UInt8} {x:UInt8} (h:isWs x.toNat=false):trimR (c++[x])=c++[x]:=by simp [trimR,h]

theorem trimR_prefix (c:List UInt8):∃ t,c=trimR c++t:=by
  obtain ⟨t,ht⟩:=List.dropWhile_suffix (fun b:UInt8=>isWs b.toNat) (l:=c.reverse)
  refine ⟨t.reverse,?_⟩
  have:=congrArg List.reverse ht
  simpa [trimR] using this.symm

theorem trimL_app {a b:List UInt8} (ha:∀ x∈a,isWs x.toNat=true):trimL (a++b)=trimL b:=by
  induction a with
  | nil=>rfl
  | cons x r ih =>
    have h1:=ha x (by simp)
    simp only [trimL,List.cons_append,List.dropWhile_cons,h1,if_true]
    exact ih fun y hy=>ha y (by simp [hy])

theorem trimL_nw {b:List UInt8} (hb:∀ x r,b=x::r→isWs x.toNat=false):trimL b=b:=by
  cases b with
  | nil=>rfl
  | cons x r=>simp [trimL,hb x r rfl]

def toV (n:Nat) (a c:List UInt8):Int:=if c=[] then (n:Int) else (a.length:Int)+((trimR c).length:Int)

end Wax


namespace Wax
open Go (IntKind)

theorem awp_loop2 {σ:Type} {Γ:Gam} {Q:APost} {st:St} {live:List Nat} {c:SCode} (f:σ→St) (ok:σ→Prop) (m:σ→Nat) (s0:σ) (h0:norm live st=f s0) (hok:ok s0)
    (hr:∀ s,ok s→∀ LQ:St→Prop,(∀ s',ok s'→m s' < m s→∀ st,norm live st=f s'→LQ st)→awp Γ c (thenQ LQ Q) (f s)):awp Γ (.loop live c) Q st:=by
  refine awp_loop f ok m s0 h0 hok fun s hs=>hr s hs _ ?_
  intro s' h1 h2 st h3
  exact ⟨s',h3,h1,h2⟩

@[simp] theorem reach_nil {hp:List (Nat × AObj)} {n:Nat} {acc:List Nat}:reach hp n [] acc=acc:=by cases n <;> rfl
theorem reach_succ {hp:List (Nat × AObj)} {n i:Nat} {r acc:List Nat}:reach hp (n+1) (i::r) acc=if acc.contains i then reach hp n r acc else reach hp n (r++(match hlk hp i with | some o=>refsO o | none=>[])) (acc++[i]):=rfl

def grV (d es n:Nat):AV:=match n with | 0=>.nilS | n+1=>.msl d es 0 (n+1)
def grH (d n:Nat) (cs:List AV):List (Nat × AObj):=match n with | 0=>[] | _+1=>[(d,.cells cs)]
@[simp] theorem grV_zero {d es:Nat}:grV d es 0=.nilS:=rfl
@[simp] theorem grH_zero {d:Nat} {cs:List AV}:grH d 0 cs=[]:=rfl
@[simp] theorem grV_succ {d es n:Nat}:grV d es (n+1)=.msl d es 0 (n+1):=rfl
@[simp] theorem grH_succ {d n:Nat} {cs:List AV}:grH d (n+1) cs=[(d,.cells cs)]:=rfl

@[simp] theorem strsA_nil:strsA []=[]:=rfl
@[simp] theorem strsA_cons {x:List UInt8} {l:List (List UInt8)}:strsA (x::l)=.str x::strsA l:=rfl
@[simp] theorem strsA_app {l m:List (List UInt8)}:strsA (l++m)=strsA l++strsA m:=by simp [strsA]
@[simp] theorem atoms_strsA {l:List (List UInt8)}:atoms (strsA l)=true:=by induction l <;> simp_all
@[simp] theorem killL_strsA {d:Nat} {l:List (List UInt8)}:killL d (strsA l)=strsA l:=by induction l <;> simp_all
@[simp] theorem hasRefL_strsA {l:List (List UInt8)}:hasRefL (strsA l)=false:=by induction l <;> simp_all
@[simp] theorem refsL_strsA {l:List (List UInt8)}:refsL (strsA l)=[]:=by induction l <;> simp_all
@[simp] theorem mapIdL_strsA {g:Nat→Nat} {l:List (List UInt8)}:mapIdL g (strsA l)=strsA l:=by induction l <;> simp_all
@[simp] theorem hasRefL_bcA {l:List UInt8}:hasRefL (bcA l)=false:=by induction l <;> simp_all
@[simp] theorem refsL_bcA {l:List UInt8}:refsL (bcA l)=[]:=by induction l <;> simp_all
@[simp] theorem mapIdL_bcA {g:Nat→Nat} {l:List UInt8}:mapIdL g (bcA l)=bcA l:=by induction l <;> simp_all
@[simp] theorem strsA_drop {l:List (List UInt8)} {i:Nat}:(strsA l).drop i=strsA (l.drop i):=by simp [strsA,List.map_drop]
@[simp] theorem strsA_take {l:List (List UInt8)} {i:Nat}:(strsA l).take i=strsA (l.take i):=by simp [strsA,List.map_take]
@[simp] theorem strsA_set {l:List (List UInt8)} {i:Nat} {x:List UInt8}:(strsA l).set i (.str x)=strsA (l.set i x):=by simp [strsA,List.map_set]
@[simp] theorem snapWL_strsA {g:AV→AV} {l:List (List UInt8)}:snapWL g (strsA l)=strsA l:=by induction l <;> simp_all
@[simp] theorem snapWL_bcA {g:AV→AV} {l:List UInt8}:snapWL g (bcA l)=bcA l:=by induction l <;> simp_all
@[simp] theorem map_snap_strsA {n:Nat} {hp:List (Nat × AObj)} {l:List (List UInt8)}:(strsA l).map (snap (n+1) hp)=strsA l:=by induction l <;> simp_all [snap]
@[simp] theorem map_snap_bcA {n:Nat} {hp:List (Nat × AObj)} {l:List UInt8}:(bcA l).map (snap (n+1) hp)=bcA l:=by induction l <;> simp_all [snap]

@[simp] theorem refsL_app {a b:List AV}:refsL (a++b)=refsL a++refsL b:=by induction a <;> simp_all
@[simp] theorem mapIdL_app {g:Nat→Nat} {a b:List AV}:mapIdL g (a++b)=mapIdL g a++mapIdL g b:=by induction a <;> simp_all
@[simp] theorem hasRefL_appB {a b:List AV}:hasRefL (a++b)=(hasRefL a || hasRefL b):=by induction a <;> simp_all [Bool.or_assoc]
@[simp] theorem snapWL_app {g:AV→AV} {a b:List AV}:snapWL g (a++b)=snapWL g a++snapWL g b:=by induction a <;> simp_all
@[simp] theorem map_snapW_strsA {g:AV→AV} {l:List (List UInt8)}:(strsA l).map (snapW g)=strsA l:=by induction l <;> simp_all
@[simp] theorem map_snapW_bcA {g:AV→AV} {l:List UInt8}:(bcA l).map (snapW g)=bcA l:=by induction l <;> simp_all
@[simp high] theorem aload_ref {hp:List (Nat × AObj)} {id off:Nat}:aload hp none (.ref id off)=(oCells (hlk hp id)).bind fun cs=>cs[off]?.bind fun c=>if atom c=true then some c else none:=by
  simp only [aload]
  cases hlk hp id with
  | none=>rfl
  | some o=>cases o <;> simp only [oCells,Option.bind_some,loadC_drop] <;> rfl
theorem get_mid {α:Type} {a b:List α} {x:α} {n:Nat} (h:a.length=n):(a++x::b)[n]? = some x:=by
  subst h; rw [List.getElem?_append_right (Nat.le_refl _)]; simp
theorem set_mid {α:Type} {a b:List α} {x y:α} {n:Nat} (h:a.length=n):(a++x::b).set n y=a++y::b:=by
  subst h; simp
@[simp] theorem spliceL_more {cs:List AV} {i:Nat} {x y:AV} {r:List AV}:spliceL cs i (x::y::r)=spliceL (cs.set i x) (i+1) (y::r):=rfl
@[simp] theorem killL_repl {d n:Nat} {v:AV}:killL d (List.replicate n v)=List.replicate n (kill d v):=by induction n <;> simp_all [List.replicate_succ]
@[simp] theorem refsL_repl {n:Nat} {v:AV} (h:refs v=[]):refsL (List.replicate n v)=[]:=by induction n <;> simp_all [List.replicate_succ]
@[simp] theorem mapIdL_repl {g:Nat→Nat} {n:Nat} {v:AV}:mapIdL g (List.replicate n v)=List.replicate n (mapId g v):=by induction n <;> simp_all [List.replicate_succ]
@[simp] theorem atoms_repl {n:Nat} {v:AV} (h:atom v=true):atoms (List.replicate n v)=true:=by induction n <;> simp_all [List.replicate_succ]
theorem xor_neg1 (n:Int):IntKind.i64.wrap ((BitVec.ofInt 64 (-1) ^^^ BitVec.ofInt 64 n).toNat:Int)=IntKind.i64.wrap (-n - 1):=by
  have e:BitVec.ofInt 64 (-1) ^^^ BitVec.ofInt 64 n = ~~~ BitVec.ofInt 64 n:=by
    have:BitVec.ofInt 64 (-1)=BitVec.allOnes 64:=by decide
    rw [this,BitVec.allOnes_xor]
  rw [e,BitVec.toNat_not,BitVec.toNat_ofInt,IntKind.wrap_i64,IntKind.wrap_i64]
  omega
@[simp high] theorem aun_xor64 {n:Int}:aun .xor (.int .i64 n)=some (.int .i64 (IntKind.i64.wrap (-n - 1))):=by
  have:=xor_neg1 n
  show some (AV.int .i64 (IntKind.i64.wrap ((BitVec.ofInt 64 (-1) ^^^ BitVec.ofInt 64 n).toNat:Int)))=_
  rw [this]
@[simp high] theorem aun_not {b:Bool}:aun .not (.bool b)=some (.bool (!b)):=rfl
@[simp high] theorem aun_neg {k:IntKind} {n:Int}:aun .neg (.int k n)=some (.int k (k.wrap (0 - n))):=rfl

section
variable {n:Nat} {hp:List (Nat × AObj)}
@[simp] theorem snap_junk:snap (n+1) hp .junk=.junk:=rfl
@[simp] theorem snap_bool {b}:snap (n+1) hp (.bool b)=.bool b:=rfl
@[simp] theorem snap_int {k m}:snap (n+1) hp (.int k m)=.int k m:=rfl
@[simp] theorem snap_str {s}:snap (n+1) hp (.str s)=.str s:=rfl
@[simp] theorem snap_nilI:snap (n+1) hp .nilI=.nilI:=rfl
@[simp] theorem snap_nilP:snap (n+1) hp .nilP=.nilP:=rfl
@[simp] theorem snap_nilF:snap (n+1) hp .nilF=.nilF:=rfl
@[simp] theorem snap_nilM:snap (n+1) hp .nilM=.nilM:=rfl
@[simp] theorem snap_nilS:snap (n+1) hp .nilS=.nilS:=rfl
@[simp] theorem snap_sl {e xs}:snap (n+1) hp (.sl e xs)=.sl e xs:=rfl
@[simp] theorem snap_ptr {cs}:snap (n+1) hp (.ptr cs)=.ptr cs:=rfl
@[simp] theorem snap_bx {cs}:snap (n+1) hp (.bx cs)=.bx cs:=rfl
@[simp] theorem snap_mp {es}:snap (n+1) hp (.mp es)=.mp es:=rfl
@[simp] theorem snap_ifc {t v}:snap (n+1) hp (.ifc t v)=.ifc t (snap (n+1) hp v):=rfl
theorem snapWL_map {g:AV→AV}:∀ l:List AV,snapWL g l=l.map (snapW g)
  | []=>rfl
  | x::r=>by simp [snapWL,snapWL_map r]
@[simp] theorem snap_agg {cs}:snap (n+1) hp (.agg cs)=.agg (cs.map (snap (n+1) hp)):=by
  show AV.agg (snapWL _ cs)=_
  rw [snapWL_map]; rfl
@[simp] theorem snap_tup {cs}:snap (n+1) hp (.tup cs)=.tup (cs.map (snap (n+1) hp)):=by
  show AV.tup (snapWL _ cs)=_
  rw [snapWL_map]; rfl
@[simp] theorem snap_fn {f cs}:snap (n+1) hp (.fn f cs)=.fn f (cs.map (snap (n+1) hp)):=by
  show AV.fn f (snapWL _ cs)=_
  rw [snapWL_map]; rfl
@[simp] theorem snap_ref {id off}:snap (n+1) hp (.ref id off)=match oCells (hlk hp id) with | some cs=>.ptr ((cs.drop off).map (snap n hp)) | none=>.junk:=by
  show resolveA (snap n hp) hp (.ref id off)=_
  simp only [resolveA]
  cases hlk hp id with
  | none=>rfl
  | some o=>cases o <;> rfl
@[simp] theorem snap_msl {id es off m}:snap (n+1) hp (.msl id es off m)=match oCells (hlk hp id) with | some cs=>if off+m * es≤cs.length∧atoms cs=true∧0 < es then .sl es (elems es m ((cs.drop off).map (snap n hp))) else .junk | none=>.junk:=by
  show resolveA (snap n hp) hp (.msl id es off m)=_
  simp only [resolveA]
  cases hlk hp id with
  | none=>rfl
  | some o=>cases o <;> rfl
@[simp] theorem snap_mref {id}:snap (n+1) hp (.mref id)=match oMp (hlk hp id) with | some es=>.mp es | none=>.junk:=by
  show resolveA (snap n hp) hp (.mref id)=_
  simp only [resolveA]
  cases hlk hp id with
  | none=>rfl
  | some o=>cases o <;> rfl
end
end Wax


namespace Wax
open Go (IntKind)

def splitB (b:UInt8):List UInt8→List (List UInt8)
  | []=>[[]]
  | x::r=>if x=b then []::splitB b r else match splitB b r with
    | []=>[[x]]
    | h::t=>(x::h)::t

theorem splitB_ne (b:UInt8) (s:List UInt8):splitB b s ≠ []:=by
  cases s with
  | nil=>simp [splitB]
  | cons x r=>simp only [splitB]; split; simp; split <;> simp

theorem splitB_cut (b:UInt8):∀ (s:List UInt8),splitB b s=match cutAt b.toNat s with | none=>[s] | some (a,c)=>a::splitB b c
  | []=>rfl
  | x::r=>by
    have ih:=splitB_cut b r
    simp only [splitB,cutAt]
    by_cases e:x=b
    · subst e; simp
    · have e1:¬ (x.toNat:Int)=(b.toNat:Int):=fun h=>e (UInt8.toNat_inj.1 (by omega))
      rw [if_neg e,if_neg e1,ih]
      cases cutAt b.toNat r with
      | none=>rfl
      | some p=>rfl

theorem splitB_length (b:UInt8):∀ (s:List UInt8),(splitB b s).length≤s.length+1
  | []=>by simp [splitB]
  | x::r=>by
    have ih:=splitB_length b r
    simp only [splitB]
    split
    · simp; omega
    · split
      · simp
      · rename_i h t e; rw [e] at ih; simp at ih ⊢; omega

theorem splitB_mem_length (b:UInt8):∀ (s p:List UInt8),p∈splitB b s→p.length≤s.length
  | [],p,h=>by simp [splitB] at h; subst h; simp
  | x::r,p,h=>by
    have ih:=splitB_mem_length b r
    simp only [splitB] at h
    split at h
    · rcases List.mem_cons.1 h with e | h
      · subst e; simp
      · have:=ih p h; simp; omega
    · split at h
      · simp at h; subst h; simp
      · rename_i hd t e
        rcases List.mem_cons.1 h with e' | h
        · subst e'
          have:=ih hd (by rw [e]; simp); simp; omega
        · have:=ih p (by rw [e]; simp [h]); simp; omega

def con_zzSplit:List AV→List (Nat × AObj)→Option (AV × List (Nat × AObj))
  | [.str s,.str [b]],[]=>if s.length < mid then some (.msl 0 1 0 (splitB b s).length,[(0,.cells (strsA (splitB b s)))]) else none
  | _,_=>none

end Wax


namespace Wax
open Go (IntKind)

theorem decA {x:UInt8} {r:List UInt8} (h:x.toNat < 128):decR (x::r)=(x.toNat,1):=by
  have e:(⟨(x::r).toArray⟩:ByteArray).get! 0=x:=by
    show (x::r).toArray[0]! = x
    simp
  simp [decR,Go.Utf8.decode,e,h]

theorem ascii_lt {x:UInt8} {s:List UInt8} (h:ascii (x::s)=true):x.toNat < 128∧ascii s=true:=by
  rw [ascii_cons] at h; simpa using h

end Wax


namespace Wax
open Go (IntKind)

theorem slStrs_cases {v:AV} {l:List (List UInt8)} (h:slStrs v=some l):(v=.nilS∧l=[])∨v=.sl 1 (strsA l):=by
  cases v <;> simp [slStrs] at h
  · left; exact ⟨rfl,h⟩
  · right; obtain ⟨e,h⟩:=h; rw [asStrs_spec h,e]

end Wax


namespace Wax
open Go (IntKind)

theorem cutAt_le {c:Int} {s:List UInt8} {p:List UInt8 × List UInt8} (h:cutAt c s=some p):p.1.length+p.2.length < s.length∧∃ x,s=p.1++x::p.2:=by
  obtain ⟨a,b⟩:=p
  obtain ⟨x,hx1,hx2,_⟩:=cutAt_eq h
  subst hx2
  simp

attribute [local simp] lowS_cons lowS_nil lowS_app
@[simp] theorem lowS_len {l:List UInt8}:(lowS l).length=l.length:=by simp [lowS]

end Wax


namespace Wax
open Go (IntKind)

theorem slf_alen {u:AV} {l:List (List UInt8)} (h:slStrs u=some l) (hp:List (Nat × AObj)):alen hp 1 u=some l.length:=by
  rcases slStrs_cases h with ⟨rfl,rfl⟩ | rfl <;> simp
theorem slf_ref {u:AV} {l:List (List UInt8)} (h:slStrs u=some l):hasRef u=false:=by
  rcases slStrs_cases h with ⟨rfl,rfl⟩ | rfl <;> simp
theorem slf_ne {u:AV} {l:List (List UInt8)} (h:slStrs u=some l) (hl:l ≠ []):u=.sl 1 (strsA l):=by
  rcases slStrs_cases h with ⟨rfl,rfl⟩ | rfl
  · exact absurd rfl hl
  · rfl

theorem plain_sub {s t:List UInt8} (h:∀ x∈t,x∈s) (hs:plain s=true):plain t=true:=by
  simp only [plain,List.all_eq_true] at hs ⊢
  exact fun x hx=>hs x (h x hx)

theorem trimS_sub {t:List UInt8}:∀ x∈trimS t,x∈t:=by
  intro x hx
  simp only [trimS,trimR,trimL,List.mem_reverse] at hx
  have:=(List.dropWhile_suffix _).mem hx
  rw [List.mem_reverse] at this
  exact (List.dropWhile_suffix _).mem this

end Wax


namespace Wax
open Go (IntKind)

def pr2 (l:List (List UInt8 × List UInt8)):List AV:=l.map fun p=>.agg [.str p.1,.str p.2]
def pc2 (l:List (List UInt8 × List UInt8)):List AV:=l.flatMap fun p=>[.str p.1,.str p.2]
@[simp] theorem pr2_nil:pr2 []=[]:=rfl
@[simp] theorem pr2_cons {x l}:pr2 (x::l)=.agg [.str x.1,.str x.2]::pr2 l:=rfl
@[simp] theorem pr2_app {l m}:pr2 (l++m)=pr2 l++pr2 m:=by simp [pr2]
@[simp] theorem pr2_length {l}:(pr2 l).length=l.length:=by simp [pr2]
@[simp] theorem pc2_nil:pc2 []=[]:=rfl
@[simp] theorem pc2_cons {x:List UInt8 × List UInt8} {l}:pc2 (x::l)=.str x.1::.str x.2::pc2 l:=rfl
@[simp] theorem pc2_app {l m}:pc2 (l++m)=pc2 l++pc2 m:=by simp [pc2]
@[simp] theorem pc2_length {l:List (List UInt8 × List UInt8)}:(pc2 l).length=l.length * 2:=by induction l <;> simp_all; omega
@[simp] theorem atoms_pc2 {l}:atoms (pc2 l)=true:=by induction l <;> simp_all
@[simp] theorem killL_pc2 {d l}:killL d (pc2 l)=pc2 l:=by induction l <;> simp_all
@[simp] theorem map_snap_pc2 {n:Nat} {hp:List (Nat × AObj)} {l}:(pc2 l).map (snap (n+1) hp)=pc2 l:=by induction l <;> simp_all
@[simp] theorem snapWL_pc2 {g:AV→AV} {l}:snapWL g (pc2 l)=pc2 l:=by induction l <;> simp_all
@[simp] theorem group_pc2:∀ {l:List (List UInt8 × List UInt8)},group 2 l.length (pc2 l)=pr2 l
  | []=>rfl
  | x::l=>by simp [group,group_pc2 (l:=l)]

def pairV (l:List (List UInt8 × List UInt8)):AV:=match l with | []=>.nilS | _=>.sl 2 (pr2 l)
def asPairs:List AV→Option (List (List UInt8 × List UInt8))
  | []=>some []
  | .agg [.str a,.str b]::r=>(asPairs r).map ((a,b) :: ·)
  | _::_=>none
theorem asPairs_pr2:∀ l,asPairs (pr2 l)=some l
  | []=>rfl
  | x::l=>by simp [asPairs,asPairs_pr2 l]
theorem asPairs_spec:∀ {xs l},asPairs xs=some l→xs=pr2 l
  | [],l,h=>by simp [asPairs] at h; subst h; rfl
  | v::r,l,h=>by
    unfold asPairs at h
    split at h
    · simp at h; rename_i e; simp at e
    · rename_i a b r' e
      simp at e; obtain ⟨rfl,rfl⟩:=e
      cases hr:asPairs r with
      | none=>rw [hr] at h; simp at h
      | some l'=>rw [hr] at h; simp at h; subst h; rw [asPairs_spec hr]; rfl
    · simp at h
end Wax


namespace Wax
open Go (IntKind)

@[simp] theorem pr2_get {l:List (List UInt8 × List UInt8)} {i:Nat}:(pr2 l)[i]? = l[i]?.map fun p=>AV.agg [.str p.1,.str p.2]:=by simp [pr2]

def half:Nat:=549755813888

end Wax


namespace Wax
open Go (IntKind)

def cutS (s:List UInt8) (p:Nat × Nat):List UInt8:=(s.take p.2).drop p.1

structure FF (s pre post:List UInt8) (sp:List (Nat × Nat)) (cur:List UInt8) (v:Int):Prop where
  cut:s=pre++post
  words:wordsOf s=sp.map (cutS s)++wordsGo cur post
  none:cur=[]→v < 0 ∧ -1099511627777 < v
  some:cur ≠ []→∃ p,pre=p++cur∧v=p.length
  ok:∀ p∈sp,p.1≤p.2∧p.2≤s.length
  len:sp.length≤pre.length

theorem FF.on {s pre post:List UInt8} {sp:List (Nat × Nat)} {cur:List UInt8} {v:Int} {x:UInt8} (h:FF s pre (x::post) sp cur v) (hw:isWs x.toNat=false) (hc:cur ≠ []):FF s (pre++[x]) post sp (cur++[x]) v:=by
  refine ⟨by rw [h.cut]; simp,?_,fun hn=>by simp at hn,fun _=>?_,h.ok,by have:=h.len; simp; omega⟩
  · have:=h.words
    simpa [wordsGo,hw] using this
  · obtain ⟨p,hp,hv⟩:=h.some hc
    exact ⟨p,by rw [hp]; simp,hv⟩

end Wax


namespace Wax
open Go (IntKind)

def con_errorsNew:List AV→Option AV
  | [.str s]=>some (.ifc 3 (.ptr [.str s]))
  | _=>none

theorem ok_errorsNew (Γ:Gam):∀ args r,con_errorsNew args=some r→runs Γ c_errors_New args (fun v=>v=r):=by
  intro args r h
  simp only [con_errorsNew] at h
  split at h <;> (try simp at h; done)
  injection h with h; subst h
  simp [c_errors_New]

def msgBad:List UInt8:=[100,107,105,109,58,32,109,97,108,102,111,114,109,101,100,32,104,101,97,100,101,114,32,112,97,114,97,109,115]
def msgTwice:List UInt8:=[100,107,105,109,58,32,100,117,112,108,105,99,97,116,101,32,116,97,103,32,110,97,109,101]

def pmA (l:List (List UInt8 × List UInt8)):List (List UInt8 × AV):=l.map fun p=>(p.1,.str p.2)
def hasK (k:List UInt8) (l:List (List UInt8 × List UInt8)):Bool:=l.any fun p=>decide (k=p.1)
def prm:List (List UInt8)→List (List UInt8 × List UInt8)→List (List UInt8 × List UInt8) × Option (List UInt8)
  | [],acc=>(acc,none)
  | p::r,acc=>match cutAt 61 p with
    | none=>if trimS p=[] then prm r acc else (acc,some msgBad)
    | some q=>if hasK (trimS q.1) acc=true then (acc,some msgTwice) else prm r (acc++[(trimS q.1,trimS q.2)])

theorem splitB_sub (b:UInt8):∀ (s p:List UInt8),p∈splitB b s→∀ y∈p,y∈s
  | [],p,h,y,hy=>by simp [splitB] at h; subst h; exact hy
  | x::r,p,h,y,hy=>by
    have ih:=splitB_sub b r
    simp only [splitB] at h
    split at h
    · rcases List.mem_cons.1 h with e | h
      · subst e; simp at hy
      · exact List.mem_cons_of_mem _ (ih p h y hy)
    · split at h
      · simp at h; subst h; simp at hy; subst hy; simp
      · rename_i hd t e
        rcases List.mem_cons.1 h with e' | h
        · subst e'
          rcases List.mem_cons.1 hy with e2 | hy
          · subst e2; simp
          · exact List.mem_cons_of_mem _ (ih hd (by rw [e]; simp) y hy)
        · exact List.mem_cons_of_mem _ (ih p (by rw [e]; simp [h]) y hy)
theorem splitB_plain (b:UInt8) (s p:List UInt8) (hs:plain s=true) (h:p∈splitB b s):plain p=true:=plain_sub (splitB_sub b s p h) hs

end Wax


namespace Wax
open Go (IntKind)

def nonWs (s:List UInt8):Prop:=∀ x∈s,isWs x.toNat=false
def allWs (s:List UInt8):Prop:=∀ x∈s,isWs x.toNat=true

theorem wordsGo_ws:∀ {b:List UInt8} (s:List UInt8),allWs b→wordsGo [] (b++s)=wordsGo [] s
  | [],s,_=>rfl
  | x::r,s,h=>by
    have h1:=h x (by simp)
    simp only [List.cons_append,wordsGo,h1,if_true]
    exact wordsGo_ws s fun y hy=>h y (by simp [hy])

theorem wordsGo_word:∀ {w:List UInt8} (cur s:List UInt8),nonWs w→wordsGo cur (w++s)=wordsGo (cur++w) s
  | [],cur,s,_=>by simp
  | x::r,cur,s,h=>by
    have h1:=h x (by simp)
    simp only [List.cons_append,wordsGo,h1,Bool.false_eq_true,if_false]
    rw [wordsGo_word _ s fun y hy=>h y (by simp [hy])]
    simp

theorem wordsGo_end {b cur s:List UInt8} (hc:cur ≠ []) (hb:b ≠ []) (hw:allWs b):wordsGo cur (b++s)=cur::wordsGo [] (b++s):=by
  cases b with
  | nil=>exact absurd rfl hb
  | cons x r =>
    have h1:=hw x (by simp)
    simp only [List.cons_append,wordsGo,h1,if_true,if_neg hc]

theorem trimS_word {n b:List UInt8} (hn:nonWs n) (hne:n ≠ []) (hb:allWs b):trimS (n++b)=n:=by
  have h1:trimL (n++b)=n++b:=by
    cases n with
    | nil=>exact absurd rfl hne
    | cons x r=>simp [trimL,hn x (by simp)]
  rw [trimS,h1,trimR,List.reverse_append,List.dropWhile_append_of_pos (by intro x hx; exact hb x (by simpa using hx))]
  have h2:n.reverse.dropWhile (fun b=>isWs b.toNat)=n.reverse:=by
    cases hr:n.reverse with
    | nil=>rfl
    | cons x r =>
      have:x∈n:=by rw [← List.mem_reverse,hr]; simp
      simp [hn x this]
  rw [h2,List.reverse_reverse]

theorem cutAt_noB {c:UInt8} {n r:List UInt8} (h:noB c.toNat n):cutAt c.toNat (n++c::r)=some (n,r):=by
  rw [cutAt_app _ _ _ h]; simp [cutAt]

end Wax


namespace Wax
open Go (IntKind)

abbrev L8:=List UInt8
abbrev KVp:=List UInt8 × List UInt8

def tokStop:L8:=[40,41,60,62,64,44,59,58,92,34,47,91,93,63,61]
def tokB (c:UInt8):Bool:=decide (32 < c.toNat) && decide (c.toNat < 127) && !tokStop.contains c
def mTok (s:L8):Bool:=s.all tokB && decide (s ≠ [])
def kwB (c:UInt8):Bool:=decide ((97≤c.toNat∧c.toNat≤122)∨(65≤c.toNat∧c.toNat≤90)∨(48≤c.toNat∧c.toNat≤57)∨c.toNat=45)
def mKw (s:L8):Bool:=s.all kwB && decide (s ≠ []) && decide (s.head? ≠ some 45) && decide (s.getLast? ≠ some 45)
def mDom (s:L8):Bool:=(splitB 46 s).all (fun p=>mKw p && decide (p.length≤63)) && decide (s.length≤253)
def digB (c:UInt8):Bool:=decide (48≤c.toNat∧c.toNat≤57)
def numW (n:Int) (s:L8):Int:=s.foldl (fun n c=>IntKind.i64.wrap (IntKind.i64.wrap (10 * n)+((c.toNat:Int) - 48))) n
def mNum (s:L8) (most:Int):Int × Bool:=if s.all digB=true then (numW 0 s,decide (s ≠ []) && decide ((s.length:Int)≤most)) else (0,false)

def sNone:L8:=[110,111,110,101]
def sQuar:L8:=[113,117,97,114,97,110,116,105,110,101]
def sReject:L8:=[114,101,106,101,99,116]
def polB (s:L8):Bool:=decide (s=sNone∨s=sQuar∨s=sReject)
def sMailto:L8:=[109,97,105,108,116,111,58]
def sKmgt:L8:=[107,109,103,116]
def s01ds:L8:=[48,49,100,115]
def sAfrf:L8:=[97,102,114,102]

def addrB (s:L8):Bool:=match cutAt 64 s with
  | some p=>mTok p.1 && mDom p.2
  | none=>false
def sizeOff (s:L8):L8:=match s.getLast? with
  | some c=>if sKmgt.contains c then s.dropLast else s
  | none=>s
def muri (s:L8):Bool:=decide (8≤s.length) && decide (s.take 7=sMailto) && (match cutAt 33 (s.drop 7) with
  | some p=>(mNum (sizeOff p.2) 9).2 && addrB p.1
  | none=>addrB (s.drop 7))

def kAdkim:L8:=[97,100,107,105,109]
def kAspf:L8:=[97,115,112,102]
def kFo:L8:=[102,111]
def kPct:L8:=[112,99,116]
def kRf:L8:=[114,102]
def kRi:L8:=[114,105]
def kRua:L8:=[114,117,97]
def kRuf:L8:=[114,117,102]
def kSp:L8:=[115,112]
def kP:L8:=[112]
def kV:L8:=[118]
def sDM:L8:=[68,77,65,82,67,49]
def sR:L8:=[114]
def sS:L8:=[115]

structure MR where
  adkim:L8
  aspf:L8
  fo:Int
  p:L8
  pct:Int
  has:Bool
  rf:Option (List L8)
  ri:Int
  rua:Option (List L8)
  ruf:Option (List L8)
  sp:L8
  deriving DecidableEq

def slO:Option (List L8)→AV
  | none=>.nilS
  | some l=>.sl 1 (strsA l)
def MR.cells (r:MR):List AV:=[.str r.adkim,.str r.aspf,.int .i64 r.fo,.str r.p,.int .i64 r.pct,.bool r.has,slO r.rf,.int .i64 r.ri,slO r.rua,slO r.ruf,.str r.sp]
def mr0:MR:=⟨[],[],0,[],0,false,none,0,none,none,[]⟩

def alignB (s:L8):Bool:=decide (s=sR∨s=sS)
def orI (x y:Int):Int:=IntKind.i64.wrap ((BitVec.ofInt 64 x ||| BitVec.ofInt 64 y).toNat:Int)
def foBit:L8→Int
  | [c]=>if c=48 then 1 else if c=49 then 2 else if c=100 then 4 else 8
  | _=>0
def foOk (s:L8):Bool:=match s with | [c]=>s01ds.contains c | _=>false
def foOf (l:List L8):Int:=l.foldl (fun n x=>orI n (foBit x)) 0
def mlist (b:UInt8) (right:L8→Bool) (s:L8):Option (List L8):=if (splitB b s).all right=true then some (splitB b s) else none

def mOk (t:KVp):Bool :=
  if t.1=kAdkim then alignB t.2 else if t.1=kAspf then alignB t.2 else if t.1=kP then polB t.2 else if t.1=kSp then polB t.2
  else if t.1=kFo then (mlist 58 foOk t.2).isSome
  else if t.1=kPct then (mNum t.2 3).2 && decide ((mNum t.2 3).1≤100)
  else if t.1=kRf then (mlist 58 (fun s=>decide (s=sAfrf)) t.2).isSome
  else if t.1=kRi then (mNum t.2 10).2 && decide (0 < (mNum t.2 10).1) && decide ((mNum t.2 10).1 < 4294967296)
  else if t.1=kRua then (mlist 44 muri t.2).isSome
  else if t.1=kRuf then (mlist 44 muri t.2).isSome
  else true

def mPut (r:MR) (t:KVp):MR :=
  if t.1=kAdkim then { r with adkim:=t.2 } else if t.1=kAspf then { r with aspf:=t.2 } else if t.1=kP then { r with p:=t.2 } else if t.1=kSp then { r with sp:=t.2 }
  else if t.1=kFo then { r with fo:=foOf ((mlist 58 foOk t.2).getD []) }
  else if t.1=kPct then { r with pct:=(mNum t.2 3).1,has:=true }
  else if t.1=kRf then { r with rf:=mlist 58 (fun s=>decide (s=sAfrf)) t.2 }
  else if t.1=kRi then { r with ri:=IntKind.i64.wrap ((mNum t.2 10).1 * 1000000000) }
  else if t.1=kRua then { r with rua:=mlist 44 muri t.2 }
  else if t.1=kRuf then { r with ruf:=mlist 44 muri t.2 }
  else r

def mKnown:List L8:=[kP,kAdkim,kAspf,kFo,kPct,kRf,kRi,kRua,kRuf,kSp]
def mSameAt (k:L8) (a b:MR):Bool :=
  if k=kAdkim then decide (a.adkim=b.adkim) else if k=kAspf then decide (a.aspf=b.aspf) else if k=kP then decide (a.p=b.p) else if k=kSp then decide (a.sp=b.sp)
  else if k=kFo then decide (a.fo=b.fo) else if k=kPct then a.has && decide (a.pct=b.pct) else if k=kRf then decide (a.rf.getD []=b.rf.getD []) else if k=kRi then decide (a.ri=b.ri)
  else if k=kRua then decide (a.rua.getD []=b.rua.getD []) else if k=kRuf then decide (a.ruf.getD []=b.ruf.getD []) else true
def mHas (r:MR) (l:List KVp):Bool:=l.all fun t=>mSameAt t.1 r (mPut mr0 t)
def psetL:List KVp→L8→L8→List KVp
  | [],k,v=>[(k,v)]
  | (i,u)::r,k,v=>if k=i then (k,v)::r else (i,u)::psetL r k v
theorem mset_pmA:∀ (l:List KVp) (k v:L8),mset (pmA l) k (.str v)=pmA (psetL l k v)
  | [],_,_=>rfl
  | (i,u)::r,k,v=>by
    have ih:=mset_pmA r k v
    simp only [pmA,List.map_cons,mset,psetL] at ih ⊢
    by_cases h:k=i
    · simp [h]
    · simp only [if_neg h,List.map_cons,ih]
theorem psetL_new:∀ {l:List KVp} {k v:L8},hasK k l=false→psetL l k v=l++[(k,v)]
  | [],_,_,_=>rfl
  | (i,u)::r,k,v,h=>by
    simp only [hasK,List.any_cons,Bool.or_eq_false_iff,decide_eq_false_iff_not] at h
    simp only [psetL,if_neg h.1,List.cons_append]
    rw [psetL_new (l:=r) h.2]

structure DR where
  dk:L8
  sp:L8
  fo:Int
  p:L8
  pct:Option Int
  rf:Option (List L8)
  ri:Int
  rua:Option (List L8)
  ruf:Option (List L8)
  sub:L8

def recM (r:DR):MR:=⟨r.dk,r.sp,r.fo,r.p,r.pct.getD 0,r.pct.isSome,if r.rf.getD []=[] then none else r.rf,IntKind.i64.wrap (r.ri * 1000000000),r.rua,r.ruf,r.sub⟩

def fobit2 (s:L8):Option Int:=if trimS s=[48] then some 1 else if trimS s=[49] then some 2 else if trimS s=[100] then some 4 else if trimS s=[115] then some 8 else none
def fo2:Int→List L8→Option Int
  | n,[]=>some n
  | n,x::r=>match fobit2 x with
    | some b=>fo2 (orI n b) r
    | none=>none
def uris (s:L8):List L8:=(splitB 44 s).map trimS
end Wax


namespace Wax
open Go (IntKind)

theorem ar_ok_zzIndex (Γ:Gam):∀ args r,con_zzIndex args=some r→runs Γ c_authres_zzIndex args (fun v=>v=r):=by
  intro args r h
  simp only [con_zzIndex] at h
  split at h <;> (try simp at h; done)
  rename_i s sub
  obtain ⟨⟨hs,hb⟩,rfl⟩:=ite_some h
  clear h
  simp only [big] at hs hb
  simp [c_authres_zzIndex]
  refine awp_loop (σ:=List UInt8 × List UInt8) (fun p=>⟨[(0,.str s),(1,.str sub),(5,.int .i64 p.1.length)],[]⟩) (fun p=>s=p.1++p.2∧findAt sub s 0=findAt sub p.2 p.1.length) (fun p=>p.2.length) ([],s) (by simp) (by simp) ?_
  rintro ⟨pre,post⟩ ⟨hs1,hs2⟩
  simp only at hs1 hs2
  subst hs1
  simp at hs
  simp (disch:=omega) [wrap64]
  refine ⟨fun hle=>?_,fun hlt=>?_⟩
  · have et:((pre.length:Int)+(sub.length:Int)).toNat=pre.length+sub.length:=by omega
    have e:List.drop pre.length (List.take (pre.length+sub.length) (pre++post))=post.take sub.length:=by
      rw [List.take_length_add_append,List.drop_left]
    rw [et,e]
    refine ⟨⟨by omega,hle⟩,fun h=>?_,fun h=>?_⟩
    · rw [idxV,hs2]
      cases post with
      | nil =>
        have:sub=[]:=by cases sub <;> simp at hle ⊢
        simp [findAt,this]
      | cons x post=>simp only [findAt,isPrefixOf_take sub (x::post) hle,h,decide_true,if_true]
    · cases post with
      | nil =>
        have:sub=[]:=by cases sub <;> simp at hle ⊢
        subst this; simp at h
      | cons x post =>
        refine ⟨(pre++[x],post),by simp,⟨by simp,?_⟩,by simp⟩
        rw [hs2]
        simp only [findAt,isPrefixOf_take sub (x::post) hle,h,decide_false,Bool.false_eq_true,if_false]
        simp
  · rw [idxV,hs2,findAt_none sub post _ (by omega)]


theorem ar_ok_zzCut (Γ:Gam) (h22:Γ.fn 169=con_zzIndex):∀ args r,con_zzCut args=some r→runs Γ c_authres_zzCut args (fun v=>v=r):=by
  intro args r h
  simp only [con_zzCut] at h
  split at h <;> (try simp at h; done)
  rename_i s c
  obtain ⟨hs,rfl⟩:=ite_some h
  clear h
  simp [c_authres_zzCut]
  have h1:1 < big:=by decide
  simp [acall,h22,con_zzIndex,hs,h1]
  simp only [big] at hs
  simp only [idxV,findAt_one]
  cases hc:cutAt c.toNat s with
  | none=>simp [cutV,hc]
  | some p =>
    obtain ⟨a,b⟩:=p
    obtain ⟨x,hx1,hx2,hx3⟩:=cutAt_eq hc
    subst hx2
    simp at hs
    simp (disch:=omega) [cutV,hc,wrap64]
    have e2:((a.length:Int)+1).toNat=a.length+1:=by omega
    omega

theorem ar_ok_zzSplit (Γ:Gam) (h22:Γ.fn 169=con_zzIndex):∀ args hp q,con_zzSplit args hp=some q→runsS Γ c_authres_zzSplit args hp (fun v=>v=some q):=by
  intro args hp q h
  simp only [con_zzSplit] at h
  split at h <;> (try simp at h; done)
  rename_i s b
  obtain ⟨hs,rfl⟩:=ite_some h
  clear h
  simp only [mid] at hs
  have h1:1 < big:=by decide
  simp [c_authres_zzSplit,t_authres_zzSplit_4]
  refine awp_loop2 (σ:=List (List UInt8) × List UInt8) (fun p=>⟨[(0,.str p.2),(1,.str [b]),(5,grV 51 1 p.1.length)],grH 51 p.1.length (strsA p.1)⟩)
    (fun p=>splitB b s=p.1++splitB b p.2∧p.1.length+p.2.length≤s.length) (fun p=>p.2.length) ([],s) (by simp) (by simp) ?_
  rintro ⟨done,cur⟩ ⟨hs1,hs2⟩ LQ hLQ
  simp only at hs1 hs2
  have hcb:cur.length < big:=by simp only [big]; omega
  simp [b_authres_zzSplit_3,acall,h22,con_zzIndex,hcb,h1]
  simp only [idxV,findAt_one]
  rw [splitB_cut b cur] at hs1
  cases hc:cutAt b.toNat cur with
  | none =>
    simp only [hc] at hs1
    rw [hs1]
    cases done with
    | nil=>simp [reach_succ]
    | cons d0 dr =>
      simp [reach_succ]
      simp at hs2
      omega
  | some p =>
    obtain ⟨a,c⟩:=p
    simp only [hc] at hs1
    obtain ⟨x,hx1,hx2,hx3⟩:=cutAt_eq hc
    subst hx2
    simp at hs2
    have fin:∀ st,norm [0,1,5] st=⟨[(0,.str c),(1,.str [b]),(5,grV 51 1 (done++[a]).length)],grH 51 (done++[a]).length (strsA (done++[a]))⟩→LQ st:=by
      intro st hst
      exact hLQ (done++[a],c) ⟨by simpa using hs1,by simp; omega⟩ (by simp; omega) st hst
    have e2:((a.length:Int)+1).toNat=a.length+1:=by omega
    cases done with
    | nil =>
      simp (disch:=omega) [wrap64]
      refine ⟨by omega,by omega,⟨by omega,by omega⟩,fin _ ?_⟩
      simp
    | cons d0 dr =>
      simp at hs2
      simp (disch:=omega) [wrap64]
      refine ⟨by omega,by omega,by omega,⟨by omega,by omega⟩,fin _ ?_⟩
      simp

theorem ar_ok_zzIsSpace (Γ:Gam):∀ args r,con_zzIsSpace args=some r→runs Γ c_authres_zzIsSpace args (fun v=>v=r):=by
  intro args r h
  simp only [con_zzIsSpace] at h
  split at h <;> (try simp at h; done)
  rename_i n
  obtain ⟨hn,rfl⟩:=ite_some h
  clear h
  have f1:¬ n=133:=by omega
  have f2:¬ n=160:=by omega
  have f3:¬ n=5760:=by omega
  have f4:¬ 8192≤n:=by omega
  have f5:¬ n=8232:=by omega
  have f6:¬ n=8233:=by omega
  have f7:¬ n=8239:=by omega
  have f8:¬ n=8287:=by omega
  have f9:¬ n=12288:=by omega
  have key:∀ b:Bool,((9≤n∧n≤13)∨n=32 ↔ b=true)→b=isSp n:=by
    intro b hb; unfold isSp; cases b <;> simp at hb ⊢ <;> omega
  by_cases h1:9≤n <;> by_cases h2:n≤13 <;> by_cases h3:n=32 <;>
    simp [c_authres_zzIsSpace,f1,f2,f3,f4,f5,f6,f7,f8,f9,h1,h2,h3] <;> first | rfl | exact decide_eq_true (by omega) | exact decide_eq_false (by omega)

theorem ar_trim_inner (Γ:Gam) (Q:APost) (S:List UInt8) (x:UInt8) (i n:Nat) (f t:Int) (hn:S.length=n) (hi:S[i]? = some x) (hx:x.toNat < 128) (hb:n < 1099511627776) (hib:i < 1099511627776)
    (h:Q (.exit 4) ⟨[(0,.str S),(3,.int .i64 f),(4,.int .i64 t),(7,.int .i64 i),(8,.int .i64 1),(54,.bool false)],[]⟩) :
    awp Γ b_authres_zzTrimSpace_2 Q ⟨[(0,.str S),(3,.int .i64 f),(4,.int .i64 t),(7,.int .i64 i),(8,.int .i64 1)],[]⟩:=by
  have e192:¬ (192:Int)≤(x.toNat:Int):=by omega
  have ew:IntKind.i64.wrap ((i:Int)+1)=(i:Int)+1:=wrap64 (by omega) (by omega)
  simp only [b_authres_zzTrimSpace_2,awp_seq]
  refine awp_region_to ⟨[(0,.str S),(3,.int .i64 f),(4,.int .i64 t),(7,.int .i64 i),(8,.int .i64 1),(54,.bool false)],[]⟩ ?_ ?_
  · by_cases hlast:(i:Int)+1 < (n:Int)
    · have h1:((i:Int)+1 < (n:Int))=True:=eq_true hlast
      simp (maxSteps:=1000000) [ew,hn,hi,e192,h1]
    · have h1:((i:Int)+1 < (n:Int))=False:=eq_false hlast
      simp (maxSteps:=1000000) [ew,hn,h1]
  · simpa using h

theorem ar_ok_zzToLower (Γ:Gam):∀ args r,con_zzToLower args=some r→runs Γ c_authres_zzToLower args (fun v=>v=r):=by
  intro args r h
  simp only [con_zzToLower] at h
  split at h <;> (try simp at h; done)
  rename_i s
  obtain ⟨⟨hs,ha⟩,rfl⟩:=ite_some h
  clear h
  simp only [mid] at hs
  simp [c_authres_zzToLower,b_authres_zzToLower_1,t_authres_zzToLower_2]
  refine awp_loop (σ:=List UInt8 × List UInt8 × Nat) (fun p=>⟨[(0,.str s),(3,outV p.2.2 (lowS p.1)),(4,.int .i64 p.1.length)],outH p.2.2 (lowS p.1)⟩)
    (fun p=>s=p.1++p.2.1∧(p.2.2=18∨p.2.2=31)) (fun p=>p.2.1.length) ([],s,18) (by simp) (by simp) ?_
  rintro ⟨pre,post,d⟩ ⟨hs1,hd⟩
  simp only at hs1 hd
  subst hs1
  cases post with
  | nil =>
    by_cases ho:pre=[]
    · subst ho; simp
    · have hne:lowS pre ≠ []:=by intro e; apply ho; simpa [lowS] using e
      have e:List.take pre.length (lowS pre)=lowS pre:=List.take_of_length_le (by simp)
      simp [outV_ne hne,outH_ne hne,e]
  | cons x post =>
    simp at hs
    have hx:x.toNat < 128:=by
      have:=(by simpa [ascii_app,ascii_cons] using ha:ascii pre=true∧x.toNat < 128∧ascii post=true)
      exact this.2.1
    have hl:=lowB_toNat x
    have step:∀ (n:Int) d',n=(lowB x).toNat→(d'=18∨d'=31) →
        loopQ [0,3,4] (fun p:List UInt8 × List UInt8 × Nat=>⟨[(0,.str (pre++x::post)),(3,outV p.2.2 (lowS p.1)),(4,.int .i64 p.1.length)],outH p.2.2 (lowS p.1)⟩)
          (fun p=>pre++x::post=p.1++p.2.1∧(p.2.2=18∨p.2.2=31)) (fun p=>p.2.1.length) (pre,x::post,d)
          ⟨[(0,.str (pre++x::post)),(3,.msl d' 1 0 (pre.length+1)),(4,.int .i64 (IntKind.i64.wrap (pre.length+1)))],[(d',.cells (bcA (lowS pre)++[.int .u8 n]))]⟩:=by
      intro n d' hn h1
      subst hn
      refine ⟨(pre++[x],post,d'),?_,⟨by simp,h1⟩,by simp⟩
      have e1:outV d' (lowS (pre++[x]))=.msl d' 1 0 (pre.length+1):=by rw [outV_ne (by simp)]; simp
      have e2:outH d' (lowS (pre++[x]))=[(d',.cells (bcA (lowS pre)++[.int .u8 (lowB x).toNat]))]:=by rw [outH_ne (by simp)]; simp
      simp (disch:=omega) only [e1,e2]
      simp (disch:=omega) [wrap64]
    generalize hl2:loopQ [0,3,4] (fun p:List UInt8 × List UInt8 × Nat=>(⟨[(0,.str (pre++x::post)),(3,outV p.2.2 (lowS p.1)),(4,.int .i64 p.1.length)],outH p.2.2 (lowS p.1)⟩:St))
          (fun p=>pre++x::post=p.1++p.2.1∧(p.2.2=18∨p.2.2=31)) (fun p=>p.2.1.length) (pre,x::post,d)=LQ at step ⊢
    clear hl2
    by_cases hlow:65≤(x.toNat:Int)∧(x.toNat:Int)≤90
    · obtain ⟨l1,l2⟩:=hlow
      rw [if_pos ⟨l1,l2⟩] at hl
      have w1:IntKind.u8.wrap ((x.toNat:Int)+97)=(x.toNat:Int)+97:=Go.IntWalk.u8_in _ ⟨by omega,by omega⟩
      have w2:IntKind.u8.wrap ((x.toNat:Int)+97 - 65)=(x.toNat:Int)+97 - 65:=Go.IntWalk.u8_in _ ⟨by omega,by omega⟩
      have st:=step ((x.toNat:Int)+97 - 65) 31 (by omega) (.inr rfl)
      have tk:List.take pre.length (lowS pre)=lowS pre:=List.take_of_length_le (by simp)
      by_cases ho:pre=[]
      · subst ho
        simp [w1,w2,l1,l2]
        simpa using st
      · have hne:lowS pre ≠ []:=by intro e; apply ho; simpa [lowS] using e
        rcases hd with rfl | rfl
        · simp [outV_ne hne,outH_ne hne,w1,w2,l1,l2,tk]
          exact ⟨fun _=>⟨by omega,st⟩,by omega⟩
        · simp [outV_ne hne,outH_ne hne,w1,w2,l1,l2,tk]
          exact ⟨fun _=>⟨by omega,st⟩,by omega⟩
    · rw [if_neg hlow] at hl
      have st:=step (x.toNat:Int) 18 (by omega) (.inl rfl)
      have tk:List.take pre.length (lowS pre)=lowS pre:=List.take_of_length_le (by simp)
      have hx226:¬ x=226:=by intro e; subst e; simp at hx
      have et:((pre.length:Int)+3).toNat=pre.length+3:=by omega
      have e3:List.drop pre.length (List.take (pre.length+3) (pre++x::post))=x::post.take 2:=by
        rw [List.take_length_add_append,List.drop_left]; rfl
      have ew:((pre.length:Int)+((post.length:Int)+1) - (pre.length:Int))=(post.length:Int)+1:=by omega
      have hcase:(¬ 65≤(x.toNat:Int))∨((65≤(x.toNat:Int))∧¬ (x.toNat:Int)≤90):=by omega
      have ewr:IntKind.i64.wrap ((pre.length:Int)+1)=(pre.length:Int)+1:=wrap64 (by omega) (by omega)
      rw [ewr] at st
      by_cases ho:pre=[]
      · subst ho
        simp at st e3
        rcases hcase with l1 | ⟨l1,l2⟩
        · simp [l1]
          simp (disch:=omega) [wrap64,l1,hx226,e3]
          exact ⟨fun h=>⟨h,st⟩,fun _=>st⟩
        · simp [l1,l2]
          simp (disch:=omega) [wrap64,l1,l2,hx226,e3]
          exact ⟨fun h=>⟨h,st⟩,fun _=>st⟩
      · have hne:lowS pre ≠ []:=by intro e; apply ho; simpa [lowS] using e
        rcases hcase with l1 | ⟨l1,l2⟩
        · rcases hd with rfl | rfl
          · simp [outV_ne hne,outH_ne hne,l1]
            simp (disch:=omega) [tk,wrap64,l1,hx226,et,e3,ew]
            exact ⟨fun _=>⟨fun h=>⟨⟨by omega,h⟩,by omega,st⟩,fun _=>⟨by omega,st⟩⟩,by omega⟩
          · simp [outV_ne hne,outH_ne hne,l1]
            simp (disch:=omega) [tk,wrap64,l1,hx226,et,e3,ew]
            exact ⟨fun _=>⟨fun h=>⟨⟨by omega,h⟩,by omega,st⟩,fun _=>⟨by omega,st⟩⟩,by omega⟩
        · rcases hd with rfl | rfl
          · simp [outV_ne hne,outH_ne hne,l1,l2]
            simp (disch:=omega) [tk,wrap64,l1,l2,hx226,et,e3,ew]
            exact ⟨fun _=>⟨fun h=>⟨⟨by omega,h⟩,by omega,st⟩,fun _=>⟨by omega,st⟩⟩,by omega⟩
          · simp [outV_ne hne,outH_ne hne,l1,l2]
            simp (disch:=omega) [tk,wrap64,l1,l2,hx226,et,e3,ew]
            exact ⟨fun _=>⟨fun h=>⟨⟨by omega,h⟩,by omega,st⟩,fun _=>⟨by omega,st⟩⟩,by omega⟩

theorem ar_trim_loop2 (Γ:Gam) (h23:Γ.fn 165=con_zzIsSpace) (a b:List UInt8) (hp:plain (a++b)=true) (hs:(a++b).length < 1099511627776) (ha:∀ x∈a,isWs x.toNat=true) (hb:∀ x r,b=x::r→isWs x.toNat=false) :
    awp Γ (.loop [0,3,4,7] b_authres_zzTrimSpace_4) (blockQ 2 (thenQ (awp Γ t_authres_zzTrimSpace_5 (finQ [.t 2] fun v=>v=.str (trimS (a++b)))) (finQ [.t 2] fun v=>v=.str (trimS (a++b)))))
      ⟨[(0,.str (a++b)),(3,.int .i64 a.length),(4,.int .i64 (a++b).length),(7,.int .i64 a.length)],[]⟩:=by
  have htrim:trimS (a++b)=trimR b:=by rw [trimS,trimL_app ha,trimL_nw hb]
  rw [htrim]
  refine awp_loop (σ:=List UInt8 × List UInt8) (fun p=>⟨[(0,.str (a++b)),(3,.int .i64 a.length),(4,.int .i64 (toV (a++b).length a p.1)),(7,.int .i64 (a.length+p.1.length))],[]⟩)
    (fun p=>b=p.1++p.2) (fun p=>p.2.length) ([],b) (by simp [toV]) (by simp) ?_
  rintro ⟨c,d⟩ hcd
  simp only at hcd
  subst hcd
  simp at hs
  cases d with
  | nil =>
    simp [b_authres_zzTrimSpace_4,t_authres_zzTrimSpace_5]
    refine ⟨fun h=>?_,fun h=>?_⟩
    · have:c=[]:=List.length_eq_zero_iff.1 (by omega)
      subst this; simp [trimR]
    · have hc:c ≠ []:=by intro e; subst e; simp at h
      obtain ⟨t,ht⟩:=trimR_prefix c
      have hl:(trimR c).length≤c.length:=trimR_length c
      have e1:toV (a.length+c.length) a c=(a.length:Int)+((trimR c).length:Int):=if_neg hc
      have e2:((a.length:Int)+((trimR c).length:Int)).toNat=a.length+(trimR c).length:=by omega
      rw [e1,e2]
      refine ⟨⟨by omega,by omega⟩,?_⟩
      rw [List.take_length_add_append,List.drop_left]
      generalize trimR c=q at ht ⊢
      subst ht; simp
  | cons x d =>
    have hpx:plainB x=true:=by
      have h1:(plain a && (plain c && plain (x::d)))=true:=by rw [← plain_app,← plain_app]; exact hp
      simp only [Bool.and_eq_true,plain,List.all_cons] at h1
      exact h1.2.2.1
    have hx:=plainB_lt hpx
    have hx2:(x.toNat:Int) < 128:=by omega
    have step:∀ v:Int,v=toV (a++(c++x::d)).length a (c++[x])→loopQ [0,3,4,7] (fun p:List UInt8 × List UInt8=>⟨[(0,.str (a++(c++x::d))),(3,.int .i64 a.length),(4,.int .i64 (toV (a++(c++x::d)).length a p.1)),(7,.int .i64 (a.length+p.1.length))],[]⟩)
        (fun p=>c++x::d=p.1++p.2) (fun p=>p.2.length) (c,x::d)
        ⟨[(0,.str (a++(c++x::d))),(3,.int .i64 a.length),(4,.int .i64 v),(7,.int .i64 (a.length+c.length+1))],[]⟩:=by
      intro v hv
      subst hv
      refine ⟨(c++[x],d),?_,by simp,by simp⟩
      have:((a.length:Int)+c.length+1)=(a.length:Int)+((c++[x]).length:Int):=by simp; omega
      rw [this]
      simp
    generalize hl:loopQ [0,3,4,7] (fun p:List UInt8 × List UInt8=>(⟨[(0,.str (a++(c++x::d))),(3,.int .i64 a.length),(4,.int .i64 (toV (a++(c++x::d)).length a p.1)),(7,.int .i64 (a.length+p.1.length))],[]⟩:St))
        (fun p=>c++x::d=p.1++p.2) (fun p=>p.2.length) (c,x::d)=LQ at step ⊢
    clear hl
    simp at hs
    have hget:(a++(c++x::d))[a.length+c.length]? = some x:=by
      rw [← List.append_assoc,List.getElem?_append_right (by simp)]; simp
    simp [b_authres_zzTrimSpace_4]
    refine ⟨fun _=>?_,fun h=>by omega⟩
    refine awp_loop (σ:=Unit) (fun _=>⟨[(0,.str (a++(c++x::d))),(3,.int .i64 a.length),(4,.int .i64 (toV (a.length+(c.length+(d.length+1))) a c)),(7,.int .i64 (a.length+c.length)),(8,.int .i64 1)],[]⟩) (fun _=>True) (fun _=>0) () (by simp) trivial ?_
    intro _ _
    have en:((a.length:Int)+(c.length:Int))=((a.length+c.length:Nat):Int):=by omega
    have ew:IntKind.i64.wrap ((a.length:Int)+c.length+1)=(a.length:Int)+c.length+1:=wrap64 (by omega) (by omega)
    rw [en]
    refine ar_trim_inner Γ _ (a++(c++x::d)) x (a.length+c.length) (a.length+(c.length+(d.length+1))) _ _ (by simp) hget hx (by omega) (by omega) ?_
    rw [← en]
    have en2:((a.length:Int)+(c.length:Int)).toNat=a.length+c.length:=by omega
    have en3:((a.length:Int)+(c.length:Int)+1).toNat=a.length+c.length+1:=by omega
    have esl:List.drop (a.length+c.length) (List.take (a.length+c.length+1) (a++(c++x::d)))=[x]:=by
      rw [← List.append_assoc,show a.length+c.length=(a++c).length by simp,List.take_length_add_append,List.drop_left]; rfl
    have erun:runesF 1 [x]=[x.toNat]:=by simp [runesF,decR_ascii hx]
    simp [t_authres_zzTrimSpace_3,ew,en2,en3,esl,erun,rcA,acall,h23,con_zzIsSpace,hx2]
    refine ⟨⟨by omega,by omega,by omega⟩,fun hw=>step _ ?_,fun hw=>step _ ?_⟩
    · rw [isSp_ws hpx] at hw
      simp [toV,trimR_nw hw]
      try omega
    · rw [isSp_ws hpx] at hw
      have hc:c ≠ []:=by
        intro e; subst e
        rw [hb x d rfl] at hw; simp at hw
      simp [toV,hc,trimR_ws hw]

theorem ar_ok_zzTrimSpace (Γ:Gam) (h23:Γ.fn 165=con_zzIsSpace):∀ args r,con_zzTrimSpace args=some r→runs Γ c_authres_zzTrimSpace args (fun v=>v=r):=by
  intro args r h
  simp only [con_zzTrimSpace] at h
  split at h <;> (try simp at h; done)
  rename_i s
  obtain ⟨⟨hs,hp⟩,rfl⟩:=ite_some h
  clear h
  simp only [mid] at hs
  simp [c_authres_zzTrimSpace]
  refine awp_loop (σ:=List UInt8 × List UInt8) (fun p=>⟨[(0,.str s),(3,.int .i64 s.length),(4,.int .i64 s.length),(16,.ref 16 0)],[(16,.sit s p.1.length)]⟩)
    (fun p=>s=p.1++p.2∧∀ x∈p.1,isWs x.toNat=true) (fun p=>p.2.length) ([],s) (by simp) (by simp) ?_
  rintro ⟨a,b⟩ ⟨hs1,ha⟩
  simp only at hs1 ha
  cases b with
  | nil =>
    simp at hs1
    subst hs1
    simp [b_authres_zzTrimSpace_1,t_authres_zzTrimSpace_6]
    have:=ar_trim_loop2 Γ h23 s [] (by simpa using hp) (by simpa using hs) ha (by simp)
    simpa using this
  | cons x b =>
    subst hs1
    have hpx:plainB x=true∧plain b=true:=by
      have:(plain a && plain (x::b))=true:=by rw [← plain_app]; exact hp
      simp only [Bool.and_eq_true] at this
      have h2:=this.2
      simp only [plain,List.all_cons,Bool.and_eq_true] at h2
      exact h2
    have e1:List.drop a.length (a++x::b)=x::b:=by simp
    have hx:=plainB_lt hpx.1
    have hx2:(x.toNat:Int) < 128:=by omega
    simp [b_authres_zzTrimSpace_1,t_authres_zzTrimSpace_6,e1,decR_ascii hx,acall,h23,con_zzIsSpace,hx2]
    refine ⟨fun hw=>?_,fun hw=>?_⟩
    · have:=ar_trim_loop2 Γ h23 a (x::b) hp hs ha (fun y r e=>by injection e with e1 e2; subst e1; rw [← isSp_ws hpx.1]; exact hw)
      simpa using this
    · refine ⟨(a++[x],b),by simp,⟨by simp,?_⟩,by simp⟩
      intro y hy
      simp at hy
      rcases hy with hy | rfl
      · exact ha y hy
      · rw [← isSp_ws hpx.1]; exact hw

end Wax


namespace Wax
open Go (IntKind)

def strV (l:List (List UInt8)):AV:=match l with | []=>.nilS | _=>.sl 1 (strsA l)
theorem slStrs_strV {l:List (List UInt8)}:slStrs (strV l)=some l:=by
  cases l <;> simp [strV,slStrs,← strsA_cons]

end Wax


namespace Wax
open Go (IntKind)

def sortB (l:List (List UInt8)):List (List UInt8):=l.mergeSort (fun x y=>decide (x≤y))

def con_Keys:List AV→Option AV
  | [.mp es]=>some (.fn 55 [.bx [.mp es]])
  | _=>none

theorem ok_Keys (Γ:Gam):∀ args r,con_Keys args=some r→runs Γ c_maps_Keys args (fun v=>v=r):=by
  intro args r h
  simp only [con_Keys] at h
  split at h <;> (try simp at h; done)
  injection h with h; subst h
  simp [c_maps_Keys]

def con_Sorted:List AV→Option AV
  | [.fn 55 [.bx [.mp es]]]=>if es.length < half∧(∀ q∈es,q.1.length < half) then some (strV (sortB (es.map (·.1)))) else none
  | _=>none

def lookP:List (List UInt8 × List UInt8)→List UInt8→List UInt8
  | [],_=>[]
  | (i,v)::r,k=>if k=i then v else lookP r k
theorem lookA_pmA:∀ (l:List (List UInt8 × List UInt8)) (k:List UInt8),lookA (pmA l) k (.str []) false=.str (lookP l k)
  | [],k=>rfl
  | (i,v)::r,k=>by
    have:=lookA_pmA r k
    by_cases h:k=i <;> simp [pmA,lookA,mfind,lookP,h] at this ⊢
    exact this

def sortP (acc:List (List UInt8 × List UInt8)):List (List UInt8 × List UInt8):=(sortB (acc.map (·.1))).map fun k=>(k,lookP acc k)

end Wax


