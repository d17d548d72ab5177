/- The machine by which the functions are read, and what is proved of them (part 5): no premise. -/
import Derived.Test.YtbalogmjickeaabGreatDoorWd
set_option linter.all false
namespace Wax
open Go (IntKind)

def c_spec_APlain:SFn:=⟨1,
 (.seq
 (.region [⟨some 2,.mv (.k (.bool false)),none⟩] [0] [] [])
 (.seq
 (.region [⟨some 7,.mv (.t 0),none⟩,⟨some 8,.call 102 [(.t 7),(.k (.int .u8 64))],none⟩,⟨some 6,.mv (.t 8),none⟩,⟨some 9,.extr (.t 6) 0,none⟩,⟨some 10,.extr (.t 6) 1,none⟩,⟨some 11,.extr (.t 6) 2,none⟩,⟨some 3,.mv (.t 9),none⟩,⟨some 4,.mv (.t 10),none⟩,⟨some 5,.mv (.t 11),none⟩] [0,3,4,5] [] [[],[7],[8],[],[],[6],[9],[10]])
 (.seq
 (.seq
 (.region [⟨some 12,.mv (.t 5),none⟩,⟨some 13,.un .not (.t 12),none⟩] [0,3,4,13] [] [[5]])
 (.cond (.t 13)
 (.seq
 (.region [⟨some 14,.mv (.t 0),none⟩,⟨some 15,.call 104 [(.t 14)],none⟩,⟨some 16,.mv (.t 15),none⟩,⟨some 17,.mv (.t 0),some (16,true)⟩,⟨some 18,.len 0 (.t 17),some (16,true)⟩,⟨some 19,.bin .leq (.t 18) (.k (.int .i64 200)),some (16,true)⟩,⟨some 20,.pick (.t 16) (.t 19) (.k (.bool false)),none⟩,⟨some 2,.mv (.t 20),none⟩] [2] [] [[],[14],[15],[0],[17],[18],[16,19]])
 .ret)
 .skip))
 (.seq
 (.region [⟨some 21,.mv (.t 3),none⟩,⟨some 22,.bin .eql (.t 21) (.k (.str [])),none⟩,⟨some 23,.mv (.t 22),none⟩,⟨some 24,.mv (.t 3),some (23,false)⟩,⟨some 25,.call 104 [(.t 24)],some (23,false)⟩,⟨some 26,.pick (.t 23) (.k (.bool true)) (.t 25),none⟩,⟨some 27,.mv (.t 26),none⟩,⟨some 28,.mv (.t 4),some (27,true)⟩,⟨some 29,.call 105 [(.t 28)],some (27,true)⟩,⟨some 30,.pick (.t 27) (.t 29) (.k (.bool false)),none⟩,⟨some 31,.mv (.t 30),none⟩,⟨some 32,.mv (.t 0),some (31,true)⟩,⟨some 33,.len 0 (.t 32),some (31,true)⟩,⟨some 34,.bin .leq (.t 33) (.k (.int .i64 200)),some (31,true)⟩,⟨some 35,.pick (.t 31) (.t 34) (.k (.bool false)),none⟩,⟨some 2,.mv (.t 35),none⟩] [2] [] [[],[21],[22],[3],[24],[23,25],[26],[4],[28],[27,29],[30],[0],[32],[33],[31,34]])
 .ret)))),
 [.t 2]⟩

def l_spec_APlain:Lay:={ rg:=[(0,([0],[])),(1,([0,3,4,5],[])),(2,([0,3,4,13],[])),(3,([2],[])),(4,([2],[]))],dd:=[(1,[[],[7],[8],[],[],[6],[9],[10]]),(2,[[5]]),(3,[[],[14],[15],[0],[17],[18],[16,19]]),(4,[[],[21],[22],[3],[24],[23,25],[26],[4],[28],[27,29],[30],[0],[32],[33],[31,34]])] }

def c_spec_AValues:SFn:=⟨0,
 (.seq
 (.region [⟨some 0,.mv (.k .nilS),none⟩] [] [] [])
 (.seq
 (.region [⟨some 1,.mkSl 1 9 [(.str [])] [(0,(.k (.str [110,111,110,101]))),(1,(.k (.str [112,97,115,115]))),(2,(.k (.str [102,97,105,108]))),(3,(.k (.str [112,111,108,105,99,121]))),(4,(.k (.str [110,101,117,116,114,97,108]))),(5,(.k (.str [116,101,109,112,101,114,114,111,114]))),(6,(.k (.str [112,101,114,109,101,114,114,111,114]))),(7,(.k (.str [115,111,102,116,102,97,105,108]))),(8,(.k (.str [104,97,114,100,102,97,105,108])))],none⟩,⟨some 0,.mv (.t 1),none⟩] [0] [] [])
 .ret)),
 [.t 0]⟩

def l_spec_AValues:Lay:={ rg:=[(0,([],[])),(1,([0],[]))] }

def c_spec_AMethods:SFn:=⟨0,
 (.seq
 (.region [⟨some 0,.mv (.k .nilS),none⟩] [] [] [])
 (.seq
 (.region [⟨some 1,.mkSl 1 8 [(.str [])] [(0,(.k (.str [97,117,116,104]))),(1,(.k (.str [100,107,105,109]))),(2,(.k (.str [100,111,109,97,105,110,107,101,121,115]))),(3,(.k (.str [105,112,114,101,118]))),(4,(.k (.str [115,101,110,100,101,114,45,105,100]))),(5,(.k (.str [115,112,102]))),(6,(.k (.str [100,109,97,114,99]))),(7,(.k (.str [97,114,99])))],none⟩,⟨some 0,.mv (.t 1),none⟩] [0] [] [])
 .ret)),
 [.t 0]⟩

def l_spec_AMethods:Lay:={ rg:=[(0,([],[])),(1,([0],[]))] }

def c_spec_AProps:SFn:=⟨1,
 (.seq
 (.seq
 (.region [⟨some 1,.box (.t 0),none⟩,⟨some 2,.mv (.k .nilS),none⟩] [1] [] [[0]])
 (.ghost [.frz 1]))
 (.seq
 (.seq
 (.region [⟨some 3,.fAddr 0 (.t 1),none⟩,⟨some 4,.load none (.t 3),none⟩] [1,4] [] [])
 (.block 0
 (.seq
 (.region [⟨some 6,.bin .eql (.t 4) (.k (.int .i64 1)),none⟩,⟨some 5,.mv (.t 6),none⟩] [1,4,5] [] [])
 (.cond (.t 5)
 (.seq
 (.region [⟨some 7,.fAddr 10 (.t 1),none⟩,⟨some 8,.load none (.t 7),none⟩,⟨some 9,.agg [(.str []),(.str []),(.str [])] [(0,1,(.k (.str [115,109,116,112]))),(1,1,(.k (.str [97,117,116,104]))),(2,1,(.t 8))],none⟩,⟨some 10,.mkSl 3 1 [(.str []),(.str []),(.str [])] [(0,(.t 9))],none⟩,⟨some 2,.mv (.t 10),none⟩] [2] [] [[1],[7],[8],[9]])
 .ret)
 (.seq
 (.region [⟨some 12,.bin .eql (.t 4) (.k (.int .i64 2)),none⟩,⟨some 11,.mv (.t 12),none⟩] [1,4,11] [] [])
 (.cond (.t 11)
 (.seq
 (.region [⟨some 13,.fAddr 4 (.t 1),none⟩,⟨some 14,.load none (.t 13),none⟩,⟨some 15,.agg [(.str []),(.str []),(.str [])] [(0,1,(.k (.str [104,101,97,100,101,114]))),(1,1,(.k (.str [100]))),(2,1,(.t 14))],none⟩,⟨some 16,.fAddr 5 (.t 1),none⟩,⟨some 17,.load none (.t 16),none⟩,⟨some 18,.agg [(.str []),(.str []),(.str [])] [(0,1,(.k (.str [104,101,97,100,101,114]))),(1,1,(.k (.str [105]))),(2,1,(.t 17))],none⟩,⟨some 19,.mkSl 3 2 [(.str []),(.str []),(.str [])] [(0,(.t 15)),(1,(.t 18))],none⟩,⟨some 2,.mv (.t 19),none⟩] [2] [] [[],[13],[14],[1],[16],[17],[15,18]])
 .ret)
 (.seq
 (.region [⟨some 21,.bin .eql (.t 4) (.k (.int .i64 3)),none⟩,⟨some 20,.mv (.t 21),none⟩] [1,4,20] [] [])
 (.cond (.t 20)
 (.seq
 (.region [⟨some 22,.fAddr 4 (.t 1),none⟩,⟨some 23,.load none (.t 22),none⟩,⟨some 24,.agg [(.str []),(.str []),(.str [])] [(0,1,(.k (.str [104,101,97,100,101,114]))),(1,1,(.k (.str [100]))),(2,1,(.t 23))],none⟩,⟨some 25,.fAddr 6 (.t 1),none⟩,⟨some 26,.load none (.t 25),none⟩,⟨some 27,.agg [(.str []),(.str []),(.str [])] [(0,1,(.k (.str [104,101,97,100,101,114]))),(1,1,(.k (.str [102,114,111,109]))),(2,1,(.t 26))],none⟩,⟨some 28,.fAddr 7 (.t 1),none⟩,⟨some 29,.load none (.t 28),none⟩,⟨some 30,.agg [(.str []),(.str []),(.str [])] [(0,1,(.k (.str [104,101,97,100,101,114]))),(1,1,(.k (.str [115,101,110,100,101,114]))),(2,1,(.t 29))],none⟩,⟨some 31,.mkSl 3 3 [(.str []),(.str []),(.str [])] [(0,(.t 24)),(1,(.t 27)),(2,(.t 30))],none⟩,⟨some 2,.mv (.t 31),none⟩] [2] [] [[],[22],[23],[],[25],[26],[1],[28],[29],[24,27,30]])
 .ret)
 (.seq
 (.region [⟨some 33,.bin .eql (.t 4) (.k (.int .i64 4)),none⟩,⟨some 32,.mv (.t 33),none⟩] [1,4,32] [] [])
 (.cond (.t 32)
 (.seq
 (.region [⟨some 34,.fAddr 8 (.t 1),none⟩,⟨some 35,.load none (.t 34),none⟩,⟨some 36,.agg [(.str []),(.str []),(.str [])] [(0,1,(.k (.str [112,111,108,105,99,121]))),(1,1,(.k (.str [105,112,114,101,118]))),(2,1,(.t 35))],none⟩,⟨some 37,.mkSl 3 1 [(.str []),(.str []),(.str [])] [(0,(.t 36))],none⟩,⟨some 2,.mv (.t 37),none⟩] [2] [] [[1],[34],[35],[36]])
 .ret)
 (.seq
 (.region [⟨some 39,.bin .eql (.t 4) (.k (.int .i64 5)),none⟩,⟨some 38,.mv (.t 39),none⟩] [1,4,38] [] [])
 (.cond (.t 38)
 (.seq
 (.region [⟨some 40,.fAddr 11 (.t 1),none⟩,⟨some 41,.load none (.t 40),none⟩,⟨some 42,.fAddr 12 (.t 1),none⟩,⟨some 43,.load none (.t 42),none⟩,⟨some 44,.agg [(.str []),(.str []),(.str [])] [(0,1,(.k (.str [104,101,97,100,101,114]))),(1,1,(.t 41)),(2,1,(.t 43))],none⟩,⟨some 45,.mkSl 3 1 [(.str []),(.str []),(.str [])] [(0,(.t 44))],none⟩,⟨some 2,.mv (.t 45),none⟩] [2] [] [[],[40],[1],[42],[41,43],[44]])
 .ret)
 (.seq
 (.region [⟨some 47,.bin .eql (.t 4) (.k (.int .i64 6)),none⟩,⟨some 46,.mv (.t 47),none⟩] [1,4,46] [] [])
 (.cond (.t 46)
 (.seq
 (.region [⟨some 48,.fAddr 6 (.t 1),none⟩,⟨some 49,.load none (.t 48),none⟩,⟨some 50,.agg [(.str []),(.str []),(.str [])] [(0,1,(.k (.str [115,109,116,112]))),(1,1,(.k (.str [109,97,105,108,102,114,111,109]))),(2,1,(.t 49))],none⟩,⟨some 51,.fAddr 9 (.t 1),none⟩,⟨some 52,.load none (.t 51),none⟩,⟨some 53,.agg [(.str []),(.str []),(.str [])] [(0,1,(.k (.str [115,109,116,112]))),(1,1,(.k (.str [104,101,108,111]))),(2,1,(.t 52))],none⟩,⟨some 54,.mkSl 3 2 [(.str []),(.str []),(.str [])] [(0,(.t 50)),(1,(.t 53))],none⟩,⟨some 2,.mv (.t 54),none⟩] [2] [] [[],[48],[49],[1],[51],[52],[50,53]])
 .ret)
 (.seq
 (.region [⟨some 56,.bin .eql (.t 4) (.k (.int .i64 7)),none⟩,⟨some 55,.mv (.t 56),none⟩] [1,55] [] [[4]])
 (.cond (.t 55)
 (.seq
 (.region [⟨some 57,.fAddr 6 (.t 1),none⟩,⟨some 58,.load none (.t 57),none⟩,⟨some 59,.agg [(.str []),(.str []),(.str [])] [(0,1,(.k (.str [104,101,97,100,101,114]))),(1,1,(.k (.str [102,114,111,109]))),(2,1,(.t 58))],none⟩,⟨some 60,.mkSl 3 1 [(.str []),(.str []),(.str [])] [(0,(.t 59))],none⟩,⟨some 2,.mv (.t 60),none⟩] [2] [] [[1],[57],[58],[59]])
 .ret)
 .skip))))))))))))))))
 (.seq
 (.region [⟨some 2,.mv (.k .nilS),none⟩] [2] [] [])
 .ret))),
 [.t 2]⟩

def l_spec_AProps:Lay:={ rg:=[(0,([1],[])),(1,([1,4],[])),(2,([1,4,5],[])),(3,([2],[])),(4,([1,4,11],[])),(5,([2],[])),(6,([1,4,20],[])),(7,([2],[])),(8,([1,4,32],[])),(9,([2],[])),(10,([1,4,38],[])),(11,([2],[])),(12,([1,4,46],[])),(13,([2],[])),(14,([1,55],[])),(15,([2],[])),(16,([2],[]))],dd:=[(0,[[0]]),(3,[[1],[7],[8],[9]]),(5,[[],[13],[14],[1],[16],[17],[15,18]]),(7,[[],[22],[23],[],[25],[26],[1],[28],[29],[24,27,30]]),(9,[[1],[34],[35],[36]]),(11,[[],[40],[1],[42],[41,43],[44]]),(13,[[],[48],[49],[1],[51],[52],[50,53]]),(14,[[4]]),(15,[[1],[57],[58],[59]])],gh:=[(0,[.frz 1])] }

def c_spec_AOnly:SFn:=⟨1,
 (.seq
 (.seq
 (.region [⟨some 1,.box (.t 0),none⟩,⟨some 2,.alloc [(.int .i64 0),(.str []),(.str []),(.str []),(.str []),(.str []),(.str []),(.str []),(.str []),(.str []),(.str []),(.str []),(.str []),(.str []),(.int .i64 0),.nilS],none⟩] [1,2] [] [[0]])
 (.ghost [.frz 1]))
 (.seq
 (.region [⟨some 4,.fAddr 0 (.t 1),none⟩,⟨some 5,.load none (.t 4),none⟩,⟨some 6,.fAddr 2 (.t 1),none⟩,⟨some 7,.load none (.t 6),none⟩,⟨some 8,.fAddr 3 (.t 1),none⟩,⟨some 9,.load none (.t 8),none⟩,⟨some 10,.agg [(.int .i64 0),(.str []),(.str []),(.str []),(.str []),(.str []),(.str []),(.str []),(.str []),(.str []),(.str []),(.str []),(.str []),(.str []),(.int .i64 0),.nilS] [(0,1,(.t 5)),(2,1,(.t 7)),(3,1,(.t 9))],none⟩,⟨some 3,.alloc [(.int .i64 0),(.str []),(.str []),(.str []),(.str []),(.str []),(.str []),(.str []),(.str []),(.str []),(.str []),(.str []),(.str []),(.str []),(.int .i64 0),.nilS],none⟩,
 ⟨none,.store 16 (.t 3) (.t 10),none⟩] [1,2,3] [] [[],[4],[],[6],[],[8],[5,7,9]])
 (.seq
 (.seq
 (.region [⟨some 11,.fAddr 0 (.t 1),none⟩,⟨some 12,.load none (.t 11),none⟩] [1,2,3,12] [] [])
 (.block 0
 (.seq
 (.region [⟨some 14,.bin .eql (.t 12) (.k (.int .i64 0)),none⟩,⟨some 13,.mv (.t 14),none⟩] [1,2,3,12,13] [] [])
 (.cond (.t 13)
 (.region [⟨some 15,.fl (.fAddr 1 (.t 1)),none⟩,⟨some 16,.fl (.load none (.t 15)),none⟩,⟨some 17,.fl (.fAddr 15 (.t 1)),none⟩,⟨some 18,.fl (.load none (.t 17)),none⟩,⟨some 19,.fAddr 1 (.t 3),none⟩,
 ⟨none,.store 1 (.t 19) (.t 16),none⟩,⟨some 20,.fAddr 15 (.t 3),none⟩,
 ⟨none,.store 1 (.t 20) (.t 18),none⟩,⟨some 21,.fAddr 3 (.t 3),none⟩,
 ⟨none,.store 1 (.t 21) (.k (.str [])),none⟩] [2,3] [] [])
 (.seq
 (.region [⟨some 23,.bin .eql (.t 12) (.k (.int .i64 1)),none⟩,⟨some 22,.mv (.t 23),none⟩] [1,2,3,12,22] [] [])
 (.cond (.t 22)
 (.region [⟨some 24,.fAddr 10 (.t 1),none⟩,⟨some 25,.load none (.t 24),none⟩,⟨some 26,.fAddr 10 (.t 3),none⟩,
 ⟨none,.store 1 (.t 26) (.t 25),none⟩] [2,3] [] [[1],[24]])
 (.seq
 (.region [⟨some 28,.bin .eql (.t 12) (.k (.int .i64 2)),none⟩,⟨some 27,.mv (.t 28),none⟩] [1,2,3,12,27] [] [])
 (.cond (.t 27)
 (.region [⟨some 29,.fl (.fAddr 4 (.t 1)),none⟩,⟨some 30,.fl (.load none (.t 29)),none⟩,⟨some 31,.fl (.fAddr 5 (.t 1)),none⟩,⟨some 32,.fl (.load none (.t 31)),none⟩,⟨some 33,.fAddr 4 (.t 3),none⟩,
 ⟨none,.store 1 (.t 33) (.t 30),none⟩,⟨some 34,.fAddr 5 (.t 3),none⟩,
 ⟨none,.store 1 (.t 34) (.t 32),none⟩] [2,3] [] [])
 (.seq
 (.region [⟨some 36,.bin .eql (.t 12) (.k (.int .i64 3)),none⟩,⟨some 35,.mv (.t 36),none⟩] [1,2,3,12,35] [] [])
 (.cond (.t 35)
 (.region [⟨some 37,.fl (.fAddr 4 (.t 1)),none⟩,⟨some 38,.fl (.load none (.t 37)),none⟩,⟨some 39,.fl (.fAddr 6 (.t 1)),none⟩,⟨some 40,.fl (.load none (.t 39)),none⟩,⟨some 41,.fl (.fAddr 7 (.t 1)),none⟩,⟨some 42,.fl (.load none (.t 41)),none⟩,⟨some 43,.fAddr 4 (.t 3),none⟩,
 ⟨none,.store 1 (.t 43) (.t 38),none⟩,⟨some 44,.fAddr 6 (.t 3),none⟩,
 ⟨none,.store 1 (.t 44) (.t 40),none⟩,⟨some 45,.fAddr 7 (.t 3),none⟩,
 ⟨none,.store 1 (.t 45) (.t 42),none⟩] [2,3] [] [])
 (.seq
 (.region [⟨some 47,.bin .eql (.t 12) (.k (.int .i64 4)),none⟩,⟨some 46,.mv (.t 47),none⟩] [1,2,3,12,46] [] [])
 (.cond (.t 46)
 (.region [⟨some 48,.fAddr 8 (.t 1),none⟩,⟨some 49,.load none (.t 48),none⟩,⟨some 50,.fAddr 8 (.t 3),none⟩,
 ⟨none,.store 1 (.t 50) (.t 49),none⟩] [2,3] [] [[1],[48]])
 (.seq
 (.region [⟨some 52,.bin .eql (.t 12) (.k (.int .i64 5)),none⟩,⟨some 51,.mv (.t 52),none⟩] [1,2,3,12,51] [] [])
 (.cond (.t 51)
 (.region [⟨some 53,.fl (.fAddr 11 (.t 1)),none⟩,⟨some 54,.fl (.load none (.t 53)),none⟩,⟨some 55,.fl (.fAddr 12 (.t 1)),none⟩,⟨some 56,.fl (.load none (.t 55)),none⟩,⟨some 57,.fAddr 11 (.t 3),none⟩,
 ⟨none,.store 1 (.t 57) (.t 54),none⟩,⟨some 58,.fAddr 12 (.t 3),none⟩,
 ⟨none,.store 1 (.t 58) (.t 56),none⟩] [2,3] [] [])
 (.seq
 (.region [⟨some 60,.bin .eql (.t 12) (.k (.int .i64 6)),none⟩,⟨some 59,.mv (.t 60),none⟩] [1,2,3,12,59] [] [])
 (.cond (.t 59)
 (.region [⟨some 61,.fl (.fAddr 6 (.t 1)),none⟩,⟨some 62,.fl (.load none (.t 61)),none⟩,⟨some 63,.fl (.fAddr 9 (.t 1)),none⟩,⟨some 64,.fl (.load none (.t 63)),none⟩,⟨some 65,.fAddr 6 (.t 3),none⟩,
 ⟨none,.store 1 (.t 65) (.t 62),none⟩,⟨some 66,.fAddr 9 (.t 3),none⟩,
 ⟨none,.store 1 (.t 66) (.t 64),none⟩] [2,3] [] [])
 (.seq
 (.region [⟨some 68,.bin .eql (.t 12) (.k (.int .i64 7)),none⟩,⟨some 67,.mv (.t 68),none⟩] [1,2,3,67] [] [[12]])
 (.cond (.t 67)
 (.region [⟨some 69,.fAddr 6 (.t 1),none⟩,⟨some 70,.load none (.t 69),none⟩,⟨some 71,.fAddr 6 (.t 3),none⟩,
 ⟨none,.store 1 (.t 71) (.t 70),none⟩] [2,3] [] [[1],[69]])
 .skip))))))))))))))))))
 (.seq
 (.region [⟨some 72,.load (some 16) (.t 3),none⟩,
 ⟨none,.store 16 (.t 2) (.t 72),none⟩] [2] [3] [[3]])
 .ret)))),
 [.c (some 16) 2]⟩

def l_spec_AOnly:Lay:={ rg:=[(0,([1,2],[])),(1,([1,2,3],[])),(2,([1,2,3,12],[])),(3,([1,2,3,12,13],[])),(4,([2,3],[])),(5,([1,2,3,12,22],[])),(6,([2,3],[])),(7,([1,2,3,12,27],[])),(8,([2,3],[])),(9,([1,2,3,12,35],[])),(10,([2,3],[])),(11,([1,2,3,12,46],[])),(12,([2,3],[])),(13,([1,2,3,12,51],[])),(14,([2,3],[])),(15,([1,2,3,12,59],[])),(16,([2,3],[])),(17,([1,2,3,67],[])),(18,([2,3],[])),(19,([2],[3]))],dd:=[(0,[[0]]),(1,[[],[4],[],[6],[],[8],[5,7,9]]),(6,[[1],[24]]),(12,[[1],[48]]),(17,[[12]]),(18,[[1],[69]]),(19,[[3]])],gh:=[(0,[.frz 1])],fl:=[15,16,17,18,29,30,31,32,37,38,39,40,41,42,53,54,55,56,61,62,63,64] }

def b_spec_AInfoOf_1:SCode :=
 (.seq
 (.region [⟨some 23,.bin .lss (.t 22) (.t 21),none⟩] [2,3,20,21,22,23] [] [])
 (.seq
 (.cond (.t 23)
 .skip
 (.exit 0))
 (.seq
 (.block 1
 (.seq
 (.seq
 (.region [⟨some 24,.iAddr 2 (.t 20) (.t 22),none⟩,⟨some 25,.load (some 2) (.t 24),none⟩,⟨some 5,.alloc [(.str []),(.str [])],none⟩,
 ⟨none,.store 2 (.t 5) (.t 25),none⟩] [2,3,5,20,21,22] [] [[],[24]])
 (.ghost [.frz 5]))
 (.seq
 (.region [⟨some 27,.fAddr 0 (.t 5),none⟩,⟨some 28,.load none (.t 27),none⟩,⟨some 29,.call 102 [(.t 28),(.k (.int .u8 46))],none⟩,⟨some 26,.mv (.t 29),none⟩,⟨some 30,.extr (.t 26) 0,none⟩,⟨some 31,.extr (.t 26) 1,none⟩,⟨some 32,.extr (.t 26) 2,none⟩,⟨some 6,.mv (.t 30),none⟩,⟨some 7,.mv (.t 31),none⟩,⟨some 8,.mv (.t 32),none⟩] [2,3,5,6,7,20,21,22] [] [[],[27],[28],[29],[],[],[26],[30],[31]])
 (.region [⟨some 33,.fAddr 4 (.t 3),none⟩,⟨some 34,.load none (.t 33),none⟩,⟨some 35,.mv (.t 6),none⟩,⟨some 36,.mv (.t 7),none⟩,⟨some 37,.fAddr 1 (.t 5),none⟩,⟨some 38,.load none (.t 37),none⟩,⟨some 39,.agg [(.str []),(.str []),(.str [])] [(0,1,(.t 35)),(1,1,(.t 36)),(2,1,(.t 38))],none⟩,⟨some 40,.mkSl 3 1 [(.str []),(.str []),(.str [])] [(0,(.t 39))],none⟩,⟨some 41,.app 3 48 (.t 34) (.t 40),none⟩,⟨some 42,.fAddr 4 (.t 3),none⟩,
 ⟨none,.store 1 (.t 42) (.t 41),none⟩] [2,3,20,21,22] [40] [[],[33],[6],[7],[5],[37],[35,36,38],[39],[34,40]]))))
 (.region [⟨some 43,.bin .add (.t 22) (.k (.int .i64 1)),none⟩,⟨some 22,.mv (.t 43),none⟩] [2,3,20,21,22] [] []))))

def t_spec_AInfoOf_2:SCode :=
 (.seq
 (.region [⟨some 44,.load (some 5) (.t 3),none⟩,
 ⟨none,.store 5 (.t 2) (.t 44),none⟩] [2] [3] [[3]])
 .ret)

def t_spec_AInfoOf_3:SCode :=
 (.seq
 (.region [⟨some 45,.call 200 [],none⟩,⟨some 46,.fAddr 0 (.t 1),none⟩,⟨some 47,.load none (.t 46),none⟩,⟨some 48,.bin .sub (.t 47) (.k (.int .i64 1)),none⟩,⟨some 49,.iAddr 1 (.t 45) (.t 48),none⟩,⟨some 50,.load none (.t 49),none⟩,⟨some 51,.load (some 16) (.t 1),none⟩,⟨some 52,.call 201 [(.t 51)],none⟩,⟨some 53,.fAddr 0 (.t 3),none⟩,
 ⟨none,.store 1 (.t 53) (.t 50),none⟩,⟨some 54,.fAddr 4 (.t 3),none⟩,
 ⟨none,.store 1 (.t 54) (.t 52),none⟩] [2,3] [] [])
 (.seq
 (.region [⟨some 55,.load (some 5) (.t 3),none⟩,
 ⟨none,.store 5 (.t 2) (.t 55),none⟩] [2] [3] [[3]])
 .ret))

def c_spec_AInfoOf:SFn:=⟨1,
 (.seq
 (.seq
 (.region [⟨some 1,.box (.t 0),none⟩,⟨some 2,.alloc [(.str []),(.str []),(.str []),(.str []),.nilS],none⟩] [1,2] [] [[0]])
 (.ghost [.frz 1]))
 (.seq
 (.region [⟨some 9,.fAddr 1 (.t 1),none⟩,⟨some 10,.load none (.t 9),none⟩,⟨some 11,.fAddr 2 (.t 1),none⟩,⟨some 12,.load none (.t 11),none⟩,⟨some 13,.fAddr 3 (.t 1),none⟩,⟨some 14,.load none (.t 13),none⟩,⟨some 15,.agg [(.str []),(.str []),(.str []),(.str []),.nilS] [(0,1,(.t 10)),(2,1,(.t 12)),(3,1,(.t 14))],none⟩,⟨some 3,.alloc [(.str []),(.str []),(.str []),(.str []),.nilS],none⟩,
 ⟨none,.store 5 (.t 3) (.t 15),none⟩] [1,2,3] [] [[],[9],[],[11],[],[13],[10,12,14]])
 (.seq
 (.seq
 (.region [⟨some 16,.fAddr 0 (.t 1),none⟩,⟨some 17,.load none (.t 16),none⟩,⟨some 18,.bin .eql (.t 17) (.k (.int .i64 0)),none⟩] [1,2,3,18] [] [[],[16]])
 (.cond (.t 18)
 (.seq
 (.seq
 (.region [⟨some 19,.fAddr 15 (.t 1),none⟩,⟨some 20,.load none (.t 19),none⟩,⟨some 21,.len 1 (.t 20),none⟩,⟨some 22,.mv (.k (.int .i64 0)),none⟩] [2,3,20,21,22] [] [[1],[19]])
 (.block 0
 (.loop [2,3,20,21,22]
 b_spec_AInfoOf_1)))
 t_spec_AInfoOf_2)
 .skip))
 t_spec_AInfoOf_3))),
 [.c (some 5) 2]⟩

def l_spec_AInfoOf:Lay:={ rg:=[(0,([1,2],[])),(1,([1,2,3],[])),(2,([1,2,3,18],[])),(3,([2,3,20,21,22],[])),(4,([2,3,20,21,22,23],[])),(5,([2,3,5,20,21,22],[])),(6,([2,3,5,6,7,20,21,22],[])),(7,([2,3,20,21,22],[40])),(8,([2,3,20,21,22],[])),(9,([2],[3])),(10,([2,3],[])),(11,([2],[3])),(1000004,([2,3,20,21,22],[]))],dd:=[(0,[[0]]),(1,[[],[9],[],[11],[],[13],[10,12,14]]),(2,[[],[16]]),(3,[[1],[19]]),(5,[[],[24]]),(6,[[],[27],[28],[29],[],[],[26],[30],[31]]),(7,[[],[33],[6],[7],[5],[37],[35,36,38],[39],[34,40]]),(9,[[3]]),(11,[[3]])],gh:=[(0,[.frz 1]),(5,[.frz 5])] }

def c_laws_zzFits2:SFn:=⟨1,
 (.seq
 (.seq
 (.region [⟨some 1,.box (.t 0),none⟩,⟨some 2,.mv (.k (.bool false)),none⟩] [1] [] [[0]])
 (.ghost [.frz 1]))
 (.seq
 (.seq
 (.region [⟨some 3,.fAddr 1 (.t 1),none⟩,⟨some 4,.load none (.t 3),none⟩,⟨some 5,.len 0 (.t 4),none⟩,⟨some 6,.bin .gtr (.t 5) (.k (.int .i64 2147483647)),none⟩] [1,6] [] [[],[3],[4]])
 (.cond (.t 6)
 (.seq
 (.region [⟨some 2,.mv (.k (.bool false)),none⟩] [2] [] [])
 .ret)
 .skip))
 (.seq
 (.seq
 (.region [⟨some 7,.fAddr 2 (.t 1),none⟩,⟨some 8,.load none (.t 7),none⟩,⟨some 9,.len 0 (.t 8),none⟩,⟨some 10,.bin .gtr (.t 9) (.k (.int .i64 2147483647)),none⟩] [1,10] [] [[],[7],[8]])
 (.cond (.t 10)
 (.seq
 (.region [⟨some 2,.mv (.k (.bool false)),none⟩] [2] [] [])
 .ret)
 .skip))
 (.seq
 (.seq
 (.region [⟨some 11,.fAddr 3 (.t 1),none⟩,⟨some 12,.load none (.t 11),none⟩,⟨some 13,.len 0 (.t 12),none⟩,⟨some 14,.bin .gtr (.t 13) (.k (.int .i64 2147483647)),none⟩] [1,14] [] [[],[11],[12]])
 (.cond (.t 14)
 (.seq
 (.region [⟨some 2,.mv (.k (.bool false)),none⟩] [2] [] [])
 .ret)
 .skip))
 (.seq
 (.seq
 (.region [⟨some 15,.fAddr 4 (.t 1),none⟩,⟨some 16,.load none (.t 15),none⟩,⟨some 17,.len 0 (.t 16),none⟩,⟨some 18,.bin .gtr (.t 17) (.k (.int .i64 2147483647)),none⟩] [1,18] [] [[],[15],[16]])
 (.cond (.t 18)
 (.seq
 (.region [⟨some 2,.mv (.k (.bool false)),none⟩] [2] [] [])
 .ret)
 .skip))
 (.seq
 (.seq
 (.region [⟨some 19,.fAddr 5 (.t 1),none⟩,⟨some 20,.load none (.t 19),none⟩,⟨some 21,.len 0 (.t 20),none⟩,⟨some 22,.bin .gtr (.t 21) (.k (.int .i64 2147483647)),none⟩] [1,22] [] [[],[19],[20]])
 (.cond (.t 22)
 (.seq
 (.region [⟨some 2,.mv (.k (.bool false)),none⟩] [2] [] [])
 .ret)
 .skip))
 (.seq
 (.seq
 (.region [⟨some 23,.fAddr 6 (.t 1),none⟩,⟨some 24,.load none (.t 23),none⟩,⟨some 25,.len 0 (.t 24),none⟩,⟨some 26,.bin .gtr (.t 25) (.k (.int .i64 2147483647)),none⟩] [1,26] [] [[],[23],[24]])
 (.cond (.t 26)
 (.seq
 (.region [⟨some 2,.mv (.k (.bool false)),none⟩] [2] [] [])
 .ret)
 .skip))
 (.seq
 (.seq
 (.region [⟨some 27,.fAddr 7 (.t 1),none⟩,⟨some 28,.load none (.t 27),none⟩,⟨some 29,.len 0 (.t 28),none⟩,⟨some 30,.bin .gtr (.t 29) (.k (.int .i64 2147483647)),none⟩] [1,30] [] [[],[27],[28]])
 (.cond (.t 30)
 (.seq
 (.region [⟨some 2,.mv (.k (.bool false)),none⟩] [2] [] [])
 .ret)
 .skip))
 (.seq
 (.seq
 (.region [⟨some 31,.fAddr 8 (.t 1),none⟩,⟨some 32,.load none (.t 31),none⟩,⟨some 33,.len 0 (.t 32),none⟩,⟨some 34,.bin .gtr (.t 33) (.k (.int .i64 2147483647)),none⟩] [1,34] [] [[],[31],[32]])
 (.cond (.t 34)
 (.seq
 (.region [⟨some 2,.mv (.k (.bool false)),none⟩] [2] [] [])
 .ret)
 .skip))
 (.seq
 (.seq
 (.region [⟨some 35,.fAddr 9 (.t 1),none⟩,⟨some 36,.load none (.t 35),none⟩,⟨some 37,.len 0 (.t 36),none⟩,⟨some 38,.bin .gtr (.t 37) (.k (.int .i64 2147483647)),none⟩] [1,38] [] [[],[35],[36]])
 (.cond (.t 38)
 (.seq
 (.region [⟨some 2,.mv (.k (.bool false)),none⟩] [2] [] [])
 .ret)
 .skip))
 (.seq
 (.seq
 (.region [⟨some 39,.fAddr 10 (.t 1),none⟩,⟨some 40,.load none (.t 39),none⟩,⟨some 41,.len 0 (.t 40),none⟩,⟨some 42,.bin .gtr (.t 41) (.k (.int .i64 2147483647)),none⟩] [1,42] [] [[],[39],[40]])
 (.cond (.t 42)
 (.seq
 (.region [⟨some 2,.mv (.k (.bool false)),none⟩] [2] [] [])
 .ret)
 .skip))
 (.seq
 (.seq
 (.region [⟨some 43,.fAddr 11 (.t 1),none⟩,⟨some 44,.load none (.t 43),none⟩,⟨some 45,.len 0 (.t 44),none⟩,⟨some 46,.bin .gtr (.t 45) (.k (.int .i64 2147483647)),none⟩] [1,46] [] [[],[43],[44]])
 (.cond (.t 46)
 (.seq
 (.region [⟨some 2,.mv (.k (.bool false)),none⟩] [2] [] [])
 .ret)
 .skip))
 (.seq
 (.seq
 (.region [⟨some 47,.fAddr 12 (.t 1),none⟩,⟨some 48,.load none (.t 47),none⟩,⟨some 49,.len 0 (.t 48),none⟩,⟨some 50,.bin .gtr (.t 49) (.k (.int .i64 2147483647)),none⟩] [1,50] [] [[],[47],[48]])
 (.cond (.t 50)
 (.seq
 (.region [⟨some 2,.mv (.k (.bool false)),none⟩] [2] [] [])
 .ret)
 .skip))
 (.seq
 (.seq
 (.region [⟨some 51,.fAddr 13 (.t 1),none⟩,⟨some 52,.load none (.t 51),none⟩,⟨some 53,.len 0 (.t 52),none⟩,⟨some 54,.bin .gtr (.t 53) (.k (.int .i64 2147483647)),none⟩] [1,54] [] [[],[51],[52]])
 (.cond (.t 54)
 (.seq
 (.region [⟨some 2,.mv (.k (.bool false)),none⟩] [2] [] [])
 .ret)
 .skip))
 (.seq
 (.seq
 (.region [⟨some 55,.fAddr 15 (.t 1),none⟩,⟨some 56,.load none (.t 55),none⟩,⟨some 57,.call 210 [(.t 56)],none⟩,⟨some 58,.un .not (.t 57),none⟩] [58] [] [[1],[55],[56]])
 (.cond (.t 58)
 (.seq
 (.region [⟨some 2,.mv (.k (.bool false)),none⟩] [2] [] [])
 .ret)
 .skip))
 (.seq
 (.region [⟨some 2,.mv (.k (.bool true)),none⟩] [2] [] [])
 .ret)))))))))))))))),
 [.t 2]⟩

def l_laws_zzFits2:Lay:={ rg:=[(0,([1],[])),(1,([1,6],[])),(2,([2],[])),(3,([1,10],[])),(4,([2],[])),(5,([1,14],[])),(6,([2],[])),(7,([1,18],[])),(8,([2],[])),(9,([1,22],[])),(10,([2],[])),(11,([1,26],[])),(12,([2],[])),(13,([1,30],[])),(14,([2],[])),(15,([1,34],[])),(16,([2],[])),(17,([1,38],[])),(18,([2],[])),(19,([1,42],[])),(20,([2],[])),(21,([1,46],[])),(22,([2],[])),(23,([1,50],[])),(24,([2],[])),(25,([1,54],[])),(26,([2],[])),(27,([58],[])),(28,([2],[])),(29,([2],[]))],dd:=[(0,[[0]]),(1,[[],[3],[4]]),(3,[[],[7],[8]]),(5,[[],[11],[12]]),(7,[[],[15],[16]]),(9,[[],[19],[20]]),(11,[[],[23],[24]]),(13,[[],[27],[28]]),(15,[[],[31],[32]]),(17,[[],[35],[36]]),(19,[[],[39],[40]]),(21,[[],[43],[44]]),(23,[[],[47],[48]]),(25,[[],[51],[52]]),(27,[[1],[55],[56]])],gh:=[(0,[.frz 1])] }

def b_laws_zzFits3_1:SCode :=
 (.seq
 (.region [⟨some 11,.bin .lss (.t 10) (.t 9),none⟩] [8,9,10,11] [] [])
 (.seq
 (.cond (.t 11)
 .skip
 (.exit 0))
 (.seq
 (.block 1
 (.seq
 (.seq
 (.region [⟨some 12,.iAddr 2 (.t 8) (.t 10),none⟩,⟨some 13,.load (some 2) (.t 12),none⟩,⟨some 4,.alloc [(.str []),(.str [])],none⟩,
 ⟨none,.store 2 (.t 4) (.t 13),none⟩] [4,8,9,10] [] [[],[12]])
 (.ghost [.frz 4]))
 (.seq
 (.region [⟨some 14,.load (some 2) (.t 4),none⟩,⟨some 15,.call 211 [(.t 14)],none⟩,⟨some 16,.un .not (.t 15),none⟩] [8,9,10,16] [] [[4],[14]])
 (.cond (.t 16)
 (.seq
 (.region [⟨some 2,.mv (.k (.bool false)),none⟩] [2] [] [])
 .ret)
 .skip))))
 (.region [⟨some 17,.bin .add (.t 10) (.k (.int .i64 1)),none⟩,⟨some 10,.mv (.t 17),none⟩] [8,9,10] [] []))))

def t_laws_zzFits3_2:SCode :=
 (.seq
 (.region [⟨some 2,.mv (.k (.bool true)),none⟩] [2] [] [])
 .ret)

def c_laws_zzFits3:SFn:=⟨1,
 (.seq
 (.region [⟨some 2,.mv (.k (.bool false)),none⟩] [0] [] [])
 (.seq
 (.seq
 (.region [⟨some 5,.mv (.t 0),none⟩,⟨some 6,.len 1 (.t 5),none⟩,⟨some 7,.bin .gtr (.t 6) (.k (.int .i64 2147483647)),none⟩] [0,7] [] [[],[5]])
 (.cond (.t 7)
 (.seq
 (.region [⟨some 2,.mv (.k (.bool false)),none⟩] [2] [] [])
 .ret)
 .skip))
 (.seq
 (.seq
 (.region [⟨some 8,.mv (.t 0),none⟩,⟨some 9,.len 1 (.t 8),none⟩,⟨some 10,.mv (.k (.int .i64 0)),none⟩] [8,9,10] [] [[0]])
 (.block 0
 (.loop [8,9,10]
 b_laws_zzFits3_1)))
 t_laws_zzFits3_2))),
 [.t 2]⟩

def l_laws_zzFits3:Lay:={ rg:=[(0,([0],[])),(1,([0,7],[])),(2,([2],[])),(3,([8,9,10],[])),(4,([8,9,10,11],[])),(5,([4,8,9,10],[])),(6,([8,9,10,16],[])),(7,([2],[])),(8,([8,9,10],[])),(9,([2],[])),(1000004,([8,9,10],[]))],dd:=[(1,[[],[5]]),(3,[[0]]),(5,[[],[12]]),(6,[[4],[14]])],gh:=[(5,[.frz 4])] }

def c_laws_zzFits4:SFn:=⟨1,
 (.seq
 (.seq
 (.region [⟨some 1,.box (.t 0),none⟩,⟨some 2,.mv (.k (.bool false)),none⟩] [1] [] [[0]])
 (.ghost [.frz 1]))
 (.seq
 (.seq
 (.region [⟨some 3,.fAddr 0 (.t 1),none⟩,⟨some 4,.load none (.t 3),none⟩,⟨some 5,.len 0 (.t 4),none⟩,⟨some 6,.bin .gtr (.t 5) (.k (.int .i64 2147483647)),none⟩] [1,6] [] [[],[3],[4]])
 (.cond (.t 6)
 (.seq
 (.region [⟨some 2,.mv (.k (.bool false)),none⟩] [2] [] [])
 .ret)
 .skip))
 (.seq
 (.seq
 (.region [⟨some 7,.fAddr 1 (.t 1),none⟩,⟨some 8,.load none (.t 7),none⟩,⟨some 9,.len 0 (.t 8),none⟩,⟨some 10,.bin .gtr (.t 9) (.k (.int .i64 2147483647)),none⟩] [10] [] [[1],[7],[8]])
 (.cond (.t 10)
 (.seq
 (.region [⟨some 2,.mv (.k (.bool false)),none⟩] [2] [] [])
 .ret)
 .skip))
 (.seq
 (.region [⟨some 2,.mv (.k (.bool true)),none⟩] [2] [] [])
 .ret)))),
 [.t 2]⟩

def l_laws_zzFits4:Lay:={ rg:=[(0,([1],[])),(1,([1,6],[])),(2,([2],[])),(3,([10],[])),(4,([2],[])),(5,([2],[]))],dd:=[(0,[[0]]),(1,[[],[3],[4]]),(3,[[1],[7],[8]])],gh:=[(0,[.frz 1])] }

end Wax


namespace Wax
open Go (IntKind)

def c_spec_areader_blank:SFn:=⟨1,
 (.seq
 (.region [⟨some 2,.mv (.k (.bool false)),none⟩] [0] [] [])
 (.seq
 (.block 0
 (.loop [0]
 (.seq
 (.seq
 (.region [⟨some 5,.mv (.t 0),none⟩,⟨some 6,.chk (.t 5),none⟩,⟨some 7,.fAddr 1 (.t 6),none⟩,⟨some 8,.load none (.t 7),none⟩,⟨some 9,.mv (.t 0),none⟩,⟨some 10,.chk (.t 9),none⟩,⟨some 11,.fAddr 0 (.t 10),none⟩,⟨some 12,.load none (.t 11),none⟩,⟨some 13,.len 0 (.t 12),none⟩,⟨some 14,.bin .lss (.t 8) (.t 13),none⟩] [0,14] [] [])
 (.cond (.t 14)
 .skip
 (.exit 0)))
 (.block 1
 (.seq
 (.region [⟨some 15,.mv (.t 0),none⟩,⟨some 16,.chk (.t 15),none⟩,⟨some 17,.fAddr 0 (.t 16),none⟩,⟨some 18,.load none (.t 17),none⟩,⟨some 19,.mv (.t 0),none⟩,⟨some 20,.chk (.t 19),none⟩,⟨some 21,.fAddr 1 (.t 20),none⟩,⟨some 22,.load none (.t 21),none⟩,⟨some 23,.iStr (.t 18) (.t 22),none⟩,⟨some 3,.mv (.t 23),none⟩] [0,3] [] [])
 (.block 2
 (.seq
 (.region [⟨some 25,.mv (.t 3),none⟩,⟨some 26,.call 100 [(.t 25),(.k (.str [32,9,13,10]))],none⟩,⟨some 24,.mv (.t 26),none⟩] [0,3,24] [] [[],[25]])
 (.cond (.t 24)
 (.region [⟨some 27,.mv (.t 0),none⟩,⟨some 28,.chk (.t 27),none⟩,⟨some 29,.fAddr 1 (.t 28),none⟩,⟨some 30,.load none (.t 29),none⟩,⟨some 31,.bin .add (.t 30) (.k (.int .i64 1)),none⟩,⟨some 32,.chk (.t 27),none⟩,⟨some 33,.fAddr 1 (.t 32),none⟩,
 ⟨none,.store 1 (.t 33) (.t 31),none⟩] [0] [] [[],[],[28],[29],[30],[27],[32]])
 (.seq
 (.region [⟨some 35,.mv (.t 3),none⟩,⟨some 36,.bin .eql (.t 35) (.k (.int .u8 40)),none⟩,⟨some 34,.mv (.t 36),none⟩] [0,34] [] [[3],[35]])
 (.cond (.t 34)
 (.seq
 (.region [⟨some 4,.mv (.k (.int .i64 0)),none⟩] [0,4] [] [])
 (.block 3
 (.loop [0,4]
 (.block 4
 (.seq
 (.seq
 (.region [⟨some 37,.mv (.t 0),none⟩,⟨some 38,.chk (.t 37),none⟩,⟨some 39,.fAddr 1 (.t 38),none⟩,⟨some 40,.load none (.t 39),none⟩,⟨some 41,.mv (.t 0),none⟩,⟨some 42,.chk (.t 41),none⟩,⟨some 43,.fAddr 0 (.t 42),none⟩,⟨some 44,.load none (.t 43),none⟩,⟨some 45,.len 0 (.t 44),none⟩,⟨some 46,.bin .geq (.t 40) (.t 45),none⟩] [0,4,46] [] [])
 (.cond (.t 46)
 (.seq
 (.region [⟨some 2,.mv (.k (.bool false)),none⟩] [2] [] [])
 .ret)
 .skip))
 (.seq
 (.seq
 (.region [⟨some 47,.mv (.t 0),none⟩,⟨some 48,.chk (.t 47),none⟩,⟨some 49,.fAddr 0 (.t 48),none⟩,⟨some 50,.load none (.t 49),none⟩,⟨some 51,.mv (.t 0),none⟩,⟨some 52,.chk (.t 51),none⟩,⟨some 53,.fAddr 1 (.t 52),none⟩,⟨some 54,.load none (.t 53),none⟩,⟨some 55,.iStr (.t 50) (.t 54),none⟩] [0,4,55] [] [])
 (.block 5
 (.seq
 (.region [⟨some 57,.bin .eql (.t 55) (.k (.int .u8 92)),none⟩,⟨some 56,.mv (.t 57),none⟩] [0,4,55,56] [] [])
 (.cond (.t 56)
 (.region [⟨some 58,.mv (.t 0),none⟩,⟨some 59,.chk (.t 58),none⟩,⟨some 60,.fAddr 1 (.t 59),none⟩,⟨some 61,.load none (.t 60),none⟩,⟨some 62,.bin .add (.t 61) (.k (.int .i64 1)),none⟩,⟨some 63,.chk (.t 58),none⟩,⟨some 64,.fAddr 1 (.t 63),none⟩,
 ⟨none,.store 1 (.t 64) (.t 62),none⟩] [0,4] [] [[],[],[59],[60],[61],[58],[63]])
 (.seq
 (.region [⟨some 66,.bin .eql (.t 55) (.k (.int .u8 40)),none⟩,⟨some 65,.mv (.t 66),none⟩] [0,4,55,65] [] [])
 (.cond (.t 65)
 (.region [⟨some 67,.mv (.t 4),none⟩,⟨some 68,.bin .add (.t 67) (.k (.int .i64 1)),none⟩,⟨some 4,.mv (.t 68),none⟩] [0,4] [] [[],[67]])
 (.seq
 (.region [⟨some 70,.bin .eql (.t 55) (.k (.int .u8 41)),none⟩,⟨some 69,.mv (.t 70),none⟩] [0,4,69] [] [[55]])
 (.cond (.t 69)
 (.region [⟨some 71,.mv (.t 4),none⟩,⟨some 72,.bin .sub (.t 71) (.k (.int .i64 1)),none⟩,⟨some 4,.mv (.t 72),none⟩] [0,4] [] [[],[71]])
 .skip))))))))
 (.seq
 (.region [⟨some 73,.mv (.t 0),none⟩,⟨some 74,.chk (.t 73),none⟩,⟨some 75,.fAddr 1 (.t 74),none⟩,⟨some 76,.load none (.t 75),none⟩,⟨some 77,.bin .add (.t 76) (.k (.int .i64 1)),none⟩,⟨some 78,.chk (.t 73),none⟩,⟨some 79,.fAddr 1 (.t 78),none⟩,
 ⟨none,.store 1 (.t 79) (.t 77),none⟩] [0,4] [] [[],[],[74],[75],[76],[73],[78]])
 (.seq
 (.region [⟨some 80,.mv (.t 4),none⟩,⟨some 81,.bin .eql (.t 80) (.k (.int .i64 0)),none⟩] [0,4,81] [] [])
 (.cond (.t 81)
 (.exit 3)
 .skip)))))))))
 (.seq
 (.region [⟨some 2,.mv (.k (.bool true)),none⟩] [2] [] [])
 .ret)))))))))))
 (.seq
 (.region [⟨some 2,.mv (.k (.bool true)),none⟩] [2] [] [])
 .ret))),
 [.t 2]⟩

def l_spec_areader_blank:Lay:={ rg:=[(0,([0],[])),(1,([0,14],[])),(2,([0,3],[])),(3,([2],[])),(4,([0,3,24],[])),(5,([0],[])),(6,([0,34],[])),(7,([0,4],[])),(8,([0,4,46],[])),(9,([2],[])),(10,([0,4,55],[])),(11,([0,4,55,56],[])),(12,([0,4],[])),(13,([0,4,55,65],[])),(14,([0,4],[])),(15,([0,4,69],[])),(16,([0,4],[])),(17,([0,4],[])),(18,([0,4,81],[])),(19,([2],[])),(1000001,([0],[])),(1000008,([0,4],[]))],dd:=[(4,[[],[25]]),(5,[[],[],[28],[29],[30],[27],[32]]),(6,[[3],[35]]),(12,[[],[],[59],[60],[61],[58],[63]]),(14,[[],[67]]),(15,[[55]]),(16,[[],[71]]),(17,[[],[],[74],[75],[76],[73],[78]])] }

def c_spec_areader_has:SFn:=⟨2,
 (.seq
 (.region [⟨some 4,.mv (.k (.bool false)),none⟩] [0,1] [] [])
 (.seq
 (.seq
 (.region [⟨some 5,.mv (.t 0),none⟩,⟨some 6,.chk (.t 5),none⟩,⟨some 7,.fAddr 1 (.t 6),none⟩,⟨some 8,.load none (.t 7),none⟩,⟨some 9,.mv (.t 0),none⟩,⟨some 10,.chk (.t 9),none⟩,⟨some 11,.fAddr 0 (.t 10),none⟩,⟨some 12,.load none (.t 11),none⟩,⟨some 13,.len 0 (.t 12),none⟩,⟨some 14,.bin .lss (.t 8) (.t 13),none⟩,⟨some 15,.mv (.t 14),none⟩,⟨some 16,.mv (.t 0),some (15,true)⟩,⟨some 17,.chk (.t 16),some (15,true)⟩,⟨some 18,.fAddr 0 (.t 17),some (15,true)⟩,⟨some 19,.load none (.t 18),some (15,true)⟩,⟨some 20,.mv (.t 0),some (15,true)⟩,⟨some 21,.chk (.t 20),some (15,true)⟩,⟨some 22,.fAddr 1 (.t 21),some (15,true)⟩,⟨some 23,.load none (.t 22),some (15,true)⟩,⟨some 24,.iStr (.t 19) (.t 23),some (15,true)⟩,⟨some 25,.mv (.t 1),some (15,true)⟩,⟨some 26,.bin .eql (.t 24) (.t 25),some (15,true)⟩,⟨some 27,.pick (.t 15) (.t 26) (.k (.bool false)),none⟩] [0,27] [] [])
 (.cond (.t 27)
 (.seq
 (.region [⟨some 28,.mv (.t 0),none⟩,⟨some 29,.chk (.t 28),none⟩,⟨some 30,.fAddr 1 (.t 29),none⟩,⟨some 31,.load none (.t 30),none⟩,⟨some 32,.bin .add (.t 31) (.k (.int .i64 1)),none⟩,⟨some 33,.chk (.t 28),none⟩,⟨some 34,.fAddr 1 (.t 33),none⟩,
 ⟨none,.store 1 (.t 34) (.t 32),none⟩] [] [] [[0],[],[29],[30],[31],[28],[33]])
 (.seq
 (.region [⟨some 4,.mv (.k (.bool true)),none⟩] [4] [] [])
 .ret))
 .skip))
 (.seq
 (.region [⟨some 4,.mv (.k (.bool false)),none⟩] [4] [] [])
 .ret))),
 [.t 4]⟩

def l_spec_areader_has:Lay:={ rg:=[(0,([0,1],[])),(1,([0,27],[])),(2,([],[])),(3,([4],[])),(4,([4],[]))],dd:=[(2,[[0],[],[29],[30],[31],[28],[33]])] }

def b_spec_areader_word_1:SCode :=
 (.seq
 (.seq
 (.region [⟨some 10,.mv (.t 0),none⟩,⟨some 11,.chk (.t 10),none⟩,⟨some 12,.fAddr 1 (.t 11),none⟩,⟨some 13,.load none (.t 12),none⟩,⟨some 14,.mv (.t 0),none⟩,⟨some 15,.chk (.t 14),none⟩,⟨some 16,.fAddr 0 (.t 15),none⟩,⟨some 17,.load none (.t 16),none⟩,⟨some 18,.len 0 (.t 17),none⟩,⟨some 19,.bin .lss (.t 13) (.t 18),none⟩,⟨some 20,.mv (.t 19),none⟩,⟨some 21,.mv (.t 0),some (20,true)⟩,⟨some 22,.chk (.t 21),some (20,true)⟩,⟨some 23,.fAddr 0 (.t 22),some (20,true)⟩,⟨some 24,.load none (.t 23),some (20,true)⟩,⟨some 25,.mv (.t 0),some (20,true)⟩,⟨some 26,.chk (.t 25),some (20,true)⟩,⟨some 27,.fAddr 1 (.t 26),some (20,true)⟩,⟨some 28,.load none (.t 27),some (20,true)⟩,⟨some 29,.mv (.t 0),some (20,true)⟩,⟨some 30,.chk (.t 29),some (20,true)⟩,⟨some 31,.fAddr 1 (.t 30),some (20,true)⟩,⟨some 32,.load none (.t 31),some (20,true)⟩,⟨some 33,.bin .add (.t 32) (.k (.int .i64 1)),some (20,true)⟩,⟨some 34,.slStr (.t 24) (some (.t 28)) (some (.t 33)),some (20,true)⟩,⟨some 35,.call 104 [(.t 34)],some (20,true)⟩,⟨some 36,.mv (.t 35),some (20,true)⟩,⟨some 37,.mv (.t 0),some (36,false)⟩,⟨some 38,.chk (.t 37),some (36,false)⟩,⟨some 39,.fAddr 0 (.t 38),some (36,false)⟩,⟨some 40,.load none (.t 39),some (36,false)⟩,⟨some 41,.mv (.t 0),some (36,false)⟩,⟨some 42,.chk (.t 41),some (36,false)⟩,⟨some 43,.fAddr 1 (.t 42),some (36,false)⟩,⟨some 44,.load none (.t 43),some (36,false)⟩,⟨some 45,.iStr (.t 40) (.t 44),some (36,false)⟩,⟨some 46,.mv (.t 1),some (36,false)⟩,⟨some 47,.call 100 [(.t 45),(.t 46)],some (36,false)⟩,⟨some 48,.pick (.t 36) (.k (.bool true)) (.t 47),some (20,true)⟩,⟨some 49,.pick (.t 20) (.t 48) (.k (.bool false)),none⟩] [0,1,5,49] [] [])
 (.cond (.t 49)
 .skip
 (.exit 0)))
 (.block 1
 (.region [⟨some 50,.mv (.t 0),none⟩,⟨some 51,.chk (.t 50),none⟩,⟨some 52,.fAddr 1 (.t 51),none⟩,⟨some 53,.load none (.t 52),none⟩,⟨some 54,.bin .add (.t 53) (.k (.int .i64 1)),none⟩,⟨some 55,.chk (.t 50),none⟩,⟨some 56,.fAddr 1 (.t 55),none⟩,
 ⟨none,.store 1 (.t 56) (.t 54),none⟩] [0,1,5] [] [[],[],[51],[52],[53],[50],[55]])))

def t_spec_areader_word_2:SCode :=
 (.seq
 (.region [⟨some 57,.mv (.t 0),none⟩,⟨some 58,.chk (.t 57),none⟩,⟨some 59,.fAddr 0 (.t 58),none⟩,⟨some 60,.load none (.t 59),none⟩,⟨some 61,.mv (.t 5),none⟩,⟨some 62,.mv (.t 0),none⟩,⟨some 63,.chk (.t 62),none⟩,⟨some 64,.fAddr 1 (.t 63),none⟩,⟨some 65,.load none (.t 64),none⟩,⟨some 66,.slStr (.t 60) (some (.t 61)) (some (.t 65)),none⟩,⟨some 4,.mv (.t 66),none⟩] [4] [] [])
 .ret)

def c_spec_areader_word:SFn:=⟨2,
 (.seq
 (.region [⟨some 4,.mv (.k (.str [])),none⟩] [0,1] [] [])
 (.seq
 (.region [⟨some 6,.mv (.t 0),none⟩,⟨some 7,.chk (.t 6),none⟩,⟨some 8,.fAddr 1 (.t 7),none⟩,⟨some 9,.load none (.t 8),none⟩,⟨some 5,.mv (.t 9),none⟩] [0,1,5] [] [[],[6],[7],[8]])
 (.seq
 (.block 0
 (.loop [0,1,5]
 b_spec_areader_word_1))
 t_spec_areader_word_2))),
 [.t 4]⟩

def l_spec_areader_word:Lay:={ rg:=[(0,([0,1],[])),(1,([0,1,5],[])),(2,([0,1,5,49],[])),(3,([0,1,5],[])),(4,([4],[])),(1000002,([0,1,5],[]))],dd:=[(1,[[],[6],[7],[8]]),(3,[[],[],[51],[52],[53],[50],[55]])] }

def b_spec_areader_quoted_1:SCode :=
 (.seq
 (.seq
 (.region [⟨some 6,.mv (.t 0),none⟩,⟨some 7,.chk (.t 6),none⟩,⟨some 8,.fAddr 1 (.t 7),none⟩,⟨some 9,.load none (.t 8),none⟩,⟨some 10,.mv (.t 0),none⟩,⟨some 11,.chk (.t 10),none⟩,⟨some 12,.fAddr 0 (.t 11),none⟩,⟨some 13,.load none (.t 12),none⟩,⟨some 14,.len 0 (.t 13),none⟩,⟨some 15,.bin .lss (.t 9) (.t 14),none⟩] [0,4,15] [] [])
 (.cond (.t 15)
 .skip
 (.exit 0)))
 (.block 1
 (.seq
 (.region [⟨some 16,.mv (.t 0),none⟩,⟨some 17,.chk (.t 16),none⟩,⟨some 18,.fAddr 0 (.t 17),none⟩,⟨some 19,.load none (.t 18),none⟩,⟨some 20,.mv (.t 0),none⟩,⟨some 21,.chk (.t 20),none⟩,⟨some 22,.fAddr 1 (.t 21),none⟩,⟨some 23,.load none (.t 22),none⟩,⟨some 24,.iStr (.t 19) (.t 23),none⟩,⟨some 5,.mv (.t 24),none⟩] [0,4,5] [] [])
 (.seq
 (.region [⟨some 25,.mv (.t 0),none⟩,⟨some 26,.chk (.t 25),none⟩,⟨some 27,.fAddr 1 (.t 26),none⟩,⟨some 28,.load none (.t 27),none⟩,⟨some 29,.bin .add (.t 28) (.k (.int .i64 1)),none⟩,⟨some 30,.chk (.t 25),none⟩,⟨some 31,.fAddr 1 (.t 30),none⟩,
 ⟨none,.store 1 (.t 31) (.t 29),none⟩] [0,4,5] [] [[],[],[26],[27],[28],[25],[30]])
 (.seq
 (.seq
 (.region [⟨some 32,.mv (.t 5),none⟩] [0,4,5,32] [] [])
 (.block 2
 (.seq
 (.region [⟨some 34,.bin .eql (.t 32) (.k (.int .u8 34)),none⟩,⟨some 33,.mv (.t 34),none⟩] [0,4,5,32,33] [] [])
 (.cond (.t 33)
 (.seq
 (.region [⟨some 35,.mv (.t 4),none⟩,⟨some 36,.cBytesStr (.t 35),none⟩,⟨some 2,.mv (.t 36),none⟩,⟨some 3,.mv (.k (.bool true)),none⟩] [2,3] [71] [[4],[35],[36]])
 .ret)
 (.seq
 (.region [⟨some 38,.bin .eql (.t 32) (.k (.int .u8 92)),none⟩,⟨some 37,.mv (.t 38),none⟩] [0,4,5,32,37] [] [])
 (.cond (.t 37)
 (.seq
 (.seq
 (.region [⟨some 39,.mv (.t 0),none⟩,⟨some 40,.chk (.t 39),none⟩,⟨some 41,.fAddr 1 (.t 40),none⟩,⟨some 42,.load none (.t 41),none⟩,⟨some 43,.mv (.t 0),none⟩,⟨some 44,.chk (.t 43),none⟩,⟨some 45,.fAddr 0 (.t 44),none⟩,⟨some 46,.load none (.t 45),none⟩,⟨some 47,.len 0 (.t 46),none⟩,⟨some 48,.bin .geq (.t 42) (.t 47),none⟩] [0,4,48] [] [])
 (.cond (.t 48)
 (.seq
 (.region [⟨some 2,.mv (.k (.str [])),none⟩,⟨some 3,.mv (.k (.bool false)),none⟩] [2,3] [71] [])
 .ret)
 .skip))
 (.seq
 (.region [⟨some 49,.mv (.t 0),none⟩,⟨some 50,.chk (.t 49),none⟩,⟨some 51,.fAddr 0 (.t 50),none⟩,⟨some 52,.load none (.t 51),none⟩,⟨some 53,.mv (.t 0),none⟩,⟨some 54,.chk (.t 53),none⟩,⟨some 55,.fAddr 1 (.t 54),none⟩,⟨some 56,.load none (.t 55),none⟩,⟨some 57,.iStr (.t 52) (.t 56),none⟩,⟨some 5,.mv (.t 57),none⟩] [0,4,5] [] [])
 (.region [⟨some 58,.mv (.t 0),none⟩,⟨some 59,.chk (.t 58),none⟩,⟨some 60,.fAddr 1 (.t 59),none⟩,⟨some 61,.load none (.t 60),none⟩,⟨some 62,.bin .add (.t 61) (.k (.int .i64 1)),none⟩,⟨some 63,.chk (.t 58),none⟩,⟨some 64,.fAddr 1 (.t 63),none⟩,
 ⟨none,.store 1 (.t 64) (.t 62),none⟩] [0,4,5] [] [[],[],[59],[60],[61],[58],[63]])))
 (.seq
 (.seq
 (.region [⟨some 66,.bin .eql (.t 32) (.k (.int .u8 13)),none⟩,⟨some 65,.mv (.t 66),none⟩] [0,4,5,32,65] [] [])
 (.cond (.t 65)
 .skip
 (.region [⟨some 67,.bin .eql (.t 32) (.k (.int .u8 10)),none⟩,⟨some 65,.mv (.t 67),none⟩] [0,4,5,65] [] [[32]])))
 (.cond (.t 65)
 (.exit 1)
 .skip))))))))
 (.region [⟨some 68,.mv (.t 4),none⟩,⟨some 69,.mv (.t 5),none⟩,⟨some 70,.mkSl 1 1 [(.int .u8 0)] [(0,(.t 69))],none⟩,⟨some 71,.app 1 1 (.t 68) (.t 70),none⟩,⟨some 4,.mv (.t 71),none⟩] [0,4] [70] [[],[5],[69],[68,70]]))))))

def t_spec_areader_quoted_2:SCode :=
 (.seq
 (.region [⟨some 2,.mv (.k (.str [])),none⟩,⟨some 3,.mv (.k (.bool false)),none⟩] [2,3] [71] [])
 .ret)

def c_spec_areader_quoted:SFn:=⟨1,
 (.seq
 (.region [⟨some 2,.mv (.k (.str [])),none⟩,⟨some 3,.mv (.k (.bool false)),none⟩] [0] [] [[2]])
 (.seq
 (.region [⟨some 4,.mv (.k .nilS),none⟩] [0,4] [] [])
 (.seq
 (.block 0
 (.loop [0,4]
 b_spec_areader_quoted_1))
 t_spec_areader_quoted_2))),
 [.t 2,.t 3]⟩

def l_spec_areader_quoted:Lay:={ rg:=[(0,([0],[])),(1,([0,4],[])),(2,([0,4,15],[])),(3,([0,4,5],[])),(4,([0,4,5],[])),(5,([0,4,5,32],[])),(6,([0,4,5,32,33],[])),(7,([2,3],[71])),(8,([0,4,5,32,37],[])),(9,([0,4,48],[])),(10,([2,3],[71])),(11,([0,4,5],[])),(12,([0,4,5],[])),(13,([0,4,5,32,65],[])),(14,([0,4,5,65],[])),(15,([0,4],[70])),(16,([2,3],[71])),(1000002,([0,4],[]))],dd:=[(0,[[2]]),(4,[[],[],[26],[27],[28],[25],[30]]),(7,[[4],[35],[36]]),(12,[[],[],[59],[60],[61],[58],[63]]),(14,[[32]]),(15,[[],[5],[69],[68,70]])] }

def c_spec_areader_value:SFn:=⟨2,
 (.seq
 (.region [⟨some 4,.mv (.k (.str [])),none⟩,⟨some 5,.mv (.k (.bool false)),none⟩] [0,1] [] [[4]])
 (.seq
 (.seq
 (.region [⟨some 7,.mv (.t 0),none⟩,⟨some 8,.callS 224 [(.t 7),(.k (.int .u8 34))],none⟩] [0,1,8] [] [])
 (.cond (.t 8)
 (.seq
 (.region [⟨some 9,.mv (.t 0),none⟩,⟨some 10,.callS 225 [(.t 9)],none⟩,⟨some 11,.extr (.t 10) 0,none⟩,⟨some 12,.extr (.t 10) 1,none⟩,⟨some 4,.mv (.t 11),none⟩,⟨some 5,.mv (.t 12),none⟩] [4,5] [8,100008] [[0],[9],[],[10],[11]])
 .ret)
 .skip))
 (.seq
 (.region [⟨some 13,.mv (.t 0),none⟩,⟨some 14,.mv (.t 1),none⟩,⟨some 15,.callS 226 [(.t 13),(.t 14)],none⟩,⟨some 6,.mv (.t 15),none⟩] [6] [8,100008] [[0],[1],[13,14]])
 (.seq
 (.region [⟨some 16,.mv (.t 6),none⟩,⟨some 17,.mv (.t 6),none⟩,⟨some 18,.bin .neq (.t 17) (.k (.str [])),none⟩,⟨some 4,.mv (.t 16),none⟩,⟨some 5,.mv (.t 18),none⟩] [4,5] [] [[],[6],[17],[16]])
 .ret)))),
 [.t 4,.t 5]⟩

def l_spec_areader_value:Lay:={ rg:=[(0,([0,1],[])),(1,([0,1,8],[])),(2,([4,5],[8,100008])),(3,([6],[8,100008])),(4,([4,5],[]))],dd:=[(0,[[4]]),(2,[[0],[9],[],[10],[11]]),(3,[[0],[1],[13,14]]),(4,[[],[6],[17],[16]])],sf:=[224,225,226] }

def f_spec_areader_info_1:SCode :=
 (.seq
 (.region [⟨some 150,.mv (.t 5),none⟩,⟨some 151,.call 102 [(.t 150),(.k (.int .u8 46))],none⟩,⟨some 149,.mv (.t 151),none⟩,⟨some 152,.extr (.t 149) 0,none⟩,⟨some 153,.extr (.t 149) 1,none⟩,⟨some 154,.extr (.t 149) 2,none⟩,⟨some 8,.mv (.t 152),none⟩,⟨some 9,.mv (.t 153),none⟩,⟨some 10,.mv (.t 154),none⟩] [0,2,8,9,10] [110,100110] [[5],[150],[151],[],[],[149],[152],[153]])
 (.seq
 (.region [⟨some 156,.mv (.t 0),none⟩,⟨some 157,.callS 228 [(.t 156),(.k (.str [64,58]))],none⟩,⟨some 155,.mv (.t 157),none⟩,⟨some 158,.extr (.t 155) 0,none⟩,⟨some 159,.extr (.t 155) 1,none⟩,⟨some 11,.mv (.t 158),none⟩,⟨some 12,.mv (.t 159),none⟩] [0,2,8,9,10,11,12] [] [[],[156],[157],[],[155],[158]])
 (.seq
 (.seq
 (.region [⟨some 160,.mv (.t 12),none⟩,⟨some 161,.un .not (.t 160),none⟩,⟨some 162,.mv (.t 161),none⟩,⟨some 163,.mv (.t 10),some (162,false)⟩,⟨some 164,.un .not (.t 163),some (162,false)⟩,⟨some 165,.pick (.t 162) (.k (.bool true)) (.t 164),none⟩,⟨some 166,.mv (.t 165),none⟩,⟨some 167,.mv (.t 8),some (166,false)⟩,⟨some 168,.call 99 [(.t 167)],some (166,false)⟩,⟨some 169,.un .not (.t 168),some (166,false)⟩,⟨some 170,.pick (.t 166) (.k (.bool true)) (.t 169),none⟩,⟨some 171,.mv (.t 170),none⟩,⟨some 172,.mv (.t 9),some (171,false)⟩,⟨some 173,.bin .eql (.t 172) (.k (.str [])),some (171,false)⟩,⟨some 174,.pick (.t 171) (.k (.bool true)) (.t 173),none⟩] [0,2,8,9,11,174] [] [[12],[160],[161],[10],[163],[162,164],[165],[],[167],[168],[166,169],[170],[],[172]])
 (.cond (.t 174)
 (.seq
 (.seq
 (.region [⟨some 175,.load (some 5) (.t 2),none⟩,
 ⟨none,.store 5 (.t 2) (.t 175),none⟩,⟨some 3,.mv (.k (.bool false)),none⟩,⟨some 4,.mv (.k (.bool false)),none⟩] [2,3,4] [] [[],[175]])
 (.ghost [.frz 183]))
 .ret)
 .skip))
 (.region [⟨some 176,.fAddr 4 (.t 2),none⟩,⟨some 177,.load none (.t 176),none⟩,⟨some 178,.mv (.t 8),none⟩,⟨some 179,.mv (.t 9),none⟩,⟨some 180,.mv (.t 11),none⟩,⟨some 181,.agg [(.str []),(.str []),(.str [])] [(0,1,(.t 178)),(1,1,(.t 179)),(2,1,(.t 180))],none⟩,⟨some 182,.mkSl 3 1 [(.str []),(.str []),(.str [])] [(0,(.t 181))],none⟩,⟨some 183,.app 3 48 (.t 177) (.t 182),none⟩,⟨some 184,.fAddr 4 (.t 2),none⟩,
 ⟨none,.store 1 (.t 184) (.t 183),none⟩] [0,2] [182] [[],[176],[8],[9],[11],[178,179,180],[181],[177,182]]))))

def f_spec_areader_info_2:SCode :=
 (.seq
 (.seq
 (.region [⟨some 125,.mv (.t 5),none⟩,⟨some 126,.call 112 [(.t 125)],none⟩,⟨some 127,.bin .eql (.t 126) (.k (.str [114,101,97,115,111,110])),none⟩] [0,2,5,127] [] [[],[125]])
 (.cond (.t 127)
 (.seq
 (.region [⟨some 129,.mv (.t 0),none⟩,⟨some 130,.callS 228 [(.t 129),(.k (.str []))],none⟩,⟨some 128,.mv (.t 130),none⟩,⟨some 131,.extr (.t 128) 0,none⟩,⟨some 132,.extr (.t 128) 1,none⟩,⟨some 6,.mv (.t 131),none⟩,⟨some 7,.mv (.t 132),none⟩] [0,2,6,7] [110,100110] [[],[129],[130],[],[128],[131]])
 (.seq
 (.seq
 (.region [⟨some 133,.mv (.t 7),none⟩,⟨some 134,.un .not (.t 133),none⟩,⟨some 135,.mv (.t 134),none⟩,⟨some 136,.fAddr 3 (.t 2),some (135,false)⟩,⟨some 137,.load none (.t 136),some (135,false)⟩,⟨some 138,.bin .neq (.t 137) (.k (.str [])),some (135,false)⟩,⟨some 139,.pick (.t 135) (.k (.bool true)) (.t 138),none⟩,⟨some 140,.mv (.t 139),none⟩,⟨some 141,.fAddr 4 (.t 2),some (140,false)⟩,⟨some 142,.load none (.t 141),some (140,false)⟩,⟨some 143,.len 1 (.t 142),some (140,false)⟩,⟨some 144,.bin .gtr (.t 143) (.k (.int .i64 0)),some (140,false)⟩,⟨some 145,.pick (.t 140) (.k (.bool true)) (.t 144),none⟩] [0,2,6,145] [] [[7],[133],[134],[],[136],[137],[135,138],[139],[],[141],[142],[143]])
 (.cond (.t 145)
 (.seq
 (.seq
 (.region [⟨some 146,.load (some 5) (.t 2),none⟩,
 ⟨none,.store 5 (.t 2) (.t 146),none⟩,⟨some 3,.mv (.k (.bool false)),none⟩,⟨some 4,.mv (.k (.bool false)),none⟩] [2,3,4] [] [[],[146]])
 (.ghost [.frz 183]))
 .ret)
 .skip))
 (.seq
 (.region [⟨some 147,.mv (.t 6),none⟩,⟨some 148,.fAddr 3 (.t 2),none⟩,
 ⟨none,.store 1 (.t 148) (.t 147),none⟩] [0,2] [] [[6]])
 (.exit 1))))
 .skip))
 f_spec_areader_info_1)

def f_spec_areader_info_3:SCode :=
 (.seq
 (.region [⟨some 109,.mv (.t 0),none⟩,⟨some 110,.callS 226 [(.t 109),(.k (.str []))],none⟩,⟨some 5,.mv (.t 110),none⟩] [0,2,5] [] [[],[109]])
 (.seq
 (.seq
 (.region [⟨some 111,.mv (.t 0),none⟩,⟨some 112,.callS 227 [(.t 111)],none⟩,⟨some 113,.un .not (.t 112),none⟩,⟨some 114,.mv (.t 113),none⟩,⟨some 115,.mv (.t 0),some (114,false)⟩,⟨some 116,.callS 224 [(.t 115),(.k (.int .u8 61))],some (114,false)⟩,⟨some 117,.un .not (.t 116),some (114,false)⟩,⟨some 118,.pick (.t 114) (.k (.bool true)) (.t 117),none⟩,⟨some 119,.mv (.t 118),none⟩,⟨some 120,.mv (.t 0),some (119,false)⟩,⟨some 121,.callS 227 [(.t 120)],some (119,false)⟩,⟨some 122,.un .not (.t 121),some (119,false)⟩,⟨some 123,.pick (.t 119) (.k (.bool true)) (.t 122),none⟩] [0,2,5,123] [112,116,121,100112,100116,100121] [[],[111],[112],[113],[],[115],[116],[114,117],[118],[],[120],[121]])
 (.cond (.t 123)
 (.seq
 (.seq
 (.region [⟨some 124,.load (some 5) (.t 2),none⟩,
 ⟨none,.store 5 (.t 2) (.t 124),none⟩,⟨some 3,.mv (.k (.bool false)),none⟩,⟨some 4,.mv (.k (.bool false)),none⟩] [2,3,4] [110,100110] [[],[124]])
 (.ghost [.frz 183]))
 .ret)
 .skip))
 f_spec_areader_info_2))

def f_spec_areader_info_4:SCode :=
 (.seq
 (.seq
 (.region [⟨some 86,.mv (.t 0),none⟩,⟨some 87,.chk (.t 86),none⟩,⟨some 88,.fAddr 1 (.t 87),none⟩,⟨some 89,.load none (.t 88),none⟩,⟨some 90,.mv (.t 0),none⟩,⟨some 91,.chk (.t 90),none⟩,⟨some 92,.fAddr 0 (.t 91),none⟩,⟨some 93,.load none (.t 92),none⟩,⟨some 94,.len 0 (.t 93),none⟩,⟨some 95,.bin .eql (.t 89) (.t 94),none⟩,⟨some 96,.mv (.t 95),none⟩,⟨some 97,.mv (.t 0),some (96,false)⟩,⟨some 98,.chk (.t 97),some (96,false)⟩,⟨some 99,.fAddr 0 (.t 98),some (96,false)⟩,⟨some 100,.load none (.t 99),some (96,false)⟩,⟨some 101,.mv (.t 0),some (96,false)⟩,⟨some 102,.chk (.t 101),some (96,false)⟩,⟨some 103,.fAddr 1 (.t 102),some (96,false)⟩,⟨some 104,.load none (.t 103),some (96,false)⟩,⟨some 105,.iStr (.t 100) (.t 104),some (96,false)⟩,⟨some 106,.bin .eql (.t 105) (.k (.int .u8 59)),some (96,false)⟩,⟨some 107,.pick (.t 96) (.k (.bool true)) (.t 106),none⟩] [0,2,107] [] [])
 (.cond (.t 107)
 (.seq
 (.seq
 (.region [⟨some 108,.load (some 5) (.t 2),none⟩,
 ⟨none,.store 5 (.t 2) (.t 108),none⟩,⟨some 3,.mv (.k (.bool false)),none⟩,⟨some 4,.mv (.k (.bool true)),none⟩] [2,3,4] [] [[],[108]])
 (.ghost [.frz 183]))
 .ret)
 .skip))
 f_spec_areader_info_3)

def b_spec_areader_info_5:SCode :=
 (.block 1
 (.seq
 (.seq
 (.region [⟨some 82,.mv (.t 0),none⟩,⟨some 83,.callS 227 [(.t 82)],none⟩,⟨some 84,.un .not (.t 83),none⟩] [0,2,84] [83,100083] [[],[82]])
 (.cond (.t 84)
 (.seq
 (.seq
 (.region [⟨some 85,.load (some 5) (.t 2),none⟩,
 ⟨none,.store 5 (.t 2) (.t 85),none⟩,⟨some 3,.mv (.k (.bool false)),none⟩,⟨some 4,.mv (.k (.bool false)),none⟩] [2,3,4] [] [[],[85]])
 (.ghost [.frz 183]))
 .ret)
 .skip))
 f_spec_areader_info_4))

def f_spec_areader_info_6:SCode :=
 (.seq
 (.region [⟨some 74,.mv (.t 0),none⟩,⟨some 75,.callS 226 [(.t 74),(.k (.str []))],none⟩,⟨some 76,.fAddr 2 (.t 2),none⟩,
 ⟨none,.store 1 (.t 76) (.t 75),none⟩] [0,2] [] [[],[74]])
 (.seq
 (.seq
 (.region [⟨some 77,.fAddr 2 (.t 2),none⟩,⟨some 78,.load none (.t 77),none⟩,⟨some 79,.call 99 [(.t 78)],none⟩,⟨some 80,.un .not (.t 79),none⟩] [0,2,80] [] [[],[77],[78]])
 (.cond (.t 80)
 (.seq
 (.region [⟨some 81,.load (some 5) (.t 2),none⟩,
 ⟨none,.store 5 (.t 2) (.t 81),none⟩,⟨some 3,.mv (.k (.bool false)),none⟩,⟨some 4,.mv (.k (.bool false)),none⟩] [2,3,4] [] [[],[81]])
 .ret)
 .skip))
 (.block 0
 (.loop [0,2]
 b_spec_areader_info_5))))

def f_spec_areader_info_7:SCode :=
 (.seq
 (.seq
 (.region [⟨some 65,.mv (.t 0),none⟩,⟨some 66,.callS 224 [(.t 65),(.k (.int .u8 61))],none⟩,⟨some 67,.un .not (.t 66),none⟩,⟨some 68,.mv (.t 67),none⟩,⟨some 69,.mv (.t 0),some (68,false)⟩,⟨some 70,.callS 227 [(.t 69)],some (68,false)⟩,⟨some 71,.un .not (.t 70),some (68,false)⟩,⟨some 72,.pick (.t 68) (.k (.bool true)) (.t 71),none⟩] [0,2,72] [48,66,70,100048,100066,100070] [[],[65],[66],[67],[],[69],[70]])
 (.cond (.t 72)
 (.seq
 (.region [⟨some 73,.load (some 5) (.t 2),none⟩,
 ⟨none,.store 5 (.t 2) (.t 73),none⟩,⟨some 3,.mv (.k (.bool false)),none⟩,⟨some 4,.mv (.k (.bool false)),none⟩] [2,3,4] [] [[],[73]])
 .ret)
 .skip))
 f_spec_areader_info_6)

def f_spec_areader_info_8:SCode :=
 (.seq
 (.seq
 (.region [⟨some 47,.mv (.t 0),none⟩,⟨some 48,.callS 224 [(.t 47),(.k (.int .u8 47))],none⟩] [0,2,48] [] [])
 (.cond (.t 48)
 (.seq
 (.seq
 (.region [⟨some 49,.mv (.t 0),none⟩,⟨some 50,.callS 227 [(.t 49)],none⟩,⟨some 51,.un .not (.t 50),none⟩] [0,2,51] [48,50,100048,100050] [[],[49]])
 (.cond (.t 51)
 (.seq
 (.region [⟨some 52,.load (some 5) (.t 2),none⟩,
 ⟨none,.store 5 (.t 2) (.t 52),none⟩,⟨some 3,.mv (.k (.bool false)),none⟩,⟨some 4,.mv (.k (.bool false)),none⟩] [2,3,4] [] [[],[52]])
 .ret)
 .skip))
 (.seq
 (.region [⟨some 53,.mv (.t 0),none⟩,⟨some 54,.callS 226 [(.t 53),(.k (.str []))],none⟩,⟨some 55,.fAddr 1 (.t 2),none⟩,
 ⟨none,.store 1 (.t 55) (.t 54),none⟩] [0,2] [] [[],[53]])
 (.seq
 (.region [⟨some 56,.fAddr 1 (.t 2),none⟩,⟨some 57,.load none (.t 56),none⟩,⟨some 58,.bin .eql (.t 57) (.k (.str [])),none⟩,⟨some 59,.mv (.t 58),none⟩,⟨some 60,.mv (.t 0),some (59,false)⟩,⟨some 61,.callS 227 [(.t 60)],some (59,false)⟩,⟨some 62,.un .not (.t 61),some (59,false)⟩,⟨some 63,.pick (.t 59) (.k (.bool true)) (.t 62),none⟩] [0,2,63] [61,100061] [[],[56],[57],[58],[],[60],[61]])
 (.cond (.t 63)
 (.seq
 (.region [⟨some 64,.load (some 5) (.t 2),none⟩,
 ⟨none,.store 5 (.t 2) (.t 64),none⟩,⟨some 3,.mv (.k (.bool false)),none⟩,⟨some 4,.mv (.k (.bool false)),none⟩] [2,3,4] [] [[],[64]])
 .ret)
 .skip))))
 .skip))
 f_spec_areader_info_7)

def f_spec_areader_info_9:SCode :=
 (.seq
 (.seq
 (.region [⟨some 30,.fAddr 0 (.t 2),none⟩,⟨some 31,.load none (.t 30),none⟩,⟨some 32,.call 112 [(.t 31)],none⟩,⟨some 33,.bin .eql (.t 32) (.k (.str [110,111,110,101])),none⟩,⟨some 34,.mv (.t 33),none⟩,⟨some 35,.mv (.t 0),some (34,true)⟩,⟨some 36,.chk (.t 35),some (34,true)⟩,⟨some 37,.fAddr 1 (.t 36),some (34,true)⟩,⟨some 38,.load none (.t 37),some (34,true)⟩,⟨some 39,.mv (.t 0),some (34,true)⟩,⟨some 40,.chk (.t 39),some (34,true)⟩,⟨some 41,.fAddr 0 (.t 40),some (34,true)⟩,⟨some 42,.load none (.t 41),some (34,true)⟩,⟨some 43,.len 0 (.t 42),some (34,true)⟩,⟨some 44,.bin .eql (.t 38) (.t 43),some (34,true)⟩,⟨some 45,.pick (.t 34) (.t 44) (.k (.bool false)),none⟩] [0,2,45] [] [])
 (.cond (.t 45)
 (.seq
 (.region [⟨some 46,.load (some 5) (.t 2),none⟩,
 ⟨none,.store 5 (.t 2) (.t 46),none⟩,⟨some 3,.mv (.k (.bool true)),none⟩,⟨some 4,.mv (.k (.bool true)),none⟩] [2,3,4] [] [[],[46]])
 .ret)
 .skip))
 f_spec_areader_info_8)

def f_spec_areader_info_10:SCode :=
 (.seq
 (.region [⟨some 17,.mv (.t 0),none⟩,⟨some 18,.callS 226 [(.t 17),(.k (.str []))],none⟩,⟨some 19,.fAddr 0 (.t 2),none⟩,
 ⟨none,.store 1 (.t 19) (.t 18),none⟩] [0,2] [] [[],[17]])
 (.seq
 (.seq
 (.region [⟨some 20,.fAddr 0 (.t 2),none⟩,⟨some 21,.load none (.t 20),none⟩,⟨some 22,.call 99 [(.t 21)],none⟩,⟨some 23,.un .not (.t 22),none⟩,⟨some 24,.mv (.t 23),none⟩,⟨some 25,.mv (.t 0),some (24,false)⟩,⟨some 26,.callS 227 [(.t 25)],some (24,false)⟩,⟨some 27,.un .not (.t 26),some (24,false)⟩,⟨some 28,.pick (.t 24) (.k (.bool true)) (.t 27),none⟩] [0,2,28] [26,100026] [[],[20],[21],[22],[23],[],[25],[26]])
 (.cond (.t 28)
 (.seq
 (.region [⟨some 29,.load (some 5) (.t 2),none⟩,
 ⟨none,.store 5 (.t 2) (.t 29),none⟩,⟨some 3,.mv (.k (.bool false)),none⟩,⟨some 4,.mv (.k (.bool false)),none⟩] [2,3,4] [] [[],[29]])
 .ret)
 .skip))
 f_spec_areader_info_9))

def c_spec_areader_info:SFn:=⟨1,
 (.seq
 (.region [⟨some 2,.alloc [(.str []),(.str []),(.str []),(.str []),.nilS],none⟩,⟨some 3,.mv (.k (.bool false)),none⟩,⟨some 4,.mv (.k (.bool false)),none⟩] [0,2] [] [[],[3]])
 (.seq
 (.seq
 (.region [⟨some 13,.mv (.t 0),none⟩,⟨some 14,.callS 227 [(.t 13)],none⟩,⟨some 15,.un .not (.t 14),none⟩] [0,2,15] [14,100014] [[],[13]])
 (.cond (.t 15)
 (.seq
 (.region [⟨some 16,.load (some 5) (.t 2),none⟩,
 ⟨none,.store 5 (.t 2) (.t 16),none⟩,⟨some 3,.mv (.k (.bool false)),none⟩,⟨some 4,.mv (.k (.bool false)),none⟩] [2,3,4] [] [[],[16]])
 .ret)
 .skip))
 f_spec_areader_info_10)),
 [.c (some 5) 2,.t 3,.t 4]⟩

def l_spec_areader_info:Lay:={ rg:=[(0,([0,2],[])),(1,([0,2,15],[14,100014])),(2,([2,3,4],[])),(3,([0,2],[])),(4,([0,2,28],[26,100026])),(5,([2,3,4],[])),(6,([0,2,45],[])),(7,([2,3,4],[])),(8,([0,2,48],[])),(9,([0,2,51],[48,50,100048,100050])),(10,([2,3,4],[])),(11,([0,2],[])),(12,([0,2,63],[61,100061])),(13,([2,3,4],[])),(14,([0,2,72],[48,66,70,100048,100066,100070])),(15,([2,3,4],[])),(16,([0,2],[])),(17,([0,2,80],[])),(18,([2,3,4],[])),(19,([0,2,84],[83,100083])),(20,([2,3,4],[])),(21,([0,2,107],[])),(22,([2,3,4],[])),(23,([0,2,5],[])),(24,([0,2,5,123],[112,116,121,100112,100116,100121])),(25,([2,3,4],[110,100110])),(26,([0,2,5,127],[])),(27,([0,2,6,7],[110,100110])),(28,([0,2,6,145],[])),(29,([2,3,4],[])),(30,([0,2],[])),(31,([0,2,8,9,10],[110,100110])),(32,([0,2,8,9,10,11,12],[])),(33,([0,2,8,9,11,174],[])),(34,([2,3,4],[])),(35,([0,2],[182])),(1000019,([0,2],[]))],dd:=[(0,[[],[3]]),(1,[[],[13]]),(2,[[],[16]]),(3,[[],[17]]),(4,[[],[20],[21],[22],[23],[],[25],[26]]),(5,[[],[29]]),(7,[[],[46]]),(9,[[],[49]]),(10,[[],[52]]),(11,[[],[53]]),(12,[[],[56],[57],[58],[],[60],[61]]),(13,[[],[64]]),(14,[[],[65],[66],[67],[],[69],[70]]),(15,[[],[73]]),(16,[[],[74]]),(17,[[],[77],[78]]),(18,[[],[81]]),(19,[[],[82]]),(20,[[],[85]]),(22,[[],[108]]),(23,[[],[109]]),(24,[[],[111],[112],[113],[],[115],[116],[114,117],[118],[],[120],[121]]),(25,[[],[124]]),(26,[[],[125]]),(27,[[],[129],[130],[],[128],[131]]),(28,[[7],[133],[134],[],[136],[137],[135,138],[139],[],[141],[142],[143]]),(29,[[],[146]]),(30,[[6]]),(31,[[5],[150],[151],[],[],[149],[152],[153]]),(32,[[],[156],[157],[],[155],[158]]),(33,[[12],[160],[161],[10],[163],[162,164],[165],[],[167],[168],[166,169],[170],[],[172]]),(34,[[],[175]]),(35,[[],[176],[8],[9],[11],[178,179,180],[181],[177,182]])],gh:=[(20,[.frz 183]),(22,[.frz 183]),(25,[.frz 183]),(29,[.frz 183]),(34,[.frz 183])],sf:=[224,226,227,228] }

def b_spec_ARead_1:SCode :=
 (.seq
 (.seq
 (.region [⟨some 68,.mv (.t 4),none⟩,⟨some 69,.chk (.t 68),none⟩,⟨some 70,.fAddr 1 (.t 69),none⟩,⟨some 71,.load none (.t 70),none⟩,⟨some 72,.mv (.t 4),none⟩,⟨some 73,.chk (.t 72),none⟩,⟨some 74,.fAddr 0 (.t 73),none⟩,⟨some 75,.load none (.t 74),none⟩,⟨some 76,.len 0 (.t 75),none⟩,⟨some 77,.bin .lss (.t 71) (.t 76),none⟩] [2,4,5,8,77] [] [])
 (.cond (.t 77)
 .skip
 (.exit 0)))
 (.seq
 (.block 1
 (.seq
 (.seq
 (.region [⟨some 80,.mv (.t 4),none⟩,⟨some 81,.callS 224 [(.t 80),(.k (.int .u8 59))],none⟩,⟨some 82,.un .not (.t 81),none⟩] [2,4,5,8,82] [] [[],[80]])
 (.cond (.t 82)
 (.seq
 (.region [⟨some 83,.load (some 3) (.t 5),none⟩,
 ⟨none,.store 3 (.t 2) (.t 83),none⟩,⟨some 3,.mv (.k (.bool false)),none⟩] [2,3] [5] [[5],[83]])
 .ret)
 .skip))
 (.seq
 (.region [⟨some 85,.mv (.t 4),none⟩,⟨some 86,.callS 229 [(.t 85)],none⟩,⟨some 84,.mv (.t 86),none⟩,⟨some 87,.extr (.t 84) 0,none⟩,⟨some 88,.extr (.t 84) 1,none⟩,⟨some 89,.extr (.t 84) 2,none⟩,⟨some 9,.alloc [(.str []),(.str []),(.str []),(.str []),.nilS],none⟩,
 ⟨none,.store 5 (.t 9) (.t 87),none⟩,⟨some 10,.mv (.t 88),none⟩,⟨some 11,.mv (.t 89),none⟩] [2,4,5,8,9,10,11] [] [[],[85],[86],[],[],[84],[],[87],[88]])
 (.seq
 (.seq
 (.region [⟨some 90,.mv (.t 11),none⟩,⟨some 91,.un .not (.t 90),none⟩,⟨some 92,.mv (.t 91),none⟩,⟨some 93,.mv (.t 10),some (92,false)⟩,⟨some 94,.mv (.t 93),some (92,false)⟩,⟨some 95,.mv (.t 8),some (94,true)⟩,⟨some 96,.bin .gtr (.t 95) (.k (.int .i64 0)),some (94,true)⟩,⟨some 97,.pick (.t 94) (.t 96) (.k (.bool false)),some (92,false)⟩,⟨some 98,.pick (.t 92) (.k (.bool true)) (.t 97),none⟩] [2,4,5,8,9,10,98] [] [[11],[90],[91],[],[93],[],[95],[94,96]])
 (.cond (.t 98)
 (.seq
 (.region [⟨some 99,.load (some 3) (.t 5),none⟩,
 ⟨none,.store 3 (.t 2) (.t 99),none⟩,⟨some 3,.mv (.k (.bool false)),none⟩] [2,3] [5,9] [[5],[99]])
 .ret)
 .skip))
 (.seq
 (.region [⟨some 100,.mv (.t 10),none⟩,⟨some 101,.un .not (.t 100),none⟩] [2,4,5,8,9,101] [] [[10]])
 (.cond (.t 101)
 (.region [⟨some 102,.fAddr 2 (.t 5),none⟩,⟨some 103,.load none (.t 102),none⟩,⟨some 104,.load (some 5) (.t 9),none⟩,⟨some 105,.mkSl 5 1 [(.str []),(.str []),(.str []),(.str []),.nilS] [(0,(.t 104))],none⟩,⟨some 106,.app 5 88 (.t 103) (.t 105),none⟩,⟨some 107,.fAddr 2 (.t 5),none⟩,
 ⟨none,.store 1 (.t 107) (.t 106),none⟩] [2,4,5,8] [9,105] [[],[102],[9],[104],[103,105]])
 .skip))))))
 (.region [⟨some 78,.mv (.t 8),none⟩,⟨some 79,.bin .add (.t 78) (.k (.int .i64 1)),none⟩,⟨some 8,.mv (.t 79),none⟩] [2,4,5,8] [9] [[],[78]])))

def t_spec_ARead_2:SCode :=
 (.seq
 (.region [⟨some 108,.load (some 3) (.t 5),none⟩,
 ⟨none,.store 3 (.t 2) (.t 108),none⟩,⟨some 3,.mv (.k (.bool true)),none⟩] [2,3] [5] [[5],[108]])
 .ret)

def f_spec_ARead_3:SCode :=
 (.seq
 (.seq
 (.region [⟨some 8,.mv (.k (.int .i64 0)),none⟩] [2,4,5,8] [] [])
 (.block 0
 (.loop [2,4,5,8]
 b_spec_ARead_1)))
 t_spec_ARead_2)

def f_spec_ARead_4:SCode :=
 (.seq
 (.seq
 (.region [⟨some 34,.mv (.t 4),none⟩,⟨some 35,.chk (.t 34),none⟩,⟨some 36,.fAddr 1 (.t 35),none⟩,⟨some 37,.load none (.t 36),none⟩,⟨some 38,.mv (.t 4),none⟩,⟨some 39,.chk (.t 38),none⟩,⟨some 40,.fAddr 0 (.t 39),none⟩,⟨some 41,.load none (.t 40),none⟩,⟨some 42,.len 0 (.t 41),none⟩,⟨some 43,.bin .lss (.t 37) (.t 42),none⟩,⟨some 44,.mv (.t 43),none⟩,⟨some 45,.mv (.t 4),some (44,true)⟩,⟨some 46,.chk (.t 45),some (44,true)⟩,⟨some 47,.fAddr 0 (.t 46),some (44,true)⟩,⟨some 48,.load none (.t 47),some (44,true)⟩,⟨some 49,.mv (.t 4),some (44,true)⟩,⟨some 50,.chk (.t 49),some (44,true)⟩,⟨some 51,.fAddr 1 (.t 50),some (44,true)⟩,⟨some 52,.load none (.t 51),some (44,true)⟩,⟨some 53,.iStr (.t 48) (.t 52),some (44,true)⟩,⟨some 54,.bin .neq (.t 53) (.k (.int .u8 59)),some (44,true)⟩,⟨some 55,.pick (.t 44) (.t 54) (.k (.bool false)),none⟩] [2,4,5,55] [] [])
 (.cond (.t 55)
 (.seq
 (.region [⟨some 56,.mv (.t 4),none⟩,⟨some 57,.callS 226 [(.t 56),(.k (.str []))],none⟩,⟨some 58,.fAddr 1 (.t 5),none⟩,
 ⟨none,.store 1 (.t 58) (.t 57),none⟩] [2,4,5] [] [[],[56]])
 (.seq
 (.region [⟨some 59,.fAddr 1 (.t 5),none⟩,⟨some 60,.load none (.t 59),none⟩,⟨some 61,.bin .eql (.t 60) (.k (.str [])),none⟩,⟨some 62,.mv (.t 61),none⟩,⟨some 63,.mv (.t 4),some (62,false)⟩,⟨some 64,.callS 227 [(.t 63)],some (62,false)⟩,⟨some 65,.un .not (.t 64),some (62,false)⟩,⟨some 66,.pick (.t 62) (.k (.bool true)) (.t 65),none⟩] [2,4,5,66] [] [[],[59],[60],[61],[],[63],[64]])
 (.cond (.t 66)
 (.seq
 (.region [⟨some 67,.load (some 3) (.t 5),none⟩,
 ⟨none,.store 3 (.t 2) (.t 67),none⟩,⟨some 3,.mv (.k (.bool false)),none⟩] [2,3] [5] [[5],[67]])
 .ret)
 .skip)))
 .skip))
 f_spec_ARead_3)

def f_spec_ARead_5:SCode :=
 (.seq
 (.region [⟨some 20,.mv (.t 4),none⟩,⟨some 21,.callS 228 [(.t 20),(.k (.str [64]))],none⟩,⟨some 19,.mv (.t 21),none⟩,⟨some 22,.extr (.t 19) 0,none⟩,⟨some 23,.extr (.t 19) 1,none⟩,⟨some 6,.mv (.t 22),none⟩,⟨some 7,.mv (.t 23),none⟩] [2,4,5,6,7] [] [[],[20],[21],[],[19],[22]])
 (.seq
 (.seq
 (.region [⟨some 24,.mv (.t 7),none⟩,⟨some 25,.un .not (.t 24),none⟩,⟨some 26,.mv (.t 25),none⟩,⟨some 27,.mv (.t 4),some (26,false)⟩,⟨some 28,.callS 227 [(.t 27)],some (26,false)⟩,⟨some 29,.un .not (.t 28),some (26,false)⟩,⟨some 30,.pick (.t 26) (.k (.bool true)) (.t 29),none⟩] [2,4,5,6,30] [] [[7],[24],[25],[],[27],[28]])
 (.cond (.t 30)
 (.seq
 (.region [⟨some 31,.load (some 3) (.t 5),none⟩,
 ⟨none,.store 3 (.t 2) (.t 31),none⟩,⟨some 3,.mv (.k (.bool false)),none⟩] [2,3] [5] [[5],[31]])
 .ret)
 .skip))
 (.seq
 (.region [⟨some 32,.mv (.t 6),none⟩,⟨some 33,.fAddr 0 (.t 5),none⟩,
 ⟨none,.store 1 (.t 33) (.t 32),none⟩] [2,4,5] [] [[6]])
 f_spec_ARead_4)))

def c_spec_ARead:SFn:=⟨1,
 (.seq
 (.region [⟨some 2,.alloc [(.str []),(.str []),.nilS],none⟩,⟨some 3,.mv (.k (.bool false)),none⟩] [0,2] [] [])
 (.seq
 (.region [⟨some 12,.mv (.t 0),none⟩,⟨some 13,.agg [(.str []),(.int .i64 0)] [(0,1,(.t 12))],none⟩,⟨some 14,.box (.t 13),none⟩,⟨some 4,.mv (.t 14),none⟩] [2,4] [] [[0],[12],[13]])
 (.seq
 (.region [⟨some 5,.alloc [(.str []),(.str []),.nilS],none⟩] [2,4,5] [] [])
 (.seq
 (.seq
 (.region [⟨some 15,.mv (.t 4),none⟩,⟨some 16,.callS 227 [(.t 15)],none⟩,⟨some 17,.un .not (.t 16),none⟩] [2,4,5,17] [] [[],[15]])
 (.cond (.t 17)
 (.seq
 (.region [⟨some 18,.load (some 3) (.t 5),none⟩,
 ⟨none,.store 3 (.t 2) (.t 18),none⟩,⟨some 3,.mv (.k (.bool false)),none⟩] [2,3] [5] [[5],[18]])
 .ret)
 .skip))
 f_spec_ARead_5)))),
 [.c (some 3) 2,.t 3]⟩

def l_spec_ARead:Lay:={ rg:=[(0,([0,2],[])),(1,([2,4],[])),(2,([2,4,5],[])),(3,([2,4,5,17],[])),(4,([2,3],[5])),(5,([2,4,5,6,7],[])),(6,([2,4,5,6,30],[])),(7,([2,3],[5])),(8,([2,4,5],[])),(9,([2,4,5,55],[])),(10,([2,4,5],[])),(11,([2,4,5,66],[])),(12,([2,3],[5])),(13,([2,4,5,8],[])),(14,([2,4,5,8,77],[])),(15,([2,4,5,8],[9])),(16,([2,4,5,8,82],[])),(17,([2,3],[5])),(18,([2,4,5,8,9,10,11],[])),(19,([2,4,5,8,9,10,98],[])),(20,([2,3],[5,9])),(21,([2,4,5,8,9,101],[])),(22,([2,4,5,8],[9,105])),(23,([2,3],[5])),(1000014,([2,4,5,8],[]))],dd:=[(1,[[0],[12],[13]]),(3,[[],[15]]),(4,[[5],[18]]),(5,[[],[20],[21],[],[19],[22]]),(6,[[7],[24],[25],[],[27],[28]]),(7,[[5],[31]]),(8,[[6]]),(10,[[],[56]]),(11,[[],[59],[60],[61],[],[63],[64]]),(12,[[5],[67]]),(15,[[],[78]]),(16,[[],[80]]),(17,[[5],[83]]),(18,[[],[85],[86],[],[],[84],[],[87],[88]]),(19,[[11],[90],[91],[],[93],[],[95],[94,96]]),(20,[[5],[99]]),(21,[[10]]),(22,[[],[102],[9],[104],[103,105]]),(23,[[5],[108]])],sf:=[224,226,227,228,229] }

end Wax


namespace Wax
open Go (IntKind)

def c_impl_AFormat:SFn:=⟨2,
 (.seq
 (.region [⟨some 4,.mv (.k (.str [])),none⟩] [0,1] [] [])
 (.seq
 (.region [⟨some 5,.mv (.k .nilS),none⟩] [0,1,5] [] [])
 (.seq
 (.seq
 (.region [⟨some 8,.mv (.t 1),none⟩,⟨some 9,.len 1 (.t 8),none⟩,⟨some 10,.mv (.k (.int .i64 0)),none⟩] [0,5,8,9,10] [] [[1]])
 (.block 0
 (.loop [0,5,8,9,10]
 (.seq
 (.region [⟨some 11,.bin .lss (.t 10) (.t 9),none⟩] [0,5,8,9,10,11] [] [])
 (.seq
 (.cond (.t 11)
 .skip
 (.exit 0))
 (.seq
 (.block 1
 (.seq
 (.region [⟨some 12,.iAddr 16 (.t 8) (.t 10),none⟩,⟨some 13,.load (some 16) (.t 12),none⟩,⟨some 7,.alloc [(.int .i64 0),(.str []),(.str []),(.str []),(.str []),(.str []),(.str []),(.str []),(.str []),(.str []),(.str []),(.str []),(.str []),(.str []),(.int .i64 0),.nilS],none⟩,
 ⟨none,.store 16 (.t 7) (.t 13),none⟩] [0,5,7,8,9,10] [] [[],[12]])
 (.region [⟨some 14,.mv (.t 5),none⟩,⟨some 15,.load (some 16) (.t 7),none⟩,⟨some 16,.call 235 [(.t 15)],none⟩,⟨some 17,.mkSl 1 1 [.nilI] [(0,(.t 16))],none⟩,⟨some 18,.app 1 16 (.t 14) (.t 17),none⟩,⟨some 5,.mv (.t 18),none⟩] [0,5,8,9,10] [7,17] [[],[7],[15],[16],[14,17]])))
 (.region [⟨some 19,.bin .add (.t 10) (.k (.int .i64 1)),none⟩,⟨some 10,.mv (.t 19),none⟩] [0,5,8,9,10] [] [])))))))
 (.seq
 (.region [⟨some 20,.mv (.t 0),none⟩,⟨some 21,.mv (.t 5),none⟩,⟨some 22,.call 236 [(.t 20),(.t 21)],none⟩,⟨some 4,.mv (.t 22),none⟩] [4] [18] [[0],[5],[20,21]])
 .ret)))),
 [.t 4]⟩

def l_impl_AFormat:Lay:={ rg:=[(0,([0,1],[])),(1,([0,1,5],[])),(2,([0,5,8,9,10],[])),(3,([0,5,8,9,10,11],[])),(4,([0,5,7,8,9,10],[])),(5,([0,5,8,9,10],[7,17])),(6,([0,5,8,9,10],[])),(7,([4],[18])),(1000003,([0,5,8,9,10],[]))],dd:=[(2,[[1]]),(4,[[],[12]]),(5,[[],[7],[15],[16],[14,17]]),(7,[[0],[5],[20,21]])] }

def c_authres_Format:SFn:=⟨2,
 (.seq
 (.region [⟨some 4,.mv (.k (.str [])),none⟩] [0,1] [] [])
 (.seq
 (.region [⟨some 11,.mv (.t 0),none⟩,⟨some 5,.mv (.t 11),none⟩] [1,5] [] [[0]])
 (.seq
 (.seq
 (.region [⟨some 12,.mv (.t 1),none⟩,⟨some 13,.len 1 (.t 12),none⟩,⟨some 14,.bin .eql (.t 13) (.k (.int .i64 0)),none⟩] [1,5,14] [] [[],[12]])
 (.cond (.t 14)
 (.seq
 (.region [⟨some 15,.mv (.t 5),none⟩,⟨some 16,.bin .add (.t 15) (.k (.str [59,32,110,111,110,101])),none⟩,⟨some 5,.mv (.t 16),none⟩] [5] [] [[],[15]])
 (.seq
 (.region [⟨some 17,.mv (.t 5),none⟩,⟨some 4,.mv (.t 17),none⟩] [4] [] [[5]])
 .ret))
 .skip))
 (.seq
 (.seq
 (.region [⟨some 18,.mv (.t 1),none⟩,⟨some 19,.len 1 (.t 18),none⟩,⟨some 20,.mv (.k (.int .i64 0)),none⟩] [5,18,19,20] [] [[1]])
 (.block 0
 (.loop [5,18,19,20]
 (.seq
 (.region [⟨some 21,.bin .lss (.t 20) (.t 19),none⟩] [5,18,19,20,21] [] [])
 (.seq
 (.cond (.t 21)
 .skip
 (.exit 0))
 (.seq
 (.block 1
 (.seq
 (.region [⟨some 22,.iAddr 1 (.t 18) (.t 20),none⟩,⟨some 23,.load none (.t 22),none⟩,⟨some 7,.mv (.t 23),none⟩] [5,7,18,19,20] [] [[],[22]])
 (.seq
 (.region [⟨some 24,.mv (.t 7),none⟩,⟨some 25,.call 237 [(.t 24)],none⟩,⟨some 8,.mv (.t 25),none⟩] [5,7,8,18,19,20] [] [[],[24]])
 (.seq
 (.region [⟨some 27,.mv (.t 7),none⟩,⟨some 28,.inv (.t 27) "given.example/pub-waxseal/pub/msgauth/authres.format" [],none⟩,⟨some 26,.mv (.t 28),none⟩,⟨some 29,.extr (.t 26) 0,none⟩,⟨some 30,.extr (.t 26) 1,none⟩,⟨some 9,.mv (.t 29),none⟩,⟨some 10,.mv (.t 30),none⟩] [5,8,9,10,18,19,20] [] [[7],[27],[28],[],[26],[29]])
 (.region [⟨some 31,.mv (.t 5),none⟩,⟨some 32,.mv (.t 8),none⟩,⟨some 33,.bin .add (.k (.str [59,32])) (.t 32),none⟩,⟨some 34,.bin .add (.t 33) (.k (.str [61])),none⟩,⟨some 35,.mv (.t 9),none⟩,⟨some 36,.bin .add (.t 34) (.t 35),none⟩,⟨some 37,.bin .add (.t 36) (.k (.str [32])),none⟩,⟨some 38,.mv (.t 10),none⟩,⟨some 39,.call 238 [(.t 38)],none⟩,⟨some 40,.bin .add (.t 37) (.t 39),none⟩,⟨some 41,.bin .add (.t 31) (.t 40),none⟩,⟨some 5,.mv (.t 41),none⟩] [5,18,19,20] [] [[],[8],[32],[33],[9],[34,35],[36],[10],[38],[37,39],[31,40]])))))
 (.region [⟨some 42,.bin .add (.t 20) (.k (.int .i64 1)),none⟩,⟨some 20,.mv (.t 42),none⟩] [5,18,19,20] [] [])))))))
 (.seq
 (.region [⟨some 43,.mv (.t 5),none⟩,⟨some 4,.mv (.t 43),none⟩] [4] [] [[5]])
 .ret))))),
 [.t 4]⟩

def l_authres_Format:Lay:={ rg:=[(0,([0,1],[])),(1,([1,5],[])),(2,([1,5,14],[])),(3,([5],[])),(4,([4],[])),(5,([5,18,19,20],[])),(6,([5,18,19,20,21],[])),(7,([5,7,18,19,20],[])),(8,([5,7,8,18,19,20],[])),(9,([5,8,9,10,18,19,20],[])),(10,([5,18,19,20],[])),(11,([5,18,19,20],[])),(12,([4],[])),(1000006,([5,18,19,20],[]))],dd:=[(1,[[0]]),(2,[[],[12]]),(3,[[],[15]]),(4,[[5]]),(5,[[1]]),(7,[[],[22]]),(8,[[],[24]]),(9,[[7],[27],[28],[],[26],[29]]),(10,[[],[8],[32],[33],[9],[34,35],[36],[10],[38],[37,39],[31,40]]),(12,[[5]])] }

end Wax


namespace Wax
open Go (IntKind)

def c_errors_New:SFn:=⟨1,
 (.seq
 (.region [⟨some 2,.mv (.k .nilI),none⟩] [0] [] [])
 (.seq
 (.region [⟨some 3,.mv (.t 0),none⟩,⟨some 4,.agg [(.str [])] [(0,1,(.t 3))],none⟩,⟨some 5,.box (.t 4),none⟩,⟨some 6,.mkIfc 3 (.t 5),none⟩,⟨some 2,.mv (.t 6),none⟩] [2] [] [[0],[3],[4],[5]])
 .ret)),
 [.t 2]⟩

def l_errors_New:Lay:={ rg:=[(0,([0],[])),(1,([2],[]))],dd:=[(1,[[0],[3],[4],[5]])] }

end Wax


namespace Wax
open Go (IntKind)

def b_impl_resultFor_1:SCode :=
 (.seq
 (.region [⟨some 106,.bin .lss (.t 105) (.t 104),none⟩] [1,3,4,103,104,105,106] [] [])
 (.seq
 (.cond (.t 106)
 .skip
 (.exit 1))
 (.seq
 (.block 2
 (.seq
 (.region [⟨some 107,.iAddr 2 (.t 103) (.t 105),none⟩,⟨some 108,.load (some 2) (.t 107),none⟩,⟨some 6,.alloc [(.str []),(.str [])],none⟩,
 ⟨none,.store 2 (.t 6) (.t 108),none⟩] [1,3,4,6,103,104,105] [] [[],[107]])
 (.region [⟨some 109,.mv (.t 4),none⟩,⟨some 110,.fAddr 0 (.t 6),none⟩,⟨some 111,.load none (.t 110),none⟩,⟨some 112,.fAddr 1 (.t 6),none⟩,⟨some 113,.load none (.t 112),none⟩,
 ⟨none,.mput (.t 109) (.t 111) (.t 113),none⟩] [1,3,4,103,104,105] [6] [[],[],[110],[6],[112]])))
 (.region [⟨some 114,.bin .add (.t 105) (.k (.int .i64 1)),none⟩,⟨some 105,.mv (.t 114),none⟩] [1,3,4,103,104,105] [] []))))

def t_impl_resultFor_2:SCode :=
 (.seq
 (.seq
 (.region [⟨some 115,.fAddr 1 (.t 1),none⟩,⟨some 116,.load none (.t 115),none⟩,⟨some 117,.mv (.t 3),none⟩,⟨some 118,.mv (.t 4),none⟩,⟨some 119,.agg [(.str []),(.str []),.nilM] [(0,1,(.t 116)),(1,1,(.t 117)),(2,1,(.t 118))],none⟩,⟨some 120,.box (.t 119),none⟩,⟨some 121,.mkIfc 15 (.t 120),none⟩,⟨some 2,.mv (.t 121),none⟩] [2] [1] [[1],[115],[3],[4],[116,117,118],[119],[120]])
 (.ghost [.frz 101]))
 .ret)

def c_impl_resultFor:SFn:=⟨1,
 (.seq
 (.region [⟨some 1,.box (.t 0),none⟩,⟨some 2,.mv (.k .nilI),none⟩] [1] [] [[0]])
 (.seq
 (.region [⟨some 7,.fAddr 2 (.t 1),none⟩,⟨some 8,.load none (.t 7),none⟩,⟨some 3,.mv (.t 8),none⟩] [1,3] [] [[],[7]])
 (.seq
 (.seq
 (.region [⟨some 9,.fAddr 0 (.t 1),none⟩,⟨some 10,.load none (.t 9),none⟩] [1,3,10] [] [])
 (.block 0
 (.seq
 (.region [⟨some 12,.bin .eql (.t 10) (.k (.int .i64 1)),none⟩,⟨some 11,.mv (.t 12),none⟩] [1,3,10,11] [] [])
 (.cond (.t 11)
 (.seq
 (.region [⟨some 13,.mv (.t 3),none⟩,⟨some 14,.fAddr 3 (.t 1),none⟩,⟨some 15,.load none (.t 14),none⟩,⟨some 16,.fAddr 10 (.t 1),none⟩,⟨some 17,.load none (.t 16),none⟩,⟨some 18,.agg [(.str []),(.str []),(.str [])] [(0,1,(.t 13)),(1,1,(.t 15)),(2,1,(.t 17))],none⟩,⟨some 19,.box (.t 18),none⟩,⟨some 20,.mkIfc 8 (.t 19),none⟩,⟨some 2,.mv (.t 20),none⟩] [2] [1] [[3],[],[14],[1],[16],[13,15,17],[18],[19]])
 .ret)
 (.seq
 (.region [⟨some 22,.bin .eql (.t 10) (.k (.int .i64 2)),none⟩,⟨some 21,.mv (.t 22),none⟩] [1,3,10,21] [] [])
 (.cond (.t 21)
 (.seq
 (.region [⟨some 23,.mv (.t 3),none⟩,⟨some 24,.fAddr 3 (.t 1),none⟩,⟨some 25,.load none (.t 24),none⟩,⟨some 26,.fAddr 4 (.t 1),none⟩,⟨some 27,.load none (.t 26),none⟩,⟨some 28,.fAddr 5 (.t 1),none⟩,⟨some 29,.load none (.t 28),none⟩,⟨some 30,.agg [(.str []),(.str []),(.str []),(.str [])] [(0,1,(.t 23)),(1,1,(.t 25)),(2,1,(.t 27)),(3,1,(.t 29))],none⟩,⟨some 31,.box (.t 30),none⟩,⟨some 32,.mkIfc 9 (.t 31),none⟩,⟨some 2,.mv (.t 32),none⟩] [2] [1] [[3],[],[24],[],[26],[1],[28],[23,25,27,29],[30],[31]])
 .ret)
 (.seq
 (.region [⟨some 34,.bin .eql (.t 10) (.k (.int .i64 3)),none⟩,⟨some 33,.mv (.t 34),none⟩] [1,3,10,33] [] [])
 (.cond (.t 33)
 (.seq
 (.region [⟨some 35,.mv (.t 3),none⟩,⟨some 36,.fAddr 3 (.t 1),none⟩,⟨some 37,.load none (.t 36),none⟩,⟨some 38,.fAddr 4 (.t 1),none⟩,⟨some 39,.load none (.t 38),none⟩,⟨some 40,.fAddr 6 (.t 1),none⟩,⟨some 41,.load none (.t 40),none⟩,⟨some 42,.fAddr 7 (.t 1),none⟩,⟨some 43,.load none (.t 42),none⟩,⟨some 44,.agg [(.str []),(.str []),(.str []),(.str []),(.str [])] [(0,1,(.t 35)),(1,1,(.t 37)),(2,1,(.t 39)),(3,1,(.t 41)),(4,1,(.t 43))],none⟩,⟨some 45,.box (.t 44),none⟩,⟨some 46,.mkIfc 10 (.t 45),none⟩,⟨some 2,.mv (.t 46),none⟩] [2] [1] [[3],[],[36],[],[38],[],[40],[1],[42],[35,37,39,41,43],[44],[45]])
 .ret)
 (.seq
 (.region [⟨some 48,.bin .eql (.t 10) (.k (.int .i64 4)),none⟩,⟨some 47,.mv (.t 48),none⟩] [1,3,10,47] [] [])
 (.cond (.t 47)
 (.seq
 (.region [⟨some 49,.mv (.t 3),none⟩,⟨some 50,.fAddr 3 (.t 1),none⟩,⟨some 51,.load none (.t 50),none⟩,⟨some 52,.fAddr 8 (.t 1),none⟩,⟨some 53,.load none (.t 52),none⟩,⟨some 54,.agg [(.str []),(.str []),(.str [])] [(0,1,(.t 49)),(1,1,(.t 51)),(2,1,(.t 53))],none⟩,⟨some 55,.box (.t 54),none⟩,⟨some 56,.mkIfc 11 (.t 55),none⟩,⟨some 2,.mv (.t 56),none⟩] [2] [1] [[3],[],[50],[1],[52],[49,51,53],[54],[55]])
 .ret)
 (.seq
 (.region [⟨some 58,.bin .eql (.t 10) (.k (.int .i64 5)),none⟩,⟨some 57,.mv (.t 58),none⟩] [1,3,10,57] [] [])
 (.cond (.t 57)
 (.seq
 (.region [⟨some 59,.mv (.t 3),none⟩,⟨some 60,.fAddr 3 (.t 1),none⟩,⟨some 61,.load none (.t 60),none⟩,⟨some 62,.fAddr 11 (.t 1),none⟩,⟨some 63,.load none (.t 62),none⟩,⟨some 64,.fAddr 12 (.t 1),none⟩,⟨some 65,.load none (.t 64),none⟩,⟨some 66,.agg [(.str []),(.str []),(.str []),(.str [])] [(0,1,(.t 59)),(1,1,(.t 61)),(2,1,(.t 63)),(3,1,(.t 65))],none⟩,⟨some 67,.box (.t 66),none⟩,⟨some 68,.mkIfc 12 (.t 67),none⟩,⟨some 2,.mv (.t 68),none⟩] [2] [1] [[3],[],[60],[],[62],[1],[64],[59,61,63,65],[66],[67]])
 .ret)
 (.seq
 (.region [⟨some 70,.bin .eql (.t 10) (.k (.int .i64 6)),none⟩,⟨some 69,.mv (.t 70),none⟩] [1,3,10,69] [] [])
 (.cond (.t 69)
 (.seq
 (.region [⟨some 71,.mv (.t 3),none⟩,⟨some 72,.fAddr 3 (.t 1),none⟩,⟨some 73,.load none (.t 72),none⟩,⟨some 74,.fAddr 6 (.t 1),none⟩,⟨some 75,.load none (.t 74),none⟩,⟨some 76,.fAddr 9 (.t 1),none⟩,⟨some 77,.load none (.t 76),none⟩,⟨some 78,.agg [(.str []),(.str []),(.str []),(.str [])] [(0,1,(.t 71)),(1,1,(.t 73)),(2,1,(.t 75)),(3,1,(.t 77))],none⟩,⟨some 79,.box (.t 78),none⟩,⟨some 80,.mkIfc 13 (.t 79),none⟩,⟨some 2,.mv (.t 80),none⟩] [2] [1] [[3],[],[72],[],[74],[1],[76],[71,73,75,77],[78],[79]])
 .ret)
 (.seq
 (.region [⟨some 82,.bin .eql (.t 10) (.k (.int .i64 7)),none⟩,⟨some 81,.mv (.t 82),none⟩] [1,3,10,81] [] [])
 (.cond (.t 81)
 (.seq
 (.region [⟨some 83,.mv (.t 3),none⟩,⟨some 84,.fAddr 3 (.t 1),none⟩,⟨some 85,.load none (.t 84),none⟩,⟨some 86,.fAddr 6 (.t 1),none⟩,⟨some 87,.load none (.t 86),none⟩,⟨some 88,.agg [(.str []),(.str []),(.str [])] [(0,1,(.t 83)),(1,1,(.t 85)),(2,1,(.t 87))],none⟩,⟨some 89,.box (.t 88),none⟩,⟨some 90,.mkIfc 14 (.t 89),none⟩,⟨some 2,.mv (.t 90),none⟩] [2] [1] [[3],[],[84],[1],[86],[83,85,87],[88],[89]])
 .ret)
 (.seq
 (.region [⟨some 92,.bin .eql (.t 10) (.k (.int .i64 8)),none⟩,⟨some 91,.mv (.t 92),none⟩] [1,3,91] [] [[10]])
 (.cond (.t 91)
 (.seq
 (.region [⟨some 93,.mv (.t 3),none⟩,⟨some 94,.fAddr 13 (.t 1),none⟩,⟨some 95,.load none (.t 94),none⟩,⟨some 96,.fAddr 14 (.t 1),none⟩,⟨some 97,.load none (.t 96),none⟩,⟨some 98,.agg [(.str []),(.str []),(.int .i64 0)] [(0,1,(.t 93)),(1,1,(.t 95)),(2,1,(.t 97))],none⟩,⟨some 99,.box (.t 98),none⟩,⟨some 100,.mkIfc 7 (.t 99),none⟩,⟨some 2,.mv (.t 100),none⟩] [2] [1] [[3],[],[94],[1],[96],[93,95,97],[98],[99]])
 .ret)
 .skip))))))))))))))))))
 (.seq
 (.region [⟨some 101,.mkMap,none⟩,⟨some 4,.mv (.t 101),none⟩] [1,3,4] [] [])
 (.seq
 (.seq
 (.region [⟨some 102,.fAddr 15 (.t 1),none⟩,⟨some 103,.load none (.t 102),none⟩,⟨some 104,.len 1 (.t 103),none⟩,⟨some 105,.mv (.k (.int .i64 0)),none⟩] [1,3,4,103,104,105] [] [[],[102]])
 (.block 1
 (.loop [1,3,4,103,104,105]
 b_impl_resultFor_1)))
 t_impl_resultFor_2))))),
 [.t 2]⟩

def l_impl_resultFor:Lay:={ rg:=[(0,([1],[])),(1,([1,3],[])),(2,([1,3,10],[])),(3,([1,3,10,11],[])),(4,([2],[1])),(5,([1,3,10,21],[])),(6,([2],[1])),(7,([1,3,10,33],[])),(8,([2],[1])),(9,([1,3,10,47],[])),(10,([2],[1])),(11,([1,3,10,57],[])),(12,([2],[1])),(13,([1,3,10,69],[])),(14,([2],[1])),(15,([1,3,10,81],[])),(16,([2],[1])),(17,([1,3,91],[])),(18,([2],[1])),(19,([1,3,4],[])),(20,([1,3,4,103,104,105],[])),(21,([1,3,4,103,104,105,106],[])),(22,([1,3,4,6,103,104,105],[])),(23,([1,3,4,103,104,105],[6])),(24,([1,3,4,103,104,105],[])),(25,([2],[1])),(1000021,([1,3,4,103,104,105],[]))],dd:=[(0,[[0]]),(1,[[],[7]]),(4,[[3],[],[14],[1],[16],[13,15,17],[18],[19]]),(6,[[3],[],[24],[],[26],[1],[28],[23,25,27,29],[30],[31]]),(8,[[3],[],[36],[],[38],[],[40],[1],[42],[35,37,39,41,43],[44],[45]]),(10,[[3],[],[50],[1],[52],[49,51,53],[54],[55]]),(12,[[3],[],[60],[],[62],[1],[64],[59,61,63,65],[66],[67]]),(14,[[3],[],[72],[],[74],[1],[76],[71,73,75,77],[78],[79]]),(16,[[3],[],[84],[1],[86],[83,85,87],[88],[89]]),(17,[[10]]),(18,[[3],[],[94],[1],[96],[93,95,97],[98],[99]]),(20,[[],[102]]),(22,[[],[107]]),(23,[[],[],[110],[6],[112]]),(25,[[1],[115],[3],[4],[116,117,118],[119],[120]])],gh:=[(25,[.frz 101])] }

def c_authres_resultMethod:SFn:=⟨1,
 (.seq
 (.region [⟨some 2,.mv (.k (.str [])),none⟩] [0] [] [])
 (.seq
 (.region [⟨some 12,.mv (.t 0),none⟩] [12] [] [])
 (.block 0
 (.seq
 (.region [⟨some 13,.assert 8 .nilP true (.t 12),none⟩,⟨some 14,.extr (.t 13) 1,none⟩,⟨some 15,.extr (.t 13) 0,none⟩] [12,14,15] [] [])
 (.cond (.t 14)
 (.seq
 (.region [⟨some 3,.mv (.t 15),none⟩] [] [] [])
 (.seq
 (.region [⟨some 2,.mv (.k (.str [97,117,116,104])),none⟩] [2] [] [])
 .ret))
 (.seq
 (.region [⟨some 16,.assert 9 .nilP true (.t 12),none⟩,⟨some 17,.extr (.t 16) 1,none⟩,⟨some 18,.extr (.t 16) 0,none⟩] [12,17,18] [] [])
 (.cond (.t 17)
 (.seq
 (.region [⟨some 4,.mv (.t 18),none⟩] [] [] [])
 (.seq
 (.region [⟨some 2,.mv (.k (.str [100,107,105,109])),none⟩] [2] [] [])
 .ret))
 (.seq
 (.region [⟨some 19,.assert 10 .nilP true (.t 12),none⟩,⟨some 20,.extr (.t 19) 1,none⟩,⟨some 21,.extr (.t 19) 0,none⟩] [12,20,21] [] [])
 (.cond (.t 20)
 (.seq
 (.region [⟨some 5,.mv (.t 21),none⟩] [] [] [])
 (.seq
 (.region [⟨some 2,.mv (.k (.str [100,111,109,97,105,110,107,101,121,115])),none⟩] [2] [] [])
 .ret))
 (.seq
 (.region [⟨some 22,.assert 11 .nilP true (.t 12),none⟩,⟨some 23,.extr (.t 22) 1,none⟩,⟨some 24,.extr (.t 22) 0,none⟩] [12,23,24] [] [])
 (.cond (.t 23)
 (.seq
 (.region [⟨some 6,.mv (.t 24),none⟩] [] [] [])
 (.seq
 (.region [⟨some 2,.mv (.k (.str [105,112,114,101,118])),none⟩] [2] [] [])
 .ret))
 (.seq
 (.region [⟨some 25,.assert 12 .nilP true (.t 12),none⟩,⟨some 26,.extr (.t 25) 1,none⟩,⟨some 27,.extr (.t 25) 0,none⟩] [12,26,27] [] [])
 (.cond (.t 26)
 (.seq
 (.region [⟨some 7,.mv (.t 27),none⟩] [] [] [])
 (.seq
 (.region [⟨some 2,.mv (.k (.str [115,101,110,100,101,114,45,105,100])),none⟩] [2] [] [])
 .ret))
 (.seq
 (.region [⟨some 28,.assert 13 .nilP true (.t 12),none⟩,⟨some 29,.extr (.t 28) 1,none⟩,⟨some 30,.extr (.t 28) 0,none⟩] [12,29,30] [] [])
 (.cond (.t 29)
 (.seq
 (.region [⟨some 8,.mv (.t 30),none⟩] [] [] [])
 (.seq
 (.region [⟨some 2,.mv (.k (.str [115,112,102])),none⟩] [2] [] [])
 .ret))
 (.seq
 (.region [⟨some 31,.assert 14 .nilP true (.t 12),none⟩,⟨some 32,.extr (.t 31) 1,none⟩,⟨some 33,.extr (.t 31) 0,none⟩] [12,32,33] [] [])
 (.cond (.t 32)
 (.seq
 (.region [⟨some 9,.mv (.t 33),none⟩] [] [] [])
 (.seq
 (.region [⟨some 2,.mv (.k (.str [100,109,97,114,99])),none⟩] [2] [] [])
 .ret))
 (.seq
 (.region [⟨some 34,.assert 15 .nilP true (.t 12),none⟩,⟨some 35,.extr (.t 34) 1,none⟩,⟨some 36,.extr (.t 34) 0,none⟩] [12,35,36] [] [])
 (.cond (.t 35)
 (.seq
 (.region [⟨some 10,.mv (.t 36),none⟩] [10] [] [])
 (.seq
 (.region [⟨some 37,.mv (.t 10),none⟩,⟨some 38,.chk (.t 37),none⟩,⟨some 39,.fAddr 0 (.t 38),none⟩,⟨some 40,.load none (.t 39),none⟩,⟨some 2,.mv (.t 40),none⟩] [2] [] [[10],[37],[38],[39]])
 .ret))
 (.seq
 (.region [⟨some 11,.mv (.t 12),none⟩] [] [] [])
 (.seq
 (.region [⟨some 2,.mv (.k (.str [])),none⟩] [2] [] [])
 .ret))))))))))))))))))))),
 [.t 2]⟩

def l_authres_resultMethod:Lay:={ rg:=[(0,([0],[])),(1,([12],[])),(2,([],[])),(3,([2],[])),(4,([12,14,15],[])),(5,([],[])),(6,([2],[])),(7,([12,17,18],[])),(8,([],[])),(9,([2],[])),(10,([12,20,21],[])),(11,([],[])),(12,([2],[])),(13,([12,23,24],[])),(14,([],[])),(15,([2],[])),(16,([12,26,27],[])),(17,([],[])),(18,([2],[])),(19,([12,29,30],[])),(20,([],[])),(21,([2],[])),(22,([12,32,33],[])),(23,([],[])),(24,([2],[])),(25,([12,35,36],[])),(26,([10],[])),(27,([2],[]))],dd:=[(27,[[10],[37],[38],[39]])] }

def c_authres_AuthResult_format:SFn:=⟨1,
 (.seq
 (.region [⟨some 2,.mv (.k (.str [])),none⟩,⟨some 3,.mv (.k .nilM),none⟩] [0] [] [[2]])
 (.seq
 (.seq
 (.region [⟨some 4,.fl (.mv (.t 0)),none⟩,⟨some 5,.fl (.chk (.t 4)),none⟩,⟨some 6,.fl (.fAddr 0 (.t 5)),none⟩,⟨some 7,.fl (.load none (.t 6)),none⟩,⟨some 8,.mkMap,none⟩,⟨some 9,.fl (.mv (.t 0)),none⟩,⟨some 10,.fl (.chk (.t 9)),none⟩,⟨some 11,.fl (.fAddr 2 (.t 10)),none⟩,⟨some 12,.fl (.load none (.t 11)),none⟩,
 ⟨none,.mputD (.t 8) (.k (.str [115,109,116,112,46,97,117,116,104])) (.t 12),none⟩,⟨some 13,.mv (.t 8),none⟩,⟨some 2,.mv (.t 7),none⟩,⟨some 3,.mv (.t 13),none⟩] [2,3] [] [])
 (.ghost [.frz 8]))
 .ret)),
 [.t 2,.t 3]⟩

def l_authres_AuthResult_format:Lay:={ rg:=[(0,([0],[])),(1,([2,3],[]))],dd:=[(0,[[2]])],gh:=[(1,[.frz 8])],md:=[8],fl:=[4,5,6,7,9,10,11,12] }

def c_authres_DKIMResult_format:SFn:=⟨1,
 (.seq
 (.region [⟨some 2,.mv (.k (.str [])),none⟩,⟨some 3,.mv (.k .nilM),none⟩] [0] [] [[2]])
 (.seq
 (.seq
 (.region [⟨some 4,.fl (.mv (.t 0)),none⟩,⟨some 5,.fl (.chk (.t 4)),none⟩,⟨some 6,.fl (.fAddr 0 (.t 5)),none⟩,⟨some 7,.fl (.load none (.t 6)),none⟩,⟨some 8,.mkMap,none⟩,⟨some 9,.fl (.mv (.t 0)),none⟩,⟨some 10,.fl (.chk (.t 9)),none⟩,⟨some 11,.fl (.fAddr 1 (.t 10)),none⟩,⟨some 12,.fl (.load none (.t 11)),none⟩,
 ⟨none,.mputD (.t 8) (.k (.str [114,101,97,115,111,110])) (.t 12),none⟩,⟨some 13,.fl (.mv (.t 0)),none⟩,⟨some 14,.fl (.chk (.t 13)),none⟩,⟨some 15,.fl (.fAddr 2 (.t 14)),none⟩,⟨some 16,.fl (.load none (.t 15)),none⟩,
 ⟨none,.mputD (.t 8) (.k (.str [104,101,97,100,101,114,46,100])) (.t 16),none⟩,⟨some 17,.fl (.mv (.t 0)),none⟩,⟨some 18,.fl (.chk (.t 17)),none⟩,⟨some 19,.fl (.fAddr 3 (.t 18)),none⟩,⟨some 20,.fl (.load none (.t 19)),none⟩,
 ⟨none,.mputD (.t 8) (.k (.str [104,101,97,100,101,114,46,105])) (.t 20),none⟩,⟨some 21,.mv (.t 8),none⟩,⟨some 2,.mv (.t 7),none⟩,⟨some 3,.mv (.t 21),none⟩] [2,3] [] [])
 (.ghost [.frz 8]))
 .ret)),
 [.t 2,.t 3]⟩

def l_authres_DKIMResult_format:Lay:={ rg:=[(0,([0],[])),(1,([2,3],[]))],dd:=[(0,[[2]])],gh:=[(1,[.frz 8])],md:=[8],fl:=[4,5,6,7,9,10,11,12,13,14,15,16,17,18,19,20] }

def c_authres_DomainKeysResult_format:SFn:=⟨1,
 (.seq
 (.region [⟨some 2,.mv (.k (.str [])),none⟩,⟨some 3,.mv (.k .nilM),none⟩] [0] [] [[2]])
 (.seq
 (.seq
 (.region [⟨some 4,.fl (.mv (.t 0)),none⟩,⟨some 5,.fl (.chk (.t 4)),none⟩,⟨some 6,.fl (.fAddr 0 (.t 5)),none⟩,⟨some 7,.fl (.load none (.t 6)),none⟩,⟨some 8,.mkMap,none⟩,⟨some 9,.fl (.mv (.t 0)),none⟩,⟨some 10,.fl (.chk (.t 9)),none⟩,⟨some 11,.fl (.fAddr 1 (.t 10)),none⟩,⟨some 12,.fl (.load none (.t 11)),none⟩,
 ⟨none,.mputD (.t 8) (.k (.str [114,101,97,115,111,110])) (.t 12),none⟩,⟨some 13,.fl (.mv (.t 0)),none⟩,⟨some 14,.fl (.chk (.t 13)),none⟩,⟨some 15,.fl (.fAddr 2 (.t 14)),none⟩,⟨some 16,.fl (.load none (.t 15)),none⟩,
 ⟨none,.mputD (.t 8) (.k (.str [104,101,97,100,101,114,46,100])) (.t 16),none⟩,⟨some 17,.fl (.mv (.t 0)),none⟩,⟨some 18,.fl (.chk (.t 17)),none⟩,⟨some 19,.fl (.fAddr 3 (.t 18)),none⟩,⟨some 20,.fl (.load none (.t 19)),none⟩,
 ⟨none,.mputD (.t 8) (.k (.str [104,101,97,100,101,114,46,102,114,111,109])) (.t 20),none⟩,⟨some 21,.fl (.mv (.t 0)),none⟩,⟨some 22,.fl (.chk (.t 21)),none⟩,⟨some 23,.fl (.fAddr 4 (.t 22)),none⟩,⟨some 24,.fl (.load none (.t 23)),none⟩,
 ⟨none,.mputD (.t 8) (.k (.str [104,101,97,100,101,114,46,115,101,110,100,101,114])) (.t 24),none⟩,⟨some 25,.mv (.t 8),none⟩,⟨some 2,.mv (.t 7),none⟩,⟨some 3,.mv (.t 25),none⟩] [2,3] [] [])
 (.ghost [.frz 8]))
 .ret)),
 [.t 2,.t 3]⟩

def l_authres_DomainKeysResult_format:Lay:={ rg:=[(0,([0],[])),(1,([2,3],[]))],dd:=[(0,[[2]])],gh:=[(1,[.frz 8])],md:=[8],fl:=[4,5,6,7,9,10,11,12,13,14,15,16,17,18,19,20,21,22,23,24] }

def c_authres_IPRevResult_format:SFn:=⟨1,
 (.seq
 (.region [⟨some 2,.mv (.k (.str [])),none⟩,⟨some 3,.mv (.k .nilM),none⟩] [0] [] [[2]])
 (.seq
 (.seq
 (.region [⟨some 4,.fl (.mv (.t 0)),none⟩,⟨some 5,.fl (.chk (.t 4)),none⟩,⟨some 6,.fl (.fAddr 0 (.t 5)),none⟩,⟨some 7,.fl (.load none (.t 6)),none⟩,⟨some 8,.mkMap,none⟩,⟨some 9,.fl (.mv (.t 0)),none⟩,⟨some 10,.fl (.chk (.t 9)),none⟩,⟨some 11,.fl (.fAddr 1 (.t 10)),none⟩,⟨some 12,.fl (.load none (.t 11)),none⟩,
 ⟨none,.mputD (.t 8) (.k (.str [114,101,97,115,111,110])) (.t 12),none⟩,⟨some 13,.fl (.mv (.t 0)),none⟩,⟨some 14,.fl (.chk (.t 13)),none⟩,⟨some 15,.fl (.fAddr 2 (.t 14)),none⟩,⟨some 16,.fl (.load none (.t 15)),none⟩,
 ⟨none,.mputD (.t 8) (.k (.str [112,111,108,105,99,121,46,105,112,114,101,118])) (.t 16),none⟩,⟨some 17,.mv (.t 8),none⟩,⟨some 2,.mv (.t 7),none⟩,⟨some 3,.mv (.t 17),none⟩] [2,3] [] [])
 (.ghost [.frz 8]))
 .ret)),
 [.t 2,.t 3]⟩

def l_authres_IPRevResult_format:Lay:={ rg:=[(0,([0],[])),(1,([2,3],[]))],dd:=[(0,[[2]])],gh:=[(1,[.frz 8])],md:=[8],fl:=[4,5,6,7,9,10,11,12,13,14,15,16] }

def c_authres_SenderIDResult_format:SFn:=⟨1,
 (.seq
 (.region [⟨some 2,.mv (.k (.str [])),none⟩,⟨some 3,.mv (.k .nilM),none⟩] [0] [] [[2]])
 (.seq
 (.seq
 (.region [⟨some 4,.fl (.mv (.t 0)),none⟩,⟨some 5,.fl (.chk (.t 4)),none⟩,⟨some 6,.fl (.fAddr 0 (.t 5)),none⟩,⟨some 7,.fl (.load none (.t 6)),none⟩,⟨some 8,.mkMap,none⟩,⟨some 9,.fl (.mv (.t 0)),none⟩,⟨some 10,.fl (.chk (.t 9)),none⟩,⟨some 11,.fl (.fAddr 1 (.t 10)),none⟩,⟨some 12,.fl (.load none (.t 11)),none⟩,
 ⟨none,.mputD (.t 8) (.k (.str [114,101,97,115,111,110])) (.t 12),none⟩,⟨some 13,.fl (.mv (.t 0)),none⟩,⟨some 14,.fl (.chk (.t 13)),none⟩,⟨some 15,.fl (.fAddr 2 (.t 14)),none⟩,⟨some 16,.fl (.load none (.t 15)),none⟩,⟨some 17,.fl (.call 172 [(.t 16)]),none⟩,⟨some 18,.fl (.bin .add (.k (.str [104,101,97,100,101,114,46])) (.t 17)),none⟩,⟨some 19,.fl (.mv (.t 0)),none⟩,⟨some 20,.fl (.chk (.t 19)),none⟩,⟨some 21,.fl (.fAddr 3 (.t 20)),none⟩,⟨some 22,.fl (.load none (.t 21)),none⟩,
 ⟨none,.mputD (.t 8) (.t 18) (.t 22),none⟩,⟨some 23,.mv (.t 8),none⟩,⟨some 2,.mv (.t 7),none⟩,⟨some 3,.mv (.t 23),none⟩] [2,3] [] [])
 (.ghost [.frz 8]))
 .ret)),
 [.t 2,.t 3]⟩

def l_authres_SenderIDResult_format:Lay:={ rg:=[(0,([0],[])),(1,([2,3],[]))],dd:=[(0,[[2]])],gh:=[(1,[.frz 8])],md:=[8],fl:=[4,5,6,7,9,10,11,12,13,14,15,16,17,18,19,20,21,22] }

def c_authres_SPFResult_format:SFn:=⟨1,
 (.seq
 (.region [⟨some 2,.mv (.k (.str [])),none⟩,⟨some 3,.mv (.k .nilM),none⟩] [0] [] [[2]])
 (.seq
 (.seq
 (.region [⟨some 4,.fl (.mv (.t 0)),none⟩,⟨some 5,.fl (.chk (.t 4)),none⟩,⟨some 6,.fl (.fAddr 0 (.t 5)),none⟩,⟨some 7,.fl (.load none (.t 6)),none⟩,⟨some 8,.mkMap,none⟩,⟨some 9,.fl (.mv (.t 0)),none⟩,⟨some 10,.fl (.chk (.t 9)),none⟩,⟨some 11,.fl (.fAddr 1 (.t 10)),none⟩,⟨some 12,.fl (.load none (.t 11)),none⟩,
 ⟨none,.mputD (.t 8) (.k (.str [114,101,97,115,111,110])) (.t 12),none⟩,⟨some 13,.fl (.mv (.t 0)),none⟩,⟨some 14,.fl (.chk (.t 13)),none⟩,⟨some 15,.fl (.fAddr 2 (.t 14)),none⟩,⟨some 16,.fl (.load none (.t 15)),none⟩,
 ⟨none,.mputD (.t 8) (.k (.str [115,109,116,112,46,109,97,105,108,102,114,111,109])) (.t 16),none⟩,⟨some 17,.fl (.mv (.t 0)),none⟩,⟨some 18,.fl (.chk (.t 17)),none⟩,⟨some 19,.fl (.fAddr 3 (.t 18)),none⟩,⟨some 20,.fl (.load none (.t 19)),none⟩,
 ⟨none,.mputD (.t 8) (.k (.str [115,109,116,112,46,104,101,108,111])) (.t 20),none⟩,⟨some 21,.mv (.t 8),none⟩,⟨some 2,.mv (.t 7),none⟩,⟨some 3,.mv (.t 21),none⟩] [2,3] [] [])
 (.ghost [.frz 8]))
 .ret)),
 [.t 2,.t 3]⟩

def l_authres_SPFResult_format:Lay:={ rg:=[(0,([0],[])),(1,([2,3],[]))],dd:=[(0,[[2]])],gh:=[(1,[.frz 8])],md:=[8],fl:=[4,5,6,7,9,10,11,12,13,14,15,16,17,18,19,20] }

def c_authres_DMARCResult_format:SFn:=⟨1,
 (.seq
 (.region [⟨some 2,.mv (.k (.str [])),none⟩,⟨some 3,.mv (.k .nilM),none⟩] [0] [] [[2]])
 (.seq
 (.region [⟨some 4,.fl (.mv (.t 0)),none⟩,⟨some 5,.fl (.chk (.t 4)),none⟩,⟨some 6,.fl (.fAddr 0 (.t 5)),none⟩,⟨some 7,.fl (.load none (.t 6)),none⟩,⟨some 8,.mkMap,none⟩,⟨some 9,.fl (.mv (.t 0)),none⟩,⟨some 10,.fl (.chk (.t 9)),none⟩,⟨some 11,.fl (.fAddr 1 (.t 10)),none⟩,⟨some 12,.fl (.load none (.t 11)),none⟩,
 ⟨none,.mputD (.t 8) (.k (.str [114,101,97,115,111,110])) (.t 12),none⟩,⟨some 13,.fl (.mv (.t 0)),none⟩,⟨some 14,.fl (.chk (.t 13)),none⟩,⟨some 15,.fl (.fAddr 2 (.t 14)),none⟩,⟨some 16,.fl (.load none (.t 15)),none⟩,
 ⟨none,.mputD (.t 8) (.k (.str [104,101,97,100,101,114,46,102,114,111,109])) (.t 16),none⟩,⟨some 17,.mv (.t 8),none⟩,⟨some 2,.mv (.t 7),none⟩,⟨some 3,.mv (.t 17),none⟩] [2,3] [] [])
 .ret)),
 [.t 2,.t 3]⟩

def l_authres_DMARCResult_format:Lay:={ rg:=[(0,([0],[])),(1,([2,3],[]))],dd:=[(0,[[2]])],gh:=[(4,[.frz 19])],md:=[8],fl:=[4,5,6,7,9,10,11,12,13,14,15,16] }

def c_authres_GenericResult_format:SFn:=⟨1,
 (.seq
 (.region [⟨some 2,.mv (.k (.str [])),none⟩,⟨some 3,.mv (.k .nilM),none⟩] [0] [] [[2]])
 (.seq
 (.region [⟨some 4,.fl (.mv (.t 0)),none⟩,⟨some 5,.fl (.chk (.t 4)),none⟩,⟨some 6,.fl (.fAddr 1 (.t 5)),none⟩,⟨some 7,.fl (.load none (.t 6)),none⟩,⟨some 8,.fl (.mv (.t 0)),none⟩,⟨some 9,.fl (.chk (.t 8)),none⟩,⟨some 10,.fl (.fAddr 2 (.t 9)),none⟩,⟨some 11,.fl (.load none (.t 10)),none⟩,⟨some 2,.mv (.t 7),none⟩,⟨some 3,.mv (.t 11),none⟩] [2,3] [] [])
 .ret)),
 [.t 2,.t 3]⟩

def l_authres_GenericResult_format:Lay:={ rg:=[(0,([0],[])),(1,([2,3],[]))],dd:=[(0,[[2]])],fl:=[4,5,6,7,8,9,10,11] }

def b_authres_formatParams_1:SCode :=
 (.seq
 (.regM (some 15) (.t 14) [⟨some 16,.extr (.t 15) 0,none⟩] [0,3,14,16] [] [])
 (.seq
 (.cond (.t 16)
 .skip
 (.exit 0))
 (.block 1
 (.seq
 (.region [⟨some 17,.entry (.t 14),none⟩,⟨some 18,.extr (.t 17) 0,none⟩,⟨some 4,.mv (.t 18),none⟩] [0,3,4,14] [] [[],[17]])
 (.seq
 (.seq
 (.region [⟨some 19,.mv (.t 4),none⟩,⟨some 20,.bin .eql (.t 19) (.k (.str [114,101,97,115,111,110])),none⟩] [0,3,4,14,20] [] [])
 (.cond (.t 20)
 (.exit 1)
 .skip))
 (.region [⟨some 21,.mv (.t 3),none⟩,⟨some 22,.mv (.t 4),none⟩,⟨some 23,.mkSl 1 1 [(.str [])] [(0,(.t 22))],none⟩,⟨some 24,.app 1 16 (.t 21) (.t 23),none⟩,⟨some 3,.mv (.t 24),none⟩] [0,3,14] [23] [[],[4],[22],[21,23]]))))))

def b_authres_formatParams_2:SCode :=
 (.seq
 (.region [⟨some 36,.bin .lss (.t 35) (.t 34),none⟩] [0,5,6,33,34,35,36] [] [])
 (.seq
 (.cond (.t 36)
 .skip
 (.exit 2))
 (.seq
 (.block 3
 (.seq
 (.region [⟨some 37,.iAddr 1 (.t 33) (.t 35),none⟩,⟨some 38,.load none (.t 37),none⟩,⟨some 8,.mv (.t 38),none⟩] [0,5,6,8,33,34,35] [] [[],[37]])
 (.seq
 (.seq
 (.region [⟨some 39,.mv (.t 0),none⟩,⟨some 40,.mv (.t 8),none⟩,⟨some 41,.look (.str []) false (.t 39) (.t 40),none⟩,⟨some 42,.bin .eql (.t 41) (.k (.str [])),none⟩] [0,5,6,8,33,34,35,42] [] [[],[],[39,40]])
 (.cond (.t 42)
 (.exit 3)
 .skip))
 (.seq
 (.seq
 (.region [⟨some 43,.mv (.t 6),none⟩,⟨some 44,.bin .gtr (.t 43) (.k (.int .i64 0)),none⟩] [0,5,6,8,33,34,35,44] [] [])
 (.cond (.t 44)
 (.region [⟨some 45,.mv (.t 5),none⟩,⟨some 46,.bin .add (.t 45) (.k (.str [32])),none⟩,⟨some 5,.mv (.t 46),none⟩] [0,5,6,8,33,34,35] [] [[],[45]])
 .skip))
 (.seq
 (.region [⟨some 9,.mv (.k (.str [])),none⟩] [0,5,6,8,33,34,35] [] [])
 (.seq
 (.seq
 (.region [⟨some 47,.mv (.t 8),none⟩,⟨some 48,.bin .eql (.t 47) (.k (.str [114,101,97,115,111,110])),none⟩] [0,5,6,8,33,34,35,48] [] [])
 (.cond (.t 48)
 (.region [⟨some 49,.mv (.t 0),none⟩,⟨some 50,.mv (.t 8),none⟩,⟨some 51,.look (.str []) false (.t 49) (.t 50),none⟩,⟨some 52,.call 241 [(.t 51)],none⟩,⟨some 9,.mv (.t 52),none⟩] [0,5,6,8,9,33,34,35] [] [[],[],[49,50],[51]])
 (.region [⟨some 53,.mv (.t 0),none⟩,⟨some 54,.mv (.t 8),none⟩,⟨some 55,.look (.str []) false (.t 53) (.t 54),none⟩,⟨some 56,.call 242 [(.t 55)],none⟩,⟨some 9,.mv (.t 56),none⟩] [0,5,6,8,9,33,34,35] [] [[],[],[53,54],[55]])))
 (.seq
 (.region [⟨some 57,.mv (.t 5),none⟩,⟨some 58,.mv (.t 8),none⟩,⟨some 59,.bin .add (.t 58) (.k (.str [61])),none⟩,⟨some 60,.mv (.t 9),none⟩,⟨some 61,.bin .add (.t 59) (.t 60),none⟩,⟨some 62,.bin .add (.t 57) (.t 61),none⟩,⟨some 5,.mv (.t 62),none⟩] [0,5,6,33,34,35] [] [[],[8],[58],[9],[59,60],[57,61]])
 (.region [⟨some 63,.mv (.t 6),none⟩,⟨some 64,.bin .add (.t 63) (.k (.int .i64 1)),none⟩,⟨some 6,.mv (.t 64),none⟩] [0,5,6,33,34,35] [] [[],[63]]))))))))
 (.region [⟨some 65,.bin .add (.t 35) (.k (.int .i64 1)),none⟩,⟨some 35,.mv (.t 65),none⟩] [0,5,6,33,34,35] [] []))))

def t_authres_formatParams_3:SCode :=
 (.seq
 (.region [⟨some 66,.mv (.t 5),none⟩,⟨some 2,.mv (.t 66),none⟩] [2] [12,24,26,30,32,100026] [[5]])
 .ret)

def t_authres_formatParams_4:SCode :=
 (.seq
 (.region [⟨some 25,.mv (.t 3),none⟩,⟨some 26,.callS 240 [(.t 25)],none⟩] [0,3] [14] [])
 (.seq
 (.seq
 (.region [⟨some 27,.mv (.t 0),none⟩,⟨some 28,.look (.str []) false (.t 27) (.k (.str [114,101,97,115,111,110])),none⟩,⟨some 29,.bin .neq (.t 28) (.k (.str [])),none⟩] [0,3,29] [] [[],[27]])
 (.cond (.t 29)
 (.region [⟨some 30,.mkSl 1 1 [(.str [])] [(0,(.k (.str [114,101,97,115,111,110])))],none⟩,⟨some 31,.mv (.t 3),none⟩,⟨some 32,.app 1 16 (.t 30) (.t 31),none⟩,⟨some 3,.mv (.t 32),none⟩] [0,3] [] [[],[],[30,31]])
 .skip))
 (.seq
 (.region [⟨some 5,.mv (.k (.str [])),none⟩] [0,3,5] [] [])
 (.seq
 (.region [⟨some 6,.mv (.k (.int .i64 0)),none⟩] [0,3,5,6] [] [])
 (.seq
 (.seq
 (.region [⟨some 33,.mv (.t 3),none⟩,⟨some 34,.len 1 (.t 33),none⟩,⟨some 35,.mv (.k (.int .i64 0)),none⟩] [0,5,6,33,34,35] [] [[3]])
 (.block 2
 (.loop [0,5,6,33,34,35]
 b_authres_formatParams_2)))
 t_authres_formatParams_3)))))

def c_authres_formatParams:SFn:=⟨1,
 (.seq
 (.region [⟨some 2,.mv (.k (.str [])),none⟩] [0] [] [])
 (.seq
 (.region [⟨some 10,.mv (.t 0),none⟩,⟨some 11,.len 2 (.t 10),none⟩,⟨some 12,.mkSlice 1 16 [(.str [])] (.k (.int .i64 0)) (.t 11),none⟩,⟨some 3,.mv (.t 12),none⟩] [0,3] [] [[],[10],[11]])
 (.seq
 (.seq
 (.region [⟨some 13,.mv (.t 0),none⟩,⟨some 14,.rangeM (.t 13),none⟩] [0,3,14] [] [])
 (.block 0
 (.loop [0,3,14]
 b_authres_formatParams_1)))
 t_authres_formatParams_4))),
 [.t 2]⟩

def l_authres_formatParams:Lay:={ rg:=[(0,([0],[])),(1,([0,3],[])),(2,([0,3,14],[])),(3,([0,3,14,16],[])),(4,([0,3,4,14],[])),(5,([0,3,4,14,20],[])),(6,([0,3,14],[23])),(7,([0,3],[14])),(8,([0,3,29],[])),(9,([0,3],[])),(10,([0,3,5],[])),(11,([0,3,5,6],[])),(12,([0,5,6,33,34,35],[])),(13,([0,5,6,33,34,35,36],[])),(14,([0,5,6,8,33,34,35],[])),(15,([0,5,6,8,33,34,35,42],[])),(16,([0,5,6,8,33,34,35,44],[])),(17,([0,5,6,8,33,34,35],[])),(18,([0,5,6,8,33,34,35],[])),(19,([0,5,6,8,33,34,35,48],[])),(20,([0,5,6,8,9,33,34,35],[])),(21,([0,5,6,8,9,33,34,35],[])),(22,([0,5,6,33,34,35],[])),(23,([0,5,6,33,34,35],[])),(24,([0,5,6,33,34,35],[])),(25,([2],[12,24,26,30,32,100026])),(1000003,([0,3,14],[])),(1000013,([0,5,6,33,34,35],[]))],dd:=[(1,[[],[10],[11]]),(4,[[],[17]]),(6,[[],[4],[22],[21,23]]),(8,[[],[27]]),(9,[[],[],[30,31]]),(12,[[3]]),(14,[[],[37]]),(15,[[],[],[39,40]]),(17,[[],[45]]),(20,[[],[],[49,50],[51]]),(21,[[],[],[53,54],[55]]),(22,[[],[8],[58],[9],[59,60],[57,61]]),(23,[[],[63]]),(25,[[5]])],sf:=[240] }

def b_authres_formatValue_1:SCode :=
 (.seq
 (.region [⟨some 9,.nextS (.t 8),none⟩,⟨some 10,.extr (.t 9) 0,none⟩] [0,3,8,9,10] [] [])
 (.seq
 (.cond (.t 10)
 .skip
 (.exit 0))
 (.block 1
 (.seq
 (.region [⟨some 11,.extr (.t 9) 2,none⟩,⟨some 5,.mv (.t 11),none⟩] [0,3,5,8] [] [[9]])
 (.seq
 (.region [⟨some 12,.mv (.t 5),none⟩,⟨some 13,.call 243 [(.t 12)],none⟩,⟨some 6,.mv (.t 13),none⟩] [0,3,5,6,8] [] [[],[12]])
 (.seq
 (.region [⟨some 14,.mv (.t 5),none⟩,⟨some 15,.bin .leq (.t 14) (.k (.int .i32 32)),none⟩,⟨some 16,.mv (.t 15),none⟩,⟨some 17,.mv (.t 6),some (16,false)⟩,⟨some 18,.pick (.t 16) (.k (.bool true)) (.t 17),none⟩] [0,3,8,18] [] [[5],[14],[15],[6]])
 (.cond (.t 18)
 (.region [⟨some 3,.mv (.k (.bool true)),none⟩] [0,3,8] [] [])
 .skip)))))))

def t_authres_formatValue_2:SCode :=
 (.seq
 (.seq
 (.region [⟨some 19,.mv (.t 3),none⟩] [0,19] [8] [])
 (.cond (.t 19)
 (.seq
 (.region [⟨some 20,.mv (.t 0),none⟩,⟨some 21,.call 244 [(.t 20)],none⟩,⟨some 22,.bin .add (.k (.str [34])) (.t 21),none⟩,⟨some 23,.bin .add (.t 22) (.k (.str [34])),none⟩,⟨some 2,.mv (.t 23),none⟩] [2] [] [[0],[20],[21],[22]])
 .ret)
 .skip))
 (.seq
 (.region [⟨some 24,.mv (.t 0),none⟩,⟨some 2,.mv (.t 24),none⟩] [2] [] [[0]])
 .ret))

def c_authres_formatValue:SFn:=⟨1,
 (.seq
 (.region [⟨some 2,.mv (.k (.str [])),none⟩] [0] [] [])
 (.seq
 (.region [⟨some 3,.mv (.k (.bool false)),none⟩] [0,3] [] [])
 (.seq
 (.seq
 (.region [⟨some 7,.mv (.t 0),none⟩,⟨some 8,.rangeS (.t 7),none⟩] [0,3,8] [] [])
 (.block 0
 (.loop [0,3,8]
 b_authres_formatValue_1)))
 t_authres_formatValue_2))),
 [.t 2]⟩

def l_authres_formatValue:Lay:={ rg:=[(0,([0],[])),(1,([0,3],[])),(2,([0,3,8],[])),(3,([0,3,8,9,10],[])),(4,([0,3,5,8],[])),(5,([0,3,5,6,8],[])),(6,([0,3,8,18],[])),(7,([0,3,8],[])),(8,([0,19],[8])),(9,([2],[])),(10,([2],[])),(1000003,([0,3,8],[]))],dd:=[(4,[[9]]),(5,[[],[12]]),(6,[[5],[14],[15],[6]]),(9,[[0],[20],[21],[22]]),(10,[[0]])] }

def b_authres_formatPvalue_1:SCode :=
 (.seq
 (.region [⟨some 9,.nextS (.t 8),none⟩,⟨some 10,.extr (.t 9) 0,none⟩] [0,3,8,9,10] [] [])
 (.seq
 (.cond (.t 10)
 .skip
 (.exit 0))
 (.block 1
 (.seq
 (.region [⟨some 11,.extr (.t 9) 2,none⟩,⟨some 5,.mv (.t 11),none⟩] [0,3,5,8] [] [[9]])
 (.seq
 (.region [⟨some 12,.mv (.t 5),none⟩,⟨some 13,.call 245 [(.t 12)],none⟩,⟨some 6,.mv (.t 13),none⟩] [0,3,5,6,8] [] [[],[12]])
 (.seq
 (.region [⟨some 14,.mv (.t 5),none⟩,⟨some 15,.call 246 [(.t 14)],none⟩,⟨some 16,.un .not (.t 15),none⟩,⟨some 17,.mv (.t 16),none⟩,⟨some 18,.mv (.t 5),some (17,true)⟩,⟨some 19,.call 247 [(.t 18)],some (17,true)⟩,⟨some 20,.un .not (.t 19),some (17,true)⟩,⟨some 21,.pick (.t 17) (.t 20) (.k (.bool false)),none⟩,⟨some 22,.mv (.t 21),none⟩,⟨some 23,.mv (.t 6),some (22,true)⟩,⟨some 24,.un .not (.t 23),some (22,true)⟩,⟨some 25,.pick (.t 22) (.t 24) (.k (.bool false)),none⟩] [0,3,8,25] [] [[],[14],[15],[16],[5],[18],[19],[17,20],[21],[6],[23]])
 (.cond (.t 25)
 (.region [⟨some 3,.mv (.k (.bool false)),none⟩] [0,3,8] [] [])
 .skip)))))))

def t_authres_formatPvalue_2:SCode :=
 (.seq
 (.seq
 (.region [⟨some 26,.mv (.t 3),none⟩] [0,26] [8] [])
 (.cond (.t 26)
 (.seq
 (.region [⟨some 27,.mv (.t 0),none⟩,⟨some 2,.mv (.t 27),none⟩] [2] [] [[0]])
 .ret)
 .skip))
 (.seq
 (.region [⟨some 28,.mv (.t 0),none⟩,⟨some 29,.call 241 [(.t 28)],none⟩,⟨some 2,.mv (.t 29),none⟩] [2] [] [[0],[28]])
 .ret))

def c_authres_formatPvalue:SFn:=⟨1,
 (.seq
 (.region [⟨some 2,.mv (.k (.str [])),none⟩] [0] [] [])
 (.seq
 (.region [⟨some 3,.mv (.k (.bool true)),none⟩] [0,3] [] [])
 (.seq
 (.seq
 (.region [⟨some 7,.mv (.t 0),none⟩,⟨some 8,.rangeS (.t 7),none⟩] [0,3,8] [] [])
 (.block 0
 (.loop [0,3,8]
 b_authres_formatPvalue_1)))
 t_authres_formatPvalue_2))),
 [.t 2]⟩

def l_authres_formatPvalue:Lay:={ rg:=[(0,([0],[])),(1,([0,3],[])),(2,([0,3,8],[])),(3,([0,3,8,9,10],[])),(4,([0,3,5,8],[])),(5,([0,3,5,6,8],[])),(6,([0,3,8,25],[])),(7,([0,3,8],[])),(8,([0,26],[8])),(9,([2],[])),(10,([2],[])),(1000003,([0,3,8],[]))],dd:=[(4,[[9]]),(5,[[],[12]]),(6,[[],[14],[15],[16],[5],[18],[19],[17,20],[21],[6],[23]]),(9,[[0]]),(10,[[0],[28]])] }

def c_authres_tspecial:SFn:=⟨1,
 (.seq
 (.region [⟨some 2,.mv (.k (.bool false)),none⟩] [0] [] [])
 (.seq
 (.seq
 (.region [⟨some 3,.mv (.t 0),none⟩] [3] [] [])
 (.block 0
 (.seq
 (.seq
 (.region [⟨some 5,.bin .eql (.t 3) (.k (.int .i32 40)),none⟩,⟨some 4,.mv (.t 5),none⟩] [3,4] [] [])
 (.cond (.t 4)
 .skip
 (.seq
 (.region [⟨some 6,.bin .eql (.t 3) (.k (.int .i32 41)),none⟩,⟨some 4,.mv (.t 6),none⟩] [3,4] [] [])
 (.cond (.t 4)
 .skip
 (.seq
 (.region [⟨some 7,.bin .eql (.t 3) (.k (.int .i32 60)),none⟩,⟨some 4,.mv (.t 7),none⟩] [3,4] [] [])
 (.cond (.t 4)
 .skip
 (.seq
 (.region [⟨some 8,.bin .eql (.t 3) (.k (.int .i32 62)),none⟩,⟨some 4,.mv (.t 8),none⟩] [3,4] [] [])
 (.cond (.t 4)
 .skip
 (.seq
 (.region [⟨some 9,.bin .eql (.t 3) (.k (.int .i32 64)),none⟩,⟨some 4,.mv (.t 9),none⟩] [3,4] [] [])
 (.cond (.t 4)
 .skip
 (.seq
 (.region [⟨some 10,.bin .eql (.t 3) (.k (.int .i32 44)),none⟩,⟨some 4,.mv (.t 10),none⟩] [3,4] [] [])
 (.cond (.t 4)
 .skip
 (.seq
 (.region [⟨some 11,.bin .eql (.t 3) (.k (.int .i32 59)),none⟩,⟨some 4,.mv (.t 11),none⟩] [3,4] [] [])
 (.cond (.t 4)
 .skip
 (.seq
 (.region [⟨some 12,.bin .eql (.t 3) (.k (.int .i32 58)),none⟩,⟨some 4,.mv (.t 12),none⟩] [3,4] [] [])
 (.cond (.t 4)
 .skip
 (.seq
 (.region [⟨some 13,.bin .eql (.t 3) (.k (.int .i32 92)),none⟩,⟨some 4,.mv (.t 13),none⟩] [3,4] [] [])
 (.cond (.t 4)
 .skip
 (.seq
 (.region [⟨some 14,.bin .eql (.t 3) (.k (.int .i32 34)),none⟩,⟨some 4,.mv (.t 14),none⟩] [3,4] [] [])
 (.cond (.t 4)
 .skip
 (.seq
 (.region [⟨some 15,.bin .eql (.t 3) (.k (.int .i32 47)),none⟩,⟨some 4,.mv (.t 15),none⟩] [3,4] [] [])
 (.cond (.t 4)
 .skip
 (.seq
 (.region [⟨some 16,.bin .eql (.t 3) (.k (.int .i32 91)),none⟩,⟨some 4,.mv (.t 16),none⟩] [3,4] [] [])
 (.cond (.t 4)
 .skip
 (.seq
 (.region [⟨some 17,.bin .eql (.t 3) (.k (.int .i32 93)),none⟩,⟨some 4,.mv (.t 17),none⟩] [3,4] [] [])
 (.cond (.t 4)
 .skip
 (.seq
 (.region [⟨some 18,.bin .eql (.t 3) (.k (.int .i32 63)),none⟩,⟨some 4,.mv (.t 18),none⟩] [3,4] [] [])
 (.cond (.t 4)
 .skip
 (.region [⟨some 19,.bin .eql (.t 3) (.k (.int .i32 61)),none⟩,⟨some 4,.mv (.t 19),none⟩] [4] [] [[3]])))))))))))))))))))))))))))))
 (.cond (.t 4)
 (.seq
 (.region [⟨some 2,.mv (.k (.bool true)),none⟩] [2] [] [])
 .ret)
 .skip))))
 (.seq
 (.region [⟨some 2,.mv (.k (.bool false)),none⟩] [2] [] [])
 .ret))),
 [.t 2]⟩

def l_authres_tspecial:Lay:={ rg:=[(0,([0],[])),(1,([3],[])),(2,([3,4],[])),(3,([3,4],[])),(4,([3,4],[])),(5,([3,4],[])),(6,([3,4],[])),(7,([3,4],[])),(8,([3,4],[])),(9,([3,4],[])),(10,([3,4],[])),(11,([3,4],[])),(12,([3,4],[])),(13,([3,4],[])),(14,([3,4],[])),(15,([3,4],[])),(16,([4],[])),(17,([2],[])),(18,([2],[]))],dd:=[(16,[[3]])] }

def c_authres_addressOk:SFn:=⟨1,
 (.seq
 (.region [⟨some 2,.mv (.k (.bool false)),none⟩] [0] [] [])
 (.seq
 (.seq
 (.region [⟨some 3,.mv (.t 0),none⟩] [3] [] [])
 (.block 0
 (.seq
 (.seq
 (.region [⟨some 5,.bin .eql (.t 3) (.k (.int .i32 35)),none⟩,⟨some 4,.mv (.t 5),none⟩] [3,4] [] [])
 (.cond (.t 4)
 .skip
 (.seq
 (.region [⟨some 6,.bin .eql (.t 3) (.k (.int .i32 36)),none⟩,⟨some 4,.mv (.t 6),none⟩] [3,4] [] [])
 (.cond (.t 4)
 .skip
 (.seq
 (.region [⟨some 7,.bin .eql (.t 3) (.k (.int .i32 37)),none⟩,⟨some 4,.mv (.t 7),none⟩] [3,4] [] [])
 (.cond (.t 4)
 .skip
 (.seq
 (.region [⟨some 8,.bin .eql (.t 3) (.k (.int .i32 38)),none⟩,⟨some 4,.mv (.t 8),none⟩] [3,4] [] [])
 (.cond (.t 4)
 .skip
 (.seq
 (.region [⟨some 9,.bin .eql (.t 3) (.k (.int .i32 39)),none⟩,⟨some 4,.mv (.t 9),none⟩] [3,4] [] [])
 (.cond (.t 4)
 .skip
 (.seq
 (.region [⟨some 10,.bin .eql (.t 3) (.k (.int .i32 42)),none⟩,⟨some 4,.mv (.t 10),none⟩] [3,4] [] [])
 (.cond (.t 4)
 .skip
 (.seq
 (.region [⟨some 11,.bin .eql (.t 3) (.k (.int .i32 43)),none⟩,⟨some 4,.mv (.t 11),none⟩] [3,4] [] [])
 (.cond (.t 4)
 .skip
 (.seq
 (.region [⟨some 12,.bin .eql (.t 3) (.k (.int .i32 44)),none⟩,⟨some 4,.mv (.t 12),none⟩] [3,4] [] [])
 (.cond (.t 4)
 .skip
 (.seq
 (.region [⟨some 13,.bin .eql (.t 3) (.k (.int .i32 46)),none⟩,⟨some 4,.mv (.t 13),none⟩] [3,4] [] [])
 (.cond (.t 4)
 .skip
 (.seq
 (.region [⟨some 14,.bin .eql (.t 3) (.k (.int .i32 47)),none⟩,⟨some 4,.mv (.t 14),none⟩] [3,4] [] [])
 (.cond (.t 4)
 .skip
 (.seq
 (.region [⟨some 15,.bin .eql (.t 3) (.k (.int .i32 45)),none⟩,⟨some 4,.mv (.t 15),none⟩] [3,4] [] [])
 (.cond (.t 4)
 .skip
 (.seq
 (.region [⟨some 16,.bin .eql (.t 3) (.k (.int .i32 64)),none⟩,⟨some 4,.mv (.t 16),none⟩] [3,4] [] [])
 (.cond (.t 4)
 .skip
 (.seq
 (.region [⟨some 17,.bin .eql (.t 3) (.k (.int .i32 91)),none⟩,⟨some 4,.mv (.t 17),none⟩] [3,4] [] [])
 (.cond (.t 4)
 .skip
 (.seq
 (.region [⟨some 18,.bin .eql (.t 3) (.k (.int .i32 93)),none⟩,⟨some 4,.mv (.t 18),none⟩] [3,4] [] [])
 (.cond (.t 4)
 .skip
 (.seq
 (.region [⟨some 19,.bin .eql (.t 3) (.k (.int .i32 92)),none⟩,⟨some 4,.mv (.t 19),none⟩] [3,4] [] [])
 (.cond (.t 4)
 .skip
 (.seq
 (.region [⟨some 20,.bin .eql (.t 3) (.k (.int .i32 94)),none⟩,⟨some 4,.mv (.t 20),none⟩] [3,4] [] [])
 (.cond (.t 4)
 .skip
 (.seq
 (.region [⟨some 21,.bin .eql (.t 3) (.k (.int .i32 95)),none⟩,⟨some 4,.mv (.t 21),none⟩] [3,4] [] [])
 (.cond (.t 4)
 .skip
 (.seq
 (.region [⟨some 22,.bin .eql (.t 3) (.k (.int .i32 96)),none⟩,⟨some 4,.mv (.t 22),none⟩] [3,4] [] [])
 (.cond (.t 4)
 .skip
 (.seq
 (.region [⟨some 23,.bin .eql (.t 3) (.k (.int .i32 123)),none⟩,⟨some 4,.mv (.t 23),none⟩] [3,4] [] [])
 (.cond (.t 4)
 .skip
 (.seq
 (.region [⟨some 24,.bin .eql (.t 3) (.k (.int .i32 124)),none⟩,⟨some 4,.mv (.t 24),none⟩] [3,4] [] [])
 (.cond (.t 4)
 .skip
 (.seq
 (.region [⟨some 25,.bin .eql (.t 3) (.k (.int .i32 125)),none⟩,⟨some 4,.mv (.t 25),none⟩] [3,4] [] [])
 (.cond (.t 4)
 .skip
 (.region [⟨some 26,.bin .eql (.t 3) (.k (.int .i32 126)),none⟩,⟨some 4,.mv (.t 26),none⟩] [4] [] [[3]])))))))))))))))))))))))))))))))))))))))))))
 (.cond (.t 4)
 (.seq
 (.region [⟨some 2,.mv (.k (.bool true)),none⟩] [2] [] [])
 .ret)
 .skip))))
 (.seq
 (.region [⟨some 2,.mv (.k (.bool false)),none⟩] [2] [] [])
 .ret))),
 [.t 2]⟩

def l_authres_addressOk:Lay:={ rg:=[(0,([0],[])),(1,([3],[])),(2,([3,4],[])),(3,([3,4],[])),(4,([3,4],[])),(5,([3,4],[])),(6,([3,4],[])),(7,([3,4],[])),(8,([3,4],[])),(9,([3,4],[])),(10,([3,4],[])),(11,([3,4],[])),(12,([3,4],[])),(13,([3,4],[])),(14,([3,4],[])),(15,([3,4],[])),(16,([3,4],[])),(17,([3,4],[])),(18,([3,4],[])),(19,([3,4],[])),(20,([3,4],[])),(21,([3,4],[])),(22,([3,4],[])),(23,([4],[])),(24,([2],[])),(25,([2],[]))],dd:=[(23,[[3]])] }

def c_authres_zzIsLetter:SFn:=⟨1,
 (.seq
 (.region [⟨some 2,.mv (.k (.bool false)),none⟩] [0] [] [])
 (.seq
 (.block 0
 (.seq
 (.seq
 (.region [⟨some 4,.mv (.t 0),none⟩,⟨some 5,.bin .leq (.k (.int .i32 97)) (.t 4),none⟩,⟨some 6,.mv (.t 5),none⟩,⟨some 7,.mv (.t 0),some (6,true)⟩,⟨some 8,.bin .leq (.t 7) (.k (.int .i32 122)),some (6,true)⟩,⟨some 9,.pick (.t 6) (.t 8) (.k (.bool false)),none⟩,⟨some 3,.mv (.t 9),none⟩] [0,3] [] [[],[4],[5],[],[7],[6,8]])
 (.cond (.t 3)
 .skip
 (.seq
 (.region [⟨some 10,.mv (.t 0),none⟩,⟨some 11,.bin .leq (.k (.int .i32 65)) (.t 10),none⟩,⟨some 12,.mv (.t 11),none⟩,⟨some 13,.mv (.t 0),some (12,true)⟩,⟨some 14,.bin .leq (.t 13) (.k (.int .i32 90)),some (12,true)⟩,⟨some 15,.pick (.t 12) (.t 14) (.k (.bool false)),none⟩,⟨some 3,.mv (.t 15),none⟩] [0,3] [] [[],[10],[11],[],[13],[12,14]])
 (.cond (.t 3)
 .skip
 (.seq
 (.region [⟨some 16,.mv (.t 0),none⟩,⟨some 17,.bin .eql (.t 16) (.k (.int .i32 170)),none⟩,⟨some 3,.mv (.t 17),none⟩] [0,3] [] [[],[16]])
 (.cond (.t 3)
 .skip
 (.seq
 (.region [⟨some 18,.mv (.t 0),none⟩,⟨some 19,.bin .eql (.t 18) (.k (.int .i32 181)),none⟩,⟨some 3,.mv (.t 19),none⟩] [0,3] [] [[],[18]])
 (.cond (.t 3)
 .skip
 (.seq
 (.region [⟨some 20,.mv (.t 0),none⟩,⟨some 21,.bin .eql (.t 20) (.k (.int .i32 186)),none⟩,⟨some 3,.mv (.t 21),none⟩] [0,3] [] [[],[20]])
 (.cond (.t 3)
 .skip
 (.region [⟨some 22,.mv (.t 0),none⟩,⟨some 23,.bin .geq (.t 22) (.k (.int .i32 192)),none⟩,⟨some 24,.mv (.t 23),none⟩,⟨some 25,.mv (.t 0),some (24,true)⟩,⟨some 26,.bin .leq (.t 25) (.k (.int .i32 255)),some (24,true)⟩,⟨some 27,.pick (.t 24) (.t 26) (.k (.bool false)),none⟩,⟨some 28,.mv (.t 27),none⟩,⟨some 29,.mv (.t 0),some (28,true)⟩,⟨some 30,.bin .neq (.t 29) (.k (.int .i32 215)),some (28,true)⟩,⟨some 31,.pick (.t 28) (.t 30) (.k (.bool false)),none⟩,⟨some 32,.mv (.t 31),none⟩,⟨some 33,.mv (.t 0),some (32,true)⟩,⟨some 34,.bin .neq (.t 33) (.k (.int .i32 247)),some (32,true)⟩,⟨some 35,.pick (.t 32) (.t 34) (.k (.bool false)),none⟩,⟨some 3,.mv (.t 35),none⟩] [3] [] [[],[22],[23],[],[25],[24,26],[27],[],[29],[28,30],[31],[0],[33],[32,34]])))))))))))
 (.cond (.t 3)
 (.seq
 (.region [⟨some 2,.mv (.k (.bool true)),none⟩] [2] [] [])
 .ret)
 .skip)))
 (.seq
 (.region [⟨some 2,.mv (.k (.bool false)),none⟩] [2] [] [])
 .ret))),
 [.t 2]⟩

def l_authres_zzIsLetter:Lay:={ rg:=[(0,([0],[])),(1,([0,3],[])),(2,([0,3],[])),(3,([0,3],[])),(4,([0,3],[])),(5,([0,3],[])),(6,([3],[])),(7,([2],[])),(8,([2],[]))],dd:=[(1,[[],[4],[5],[],[7],[6,8]]),(2,[[],[10],[11],[],[13],[12,14]]),(3,[[],[16]]),(4,[[],[18]]),(5,[[],[20]]),(6,[[],[22],[23],[],[25],[24,26],[27],[],[29],[28,30],[31],[0],[33],[32,34]])] }

def c_authres_zzIsDigit:SFn:=⟨1,
 (.seq
 (.region [⟨some 2,.mv (.k (.bool false)),none⟩] [0] [] [])
 (.seq
 (.region [⟨some 3,.mv (.t 0),none⟩,⟨some 4,.bin .leq (.k (.int .i32 48)) (.t 3),none⟩,⟨some 5,.mv (.t 4),none⟩,⟨some 6,.mv (.t 0),some (5,true)⟩,⟨some 7,.bin .leq (.t 6) (.k (.int .i32 57)),some (5,true)⟩,⟨some 8,.pick (.t 5) (.t 7) (.k (.bool false)),none⟩,⟨some 2,.mv (.t 8),none⟩] [2] [] [[],[3],[4],[0],[6],[5,7]])
 .ret)),
 [.t 2]⟩

def l_authres_zzIsDigit:Lay:={ rg:=[(0,([0],[])),(1,([2],[]))],dd:=[(1,[[],[3],[4],[0],[6],[5,7]])] }

def c_authres_zzQuotes:SFn:=⟨1,
 (.seq
 (.region [⟨some 2,.mv (.k (.str [])),none⟩] [0] [] [])
 (.seq
 (.region [⟨some 3,.mv (.k .nilS),none⟩] [0,3] [] [])
 (.seq
 (.seq
 (.region [⟨some 4,.mv (.k (.int .i64 0)),none⟩] [0,3,4] [] [])
 (.block 0
 (.loop [0,3,4]
 (.seq
 (.seq
 (.region [⟨some 5,.mv (.t 4),none⟩,⟨some 6,.mv (.t 0),none⟩,⟨some 7,.len 0 (.t 6),none⟩,⟨some 8,.bin .lss (.t 5) (.t 7),none⟩] [0,3,4,8] [] [[],[],[6]])
 (.cond (.t 8)
 .skip
 (.exit 0)))
 (.seq
 (.block 1
 (.seq
 (.seq
 (.region [⟨some 11,.mv (.t 0),none⟩,⟨some 12,.mv (.t 4),none⟩,⟨some 13,.iStr (.t 11) (.t 12),none⟩,⟨some 14,.bin .eql (.t 13) (.k (.int .u8 34)),none⟩] [0,3,4,14] [] [[],[],[11,12]])
 (.cond (.t 14)
 (.region [⟨some 15,.mv (.t 3),none⟩,⟨some 16,.mkSl 1 1 [(.int .u8 0)] [(0,(.k (.int .u8 92)))],none⟩,⟨some 17,.app 1 1 (.t 15) (.t 16),none⟩,⟨some 3,.mv (.t 17),none⟩] [0,3,4] [16] [[],[],[15,16]])
 .skip))
 (.region [⟨some 18,.mv (.t 3),none⟩,⟨some 19,.mv (.t 0),none⟩,⟨some 20,.mv (.t 4),none⟩,⟨some 21,.iStr (.t 19) (.t 20),none⟩,⟨some 22,.mkSl 1 1 [(.int .u8 0)] [(0,(.t 21))],none⟩,⟨some 23,.app 1 1 (.t 18) (.t 22),none⟩,⟨some 3,.mv (.t 23),none⟩] [0,3,4] [22] [[],[],[],[19,20],[21],[18,22]])))
 (.region [⟨some 9,.mv (.t 4),none⟩,⟨some 10,.bin .add (.t 9) (.k (.int .i64 1)),none⟩,⟨some 4,.mv (.t 10),none⟩] [0,3,4] [] [[],[9]]))))))
 (.seq
 (.region [⟨some 24,.mv (.t 3),none⟩,⟨some 25,.cBytesStr (.t 24),none⟩,⟨some 2,.mv (.t 25),none⟩] [2] [17,23] [[3],[24]])
 .ret)))),
 [.t 2]⟩

def l_authres_zzQuotes:Lay:={ rg:=[(0,([0],[])),(1,([0,3],[])),(2,([0,3,4],[])),(3,([0,3,4,8],[])),(4,([0,3,4],[])),(5,([0,3,4,14],[])),(6,([0,3,4],[16])),(7,([0,3,4],[22])),(8,([2],[17,23])),(1000003,([0,3,4],[]))],dd:=[(3,[[],[],[6]]),(4,[[],[9]]),(5,[[],[],[11,12]]),(6,[[],[],[15,16]]),(7,[[],[],[],[19,20],[21],[18,22]]),(8,[[3],[24]])] }

def b_laws_FnAuthQuoted_1:SCode :=
 (.seq
 (.seq
 (.region [⟨some 53,.mv (.t 6),none⟩,⟨some 54,.mv (.t 5),none⟩,⟨some 55,.len 0 (.t 54),none⟩,⟨some 56,.bin .lss (.t 53) (.t 55),none⟩] [0,3,5,6,56] [] [[],[],[54]])
 (.cond (.t 56)
 .skip
 (.exit 0)))
 (.seq
 (.block 1
 (.seq
 (.region [⟨some 59,.mv (.t 5),none⟩,⟨some 60,.mv (.t 6),none⟩,⟨some 61,.iStr (.t 59) (.t 60),none⟩,⟨some 62,.bin .lss (.t 61) (.k (.int .u8 32)),none⟩,⟨some 63,.mv (.t 62),none⟩,⟨some 64,.mv (.t 5),some (63,false)⟩,⟨some 65,.mv (.t 6),some (63,false)⟩,⟨some 66,.iStr (.t 64) (.t 65),some (63,false)⟩,⟨some 67,.bin .geq (.t 66) (.k (.int .u8 127)),some (63,false)⟩,⟨some 68,.pick (.t 63) (.k (.bool true)) (.t 67),none⟩,⟨some 69,.mv (.t 68),none⟩,⟨some 70,.mv (.t 5),some (69,false)⟩,⟨some 71,.mv (.t 6),some (69,false)⟩,⟨some 72,.iStr (.t 70) (.t 71),some (69,false)⟩,⟨some 73,.bin .eql (.t 72) (.k (.int .u8 92)),some (69,false)⟩,⟨some 74,.pick (.t 69) (.k (.bool true)) (.t 73),none⟩] [0,3,5,6,74] [] [[],[],[59,60],[61],[62],[],[],[64,65],[66],[63,67],[68],[],[],[70,71],[72]])
 (.cond (.t 74)
 (.seq
 (.region [⟨some 4,.mv (.k (.bool true)),none⟩] [4] [3] [])
 .ret)
 .skip)))
 (.region [⟨some 57,.mv (.t 6),none⟩,⟨some 58,.bin .add (.t 57) (.k (.int .i64 1)),none⟩,⟨some 6,.mv (.t 58),none⟩] [0,3,5,6] [] [[],[57]])))

def b_laws_FnAuthQuoted_2:SCode :=
 (.seq
 (.region [⟨some 78,.bin .lss (.t 77) (.t 76),none⟩] [0,3,7,75,76,77,78] [] [])
 (.seq
 (.cond (.t 78)
 .skip
 (.exit 2))
 (.seq
 (.block 3
 (.seq
 (.region [⟨some 79,.iAddr 1 (.t 75) (.t 77),none⟩,⟨some 80,.load none (.t 79),none⟩,⟨some 9,.mv (.t 80),none⟩] [0,3,7,9,75,76,77] [] [[],[79]])
 (.region [⟨some 81,.mv (.t 7),none⟩,⟨some 82,.mv (.t 81),none⟩,⟨some 83,.mv (.t 9),some (82,false)⟩,⟨some 84,.fAddr 2 (.t 3),some (82,false)⟩,⟨some 85,.load none (.t 84),some (82,false)⟩,⟨some 86,.bin .eql (.t 83) (.t 85),some (82,false)⟩,⟨some 87,.pick (.t 82) (.k (.bool true)) (.t 86),none⟩,⟨some 7,.mv (.t 87),none⟩] [0,3,7,75,76,77] [] [[],[81],[9],[],[84],[83,85],[82,86]])))
 (.region [⟨some 88,.bin .add (.t 77) (.k (.int .i64 1)),none⟩,⟨some 77,.mv (.t 88),none⟩] [0,3,7,75,76,77] [] []))))

def b_laws_FnAuthQuoted_3:SCode :=
 (.seq
 (.region [⟨some 93,.bin .lss (.t 92) (.t 91),none⟩] [0,3,7,90,91,92,93] [] [])
 (.seq
 (.cond (.t 93)
 .skip
 (.exit 4))
 (.seq
 (.block 5
 (.seq
 (.region [⟨some 94,.iAddr 3 (.t 90) (.t 92),none⟩,⟨some 95,.load (some 3) (.t 94),none⟩,⟨some 11,.alloc [(.str []),(.str []),(.str [])],none⟩,
 ⟨none,.store 3 (.t 11) (.t 95),none⟩] [0,3,7,11,90,91,92] [] [[],[94]])
 (.seq
 (.region [⟨some 96,.fAddr 2 (.t 11),none⟩,⟨some 97,.load none (.t 96),none⟩,⟨some 98,.bin .eql (.t 97) (.k (.str [])),none⟩,⟨some 99,.mv (.t 98),none⟩,⟨some 100,.fAddr 2 (.t 11),some (99,false)⟩,⟨some 101,.load none (.t 100),some (99,false)⟩,⟨some 102,.call 250 [(.t 101)],some (99,false)⟩,⟨some 103,.un .not (.t 102),some (99,false)⟩,⟨some 104,.pick (.t 99) (.k (.bool true)) (.t 103),none⟩,⟨some 105,.mv (.t 104),none⟩,⟨some 106,.fAddr 1 (.t 11),some (105,false)⟩,⟨some 107,.load none (.t 106),some (105,false)⟩,⟨some 108,.call 99 [(.t 107)],some (105,false)⟩,⟨some 109,.un .not (.t 108),some (105,false)⟩,⟨some 110,.pick (.t 105) (.k (.bool true)) (.t 109),none⟩,⟨some 111,.mv (.t 110),none⟩,⟨some 112,.fAddr 1 (.t 11),some (111,false)⟩,⟨some 113,.load none (.t 112),some (111,false)⟩,⟨some 114,.call 112 [(.t 113)],some (111,false)⟩,⟨some 115,.fAddr 1 (.t 11),some (111,false)⟩,⟨some 116,.load none (.t 115),some (111,false)⟩,⟨some 117,.bin .neq (.t 114) (.t 116),some (111,false)⟩,⟨some 118,.pick (.t 111) (.k (.bool true)) (.t 117),none⟩] [0,3,7,90,91,92,118] [11] [])
 (.cond (.t 118)
 (.seq
 (.region [⟨some 4,.mv (.k (.bool true)),none⟩] [4] [3] [])
 .ret)
 .skip))))
 (.region [⟨some 119,.bin .add (.t 92) (.k (.int .i64 1)),none⟩,⟨some 92,.mv (.t 119),none⟩] [0,3,7,90,91,92] [] []))))

def t_laws_FnAuthQuoted_4:SCode :=
 (.seq
 (.seq
 (.region [⟨some 120,.mv (.t 7),none⟩,⟨some 121,.un .not (.t 120),none⟩] [0,3,121] [] [[7]])
 (.cond (.t 121)
 (.seq
 (.region [⟨some 4,.mv (.k (.bool true)),none⟩] [4] [3] [])
 .ret)
 .skip))
 (.seq
 (.region [⟨some 123,.mv (.t 0),none⟩,⟨some 124,.load (some 16) (.t 3),none⟩,⟨some 125,.mkSl 16 1 [(.int .i64 0),(.str []),(.str []),(.str []),(.str []),(.str []),(.str []),(.str []),(.str []),(.str []),(.str []),(.str []),(.str []),(.str []),(.int .i64 0),.nilS] [(0,(.t 124))],none⟩,⟨some 126,.call 233 [(.t 123),(.t 125)],none⟩,⟨some 127,.call 234 [(.t 126)],none⟩,⟨some 122,.mv (.t 127),none⟩,⟨some 128,.extr (.t 122) 0,none⟩,⟨some 129,.extr (.t 122) 1,none⟩,⟨some 12,.alloc [(.str []),(.str []),.nilS],none⟩,
 ⟨none,.store 3 (.t 12) (.t 128),none⟩,⟨some 13,.mv (.t 129),none⟩] [0,3,12,13] [125] [[],[],[124],[123,125],[126],[127],[],[122],[],[128]])
 (.seq
 (.region [⟨some 130,.mv (.t 13),none⟩,⟨some 131,.mv (.t 130),none⟩,⟨some 132,.fAddr 0 (.t 12),some (131,true)⟩,⟨some 133,.load none (.t 132),some (131,true)⟩,⟨some 134,.mv (.t 0),some (131,true)⟩,⟨some 135,.bin .eql (.t 133) (.t 134),some (131,true)⟩,⟨some 136,.pick (.t 131) (.t 135) (.k (.bool false)),none⟩,⟨some 137,.mv (.t 136),none⟩,⟨some 138,.fAddr 2 (.t 12),some (137,true)⟩,⟨some 139,.load none (.t 138),some (137,true)⟩,⟨some 140,.len 1 (.t 139),some (137,true)⟩,⟨some 141,.bin .eql (.t 140) (.k (.int .i64 1)),some (137,true)⟩,⟨some 142,.pick (.t 137) (.t 141) (.k (.bool false)),none⟩,⟨some 143,.mv (.t 142),none⟩,⟨some 144,.fAddr 2 (.t 12),some (143,true)⟩,⟨some 145,.load none (.t 144),some (143,true)⟩,⟨some 146,.iAddr 5 (.t 145) (.k (.int .i64 0)),some (143,true)⟩,⟨some 147,.load (some 5) (.t 146),some (143,true)⟩,⟨some 148,.load (some 16) (.t 3),some (143,true)⟩,⟨some 149,.call 249 [(.t 147),(.t 148)],some (143,true)⟩,⟨some 150,.pick (.t 143) (.t 149) (.k (.bool false)),none⟩,⟨some 151,.mv (.t 150),none⟩,⟨some 152,.call 137 [],some (151,true)⟩,⟨some 153,.pick (.t 151) (.t 152) (.k (.bool false)),none⟩,⟨some 4,.mv (.t 153),none⟩] [4] [3,12] [])
 .ret)))

def t_laws_FnAuthQuoted_5:SCode :=
 (.seq
 (.seq
 (.region [⟨some 89,.load (some 16) (.t 3),none⟩,⟨some 90,.call 201 [(.t 89)],none⟩,⟨some 91,.len 1 (.t 90),none⟩,⟨some 92,.mv (.k (.int .i64 0)),none⟩] [0,3,7,90,91,92] [] [[],[89]])
 (.block 4
 (.loop [0,3,7,90,91,92]
 b_laws_FnAuthQuoted_3)))
 t_laws_FnAuthQuoted_4)

def t_laws_FnAuthQuoted_6:SCode :=
 (.seq
 (.region [⟨some 7,.mv (.k (.bool false)),none⟩] [0,3,7] [] [])
 (.seq
 (.seq
 (.region [⟨some 75,.call 203 [],none⟩,⟨some 76,.len 1 (.t 75),none⟩,⟨some 77,.mv (.k (.int .i64 0)),none⟩] [0,3,7,75,76,77] [] [])
 (.block 2
 (.loop [0,3,7,75,76,77]
 b_laws_FnAuthQuoted_2)))
 t_laws_FnAuthQuoted_5))

def c_laws_FnAuthQuoted:SFn:=⟨2,
 (.seq
 (.region [⟨some 3,.box (.t 1),none⟩,⟨some 4,.mv (.k (.bool false)),none⟩] [0,3] [] [[1]])
 (.seq
 (.seq
 (.region [⟨some 14,.mv (.t 0),none⟩,⟨some 15,.len 0 (.t 14),none⟩,⟨some 16,.bin .gtr (.t 15) (.k (.int .i64 2147483647)),none⟩,⟨some 17,.mv (.t 16),none⟩,⟨some 18,.load (some 16) (.t 3),some (17,false)⟩,⟨some 19,.call 209 [(.t 18)],some (17,false)⟩,⟨some 20,.un .not (.t 19),some (17,false)⟩,⟨some 21,.pick (.t 17) (.k (.bool true)) (.t 20),none⟩] [0,3,21] [] [[],[14],[15],[16],[],[18],[19]])
 (.cond (.t 21)
 (.seq
 (.region [⟨some 4,.mv (.k (.bool true)),none⟩] [4] [3] [])
 .ret)
 .skip))
 (.seq
 (.region [⟨some 22,.load (some 16) (.t 3),none⟩,⟨some 23,.call 208 [(.t 22)],none⟩,
 ⟨none,.store 16 (.t 3) (.t 23),none⟩] [0,3] [] [[],[22]])
 (.seq
 (.region [⟨some 24,.fAddr 3 (.t 3),none⟩,⟨some 25,.load none (.t 24),none⟩,⟨some 5,.mv (.t 25),none⟩] [0,3,5] [] [[],[24]])
 (.seq
 (.seq
 (.region [⟨some 26,.fAddr 0 (.t 3),none⟩,⟨some 27,.load none (.t 26),none⟩,⟨some 28,.bin .leq (.t 27) (.k (.int .i64 0)),none⟩,⟨some 29,.mv (.t 28),none⟩,⟨some 30,.fAddr 0 (.t 3),some (29,false)⟩,⟨some 31,.load none (.t 30),some (29,false)⟩,⟨some 32,.bin .gtr (.t 31) (.k (.int .i64 7)),some (29,false)⟩,⟨some 33,.pick (.t 29) (.k (.bool true)) (.t 32),none⟩,⟨some 34,.mv (.t 33),none⟩,⟨some 35,.mv (.t 0),some (34,false)⟩,⟨some 36,.call 204 [(.t 35)],some (34,false)⟩,⟨some 37,.un .not (.t 36),some (34,false)⟩,⟨some 38,.pick (.t 34) (.k (.bool true)) (.t 37),none⟩,⟨some 39,.mv (.t 38),none⟩,⟨some 40,.fAddr 0 (.t 3),some (39,false)⟩,⟨some 41,.load none (.t 40),some (39,false)⟩,⟨some 42,.bin .eql (.t 41) (.k (.int .i64 1)),some (39,false)⟩,⟨some 43,.mv (.t 42),some (39,false)⟩,⟨some 44,.mv (.t 5),some (43,true)⟩,⟨some 45,.bin .neq (.t 44) (.k (.str [])),some (43,true)⟩,⟨some 46,.pick (.t 43) (.t 45) (.k (.bool false)),some (39,false)⟩,⟨some 47,.pick (.t 39) (.k (.bool true)) (.t 46),none⟩,⟨some 48,.mv (.t 47),none⟩,⟨some 49,.mv (.t 5),some (48,false)⟩,⟨some 50,.len 0 (.t 49),some (48,false)⟩,⟨some 51,.bin .gtr (.t 50) (.k (.int .i64 200)),some (48,false)⟩,⟨some 52,.pick (.t 48) (.k (.bool true)) (.t 51),none⟩] [0,3,5,52] [] [[],[26],[27],[28],[],[30],[31],[29,32],[33],[],[35],[36],[34,37],[38],[],[40],[41],[42],[],[44],[43,45],[39,46],[47],[],[49],[50]])
 (.cond (.t 52)
 (.seq
 (.region [⟨some 4,.mv (.k (.bool true)),none⟩] [4] [3] [])
 .ret)
 .skip))
 (.seq
 (.seq
 (.region [⟨some 6,.mv (.k (.int .i64 0)),none⟩] [0,3,5,6] [] [])
 (.block 0
 (.loop [0,3,5,6]
 b_laws_FnAuthQuoted_1)))
 t_laws_FnAuthQuoted_6)))))),
 [.t 4]⟩

def l_laws_FnAuthQuoted:Lay:={ rg:=[(0,([0,3],[])),(1,([0,3,21],[])),(2,([4],[3])),(3,([0,3],[])),(4,([0,3,5],[])),(5,([0,3,5,52],[])),(6,([4],[3])),(7,([0,3,5,6],[])),(8,([0,3,5,6,56],[])),(9,([0,3,5,6],[])),(10,([0,3,5,6,74],[])),(11,([4],[3])),(12,([0,3,7],[])),(13,([0,3,7,75,76,77],[])),(14,([0,3,7,75,76,77,78],[])),(15,([0,3,7,9,75,76,77],[])),(16,([0,3,7,75,76,77],[])),(17,([0,3,7,75,76,77],[])),(18,([0,3,7,90,91,92],[])),(19,([0,3,7,90,91,92,93],[])),(20,([0,3,7,11,90,91,92],[])),(21,([0,3,7,90,91,92,118],[11])),(22,([4],[3])),(23,([0,3,7,90,91,92],[])),(24,([0,3,121],[])),(25,([4],[3])),(26,([0,3,12,13],[125])),(27,([4],[3,12])),(1000008,([0,3,5,6],[])),(1000014,([0,3,7,75,76,77],[])),(1000019,([0,3,7,90,91,92],[]))],dd:=[(0,[[1]]),(1,[[],[14],[15],[16],[],[18],[19]]),(3,[[],[22]]),(4,[[],[24]]),(5,[[],[26],[27],[28],[],[30],[31],[29,32],[33],[],[35],[36],[34,37],[38],[],[40],[41],[42],[],[44],[43,45],[39,46],[47],[],[49],[50]]),(8,[[],[],[54]]),(9,[[],[57]]),(10,[[],[],[59,60],[61],[62],[],[],[64,65],[66],[63,67],[68],[],[],[70,71],[72]]),(15,[[],[79]]),(16,[[],[81],[9],[],[84],[83,85],[82,86]]),(18,[[],[89]]),(20,[[],[94]]),(24,[[7]]),(26,[[],[],[124],[123,125],[126],[127],[],[122],[],[128]])] }

def b_spec_AAgree_1:SCode :=
 (.seq
 (.region [⟨some 53,.bin .lss (.t 52) (.t 51),none⟩] [2,7,8,43,44,45,50,51,52,53] [] [])
 (.seq
 (.cond (.t 53)
 .skip
 (.exit 2))
 (.seq
 (.block 3
 (.seq
 (.region [⟨some 54,.iAddr 3 (.t 50) (.t 52),none⟩,⟨some 55,.load (some 3) (.t 54),none⟩,⟨some 10,.alloc [(.str []),(.str []),(.str [])],none⟩,
 ⟨none,.store 3 (.t 10) (.t 55),none⟩] [2,7,8,10,43,44,45,50,51,52] [] [[],[54]])
 (.seq
 (.region [⟨some 56,.load (some 3) (.t 7),none⟩,⟨some 57,.load (some 3) (.t 10),none⟩,⟨some 58,.eqA false [2,2,2] (.t 56) (.t 57),none⟩] [2,7,8,43,44,45,50,51,52,58] [10] [[],[10]])
 (.cond (.t 58)
 (.region [⟨some 59,.mv (.t 8),none⟩,⟨some 60,.bin .add (.t 59) (.k (.int .i64 1)),none⟩,⟨some 8,.mv (.t 60),none⟩] [2,7,8,43,44,45,50,51,52] [] [[],[59]])
 .skip))))
 (.region [⟨some 61,.bin .add (.t 52) (.k (.int .i64 1)),none⟩,⟨some 52,.mv (.t 61),none⟩] [2,7,8,43,44,45,50,51,52] [] []))))

def t_spec_AAgree_2:SCode :=
 (.seq
 (.region [⟨some 62,.mv (.t 8),none⟩,⟨some 63,.bin .neq (.t 62) (.k (.int .i64 1)),none⟩] [2,43,44,45,63] [7] [[8]])
 (.cond (.t 63)
 (.seq
 (.region [⟨some 4,.mv (.k (.bool false)),none⟩] [4] [2] [])
 .ret)
 .skip))

def t_spec_AAgree_3:SCode :=
 (.region [⟨some 64,.bin .add (.t 45) (.k (.int .i64 1)),none⟩,⟨some 45,.mv (.t 64),none⟩] [2,43,44,45] [] [])

def b_spec_AAgree_4:SCode :=
 (.seq
 (.region [⟨some 46,.bin .lss (.t 45) (.t 44),none⟩] [2,43,44,45,46] [] [])
 (.seq
 (.cond (.t 46)
 .skip
 (.exit 0))
 (.seq
 (.block 1
 (.seq
 (.region [⟨some 47,.iAddr 3 (.t 43) (.t 45),none⟩,⟨some 48,.load (some 3) (.t 47),none⟩,⟨some 7,.alloc [(.str []),(.str []),(.str [])],none⟩,
 ⟨none,.store 3 (.t 7) (.t 48),none⟩] [2,7,43,44,45] [] [[],[47]])
 (.seq
 (.region [⟨some 8,.mv (.k (.int .i64 0)),none⟩] [2,7,8,43,44,45] [] [])
 (.seq
 (.seq
 (.region [⟨some 49,.fAddr 4 (.t 2),none⟩,⟨some 50,.load none (.t 49),none⟩,⟨some 51,.len 1 (.t 50),none⟩,⟨some 52,.mv (.k (.int .i64 0)),none⟩] [2,7,8,43,44,45,50,51,52] [] [[],[49]])
 (.block 2
 (.loop [2,7,8,43,44,45,50,51,52]
 b_spec_AAgree_1)))
 t_spec_AAgree_2))))
 t_spec_AAgree_3)))

def t_spec_AAgree_5:SCode :=
 (.seq
 (.region [⟨some 4,.mv (.k (.bool true)),none⟩] [4] [2] [])
 .ret)

def c_spec_AAgree:SFn:=⟨2,
 (.seq
 (.region [⟨some 2,.box (.t 0),none⟩,⟨some 3,.box (.t 1),none⟩,⟨some 4,.mv (.k (.bool false)),none⟩] [2,3] [] [[0],[1]])
 (.seq
 (.region [⟨some 11,.load (some 16) (.t 3),none⟩,⟨some 12,.call 206 [(.t 11)],none⟩,⟨some 5,.alloc [(.str []),(.str []),(.str []),(.str []),.nilS],none⟩,
 ⟨none,.store 5 (.t 5) (.t 12),none⟩] [2,5] [3] [[3],[11]])
 (.seq
 (.seq
 (.region [⟨some 13,.fAddr 0 (.t 2),none⟩,⟨some 14,.load none (.t 13),none⟩,⟨some 15,.call 112 [(.t 14)],none⟩,⟨some 16,.fAddr 0 (.t 5),none⟩,⟨some 17,.load none (.t 16),none⟩,⟨some 18,.bin .neq (.t 15) (.t 17),none⟩,⟨some 19,.mv (.t 18),none⟩,⟨some 20,.fAddr 2 (.t 2),some (19,false)⟩,⟨some 21,.load none (.t 20),some (19,false)⟩,⟨some 22,.fAddr 2 (.t 5),some (19,false)⟩,⟨some 23,.load none (.t 22),some (19,false)⟩,⟨some 24,.bin .neq (.t 21) (.t 23),some (19,false)⟩,⟨some 25,.pick (.t 19) (.k (.bool true)) (.t 24),none⟩,⟨some 26,.mv (.t 25),none⟩,⟨some 27,.fAddr 3 (.t 2),some (26,false)⟩,⟨some 28,.load none (.t 27),some (26,false)⟩,⟨some 29,.fAddr 3 (.t 5),some (26,false)⟩,⟨some 30,.load none (.t 29),some (26,false)⟩,⟨some 31,.bin .neq (.t 28) (.t 30),some (26,false)⟩,⟨some 32,.pick (.t 26) (.k (.bool true)) (.t 31),none⟩,⟨some 33,.mv (.t 32),none⟩,⟨some 34,.fAddr 4 (.t 2),some (33,false)⟩,⟨some 35,.load none (.t 34),some (33,false)⟩,⟨some 36,.len 1 (.t 35),some (33,false)⟩,⟨some 37,.fAddr 4 (.t 5),some (33,false)⟩,⟨some 38,.load none (.t 37),some (33,false)⟩,⟨some 39,.len 1 (.t 38),some (33,false)⟩,⟨some 40,.bin .neq (.t 36) (.t 39),some (33,false)⟩,⟨some 41,.pick (.t 33) (.k (.bool true)) (.t 40),none⟩] [2,5,41] [] [])
 (.cond (.t 41)
 (.seq
 (.region [⟨some 4,.mv (.k (.bool false)),none⟩] [4] [2,5] [])
 .ret)
 .skip))
 (.seq
 (.seq
 (.region [⟨some 42,.fAddr 4 (.t 5),none⟩,⟨some 43,.load none (.t 42),none⟩,⟨some 44,.len 1 (.t 43),none⟩,⟨some 45,.mv (.k (.int .i64 0)),none⟩] [2,43,44,45] [5] [[5],[42]])
 (.block 0
 (.loop [2,43,44,45]
 b_spec_AAgree_4)))
 t_spec_AAgree_5)))),
 [.t 4]⟩

def l_spec_AAgree:Lay:={ rg:=[(0,([2,3],[])),(1,([2,5],[3])),(2,([2,5,41],[])),(3,([4],[2,5])),(4,([2,43,44,45],[5])),(5,([2,43,44,45,46],[])),(6,([2,7,43,44,45],[])),(7,([2,7,8,43,44,45],[])),(8,([2,7,8,43,44,45,50,51,52],[])),(9,([2,7,8,43,44,45,50,51,52,53],[])),(10,([2,7,8,10,43,44,45,50,51,52],[])),(11,([2,7,8,43,44,45,50,51,52,58],[10])),(12,([2,7,8,43,44,45,50,51,52],[])),(13,([2,7,8,43,44,45,50,51,52],[])),(14,([2,43,44,45,63],[7])),(15,([4],[2])),(16,([2,43,44,45],[])),(17,([4],[2])),(1000005,([2,43,44,45],[])),(1000009,([2,7,8,43,44,45,50,51,52],[]))],dd:=[(0,[[0],[1]]),(1,[[3],[11]]),(4,[[5],[42]]),(6,[[],[47]]),(8,[[],[49]]),(10,[[],[54]]),(11,[[],[10]]),(12,[[],[59]]),(14,[[8]])] }

def b_spec_AQuotes_1:SCode :=
 (.seq
 (.seq
 (.region [⟨some 5,.mv (.t 4),none⟩,⟨some 6,.mv (.t 0),none⟩,⟨some 7,.len 0 (.t 6),none⟩,⟨some 8,.bin .lss (.t 5) (.t 7),none⟩] [0,3,4,8] [] [[],[],[6]])
 (.cond (.t 8)
 .skip
 (.exit 0)))
 (.seq
 (.block 1
 (.seq
 (.seq
 (.region [⟨some 11,.mv (.t 0),none⟩,⟨some 12,.mv (.t 4),none⟩,⟨some 13,.iStr (.t 11) (.t 12),none⟩,⟨some 14,.bin .lss (.t 13) (.k (.int .u8 32)),none⟩,⟨some 15,.mv (.t 14),none⟩,⟨some 16,.mv (.t 0),some (15,false)⟩,⟨some 17,.mv (.t 4),some (15,false)⟩,⟨some 18,.iStr (.t 16) (.t 17),some (15,false)⟩,⟨some 19,.bin .geq (.t 18) (.k (.int .u8 127)),some (15,false)⟩,⟨some 20,.pick (.t 15) (.k (.bool true)) (.t 19),none⟩,⟨some 21,.mv (.t 20),none⟩,⟨some 22,.mv (.t 0),some (21,false)⟩,⟨some 23,.mv (.t 4),some (21,false)⟩,⟨some 24,.iStr (.t 22) (.t 23),some (21,false)⟩,⟨some 25,.bin .eql (.t 24) (.k (.int .u8 92)),some (21,false)⟩,⟨some 26,.pick (.t 21) (.k (.bool true)) (.t 25),none⟩] [0,3,4,26] [] [[],[],[11,12],[13],[14],[],[],[16,17],[18],[15,19],[20],[],[],[22,23],[24]])
 (.cond (.t 26)
 (.seq
 (.region [⟨some 2,.mv (.k (.bool false)),none⟩] [2] [] [])
 .ret)
 .skip))
 (.region [⟨some 27,.mv (.t 3),none⟩,⟨some 28,.mv (.t 27),none⟩,⟨some 29,.mv (.t 0),some (28,false)⟩,⟨some 30,.mv (.t 4),some (28,false)⟩,⟨some 31,.iStr (.t 29) (.t 30),some (28,false)⟩,⟨some 32,.call 100 [(.t 31),(.k (.str [32,34,40,41,59,60,62,58,61,63]))],some (28,false)⟩,⟨some 33,.pick (.t 28) (.k (.bool true)) (.t 32),none⟩,⟨some 3,.mv (.t 33),none⟩] [0,3,4] [] [[],[27],[],[],[29,30],[31],[28,32]])))
 (.region [⟨some 9,.mv (.t 4),none⟩,⟨some 10,.bin .add (.t 9) (.k (.int .i64 1)),none⟩,⟨some 4,.mv (.t 10),none⟩] [0,3,4] [] [[],[9]])))

def t_spec_AQuotes_2:SCode :=
 (.seq
 (.region [⟨some 34,.mv (.t 0),none⟩,⟨some 35,.len 0 (.t 34),none⟩,⟨some 36,.bin .leq (.t 35) (.k (.int .i64 200)),none⟩,⟨some 37,.mv (.t 36),none⟩,⟨some 38,.mv (.t 3),some (37,true)⟩,⟨some 39,.mv (.t 38),some (37,true)⟩,⟨some 40,.mv (.t 0),some (39,false)⟩,⟨some 41,.call 204 [(.t 40)],some (39,false)⟩,⟨some 42,.pick (.t 39) (.k (.bool true)) (.t 41),some (37,true)⟩,⟨some 43,.pick (.t 37) (.t 42) (.k (.bool false)),none⟩,⟨some 2,.mv (.t 43),none⟩] [2] [] [[],[34],[35],[36],[3],[38],[0],[40],[39,41],[37,42]])
 .ret)

def c_spec_AQuotes:SFn:=⟨1,
 (.seq
 (.region [⟨some 2,.mv (.k (.bool false)),none⟩] [0] [] [])
 (.seq
 (.region [⟨some 3,.mv (.k (.bool false)),none⟩] [0,3] [] [])
 (.seq
 (.seq
 (.region [⟨some 4,.mv (.k (.int .i64 0)),none⟩] [0,3,4] [] [])
 (.block 0
 (.loop [0,3,4]
 b_spec_AQuotes_1)))
 t_spec_AQuotes_2))),
 [.t 2]⟩

def l_spec_AQuotes:Lay:={ rg:=[(0,([0],[])),(1,([0,3],[])),(2,([0,3,4],[])),(3,([0,3,4,8],[])),(4,([0,3,4],[])),(5,([0,3,4,26],[])),(6,([2],[])),(7,([0,3,4],[])),(8,([2],[])),(1000003,([0,3,4],[]))],dd:=[(3,[[],[],[6]]),(4,[[],[9]]),(5,[[],[],[11,12],[13],[14],[],[],[16,17],[18],[15,19],[20],[],[],[22,23],[24]]),(7,[[],[27],[],[],[29,30],[31],[28,32]]),(8,[[],[34],[35],[36],[3],[38],[0],[40],[39,41],[37,42]])] }

end Wax


namespace Wax
open Go (IntKind)

def c_maps_Keys:SFn:=⟨1,
 (.seq
 (.region [⟨some 1,.boxF (.t 0),none⟩,⟨some 2,.mv (.k .nilF),none⟩] [1] [] [[0]])
 (.seq
 (.region [⟨some 3,.mkFn 55 [(.t 1)],none⟩,⟨some 2,.mv (.t 3),none⟩] [2] [] [[1]])
 .ret)),
 [.t 2]⟩

def l_maps_Keys:Lay:={ rg:=[(0,([1],[])),(1,([2],[]))],dd:=[(0,[[0]]),(1,[[1]])],fz:=[1] }

end Wax


namespace Wax
open Go Go.RowKit

def gam0 (ms:List (Nat × String × Nat)):Gam:=⟨fun _ _=>none,fun t name=>(ms.find? fun m=>m.1 == t && m.2.1 == name).map (·.2.2),fun _ _ _=>none⟩

def Gam.add (Γ:Gam) (g:Nat) (c:List AV→Option AV):Gam:=⟨fun h=>if h=g then c else Γ.fn h,Γ.mth,Γ.st⟩

def Gam.addS (Γ:Gam) (g:Nat) (c:List AV→List (Nat × AObj)→Option (AV × List (Nat × AObj))):Gam:=⟨Γ.fn,Γ.mth,fun h=>if h=g then c else Γ.st h⟩

@[simp] theorem add_fn_same {Γ:Gam} {g:Nat} {c:List AV→Option AV}:(Γ.add g c).fn g=c:=by simp [Gam.add]
theorem add_fn_other {Γ:Gam} {g h:Nat} {c:List AV→Option AV} (e:h ≠ g):(Γ.add g c).fn h=Γ.fn h:=by simp [Gam.add,e]
@[simp] theorem add_mth {Γ:Gam} {g:Nat} {c:List AV→Option AV}:(Γ.add g c).mth=Γ.mth:=rfl

@[simp] theorem add_st {Γ:Gam} {g:Nat} {c:List AV→Option AV}:(Γ.add g c).st=Γ.st:=rfl
@[simp] theorem addS_fn {Γ:Gam} {g:Nat} {c}:(Γ.addS g c).fn=Γ.fn:=rfl
@[simp] theorem addS_mth {Γ:Gam} {g:Nat} {c}:(Γ.addS g c).mth=Γ.mth:=rfl
@[simp] theorem addS_st_same {Γ:Gam} {g:Nat} {c}:(Γ.addS g c).st g=c:=by simp [Gam.addS]
theorem addS_st_other {Γ:Gam} {g h:Nat} {c} (e:h ≠ g):(Γ.addS g c).st h=Γ.st h:=by simp [Gam.addS,e]

def injB (l:List (Nat × Nat)):Bool:=l.all fun p=>l.all fun q=>p.2 != q.2 || p.1 == q.1

theorem lkN_mem:∀ {l:List (Nat × Nat)} {i v:Nat},lkN l i=some v→(i,v)∈l
  | (j,u)::r,i,v,h=>by
    simp only [lkN] at h
    split at h
    · rename_i e; simp at e h; subst e; subst h; simp
    · exact List.mem_cons_of_mem _ (lkN_mem h)

theorem injB_spec {l:List (Nat × Nat)} (h:injB l=true) {i j v:Nat} (hi:lkN l i=some v) (hj:lkN l j=some v):i=j:=by
  simp only [injB,List.all_eq_true] at h
  have:=h _ (lkN_mem hi) _ (lkN_mem hj)
  simpa using this

theorem tinj {T:Tab} (h:injB T.tys=true):TInj T:=fun _ _ _ ht hu=>injB_spec h ht hu

def mthB (P:Program) (t:TypeId) (name:String) (f:FuncId):Bool :=
  match P.info? t with
  | none=>false
  | some i=>match i.methods.find? (·.name == name) with
    | none=>false
    | some m=>m.path.size == 0 && (match m.func with
      | some (g,pr)=>g == f && (match P.underlying t with
        | some (.pointer _)=>pr
        | some _ => !pr
        | none=>false)
      | none=>false)

theorem mthB_spec {P:Program} {t:TypeId} {name:String} {f:FuncId} (h:mthB P t name f=true):MthOk P t name f:=by
  intro v w
  simp only [mthB] at h
  cases hi:P.info? t with
  | none=>simp [hi] at h
  | some i =>
    simp only [hi] at h
    cases hm:i.methods.find? (·.name == name) with
    | none=>simp [hm] at h
    | some m =>
      simp only [hm,Bool.and_eq_true,beq_iff_eq] at h
      obtain ⟨hp,h⟩:=h
      cases hf:m.func with
      | none=>simp [hf] at h
      | some gp =>
        obtain ⟨g,pr⟩:=gp
        simp only [hf,Bool.and_eq_true,beq_iff_eq] at h
        obtain ⟨rfl,h⟩:=h
        have hpl:m.path.toList=[]:=by
          have:m.path.toList.length=0:=by simpa using hp
          exact List.length_eq_zero_iff.1 this
        have hrec:∀ wr,(receiverAt t (.val v) pr wr).run P w=.ok v w:=by
          intro wr
          cases hu:P.underlying t with
          | none=>simp [hu] at h
          | some d =>
            simp only [hu] at h
            simp only [receiverAt,Sem.run_bind,rUnder hu,Result.andThen_ok]
            cases d <;> cases pr <;> simp at h <;> simp [Place.get]
        have e:P.types.size+Made.depth=(P.types.size+99)+1:=rfl
        rw [e]
        generalize P.types.size+99=fuel
        simp only [method,Sem.run_bind,rInfo hi,Result.andThen_ok,hm,hpl,follow,Sem.run_pure,hf,hrec]

theorem gam0_ok {P:Program} {T:Tab} {ms:List (Nat × String × Nat)} (h:∀ t g name q,lkN T.tys t=some g→(gam0 ms).mth g name=some q→∃ f,lkN T.fns f=some q∧MthOk P t name f):GamOk P T (gam0 ms) :=
  ⟨fun f g args r _ h=>by simp [gam0] at h,h,fun f g args hp q _ h=>by simp [gam0] at h⟩

def mthsB (P:Program) (T:Tab) (ms:List (Nat × String × Nat)):Bool :=
  T.tys.all fun tg=>ms.all fun m=>m.1 != tg.2 || T.fns.any fun fg=>fg.2 == m.2.2 && lkN T.fns fg.1 == some m.2.2 && mthB P tg.1 m.2.1 fg.1

theorem mthsB_spec {P:Program} {T:Tab} {ms:List (Nat × String × Nat)} (h:mthsB P T ms=true):GamOk P T (gam0 ms):=by
  refine gam0_ok ?_
  intro t g name q ht hm
  simp only [gam0,Option.map_eq_some_iff] at hm
  obtain ⟨m,hm,rfl⟩:=hm
  have h1:=List.mem_of_find?_eq_some hm
  have h2:=List.find?_some hm
  simp only [Bool.and_eq_true,beq_iff_eq] at h2
  simp only [mthsB,List.all_eq_true,List.any_eq_true] at h
  have h3:=h _ (lkN_mem ht) m h1
  simp only [Bool.or_eq_true,bne_iff_ne,ne_eq] at h3
  rcases h3 with h3 | h3
  · exact absurd h2.1 h3
  · simp only [List.any_eq_true,Bool.and_eq_true,beq_iff_eq] at h3
    obtain ⟨fg,_,⟨_,h5⟩,h6⟩:=h3
    exact ⟨fg.1,h5,by rw [← h2.2]; exact mthB_spec h6⟩

theorem GamOk.add {P:Program} {T:Tab} {Γ:Gam} (G:GamOk P T Γ) (hF:injB T.fns=true) {f g:Nat} (hf:lkN T.fns f=some g) (hb:hasBody P f=true) {c:List AV→Option AV} (h:∀ args r,c args=some r→OkCall P T f args r) :
    GamOk P T (Γ.add g c) where
  fn:=by
    intro f' g' args r hf' hc
    by_cases e:g'=g
    · subst e
      have:=injB_spec hF hf' hf; subst this
      rw [add_fn_same] at hc
      exact ⟨hb,h args r hc⟩
    · rw [add_fn_other e] at hc
      exact G.fn f' g' args r hf' hc
  mth:=G.mth
  st:=G.st

theorem GamOk.addS {P:Program} {T:Tab} {Γ:Gam} (G:GamOk P T Γ) (hF:injB T.fns=true) {f g:Nat} (hf:lkN T.fns f=some g) (hb:hasBody P f=true) {c:List AV→List (Nat × AObj)→Option (AV × List (Nat × AObj))} (h:∀ args hp q,c args hp=some q→OkS P T f args hp q.1 q.2) :
    GamOk P T (Γ.addS g c) where
  fn:=G.fn
  mth:=G.mth
  st:=by
    intro f' g' args hp q hf' hc
    by_cases e:g'=g
    · subst e
      have:=injB_spec hF hf' hf; subst this
      rw [addS_st_same] at hc
      exact ⟨hb,h args hp q hc⟩
    · rw [addS_st_other e] at hc
      exact G.st f' g' args hp q hf' hc

theorem GamOk.walk {P:Program} {T:Tab} {Γ:Gam} (G:GamOk P T Γ) (hT:injB T.tys=true) (hF:injB T.fns=true) {f g:Nat} (hf:lkN T.fns f=some g) (hb:hasBody P f=true) {L:Lay} {fn:Func} {sfn:SFn}
    (hfn:P.funcs[f]? = some fn) (hc:compFn P T L fn=some sfn) {c:List AV→Option AV} (h:∀ args r,c args=some r→runs Γ sfn args (fun v=>v=r)):GamOk P T (Γ.add g c) :=
  G.add hF hf hb fun args r hr=>fn_sound (tinj hT) G hfn hc (h args r hr)

theorem GamOk.walkS {P:Program} {T:Tab} {Γ:Gam} (G:GamOk P T Γ) (hT:injB T.tys=true) (hF:injB T.fns=true) {f g:Nat} (hf:lkN T.fns f=some g) (hb:hasBody P f=true) {L:Lay} {fn:Func} {sfn:SFn}
    (hfn:P.funcs[f]? = some fn) (hc:compFn P T L fn=some sfn) {c:List AV→List (Nat × AObj)→Option (AV × List (Nat × AObj))} (h:∀ args hp q,c args hp=some q→runsS Γ sfn args hp (fun v=>v=some q)):GamOk P T (Γ.addS g c) :=
  G.addS hF hf hb fun args hp q hr=>fnS_sound (tinj hT) G hfn hc (h args hp q hr)
end Wax


namespace Wax
open Go (IntKind)

section
theorem ite_some {α:Type} {p:Prop} [Decidable p] {a r:α} (h:(if p then some a else none)=some r):p∧a=r:=by
  by_cases e:p <;> simp [e] at h ⊢; exact h
@[simp] theorem bcA_nil:bcA []=[]:=rfl
@[simp] theorem bcA_cons {b:UInt8} {s:List UInt8}:bcA (b::s)=.int .u8 (b.toNat:Int)::bcA s:=rfl
@[simp] theorem bcA_app {s t:List UInt8}:bcA (s++t)=bcA s++bcA t:=by simp [bcA]
@[simp] theorem bcA_length {s:List UInt8}:(bcA s).length=s.length:=by simp [bcA]
@[simp] theorem bcA_get {s:List UInt8} {i:Nat}:(bcA s)[i]? = s[i]?.map fun b=>AV.int .u8 (b.toNat:Int):=by simp [bcA]
@[simp] theorem bcA_drop {s:List UInt8} {i:Nat}:(bcA s).drop i=bcA (s.drop i):=by simp [bcA,List.map_drop]
@[simp] theorem bcA_take {s:List UInt8} {i:Nat}:(bcA s).take i=bcA (s.take i):=by simp [bcA,List.map_take]
@[simp] theorem atoms_app {a b:List AV}:atoms (a++b)=(atoms a && atoms b):=by
  induction a with
  | nil=>simp
  | cons x r ih=>simp [ih,Bool.and_assoc]
@[simp] theorem atoms_bcA {s:List UInt8}:atoms (bcA s)=true:=by induction s <;> simp_all
@[simp] theorem killL_app {d:Nat} {a b:List AV}:killL d (a++b)=killL d a++killL d b:=by
  induction a with
  | nil=>simp
  | cons x r ih=>simp [ih]
@[simp] theorem killL_bcA {d:Nat} {s:List UInt8}:killL d (bcA s)=bcA s:=by induction s <;> simp_all
@[simp] theorem killL_length {d:Nat} {s:List AV}:(killL d s).length=s.length:=by induction s <;> simp_all
@[simp] theorem toBytes_bcA {s:List UInt8}:toBytes (bcA s)=some s:=by
  induction s with
  | nil=>rfl
  | cons b r ih=>simp [toBytes,ih]
@[simp] theorem loadC_drop {cs:List AV} {i:Nat}:loadC none (cs.drop i)=cs[i]?.bind fun c=>if atom c=true then some c else none:=by
  cases h:cs[i]? with
  | none =>
    have:cs.drop i=[]:=List.drop_eq_nil_of_le (by simpa using h)
    simp [this]
  | some c =>
    have hl:i < cs.length:=by
      rcases Nat.lt_or_ge i cs.length with h' | h'
      · exact h'
      · rw [List.getElem?_eq_none h'] at h; simp at h
    rw [List.drop_eq_getElem_cons hl]
    have:cs[i]=c:=by rw [List.getElem?_eq_getElem hl] at h; simpa using h
    simp [this]
@[simp] theorem spliceL_one {cs:List AV} {i:Nat} {x:AV}:spliceL cs i [x]=cs.set i x:=rfl
@[simp] theorem spliceL_nil {cs:List AV} {i:Nat}:spliceL cs i []=cs:=rfl
@[simp] theorem toBytes_nil:toBytes []=some []:=rfl
@[simp] theorem toBytes_byte {b:UInt8} {r:List AV}:toBytes (.int .u8 (b.toNat:Int)::r)=(toBytes r).map (b :: ·):=by
  simp [toBytes]
@[simp] theorem made_o2 {hp:List (Nat × AObj)} {d:Nat} {o:AObj} {v:AV}:made hp d o v=some (o2 hp d v o):=rfl
def outV (d:Nat) (out:List UInt8):AV:=match out with | []=>.nilS | _=>.msl d 1 0 out.length
def outH (d:Nat) (out:List UInt8):List (Nat × AObj):=match out with | []=>[] | _=>[(d,.cells (bcA out))]
@[simp] theorem outV_nil {d:Nat}:outV d []=.nilS:=rfl
@[simp] theorem outH_nil {d:Nat}:outH d []=[]:=rfl
theorem outV_ne {d:Nat} {out:List UInt8} (h:out ≠ []):outV d out=.msl d 1 0 out.length:=by cases out <;> first | exact absurd rfl h | rfl
theorem outH_ne {d:Nat} {out:List UInt8} (h:out ≠ []):outH d out=[(d,.cells (bcA out))]:=by cases out <;> first | exact absurd rfl h | rfl
@[simp] theorem toNat_ofNat {n:Nat}:(n:Int).toNat=n:=by simp
end
end Wax


namespace Wax
open Go (IntKind)

def big:Nat:=4611686018427387904

def isWs (n:Int):Bool:=decide (n=32∨n=9∨n=13∨n=10)

def cutAt (c:Int):List UInt8→Option (List UInt8 × List UInt8)
  | []=>none
  | x::r=>if (x.toNat:Int)=c then some ([],r) else (cutAt c r).map fun p=>(x::p.1,p.2)

def noB (c:Int) (s:List UInt8):Prop:=∀ x∈s,(x.toNat:Int) ≠ c

theorem cutAt_app (c:Int):∀ (pre post:List UInt8),noB c pre→cutAt c (pre++post)=(cutAt c post).map fun p=>(pre++p.1,p.2)
  | [],post,_=>by simp
  | x::r,post,h=>by
    have h1:(x.toNat:Int) ≠ c:=h x (by simp)
    have h2:noB c r:=fun y hy=>h y (by simp [hy])
    simp only [List.cons_append,cutAt,if_neg h1,cutAt_app c r post h2,Option.map_map]
    rfl

def cutV (c:Int) (s:List UInt8):AV :=
  match cutAt c s with
  | some p=>.tup [.str p.1,.str p.2,.bool true]
  | none=>.tup [.str s,.str [],.bool false]

def plainB (b:UInt8):Bool:=decide ((b.toNat:Int) < 128∧(b.toNat:Int) ≠ 11∧(b.toNat:Int) ≠ 12)
theorem plainB_true {b:UInt8} (h:(b.toNat:Int) < 128∧¬ (b.toNat:Int)=11∧¬ (b.toNat:Int)=12):plainB b=true:=decide_eq_true h
def trimL (s:List UInt8):List UInt8:=s.dropWhile fun b=>isWs b.toNat
def trimR (s:List UInt8):List UInt8:=(s.reverse.dropWhile fun b=>isWs b.toNat).reverse
def trimS (s:List UInt8):List UInt8:=trimR (trimL s)

def lowB (b:UInt8):UInt8:=if 65≤b.toNat∧b.toNat≤90 then b+32 else b

theorem lowB_toNat (b:UInt8):((lowB b).toNat:Int)=if 65≤(b.toNat:Int)∧(b.toNat:Int)≤90 then (b.toNat:Int)+32 else (b.toNat:Int):=by
  unfold lowB
  by_cases h:65≤b.toNat∧b.toNat≤90
  · rw [if_pos h,if_pos (by omega),UInt8.toNat_add]
    have:(32:UInt8).toNat=32:=rfl
    rw [this]; omega
  · rw [if_neg h,if_neg (by omega)]

def lowS (s:List UInt8):List UInt8:=s.map lowB

@[simp] theorem lowS_length {s:List UInt8}:(lowS s).length=s.length:=by simp [lowS]
@[simp] theorem lowS_nil:lowS []=[]:=rfl
@[simp] theorem lowS_app {s t:List UInt8}:lowS (s++t)=lowS s++lowS t:=by simp [lowS]
@[simp] theorem lowS_cons {b:UInt8} {s:List UInt8}:lowS (b::s)=lowB b::lowS s:=rfl

end Wax


namespace Wax
open Go (IntKind)

def mid:Nat:=1099511627776

end Wax


