/- The machine by which the functions are read, and what is proved of them (part 5): no premise. -/
import Derived.Lib.AtoiAll
import Derived.Lib.ConvBytes
import Derived.Calls
import Derived.Test.YtopbibccfdnmeabGreatDoorWd
set_option linter.all false
namespace Wax
open Go (IntKind)

def c_authres_zzIsSpace:SFn:=⟨1,
 (.seq
 (.region [⟨some 2,.mv (.k (.bool false)),none⟩] [0] [] [])
 (.seq
 (.block 0
 (.seq
 (.seq
 (.region [⟨some 4,.mv (.t 0),none⟩,⟨some 5,.bin .geq (.t 4) (.k (.int .i32 9)),none⟩,⟨some 6,.mv (.t 5),none⟩,⟨some 7,.mv (.t 0),some (6,true)⟩,⟨some 8,.bin .leq (.t 7) (.k (.int .i32 13)),some (6,true)⟩,⟨some 9,.pick (.t 6) (.t 8) (.k (.bool false)),none⟩,⟨some 3,.mv (.t 9),none⟩] [0,3] [] [[],[4],[5],[],[7],[6,8]])
 (.cond (.t 3)
 .skip
 (.seq
 (.region [⟨some 10,.mv (.t 0),none⟩,⟨some 11,.bin .eql (.t 10) (.k (.int .i32 32)),none⟩,⟨some 3,.mv (.t 11),none⟩] [0,3] [] [[],[10]])
 (.cond (.t 3)
 .skip
 (.seq
 (.region [⟨some 12,.mv (.t 0),none⟩,⟨some 13,.bin .eql (.t 12) (.k (.int .i32 133)),none⟩,⟨some 3,.mv (.t 13),none⟩] [0,3] [] [[],[12]])
 (.cond (.t 3)
 .skip
 (.seq
 (.region [⟨some 14,.mv (.t 0),none⟩,⟨some 15,.bin .eql (.t 14) (.k (.int .i32 160)),none⟩,⟨some 3,.mv (.t 15),none⟩] [0,3] [] [[],[14]])
 (.cond (.t 3)
 .skip
 (.seq
 (.region [⟨some 16,.mv (.t 0),none⟩,⟨some 17,.bin .eql (.t 16) (.k (.int .i32 5760)),none⟩,⟨some 3,.mv (.t 17),none⟩] [0,3] [] [[],[16]])
 (.cond (.t 3)
 .skip
 (.seq
 (.region [⟨some 18,.mv (.t 0),none⟩,⟨some 19,.bin .geq (.t 18) (.k (.int .i32 8192)),none⟩,⟨some 20,.mv (.t 19),none⟩,⟨some 21,.mv (.t 0),some (20,true)⟩,⟨some 22,.bin .leq (.t 21) (.k (.int .i32 8202)),some (20,true)⟩,⟨some 23,.pick (.t 20) (.t 22) (.k (.bool false)),none⟩,⟨some 3,.mv (.t 23),none⟩] [0,3] [] [[],[18],[19],[],[21],[20,22]])
 (.cond (.t 3)
 .skip
 (.seq
 (.region [⟨some 24,.mv (.t 0),none⟩,⟨some 25,.bin .eql (.t 24) (.k (.int .i32 8232)),none⟩,⟨some 3,.mv (.t 25),none⟩] [0,3] [] [[],[24]])
 (.cond (.t 3)
 .skip
 (.seq
 (.region [⟨some 26,.mv (.t 0),none⟩,⟨some 27,.bin .eql (.t 26) (.k (.int .i32 8233)),none⟩,⟨some 3,.mv (.t 27),none⟩] [0,3] [] [[],[26]])
 (.cond (.t 3)
 .skip
 (.seq
 (.region [⟨some 28,.mv (.t 0),none⟩,⟨some 29,.bin .eql (.t 28) (.k (.int .i32 8239)),none⟩,⟨some 3,.mv (.t 29),none⟩] [0,3] [] [[],[28]])
 (.cond (.t 3)
 .skip
 (.seq
 (.region [⟨some 30,.mv (.t 0),none⟩,⟨some 31,.bin .eql (.t 30) (.k (.int .i32 8287)),none⟩,⟨some 3,.mv (.t 31),none⟩] [0,3] [] [[],[30]])
 (.cond (.t 3)
 .skip
 (.region [⟨some 32,.mv (.t 0),none⟩,⟨some 33,.bin .eql (.t 32) (.k (.int .i32 12288)),none⟩,⟨some 3,.mv (.t 33),none⟩] [3] [] [[0],[32]])))))))))))))))))))))
 (.cond (.t 3)
 (.seq
 (.region [⟨some 2,.mv (.k (.bool true)),none⟩] [2] [] [])
 .ret)
 .skip)))
 (.seq
 (.region [⟨some 2,.mv (.k (.bool false)),none⟩] [2] [] [])
 .ret))),
 [.t 2]⟩

def l_authres_zzIsSpace:Lay:={ rg:=[(0,([0],[])),(1,([0,3],[])),(2,([0,3],[])),(3,([0,3],[])),(4,([0,3],[])),(5,([0,3],[])),(6,([0,3],[])),(7,([0,3],[])),(8,([0,3],[])),(9,([0,3],[])),(10,([0,3],[])),(11,([3],[])),(12,([2],[])),(13,([2],[]))],dd:=[(1,[[],[4],[5],[],[7],[6,8]]),(2,[[],[10]]),(3,[[],[12]]),(4,[[],[14]]),(5,[[],[16]]),(6,[[],[18],[19],[],[21],[20,22]]),(7,[[],[24]]),(8,[[],[26]]),(9,[[],[28]]),(10,[[],[30]]),(11,[[0],[32]])] }

def b_authres_zzTrimSpace_1:SCode :=
 (.seq
 (.region [⟨some 17,.nextS (.t 16),none⟩,⟨some 18,.extr (.t 17) 0,none⟩] [0,3,4,16,17,18] [] [])
 (.seq
 (.cond (.t 18)
 .skip
 (.exit 0))
 (.block 1
 (.seq
 (.region [⟨some 19,.extr (.t 17) 1,none⟩,⟨some 20,.extr (.t 17) 2,none⟩,⟨some 5,.mv (.t 19),none⟩,⟨some 6,.mv (.t 20),none⟩] [0,3,4,5,6,16] [] [[],[17],[19]])
 (.seq
 (.region [⟨some 21,.mv (.t 6),none⟩,⟨some 22,.call 165 [(.t 21)],none⟩,⟨some 23,.un .not (.t 22),none⟩] [0,3,4,5,16,23] [] [[6],[21]])
 (.cond (.t 23)
 (.seq
 (.region [⟨some 24,.mv (.t 5),none⟩,⟨some 3,.mv (.t 24),none⟩] [0,3,4] [16] [[5]])
 (.exit 0))
 .skip))))))

def b_authres_zzTrimSpace_2:SCode :=
 (.seq
 (.seq
 (.region [⟨some 30,.mv (.t 8),none⟩,⟨some 31,.bin .lss (.t 30) (.k (.int .i64 4)),none⟩,⟨some 32,.mv (.t 31),none⟩,⟨some 33,.mv (.t 7),some (32,true)⟩,⟨some 34,.mv (.t 8),some (32,true)⟩,⟨some 35,.bin .add (.t 33) (.t 34),some (32,true)⟩,⟨some 36,.mv (.t 0),some (32,true)⟩,⟨some 37,.len 0 (.t 36),some (32,true)⟩,⟨some 38,.bin .lss (.t 35) (.t 37),some (32,true)⟩,⟨some 39,.pick (.t 32) (.t 38) (.k (.bool false)),none⟩,⟨some 40,.mv (.t 39),none⟩,⟨some 41,.mv (.t 0),some (40,true)⟩,⟨some 42,.mv (.t 7),some (40,true)⟩,⟨some 43,.iStr (.t 41) (.t 42),some (40,true)⟩,⟨some 44,.bin .geq (.t 43) (.k (.int .u8 192)),some (40,true)⟩,⟨some 45,.pick (.t 40) (.t 44) (.k (.bool false)),none⟩,⟨some 46,.mv (.t 45),none⟩,⟨some 47,.mv (.t 0),some (46,true)⟩,⟨some 48,.mv (.t 7),some (46,true)⟩,⟨some 49,.mv (.t 8),some (46,true)⟩,⟨some 50,.bin .add (.t 48) (.t 49),some (46,true)⟩,⟨some 51,.iStr (.t 47) (.t 50),some (46,true)⟩,⟨some 52,.bin .and (.t 51) (.k (.int .u8 192)),some (46,true)⟩,⟨some 53,.bin .eql (.t 52) (.k (.int .u8 128)),some (46,true)⟩,⟨some 54,.pick (.t 46) (.t 53) (.k (.bool false)),none⟩] [0,3,4,7,8,54] [] [[],[30],[31],[],[],[33,34],[],[36],[35,37],[32,38],[39],[],[],[41,42],[43],[40,44],[45],[],[],[],[48,49],[47,50],[51],[52]])
 (.cond (.t 54)
 .skip
 (.exit 4)))
 (.block 5
 (.region [⟨some 55,.mv (.t 8),none⟩,⟨some 56,.bin .add (.t 55) (.k (.int .i64 1)),none⟩,⟨some 8,.mv (.t 56),none⟩] [0,3,4,7,8] [] [[],[55]])))

def t_authres_zzTrimSpace_3:SCode :=
 (.seq
 (.seq
 (.region [⟨some 57,.mv (.t 0),none⟩,⟨some 58,.mv (.t 7),none⟩,⟨some 59,.mv (.t 7),none⟩,⟨some 60,.mv (.t 8),none⟩,⟨some 61,.bin .add (.t 59) (.t 60),none⟩,⟨some 62,.slStr (.t 57) (some (.t 58)) (some (.t 61)),none⟩,⟨some 63,.cStrRunes (.t 62),none⟩,⟨some 9,.mv (.t 63),none⟩] [0,3,4,7,8,9] [] [[],[],[],[],[59,60],[57,58,61],[62]])
 (.seq
 (.region [⟨some 64,.mv (.t 9),none⟩,⟨some 65,.len 1 (.t 64),none⟩,⟨some 66,.bin .gtr (.t 65) (.k (.int .i64 1)),none⟩] [0,3,4,7,8,66] [63] [[9],[64]])
 (.cond (.t 66)
 (.region [⟨some 8,.mv (.k (.int .i64 1)),none⟩] [0,3,4,7,8] [] [])
 .skip)))
 (.seq
 (.seq
 (.region [⟨some 67,.mv (.t 0),none⟩,⟨some 68,.mv (.t 7),none⟩,⟨some 69,.mv (.t 7),none⟩,⟨some 70,.mv (.t 8),none⟩,⟨some 71,.bin .add (.t 69) (.t 70),none⟩,⟨some 72,.slStr (.t 67) (some (.t 68)) (some (.t 71)),none⟩,⟨some 73,.cStrRunes (.t 72),none⟩,⟨some 10,.mv (.t 73),none⟩] [0,3,4,7,8,10] [] [[],[],[],[],[69,70],[67,68,71],[72]])
 (.seq
 (.region [⟨some 74,.mv (.t 10),none⟩,⟨some 75,.len 1 (.t 74),none⟩,⟨some 76,.bin .neq (.t 75) (.k (.int .i64 1)),none⟩,⟨some 77,.mv (.t 76),none⟩,⟨some 78,.mv (.t 10),some (77,false)⟩,⟨some 79,.iAddr 1 (.t 78) (.k (.int .i64 0)),some (77,false)⟩,⟨some 80,.load none (.t 79),some (77,false)⟩,⟨some 81,.call 165 [(.t 80)],some (77,false)⟩,⟨some 82,.un .not (.t 81),some (77,false)⟩,⟨some 83,.pick (.t 77) (.k (.bool true)) (.t 82),none⟩] [0,3,4,7,8,83] [73] [[],[74],[75],[76],[10],[78],[79],[80],[81]])
 (.cond (.t 83)
 (.region [⟨some 84,.mv (.t 7),none⟩,⟨some 85,.mv (.t 8),none⟩,⟨some 86,.bin .add (.t 84) (.t 85),none⟩,⟨some 4,.mv (.t 86),none⟩] [0,3,4,7,8] [] [[],[],[84,85]])
 .skip)))
 (.region [⟨some 87,.mv (.t 7),none⟩,⟨some 88,.mv (.t 8),none⟩,⟨some 89,.bin .add (.t 87) (.t 88),none⟩,⟨some 7,.mv (.t 89),none⟩] [0,3,4,7] [] [[],[8],[87,88]])))

def b_authres_zzTrimSpace_4:SCode :=
 (.seq
 (.seq
 (.region [⟨some 26,.mv (.t 7),none⟩,⟨some 27,.mv (.t 0),none⟩,⟨some 28,.len 0 (.t 27),none⟩,⟨some 29,.bin .lss (.t 26) (.t 28),none⟩] [0,3,4,7,29] [] [[],[],[27]])
 (.cond (.t 29)
 .skip
 (.exit 2)))
 (.block 3
 (.seq
 (.region [⟨some 8,.mv (.k (.int .i64 1)),none⟩] [0,3,4,7,8] [] [])
 (.seq
 (.block 4
 (.loop [0,3,4,7,8]
 b_authres_zzTrimSpace_2))
 t_authres_zzTrimSpace_3))))

def t_authres_zzTrimSpace_5:SCode :=
 (.seq
 (.seq
 (.region [⟨some 90,.mv (.t 3),none⟩,⟨some 91,.mv (.t 0),none⟩,⟨some 92,.len 0 (.t 91),none⟩,⟨some 93,.bin .eql (.t 90) (.t 92),none⟩] [0,3,4,93] [] [[],[],[91]])
 (.cond (.t 93)
 (.seq
 (.region [⟨some 2,.mv (.k (.str [])),none⟩] [2] [] [])
 .ret)
 .skip))
 (.seq
 (.region [⟨some 94,.mv (.t 0),none⟩,⟨some 95,.mv (.t 3),none⟩,⟨some 96,.mv (.t 4),none⟩,⟨some 97,.slStr (.t 94) (some (.t 95)) (some (.t 96)),none⟩,⟨some 2,.mv (.t 97),none⟩] [2] [] [[0],[3],[4],[94,95,96]])
 .ret))

def t_authres_zzTrimSpace_6:SCode :=
 (.seq
 (.seq
 (.region [⟨some 25,.mv (.t 3),none⟩,⟨some 7,.mv (.t 25),none⟩] [0,3,4,7] [16] [])
 (.block 2
 (.loop [0,3,4,7]
 b_authres_zzTrimSpace_4)))
 t_authres_zzTrimSpace_5)

def c_authres_zzTrimSpace:SFn:=⟨1,
 (.seq
 (.region [⟨some 2,.mv (.k (.str [])),none⟩] [0] [] [])
 (.seq
 (.region [⟨some 11,.mv (.t 0),none⟩,⟨some 12,.len 0 (.t 11),none⟩,⟨some 13,.mv (.t 0),none⟩,⟨some 14,.len 0 (.t 13),none⟩,⟨some 3,.mv (.t 12),none⟩,⟨some 4,.mv (.t 14),none⟩] [0,3,4] [] [[],[11],[],[13],[12]])
 (.seq
 (.seq
 (.region [⟨some 15,.mv (.t 0),none⟩,⟨some 16,.rangeS (.t 15),none⟩] [0,3,4,16] [] [])
 (.block 0
 (.loop [0,3,4,16]
 b_authres_zzTrimSpace_1)))
 t_authres_zzTrimSpace_6))),
 [.t 2]⟩

def l_authres_zzTrimSpace:Lay:={ rg:=[(0,([0],[])),(1,([0,3,4],[])),(2,([0,3,4,16],[])),(3,([0,3,4,16,17,18],[])),(4,([0,3,4,5,6,16],[])),(5,([0,3,4,5,16,23],[])),(6,([0,3,4],[16])),(7,([0,3,4,7],[16])),(8,([0,3,4,7,29],[])),(9,([0,3,4,7,8],[])),(10,([0,3,4,7,8,54],[])),(11,([0,3,4,7,8],[])),(12,([0,3,4,7,8,9],[])),(13,([0,3,4,7,8,66],[63])),(14,([0,3,4,7,8],[])),(15,([0,3,4,7,8,10],[])),(16,([0,3,4,7,8,83],[73])),(17,([0,3,4,7,8],[])),(18,([0,3,4,7],[])),(19,([0,3,4,93],[])),(20,([2],[])),(21,([2],[])),(1000003,([0,3,4,16],[])),(1000008,([0,3,4,7],[])),(1000010,([0,3,4,7,8],[]))],dd:=[(1,[[],[11],[],[13],[12]]),(4,[[],[17],[19]]),(5,[[6],[21]]),(6,[[5]]),(8,[[],[],[27]]),(10,[[],[30],[31],[],[],[33,34],[],[36],[35,37],[32,38],[39],[],[],[41,42],[43],[40,44],[45],[],[],[],[48,49],[47,50],[51],[52]]),(11,[[],[55]]),(12,[[],[],[],[],[59,60],[57,58,61],[62]]),(13,[[9],[64]]),(15,[[],[],[],[],[69,70],[67,68,71],[72]]),(16,[[],[74],[75],[76],[10],[78],[79],[80],[81]]),(17,[[],[],[84,85]]),(18,[[],[8],[87,88]]),(19,[[],[],[91]]),(21,[[0],[3],[4],[94,95,96]])] }

def c_authres_zzIndex:SFn:=⟨2,
 (.seq
 (.region [⟨some 4,.mv (.k (.int .i64 0)),none⟩] [0,1] [] [])
 (.seq
 (.seq
 (.region [⟨some 5,.mv (.k (.int .i64 0)),none⟩] [0,1,5] [] [])
 (.block 0
 (.loop [0,1,5]
 (.seq
 (.seq
 (.region [⟨some 6,.mv (.t 5),none⟩,⟨some 7,.mv (.t 1),none⟩,⟨some 8,.len 0 (.t 7),none⟩,⟨some 9,.bin .add (.t 6) (.t 8),none⟩,⟨some 10,.mv (.t 0),none⟩,⟨some 11,.len 0 (.t 10),none⟩,⟨some 12,.bin .leq (.t 9) (.t 11),none⟩] [0,1,5,12] [] [[],[],[7],[6,8],[],[10]])
 (.cond (.t 12)
 .skip
 (.exit 0)))
 (.seq
 (.block 1
 (.seq
 (.region [⟨some 15,.mv (.t 0),none⟩,⟨some 16,.mv (.t 5),none⟩,⟨some 17,.mv (.t 5),none⟩,⟨some 18,.mv (.t 1),none⟩,⟨some 19,.len 0 (.t 18),none⟩,⟨some 20,.bin .add (.t 17) (.t 19),none⟩,⟨some 21,.slStr (.t 15) (some (.t 16)) (some (.t 20)),none⟩,⟨some 22,.mv (.t 1),none⟩,⟨some 23,.bin .eql (.t 21) (.t 22),none⟩] [0,1,5,23] [] [[],[],[],[],[18],[17,19],[15,16,20]])
 (.cond (.t 23)
 (.seq
 (.region [⟨some 24,.mv (.t 5),none⟩,⟨some 4,.mv (.t 24),none⟩] [4] [] [[5]])
 .ret)
 .skip)))
 (.region [⟨some 13,.mv (.t 5),none⟩,⟨some 14,.bin .add (.t 13) (.k (.int .i64 1)),none⟩,⟨some 5,.mv (.t 14),none⟩] [0,1,5] [] [[],[13]]))))))
 (.seq
 (.region [⟨some 4,.mv (.k (.int .i64 (-1))),none⟩] [4] [] [])
 .ret))),
 [.t 4]⟩

def l_authres_zzIndex:Lay:={ rg:=[(0,([0,1],[])),(1,([0,1,5],[])),(2,([0,1,5,12],[])),(3,([0,1,5],[])),(4,([0,1,5,23],[])),(5,([4],[])),(6,([4],[])),(1000002,([0,1,5],[]))],dd:=[(2,[[],[],[7],[6,8],[],[10]]),(3,[[],[13]]),(4,[[],[],[],[],[18],[17,19],[15,16,20]]),(5,[[5]])] }

def b_authres_zzSplit_1:SCode :=
 (.seq
 (.region [⟨some 14,.nextS (.t 13),none⟩,⟨some 15,.extr (.t 14) 0,none⟩] [0,5,6,13,14,15] [] [])
 (.seq
 (.cond (.t 15)
 .skip
 (.exit 0))
 (.block 1
 (.seq
 (.region [⟨some 16,.extr (.t 14) 1,none⟩,⟨some 7,.mv (.t 16),none⟩] [0,5,6,7,13] [] [[14]])
 (.seq
 (.region [⟨some 17,.mv (.t 7),none⟩,⟨some 18,.bin .gtr (.t 17) (.k (.int .i64 0)),none⟩] [0,5,6,7,13,18] [] [])
 (.cond (.t 18)
 (.seq
 (.region [⟨some 19,.mv (.t 5),none⟩,⟨some 20,.mv (.t 0),none⟩,⟨some 21,.mv (.t 6),none⟩,⟨some 22,.mv (.t 7),none⟩,⟨some 23,.slStr (.t 20) (some (.t 21)) (some (.t 22)),none⟩,⟨some 24,.mkSl 1 1 [(.str [])] [(0,(.t 23))],none⟩,⟨some 25,.app 1 16 (.t 19) (.t 24),none⟩,⟨some 5,.mv (.t 25),none⟩] [0,5,7,13] [24] [[],[],[6],[],[20,21,22],[23],[19,24]])
 (.region [⟨some 26,.mv (.t 7),none⟩,⟨some 6,.mv (.t 26),none⟩] [0,5,6,13] [] [[7]]))
 .skip))))))

def t_authres_zzSplit_2:SCode :=
 (.seq
 (.seq
 (.region [⟨some 27,.mv (.t 0),none⟩,⟨some 28,.len 0 (.t 27),none⟩,⟨some 29,.bin .gtr (.t 28) (.k (.int .i64 0)),none⟩] [0,5,6,29] [13] [[],[27]])
 (.cond (.t 29)
 (.region [⟨some 30,.mv (.t 5),none⟩,⟨some 31,.mv (.t 0),none⟩,⟨some 32,.mv (.t 6),none⟩,⟨some 33,.slStr (.t 31) (some (.t 32)) none,none⟩,⟨some 34,.mkSl 1 1 [(.str [])] [(0,(.t 33))],none⟩,⟨some 35,.app 1 16 (.t 30) (.t 34),none⟩,⟨some 5,.mv (.t 35),none⟩] [5] [34] [[],[0],[6],[31,32],[33],[30,34]])
 .skip))
 (.seq
 (.region [⟨some 36,.mv (.t 5),none⟩,⟨some 4,.mv (.t 36),none⟩] [4] [] [[5]])
 .ret))

def b_authres_zzSplit_3:SCode :=
 (.block 3
 (.seq
 (.region [⟨some 37,.mv (.t 0),none⟩,⟨some 38,.mv (.t 1),none⟩,⟨some 39,.call 169 [(.t 37),(.t 38)],none⟩,⟨some 8,.mv (.t 39),none⟩] [0,1,5,8] [] [[],[],[37,38]])
 (.seq
 (.seq
 (.region [⟨some 40,.mv (.t 8),none⟩,⟨some 41,.bin .lss (.t 40) (.k (.int .i64 0)),none⟩] [0,1,5,8,41] [] [])
 (.cond (.t 41)
 (.seq
 (.region [⟨some 42,.mv (.t 5),none⟩,⟨some 43,.mv (.t 0),none⟩,⟨some 44,.mkSl 1 1 [(.str [])] [(0,(.t 43))],none⟩,⟨some 45,.app 1 16 (.t 42) (.t 44),none⟩,⟨some 4,.mv (.t 45),none⟩] [4] [44] [[5],[0],[43],[42,44]])
 .ret)
 .skip))
 (.seq
 (.region [⟨some 46,.mv (.t 5),none⟩,⟨some 47,.mv (.t 0),none⟩,⟨some 48,.mv (.t 8),none⟩,⟨some 49,.slStr (.t 47) none (some (.t 48)),none⟩,⟨some 50,.mkSl 1 1 [(.str [])] [(0,(.t 49))],none⟩,⟨some 51,.app 1 16 (.t 46) (.t 50),none⟩,⟨some 5,.mv (.t 51),none⟩] [0,1,5,8] [50] [[],[],[],[47,48],[49],[46,50]])
 (.region [⟨some 52,.mv (.t 0),none⟩,⟨some 53,.mv (.t 8),none⟩,⟨some 54,.mv (.t 1),none⟩,⟨some 55,.len 0 (.t 54),none⟩,⟨some 56,.bin .add (.t 53) (.t 55),none⟩,⟨some 57,.slStr (.t 52) (some (.t 56)) none,none⟩,⟨some 0,.mv (.t 57),none⟩] [0,1,5] [] [[],[8],[],[54],[53,55],[52,56]])))))

def t_authres_zzSplit_4:SCode :=
 (.block 2
 (.loop [0,1,5]
 b_authres_zzSplit_3))

def c_authres_zzSplit:SFn:=⟨2,
 (.seq
 (.region [⟨some 4,.mv (.k .nilS),none⟩] [0,1] [] [])
 (.seq
 (.region [⟨some 5,.mv (.k .nilS),none⟩] [0,1,5] [] [])
 (.seq
 (.seq
 (.region [⟨some 9,.mv (.t 1),none⟩,⟨some 10,.len 0 (.t 9),none⟩,⟨some 11,.bin .eql (.t 10) (.k (.int .i64 0)),none⟩] [0,1,5,11] [] [[],[9]])
 (.cond (.t 11)
 (.seq
 (.region [⟨some 6,.mv (.k (.int .i64 0)),none⟩] [0,5,6] [] [])
 (.seq
 (.seq
 (.region [⟨some 12,.mv (.t 0),none⟩,⟨some 13,.rangeS (.t 12),none⟩] [0,5,6,13] [] [])
 (.block 0
 (.loop [0,5,6,13]
 b_authres_zzSplit_1)))
 t_authres_zzSplit_2))
 .skip))
 t_authres_zzSplit_4))),
 [.t 4]⟩

def l_authres_zzSplit:Lay:={ rg:=[(0,([0,1],[])),(1,([0,1,5],[])),(2,([0,1,5,11],[])),(3,([0,5,6],[])),(4,([0,5,6,13],[])),(5,([0,5,6,13,14,15],[])),(6,([0,5,6,7,13],[])),(7,([0,5,6,7,13,18],[])),(8,([0,5,7,13],[24])),(9,([0,5,6,13],[])),(10,([0,5,6,29],[13])),(11,([5],[34])),(12,([4],[])),(13,([0,1,5,8],[])),(14,([0,1,5,8,41],[])),(15,([4],[44])),(16,([0,1,5,8],[50])),(17,([0,1,5],[])),(1000005,([0,5,6,13],[])),(1000013,([0,1,5],[]))],dd:=[(2,[[],[9]]),(6,[[14]]),(8,[[],[],[6],[],[20,21,22],[23],[19,24]]),(9,[[7]]),(10,[[],[27]]),(11,[[],[0],[6],[31,32],[33],[30,34]]),(12,[[5]]),(13,[[],[],[37,38]]),(15,[[5],[0],[43],[42,44]]),(16,[[],[],[],[47,48],[49],[46,50]]),(17,[[],[8],[],[54],[53,55],[52,56]])] }

def c_authres_zzCut:SFn:=⟨2,
 (.seq
 (.region [⟨some 4,.mv (.k (.str [])),none⟩,⟨some 5,.mv (.k (.str [])),none⟩,⟨some 6,.mv (.k (.bool false)),none⟩] [0,1] [] [[4],[5]])
 (.seq
 (.seq
 (.region [⟨some 8,.mv (.t 0),none⟩,⟨some 9,.mv (.t 1),none⟩,⟨some 10,.call 169 [(.t 8),(.t 9)],none⟩,⟨some 7,.mv (.t 10),none⟩] [0,1,7] [] [[],[],[8,9]])
 (.seq
 (.region [⟨some 11,.mv (.t 7),none⟩,⟨some 12,.bin .geq (.t 11) (.k (.int .i64 0)),none⟩] [0,1,7,12] [] [])
 (.cond (.t 12)
 (.seq
 (.region [⟨some 13,.mv (.t 0),none⟩,⟨some 14,.mv (.t 7),none⟩,⟨some 15,.slStr (.t 13) none (some (.t 14)),none⟩,⟨some 16,.mv (.t 0),none⟩,⟨some 17,.mv (.t 7),none⟩,⟨some 18,.mv (.t 1),none⟩,⟨some 19,.len 0 (.t 18),none⟩,⟨some 20,.bin .add (.t 17) (.t 19),none⟩,⟨some 21,.slStr (.t 16) (some (.t 20)) none,none⟩,⟨some 4,.mv (.t 15),none⟩,⟨some 5,.mv (.t 21),none⟩,⟨some 6,.mv (.k (.bool true)),none⟩] [4,5,6] [] [])
 .ret)
 .skip)))
 (.seq
 (.region [⟨some 22,.mv (.t 0),none⟩,⟨some 4,.mv (.t 22),none⟩,⟨some 5,.mv (.k (.str [])),none⟩,⟨some 6,.mv (.k (.bool false)),none⟩] [4,5,6] [] [[0],[22]])
 .ret))),
 [.t 4,.t 5,.t 6]⟩

def l_authres_zzCut:Lay:={ rg:=[(0,([0,1],[])),(1,([0,1,7],[])),(2,([0,1,7,12],[])),(3,([4,5,6],[])),(4,([4,5,6],[]))],dd:=[(0,[[4],[5]]),(1,[[],[],[8,9]]),(4,[[0],[22]])] }

def b_authres_zzToLower_1:SCode :=
 (.seq
 (.seq
 (.region [⟨some 6,.mv (.t 4),none⟩,⟨some 7,.mv (.t 0),none⟩,⟨some 8,.len 0 (.t 7),none⟩,⟨some 9,.bin .lss (.t 6) (.t 8),none⟩] [0,3,4,9] [] [[],[],[7]])
 (.cond (.t 9)
 .skip
 (.exit 0)))
 (.seq
 (.block 1
 (.seq
 (.region [⟨some 12,.mv (.t 0),none⟩,⟨some 13,.mv (.t 4),none⟩,⟨some 14,.iStr (.t 12) (.t 13),none⟩,⟨some 5,.mv (.t 14),none⟩] [0,3,4,5] [] [[],[],[12,13]])
 (.block 2
 (.seq
 (.region [⟨some 20,.mv (.t 5),none⟩,⟨some 21,.bin .leq (.k (.int .u8 65)) (.t 20),none⟩,⟨some 22,.mv (.t 21),none⟩,⟨some 23,.mv (.t 5),some (22,true)⟩,⟨some 24,.bin .leq (.t 23) (.k (.int .u8 90)),some (22,true)⟩,⟨some 25,.pick (.t 22) (.t 24) (.k (.bool false)),none⟩,⟨some 19,.mv (.t 25),none⟩] [0,3,4,5,19] [] [[],[20],[21],[],[23],[22,24]])
 (.cond (.t 19)
 (.region [⟨some 26,.mv (.t 3),none⟩,⟨some 27,.mv (.t 5),none⟩,⟨some 28,.bin .add (.t 27) (.k (.int .u8 97)),none⟩,⟨some 29,.bin .sub (.t 28) (.k (.int .u8 65)),none⟩,⟨some 30,.mkSl 1 1 [(.int .u8 0)] [(0,(.t 29))],none⟩,⟨some 31,.app 1 1 (.t 26) (.t 30),none⟩,⟨some 3,.mv (.t 31),none⟩] [0,3,4] [30] [[],[5],[27],[28],[29],[26,30]])
 (.seq
 (.region [⟨some 33,.mv (.t 0),none⟩,⟨some 34,.len 0 (.t 33),none⟩,⟨some 35,.mv (.t 4),none⟩,⟨some 36,.bin .sub (.t 34) (.t 35),none⟩,⟨some 37,.bin .geq (.t 36) (.k (.int .i64 3)),none⟩,⟨some 38,.mv (.t 37),none⟩,⟨some 39,.mv (.t 0),some (38,true)⟩,⟨some 40,.mv (.t 4),some (38,true)⟩,⟨some 41,.mv (.t 4),some (38,true)⟩,⟨some 42,.bin .add (.t 41) (.k (.int .i64 3)),some (38,true)⟩,⟨some 43,.slStr (.t 39) (some (.t 40)) (some (.t 42)),some (38,true)⟩,⟨some 44,.bin .eql (.t 43) (.k (.str [226,132,170])),some (38,true)⟩,⟨some 45,.pick (.t 38) (.t 44) (.k (.bool false)),none⟩,⟨some 32,.mv (.t 45),none⟩] [0,3,4,5,32] [] [[],[33],[],[34,35],[36],[37],[],[],[],[41],[39,40,42],[43],[38,44]])
 (.cond (.t 32)
 (.seq
 (.region [⟨some 46,.mv (.t 3),none⟩,⟨some 47,.mkSl 1 1 [(.int .u8 0)] [(0,(.k (.int .u8 107)))],none⟩,⟨some 48,.app 1 1 (.t 46) (.t 47),none⟩,⟨some 3,.mv (.t 48),none⟩] [0,3,4] [47] [[],[],[46,47]])
 (.region [⟨some 49,.mv (.t 4),none⟩,⟨some 50,.bin .add (.t 49) (.k (.int .i64 2)),none⟩,⟨some 4,.mv (.t 50),none⟩] [0,3,4] [] [[],[49]]))
 (.region [⟨some 15,.mv (.t 3),none⟩,⟨some 16,.mv (.t 5),none⟩,⟨some 17,.mkSl 1 1 [(.int .u8 0)] [(0,(.t 16))],none⟩,⟨some 18,.app 1 1 (.t 15) (.t 17),none⟩,⟨some 3,.mv (.t 18),none⟩] [0,3,4] [17] [[],[5],[16],[15,17]]))))))))
 (.region [⟨some 10,.mv (.t 4),none⟩,⟨some 11,.bin .add (.t 10) (.k (.int .i64 1)),none⟩,⟨some 4,.mv (.t 11),none⟩] [0,3,4] [] [[],[10]])))

def t_authres_zzToLower_2:SCode :=
 (.seq
 (.region [⟨some 51,.mv (.t 3),none⟩,⟨some 52,.cBytesStr (.t 51),none⟩,⟨some 2,.mv (.t 52),none⟩] [2] [18,31,48] [[3],[51]])
 .ret)

def c_authres_zzToLower:SFn:=⟨1,
 (.seq
 (.region [⟨some 2,.mv (.k (.str [])),none⟩] [0] [] [])
 (.seq
 (.region [⟨some 3,.mv (.k .nilS),none⟩] [0,3] [] [])
 (.seq
 (.seq
 (.region [⟨some 4,.mv (.k (.int .i64 0)),none⟩] [0,3,4] [] [])
 (.block 0
 (.loop [0,3,4]
 b_authres_zzToLower_1)))
 t_authres_zzToLower_2))),
 [.t 2]⟩

def l_authres_zzToLower:Lay:={ rg:=[(0,([0],[])),(1,([0,3],[])),(2,([0,3,4],[])),(3,([0,3,4,9],[])),(4,([0,3,4],[])),(5,([0,3,4,5],[])),(6,([0,3,4],[17])),(7,([0,3,4,5,19],[])),(8,([0,3,4],[30])),(9,([0,3,4,5,32],[])),(10,([0,3,4],[47])),(11,([0,3,4],[])),(12,([2],[18,31,48])),(1000003,([0,3,4],[]))],dd:=[(3,[[],[],[7]]),(4,[[],[10]]),(5,[[],[],[12,13]]),(6,[[],[5],[16],[15,17]]),(7,[[],[20],[21],[],[23],[22,24]]),(8,[[],[5],[27],[28],[29],[26,30]]),(9,[[],[33],[],[34,35],[36],[37],[],[],[],[41],[39,40,42],[43],[38,44]]),(10,[[],[],[46,47]]),(11,[[],[49]]),(12,[[3],[51]])] }

def b_authres_zzFields_1:SCode :=
 (.seq
 (.region [⟨some 9,.nextS (.t 8),none⟩,⟨some 10,.extr (.t 9) 0,none⟩] [0,3,4,8,9,10] [] [])
 (.seq
 (.cond (.t 10)
 .skip
 (.exit 0))
 (.block 1
 (.seq
 (.region [⟨some 11,.extr (.t 9) 1,none⟩,⟨some 12,.extr (.t 9) 2,none⟩,⟨some 5,.mv (.t 11),none⟩,⟨some 6,.mv (.t 12),none⟩] [0,3,4,5,6,8] [] [[],[9],[11]])
 (.block 2
 (.seq
 (.region [⟨some 14,.mv (.t 6),none⟩,⟨some 15,.call 165 [(.t 14)],none⟩,⟨some 13,.mv (.t 15),none⟩] [0,3,4,5,8,13] [] [[6],[14]])
 (.cond (.t 13)
 (.seq
 (.seq
 (.region [⟨some 16,.mv (.t 4),none⟩,⟨some 17,.bin .geq (.t 16) (.k (.int .i64 0)),none⟩] [0,3,4,5,8,17] [] [])
 (.cond (.t 17)
 (.region [⟨some 18,.mv (.t 3),none⟩,⟨some 19,.mv (.t 0),none⟩,⟨some 20,.mv (.t 4),none⟩,⟨some 21,.mv (.t 5),none⟩,⟨some 22,.slStr (.t 19) (some (.t 20)) (some (.t 21)),none⟩,⟨some 23,.mkSl 1 1 [(.str [])] [(0,(.t 22))],none⟩,⟨some 24,.app 1 16 (.t 18) (.t 23),none⟩,⟨some 3,.mv (.t 24),none⟩] [0,3,8] [23] [[],[],[4],[5],[19,20,21],[22],[18,23]])
 .skip))
 (.region [⟨some 4,.mv (.k (.int .i64 (-1))),none⟩] [0,3,4,8] [] []))
 (.seq
 (.region [⟨some 26,.mv (.t 4),none⟩,⟨some 27,.bin .lss (.t 26) (.k (.int .i64 0)),none⟩,⟨some 25,.mv (.t 27),none⟩] [0,3,4,5,8,25] [] [[],[26]])
 (.cond (.t 25)
 (.region [⟨some 28,.mv (.t 5),none⟩,⟨some 4,.mv (.t 28),none⟩] [0,3,4,8] [] [[5]])
 .skip)))))))))

def t_authres_zzFields_2:SCode :=
 (.seq
 (.seq
 (.region [⟨some 29,.mv (.t 4),none⟩,⟨some 30,.bin .geq (.t 29) (.k (.int .i64 0)),none⟩] [0,3,4,30] [8] [])
 (.cond (.t 30)
 (.region [⟨some 31,.mv (.t 3),none⟩,⟨some 32,.mv (.t 0),none⟩,⟨some 33,.mv (.t 4),none⟩,⟨some 34,.slStr (.t 32) (some (.t 33)) none,none⟩,⟨some 35,.mkSl 1 1 [(.str [])] [(0,(.t 34))],none⟩,⟨some 36,.app 1 16 (.t 31) (.t 35),none⟩,⟨some 3,.mv (.t 36),none⟩] [3] [35] [[],[0],[4],[32,33],[34],[31,35]])
 .skip))
 (.seq
 (.region [⟨some 37,.mv (.t 3),none⟩,⟨some 2,.mv (.t 37),none⟩] [2] [] [[3]])
 .ret))

def c_authres_zzFields:SFn:=⟨1,
 (.seq
 (.region [⟨some 2,.mv (.k .nilS),none⟩] [0] [] [])
 (.seq
 (.region [⟨some 3,.mv (.k .nilS),none⟩] [0,3] [] [])
 (.seq
 (.region [⟨some 4,.mv (.k (.int .i64 (-1))),none⟩] [0,3,4] [] [])
 (.seq
 (.seq
 (.region [⟨some 7,.mv (.t 0),none⟩,⟨some 8,.rangeS (.t 7),none⟩] [0,3,4,8] [] [])
 (.block 0
 (.loop [0,3,4,8]
 b_authres_zzFields_1)))
 t_authres_zzFields_2)))),
 [.t 2]⟩

def l_authres_zzFields:Lay:={ rg:=[(0,([0],[])),(1,([0,3],[])),(2,([0,3,4],[])),(3,([0,3,4,8],[])),(4,([0,3,4,8,9,10],[])),(5,([0,3,4,5,6,8],[])),(6,([0,3,4,5,8,13],[])),(7,([0,3,4,5,8,17],[])),(8,([0,3,8],[23])),(9,([0,3,4,8],[])),(10,([0,3,4,5,8,25],[])),(11,([0,3,4,8],[])),(12,([0,3,4,30],[8])),(13,([3],[35])),(14,([2],[])),(1000004,([0,3,4,8],[]))],dd:=[(5,[[],[9],[11]]),(6,[[6],[14]]),(8,[[],[],[4],[5],[19,20,21],[22],[18,23]]),(10,[[],[26]]),(11,[[5]]),(13,[[],[0],[4],[32,33],[34],[31,35]]),(14,[[3]])] }

def c_authres_parseParam:SFn:=⟨1,
 (.seq
 (.region [⟨some 2,.mv (.k (.str [])),none⟩,⟨some 3,.mv (.k (.str [])),none⟩,⟨some 4,.mv (.k .nilI),none⟩] [0] [] [[2],[3]])
 (.seq
 (.region [⟨some 7,.mv (.t 0),none⟩,⟨some 8,.call 174 [(.t 7),(.k (.str [61]))],none⟩,⟨some 6,.mv (.t 8),none⟩,⟨some 9,.extr (.t 6) 0,none⟩,⟨some 10,.extr (.t 6) 1,none⟩,⟨some 11,.extr (.t 6) 2,none⟩,⟨some 2,.mv (.t 9),none⟩,⟨some 3,.mv (.t 10),none⟩,⟨some 5,.mv (.t 11),none⟩] [2,3,5] [] [[0],[7],[8],[],[],[6],[9],[10]])
 (.seq
 (.seq
 (.region [⟨some 12,.mv (.t 5),none⟩,⟨some 13,.un .not (.t 12),none⟩] [2,3,13] [] [[5]])
 (.cond (.t 13)
 (.seq
 (.region [⟨some 14,.call 50 [(.k (.str [109,115,103,97,117,116,104,58,32,109,97,108,102,111,114,109,101,100,32,97,117,116,104,101,110,116,105,99,97,116,105,111,110,32,109,101,116,104,111,100,32,97,110,100,32,118,97,108,117,101]))],none⟩,⟨some 2,.mv (.k (.str [])),none⟩,⟨some 3,.mv (.k (.str [])),none⟩,⟨some 4,.mv (.t 14),none⟩] [2,3,4] [] [])
 .ret)
 .skip))
 (.seq
 (.region [⟨some 15,.mv (.t 2),none⟩,⟨some 16,.call 163 [(.t 15)],none⟩,⟨some 17,.call 172 [(.t 16)],none⟩,⟨some 18,.mv (.t 3),none⟩,⟨some 19,.call 163 [(.t 18)],none⟩,⟨some 2,.mv (.t 17),none⟩,⟨some 3,.mv (.t 19),none⟩,⟨some 4,.mv (.k .nilI),none⟩] [2,3,4] [] [[],[15],[16],[],[18],[17],[19]])
 .ret)))),
 [.t 2,.t 3,.t 4]⟩

def l_authres_parseParam:Lay:={ rg:=[(0,([0],[])),(1,([2,3,5],[])),(2,([2,3,13],[])),(3,([2,3,4],[])),(4,([2,3,4],[]))],dd:=[(0,[[2],[3]]),(1,[[0],[7],[8],[],[],[6],[9],[10]]),(2,[[5]]),(4,[[],[15],[16],[],[18],[17],[19]])] }

def c_authres_newResults:SFn:=⟨1,
 (.seq
 (.region [⟨some 2,.mv (.k .nilF),none⟩,⟨some 3,.mv (.k (.bool false)),none⟩] [0] [] [[2]])
 (.seq
 (.seq
 (.region [⟨some 4,.mv (.t 0),none⟩] [4] [] [])
 (.block 0
 (.seq
 (.region [⟨some 6,.bin .eql (.t 4) (.k (.str [97,114,99])),none⟩,⟨some 5,.mv (.t 6),none⟩] [4,5] [] [])
 (.cond (.t 5)
 (.seq
 (.region [⟨some 2,.mv (.k (.fn 175 [])),none⟩,⟨some 3,.mv (.k (.bool true)),none⟩] [2,3] [] [])
 .ret)
 (.seq
 (.region [⟨some 8,.bin .eql (.t 4) (.k (.str [97,117,116,104])),none⟩,⟨some 7,.mv (.t 8),none⟩] [4,7] [] [])
 (.cond (.t 7)
 (.seq
 (.region [⟨some 2,.mv (.k (.fn 176 [])),none⟩,⟨some 3,.mv (.k (.bool true)),none⟩] [2,3] [] [])
 .ret)
 (.seq
 (.region [⟨some 10,.bin .eql (.t 4) (.k (.str [100,107,105,109])),none⟩,⟨some 9,.mv (.t 10),none⟩] [4,9] [] [])
 (.cond (.t 9)
 (.seq
 (.region [⟨some 2,.mv (.k (.fn 177 [])),none⟩,⟨some 3,.mv (.k (.bool true)),none⟩] [2,3] [] [])
 .ret)
 (.seq
 (.region [⟨some 12,.bin .eql (.t 4) (.k (.str [100,111,109,97,105,110,107,101,121,115])),none⟩,⟨some 11,.mv (.t 12),none⟩] [4,11] [] [])
 (.cond (.t 11)
 (.seq
 (.region [⟨some 2,.mv (.k (.fn 178 [])),none⟩,⟨some 3,.mv (.k (.bool true)),none⟩] [2,3] [] [])
 .ret)
 (.seq
 (.region [⟨some 14,.bin .eql (.t 4) (.k (.str [105,112,114,101,118])),none⟩,⟨some 13,.mv (.t 14),none⟩] [4,13] [] [])
 (.cond (.t 13)
 (.seq
 (.region [⟨some 2,.mv (.k (.fn 179 [])),none⟩,⟨some 3,.mv (.k (.bool true)),none⟩] [2,3] [] [])
 .ret)
 (.seq
 (.region [⟨some 16,.bin .eql (.t 4) (.k (.str [115,101,110,100,101,114,45,105,100])),none⟩,⟨some 15,.mv (.t 16),none⟩] [4,15] [] [])
 (.cond (.t 15)
 (.seq
 (.region [⟨some 2,.mv (.k (.fn 180 [])),none⟩,⟨some 3,.mv (.k (.bool true)),none⟩] [2,3] [] [])
 .ret)
 (.seq
 (.region [⟨some 18,.bin .eql (.t 4) (.k (.str [115,112,102])),none⟩,⟨some 17,.mv (.t 18),none⟩] [4,17] [] [])
 (.cond (.t 17)
 (.seq
 (.region [⟨some 2,.mv (.k (.fn 181 [])),none⟩,⟨some 3,.mv (.k (.bool true)),none⟩] [2,3] [] [])
 .ret)
 (.seq
 (.region [⟨some 20,.bin .eql (.t 4) (.k (.str [100,109,97,114,99])),none⟩,⟨some 19,.mv (.t 20),none⟩] [19] [] [[4]])
 (.cond (.t 19)
 (.seq
 (.region [⟨some 2,.mv (.k (.fn 182 [])),none⟩,⟨some 3,.mv (.k (.bool true)),none⟩] [2,3] [] [])
 .ret)
 .skip))))))))))))))))))
 (.seq
 (.region [⟨some 2,.mv (.k .nilF),none⟩,⟨some 3,.mv (.k (.bool false)),none⟩] [2,3] [] [])
 .ret))),
 [.t 2,.t 3]⟩

def l_authres_newResults:Lay:={ rg:=[(0,([0],[])),(1,([4],[])),(2,([4,5],[])),(3,([2,3],[])),(4,([4,7],[])),(5,([2,3],[])),(6,([4,9],[])),(7,([2,3],[])),(8,([4,11],[])),(9,([2,3],[])),(10,([4,13],[])),(11,([2,3],[])),(12,([4,15],[])),(13,([2,3],[])),(14,([4,17],[])),(15,([2,3],[])),(16,([19],[])),(17,([2,3],[])),(18,([2,3],[]))],dd:=[(0,[[2]]),(16,[[4]])] }

def c_authres_newResults_3:SFn:=⟨0,
 (.seq
 (.region [⟨some 0,.mv (.k .nilI),none⟩] [] [] [])
 (.seq
 (.region [⟨some 1,.alloc [(.str []),(.str []),(.str []),(.str [])],none⟩,⟨some 2,.mkIfc 9 (.t 1),none⟩,⟨some 0,.mv (.t 2),none⟩] [0] [] [[],[1]])
 .ret)),
 [.t 0]⟩

def l_authres_newResults_3:Lay:={ rg:=[(0,([],[])),(1,([0],[]))],dd:=[(1,[[],[1]])] }

def c_authres_DKIMResult_parse:SFn:=⟨3,
 (.seq
 (.region [⟨some 6,.mv (.k .nilI),none⟩] [0,1,2] [] [])
 (.seq
 (.region [⟨some 7,.mv (.t 0),none⟩,⟨some 8,.mv (.t 1),none⟩,⟨some 9,.chk (.t 7),none⟩,⟨some 10,.fAddr 0 (.t 9),none⟩,
 ⟨none,.store 1 (.t 10) (.t 8),none⟩] [0,2] [] [[],[1],[7],[9]])
 (.seq
 (.region [⟨some 11,.mv (.t 0),none⟩,⟨some 12,.mv (.t 2),none⟩,⟨some 13,.look (.str []) false (.t 12) (.k (.str [114,101,97,115,111,110])),none⟩,⟨some 14,.chk (.t 11),none⟩,⟨some 15,.fAddr 1 (.t 14),none⟩,
 ⟨none,.store 1 (.t 15) (.t 13),none⟩] [0,2] [] [[],[],[12],[11],[14]])
 (.seq
 (.region [⟨some 16,.mv (.t 0),none⟩,⟨some 17,.mv (.t 2),none⟩,⟨some 18,.look (.str []) false (.t 17) (.k (.str [104,101,97,100,101,114,46,100])),none⟩,⟨some 19,.chk (.t 16),none⟩,⟨some 20,.fAddr 2 (.t 19),none⟩,
 ⟨none,.store 1 (.t 20) (.t 18),none⟩] [0,2] [] [[],[],[17],[16],[19]])
 (.seq
 (.region [⟨some 21,.mv (.t 0),none⟩,⟨some 22,.mv (.t 2),none⟩,⟨some 23,.look (.str []) false (.t 22) (.k (.str [104,101,97,100,101,114,46,105])),none⟩,⟨some 24,.chk (.t 21),none⟩,⟨some 25,.fAddr 3 (.t 24),none⟩,
 ⟨none,.store 1 (.t 25) (.t 23),none⟩] [] [] [[0],[2],[22],[21],[24]])
 (.seq
 (.region [⟨some 6,.mv (.k .nilI),none⟩] [6] [] [])
 .ret)))))),
 [.t 6]⟩

def l_authres_DKIMResult_parse:Lay:={ rg:=[(0,([0,1,2],[])),(1,([0,2],[])),(2,([0,2],[])),(3,([0,2],[])),(4,([],[])),(5,([6],[]))],dd:=[(1,[[],[1],[7],[9]]),(2,[[],[],[12],[11],[14]]),(3,[[],[],[17],[16],[19]]),(4,[[0],[2],[22],[21],[24]])] }

def c_strings_indexFunc:SFn:=⟨3,
 (.seq
 (.region [⟨some 6,.mv (.k (.int .i64 0)),none⟩] [0,1,2] [] [])
 (.seq
 (.seq
 (.region [⟨some 9,.mv (.t 0),none⟩,⟨some 10,.rangeS (.t 9),none⟩] [1,2,10] [] [[0]])
 (.block 0
 (.loop [1,2,10]
 (.seq
 (.region [⟨some 11,.nextS (.t 10),none⟩,⟨some 12,.extr (.t 11) 0,none⟩] [1,2,10,11,12] [] [])
 (.seq
 (.cond (.t 12)
 .skip
 (.exit 0))
 (.block 1
 (.seq
 (.region [⟨some 13,.extr (.t 11) 1,none⟩,⟨some 14,.extr (.t 11) 2,none⟩,⟨some 7,.mv (.t 13),none⟩,⟨some 8,.mv (.t 14),none⟩] [1,2,7,8,10] [] [[],[11],[13]])
 (.seq
 (.region [⟨some 15,.mv (.t 1),none⟩,⟨some 16,.mv (.t 8),none⟩,⟨some 17,.callV (.t 15) [(.t 16)],none⟩,⟨some 18,.mv (.t 2),none⟩,⟨some 19,.eqB false (.t 17) (.t 18),none⟩] [1,2,7,10,19] [] [[],[8],[15,16]])
 (.cond (.t 19)
 (.seq
 (.region [⟨some 20,.mv (.t 7),none⟩,⟨some 6,.mv (.t 20),none⟩] [6] [10] [[7]])
 .ret)
 .skip)))))))))
 (.seq
 (.region [⟨some 6,.mv (.k (.int .i64 (-1))),none⟩] [6] [10] [])
 .ret))),
 [.t 6]⟩

def l_strings_indexFunc:Lay:={ rg:=[(0,([0,1,2],[])),(1,([1,2,10],[])),(2,([1,2,10,11,12],[])),(3,([1,2,7,8,10],[])),(4,([1,2,7,10,19],[])),(5,([6],[10])),(6,([6],[10])),(1000002,([1,2,10],[]))],dd:=[(1,[[0]]),(3,[[],[11],[13]]),(4,[[],[8],[15,16]]),(5,[[7]])] }

def c_strings_IndexFunc:SFn:=⟨2,
 (.seq
 (.region [⟨some 4,.mv (.k (.int .i64 0)),none⟩] [0,1] [] [])
 (.seq
 (.region [⟨some 5,.mv (.t 0),none⟩,⟨some 6,.mv (.t 1),none⟩,⟨some 7,.call 197 [(.t 5),(.t 6),(.k (.bool true))],none⟩,⟨some 4,.mv (.t 7),none⟩] [4] [] [[0],[1],[5,6]])
 .ret)),
 [.t 4]⟩

def l_strings_IndexFunc:Lay:={ rg:=[(0,([0,1],[])),(1,([4],[]))],dd:=[(1,[[0],[1],[5,6]])] }

def b_authres_parseResult_1:SCode :=
 (.seq
 (.seq
 (.region [⟨some 44,.mv (.t 11),none⟩,⟨some 45,.mv (.t 4),none⟩,⟨some 46,.len 1 (.t 45),none⟩,⟨some 47,.bin .lss (.t 44) (.t 46),none⟩] [4,8,9,10,11,47] [] [[],[],[45]])
 (.cond (.t 47)
 .skip
 (.exit 0)))
 (.seq
 (.block 1
 (.seq
 (.region [⟨some 51,.mv (.t 4),none⟩,⟨some 52,.mv (.t 11),none⟩,⟨some 53,.iAddr 1 (.t 51) (.t 52),none⟩,⟨some 54,.load none (.t 53),none⟩,⟨some 55,.call 171 [(.t 54)],none⟩,⟨some 50,.mv (.t 55),none⟩,⟨some 56,.extr (.t 50) 0,none⟩,⟨some 57,.extr (.t 50) 1,none⟩,⟨some 58,.extr (.t 50) 2,none⟩,⟨some 12,.mv (.t 56),none⟩,⟨some 13,.mv (.t 57),none⟩,⟨some 14,.mv (.t 58),none⟩] [4,8,9,10,11,12,13,14] [] [[],[],[51,52],[53],[54],[55],[],[],[50],[56],[57]])
 (.seq
 (.seq
 (.region [⟨some 59,.mv (.t 14),none⟩,⟨some 60,.isNil 0 true (.t 59),none⟩] [4,8,9,10,11,12,13,60] [] [[14]])
 (.cond (.t 60)
 (.exit 1)
 .skip))
 (.region [⟨some 61,.mv (.t 10),none⟩,⟨some 62,.mv (.t 12),none⟩,⟨some 63,.mv (.t 13),none⟩,
 ⟨none,.mput (.t 61) (.t 62) (.t 63),none⟩] [4,8,9,10,11] [] [[],[12],[13]]))))
 (.region [⟨some 48,.mv (.t 11),none⟩,⟨some 49,.bin .add (.t 48) (.k (.int .i64 1)),none⟩,⟨some 11,.mv (.t 49),none⟩] [4,8,9,10,11] [] [[],[48]])))

def t_authres_parseResult_2:SCode :=
 (.seq
 (.region [⟨some 65,.mv (.t 8),none⟩,⟨some 66,.call 173 [(.t 65)],none⟩,⟨some 64,.mv (.t 66),none⟩,⟨some 67,.extr (.t 64) 0,none⟩,⟨some 68,.extr (.t 64) 1,none⟩,⟨some 15,.mv (.t 67),none⟩,⟨some 16,.mv (.t 68),none⟩] [8,9,10,15,16] [] [[],[65],[66],[],[64],[67]])
 (.seq
 (.region [⟨some 17,.mv (.k .nilI),none⟩] [8,9,10,15,16] [] [])
 (.seq
 (.seq
 (.region [⟨some 69,.mv (.t 16),none⟩] [8,9,10,15,69] [] [])
 (.cond (.t 69)
 (.region [⟨some 70,.mv (.t 15),none⟩,⟨some 71,.callVS (.t 70) [],none⟩,⟨some 17,.mv (.t 71),none⟩] [9,10,17] [] [[15],[70]])
 (.region [⟨some 72,.mv (.t 8),none⟩,⟨some 73,.mv (.t 9),none⟩,⟨some 74,.mv (.t 10),none⟩,⟨some 75,.agg [(.str []),(.str []),.nilM] [(0,1,(.t 72)),(1,1,(.t 73)),(2,1,(.t 74))],none⟩,⟨some 76,.box (.t 75),none⟩,⟨some 77,.mkIfc 15 (.t 76),none⟩,⟨some 17,.mv (.t 77),none⟩] [9,10,17] [] [[8],[],[],[72,73,74],[75],[76]])))
 (.seq
 (.region [⟨some 78,.mv (.t 17),none⟩,⟨some 79,.mv (.t 9),none⟩,⟨some 80,.mv (.t 10),none⟩,⟨some 81,.invS (.t 78) "given.example/pub-waxseal/pub/msgauth/authres.parse" [(.t 79),(.t 80)],none⟩,⟨some 7,.mv (.t 81),none⟩] [7,17] [] [[],[9],[10],[78,79,80]])
 (.seq
 (.region [⟨some 82,.mv (.t 17),none⟩,⟨some 83,.mv (.t 7),none⟩,⟨some 2,.mv (.t 82),none⟩,⟨some 3,.mv (.t 83),none⟩] [2,3] [] [[17],[7],[82]])
 .ret)))))

def c_authres_parseResult:SFn:=⟨1,
 (.seq
 (.region [⟨some 2,.mv (.k .nilI),none⟩,⟨some 3,.mv (.k .nilI),none⟩] [0] [] [[2]])
 (.seq
 (.region [⟨some 18,.mv (.t 0),none⟩,⟨some 19,.call 170 [(.t 18)],none⟩,⟨some 4,.mv (.t 19),none⟩] [4] [] [[0],[18]])
 (.seq
 (.seq
 (.region [⟨some 20,.mv (.t 4),none⟩,⟨some 21,.len 1 (.t 20),none⟩,⟨some 22,.bin .eql (.t 21) (.k (.int .i64 0)),none⟩,⟨some 23,.mv (.t 22),none⟩,⟨some 24,.mv (.t 4),some (23,false)⟩,⟨some 25,.iAddr 1 (.t 24) (.k (.int .i64 0)),some (23,false)⟩,⟨some 26,.load none (.t 25),some (23,false)⟩,⟨some 27,.bin .eql (.t 26) (.k (.str [110,111,110,101])),some (23,false)⟩,⟨some 28,.pick (.t 23) (.k (.bool true)) (.t 27),none⟩] [4,28] [] [[],[20],[21],[22],[],[24],[25],[26]])
 (.cond (.t 28)
 (.seq
 (.region [⟨some 2,.mv (.k .nilI),none⟩,⟨some 3,.mv (.k .nilI),none⟩] [2,3] [] [])
 .ret)
 .skip))
 (.seq
 (.region [⟨some 30,.mv (.t 4),none⟩,⟨some 31,.iAddr 1 (.t 30) (.k (.int .i64 0)),none⟩,⟨some 32,.load none (.t 31),none⟩,⟨some 33,.call 171 [(.t 32)],none⟩,⟨some 29,.mv (.t 33),none⟩,⟨some 34,.extr (.t 29) 0,none⟩,⟨some 35,.extr (.t 29) 1,none⟩,⟨some 36,.extr (.t 29) 2,none⟩,⟨some 5,.mv (.t 34),none⟩,⟨some 6,.mv (.t 35),none⟩,⟨some 7,.mv (.t 36),none⟩] [4,5,6,7] [] [[],[30],[31],[32],[33],[],[],[29],[34],[35]])
 (.seq
 (.seq
 (.region [⟨some 37,.mv (.t 7),none⟩,⟨some 38,.isNil 0 true (.t 37),none⟩] [4,5,6,7,38] [] [])
 (.cond (.t 38)
 (.seq
 (.region [⟨some 39,.mv (.t 7),none⟩,⟨some 2,.mv (.k .nilI),none⟩,⟨some 3,.mv (.t 39),none⟩] [2,3] [] [[7]])
 .ret)
 .skip))
 (.seq
 (.region [⟨some 40,.mv (.t 5),none⟩,⟨some 41,.mv (.t 6),none⟩,⟨some 42,.call 172 [(.t 41)],none⟩,⟨some 8,.mv (.t 40),none⟩,⟨some 9,.mv (.t 42),none⟩] [4,8,9] [] [[5],[6],[41],[40]])
 (.seq
 (.region [⟨some 43,.mkMap,none⟩,⟨some 10,.mv (.t 43),none⟩] [4,8,9,10] [] [])
 (.seq
 (.seq
 (.region [⟨some 11,.mv (.k (.int .i64 1)),none⟩] [4,8,9,10,11] [] [])
 (.block 0
 (.loop [4,8,9,10,11]
 b_authres_parseResult_1)))
 t_authres_parseResult_2)))))))),
 [.t 2,.t 3]⟩

def l_authres_parseResult:Lay:={ rg:=[(0,([0],[])),(1,([4],[])),(2,([4,28],[])),(3,([2,3],[])),(4,([4,5,6,7],[])),(5,([4,5,6,7,38],[])),(6,([2,3],[])),(7,([4,8,9],[])),(8,([4,8,9,10],[])),(9,([4,8,9,10,11],[])),(10,([4,8,9,10,11,47],[])),(11,([4,8,9,10,11],[])),(12,([4,8,9,10,11,12,13,14],[])),(13,([4,8,9,10,11,12,13,60],[])),(14,([4,8,9,10,11],[])),(15,([8,9,10,15,16],[])),(16,([8,9,10,15,16],[])),(17,([8,9,10,15,69],[])),(18,([9,10,17],[])),(19,([9,10,17],[])),(20,([7,17],[])),(21,([2,3],[])),(1000010,([4,8,9,10,11],[]))],dd:=[(0,[[2]]),(1,[[0],[18]]),(2,[[],[20],[21],[22],[],[24],[25],[26]]),(4,[[],[30],[31],[32],[33],[],[],[29],[34],[35]]),(6,[[7]]),(7,[[5],[6],[41],[40]]),(10,[[],[],[45]]),(11,[[],[48]]),(12,[[],[],[51,52],[53],[54],[55],[],[],[50],[56],[57]]),(13,[[14]]),(14,[[],[12],[13]]),(15,[[],[65],[66],[],[64],[67]]),(18,[[15],[70]]),(19,[[8],[],[],[72,73,74],[75],[76]]),(20,[[],[9],[10],[78,79,80]]),(21,[[17],[7],[82]])],sm:=["given.example/pub-waxseal/pub/msgauth/authres.parse"],cv:=true }

def b_authres_Parse_1:SCode :=
 (.seq
 (.seq
 (.region [⟨some 32,.mv (.t 8),none⟩,⟨some 33,.mv (.t 5),none⟩,⟨some 34,.len 1 (.t 33),none⟩,⟨some 35,.bin .lss (.t 32) (.t 34),none⟩] [2,3,4,5,8,35] [] [[],[],[33]])
 (.cond (.t 35)
 .skip
 (.exit 0)))
 (.seq
 (.block 1
 (.seq
 (.region [⟨some 38,.mv (.t 5),none⟩,⟨some 39,.mv (.t 8),none⟩,⟨some 40,.iAddr 1 (.t 38) (.t 39),none⟩,⟨some 41,.load none (.t 40),none⟩,⟨some 42,.call 163 [(.t 41)],none⟩,⟨some 9,.mv (.t 42),none⟩] [2,3,4,5,8,9] [] [[],[],[38,39],[40],[41]])
 (.seq
 (.seq
 (.region [⟨some 43,.mv (.t 9),none⟩,⟨some 44,.bin .eql (.t 43) (.k (.str [])),none⟩] [2,3,4,5,8,9,44] [] [])
 (.cond (.t 44)
 (.exit 1)
 .skip))
 (.seq
 (.region [⟨some 46,.mv (.t 9),none⟩,⟨some 47,.call 166 [(.t 46)],none⟩,⟨some 45,.mv (.t 47),none⟩,⟨some 48,.extr (.t 45) 0,none⟩,⟨some 49,.extr (.t 45) 1,none⟩,⟨some 10,.mv (.t 48),none⟩,⟨some 11,.mv (.t 49),none⟩] [2,3,4,5,8,10,11] [] [[9],[46],[47],[],[45],[48]])
 (.seq
 (.seq
 (.region [⟨some 50,.mv (.t 11),none⟩,⟨some 51,.isNil 0 true (.t 50),none⟩] [2,3,4,5,8,10,11,51] [] [])
 (.cond (.t 51)
 (.seq
 (.region [⟨some 52,.mv (.t 2),none⟩,⟨some 53,.mv (.t 3),none⟩,⟨some 54,.mv (.t 11),none⟩,⟨some 2,.mv (.t 52),none⟩,⟨some 3,.mv (.t 53),none⟩,⟨some 4,.mv (.t 54),none⟩] [2,3,4] [13,100013] [[],[],[11],[52],[53]])
 .ret)
 .skip))
 (.seq
 (.region [⟨some 55,.mv (.t 10),none⟩,⟨some 56,.isNil 0 true (.t 55),none⟩] [2,3,4,5,8,10,56] [] [])
 (.cond (.t 56)
 (.region [⟨some 57,.mv (.t 3),none⟩,⟨some 58,.mv (.t 10),none⟩,⟨some 59,.mkSl 1 1 [.nilI] [(0,(.t 58))],none⟩,⟨some 60,.app 1 16 (.t 57) (.t 59),none⟩,⟨some 3,.mv (.t 60),none⟩] [2,3,4,5,8] [59] [[],[10],[58],[57,59]])
 .skip)))))))
 (.region [⟨some 36,.mv (.t 8),none⟩,⟨some 37,.bin .add (.t 36) (.k (.int .i64 1)),none⟩,⟨some 8,.mv (.t 37),none⟩] [2,3,4,5,8] [] [[],[36]])))

def c_authres_Parse:SFn:=⟨1,
 (.seq
 (.region [⟨some 2,.mv (.k (.str [])),none⟩,⟨some 3,.mv (.k .nilS),none⟩,⟨some 4,.mv (.k .nilI),none⟩] [0,3,4] [] [[2]])
 (.seq
 (.region [⟨some 12,.mv (.t 0),none⟩,⟨some 13,.callS 162 [(.t 12),(.k (.str [59]))],none⟩,⟨some 5,.mv (.t 13),none⟩] [3,4,5] [] [[0],[12]])
 (.seq
 (.region [⟨some 14,.mv (.t 5),none⟩,⟨some 15,.iAddr 1 (.t 14) (.k (.int .i64 0)),none⟩,⟨some 16,.load none (.t 15),none⟩,⟨some 17,.call 163 [(.t 16)],none⟩,⟨some 2,.mv (.t 17),none⟩] [2,3,4,5] [] [[],[14],[15],[16]])
 (.seq
 (.region [⟨some 18,.mv (.t 2),none⟩,⟨some 19,.call 164 [(.t 18),(.k (.fn 165 []))],none⟩,⟨some 6,.mv (.t 19),none⟩] [2,3,4,5,6] [] [[],[18]])
 (.seq
 (.seq
 (.region [⟨some 20,.mv (.t 6),none⟩,⟨some 21,.bin .gtr (.t 20) (.k (.int .i64 0)),none⟩] [2,3,4,5,6,21] [] [])
 (.cond (.t 21)
 (.seq
 (.region [⟨some 22,.mv (.t 2),none⟩,⟨some 23,.mv (.t 6),none⟩,⟨some 24,.slStr (.t 22) (some (.t 23)) none,none⟩,⟨some 25,.call 163 [(.t 24)],none⟩,⟨some 7,.mv (.t 25),none⟩] [2,3,4,5,6,7] [] [[],[],[22,23],[24]])
 (.seq
 (.seq
 (.region [⟨some 26,.mv (.t 7),none⟩,⟨some 27,.bin .neq (.t 26) (.k (.str [49])),none⟩] [2,3,4,5,6,27] [] [[7]])
 (.cond (.t 27)
 (.seq
 (.region [⟨some 28,.call 50 [(.k (.str [109,115,103,97,117,116,104,58,32,117,110,115,117,112,112,111,114,116,101,100,32,118,101,114,115,105,111,110]))],none⟩,⟨some 2,.mv (.k (.str [])),none⟩,⟨some 3,.mv (.k .nilS),none⟩,⟨some 4,.mv (.t 28),none⟩] [2,3,4] [13,100013] [])
 .ret)
 .skip))
 (.region [⟨some 29,.mv (.t 2),none⟩,⟨some 30,.mv (.t 6),none⟩,⟨some 31,.slStr (.t 29) none (some (.t 30)),none⟩,⟨some 2,.mv (.t 31),none⟩] [2,3,4,5] [] [[],[6],[29,30]])))
 .skip))
 (.seq
 (.seq
 (.region [⟨some 8,.mv (.k (.int .i64 1)),none⟩] [2,3,4,5,8] [] [])
 (.block 0
 (.loop [2,3,4,5,8]
 b_authres_Parse_1)))
 .ret)))))),
 [.t 2,.t 3,.t 4]⟩

def l_authres_Parse:Lay:={ rg:=[(0,([0,3,4],[])),(1,([3,4,5],[])),(2,([2,3,4,5],[])),(3,([2,3,4,5,6],[])),(4,([2,3,4,5,6,21],[])),(5,([2,3,4,5,6,7],[])),(6,([2,3,4,5,6,27],[])),(7,([2,3,4],[13,100013])),(8,([2,3,4,5],[])),(9,([2,3,4,5,8],[])),(10,([2,3,4,5,8,35],[])),(11,([2,3,4,5,8],[])),(12,([2,3,4,5,8,9],[])),(13,([2,3,4,5,8,9,44],[])),(14,([2,3,4,5,8,10,11],[])),(15,([2,3,4,5,8,10,11,51],[])),(16,([2,3,4],[13,100013])),(17,([2,3,4,5,8,10,56],[])),(18,([2,3,4,5,8],[59])),(1000010,([2,3,4,5,8],[]))],dd:=[(0,[[2]]),(1,[[0],[12]]),(2,[[],[14],[15],[16]]),(3,[[],[18]]),(5,[[],[],[22,23],[24]]),(6,[[7]]),(8,[[],[6],[29,30]]),(10,[[],[],[33]]),(11,[[],[36]]),(12,[[],[],[38,39],[40],[41]]),(14,[[9],[46],[47],[],[45],[48]]),(16,[[],[],[11],[52],[53]]),(18,[[],[10],[58],[57,59]])],sf:=[162] }

def c_impl_resultOf:SFn:=⟨1,
 (.seq
 (.region [⟨some 2,.alloc [(.int .i64 0),(.str []),(.str []),(.str []),(.str []),(.str []),(.str []),(.str []),(.str []),(.str []),(.str []),(.str []),(.str []),(.str []),(.int .i64 0),.nilS],none⟩] [0,2] [] [])
 (.seq
 (.seq
 (.region [⟨some 12,.mv (.t 0),none⟩] [2,12] [] [])
 (.block 0
 (.seq
 (.region [⟨some 13,.assert 8 .nilP true (.t 12),none⟩,⟨some 14,.extr (.t 13) 1,none⟩,⟨some 15,.extr (.t 13) 0,none⟩] [2,12,14,15] [] [])
 (.cond (.t 14)
 (.seq
 (.region [⟨some 3,.mv (.t 15),none⟩] [2,3] [] [])
 (.seq
 (.region [⟨some 16,.mv (.t 3),none⟩,⟨some 17,.chk (.t 16),none⟩,⟨some 18,.fAddr 0 (.t 17),none⟩,⟨some 19,.load none (.t 18),none⟩,⟨some 20,.mv (.t 3),none⟩,⟨some 21,.chk (.t 20),none⟩,⟨some 22,.fAddr 1 (.t 21),none⟩,⟨some 23,.load none (.t 22),none⟩,⟨some 24,.mv (.t 3),none⟩,⟨some 25,.chk (.t 24),none⟩,⟨some 26,.fAddr 2 (.t 25),none⟩,⟨some 27,.load none (.t 26),none⟩,⟨some 28,.agg [(.int .i64 0),(.str []),(.str []),(.str []),(.str []),(.str []),(.str []),(.str []),(.str []),(.str []),(.str []),(.str []),(.str []),(.str []),(.int .i64 0),.nilS] [(0,1,(.k (.int .i64 1))),(2,1,(.t 19)),(3,1,(.t 23)),(10,1,(.t 27))],none⟩,
 ⟨none,.store 16 (.t 2) (.t 28),none⟩] [2] [] [])
 .ret))
 (.seq
 (.region [⟨some 29,.assert 9 .nilP true (.t 12),none⟩,⟨some 30,.extr (.t 29) 1,none⟩,⟨some 31,.extr (.t 29) 0,none⟩] [2,12,30,31] [] [])
 (.cond (.t 30)
 (.seq
 (.region [⟨some 4,.mv (.t 31),none⟩] [2,4] [] [])
 (.seq
 (.region [⟨some 32,.mv (.t 4),none⟩,⟨some 33,.chk (.t 32),none⟩,⟨some 34,.fAddr 0 (.t 33),none⟩,⟨some 35,.load none (.t 34),none⟩,⟨some 36,.mv (.t 4),none⟩,⟨some 37,.chk (.t 36),none⟩,⟨some 38,.fAddr 1 (.t 37),none⟩,⟨some 39,.load none (.t 38),none⟩,⟨some 40,.mv (.t 4),none⟩,⟨some 41,.chk (.t 40),none⟩,⟨some 42,.fAddr 2 (.t 41),none⟩,⟨some 43,.load none (.t 42),none⟩,⟨some 44,.mv (.t 4),none⟩,⟨some 45,.chk (.t 44),none⟩,⟨some 46,.fAddr 3 (.t 45),none⟩,⟨some 47,.load none (.t 46),none⟩,⟨some 48,.agg [(.int .i64 0),(.str []),(.str []),(.str []),(.str []),(.str []),(.str []),(.str []),(.str []),(.str []),(.str []),(.str []),(.str []),(.str []),(.int .i64 0),.nilS] [(0,1,(.k (.int .i64 2))),(2,1,(.t 35)),(3,1,(.t 39)),(4,1,(.t 43)),(5,1,(.t 47))],none⟩,
 ⟨none,.store 16 (.t 2) (.t 48),none⟩] [2] [] [])
 .ret))
 (.seq
 (.region [⟨some 49,.assert 10 .nilP true (.t 12),none⟩,⟨some 50,.extr (.t 49) 1,none⟩,⟨some 51,.extr (.t 49) 0,none⟩] [2,12,50,51] [] [])
 (.cond (.t 50)
 (.seq
 (.region [⟨some 5,.mv (.t 51),none⟩] [2,5] [] [])
 (.seq
 (.region [⟨some 52,.mv (.t 5),none⟩,⟨some 53,.chk (.t 52),none⟩,⟨some 54,.fAddr 0 (.t 53),none⟩,⟨some 55,.load none (.t 54),none⟩,⟨some 56,.mv (.t 5),none⟩,⟨some 57,.chk (.t 56),none⟩,⟨some 58,.fAddr 1 (.t 57),none⟩,⟨some 59,.load none (.t 58),none⟩,⟨some 60,.mv (.t 5),none⟩,⟨some 61,.chk (.t 60),none⟩,⟨some 62,.fAddr 2 (.t 61),none⟩,⟨some 63,.load none (.t 62),none⟩,⟨some 64,.mv (.t 5),none⟩,⟨some 65,.chk (.t 64),none⟩,⟨some 66,.fAddr 3 (.t 65),none⟩,⟨some 67,.load none (.t 66),none⟩,⟨some 68,.mv (.t 5),none⟩,⟨some 69,.chk (.t 68),none⟩,⟨some 70,.fAddr 4 (.t 69),none⟩,⟨some 71,.load none (.t 70),none⟩,⟨some 72,.agg [(.int .i64 0),(.str []),(.str []),(.str []),(.str []),(.str []),(.str []),(.str []),(.str []),(.str []),(.str []),(.str []),(.str []),(.str []),(.int .i64 0),.nilS] [(0,1,(.k (.int .i64 3))),(2,1,(.t 55)),(3,1,(.t 59)),(4,1,(.t 63)),(6,1,(.t 67)),(7,1,(.t 71))],none⟩,
 ⟨none,.store 16 (.t 2) (.t 72),none⟩] [2] [] [])
 .ret))
 (.seq
 (.region [⟨some 73,.assert 11 .nilP true (.t 12),none⟩,⟨some 74,.extr (.t 73) 1,none⟩,⟨some 75,.extr (.t 73) 0,none⟩] [2,12,74,75] [] [])
 (.cond (.t 74)
 (.seq
 (.region [⟨some 6,.mv (.t 75),none⟩] [2,6] [] [])
 (.seq
 (.region [⟨some 76,.mv (.t 6),none⟩,⟨some 77,.chk (.t 76),none⟩,⟨some 78,.fAddr 0 (.t 77),none⟩,⟨some 79,.load none (.t 78),none⟩,⟨some 80,.mv (.t 6),none⟩,⟨some 81,.chk (.t 80),none⟩,⟨some 82,.fAddr 1 (.t 81),none⟩,⟨some 83,.load none (.t 82),none⟩,⟨some 84,.mv (.t 6),none⟩,⟨some 85,.chk (.t 84),none⟩,⟨some 86,.fAddr 2 (.t 85),none⟩,⟨some 87,.load none (.t 86),none⟩,⟨some 88,.agg [(.int .i64 0),(.str []),(.str []),(.str []),(.str []),(.str []),(.str []),(.str []),(.str []),(.str []),(.str []),(.str []),(.str []),(.str []),(.int .i64 0),.nilS] [(0,1,(.k (.int .i64 4))),(2,1,(.t 79)),(3,1,(.t 83)),(8,1,(.t 87))],none⟩,
 ⟨none,.store 16 (.t 2) (.t 88),none⟩] [2] [] [])
 .ret))
 (.seq
 (.region [⟨some 89,.assert 12 .nilP true (.t 12),none⟩,⟨some 90,.extr (.t 89) 1,none⟩,⟨some 91,.extr (.t 89) 0,none⟩] [2,12,90,91] [] [])
 (.cond (.t 90)
 (.seq
 (.region [⟨some 7,.mv (.t 91),none⟩] [2,7] [] [])
 (.seq
 (.region [⟨some 92,.mv (.t 7),none⟩,⟨some 93,.chk (.t 92),none⟩,⟨some 94,.fAddr 0 (.t 93),none⟩,⟨some 95,.load none (.t 94),none⟩,⟨some 96,.mv (.t 7),none⟩,⟨some 97,.chk (.t 96),none⟩,⟨some 98,.fAddr 1 (.t 97),none⟩,⟨some 99,.load none (.t 98),none⟩,⟨some 100,.mv (.t 7),none⟩,⟨some 101,.chk (.t 100),none⟩,⟨some 102,.fAddr 2 (.t 101),none⟩,⟨some 103,.load none (.t 102),none⟩,⟨some 104,.mv (.t 7),none⟩,⟨some 105,.chk (.t 104),none⟩,⟨some 106,.fAddr 3 (.t 105),none⟩,⟨some 107,.load none (.t 106),none⟩,⟨some 108,.agg [(.int .i64 0),(.str []),(.str []),(.str []),(.str []),(.str []),(.str []),(.str []),(.str []),(.str []),(.str []),(.str []),(.str []),(.str []),(.int .i64 0),.nilS] [(0,1,(.k (.int .i64 5))),(2,1,(.t 95)),(3,1,(.t 99)),(11,1,(.t 103)),(12,1,(.t 107))],none⟩,
 ⟨none,.store 16 (.t 2) (.t 108),none⟩] [2] [] [])
 .ret))
 (.seq
 (.region [⟨some 109,.assert 13 .nilP true (.t 12),none⟩,⟨some 110,.extr (.t 109) 1,none⟩,⟨some 111,.extr (.t 109) 0,none⟩] [2,12,110,111] [] [])
 (.cond (.t 110)
 (.seq
 (.region [⟨some 8,.mv (.t 111),none⟩] [2,8] [] [])
 (.seq
 (.region [⟨some 112,.mv (.t 8),none⟩,⟨some 113,.chk (.t 112),none⟩,⟨some 114,.fAddr 0 (.t 113),none⟩,⟨some 115,.load none (.t 114),none⟩,⟨some 116,.mv (.t 8),none⟩,⟨some 117,.chk (.t 116),none⟩,⟨some 118,.fAddr 1 (.t 117),none⟩,⟨some 119,.load none (.t 118),none⟩,⟨some 120,.mv (.t 8),none⟩,⟨some 121,.chk (.t 120),none⟩,⟨some 122,.fAddr 2 (.t 121),none⟩,⟨some 123,.load none (.t 122),none⟩,⟨some 124,.mv (.t 8),none⟩,⟨some 125,.chk (.t 124),none⟩,⟨some 126,.fAddr 3 (.t 125),none⟩,⟨some 127,.load none (.t 126),none⟩,⟨some 128,.agg [(.int .i64 0),(.str []),(.str []),(.str []),(.str []),(.str []),(.str []),(.str []),(.str []),(.str []),(.str []),(.str []),(.str []),(.str []),(.int .i64 0),.nilS] [(0,1,(.k (.int .i64 6))),(2,1,(.t 115)),(3,1,(.t 119)),(6,1,(.t 123)),(9,1,(.t 127))],none⟩,
 ⟨none,.store 16 (.t 2) (.t 128),none⟩] [2] [] [])
 .ret))
 (.seq
 (.region [⟨some 129,.assert 14 .nilP true (.t 12),none⟩,⟨some 130,.extr (.t 129) 1,none⟩,⟨some 131,.extr (.t 129) 0,none⟩] [2,12,130,131] [] [])
 (.cond (.t 130)
 (.seq
 (.region [⟨some 9,.mv (.t 131),none⟩] [2,9] [] [])
 (.seq
 (.region [⟨some 132,.mv (.t 9),none⟩,⟨some 133,.chk (.t 132),none⟩,⟨some 134,.fAddr 0 (.t 133),none⟩,⟨some 135,.load none (.t 134),none⟩,⟨some 136,.mv (.t 9),none⟩,⟨some 137,.chk (.t 136),none⟩,⟨some 138,.fAddr 1 (.t 137),none⟩,⟨some 139,.load none (.t 138),none⟩,⟨some 140,.mv (.t 9),none⟩,⟨some 141,.chk (.t 140),none⟩,⟨some 142,.fAddr 2 (.t 141),none⟩,⟨some 143,.load none (.t 142),none⟩,⟨some 144,.agg [(.int .i64 0),(.str []),(.str []),(.str []),(.str []),(.str []),(.str []),(.str []),(.str []),(.str []),(.str []),(.str []),(.str []),(.str []),(.int .i64 0),.nilS] [(0,1,(.k (.int .i64 7))),(2,1,(.t 135)),(3,1,(.t 139)),(6,1,(.t 143))],none⟩,
 ⟨none,.store 16 (.t 2) (.t 144),none⟩] [2] [] [])
 .ret))
 (.seq
 (.region [⟨some 145,.assert 7 .nilP true (.t 12),none⟩,⟨some 146,.extr (.t 145) 1,none⟩,⟨some 147,.extr (.t 145) 0,none⟩] [2,12,146,147] [] [])
 (.cond (.t 146)
 (.seq
 (.region [⟨some 10,.mv (.t 147),none⟩] [2,10] [] [])
 (.seq
 (.region [⟨some 148,.mv (.t 10),none⟩,⟨some 149,.chk (.t 148),none⟩,⟨some 150,.fAddr 0 (.t 149),none⟩,⟨some 151,.load none (.t 150),none⟩,⟨some 152,.mv (.t 10),none⟩,⟨some 153,.chk (.t 152),none⟩,⟨some 154,.fAddr 1 (.t 153),none⟩,⟨some 155,.load none (.t 154),none⟩,⟨some 156,.mv (.t 10),none⟩,⟨some 157,.chk (.t 156),none⟩,⟨some 158,.fAddr 2 (.t 157),none⟩,⟨some 159,.load none (.t 158),none⟩,⟨some 160,.agg [(.int .i64 0),(.str []),(.str []),(.str []),(.str []),(.str []),(.str []),(.str []),(.str []),(.str []),(.str []),(.str []),(.str []),(.str []),(.int .i64 0),.nilS] [(0,1,(.k (.int .i64 8))),(2,1,(.t 151)),(13,1,(.t 155)),(14,1,(.t 159))],none⟩,
 ⟨none,.store 16 (.t 2) (.t 160),none⟩] [2] [] [])
 .ret))
 (.seq
 (.region [⟨some 161,.assert 15 .nilP true (.t 12),none⟩,⟨some 162,.extr (.t 161) 1,none⟩,⟨some 163,.extr (.t 161) 0,none⟩] [2,162,163] [] [[12]])
 (.cond (.t 162)
 (.seq
 (.region [⟨some 11,.mv (.t 163),none⟩] [2,11] [] [])
 (.seq
 (.region [⟨some 164,.mv (.t 11),none⟩,⟨some 165,.chk (.t 164),none⟩,⟨some 166,.fAddr 0 (.t 165),none⟩,⟨some 167,.load none (.t 166),none⟩,⟨some 168,.mv (.t 11),none⟩,⟨some 169,.chk (.t 168),none⟩,⟨some 170,.fAddr 1 (.t 169),none⟩,⟨some 171,.load none (.t 170),none⟩,⟨some 172,.mv (.t 11),none⟩,⟨some 173,.chk (.t 172),none⟩,⟨some 174,.fAddr 2 (.t 173),none⟩,⟨some 175,.load none (.t 174),none⟩,⟨some 176,.call 167 [(.t 175)],none⟩,⟨some 177,.agg [(.int .i64 0),(.str []),(.str []),(.str []),(.str []),(.str []),(.str []),(.str []),(.str []),(.str []),(.str []),(.str []),(.str []),(.str []),(.int .i64 0),.nilS] [(0,1,(.k (.int .i64 0))),(1,1,(.t 167)),(2,1,(.t 171)),(15,1,(.t 176))],none⟩,
 ⟨none,.store 16 (.t 2) (.t 177),none⟩] [2] [] [])
 .ret))
 .skip))))))))))))))))))))
 (.seq
 (.region [⟨some 178,.agg [(.int .i64 0),(.str []),(.str []),(.str []),(.str []),(.str []),(.str []),(.str []),(.str []),(.str []),(.str []),(.str []),(.str []),(.str []),(.int .i64 0),.nilS] [],none⟩,
 ⟨none,.store 16 (.t 2) (.t 178),none⟩] [2] [] [])
 .ret))),
 [.c (some 16) 2]⟩

def l_impl_resultOf:Lay:={ rg:=[(0,([0,2],[])),(1,([2,12],[])),(2,([2,12,14,15],[])),(3,([2,3],[])),(4,([2],[])),(5,([2,12,30,31],[])),(6,([2,4],[])),(7,([2],[])),(8,([2,12,50,51],[])),(9,([2,5],[])),(10,([2],[])),(11,([2,12,74,75],[])),(12,([2,6],[])),(13,([2],[])),(14,([2,12,90,91],[])),(15,([2,7],[])),(16,([2],[])),(17,([2,12,110,111],[])),(18,([2,8],[])),(19,([2],[])),(20,([2,12,130,131],[])),(21,([2,9],[])),(22,([2],[])),(23,([2,12,146,147],[])),(24,([2,10],[])),(25,([2],[])),(26,([2,162,163],[])),(27,([2,11],[])),(28,([2],[])),(29,([2],[]))],dd:=[(26,[[12]])] }

def b_impl_AParse_1:SCode :=
 (.seq
 (.region [⟨some 22,.bin .lss (.t 21) (.t 20),none⟩] [5,8,19,20,21,22] [] [])
 (.seq
 (.cond (.t 22)
 .skip
 (.exit 0))
 (.seq
 (.block 1
 (.seq
 (.region [⟨some 23,.iAddr 1 (.t 19) (.t 21),none⟩,⟨some 24,.load none (.t 23),none⟩,⟨some 10,.mv (.t 24),none⟩] [5,8,10,19,20,21] [] [[],[23]])
 (.region [⟨some 25,.mv (.t 8),none⟩,⟨some 26,.mv (.t 10),none⟩,⟨some 27,.call 157 [(.t 26)],none⟩,⟨some 28,.mkSl 16 1 [(.int .i64 0),(.str []),(.str []),(.str []),(.str []),(.str []),(.str []),(.str []),(.str []),(.str []),(.str []),(.str []),(.str []),(.str []),(.int .i64 0),.nilS] [(0,(.t 27))],none⟩,⟨some 29,.app 16 248 (.t 25) (.t 28),none⟩,⟨some 8,.mv (.t 29),none⟩] [5,8,19,20,21] [28] [[],[10],[26],[27],[25,28]])))
 (.region [⟨some 30,.bin .add (.t 21) (.k (.int .i64 1)),none⟩,⟨some 21,.mv (.t 30),none⟩] [5,8,19,20,21] [] []))))

def t_impl_AParse_2:SCode :=
 (.seq
 (.region [⟨some 31,.mv (.t 5),none⟩,⟨some 32,.mv (.t 8),none⟩,⟨some 2,.mv (.t 31),none⟩,⟨some 3,.mv (.t 32),none⟩,⟨some 4,.mv (.k (.bool true)),none⟩] [2,3,4] [] [[5],[8],[31],[32]])
 .ret)

def c_impl_AParse:SFn:=⟨1,
 (.seq
 (.region [⟨some 2,.mv (.k (.str [])),none⟩,⟨some 3,.mv (.k .nilS),none⟩,⟨some 4,.mv (.k (.bool false)),none⟩] [0] [] [[2],[3]])
 (.seq
 (.region [⟨some 12,.mv (.t 0),none⟩,⟨some 13,.call 156 [(.t 12)],none⟩,⟨some 11,.mv (.t 13),none⟩,⟨some 14,.extr (.t 11) 0,none⟩,⟨some 15,.extr (.t 11) 1,none⟩,⟨some 16,.extr (.t 11) 2,none⟩,⟨some 5,.mv (.t 14),none⟩,⟨some 6,.mv (.t 15),none⟩,⟨some 7,.mv (.t 16),none⟩] [5,6,7] [] [[0],[12],[13],[],[],[11],[14],[15]])
 (.seq
 (.seq
 (.region [⟨some 17,.mv (.t 7),none⟩,⟨some 18,.isNil 0 true (.t 17),none⟩] [5,6,18] [] [[7]])
 (.cond (.t 18)
 (.seq
 (.region [⟨some 2,.mv (.k (.str [])),none⟩,⟨some 3,.mv (.k .nilS),none⟩,⟨some 4,.mv (.k (.bool false)),none⟩] [2,3,4] [] [])
 .ret)
 .skip))
 (.seq
 (.region [⟨some 8,.mv (.k .nilS),none⟩] [5,6,8] [] [])
 (.seq
 (.seq
 (.region [⟨some 19,.mv (.t 6),none⟩,⟨some 20,.len 1 (.t 19),none⟩,⟨some 21,.mv (.k (.int .i64 0)),none⟩] [5,8,19,20,21] [] [[6]])
 (.block 0
 (.loop [5,8,19,20,21]
 b_impl_AParse_1)))
 t_impl_AParse_2))))),
 [.t 2,.t 3,.t 4]⟩

def l_impl_AParse:Lay:={ rg:=[(0,([0],[])),(1,([5,6,7],[])),(2,([5,6,18],[])),(3,([2,3,4],[])),(4,([5,6,8],[])),(5,([5,8,19,20,21],[])),(6,([5,8,19,20,21,22],[])),(7,([5,8,10,19,20,21],[])),(8,([5,8,19,20,21],[28])),(9,([5,8,19,20,21],[])),(10,([2,3,4],[])),(1000006,([5,8,19,20,21],[]))],dd:=[(0,[[2],[3]]),(1,[[0],[12],[13],[],[],[11],[14],[15]]),(2,[[7]]),(5,[[6]]),(7,[[],[23]]),(8,[[],[10],[26],[27],[25,28]]),(10,[[5],[8],[31],[32]])] }

end Wax


namespace Wax
open Go (IntKind)

def c_laws_awake:SFn:=⟨0,
 (.seq
 (.region [⟨some 0,.mv (.k (.bool false)),none⟩] [] [] [])
 (.seq
 (.region [⟨some 7,.call 144 [(.k (.str [97,59,32,100,107,105,109,61,112,97,115,115,32,104,101,97,100,101,114,46,100,61,98]))],none⟩,⟨some 6,.mv (.t 7),none⟩,⟨some 8,.extr (.t 6) 0,none⟩,⟨some 9,.extr (.t 6) 1,none⟩,⟨some 10,.extr (.t 6) 2,none⟩,⟨some 1,.mv (.t 8),none⟩,⟨some 2,.mv (.t 9),none⟩,⟨some 3,.mv (.t 10),none⟩] [1,2,3] [] [[],[7],[],[],[6],[8],[9]])
 (.seq
 (.region [⟨some 12,.call 133 [(.k (.str [118,61,68,77,65,82,67,49,59,32,112,61,110,111,110,101]))],none⟩,⟨some 11,.mv (.t 12),none⟩,⟨some 13,.extr (.t 11) 0,none⟩,⟨some 14,.extr (.t 11) 1,none⟩,⟨some 4,.alloc [(.str []),(.str []),(.int .i64 0),(.str []),(.int .i64 0),(.bool false),.nilS,(.int .i64 0),.nilS,.nilS,(.str [])],none⟩,
 ⟨none,.store 11 (.t 4) (.t 13),none⟩,⟨some 5,.mv (.t 14),none⟩] [1,2,3,4,5] [] [[],[12],[],[11],[],[13]])
 (.seq
 (.region [⟨some 15,.mv (.t 3),none⟩,⟨some 16,.mv (.t 15),none⟩,⟨some 17,.mv (.t 1),some (16,true)⟩,⟨some 18,.bin .eql (.t 17) (.k (.str [97])),some (16,true)⟩,⟨some 19,.pick (.t 16) (.t 18) (.k (.bool false)),none⟩,⟨some 20,.mv (.t 19),none⟩,⟨some 21,.mv (.t 2),some (20,true)⟩,⟨some 22,.len 1 (.t 21),some (20,true)⟩,⟨some 23,.bin .eql (.t 22) (.k (.int .i64 1)),some (20,true)⟩,⟨some 24,.pick (.t 20) (.t 23) (.k (.bool false)),none⟩,⟨some 25,.mv (.t 24),none⟩,⟨some 26,.mv (.t 2),some (25,true)⟩,⟨some 27,.iAddr 16 (.t 26) (.k (.int .i64 0)),some (25,true)⟩,⟨some 28,.fAddr 4 (.t 27),some (25,true)⟩,⟨some 29,.load none (.t 28),some (25,true)⟩,⟨some 30,.bin .eql (.t 29) (.k (.str [98])),some (25,true)⟩,⟨some 31,.pick (.t 25) (.t 30) (.k (.bool false)),none⟩,⟨some 32,.mv (.t 31),none⟩,⟨some 33,.mv (.t 5),some (32,true)⟩,⟨some 34,.pick (.t 32) (.t 33) (.k (.bool false)),none⟩,⟨some 35,.mv (.t 34),none⟩,⟨some 36,.fAddr 3 (.t 4),some (35,true)⟩,⟨some 37,.load none (.t 36),some (35,true)⟩,⟨some 38,.bin .eql (.t 37) (.k (.str [110,111,110,101])),some (35,true)⟩,⟨some 39,.pick (.t 35) (.t 38) (.k (.bool false)),none⟩,⟨some 0,.mv (.t 39),none⟩] [0] [4] [[3],[15],[1],[17],[16,18],[19],[],[21],[22],[20,23],[24],[2],[26],[27],[28],[29],[25,30],[31],[5],[32,33],[34],[4],[36],[37],[35,38]])
 .ret)))),
 [.t 0]⟩

def l_laws_awake:Lay:={ rg:=[(0,([],[])),(1,([1,2,3],[])),(2,([1,2,3,4,5],[])),(3,([0],[4]))],dd:=[(1,[[],[7],[],[],[6],[8],[9]]),(2,[[],[12],[],[11],[],[13]]),(3,[[3],[15],[1],[17],[16,18],[19],[],[21],[22],[20,23],[24],[2],[26],[27],[28],[29],[25,30],[31],[5],[32,33],[34],[4],[36],[37],[35,38]])] }

end Wax


namespace Wax
open Go (IntKind)

def c_errors_New:SFn:=⟨1,
 (.seq
 (.region [⟨some 2,.mv (.k .nilI),none⟩] [0] [] [])
 (.seq
 (.region [⟨some 3,.mv (.t 0),none⟩,⟨some 4,.agg [(.str [])] [(0,1,(.t 3))],none⟩,⟨some 5,.box (.t 4),none⟩,⟨some 6,.mkIfc 3 (.t 5),none⟩,⟨some 2,.mv (.t 6),none⟩] [2] [] [[0],[3],[4],[5]])
 .ret)),
 [.t 2]⟩

def l_errors_New:Lay:={ rg:=[(0,([0],[])),(1,([2],[]))],dd:=[(1,[[0],[3],[4],[5]])] }

end Wax


namespace Wax
open Go (IntKind)

def c_impl_MLookup:SFn:=⟨2,
 (.seq
 (.region [⟨some 3,.boxF (.t 1),none⟩,⟨some 4,.alloc [(.str []),(.str []),(.int .i64 0),(.str []),(.int .i64 0),(.bool false),.nilS,(.int .i64 0),.nilS,.nilS,(.str [])],none⟩,⟨some 5,.mv (.k (.int .i64 0)),none⟩] [0,3,4] [] [[1]])
 (.seq
 (.region [⟨some 9,.mv (.t 0),none⟩,⟨some 10,.mkFn 146 [(.t 3)],none⟩,⟨some 11,.agg [.nilF] [(0,1,(.t 10))],none⟩,⟨some 12,.box (.t 11),none⟩,⟨some 13,.callS 145 [(.t 9),(.t 12)],none⟩,⟨some 8,.mv (.t 13),none⟩,⟨some 14,.extr (.t 8) 0,none⟩,⟨some 15,.extr (.t 8) 1,none⟩,⟨some 6,.mv (.t 14),none⟩,⟨some 7,.mv (.t 15),none⟩] [4,6,7] [] [[0],[3],[10],[11],[9,12],[13],[],[8],[14]])
 (.seq
 (.block 0
 (.seq
 (.region [⟨some 17,.mv (.t 7),none⟩,⟨some 18,.isNil 0 false (.t 17),none⟩,⟨some 16,.mv (.t 18),none⟩] [4,6,7,16] [] [[],[17]])
 (.cond (.t 16)
 (.seq
 (.region [⟨some 19,.mv (.t 6),none⟩,⟨some 20,.call 143 [(.t 19)],none⟩,
 ⟨none,.store 11 (.t 4) (.t 20),none⟩,⟨some 5,.mv (.k (.int .i64 0)),none⟩] [4,5] [12,13,100013] [[6],[19],[20]])
 .ret)
 (.seq
 (.region [⟨some 22,.mv (.t 7),none⟩,⟨some 23,.load none (.k (.ptr [.ifc 3 (.gp 2)])),none⟩,⟨some 24,.eqI [3] gcA false (.t 22) (.t 23),none⟩,⟨some 21,.mv (.t 24),none⟩] [4,7,21] [] [[],[],[22,23]])
 (.cond (.t 21)
 (.seq
 (.region [⟨some 25,.agg [(.str []),(.str []),(.int .i64 0),(.str []),(.int .i64 0),(.bool false),.nilS,(.int .i64 0),.nilS,.nilS,(.str [])] [],none⟩,
 ⟨none,.store 11 (.t 4) (.t 25),none⟩,⟨some 5,.mv (.k (.int .i64 1)),none⟩] [4,5] [12,13,100013] [[],[25]])
 .ret)
 (.seq
 (.region [⟨some 27,.mv (.t 7),none⟩,⟨some 28,.call 147 [(.t 27)],none⟩,⟨some 26,.mv (.t 28),none⟩] [4,26] [12,13,100013] [[7],[27]])
 (.cond (.t 26)
 (.seq
 (.region [⟨some 29,.agg [(.str []),(.str []),(.int .i64 0),(.str []),(.int .i64 0),(.bool false),.nilS,(.int .i64 0),.nilS,.nilS,(.str [])] [],none⟩,
 ⟨none,.store 11 (.t 4) (.t 29),none⟩,⟨some 5,.mv (.k (.int .i64 2)),none⟩] [4,5] [] [[],[29]])
 .ret)
 .skip)))))))
 (.seq
 (.region [⟨some 30,.agg [(.str []),(.str []),(.int .i64 0),(.str []),(.int .i64 0),(.bool false),.nilS,(.int .i64 0),.nilS,.nilS,(.str [])] [],none⟩,
 ⟨none,.store 11 (.t 4) (.t 30),none⟩,⟨some 5,.mv (.k (.int .i64 3)),none⟩] [4,5] [] [[],[30]])
 .ret)))),
 [.c (some 11) 4,.t 5]⟩

def l_impl_MLookup:Lay:={ rg:=[(0,([0,3,4],[])),(1,([4,6,7],[])),(2,([4,6,7,16],[])),(3,([4,5],[12,13,100013])),(4,([4,7,21],[])),(5,([4,5],[12,13,100013])),(6,([4,26],[12,13,100013])),(7,([4,5],[])),(8,([4,5],[]))],dd:=[(0,[[1]]),(1,[[0],[3],[10],[11],[9,12],[13],[],[8],[14]]),(2,[[],[17]]),(3,[[6],[19],[20]]),(4,[[],[],[22,23]]),(5,[[],[25]]),(6,[[7],[27]]),(7,[[],[29]]),(8,[[],[30]])],sf:=[145],fz:=[3] }

def b_impl_MLookup_1_1:SCode :=
 (.seq
 (.region [⟨some 10,.bin .lss (.t 9) (.t 8),none⟩] [0,7,8,9,10] [] [])
 (.seq
 (.cond (.t 10)
 .skip
 (.exit 0))
 (.seq
 (.block 1
 (.seq
 (.region [⟨some 11,.iAddr 3 (.t 7) (.t 9),none⟩,⟨some 12,.load (some 3) (.t 11),none⟩,⟨some 6,.alloc [(.str []),.nilS,(.int .i64 0)],none⟩,
 ⟨none,.store 3 (.t 6) (.t 12),none⟩] [0,6,7,8,9] [] [[],[11]])
 (.seq
 (.region [⟨some 13,.fAddr 0 (.t 6),none⟩,⟨some 14,.load none (.t 13),none⟩,⟨some 15,.mv (.t 0),none⟩,⟨some 16,.bin .eql (.t 14) (.t 15),none⟩] [0,6,7,8,9,16] [] [[],[13]])
 (.cond (.t 16)
 (.seq
 (.seq
 (.region [⟨some 17,.fAddr 2 (.t 6),none⟩,⟨some 18,.load none (.t 17),none⟩,⟨some 19,.bin .neq (.t 18) (.k (.int .i64 0)),none⟩] [6,19] [] [[],[17]])
 (.cond (.t 19)
 (.seq
 (.region [⟨some 20,.fAddr 2 (.t 6),none⟩,⟨some 21,.load none (.t 20),none⟩,⟨some 22,.mkIfc 16 (.t 21),none⟩,⟨some 3,.mv (.k .nilS),none⟩,⟨some 4,.mv (.t 22),none⟩] [3,4] [6] [])
 .ret)
 .skip))
 (.seq
 (.region [⟨some 23,.fAddr 1 (.t 6),none⟩,⟨some 24,.load none (.t 23),none⟩,⟨some 3,.mv (.t 24),none⟩,⟨some 4,.mv (.k .nilI),none⟩] [3,4] [6] [[6],[23],[24]])
 .ret))
 .skip))))
 (.region [⟨some 25,.bin .add (.t 9) (.k (.int .i64 1)),none⟩,⟨some 9,.mv (.t 25),none⟩] [0,7,8,9] [6] []))))

def t_impl_MLookup_1_2:SCode :=
 (.seq
 (.region [⟨some 26,.mkIfc 16 (.k (.int .i64 2)),none⟩,⟨some 3,.mv (.k .nilS),none⟩,⟨some 4,.mv (.t 26),none⟩] [3,4] [] [])
 .ret)

def c_impl_MLookup_1:SFn:=⟨2,
 (.seq
 (.region [⟨some 3,.mv (.k .nilS),none⟩,⟨some 4,.mv (.k .nilI),none⟩] [0,1] [] [[3]])
 (.seq
 (.seq
 (.region [⟨some 7,.load none (.t 1),none⟩,⟨some 8,.len 1 (.t 7),none⟩,⟨some 9,.mv (.k (.int .i64 0)),none⟩] [0,7,8,9] [] [[1]])
 (.block 0
 (.loop [0,7,8,9]
 b_impl_MLookup_1_1)))
 t_impl_MLookup_1_2)),
 [.t 3,.t 4]⟩

def l_impl_MLookup_1:Lay:={ rg:=[(0,([0,1],[])),(1,([0,7,8,9],[])),(2,([0,7,8,9,10],[])),(3,([0,6,7,8,9],[])),(4,([0,6,7,8,9,16],[])),(5,([6,19],[])),(6,([3,4],[6])),(7,([3,4],[6])),(8,([0,7,8,9],[6])),(9,([3,4],[])),(1000002,([0,7,8,9],[]))],dd:=[(0,[[3]]),(1,[[1]]),(3,[[],[11]]),(4,[[],[13]]),(5,[[],[17]]),(7,[[6],[23],[24]])] }

def b_dmarc_LookupWithOptions_1:SCode :=
 (.seq
 (.region [⟨some 60,.bin .lss (.t 59) (.t 58),none⟩] [57,58,59,60] [] [])
 (.seq
 (.cond (.t 60)
 .skip
 (.exit 0))
 (.seq
 (.block 1
 (.seq
 (.region [⟨some 61,.iAddr 1 (.t 57) (.t 59),none⟩,⟨some 62,.load none (.t 61),none⟩,⟨some 13,.mv (.t 62),none⟩] [13,57,58,59] [] [[],[61]])
 (.seq
 (.seq
 (.region [⟨some 63,.mv (.t 13),none⟩,⟨some 64,.call 158 [(.t 63),(.k (.str [118,61]))],none⟩,⟨some 65,.un .not (.t 64),none⟩] [13,57,58,59,65] [] [[],[63]])
 (.cond (.t 65)
 (.exit 1)
 .skip))
 (.seq
 (.region [⟨some 67,.mv (.t 13),none⟩,⟨some 68,.call 142 [(.t 67)],none⟩,⟨some 66,.mv (.t 68),none⟩,⟨some 69,.extr (.t 66) 0,none⟩,⟨some 70,.extr (.t 66) 1,none⟩,⟨some 14,.mv (.t 69),none⟩,⟨some 15,.mv (.t 70),none⟩] [14,15,57,58,59] [] [[13],[67],[68],[],[66],[69]])
 (.seq
 (.seq
 (.region [⟨some 71,.mv (.t 15),none⟩,⟨some 72,.load none (.k (.ptr [.ifc 3 (.gp 1)])),none⟩,⟨some 73,.eqI [3] gcA false (.t 71) (.t 72),none⟩] [14,15,57,58,59,73] [] [])
 (.cond (.t 73)
 (.exit 1)
 .skip))
 (.seq
 (.region [⟨some 74,.mv (.t 14),none⟩,⟨some 75,.mv (.t 15),none⟩,⟨some 4,.mv (.t 74),none⟩,⟨some 5,.mv (.t 75),none⟩] [4,5] [] [[14],[15],[74]])
 .ret))))))
 (.region [⟨some 76,.bin .add (.t 59) (.k (.int .i64 1)),none⟩,⟨some 59,.mv (.t 76),none⟩] [57,58,59] [] []))))

def t_dmarc_LookupWithOptions_2:SCode :=
 (.seq
 (.region [⟨some 77,.load none (.k (.ptr [.ifc 3 (.gp 2)])),none⟩,⟨some 4,.mv (.k .nilP),none⟩,⟨some 5,.mv (.t 77),none⟩] [4,5] [] [])
 .ret)

def c_dmarc_LookupWithOptions:SFn:=⟨2,
 (.seq
 (.region [⟨some 4,.mv (.k .nilP),none⟩,⟨some 5,.mv (.k .nilI),none⟩] [0,1] [] [[4]])
 (.seq
 (.region [⟨some 6,.mv (.k .nilS),none⟩] [0,1] [] [])
 (.seq
 (.region [⟨some 7,.mv (.k .nilI),none⟩] [0,1] [] [])
 (.seq
 (.region [⟨some 17,.mv (.t 1),none⟩,⟨some 18,.chk (.t 17),none⟩,⟨some 19,.fAddr 0 (.t 18),none⟩,⟨some 20,.load none (.t 19),none⟩,⟨some 21,.mv (.t 0),none⟩,⟨some 22,.bin .add (.k (.str [95,100,109,97,114,99,46])) (.t 21),none⟩,⟨some 23,.callV (.t 20) [(.t 22)],none⟩,⟨some 16,.mv (.t 23),none⟩,⟨some 24,.extr (.t 16) 0,none⟩,⟨some 25,.extr (.t 16) 1,none⟩,⟨some 6,.mv (.t 24),none⟩,⟨some 7,.mv (.t 25),none⟩] [6,7] [] [[1],[17],[18],[19],[0],[21],[20,22],[23],[],[16],[24]])
 (.seq
 (.seq
 (.region [⟨some 27,.mv (.t 7),none⟩,⟨some 28,.assertI [(3,false),(17,false),(16,true)] (.t 27),none⟩,⟨some 26,.mv (.t 28),none⟩,⟨some 29,.extr (.t 26) 0,none⟩,⟨some 30,.extr (.t 26) 1,none⟩,⟨some 8,.mv (.t 29),none⟩,⟨some 9,.mv (.t 30),none⟩] [6,7,8,9] [] [[],[27],[28],[],[26],[29]])
 (.seq
 (.region [⟨some 31,.mv (.t 9),none⟩,⟨some 32,.mv (.t 31),none⟩,⟨some 33,.mv (.t 8),some (32,true)⟩,⟨some 34,.inv (.t 33) "Temporary" [],some (32,true)⟩,⟨some 35,.pick (.t 32) (.t 34) (.k (.bool false)),none⟩] [6,7,35] [] [[9],[31],[8],[33]])
 (.cond (.t 35)
 (.seq
 (.region [⟨some 36,.mv (.t 7),none⟩,⟨some 37,.inv (.t 36) "Error" [],none⟩,⟨some 38,.bin .add (.k (.str [84,88,84,32,114,101,99,111,114,100,32,117,110,97,118,97,105,108,97,98,108,101,58,32])) (.t 37),none⟩,⟨some 39,.mkIfc 17 (.t 38),none⟩,⟨some 4,.mv (.k .nilP),none⟩,⟨some 5,.mv (.t 39),none⟩] [4,5] [] [[7],[36],[37],[38]])
 .ret)
 (.seq
 (.region [⟨some 40,.mv (.t 7),none⟩,⟨some 41,.isNil 0 true (.t 40),none⟩] [6,7,41] [] [])
 (.cond (.t 41)
 (.seq
 (.seq
 (.region [⟨some 43,.mv (.t 7),none⟩,⟨some 44,.assertI [(3,false),(17,false),(16,true)] (.t 43),none⟩,⟨some 42,.mv (.t 44),none⟩,⟨some 45,.extr (.t 42) 0,none⟩,⟨some 46,.extr (.t 42) 1,none⟩,⟨some 10,.mv (.t 45),none⟩,⟨some 11,.mv (.t 46),none⟩] [7,10,11] [] [[],[43],[44],[],[42],[45]])
 (.seq
 (.region [⟨some 47,.mv (.t 11),none⟩,⟨some 48,.mv (.t 47),none⟩,⟨some 49,.mv (.t 10),some (48,true)⟩,⟨some 50,.inv (.t 49) "NotFound" [],some (48,true)⟩,⟨some 51,.pick (.t 48) (.t 50) (.k (.bool false)),none⟩] [7,51] [] [[11],[47],[10],[49]])
 (.cond (.t 51)
 (.seq
 (.region [⟨some 52,.load none (.k (.ptr [.ifc 3 (.gp 2)])),none⟩,⟨some 4,.mv (.k .nilP),none⟩,⟨some 5,.mv (.t 52),none⟩] [4,5] [] [])
 .ret)
 .skip)))
 (.seq
 (.region [⟨some 53,.mv (.t 7),none⟩,⟨some 54,.inv (.t 53) "Error" [],none⟩,⟨some 55,.bin .add (.k (.str [100,109,97,114,99,58,32,102,97,105,108,101,100,32,116,111,32,108,111,111,107,117,112,32,84,88,84,32,114,101,99,111,114,100,58,32])) (.t 54),none⟩,⟨some 56,.call 50 [(.t 55)],none⟩,⟨some 4,.mv (.k .nilP),none⟩,⟨some 5,.mv (.t 56),none⟩] [4,5] [] [[7],[53],[54],[55]])
 .ret))
 .skip)))))
 (.seq
 (.seq
 (.region [⟨some 57,.mv (.t 6),none⟩,⟨some 58,.len 1 (.t 57),none⟩,⟨some 59,.mv (.k (.int .i64 0)),none⟩] [57,58,59] [] [[6]])
 (.block 0
 (.loop [57,58,59]
 b_dmarc_LookupWithOptions_1)))
 t_dmarc_LookupWithOptions_2)))))),
 [.t 4,.t 5]⟩

def l_dmarc_LookupWithOptions:Lay:={ rg:=[(0,([0,1],[])),(1,([0,1],[])),(2,([0,1],[])),(3,([6,7],[])),(4,([6,7,8,9],[])),(5,([6,7,35],[])),(6,([4,5],[])),(7,([6,7,41],[])),(8,([7,10,11],[])),(9,([7,51],[])),(10,([4,5],[])),(11,([4,5],[])),(12,([57,58,59],[])),(13,([57,58,59,60],[])),(14,([13,57,58,59],[])),(15,([13,57,58,59,65],[])),(16,([14,15,57,58,59],[])),(17,([14,15,57,58,59,73],[])),(18,([4,5],[])),(19,([57,58,59],[])),(20,([4,5],[])),(1000013,([57,58,59],[]))],dd:=[(0,[[4]]),(3,[[1],[17],[18],[19],[0],[21],[20,22],[23],[],[16],[24]]),(4,[[],[27],[28],[],[26],[29]]),(5,[[9],[31],[8],[33]]),(6,[[7],[36],[37],[38]]),(8,[[],[43],[44],[],[42],[45]]),(9,[[11],[47],[10],[49]]),(11,[[7],[53],[54],[55]]),(12,[[6]]),(14,[[],[61]]),(15,[[],[63]]),(16,[[13],[67],[68],[],[66],[69]]),(18,[[14],[15],[74]])] }

def c_dmarc_IsTempFail:SFn:=⟨1,
 (.seq
 (.region [⟨some 2,.mv (.k (.bool false)),none⟩] [0] [] [])
 (.seq
 (.region [⟨some 6,.mv (.t 0),none⟩,⟨some 7,.assert 17 (.str []) true (.t 6),none⟩,⟨some 5,.mv (.t 7),none⟩,⟨some 8,.extr (.t 5) 0,none⟩,⟨some 9,.extr (.t 5) 1,none⟩,⟨some 3,.mv (.t 8),none⟩,⟨some 4,.mv (.t 9),none⟩] [4] [] [[0],[6],[7],[],[5],[3,8]])
 (.seq
 (.region [⟨some 10,.mv (.t 4),none⟩,⟨some 2,.mv (.t 10),none⟩] [2] [] [[4]])
 .ret))),
 [.t 2]⟩

def l_dmarc_IsTempFail:Lay:={ rg:=[(0,([0],[])),(1,([4],[])),(2,([2],[]))],dd:=[(1,[[0],[6],[7],[],[5],[3,8]]),(2,[[4]])] }

end Wax


namespace Wax
open Go (IntKind)

def c_stringslite_HasPrefix:SFn:=⟨2,
 (.seq
 (.region [⟨some 4,.mv (.k (.bool false)),none⟩] [0,1] [] [])
 (.seq
 (.region [⟨some 5,.mv (.t 0),none⟩,⟨some 6,.len 0 (.t 5),none⟩,⟨some 7,.mv (.t 1),none⟩,⟨some 8,.len 0 (.t 7),none⟩,⟨some 9,.bin .geq (.t 6) (.t 8),none⟩,⟨some 10,.mv (.t 9),none⟩,⟨some 11,.mv (.t 0),some (10,true)⟩,⟨some 12,.mv (.t 1),some (10,true)⟩,⟨some 13,.len 0 (.t 12),some (10,true)⟩,⟨some 14,.slStr (.t 11) none (some (.t 13)),some (10,true)⟩,⟨some 15,.mv (.t 1),some (10,true)⟩,⟨some 16,.bin .eql (.t 14) (.t 15),some (10,true)⟩,⟨some 17,.pick (.t 10) (.t 16) (.k (.bool false)),none⟩,⟨some 4,.mv (.t 17),none⟩] [4] [] [[],[5],[],[7],[6,8],[9],[0],[],[12],[11,13],[1],[14,15],[10,16]])
 .ret)),
 [.t 4]⟩

def l_stringslite_HasPrefix:Lay:={ rg:=[(0,([0,1],[])),(1,([4],[]))],dd:=[(1,[[],[5],[],[7],[6,8],[9],[0],[],[12],[11,13],[1],[14,15],[10,16]])] }

def c_strings_HasPrefix:SFn:=⟨2,
 (.seq
 (.region [⟨some 4,.mv (.k (.bool false)),none⟩] [0,1] [] [])
 (.seq
 (.region [⟨some 5,.mv (.t 0),none⟩,⟨some 6,.mv (.t 1),none⟩,⟨some 7,.call 198 [(.t 5),(.t 6)],none⟩,⟨some 4,.mv (.t 7),none⟩] [4] [] [[0],[1],[5,6]])
 .ret)),
 [.t 4]⟩

def l_strings_HasPrefix:Lay:={ rg:=[(0,([0,1],[])),(1,([4],[]))],dd:=[(1,[[0],[1],[5,6]])] }

end Wax


namespace Wax
open Go (IntKind)

def b_laws_FnDmarcLookup_1:SCode :=
 (.seq
 (.region [⟨some 52,.bin .lss (.t 51) (.t 50),none⟩] [0,1,2,3,49,50,51,52] [] [])
 (.seq
 (.cond (.t 52)
 .skip
 (.exit 0))
 (.seq
 (.block 1
 (.seq
 (.region [⟨some 53,.iAddr 3 (.t 49) (.t 51),none⟩,⟨some 54,.load (some 3) (.t 53),none⟩,⟨some 10,.alloc [(.str []),.nilS,(.int .i64 0)],none⟩,
 ⟨none,.store 3 (.t 10) (.t 54),none⟩] [0,1,2,3,10,49,50,51] [] [[],[53]])
 (.seq
 (.region [⟨some 55,.fAddr 0 (.t 10),none⟩,⟨some 56,.load none (.t 55),none⟩,⟨some 57,.len 0 (.t 56),none⟩,⟨some 58,.bin .gtr (.t 57) (.k (.int .i64 200)),none⟩,⟨some 59,.mv (.t 58),none⟩,⟨some 60,.fAddr 0 (.t 10),some (59,false)⟩,⟨some 61,.load none (.t 60),some (59,false)⟩,⟨some 62,.call 112 [(.t 61)],some (59,false)⟩,⟨some 63,.mv (.t 0),some (59,false)⟩,⟨some 64,.bin .add (.k (.str [95,100,109,97,114,99,46])) (.t 63),some (59,false)⟩,⟨some 65,.call 112 [(.t 64)],some (59,false)⟩,⟨some 66,.bin .eql (.t 62) (.t 65),some (59,false)⟩,⟨some 67,.pick (.t 59) (.k (.bool true)) (.t 66),none⟩,⟨some 68,.mv (.t 67),none⟩,⟨some 69,.fAddr 1 (.t 10),some (68,false)⟩,⟨some 70,.load none (.t 69),some (68,false)⟩,⟨some 71,.len 1 (.t 70),some (68,false)⟩,⟨some 72,.bin .gtr (.t 71) (.k (.int .i64 3)),some (68,false)⟩,⟨some 73,.pick (.t 68) (.k (.bool true)) (.t 72),none⟩] [0,1,2,3,49,50,51,73] [10] [[],[55],[56],[57],[58],[],[60],[61],[],[63],[64],[62,65],[59,66],[67],[10],[69],[70],[71]])
 (.cond (.t 73)
 (.seq
 (.region [⟨some 8,.mv (.k (.bool true)),none⟩] [8] [] [])
 .ret)
 .skip))))
 (.region [⟨some 74,.bin .add (.t 51) (.k (.int .i64 1)),none⟩,⟨some 51,.mv (.t 74),none⟩] [0,1,2,3,49,50,51] [] []))))

def t_laws_FnDmarcLookup_2:SCode :=
 (.seq
 (.seq
 (.region [⟨some 75,.mv (.t 0),none⟩,⟨some 76,.bin .add (.k (.str [95,100,109,97,114,99,46])) (.t 75),none⟩,⟨some 77,.mv (.t 1),none⟩,⟨some 78,.call 134 [(.t 77),(.k .nilS),(.k (.bool false))],none⟩,⟨some 79,.mkSlF 1 1 [(.str [])] [(0,(.t 78))],none⟩,⟨some 80,.mv (.t 2),none⟩,⟨some 81,.bin .rem (.t 80) (.k (.int .u8 4)),none⟩,⟨some 82,.cInt .i64 (.t 81),none⟩,⟨some 83,.agg [(.str []),.nilS,(.int .i64 0)] [(0,1,(.t 76)),(1,1,(.t 79)),(2,1,(.t 82))],none⟩,⟨some 11,.alloc [(.str []),.nilS,(.int .i64 0)],none⟩,
 ⟨none,.store 3 (.t 11) (.t 83),none⟩] [0,2,3,11] [] [[],[75],[1],[77],[78],[],[80],[81],[76,79,82]])
 (.ghost [.frz 11]))
 (.seq
 (.region [⟨some 85,.fl (.mv (.t 0)),none⟩,⟨some 86,.nw 12 (.mkSl 3 0 [(.str []),.nilS,(.int .i64 0)] []),none⟩,⟨some 87,.fl (.mv (.t 3)),none⟩,⟨some 88,.nw 12 (.app 3 48 (.t 86) (.t 87)),none⟩,⟨some 89,.fl (.load (some 3) (.t 11)),none⟩,⟨some 90,.fl (.mkSlF 3 1 [(.str []),.nilS,(.int .i64 0)] [(0,(.t 89))]),none⟩,⟨some 91,.nw 12 (.appF 3 48 (.t 88) (.t 90)),none⟩,⟨some 92,.fl (.call 140 [(.t 85),(.t 91)]),none⟩,⟨some 84,.fl (.mv (.t 92)),none⟩,⟨some 93,.fl (.extr (.t 84) 0),none⟩,⟨some 94,.fl (.extr (.t 84) 1),none⟩,⟨some 12,.allocE [(.str []),(.str []),(.int .i64 0),(.str []),(.int .i64 0),(.bool false),.nilS,(.int .i64 0),.nilS,.nilS,(.str [])],none⟩,
 ⟨none,.store 11 (.t 12) (.t 93),none⟩,⟨some 13,.mv (.t 94),none⟩] [0,2,3,11,12,13] [86,88] [])
 (.seq
 (.seq
 (.region [⟨some 96,.mv (.t 0),none⟩,⟨some 97,.mv (.t 3),none⟩,⟨some 98,.call 140 [(.t 96),(.t 97)],none⟩,⟨some 95,.mv (.t 98),none⟩,⟨some 99,.extr (.t 95) 0,none⟩,⟨some 100,.extr (.t 95) 1,none⟩,⟨some 14,.alloc [(.str []),(.str []),(.int .i64 0),(.str []),(.int .i64 0),(.bool false),.nilS,(.int .i64 0),.nilS,.nilS,(.str [])],none⟩,
 ⟨none,.store 11 (.t 14) (.t 99),none⟩,⟨some 15,.mv (.t 100),none⟩] [2,11,12,13,15] [14] [[0],[3],[96,97],[98],[],[95],[],[14,99]])
 (.seq
 (.region [⟨some 101,.mv (.t 15),none⟩,⟨some 102,.bin .neq (.t 101) (.k (.int .i64 1)),none⟩] [2,11,12,13,102] [] [[15]])
 (.cond (.t 102)
 (.seq
 (.region [⟨some 8,.mv (.k (.bool false)),none⟩] [8] [12] [])
 .ret)
 .skip)))
 (.seq
 (.seq
 (.region [⟨some 103,.mv (.t 2),none⟩,⟨some 104,.bin .rem (.t 103) (.k (.int .u8 4)),none⟩] [11,12,13,104] [] [[2]])
 (.block 2
 (.seq
 (.region [⟨some 106,.bin .eql (.t 104) (.k (.int .u8 0)),none⟩,⟨some 105,.mv (.t 106),none⟩] [11,12,13,104,105] [] [])
 (.cond (.t 105)
 (.seq
 (.region [⟨some 108,.fAddr 1 (.t 11),none⟩,⟨some 109,.load none (.t 108),none⟩,⟨some 110,.iAddr 1 (.t 109) (.k (.int .i64 0)),none⟩,⟨some 111,.load none (.t 110),none⟩,⟨some 112,.call 133 [(.t 111)],none⟩,⟨some 107,.mv (.t 112),none⟩,⟨some 113,.extr (.t 107) 0,none⟩,⟨some 114,.extr (.t 107) 1,none⟩,⟨some 16,.alloc [(.str []),(.str []),(.int .i64 0),(.str []),(.int .i64 0),(.bool false),.nilS,(.int .i64 0),.nilS,.nilS,(.str [])],none⟩,
 ⟨none,.store 11 (.t 16) (.t 113),none⟩,⟨some 17,.mv (.t 114),none⟩] [12,13,16,17] [] [[11],[108],[109],[110],[111],[112],[],[107],[],[113]])
 (.seq
 (.region [⟨some 115,.mv (.t 17),none⟩,⟨some 116,.mv (.t 115),none⟩,⟨some 117,.mv (.t 13),some (116,true)⟩,⟨some 118,.bin .eql (.t 117) (.k (.int .i64 0)),some (116,true)⟩,⟨some 119,.pick (.t 116) (.t 118) (.k (.bool false)),none⟩,⟨some 120,.mv (.t 119),none⟩,⟨some 121,.load (some 11) (.t 12),some (120,true)⟩,⟨some 122,.load (some 11) (.t 16),some (120,true)⟩,⟨some 123,.call 136 [(.t 121),(.t 122)],some (120,true)⟩,⟨some 124,.pick (.t 120) (.t 123) (.k (.bool false)),none⟩,⟨some 125,.mv (.t 124),none⟩,⟨some 126,.call 137 [],some (125,true)⟩,⟨some 127,.pick (.t 125) (.t 126) (.k (.bool false)),none⟩,⟨some 8,.mv (.t 127),none⟩] [8] [12,16] [[17],[115],[13],[117],[116,118],[119],[12],[16],[121,122],[120,123],[124],[],[125,126]])
 .ret))
 (.seq
 (.region [⟨some 129,.bin .eql (.t 104) (.k (.int .u8 1)),none⟩,⟨some 128,.mv (.t 129),none⟩] [13,104,128] [12] [])
 (.cond (.t 128)
 (.seq
 (.region [⟨some 130,.mv (.t 13),none⟩,⟨some 131,.bin .eql (.t 130) (.k (.int .i64 2)),none⟩,⟨some 132,.mv (.t 131),none⟩,⟨some 133,.call 137 [],some (132,true)⟩,⟨some 134,.pick (.t 132) (.t 133) (.k (.bool false)),none⟩,⟨some 8,.mv (.t 134),none⟩] [8] [] [[13],[130],[131],[],[132,133]])
 .ret)
 (.seq
 (.region [⟨some 136,.bin .eql (.t 104) (.k (.int .u8 2)),none⟩,⟨some 135,.mv (.t 136),none⟩] [13,135] [] [[104]])
 (.cond (.t 135)
 (.seq
 (.region [⟨some 137,.mv (.t 13),none⟩,⟨some 138,.bin .eql (.t 137) (.k (.int .i64 1)),none⟩,⟨some 139,.mv (.t 138),none⟩,⟨some 140,.call 137 [],some (139,true)⟩,⟨some 141,.pick (.t 139) (.t 140) (.k (.bool false)),none⟩,⟨some 8,.mv (.t 141),none⟩] [8] [] [[13],[137],[138],[],[139,140]])
 .ret)
 .skip))))))))
 (.seq
 (.region [⟨some 142,.mv (.t 13),none⟩,⟨some 143,.bin .eql (.t 142) (.k (.int .i64 3)),none⟩,⟨some 144,.mv (.t 143),none⟩,⟨some 145,.call 137 [],some (144,true)⟩,⟨some 146,.pick (.t 144) (.t 145) (.k (.bool false)),none⟩,⟨some 8,.mv (.t 146),none⟩] [8] [] [[13],[142],[143],[],[144,145]])
 .ret)))))

def c_laws_FnDmarcLookup:SFn:=⟨4,
 (.seq
 (.region [⟨some 8,.mv (.k (.bool false)),none⟩] [0,1,2,3] [] [])
 (.seq
 (.seq
 (.region [⟨some 18,.mv (.t 0),none⟩,⟨some 19,.len 0 (.t 18),none⟩,⟨some 20,.bin .gtr (.t 19) (.k (.int .i64 2147483647)),none⟩,⟨some 21,.mv (.t 20),none⟩,⟨some 22,.mv (.t 1),some (21,false)⟩,⟨some 23,.call 131 [(.t 22)],some (21,false)⟩,⟨some 24,.un .not (.t 23),some (21,false)⟩,⟨some 25,.pick (.t 21) (.k (.bool true)) (.t 24),none⟩,⟨some 26,.mv (.t 25),none⟩,⟨some 27,.mv (.t 3),some (26,false)⟩,⟨some 28,.call 141 [(.t 27)],some (26,false)⟩,⟨some 29,.un .not (.t 28),some (26,false)⟩,⟨some 30,.pick (.t 26) (.k (.bool true)) (.t 29),none⟩] [0,1,2,3,30] [] [[],[18],[19],[20],[],[22],[23],[21,24],[25],[],[27],[28]])
 (.cond (.t 30)
 (.seq
 (.region [⟨some 8,.mv (.k (.bool true)),none⟩] [8] [] [])
 .ret)
 .skip))
 (.seq
 (.seq
 (.region [⟨some 31,.mv (.t 0),none⟩,⟨some 32,.call 105 [(.t 31)],none⟩,⟨some 33,.un .not (.t 32),none⟩,⟨some 34,.mv (.t 33),none⟩,⟨some 35,.mv (.t 0),some (34,false)⟩,⟨some 36,.len 0 (.t 35),some (34,false)⟩,⟨some 37,.bin .gtr (.t 36) (.k (.int .i64 200)),some (34,false)⟩,⟨some 38,.pick (.t 34) (.k (.bool true)) (.t 37),none⟩,⟨some 39,.mv (.t 38),none⟩,⟨some 40,.mv (.t 1),some (39,false)⟩,⟨some 41,.call 132 [(.t 40)],some (39,false)⟩,⟨some 42,.un .not (.t 41),some (39,false)⟩,⟨some 43,.pick (.t 39) (.k (.bool true)) (.t 42),none⟩,⟨some 44,.mv (.t 43),none⟩,⟨some 45,.mv (.t 3),some (44,false)⟩,⟨some 46,.len 1 (.t 45),some (44,false)⟩,⟨some 47,.bin .gtr (.t 46) (.k (.int .i64 5)),some (44,false)⟩,⟨some 48,.pick (.t 44) (.k (.bool true)) (.t 47),none⟩] [0,1,2,3,48] [] [[],[31],[32],[33],[],[35],[36],[34,37],[38],[],[40],[41],[39,42],[43],[],[45],[46]])
 (.cond (.t 48)
 (.seq
 (.region [⟨some 8,.mv (.k (.bool true)),none⟩] [8] [] [])
 .ret)
 .skip))
 (.seq
 (.seq
 (.region [⟨some 49,.mv (.t 3),none⟩,⟨some 50,.len 1 (.t 49),none⟩,⟨some 51,.mv (.k (.int .i64 0)),none⟩] [0,1,2,3,49,50,51] [] [])
 (.block 0
 (.loop [0,1,2,3,49,50,51]
 b_laws_FnDmarcLookup_1)))
 t_laws_FnDmarcLookup_2)))),
 [.t 8]⟩

def l_laws_FnDmarcLookup:Lay:={ rg:=[(0,([0,1,2,3],[])),(1,([0,1,2,3,30],[])),(2,([8],[])),(3,([0,1,2,3,48],[])),(4,([8],[])),(5,([0,1,2,3,49,50,51],[])),(6,([0,1,2,3,49,50,51,52],[])),(7,([0,1,2,3,10,49,50,51],[])),(8,([0,1,2,3,49,50,51,73],[10])),(9,([8],[])),(10,([0,1,2,3,49,50,51],[])),(11,([0,2,3,11],[])),(12,([0,2,3,11,12,13],[86,88])),(13,([2,11,12,13,15],[14])),(14,([2,11,12,13,102],[])),(15,([8],[12])),(16,([11,12,13,104],[])),(17,([11,12,13,104,105],[])),(18,([12,13,16,17],[])),(19,([8],[12,16])),(20,([13,104,128],[12])),(21,([8],[])),(22,([13,135],[])),(23,([8],[])),(24,([8],[])),(1000006,([0,1,2,3,49,50,51],[]))],dd:=[(1,[[],[18],[19],[20],[],[22],[23],[21,24],[25],[],[27],[28]]),(3,[[],[31],[32],[33],[],[35],[36],[34,37],[38],[],[40],[41],[39,42],[43],[],[45],[46]]),(7,[[],[53]]),(8,[[],[55],[56],[57],[58],[],[60],[61],[],[63],[64],[62,65],[59,66],[67],[10],[69],[70],[71]]),(11,[[],[75],[1],[77],[78],[],[80],[81],[76,79,82]]),(13,[[0],[3],[96,97],[98],[],[95],[],[14,99]]),(14,[[15]]),(16,[[2]]),(18,[[11],[108],[109],[110],[111],[112],[],[107],[],[113]]),(19,[[17],[115],[13],[117],[116,118],[119],[12],[16],[121,122],[120,123],[124],[],[125,126]]),(21,[[13],[130],[131],[],[132,133]]),(22,[[104]]),(23,[[13],[137],[138],[],[139,140]]),(24,[[13],[142],[143],[],[144,145]])],gh:=[(11,[.frz 11])],fz:=[79,90,91],fl:=[84,85,87,89,90,92,93,94],nw:=[(86,12),(88,12),(91,12)],ae:=[12] }

def b_laws_zzFits15_1:SCode :=
 (.seq
 (.region [⟨some 11,.bin .lss (.t 10) (.t 9),none⟩] [8,9,10,11] [] [])
 (.seq
 (.cond (.t 11)
 .skip
 (.exit 0))
 (.seq
 (.block 1
 (.seq
 (.region [⟨some 12,.iAddr 3 (.t 8) (.t 10),none⟩,⟨some 13,.load (some 3) (.t 12),none⟩,⟨some 4,.alloc [(.str []),.nilS,(.int .i64 0)],none⟩,
 ⟨none,.store 3 (.t 4) (.t 13),none⟩] [4,8,9,10] [] [[],[12]])
 (.seq
 (.region [⟨some 14,.load (some 3) (.t 4),none⟩,⟨some 15,.call 148 [(.t 14)],none⟩,⟨some 16,.un .not (.t 15),none⟩] [8,9,10,16] [4] [[4],[14]])
 (.cond (.t 16)
 (.seq
 (.region [⟨some 2,.mv (.k (.bool false)),none⟩] [2] [] [])
 .ret)
 .skip))))
 (.region [⟨some 17,.bin .add (.t 10) (.k (.int .i64 1)),none⟩,⟨some 10,.mv (.t 17),none⟩] [8,9,10] [] []))))

def t_laws_zzFits15_2:SCode :=
 (.seq
 (.region [⟨some 2,.mv (.k (.bool true)),none⟩] [2] [] [])
 .ret)

def c_laws_zzFits15:SFn:=⟨1,
 (.seq
 (.region [⟨some 2,.mv (.k (.bool false)),none⟩] [0] [] [])
 (.seq
 (.seq
 (.region [⟨some 5,.mv (.t 0),none⟩,⟨some 6,.len 1 (.t 5),none⟩,⟨some 7,.bin .gtr (.t 6) (.k (.int .i64 2147483647)),none⟩] [0,7] [] [[],[5]])
 (.cond (.t 7)
 (.seq
 (.region [⟨some 2,.mv (.k (.bool false)),none⟩] [2] [] [])
 .ret)
 .skip))
 (.seq
 (.seq
 (.region [⟨some 8,.mv (.t 0),none⟩,⟨some 9,.len 1 (.t 8),none⟩,⟨some 10,.mv (.k (.int .i64 0)),none⟩] [8,9,10] [] [[0]])
 (.block 0
 (.loop [8,9,10]
 b_laws_zzFits15_1)))
 t_laws_zzFits15_2))),
 [.t 2]⟩

def l_laws_zzFits15:Lay:={ rg:=[(0,([0],[])),(1,([0,7],[])),(2,([2],[])),(3,([8,9,10],[])),(4,([8,9,10,11],[])),(5,([4,8,9,10],[])),(6,([8,9,10,16],[4])),(7,([2],[])),(8,([8,9,10],[])),(9,([2],[])),(1000004,([8,9,10],[]))],dd:=[(1,[[],[5]]),(3,[[0]]),(5,[[],[12]]),(6,[[4],[14]])] }

def c_laws_zzFits16:SFn:=⟨1,
 (.seq
 (.region [⟨some 1,.box (.t 0),none⟩,⟨some 2,.mv (.k (.bool false)),none⟩] [1] [] [[0]])
 (.seq
 (.seq
 (.region [⟨some 3,.fAddr 0 (.t 1),none⟩,⟨some 4,.load none (.t 3),none⟩,⟨some 5,.len 0 (.t 4),none⟩,⟨some 6,.bin .gtr (.t 5) (.k (.int .i64 2147483647)),none⟩] [1,6] [] [[],[3],[4]])
 (.cond (.t 6)
 (.seq
 (.region [⟨some 2,.mv (.k (.bool false)),none⟩] [2] [1] [])
 .ret)
 .skip))
 (.seq
 (.seq
 (.region [⟨some 7,.fAddr 1 (.t 1),none⟩,⟨some 8,.load none (.t 7),none⟩,⟨some 9,.call 32 [(.t 8)],none⟩,⟨some 10,.un .not (.t 9),none⟩] [10] [1] [[1],[7],[8]])
 (.cond (.t 10)
 (.seq
 (.region [⟨some 2,.mv (.k (.bool false)),none⟩] [2] [] [])
 .ret)
 .skip))
 (.seq
 (.region [⟨some 2,.mv (.k (.bool true)),none⟩] [2] [] [])
 .ret)))),
 [.t 2]⟩

def l_laws_zzFits16:Lay:={ rg:=[(0,([1],[])),(1,([1,6],[])),(2,([2],[1])),(3,([10],[1])),(4,([2],[])),(5,([2],[]))],dd:=[(0,[[0]]),(1,[[],[3],[4]]),(3,[[1],[7],[8]])] }

def c_impl_failed_Error:SFn:=⟨1,
 (.seq
 (.region [⟨some 2,.mv (.k (.str [])),none⟩] [] [] [])
 (.seq
 (.region [⟨some 2,.mv (.k (.str [108,111,111,107,117,112])),none⟩] [2] [] [])
 .ret)),
 [.t 2]⟩

def l_impl_failed_Error:Lay:={ rg:=[(0,([],[])),(1,([2],[]))] }

def c_impl_failed_Temporary:SFn:=⟨1,
 (.seq
 (.region [⟨some 2,.mv (.k (.bool false)),none⟩] [0] [] [])
 (.seq
 (.region [⟨some 3,.mv (.t 0),none⟩,⟨some 4,.bin .eql (.t 3) (.k (.int .i64 1)),none⟩,⟨some 2,.mv (.t 4),none⟩] [2] [] [[0],[3]])
 .ret)),
 [.t 2]⟩

def l_impl_failed_Temporary:Lay:={ rg:=[(0,([0],[])),(1,([2],[]))],dd:=[(1,[[0],[3]])] }

def c_impl_failed_NotFound:SFn:=⟨1,
 (.seq
 (.region [⟨some 2,.mv (.k (.bool false)),none⟩] [0] [] [])
 (.seq
 (.region [⟨some 3,.mv (.t 0),none⟩,⟨some 4,.bin .eql (.t 3) (.k (.int .i64 2)),none⟩,⟨some 2,.mv (.t 4),none⟩] [2] [] [[0],[3]])
 .ret)),
 [.t 2]⟩

def l_impl_failed_NotFound:Lay:={ rg:=[(0,([0],[])),(1,([2],[]))],dd:=[(1,[[0],[3]])] }

end Wax


namespace Wax
open Go Go.RowKit

def gam0 (ms:List (Nat × String × Nat)):Gam:=⟨fun _ _=>none,fun t name=>(ms.find? fun m=>m.1 == t && m.2.1 == name).map (·.2.2),fun _ _ _=>none⟩

def Gam.add (Γ:Gam) (g:Nat) (c:List AV→Option AV):Gam:=⟨fun h=>if h=g then c else Γ.fn h,Γ.mth,Γ.st⟩

def Gam.addS (Γ:Gam) (g:Nat) (c:List AV→List (Nat × AObj)→Option (AV × List (Nat × AObj))):Gam:=⟨Γ.fn,Γ.mth,fun h=>if h=g then c else Γ.st h⟩

@[simp] theorem add_fn_same {Γ:Gam} {g:Nat} {c:List AV→Option AV}:(Γ.add g c).fn g=c:=by simp [Gam.add]
theorem add_fn_other {Γ:Gam} {g h:Nat} {c:List AV→Option AV} (e:h ≠ g):(Γ.add g c).fn h=Γ.fn h:=by simp [Gam.add,e]
@[simp] theorem add_mth {Γ:Gam} {g:Nat} {c:List AV→Option AV}:(Γ.add g c).mth=Γ.mth:=rfl

@[simp] theorem add_st {Γ:Gam} {g:Nat} {c:List AV→Option AV}:(Γ.add g c).st=Γ.st:=rfl
@[simp] theorem addS_fn {Γ:Gam} {g:Nat} {c}:(Γ.addS g c).fn=Γ.fn:=rfl
@[simp] theorem addS_mth {Γ:Gam} {g:Nat} {c}:(Γ.addS g c).mth=Γ.mth:=rfl
@[simp] theorem addS_st_same {Γ:Gam} {g:Nat} {c}:(Γ.addS g c).st g=c:=by simp [Gam.addS]
theorem addS_st_other {Γ:Gam} {g h:Nat} {c} (e:h ≠ g):(Γ.addS g c).st h=Γ.st h:=by simp [Gam.addS,e]

def injB (l:List (Nat × Nat)):Bool:=l.all fun p=>l.all fun q=>p.2 != q.2 || p.1 == q.1

theorem lkN_mem:∀ {l:List (Nat × Nat)} {i v:Nat},lkN l i=some v→(i,v)∈l
  | (j,u)::r,i,v,h=>by
    simp only [lkN] at h
    split at h
    · rename_i e; simp at e h; subst e; subst h; simp
    · exact List.mem_cons_of_mem _ (lkN_mem h)

theorem injB_spec {l:List (Nat × Nat)} (h:injB l=true) {i j v:Nat} (hi:lkN l i=some v) (hj:lkN l j=some v):i=j:=by
  simp only [injB,List.all_eq_true] at h
  have:=h _ (lkN_mem hi) _ (lkN_mem hj)
  simpa using this

theorem tinj {T:Tab} (h:injB T.tys=true):TInj T:=fun _ _ _ ht hu=>injB_spec h ht hu

def mthB (P:Program) (t:TypeId) (name:String) (f:FuncId):Bool :=
  match P.info? t with
  | none=>false
  | some i=>match i.methods.find? (·.name == name) with
    | none=>false
    | some m=>m.path.size == 0 && (match m.func with
      | some (g,pr)=>g == f && (match P.underlying t with
        | some (.pointer _)=>pr
        | some _ => !pr
        | none=>false)
      | none=>false)

theorem mthB_spec {P:Program} {t:TypeId} {name:String} {f:FuncId} (h:mthB P t name f=true):MthOk P t name f:=by
  intro v w
  simp only [mthB] at h
  cases hi:P.info? t with
  | none=>simp [hi] at h
  | some i =>
    simp only [hi] at h
    cases hm:i.methods.find? (·.name == name) with
    | none=>simp [hm] at h
    | some m =>
      simp only [hm,Bool.and_eq_true,beq_iff_eq] at h
      obtain ⟨hp,h⟩:=h
      cases hf:m.func with
      | none=>simp [hf] at h
      | some gp =>
        obtain ⟨g,pr⟩:=gp
        simp only [hf,Bool.and_eq_true,beq_iff_eq] at h
        obtain ⟨rfl,h⟩:=h
        have hpl:m.path.toList=[]:=by
          have:m.path.toList.length=0:=by simpa using hp
          exact List.length_eq_zero_iff.1 this
        have hrec:∀ wr,(receiverAt t (.val v) pr wr).run P w=.ok v w:=by
          intro wr
          cases hu:P.underlying t with
          | none=>simp [hu] at h
          | some d =>
            simp only [hu] at h
            simp only [receiverAt,Sem.run_bind,rUnder hu,Result.andThen_ok]
            cases d <;> cases pr <;> simp at h <;> simp [Place.get]
        have e:P.types.size+Made.depth=(P.types.size+99)+1:=rfl
        rw [e]
        generalize P.types.size+99=fuel
        simp only [method,Sem.run_bind,rInfo hi,Result.andThen_ok,hm,hpl,follow,Sem.run_pure,hf,hrec]

theorem gam0_ok {P:Program} {T:Tab} {ms:List (Nat × String × Nat)} (h:∀ t g name q,lkN T.tys t=some g→(gam0 ms).mth g name=some q→∃ f,lkN T.fns f=some q∧MthOk P t name f):GamOk P T (gam0 ms) :=
  ⟨fun f g args r _ h=>by simp [gam0] at h,h,fun f g args hp q _ h=>by simp [gam0] at h⟩

def mthsB (P:Program) (T:Tab) (ms:List (Nat × String × Nat)):Bool :=
  T.tys.all fun tg=>ms.all fun m=>m.1 != tg.2 || T.fns.any fun fg=>fg.2 == m.2.2 && lkN T.fns fg.1 == some m.2.2 && mthB P tg.1 m.2.1 fg.1

theorem mthsB_spec {P:Program} {T:Tab} {ms:List (Nat × String × Nat)} (h:mthsB P T ms=true):GamOk P T (gam0 ms):=by
  refine gam0_ok ?_
  intro t g name q ht hm
  simp only [gam0,Option.map_eq_some_iff] at hm
  obtain ⟨m,hm,rfl⟩:=hm
  have h1:=List.mem_of_find?_eq_some hm
  have h2:=List.find?_some hm
  simp only [Bool.and_eq_true,beq_iff_eq] at h2
  simp only [mthsB,List.all_eq_true,List.any_eq_true] at h
  have h3:=h _ (lkN_mem ht) m h1
  simp only [Bool.or_eq_true,bne_iff_ne,ne_eq] at h3
  rcases h3 with h3 | h3
  · exact absurd h2.1 h3
  · simp only [List.any_eq_true,Bool.and_eq_true,beq_iff_eq] at h3
    obtain ⟨fg,_,⟨_,h5⟩,h6⟩:=h3
    exact ⟨fg.1,h5,by rw [← h2.2]; exact mthB_spec h6⟩

theorem GamOk.add {P:Program} {T:Tab} {Γ:Gam} (G:GamOk P T Γ) (hF:injB T.fns=true) {f g:Nat} (hf:lkN T.fns f=some g) (hb:hasBody P f=true) {c:List AV→Option AV} (h:∀ args r,c args=some r→OkCall P T f args r) :
    GamOk P T (Γ.add g c) where
  fn:=by
    intro f' g' args r hf' hc
    by_cases e:g'=g
    · subst e
      have:=injB_spec hF hf' hf; subst this
      rw [add_fn_same] at hc
      exact ⟨hb,h args r hc⟩
    · rw [add_fn_other e] at hc
      exact G.fn f' g' args r hf' hc
  mth:=G.mth
  st:=G.st

theorem GamOk.addS {P:Program} {T:Tab} {Γ:Gam} (G:GamOk P T Γ) (hF:injB T.fns=true) {f g:Nat} (hf:lkN T.fns f=some g) (hb:hasBody P f=true) {c:List AV→List (Nat × AObj)→Option (AV × List (Nat × AObj))} (h:∀ args hp q,c args hp=some q→OkS P T f args hp q.1 q.2) :
    GamOk P T (Γ.addS g c) where
  fn:=G.fn
  mth:=G.mth
  st:=by
    intro f' g' args hp q hf' hc
    by_cases e:g'=g
    · subst e
      have:=injB_spec hF hf' hf; subst this
      rw [addS_st_same] at hc
      exact ⟨hb,h args hp q hc⟩
    · rw [addS_st_other e] at hc
      exact G.st f' g' args hp q hf' hc

theorem GamOk.walk {P:Program} {T:Tab} {Γ:Gam} (G:GamOk P T Γ) (hT:injB T.tys=true) (hF:injB T.fns=true) {f g:Nat} (hf:lkN T.fns f=some g) (hb:hasBody P f=true) {L:Lay} {fn:Func} {sfn:SFn}
    (hfn:P.funcs[f]? = some fn) (hc:compFn P T L fn=some sfn) {c:List AV→Option AV} (h:∀ args r,c args=some r→runs Γ sfn args (fun v=>v=r)):GamOk P T (Γ.add g c) :=
  G.add hF hf hb fun args r hr=>fn_sound (tinj hT) G hfn hc (h args r hr)

theorem GamOk.walkS {P:Program} {T:Tab} {Γ:Gam} (G:GamOk P T Γ) (hT:injB T.tys=true) (hF:injB T.fns=true) {f g:Nat} (hf:lkN T.fns f=some g) (hb:hasBody P f=true) {L:Lay} {fn:Func} {sfn:SFn}
    (hfn:P.funcs[f]? = some fn) (hc:compFn P T L fn=some sfn) {c:List AV→List (Nat × AObj)→Option (AV × List (Nat × AObj))} (h:∀ args hp q,c args hp=some q→runsS Γ sfn args hp (fun v=>v=some q)):GamOk P T (Γ.addS g c) :=
  G.addS hF hf hb fun args hp q hr=>fnS_sound (tinj hT) G hfn hc (h args hp q hr)
end Wax


namespace Wax
open Go (IntKind)

section
theorem ite_some {α:Type} {p:Prop} [Decidable p] {a r:α} (h:(if p then some a else none)=some r):p∧a=r:=by
  by_cases e:p <;> simp [e] at h ⊢; exact h
@[simp] theorem bcA_nil:bcA []=[]:=rfl
@[simp] theorem bcA_cons {b:UInt8} {s:List UInt8}:bcA (b::s)=.int .u8 (b.toNat:Int)::bcA s:=rfl
@[simp] theorem bcA_app {s t:List UInt8}:bcA (s++t)=bcA s++bcA t:=by simp [bcA]
@[simp] theorem bcA_length {s:List UInt8}:(bcA s).length=s.length:=by simp [bcA]
@[simp] theorem bcA_get {s:List UInt8} {i:Nat}:(bcA s)[i]? = s[i]?.map fun b=>AV.int .u8 (b.toNat:Int):=by simp [bcA]
@[simp] theorem bcA_drop {s:List UInt8} {i:Nat}:(bcA s).drop i=bcA (s.drop i):=by simp [bcA,List.map_drop]
@[simp] theorem bcA_take {s:List UInt8} {i:Nat}:(bcA s).take i=bcA (s.take i):=by simp [bcA,List.map_take]
@[simp] theorem atoms_app {a b:List AV}:atoms (a++b)=(atoms a && atoms b):=by
  induction a with
  | nil=>simp
  | cons x r ih=>simp [ih,Bool.and_assoc]
@[simp] theorem atoms_bcA {s:List UInt8}:atoms (bcA s)=true:=by induction s <;> simp_all
@[simp] theorem killL_app {d:Nat} {a b:List AV}:killL d (a++b)=killL d a++killL d b:=by
  induction a with
  | nil=>simp
  | cons x r ih=>simp [ih]
@[simp] theorem killL_bcA {d:Nat} {s:List UInt8}:killL d (bcA s)=bcA s:=by induction s <;> simp_all
@[simp] theorem killL_length {d:Nat} {s:List AV}:(killL d s).length=s.length:=by induction s <;> simp_all
@[simp] theorem toBytes_bcA {s:List UInt8}:toBytes (bcA s)=some s:=by
  induction s with
  | nil=>rfl
  | cons b r ih=>simp [toBytes,ih]
@[simp] theorem loadC_drop {cs:List AV} {i:Nat}:loadC none (cs.drop i)=cs[i]?.bind fun c=>if atom c=true then some c else none:=by
  cases h:cs[i]? with
  | none =>
    have:cs.drop i=[]:=List.drop_eq_nil_of_le (by simpa using h)
    simp [this]
  | some c =>
    have hl:i < cs.length:=by
      rcases Nat.lt_or_ge i cs.length with h' | h'
      · exact h'
      · rw [List.getElem?_eq_none h'] at h; simp at h
    rw [List.drop_eq_getElem_cons hl]
    have:cs[i]=c:=by rw [List.getElem?_eq_getElem hl] at h; simpa using h
    simp [this]
@[simp] theorem spliceL_one {cs:List AV} {i:Nat} {x:AV}:spliceL cs i [x]=cs.set i x:=rfl
@[simp] theorem spliceL_nil {cs:List AV} {i:Nat}:spliceL cs i []=cs:=rfl
@[simp] theorem toBytes_nil:toBytes []=some []:=rfl
@[simp] theorem toBytes_byte {b:UInt8} {r:List AV}:toBytes (.int .u8 (b.toNat:Int)::r)=(toBytes r).map (b :: ·):=by
  simp [toBytes]
@[simp] theorem made_o2 {hp:List (Nat × AObj)} {d:Nat} {o:AObj} {v:AV}:made hp d o v=some (o2 hp d v o):=rfl
@[simp] theorem toNat_ofNat {n:Nat}:(n:Int).toNat=n:=by simp
end
end Wax


namespace Wax
open Go (IntKind)

def big:Nat:=4611686018427387904

def isWs (n:Int):Bool:=decide (n=32∨n=9∨n=13∨n=10)

def cutAt (c:Int):List UInt8→Option (List UInt8 × List UInt8)
  | []=>none
  | x::r=>if (x.toNat:Int)=c then some ([],r) else (cutAt c r).map fun p=>(x::p.1,p.2)

def noB (c:Int) (s:List UInt8):Prop:=∀ x∈s,(x.toNat:Int) ≠ c

theorem cutAt_app (c:Int):∀ (pre post:List UInt8),noB c pre→cutAt c (pre++post)=(cutAt c post).map fun p=>(pre++p.1,p.2)
  | [],post,_=>by simp
  | x::r,post,h=>by
    have h1:(x.toNat:Int) ≠ c:=h x (by simp)
    have h2:noB c r:=fun y hy=>h y (by simp [hy])
    simp only [List.cons_append,cutAt,if_neg h1,cutAt_app c r post h2,Option.map_map]
    rfl

def cutV (c:Int) (s:List UInt8):AV :=
  match cutAt c s with
  | some p=>.tup [.str p.1,.str p.2,.bool true]
  | none=>.tup [.str s,.str [],.bool false]

def plainB (b:UInt8):Bool:=decide ((b.toNat:Int) < 128∧(b.toNat:Int) ≠ 11∧(b.toNat:Int) ≠ 12)
theorem plainB_true {b:UInt8} (h:(b.toNat:Int) < 128∧¬ (b.toNat:Int)=11∧¬ (b.toNat:Int)=12):plainB b=true:=decide_eq_true h
def trimL (s:List UInt8):List UInt8:=s.dropWhile fun b=>isWs b.toNat
def trimR (s:List UInt8):List UInt8:=(s.reverse.dropWhile fun b=>isWs b.toNat).reverse
def trimS (s:List UInt8):List UInt8:=trimR (trimL s)

def lowB (b:UInt8):UInt8:=if 65≤b.toNat∧b.toNat≤90 then b+32 else b

theorem lowB_toNat (b:UInt8):((lowB b).toNat:Int)=if 65≤(b.toNat:Int)∧(b.toNat:Int)≤90 then (b.toNat:Int)+32 else (b.toNat:Int):=by
  unfold lowB
  by_cases h:65≤b.toNat∧b.toNat≤90
  · rw [if_pos h,if_pos (by omega),UInt8.toNat_add]
    have:(32:UInt8).toNat=32:=rfl
    rw [this]; omega
  · rw [if_neg h,if_neg (by omega)]

def lowS (s:List UInt8):List UInt8:=s.map lowB

@[simp] theorem lowS_length {s:List UInt8}:(lowS s).length=s.length:=by simp [lowS]
@[simp] theorem lowS_nil:lowS []=[]:=rfl
@[simp] theorem lowS_app {s t:List UInt8}:lowS (s++t)=lowS s++lowS t:=by simp [lowS]
@[simp] theorem lowS_cons {b:UInt8} {s:List UInt8}:lowS (b::s)=lowB b::lowS s:=rfl

end Wax


namespace Wax
open Go (IntKind)

def mid:Nat:=1099511627776

end Wax


namespace Wax
open Go (IntKind)

def strsA (l:List (List UInt8)):List AV:=l.map .str

def asStrs:List AV→Option (List (List UInt8))
  | []=>some []
  | .str s::r=>(asStrs r).map (s :: ·)
  | _::_=>none

theorem asStrs_spec:∀ {xs:List AV} {l:List (List UInt8)},asStrs xs=some l→xs=strsA l
  | [],l,h=>by simp [asStrs] at h; subst h; rfl
  | .str s::r,l,h=>by
    simp only [asStrs] at h
    cases hr:asStrs r with
    | none=>simp [hr] at h
    | some q=>simp [hr] at h; subst h; rw [asStrs_spec hr]; rfl
  | .junk::_,_,h=>by simp [asStrs] at h
  | .bool _::_,_,h=>by simp [asStrs] at h
  | .int _ _::_,_,h=>by simp [asStrs] at h
  | .nilI::_,_,h=>by simp [asStrs] at h
  | .nilP::_,_,h=>by simp [asStrs] at h
  | .nilF::_,_,h=>by simp [asStrs] at h
  | .nilM::_,_,h=>by simp [asStrs] at h
  | .nilS::_,_,h=>by simp [asStrs] at h
  | .sl _ _::_,_,h=>by simp [asStrs] at h
  | .ptr _::_,_,h=>by simp [asStrs] at h
  | .agg _::_,_,h=>by simp [asStrs] at h
  | .tup _::_,_,h=>by simp [asStrs] at h
  | .ifc _ _::_,_,h=>by simp [asStrs] at h
  | .fn _ _::_,_,h=>by simp [asStrs] at h
  | .mp _::_,_,h=>by simp [asStrs] at h
  | .ref _ _::_,_,h=>by simp [asStrs] at h
  | .msl _ _ _ _::_,_,h=>by simp [asStrs] at h
  | .mref _::_,_,h=>by simp [asStrs] at h

@[simp] theorem strsA_length {l:List (List UInt8)}:(strsA l).length=l.length:=by simp [strsA]
@[simp] theorem strsA_get {l:List (List UInt8)} {i:Nat}:(strsA l)[i]? = l[i]?.map .str:=by simp [strsA]
@[simp] theorem asStrs_strsA {l:List (List UInt8)}:asStrs (strsA l)=some l:=by induction l <;> simp_all [strsA,asStrs]

def slStrs:AV→Option (List (List UInt8))
  | .nilS=>some []
  | .sl es xs=>if es=1 then asStrs xs else none
  | _=>none

theorem trimL_length (s:List UInt8):(trimL s).length≤s.length:=by
  unfold trimL
  exact (List.dropWhile_sublist _).length_le
theorem trimR_length (s:List UInt8):(trimR s).length≤s.length:=by
  unfold trimR
  have:=(List.dropWhile_sublist (fun b:UInt8=>isWs b.toNat) (l:=s.reverse)).length_le
  simpa using this
theorem trimS_length (s:List UInt8):(trimS s).length≤s.length:=Nat.le_trans (trimR_length _) (trimL_length _)

end Wax


namespace Wax
open Go Go.RowKit

def badAt (x:Lib.NumEnd Int):Prop:=(∀ v,x ≠ .ok v)∧x ≠ .range
theorem badAt_eq {x y:Lib.NumEnd Int} (h:badAt x) (hy:badAt y:=by exact ⟨fun v h=>(by cases h),fun h=>(by cases h)⟩):x=y:=by
  cases x <;> cases y <;> first | rfl | exact absurd rfl (h.1 _) | exact absurd rfl h.2 | exact absurd rfl (hy.1 _) | exact absurd rfl hy.2

def AtoiSays (P:Program) (T:Tab) (f:FuncId):Prop :=
  ∃ (e5 tE:TypeId) (gS gR:Nat),lkN T.tys tE=some 4∧lkGl T.gl gS=some [.ifc 3 .junk]∧lkGl T.gl gR=some [.ifc 3 .junk] ∧
  (∀ (s:ByteArray) (_:s.size≤9223372036854775806) (v:Int) (_:Lib.atoiAll s.data.toList=.ok v) (w:World),
    Calls P f #[.string s] w fun e w'=>e=.returned (.tuple #[.int .i64 v,.nilIface])∧(w'=w∨∃ t,w'=Lib.bytesWorld w e5 t)) ∧
  (∀ (s:ByteArray) (_:s.size≤281474976710656) (_:badAt (Lib.atoiAll s.data.toList)) (ev:Value) (w:World) (_:w.cell? ⟨gS,0,none⟩=some ev) (_:ev=.nilIface∨∃ te pe,ev=.iface te pe),
    Calls P f #[.string s] w fun e w'=>∃ y,e=.returned (.tuple #[.int .i64 0,.iface tE y])∧Below w.heap.size w w') ∧
  (∀ (s:ByteArray) (_:s.size≤281474976710656) (_:Lib.atoiAll s.data.toList=.range) (ev:Value) (w:World) (_:w.cell? ⟨gR,0,none⟩=some ev) (_:ev=.nilIface∨∃ te pe,ev=.iface te pe),
    Calls P f #[.string s] w fun e w'=>∃ y,e=.returned (.tuple #[.int .i64 (Lib.atoiSat s.data.toList),.iface tE y])∧Below w.heap.size w w')

def atoiV (s:List UInt8):AV:=match Lib.atoiAll s with
  | .ok v=>.tup [.int .i64 v,.nilI]
  | .range=>.tup [.int .i64 (Lib.atoiSat s),.ifc 4 .junk]
  | _=>.tup [.int .i64 0,.ifc 4 .junk]

def con_Atoi:List AV→Option AV
  | [.str s]=>if s.length < mid then some (atoiV s) else none
  | _=>none

theorem globErr2 {T:Tab} {w:World} {F:Frz} {g:Nat} (hgl:GlobOk T w F) (hg:lkGl T.gl g=some [.ifc 3 .junk]):∃ ev,w.cell? ⟨g,0,none⟩=some ev∧(ev=.nilIface∨∃ te pe,ev=.iface te pe):=by
  have h:=(hgl.1 g _ hg).1
  simp only [RepAt,Rep,and_true] at h
  obtain ⟨_,x,hx,t,y,rfl,_⟩:=h
  exact ⟨_,hx,.inr ⟨t,y,rfl⟩⟩

theorem below_bytesW2 (w:World) (e:TypeId) (s:ByteArray):Below w.heap.size w (Lib.bytesWorld w e s) :=
  ⟨rfl,rfl,rfl,by rw [Lib.bytesWorld_size]; omega,fun j hj=>Lib.bytesWorld_at_old w e s j hj⟩

theorem ok_Atoi {P:Program} {T:Tab} {f:FuncId} (H:AtoiSays P T f):∀ args r,con_Atoi args=some r→OkCall P T f args r:=by
  intro args r h w F vs hF hgl hx
  obtain ⟨e5,tE,gS,gR,ht,hgS,hgR,H1,H2,H3⟩:=H
  simp only [con_Atoi] at h
  split at h <;> (try simp at h; done)
  rename_i s
  obtain ⟨hlen,rfl⟩:=ite_some h
  clear h
  simp only [mid] at hlen
  match vs,hx with
  | [v1],hx =>
    simp only [RepL,and_true,Rep] at hx
    subst hx
    have hsz:(⟨s.toArray⟩:ByteArray).size=s.length:=by show s.toArray.size=_; simp
    have he:Lib.atoiAll (⟨s.toArray⟩:ByteArray).data.toList=Lib.atoiAll s:=rfl
    have he2:Lib.atoiSat (⟨s.toArray⟩:ByteArray).data.toList=Lib.atoiSat s:=rfl
    have bad:∀ (n:Int) e w',(∃ y,e=Ending.returned (.tuple #[.int .i64 n,.iface tE y])∧Below w.heap.size w w')→∃ v,e=.returned v∧Below w.heap.size w w'∧Rep T w' (fun b=>F b∨(w.heap.size≤b∧b < w'.heap.size)) noRho (.tup [.int .i64 n,.ifc 4 .junk]) v:=by
      rintro n e w' ⟨y,rfl,hb⟩
      refine ⟨_,rfl,hb,_,rfl,?_⟩
      simp only [RepL,Rep,and_true,true_and]
      exact ⟨tE,y,rfl,ht⟩
    simp only [atoiV]
    cases hq:Lib.atoiAll s with
    | ok v =>
      refine (H1 _ (by omega) v (by rw [he,hq]) w).mono ?_
      rintro e w' ⟨rfl,hw⟩
      refine ⟨_,rfl,?_,?_⟩
      · rcases hw with rfl | ⟨t,rfl⟩
        · exact Below.refl _ _
        · exact below_bytesW2 _ _ _
      · exact ⟨_,rfl,by simp [RepL,Rep]⟩
    | range =>
      obtain ⟨ev,h1,h2⟩:=globErr2 hgl hgR
      exact (H3 _ (by omega) (by rw [he,hq]) ev w h1 h2).mono (bad _ · ·)
    | _ =>
      obtain ⟨ev,h1,h2⟩:=globErr2 hgl hgS
      exact (H2 _ (by omega) (by rw [he,hq]; exact ⟨fun v h=>(by cases h),fun h=>(by cases h)⟩) ev w h1 h2).mono (bad _ · ·)
end Wax


namespace Wax
open Go

section
variable {Γ:Gam}

def iterN (f:St→Option (AExit × St)) (live:List Nat):Nat→St→Option (AExit × St)
  | 0,_=>none
  | n+1,st=>match f st with
    | some (.normal,s)=>iterN f live n (norm live s)
    | r=>r

def exec (Γ:Gam) (N:Nat):SCode→St→Option (AExit × St)
  | .skip,st=>some (.normal,st)
  | .ghost g,st=>some (.normal,gsteps g st)
  | .region ops live drop dd,st=>match opsG Γ ops dd st with
    | some s=>some (.normal,dropS drop ⟨keep s.fr live,s.hp⟩)
    | none=>none
  | .seq a b,st=>match exec Γ N a st with
    | some (.normal,s)=>exec Γ N b s
    | r=>r
  | .cond c a b,st=>match ev st.fr c with
    | .bool true=>exec Γ N a st
    | .bool false=>exec Γ N b st
    | _=>none
  | .block id c,st=>match exec Γ N c st with
    | some (.exit i,s)=>if i=id then some (.normal,s) else some (.exit i,s)
    | r=>r
  | .loop live c,st=>iterN (exec Γ N c) live N (norm live st)
  | .exit id,st=>some (.exit id,st)
  | .ret,st=>some (.ret,st)
  | .bad,_=>none
  | .regM _ _ _ _ _ _,_=>none

theorem opsK_of_G:∀ (l:List SO) (dd:List (List Nat)) (st:St) (s:St) (K:St→Prop),opsG Γ l dd st=some s→K s→opsK Γ l dd st K:=by
  intro l
  induction l with
  | nil=>intro dd st s K h hk; simp [opsG] at h; subst h; exact hk
  | cons o r ih =>
    intro dd st s K h hk
    simp only [opsG] at h
    cases h1:opF Γ o st with
    | none=>simp [h1] at h
    | some s1 =>
      simp [h1] at h
      have step:∀ st,stepF Γ o st=some s1→stepK Γ o st (fun st'=>opsK Γ r (dTl dd) (rmS (dHd dd) st') K):=by
        intro st hs
        obtain ⟨dst,op,g⟩:=o
        have ih':=ih _ _ s K h hk
        cases op
        case nextS x =>
          simp only [stepF] at hs
          simp only [stepK]
          cases hx:ev st.fr x <;> simp only [hx] at hs ⊢ <;> try (simp at hs; done)
          rename_i id off
          cases off with
          | succ _=>simp at hs
          | zero =>
            simp only at hs ⊢
            cases ho:hlk st.hp id with
            | none=>simp [ho] at hs
            | some ob =>
              cases ob <;> simp only [ho] at hs ⊢ <;> try (simp at hs; done)
              split at hs
              · rename_i hp
                simp only [Option.some.injEq] at hs; subst hs
                exact ⟨fun _=>ih',fun hn=>absurd hp hn⟩
              · rename_i hp
                simp only [Option.some.injEq] at hs; subst hs
                exact ⟨fun hn=>absurd hn hp,fun _=>ih'⟩
        all_goals
          simp only [stepF] at hs
          simp only [stepK]
          split
          · rename_i out ho
            simp only [ho,Option.map_some,Option.some.injEq] at hs; subst hs
            exact ih'
          · rename_i ho
            simp [ho] at hs
      simp only [opF] at h1
      simp only [opsK]
      cases hg:o.guard with
      | none=>simp only [hg] at h1 ⊢; exact step st h1
      | some gw =>
        obtain ⟨g,want⟩:=gw
        simp only [hg] at h1 ⊢
        cases hl:lk st.fr g <;> simp only [hl] at h1 ⊢ <;> try (simp at h1; done)
        · rename_i b
          split at h1
          · rename_i hb
            exact ⟨fun _=>step _ h1,fun hn=>by subst hb; cases b <;> simp at hn⟩
          · rename_i hb
            simp only [Option.some.injEq] at h1; subst h1
            exact ⟨fun hn=>absurd hn hb,fun _=>ih _ _ s K h hk⟩
        · rename_i vs
          cases vs with
          | cons _ _=>simp at h1
          | nil=>simp only [Option.some.injEq] at h1; subst h1; exact ih _ _ s K h hk

theorem exec_awp (N:Nat):∀ (c:SCode) (st:St) (e:AExit) (s:St) (Q:APost),exec Γ N c st=some (e,s)→Q e s→awp Γ c Q st:=by
  intro c
  induction c with
  | skip=>intro st e s Q h hq; simp only [exec,Option.some.injEq,Prod.mk.injEq] at h; obtain ⟨rfl,rfl⟩:=h; exact hq
  | ghost g=>intro st e s Q h hq; simp only [exec,Option.some.injEq,Prod.mk.injEq] at h; obtain ⟨rfl,rfl⟩:=h; exact hq
  | region ops live drop dd =>
    intro st e s Q h hq
    simp only [exec] at h
    cases ho:opsG Γ ops dd st with
    | none=>simp [ho] at h
    | some s1 =>
      simp only [ho,Option.some.injEq,Prod.mk.injEq] at h
      obtain ⟨rfl,rfl⟩:=h
      exact opsK_of_G ops dd st s1 _ ho hq
  | regM dst x ops live drop dd=>intro st e s Q h hq; simp [exec] at h
  | seq a b iha ihb =>
    intro st e s Q h hq
    simp only [exec] at h
    simp only [awp]
    cases ha:exec Γ N a st with
    | none=>simp [ha] at h
    | some r =>
      obtain ⟨e1,s1⟩:=r
      cases e1 with
      | normal=>simp only [ha] at h; exact iha st _ _ _ ha (ihb s1 e s Q h hq)
      | exit i=>simp only [ha,Option.some.injEq,Prod.mk.injEq] at h; obtain ⟨rfl,rfl⟩:=h; exact iha st _ _ _ ha hq
      | ret=>simp only [ha,Option.some.injEq,Prod.mk.injEq] at h; obtain ⟨rfl,rfl⟩:=h; exact iha st _ _ _ ha hq
  | cond c a b iha ihb =>
    intro st e s Q h hq
    simp only [exec] at h
    simp only [awp]
    split at h
    · rename_i hc; simp only [hc]; exact ⟨fun _=>iha st e s Q h hq,fun h=>by simp at h⟩
    · rename_i hc; simp only [hc]; exact ⟨fun h=>by simp at h,fun _=>ihb st e s Q h hq⟩
    · simp at h
  | block id c ih =>
    intro st e s Q h hq
    simp only [exec] at h
    simp only [awp]
    cases hc:exec Γ N c st with
    | none=>simp [hc] at h
    | some r =>
      obtain ⟨e1,s1⟩:=r
      refine ih st e1 s1 _ hc ?_
      cases e1 with
      | normal=>simp only [hc,Option.some.injEq,Prod.mk.injEq] at h; obtain ⟨rfl,rfl⟩:=h; exact hq
      | ret=>simp only [hc,Option.some.injEq,Prod.mk.injEq] at h; obtain ⟨rfl,rfl⟩:=h; exact hq
      | exit i =>
        simp only [hc] at h
        simp only [blockQ]
        split at h
        · rename_i e'; simp only [Option.some.injEq,Prod.mk.injEq] at h; obtain ⟨rfl,rfl⟩:=h; rw [if_pos e']; exact hq
        · rename_i e'; simp only [Option.some.injEq,Prod.mk.injEq] at h; obtain ⟨rfl,rfl⟩:=h; rw [if_neg e']; exact hq
  | loop live c ih =>
    intro st e s Q h hq
    simp only [exec] at h
    simp only [awp]
    refine ⟨Nat,fun k st=>iterN (exec Γ N c) live k st=some (e,s),fun k=>k,N,h,?_⟩
    intro k st hk
    cases k with
    | zero=>simp [iterN] at hk
    | succ k =>
      simp only [iterN] at hk
      cases hc:exec Γ N c st with
      | none=>simp [hc] at hk
      | some r =>
        obtain ⟨e1,s1⟩:=r
        refine ih st e1 s1 _ hc ?_
        cases e1 with
        | normal=>simp only [hc] at hk; exact ⟨k,hk,Nat.lt_succ_self k⟩
        | ret=>simp only [hc,Option.some.injEq,Prod.mk.injEq] at hk; obtain ⟨rfl,rfl⟩:=hk; exact hq
        | exit i=>simp only [hc,Option.some.injEq,Prod.mk.injEq] at hk; obtain ⟨rfl,rfl⟩:=hk; exact hq
  | exit id=>intro st e s Q h hq; simp only [exec,Option.some.injEq,Prod.mk.injEq] at h; obtain ⟨rfl,rfl⟩:=h; exact hq
  | ret=>intro st e s Q h hq; simp only [exec,Option.some.injEq,Prod.mk.injEq] at h; obtain ⟨rfl,rfl⟩:=h; exact hq
  | bad=>intro st e s Q h hq; simp [exec] at h
end

def runF (Γ:Gam) (N:Nat) (fn:SFn) (args:List AV):Option AV :=
  if args.length=fn.np then
    match exec Γ N fn.body ⟨initF 0 args,[]⟩ with
    | some (.normal,s)=>if resOk s fn.res then some (export_ s.hp (retV s fn.res)) else none
    | some (.ret,s)=>if resOk s fn.res then some (export_ s.hp (retV s fn.res)) else none
    | _=>none
  else none

theorem runF_runs {Γ:Gam} {N:Nat} {fn:SFn} {args:List AV} {r:AV} (h:runF Γ N fn args=some r):runs Γ fn args (fun v=>v=r):=by
  simp only [runF] at h
  split at h
  · rename_i hn
    refine ⟨hn,?_⟩
    split at h
    · rename_i s hs
      split at h
      · rename_i hr
        simp only [Option.some.injEq] at h
        exact exec_awp N _ _ _ _ _ hs ⟨hr,h⟩
      · simp at h
    · rename_i s hs
      split at h
      · rename_i hr
        simp only [Option.some.injEq] at h
        exact exec_awp N _ _ _ _ _ hs ⟨hr,h⟩
      · simp at h
    · simp at h
  · simp at h

def runFS (Γ:Gam) (N:Nat) (fn:SFn) (args:List AV) (hp:List (Nat × AObj)):Option (AV × List (Nat × AObj)) :=
  if args.length=fn.np then
    match exec Γ N fn.body ⟨initF 0 (mapIdL up6 args),mapH up6 hp⟩ with
    | some (.normal,s)=>if resOk s fn.res then exportS hp.length s.hp (retV s fn.res) else none
    | some (.ret,s)=>if resOk s fn.res then exportS hp.length s.hp (retV s fn.res) else none
    | _=>none
  else none

theorem runFS_runs {Γ:Gam} {N:Nat} {fn:SFn} {args:List AV} {hp:List (Nat × AObj)} {q:AV × List (Nat × AObj)} (h:runFS Γ N fn args hp=some q):runsS Γ fn args hp (fun v=>v=some q):=by
  simp only [runFS] at h
  split at h
  · rename_i hn
    refine ⟨hn,?_⟩
    split at h
    · rename_i s hs
      split at h
      · rename_i hr; exact exec_awp N _ _ _ _ _ hs ⟨hr,h⟩
      · simp at h
    · rename_i s hs
      split at h
      · rename_i hr; exact exec_awp N _ _ _ _ _ hs ⟨hr,h⟩
      · simp at h
    · simp at h
  · simp at h

def lkF:List (Nat × SFn)→Nat→Option SFn
  | [],_=>none
  | (i,v)::r,j=>if i == j then some v else lkF r j

def gI (G0:Gam) (tb:List (Nat × SFn)) (N:Nat):Nat→Gam
  | 0=>G0
  | n+1=>⟨fun f args=>match lkF tb f with
      | some fn=>runF (gI G0 tb N n) N fn args
      | none=>G0.fn f args,G0.mth,fun f args hp=>match lkF tb f with
      | some fn=>runFS (gI G0 tb N n) N fn args hp
      | none=>G0.st f args hp⟩

inductive TbOk (P:Program) (T:Tab):List (Nat × SFn)→Prop where
  | nil:TbOk P T []
  | cons {f g:Nat} {fn:Func} {sfn:SFn} {L:Lay} {r:List (Nat × SFn)} (hf:lkN T.fns f=some g) (hb:hasBody P f=true) (hfn:P.funcs[f]? = some fn) (hc:compFn P T L fn=some sfn) (hr:TbOk P T r):TbOk P T ((g,sfn)::r)

theorem TbOk.get {P:Program} {T:Tab}:∀ {tb:List (Nat × SFn)},TbOk P T tb→∀ {g:Nat} {sfn:SFn},lkF tb g=some sfn→∃ f fn L,lkN T.fns f=some g∧hasBody P f=true∧P.funcs[f]? = some fn∧compFn P T L fn=some sfn
  | _,.nil,g,sfn,h=>by simp [lkF] at h
  | _,.cons (f:=f) (fn:=fn) (L:=L) hf hb hfn hc hr,g,sfn,h=>by
    simp only [lkF] at h
    split at h
    · rename_i e
      simp only [beq_iff_eq] at e
      simp only [Option.some.injEq] at h
      subst e; subst h
      exact ⟨f,fn,L,hf,hb,hfn,hc⟩
    · exact hr.get h

theorem gI_ok {P:Program} {T:Tab} {G0:Gam} (hG:GamOk P T G0) (hT:injB T.tys=true) (hF:injB T.fns=true) {tb:List (Nat × SFn)} (ht:TbOk P T tb) (N:Nat):∀ n,GamOk P T (gI G0 tb N n)
  | 0=>hG
  | n+1=>by
    have ih:=gI_ok hG hT hF ht N n
    refine ⟨?_,hG.mth,?_⟩
    · intro f g args r hf h
      simp only [gI] at h
      cases hl:lkF tb g with
      | none=>simp only [hl] at h; exact hG.fn f g args r hf h
      | some sfn =>
        simp only [hl] at h
        obtain ⟨f',fn,L,h1,h2,h3,h4⟩:=ht.get hl
        have:=injB_spec hF hf h1; subst this
        exact ⟨h2,fn_sound (tinj hT) ih h3 h4 (runF_runs h)⟩
    · intro f g args hp q hf h
      simp only [gI] at h
      cases hl:lkF tb g with
      | none=>simp only [hl] at h; exact hG.st f g args hp q hf h
      | some sfn =>
        simp only [hl] at h
        obtain ⟨f',fn,L,h1,h2,h3,h4⟩:=ht.get hl
        have:=injB_spec hF hf h1; subst this
        exact ⟨h2,fnS_sound (tinj hT) ih h3 h4 (runFS_runs h)⟩
end Wax


namespace Wax
open Go
def tbA:List (Nat × SFn):=[(165,c_authres_zzIsSpace),(163,c_authres_zzTrimSpace),(169,c_authres_zzIndex),(162,c_authres_zzSplit),(174,c_authres_zzCut),(172,c_authres_zzToLower),(170,c_authres_zzFields),(171,c_authres_parseParam),(173,c_authres_newResults),(177,c_authres_newResults_3),(188,c_authres_DKIMResult_parse),(197,c_strings_indexFunc),(164,c_strings_IndexFunc),(166,c_authres_parseResult),(156,c_authres_Parse),(157,c_impl_resultOf),(144,c_impl_AParse)]
def msA:List (Nat × String × Nat):=[(9,"given.example/pub-waxseal/pub/msgauth/authres.parse",188)]
def aIn:List UInt8:=[97,59,32,100,107,105,109,61,112,97,115,115,32,104,101,97,100,101,114,46,100,61,98]
def aOut:AV:=.tup [.str [97],.sl 16 [.agg [.int .i64 2,.str [],.str [112,97,115,115],.str [],.str [98],.str [],.str [],.str [],.str [],.str [],.str [],.str [],.str [],.str [],.int .i64 0,.nilS]],.bool true]
def con_AParse0:List AV→Option AV
  | [.str s]=>if s=aIn then some aOut else none
  | _=>none
set_option maxRecDepth 100000 in
theorem run_AParse0:(gI (gam0 msA) tbA 60 8).fn 144 [.str aIn]=some aOut:=by kernel_rfl
theorem ok_AParse0 {P:Program} {T:Tab} (hG:GamOk P T (gI (gam0 msA) tbA 60 8)) {f:Nat} (hf:lkN T.fns f=some 144):∀ args r,con_AParse0 args=some r→OkCall P T f args r:=by
  intro args r h
  simp only [con_AParse0] at h
  split at h <;> (try simp at h; done)
  rename_i s
  by_cases e:s=aIn
  · subst e
    rw [if_pos rfl] at h
    injection h with h
    subst h
    exact (hG.fn f 144 _ _ hf run_AParse0).2
  · rw [if_neg e] at h; simp at h
end Wax


namespace Wax
open Go (IntKind)

theorem awp_loop2 {σ:Type} {Γ:Gam} {Q:APost} {st:St} {live:List Nat} {c:SCode} (f:σ→St) (ok:σ→Prop) (m:σ→Nat) (s0:σ) (h0:norm live st=f s0) (hok:ok s0)
    (hr:∀ s,ok s→∀ LQ:St→Prop,(∀ s',ok s'→m s' < m s→∀ st,norm live st=f s'→LQ st)→awp Γ c (thenQ LQ Q) (f s)):awp Γ (.loop live c) Q st:=by
  refine awp_loop f ok m s0 h0 hok fun s hs=>hr s hs _ ?_
  intro s' h1 h2 st h3
  exact ⟨s',h3,h1,h2⟩

@[simp] theorem reach_nil {hp:List (Nat × AObj)} {n:Nat} {acc:List Nat}:reach hp n [] acc=acc:=by cases n <;> rfl
theorem reach_succ {hp:List (Nat × AObj)} {n i:Nat} {r acc:List Nat}:reach hp (n+1) (i::r) acc=if acc.contains i then reach hp n r acc else reach hp n (r++(match hlk hp i with | some o=>refsO o | none=>[])) (acc++[i]):=rfl

def grV (d es n:Nat):AV:=match n with | 0=>.nilS | n+1=>.msl d es 0 (n+1)
def grH (d n:Nat) (cs:List AV):List (Nat × AObj):=match n with | 0=>[] | _+1=>[(d,.cells cs)]
@[simp] theorem grV_zero {d es:Nat}:grV d es 0=.nilS:=rfl
@[simp] theorem grH_zero {d:Nat} {cs:List AV}:grH d 0 cs=[]:=rfl
@[simp] theorem grV_succ {d es n:Nat}:grV d es (n+1)=.msl d es 0 (n+1):=rfl
@[simp] theorem grH_succ {d n:Nat} {cs:List AV}:grH d (n+1) cs=[(d,.cells cs)]:=rfl

@[simp] theorem strsA_nil:strsA []=[]:=rfl
@[simp] theorem strsA_cons {x:List UInt8} {l:List (List UInt8)}:strsA (x::l)=.str x::strsA l:=rfl
@[simp] theorem strsA_app {l m:List (List UInt8)}:strsA (l++m)=strsA l++strsA m:=by simp [strsA]
@[simp] theorem atoms_strsA {l:List (List UInt8)}:atoms (strsA l)=true:=by induction l <;> simp_all
@[simp] theorem killL_strsA {d:Nat} {l:List (List UInt8)}:killL d (strsA l)=strsA l:=by induction l <;> simp_all
@[simp] theorem hasRefL_strsA {l:List (List UInt8)}:hasRefL (strsA l)=false:=by induction l <;> simp_all
@[simp] theorem refsL_strsA {l:List (List UInt8)}:refsL (strsA l)=[]:=by induction l <;> simp_all
@[simp] theorem mapIdL_strsA {g:Nat→Nat} {l:List (List UInt8)}:mapIdL g (strsA l)=strsA l:=by induction l <;> simp_all
@[simp] theorem hasRefL_bcA {l:List UInt8}:hasRefL (bcA l)=false:=by induction l <;> simp_all
@[simp] theorem refsL_bcA {l:List UInt8}:refsL (bcA l)=[]:=by induction l <;> simp_all
@[simp] theorem mapIdL_bcA {g:Nat→Nat} {l:List UInt8}:mapIdL g (bcA l)=bcA l:=by induction l <;> simp_all
@[simp] theorem strsA_drop {l:List (List UInt8)} {i:Nat}:(strsA l).drop i=strsA (l.drop i):=by simp [strsA,List.map_drop]
@[simp] theorem strsA_take {l:List (List UInt8)} {i:Nat}:(strsA l).take i=strsA (l.take i):=by simp [strsA,List.map_take]
@[simp] theorem strsA_set {l:List (List UInt8)} {i:Nat} {x:List UInt8}:(strsA l).set i (.str x)=strsA (l.set i x):=by simp [strsA,List.map_set]
@[simp] theorem snapWL_strsA {g:AV→AV} {l:List (List UInt8)}:snapWL g (strsA l)=strsA l:=by induction l <;> simp_all
@[simp] theorem snapWL_bcA {g:AV→AV} {l:List UInt8}:snapWL g (bcA l)=bcA l:=by induction l <;> simp_all
@[simp] theorem map_snap_strsA {n:Nat} {hp:List (Nat × AObj)} {l:List (List UInt8)}:(strsA l).map (snap (n+1) hp)=strsA l:=by induction l <;> simp_all [snap]
@[simp] theorem map_snap_bcA {n:Nat} {hp:List (Nat × AObj)} {l:List UInt8}:(bcA l).map (snap (n+1) hp)=bcA l:=by induction l <;> simp_all [snap]

@[simp] theorem refsL_app {a b:List AV}:refsL (a++b)=refsL a++refsL b:=by induction a <;> simp_all
@[simp] theorem mapIdL_app {g:Nat→Nat} {a b:List AV}:mapIdL g (a++b)=mapIdL g a++mapIdL g b:=by induction a <;> simp_all
@[simp] theorem hasRefL_appB {a b:List AV}:hasRefL (a++b)=(hasRefL a || hasRefL b):=by induction a <;> simp_all [Bool.or_assoc]
@[simp] theorem snapWL_app {g:AV→AV} {a b:List AV}:snapWL g (a++b)=snapWL g a++snapWL g b:=by induction a <;> simp_all
@[simp] theorem map_snapW_strsA {g:AV→AV} {l:List (List UInt8)}:(strsA l).map (snapW g)=strsA l:=by induction l <;> simp_all
@[simp] theorem map_snapW_bcA {g:AV→AV} {l:List UInt8}:(bcA l).map (snapW g)=bcA l:=by induction l <;> simp_all
@[simp high] theorem aload_ref {hp:List (Nat × AObj)} {id off:Nat}:aload hp none (.ref id off)=(oCells (hlk hp id)).bind fun cs=>cs[off]?.bind fun c=>if atom c=true then some c else none:=by
  simp only [aload]
  cases hlk hp id with
  | none=>rfl
  | some o=>cases o <;> simp only [oCells,Option.bind_some,loadC_drop] <;> rfl
theorem get_mid {α:Type} {a b:List α} {x:α} {n:Nat} (h:a.length=n):(a++x::b)[n]? = some x:=by
  subst h; rw [List.getElem?_append_right (Nat.le_refl _)]; simp
theorem set_mid {α:Type} {a b:List α} {x y:α} {n:Nat} (h:a.length=n):(a++x::b).set n y=a++y::b:=by
  subst h; simp
@[simp] theorem spliceL_more {cs:List AV} {i:Nat} {x y:AV} {r:List AV}:spliceL cs i (x::y::r)=spliceL (cs.set i x) (i+1) (y::r):=rfl
@[simp] theorem killL_repl {d n:Nat} {v:AV}:killL d (List.replicate n v)=List.replicate n (kill d v):=by induction n <;> simp_all [List.replicate_succ]
@[simp] theorem refsL_repl {n:Nat} {v:AV} (h:refs v=[]):refsL (List.replicate n v)=[]:=by induction n <;> simp_all [List.replicate_succ]
@[simp] theorem mapIdL_repl {g:Nat→Nat} {n:Nat} {v:AV}:mapIdL g (List.replicate n v)=List.replicate n (mapId g v):=by induction n <;> simp_all [List.replicate_succ]
@[simp] theorem atoms_repl {n:Nat} {v:AV} (h:atom v=true):atoms (List.replicate n v)=true:=by induction n <;> simp_all [List.replicate_succ]
theorem xor_neg1 (n:Int):IntKind.i64.wrap ((BitVec.ofInt 64 (-1) ^^^ BitVec.ofInt 64 n).toNat:Int)=IntKind.i64.wrap (-n - 1):=by
  have e:BitVec.ofInt 64 (-1) ^^^ BitVec.ofInt 64 n = ~~~ BitVec.ofInt 64 n:=by
    have:BitVec.ofInt 64 (-1)=BitVec.allOnes 64:=by decide
    rw [this,BitVec.allOnes_xor]
  rw [e,BitVec.toNat_not,BitVec.toNat_ofInt,IntKind.wrap_i64,IntKind.wrap_i64]
  omega
@[simp high] theorem aun_xor64 {n:Int}:aun .xor (.int .i64 n)=some (.int .i64 (IntKind.i64.wrap (-n - 1))):=by
  have:=xor_neg1 n
  show some (AV.int .i64 (IntKind.i64.wrap ((BitVec.ofInt 64 (-1) ^^^ BitVec.ofInt 64 n).toNat:Int)))=_
  rw [this]
@[simp high] theorem aun_not {b:Bool}:aun .not (.bool b)=some (.bool (!b)):=rfl
@[simp high] theorem aun_neg {k:IntKind} {n:Int}:aun .neg (.int k n)=some (.int k (k.wrap (0 - n))):=rfl

section
variable {n:Nat} {hp:List (Nat × AObj)}
@[simp] theorem snap_junk:snap (n+1) hp .junk=.junk:=rfl
@[simp] theorem snap_bool {b}:snap (n+1) hp (.bool b)=.bool b:=rfl
@[simp] theorem snap_int {k m}:snap (n+1) hp (.int k m)=.int k m:=rfl
@[simp] theorem snap_str {s}:snap (n+1) hp (.str s)=.str s:=rfl
@[simp] theorem snap_nilI:snap (n+1) hp .nilI=.nilI:=rfl
@[simp] theorem snap_nilP:snap (n+1) hp .nilP=.nilP:=rfl
@[simp] theorem snap_nilF:snap (n+1) hp .nilF=.nilF:=rfl
@[simp] theorem snap_nilM:snap (n+1) hp .nilM=.nilM:=rfl
@[simp] theorem snap_gp {q}:snap (n+1) hp (.gp q)=.gp q:=rfl
@[simp] theorem snap_nilS:snap (n+1) hp .nilS=.nilS:=rfl
@[simp] theorem snap_sl {e xs}:snap (n+1) hp (.sl e xs)=.sl e xs:=rfl
@[simp] theorem snap_ptr {cs}:snap (n+1) hp (.ptr cs)=.ptr cs:=rfl
@[simp] theorem snap_bx {cs}:snap (n+1) hp (.bx cs)=.bx cs:=rfl
@[simp] theorem snap_mp {es}:snap (n+1) hp (.mp es)=.mp es:=rfl
@[simp] theorem snap_ifc {t v}:snap (n+1) hp (.ifc t v)=.ifc t (snap (n+1) hp v):=rfl
theorem snapWL_map {g:AV→AV}:∀ l:List AV,snapWL g l=l.map (snapW g)
  | []=>rfl
  | x::r=>by simp [snapWL,snapWL_map r]
@[simp] theorem snap_agg {cs}:snap (n+1) hp (.agg cs)=.agg (cs.map (snap (n+1) hp)):=by
  show AV.agg (snapWL _ cs)=_
  rw [snapWL_map]; rfl
@[simp] theorem snap_tup {cs}:snap (n+1) hp (.tup cs)=.tup (cs.map (snap (n+1) hp)):=by
  show AV.tup (snapWL _ cs)=_
  rw [snapWL_map]; rfl
@[simp] theorem snap_fn {f cs}:snap (n+1) hp (.fn f cs)=.fn f (cs.map (snap (n+1) hp)):=by
  show AV.fn f (snapWL _ cs)=_
  rw [snapWL_map]; rfl
@[simp] theorem snap_ref {id off}:snap (n+1) hp (.ref id off)=match oCells (hlk hp id) with | some cs=>.ptr ((cs.drop off).map (snap n hp)) | none=>.junk:=by
  show resolveA (snap n hp) hp (.ref id off)=_
  simp only [resolveA]
  cases hlk hp id with
  | none=>rfl
  | some o=>cases o <;> rfl
@[simp] theorem snap_msl {id es off m}:snap (n+1) hp (.msl id es off m)=match oCells (hlk hp id) with | some cs=>if off+m * es≤cs.length∧atoms cs=true∧0 < es then .sl es (elems es m ((cs.drop off).map (snap n hp))) else .junk | none=>.junk:=by
  show resolveA (snap n hp) hp (.msl id es off m)=_
  simp only [resolveA]
  cases hlk hp id with
  | none=>rfl
  | some o=>cases o <;> rfl
@[simp] theorem snap_mref {id}:snap (n+1) hp (.mref id)=match oMp (hlk hp id) with | some es=>.mp es | none=>.junk:=by
  show resolveA (snap n hp) hp (.mref id)=_
  simp only [resolveA]
  cases hlk hp id with
  | none=>rfl
  | some o=>cases o <;> rfl
end
end Wax


namespace Wax
open Go (IntKind)

def findAt (sub:List UInt8):List UInt8→Nat→Option Nat
  | [],n=>if sub=[] then some n else none
  | x::r,n=>if sub.isPrefixOf (x::r) then some n else findAt sub r (n+1)

def idxV (sub s:List UInt8):Int:=match findAt sub s 0 with | some n=>(n:Int) | none => -1

def con_zzIndex:List AV→Option AV
  | [.str s,.str sub]=>if s.length < big∧sub.length < big then some (.int .i64 (idxV sub s)) else none
  | _=>none

theorem isPrefixOf_take (sub:List UInt8) (s:List UInt8) (h:sub.length≤s.length):sub.isPrefixOf s=decide (s.take sub.length=sub):=by
  induction sub generalizing s with
  | nil=>simp
  | cons a r ih =>
    cases s with
    | nil=>simp at h
    | cons b s =>
      simp at h
      simp only [List.isPrefixOf,ih s h,List.length_cons,List.take_succ_cons]
      by_cases e:a=b
      · subst e; simp
      · have e':¬ b=a:=fun x=>e x.symm
        simp [e,e']

theorem isPrefixOf_long (sub:List UInt8) (s:List UInt8) (h:s.length < sub.length):sub.isPrefixOf s=false:=by
  induction sub generalizing s with
  | nil=>simp at h
  | cons a r ih =>
    cases s with
    | nil=>simp [List.isPrefixOf]
    | cons b s =>
      simp at h
      simp [List.isPrefixOf,ih s h]

theorem findAt_none (sub:List UInt8):∀ (s:List UInt8) (n:Nat),s.length < sub.length→findAt sub s n=none
  | [],n,h=>by
    have:sub ≠ []:=by intro e; subst e; simp at h
    simp [findAt,this]
  | x::r,n,h=>by
    simp only [findAt,isPrefixOf_long sub (x::r) h,Bool.false_eq_true,if_false]
    exact findAt_none sub r (n+1) (by simp at h; omega)

theorem findAt_one (c:UInt8):∀ (s:List UInt8) (n:Nat),findAt [c] s n=(cutAt c.toNat s).map fun p=>n+p.1.length
  | [],n=>by simp [findAt,cutAt]
  | x::r,n=>by
    simp only [findAt,cutAt,List.isPrefixOf,Bool.and_true]
    by_cases e:x=c
    · subst e; simp
    · have e1:¬ (x.toNat:Int)=(c.toNat:Int):=fun h=>e (UInt8.toNat_inj.1 (by omega))
      have e2:(c == x)=false:=by simp; exact fun h=>e h.symm
      simp only [e2,Bool.false_eq_true,if_false,if_neg e1,findAt_one c r (n+1),Option.map_map]
      congr 1; funext p; simp; omega

theorem cutAt_eq {c:Int}:∀ {s a b:List UInt8},cutAt c s=some (a,b)→∃ x:UInt8,(x.toNat:Int)=c∧s=a++x::b∧noB c a
  | [],a,b,h=>by simp [cutAt] at h
  | x::r,a,b,h=>by
    simp only [cutAt] at h
    split at h
    · rename_i e; simp at h; obtain ⟨rfl,rfl⟩:=h; exact ⟨x,e,by simp,by simp [noB]⟩
    · rename_i e
      cases hr:cutAt c r with
      | none=>simp [hr] at h
      | some p =>
        simp [hr] at h
        obtain ⟨rfl,rfl⟩:=h
        obtain ⟨y,h1,h2,h3⟩:=cutAt_eq (a:=p.1) (b:=p.2) hr
        refine ⟨y,h1,by rw [h2]; simp,?_⟩
        intro z hz
        simp at hz
        rcases hz with rfl | hz
        · exact e
        · exact h3 z hz

end Wax


namespace Wax
open Go (IntKind)

def isSp (n:Int):Bool:=decide ((9≤n∧n≤13)∨n=32)

def con_zzIsSpace:List AV→Option AV
  | [.int .i32 n]=>if n < 128 then some (.bool (isSp n)) else none
  | _=>none

def wordsGo:List UInt8→List UInt8→List (List UInt8)
  | cur,[]=>if cur=[] then [] else [cur]
  | cur,x::r=>if isWs x.toNat then (if cur=[] then wordsGo [] r else cur::wordsGo [] r) else wordsGo (cur++[x]) r
def wordsOf (s:List UInt8):List (List UInt8):=wordsGo [] s

def plain (s:List UInt8):Bool:=s.all plainB

def con_zzTrimSpace:List AV→Option AV
  | [.str s]=>if s.length < mid∧plain s=true then some (.str (trimS s)) else none
  | _=>none

end Wax


namespace Wax
open Go (IntKind)

def fitsB (l:List (List UInt8)):Bool:=decide (l.length≤2147483647) && l.all fun s=>decide (s.length≤2147483647)

def con_zzFits7:List AV→Option AV
  | [v]=>match slStrs v with
    | some l=>if l.length < 9223372036854775808∧∀ s∈l,s.length < 9223372036854775808 then some (.bool (fitsB l)) else none
    | none=>none
  | _=>none

theorem slStrs_cases {v:AV} {l:List (List UInt8)} (h:slStrs v=some l):(v=.nilS∧l=[])∨v=.sl 1 (strsA l):=by
  cases v <;> simp [slStrs] at h
  · left; exact ⟨rfl,h⟩
  · right; obtain ⟨e,h⟩:=h; rw [asStrs_spec h,e]

theorem ok_zzFits7 (Γ:Gam):∀ args r,con_zzFits7 args=some r→runs Γ c_laws_zzFits7 args (fun v=>v=r):=by
  intro args r h
  simp only [con_zzFits7] at h
  split at h <;> (try simp at h; done)
  rename_i v
  split at h <;> (try simp at h; done)
  rename_i l hl
  obtain ⟨⟨hlen,hall⟩,rfl⟩:=ite_some h
  clear h
  rcases slStrs_cases hl with ⟨rfl,rfl⟩ | rfl
  · simp [c_laws_zzFits7]
    refine awp_loop2 (σ:=Unit) (fun p=>⟨[(8,.nilS),(9,.int .i64 0),(10,.int .i64 0)],[]⟩) (fun _=>True) (fun _=>0) () (by simp) (by simp) ?_
    intro _ _ LQ _
    simp [b_laws_zzFits7_1,t_laws_zzFits7_2,fitsB]
  · by_cases hbig:l.length≤2147483647
    · have hng:¬ (2147483647:Int) < (l.length:Int):=by omega
      simp [c_laws_zzFits7,hng]
      refine awp_loop2 (σ:=List (List UInt8) × List (List UInt8)) (fun p=>⟨[(8,.sl 1 (strsA l)),(9,.int .i64 l.length),(10,.int .i64 p.1.length)],[]⟩) (fun p=>l=p.1++p.2∧(p.1.all fun s=>decide (s.length≤2147483647))=true) (fun p=>p.2.length) ([],l) (by simp) (by simp) ?_
      rintro ⟨pre,post⟩ ⟨hs1,hs2⟩ LQ hLQ
      simp only at hs1 hs2
      subst hs1
      cases post with
      | nil =>
        simp at hs2 hbig
        simp [b_laws_zzFits7_1,t_laws_zzFits7_2,fitsB,hbig]
        exact fun x hx=>hs2 x hx
      | cons x post =>
        simp at hbig
        have ew:IntKind.i64.wrap ((pre.length:Int)+1)=(pre.length:Int)+1:=wrap64 (by omega) (by omega)
        have hlt:(pre.length:Int) < (pre.length:Int)+((post.length:Int)+1):=by omega
        by_cases hx:x.length≤2147483647
        · have hxn:¬ (2147483647:Int) < (x.length:Int):=by omega
          simp [b_laws_zzFits7_1,ew,hxn]
          refine ⟨fun _=>?_,fun h=>by omega⟩
          exact hLQ (pre++[x],post) ⟨by simp,by simp only [List.all_append,hs2,List.all_cons,hx]; rfl⟩ (by simp) _ (by simp)
        · have hxn:(2147483647:Int) < (x.length:Int):=by omega
          have hf:fitsB (pre++x::post)=false:=by
            have e:decide (x.length≤2147483647)=false:=decide_eq_false hx
            simp only [fitsB,List.all_append,List.all_cons,e,Bool.false_and,Bool.and_false]
          rw [hf]
          simp [b_laws_zzFits7_1,hxn]
          omega
    · have hg:(2147483647:Int) < (l.length:Int):=by omega
      simp [c_laws_zzFits7,hg,fitsB,hbig]
end Wax


namespace Wax
open Go (IntKind)

def splitB (b:UInt8):List UInt8→List (List UInt8)
  | []=>[[]]
  | x::r=>if x=b then []::splitB b r else match splitB b r with
    | []=>[[x]]
    | h::t=>(x::h)::t

theorem splitB_ne (b:UInt8) (s:List UInt8):splitB b s ≠ []:=by
  cases s with
  | nil=>simp [splitB]
  | cons x r=>simp only [splitB]; split; simp; split <;> simp

theorem splitB_cut (b:UInt8):∀ (s:List UInt8),splitB b s=match cutAt b.toNat s with | none=>[s] | some (a,c)=>a::splitB b c
  | []=>rfl
  | x::r=>by
    have ih:=splitB_cut b r
    simp only [splitB,cutAt]
    by_cases e:x=b
    · subst e; simp
    · have e1:¬ (x.toNat:Int)=(b.toNat:Int):=fun h=>e (UInt8.toNat_inj.1 (by omega))
      rw [if_neg e,if_neg e1,ih]
      cases cutAt b.toNat r with
      | none=>rfl
      | some p=>rfl

theorem splitB_length (b:UInt8):∀ (s:List UInt8),(splitB b s).length≤s.length+1
  | []=>by simp [splitB]
  | x::r=>by
    have ih:=splitB_length b r
    simp only [splitB]
    split
    · simp; omega
    · split
      · simp
      · rename_i h t e; rw [e] at ih; simp at ih ⊢; omega

theorem splitB_mem_length (b:UInt8):∀ (s p:List UInt8),p∈splitB b s→p.length≤s.length
  | [],p,h=>by simp [splitB] at h; subst h; simp
  | x::r,p,h=>by
    have ih:=splitB_mem_length b r
    simp only [splitB] at h
    split at h
    · rcases List.mem_cons.1 h with e | h
      · subst e; simp
      · have:=ih p h; simp; omega
    · split at h
      · simp at h; subst h; simp
      · rename_i hd t e
        rcases List.mem_cons.1 h with e' | h
        · subst e'
          have:=ih hd (by rw [e]; simp); simp; omega
        · have:=ih p (by rw [e]; simp [h]); simp; omega

def con_zzSplit:List AV→List (Nat × AObj)→Option (AV × List (Nat × AObj))
  | [.str s,.str [b]],[]=>if s.length < mid then some (.msl 0 1 0 (splitB b s).length,[(0,.cells (strsA (splitB b s)))]) else none
  | _,_=>none

end Wax


namespace Wax
open Go (IntKind)

theorem decR_ascii {x:UInt8} {r:List UInt8} (h:x.toNat < 128):decR (x::r)=(x.toNat,1):=by
  have e:(⟨(x::r).toArray⟩:ByteArray).get! 0=x:=by
    show (x::r).toArray[0]! = x
    simp
  simp [decR,Go.Utf8.decode,e,h]

theorem plainB_lt {x:UInt8} (h:plainB x=true):x.toNat < 128:=by
  have:=of_decide_eq_true h
  omega

theorem isSp_ws {x:UInt8} (h:plainB x=true):isSp x.toNat=isWs x.toNat:=by
  have:=of_decide_eq_true h
  unfold isSp isWs
  apply decide_eq_decide.2
  omega

theorem plain_app {s t:List UInt8}:plain (s++t)=(plain s && plain t):=by simp [plain]

theorem trimR_ws {c:List UInt8} {x:UInt8} (h:isWs x.toNat=true):trimR (c++[x])=trimR c:=by simp [trimR,h]
theorem trimR_nw {c:List UInt8} {x:UInt8} (h:isWs x.toNat=false):trimR (c++[x])=c++[x]:=by simp [trimR,h]

theorem trimR_prefix (c:List UInt8):∃ t,c=trimR c++t:=by
  obtain ⟨t,ht⟩:=List.dropWhile_suffix (fun b:UInt8=>isWs b.toNat) (l:=c.reverse)
  refine ⟨t.reverse,?_⟩
  have:=congrArg List.reverse ht
  simpa [trimR] using this.symm

theorem trimL_app {a b:List UInt8} (ha:∀ x∈a,isWs x.toNat=true):trimL (a++b)=trimL b:=by
  induction a with
  | nil=>rfl
  | cons x r ih =>
    have h1:=ha x (by simp)
    simp only [trimL,List.cons_append,List.dropWhile_cons,h1,if_true]
    exact ih fun y hy=>ha y (by simp [hy])

theorem trimL_nw {b:List UInt8} (hb:∀ x r,b=x::r→isWs x.toNat=false):trimL b=b:=by
  cases b with
  | nil=>rfl
  | cons x r=>simp [trimL,hb x r rfl]

def toV (n:Nat) (a c:List UInt8):Int:=if c=[] then (n:Int) else (a.length:Int)+((trimR c).length:Int)

end Wax


namespace Wax
open Go (IntKind)

theorem cutAt_le {c:Int} {s:List UInt8} {p:List UInt8 × List UInt8} (h:cutAt c s=some p):p.1.length+p.2.length < s.length∧∃ x,s=p.1++x::p.2:=by
  obtain ⟨a,b⟩:=p
  obtain ⟨x,hx1,hx2,_⟩:=cutAt_eq h
  subst hx2
  simp

attribute [local simp] lowS_cons lowS_nil lowS_app
@[simp] theorem lowS_len {l:List UInt8}:(lowS l).length=l.length:=by simp [lowS]

end Wax


namespace Wax
open Go (IntKind)

theorem slf_alen {u:AV} {l:List (List UInt8)} (h:slStrs u=some l) (hp:List (Nat × AObj)):alen hp 1 u=some l.length:=by
  rcases slStrs_cases h with ⟨rfl,rfl⟩ | rfl <;> simp
theorem slf_ref {u:AV} {l:List (List UInt8)} (h:slStrs u=some l):hasRef u=false:=by
  rcases slStrs_cases h with ⟨rfl,rfl⟩ | rfl <;> simp
theorem slf_snapW {u:AV} {l:List (List UInt8)} (h:slStrs u=some l) (g:AV→AV):snapW g u=u:=by
  rcases slStrs_cases h with ⟨rfl,rfl⟩ | rfl <;> simp
theorem slf_cells {u:AV} {l:List (List UInt8)} (h:slStrs u=some l):cells u=[u]:=by
  rcases slStrs_cases h with ⟨rfl,rfl⟩ | rfl <;> simp
theorem slf_ne {u:AV} {l:List (List UInt8)} (h:slStrs u=some l) (hl:l ≠ []):u=.sl 1 (strsA l):=by
  rcases slStrs_cases h with ⟨rfl,rfl⟩ | rfl
  · exact absurd rfl hl
  · rfl

theorem plain_sub {s t:List UInt8} (h:∀ x∈t,x∈s) (hs:plain s=true):plain t=true:=by
  simp only [plain,List.all_eq_true] at hs ⊢
  exact fun x hx=>hs x (h x hx)

theorem trimS_sub {t:List UInt8}:∀ x∈trimS t,x∈t:=by
  intro x hx
  simp only [trimS,trimR,trimL,List.mem_reverse] at hx
  have:=(List.dropWhile_suffix _).mem hx
  rw [List.mem_reverse] at this
  exact (List.dropWhile_suffix _).mem this

end Wax


namespace Wax
open Go (IntKind)

def pr2 (l:List (List UInt8 × List UInt8)):List AV:=l.map fun p=>.agg [.str p.1,.str p.2]
@[simp] theorem pr2_nil:pr2 []=[]:=rfl
@[simp] theorem pr2_cons {x l}:pr2 (x::l)=.agg [.str x.1,.str x.2]::pr2 l:=rfl
@[simp] theorem pr2_app {l m}:pr2 (l++m)=pr2 l++pr2 m:=by simp [pr2]
@[simp] theorem pr2_length {l}:(pr2 l).length=l.length:=by simp [pr2]
def asPairs:List AV→Option (List (List UInt8 × List UInt8))
  | []=>some []
  | .agg [.str a,.str b]::r=>(asPairs r).map ((a,b) :: ·)
  | _::_=>none
def slPairs:AV→Option (List (List UInt8 × List UInt8))
  | .nilS=>some []
  | .sl es xs=>if es=2 then asPairs xs else none
  | _=>none
theorem asPairs_pr2:∀ l,asPairs (pr2 l)=some l
  | []=>rfl
  | x::l=>by simp [asPairs,asPairs_pr2 l]
theorem asPairs_spec:∀ {xs l},asPairs xs=some l→xs=pr2 l
  | [],l,h=>by simp [asPairs] at h; subst h; rfl
  | v::r,l,h=>by
    unfold asPairs at h
    split at h
    · simp at h; rename_i e; simp at e
    · rename_i a b r' e
      simp at e; obtain ⟨rfl,rfl⟩:=e
      cases hr:asPairs r with
      | none=>rw [hr] at h; simp at h
      | some l'=>rw [hr] at h; simp at h; subst h; rw [asPairs_spec hr]; rfl
    · simp at h
theorem slPairs_cases {v:AV} {l} (h:slPairs v=some l):(v=.nilS∧l=[])∨v=.sl 2 (pr2 l):=by
  cases v <;> simp [slPairs] at h
  · left; exact ⟨rfl,h⟩
  · right; obtain ⟨e,h⟩:=h; rw [asPairs_spec h,e]
end Wax


namespace Wax
open Go (IntKind)

theorem slp_alen {u:AV} {l} (h:slPairs u=some l) (hp:List (Nat × AObj)):alen hp 1 u=some l.length:=by
  rcases slPairs_cases h with ⟨rfl,rfl⟩ | rfl <;> simp
theorem slp_ne {u:AV} {l} (h:slPairs u=some l) (hl:l ≠ []):u=.sl 2 (pr2 l):=by
  rcases slPairs_cases h with ⟨rfl,rfl⟩ | rfl
  · exact absurd rfl hl
  · rfl
@[simp] theorem pr2_get {l:List (List UInt8 × List UInt8)} {i:Nat}:(pr2 l)[i]? = l[i]?.map fun p=>AV.agg [.str p.1,.str p.2]:=by simp [pr2]

end Wax


namespace Wax
open Go (IntKind)

def cutS (s:List UInt8) (p:Nat × Nat):List UInt8:=(s.take p.2).drop p.1

structure FF (s pre post:List UInt8) (sp:List (Nat × Nat)) (cur:List UInt8) (v:Int):Prop where
  cut:s=pre++post
  words:wordsOf s=sp.map (cutS s)++wordsGo cur post
  none:cur=[]→v < 0 ∧ -1099511627777 < v
  some:cur ≠ []→∃ p,pre=p++cur∧v=p.length
  ok:∀ p∈sp,p.1≤p.2∧p.2≤s.length
  len:sp.length≤pre.length

theorem FF.on {s pre post:List UInt8} {sp:List (Nat × Nat)} {cur:List UInt8} {v:Int} {x:UInt8} (h:FF s pre (x::post) sp cur v) (hw:isWs x.toNat=false) (hc:cur ≠ []):FF s (pre++[x]) post sp (cur++[x]) v:=by
  refine ⟨by rw [h.cut]; simp,?_,fun hn=>by simp at hn,fun _=>?_,h.ok,by have:=h.len; simp; omega⟩
  · have:=h.words
    simpa [wordsGo,hw] using this
  · obtain ⟨p,hp,hv⟩:=h.some hc
    exact ⟨p,by rw [hp]; simp,hv⟩

end Wax


namespace Wax
open Go (IntKind)

def con_errorsNew:List AV→Option AV
  | [.str s]=>some (.ifc 3 (.ptr [.str s]))
  | _=>none

theorem ok_errorsNew (Γ:Gam):∀ args r,con_errorsNew args=some r→runs Γ c_errors_New args (fun v=>v=r):=by
  intro args r h
  simp only [con_errorsNew] at h
  split at h <;> (try simp at h; done)
  injection h with h; subst h
  simp [c_errors_New]

def pmA (l:List (List UInt8 × List UInt8)):List (List UInt8 × AV):=l.map fun p=>(p.1,.str p.2)
def hasK (k:List UInt8) (l:List (List UInt8 × List UInt8)):Bool:=l.any fun p=>decide (k=p.1)
theorem splitB_sub (b:UInt8):∀ (s p:List UInt8),p∈splitB b s→∀ y∈p,y∈s
  | [],p,h,y,hy=>by simp [splitB] at h; subst h; exact hy
  | x::r,p,h,y,hy=>by
    have ih:=splitB_sub b r
    simp only [splitB] at h
    split at h
    · rcases List.mem_cons.1 h with e | h
      · subst e; simp at hy
      · exact List.mem_cons_of_mem _ (ih p h y hy)
    · split at h
      · simp at h; subst h; simp at hy; subst hy; simp
      · rename_i hd t e
        rcases List.mem_cons.1 h with e' | h
        · subst e'
          rcases List.mem_cons.1 hy with e2 | hy
          · subst e2; simp
          · exact List.mem_cons_of_mem _ (ih hd (by rw [e]; simp) y hy)
        · exact List.mem_cons_of_mem _ (ih p (by rw [e]; simp [h]) y hy)
theorem splitB_plain (b:UInt8) (s p:List UInt8) (hs:plain s=true) (h:p∈splitB b s):plain p=true:=plain_sub (splitB_sub b s p h) hs

end Wax


namespace Wax
open Go (IntKind)

def nonWs (s:List UInt8):Prop:=∀ x∈s,isWs x.toNat=false
def allWs (s:List UInt8):Prop:=∀ x∈s,isWs x.toNat=true

theorem trimS_word {n b:List UInt8} (hn:nonWs n) (hne:n ≠ []) (hb:allWs b):trimS (n++b)=n:=by
  have h1:trimL (n++b)=n++b:=by
    cases n with
    | nil=>exact absurd rfl hne
    | cons x r=>simp [trimL,hn x (by simp)]
  rw [trimS,h1,trimR,List.reverse_append,List.dropWhile_append_of_pos (by intro x hx; exact hb x (by simpa using hx))]
  have h2:n.reverse.dropWhile (fun b=>isWs b.toNat)=n.reverse:=by
    cases hr:n.reverse with
    | nil=>rfl
    | cons x r =>
      have:x∈n:=by rw [← List.mem_reverse,hr]; simp
      simp [hn x this]
  rw [h2,List.reverse_reverse]

theorem cutAt_noB {c:UInt8} {n r:List UInt8} (h:noB c.toNat n):cutAt c.toNat (n++c::r)=some (n,r):=by
  rw [cutAt_app _ _ _ h]; simp [cutAt]

end Wax


namespace Wax
open Go (IntKind)

abbrev L8:=List UInt8
abbrev KVp:=List UInt8 × List UInt8

def tokStop:L8:=[40,41,60,62,64,44,59,58,92,34,47,91,93,63,61]
def tokB (c:UInt8):Bool:=decide (32 < c.toNat) && decide (c.toNat < 127) && !tokStop.contains c
def mTok (s:L8):Bool:=s.all tokB && decide (s ≠ [])
def kwB (c:UInt8):Bool:=decide ((97≤c.toNat∧c.toNat≤122)∨(65≤c.toNat∧c.toNat≤90)∨(48≤c.toNat∧c.toNat≤57)∨c.toNat=45)
def mKw (s:L8):Bool:=s.all kwB && decide (s ≠ []) && decide (s.head? ≠ some 45) && decide (s.getLast? ≠ some 45)
def mDom (s:L8):Bool:=(splitB 46 s).all (fun p=>mKw p && decide (p.length≤63)) && decide (s.length≤253)
def digB (c:UInt8):Bool:=decide (48≤c.toNat∧c.toNat≤57)
def numW (n:Int) (s:L8):Int:=s.foldl (fun n c=>IntKind.i64.wrap (IntKind.i64.wrap (10 * n)+((c.toNat:Int) - 48))) n
def mNum (s:L8) (most:Int):Int × Bool:=if s.all digB=true then (numW 0 s,decide (s ≠ []) && decide ((s.length:Int)≤most)) else (0,false)

def sNone:L8:=[110,111,110,101]
def sQuar:L8:=[113,117,97,114,97,110,116,105,110,101]
def sReject:L8:=[114,101,106,101,99,116]
def polB (s:L8):Bool:=decide (s=sNone∨s=sQuar∨s=sReject)
def sMailto:L8:=[109,97,105,108,116,111,58]
def sKmgt:L8:=[107,109,103,116]
def s01ds:L8:=[48,49,100,115]
def sAfrf:L8:=[97,102,114,102]

def addrB (s:L8):Bool:=match cutAt 64 s with
  | some p=>mTok p.1 && mDom p.2
  | none=>false
def sizeOff (s:L8):L8:=match s.getLast? with
  | some c=>if sKmgt.contains c then s.dropLast else s
  | none=>s
def muri (s:L8):Bool:=decide (8≤s.length) && decide (s.take 7=sMailto) && (match cutAt 33 (s.drop 7) with
  | some p=>(mNum (sizeOff p.2) 9).2 && addrB p.1
  | none=>addrB (s.drop 7))

def kAdkim:L8:=[97,100,107,105,109]
def kAspf:L8:=[97,115,112,102]
def kFo:L8:=[102,111]
def kPct:L8:=[112,99,116]
def kRf:L8:=[114,102]
def kRi:L8:=[114,105]
def kRua:L8:=[114,117,97]
def kRuf:L8:=[114,117,102]
def kSp:L8:=[115,112]
def kP:L8:=[112]
def kV:L8:=[118]
def sDM:L8:=[68,77,65,82,67,49]
def sR:L8:=[114]
def sS:L8:=[115]

structure MR where
  adkim:L8
  aspf:L8
  fo:Int
  p:L8
  pct:Int
  has:Bool
  rf:Option (List L8)
  ri:Int
  rua:Option (List L8)
  ruf:Option (List L8)
  sp:L8
  deriving DecidableEq

def slO:Option (List L8)→AV
  | none=>.nilS
  | some l=>.sl 1 (strsA l)
def MR.cells (r:MR):List AV:=[.str r.adkim,.str r.aspf,.int .i64 r.fo,.str r.p,.int .i64 r.pct,.bool r.has,slO r.rf,.int .i64 r.ri,slO r.rua,slO r.ruf,.str r.sp]
def mr0:MR:=⟨[],[],0,[],0,false,none,0,none,none,[]⟩

def alignB (s:L8):Bool:=decide (s=sR∨s=sS)
def orI (x y:Int):Int:=IntKind.i64.wrap ((BitVec.ofInt 64 x ||| BitVec.ofInt 64 y).toNat:Int)
def foBit:L8→Int
  | [c]=>if c=48 then 1 else if c=49 then 2 else if c=100 then 4 else 8
  | _=>0
def foOk (s:L8):Bool:=match s with | [c]=>s01ds.contains c | _=>false
def foOf (l:List L8):Int:=l.foldl (fun n x=>orI n (foBit x)) 0
def mlist (b:UInt8) (right:L8→Bool) (s:L8):Option (List L8):=if (splitB b s).all right=true then some (splitB b s) else none

def mOk (t:KVp):Bool :=
  if t.1=kAdkim then alignB t.2 else if t.1=kAspf then alignB t.2 else if t.1=kP then polB t.2 else if t.1=kSp then polB t.2
  else if t.1=kFo then (mlist 58 foOk t.2).isSome
  else if t.1=kPct then (mNum t.2 3).2 && decide ((mNum t.2 3).1≤100)
  else if t.1=kRf then (mlist 58 (fun s=>decide (s=sAfrf)) t.2).isSome
  else if t.1=kRi then (mNum t.2 10).2 && decide (0 < (mNum t.2 10).1) && decide ((mNum t.2 10).1 < 4294967296)
  else if t.1=kRua then (mlist 44 muri t.2).isSome
  else if t.1=kRuf then (mlist 44 muri t.2).isSome
  else true

def mPut (r:MR) (t:KVp):MR :=
  if t.1=kAdkim then { r with adkim:=t.2 } else if t.1=kAspf then { r with aspf:=t.2 } else if t.1=kP then { r with p:=t.2 } else if t.1=kSp then { r with sp:=t.2 }
  else if t.1=kFo then { r with fo:=foOf ((mlist 58 foOk t.2).getD []) }
  else if t.1=kPct then { r with pct:=(mNum t.2 3).1,has:=true }
  else if t.1=kRf then { r with rf:=mlist 58 (fun s=>decide (s=sAfrf)) t.2 }
  else if t.1=kRi then { r with ri:=IntKind.i64.wrap ((mNum t.2 10).1 * 1000000000) }
  else if t.1=kRua then { r with rua:=mlist 44 muri t.2 }
  else if t.1=kRuf then { r with ruf:=mlist 44 muri t.2 }
  else r

def mKnown:List L8:=[kP,kAdkim,kAspf,kFo,kPct,kRf,kRi,kRua,kRuf,kSp]
def valB (c:UInt8):Bool:=decide (32 < c.toNat) && decide (c.toNat < 127) && decide (c ≠ 59) && decide (c ≠ 61)

def tagOk (pre:List KVp) (t:KVp):Bool :=
  (decide (pre ≠ []) || decide (t.1=kP)) && decide (t.1 ≠ kV) && decide (t.1.length≤20) && decide (t.2.length≤200) && mOk t && mKw t.1 &&
  pre.all (fun u=>decide (lowS u.1 ≠ lowS t.1)) && mKnown.all (fun n=>decide (n=t.1) || decide (n ≠ lowS t.1)) && (mKnown.contains t.1 || t.2.all valB) && decide (t.2 ≠ []) && decide (lowS t.1 ≠ kV)
def tagsOk:List KVp→List KVp→Bool
  | _,[]=>true
  | pre,t::r=>tagOk pre t && tagsOk (pre++[t]) r
def mRight (l:List KVp):Bool:=tagsOk [] l && decide (l ≠ []) && decide (l.length≤20)

def mSameAt (k:L8) (a b:MR):Bool :=
  if k=kAdkim then decide (a.adkim=b.adkim) else if k=kAspf then decide (a.aspf=b.aspf) else if k=kP then decide (a.p=b.p) else if k=kSp then decide (a.sp=b.sp)
  else if k=kFo then decide (a.fo=b.fo) else if k=kPct then a.has && decide (a.pct=b.pct) else if k=kRf then decide (a.rf.getD []=b.rf.getD []) else if k=kRi then decide (a.ri=b.ri)
  else if k=kRua then decide (a.rua.getD []=b.rua.getD []) else if k=kRuf then decide (a.ruf.getD []=b.ruf.getD []) else true
def mHas (r:MR) (l:List KVp):Bool:=l.all fun t=>mSameAt t.1 r (mPut mr0 t)
def mSame (a b:MR):Bool:=decide (a.adkim=b.adkim) && decide (a.aspf=b.aspf) && decide (a.fo=b.fo) && decide (a.p=b.p) && decide (a.pct=b.pct) && decide (a.has=b.has) && decide (a.ri=b.ri) && decide (a.sp=b.sp) &&
  decide (a.rf.getD []=b.rf.getD []) && decide (a.rua.getD []=b.rua.getD []) && decide (a.ruf.getD []=b.ruf.getD [])
theorem mSame_refl (a:MR):mSame a a=true:=by simp [mSame]

def psetL:List KVp→L8→L8→List KVp
  | [],k,v=>[(k,v)]
  | (i,u)::r,k,v=>if k=i then (k,v)::r else (i,u)::psetL r k v
theorem mset_pmA:∀ (l:List KVp) (k v:L8),mset (pmA l) k (.str v)=pmA (psetL l k v)
  | [],_,_=>rfl
  | (i,u)::r,k,v=>by
    have ih:=mset_pmA r k v
    simp only [pmA,List.map_cons,mset,psetL] at ih ⊢
    by_cases h:k=i
    · simp [h]
    · simp only [if_neg h,List.map_cons,ih]
theorem psetL_new:∀ {l:List KVp} {k v:L8},hasK k l=false→psetL l k v=l++[(k,v)]
  | [],_,_,_=>rfl
  | (i,u)::r,k,v,h=>by
    simp only [hasK,List.any_cons,Bool.or_eq_false_iff,decide_eq_false_iff_not] at h
    simp only [psetL,if_neg h.1,List.cons_append]
    rw [psetL_new (l:=r) h.2]

structure DR where
  dk:L8
  sp:L8
  fo:Int
  p:L8
  pct:Option Int
  rf:Option (List L8)
  ri:Int
  rua:Option (List L8)
  ruf:Option (List L8)
  sub:L8

def recM (r:DR):MR:=⟨r.dk,r.sp,r.fo,r.p,r.pct.getD 0,r.pct.isSome,if r.rf.getD []=[] then none else r.rf,IntKind.i64.wrap (r.ri * 1000000000),r.rua,r.ruf,r.sub⟩

def fobit2 (s:L8):Option Int:=if trimS s=[48] then some 1 else if trimS s=[49] then some 2 else if trimS s=[100] then some 4 else if trimS s=[115] then some 8 else none
def fo2:Int→List L8→Option Int
  | n,[]=>some n
  | n,x::r=>match fobit2 x with
    | some b=>fo2 (orI n b) r
    | none=>none
def uris (s:L8):List L8:=(splitB 44 s).map trimS
end Wax


namespace Wax
open Go (IntKind)

def anyN (n:Int) (s:L8):Bool:=s.any fun b=>decide ((b.toNat:Int)=n)

def con_MailAny:List AV→Option AV
  | [.int .u8 n,.str s]=>if s.length < big then some (.bool (anyN n s)) else none
  | _=>none

theorem ok_MailAny (Γ:Gam):∀ args r,con_MailAny args=some r→runs Γ c_spec_MailAny args (fun v=>v=r):=by
  intro args r h
  simp only [con_MailAny] at h
  split at h <;> (try simp at h; done)
  rename_i n s
  obtain ⟨hs,rfl⟩:=ite_some h
  clear h
  simp only [big] at hs
  simp -implicitDefEqProofs [c_spec_MailAny]
  refine awp_loop2 (σ:=L8 × L8) (fun p=>⟨[(0,.int .u8 n),(1,.str s),(5,.int .i64 p.1.length)],[]⟩) (fun p=>s=p.1++p.2∧anyN n p.1=false) (fun p=>p.2.length) ([],s) (by simp) (by simp [anyN]) ?_
  rintro ⟨pre,post⟩ ⟨e1,e2⟩ LQ hLQ
  simp only at e1 e2
  subst e1
  cases post with
  | nil=>simp -implicitDefEqProofs [b_spec_MailAny_1,t_spec_MailAny_2,e2]
  | cons x post =>
    simp at hs
    have hlt:(pre.length:Int) < (pre.length:Int)+((post.length:Int)+1):=by omega
    have ew:IntKind.i64.wrap ((pre.length:Int)+1)=(pre.length:Int)+1:=wrap64 (by omega) (by omega)
    by_cases h:(x.toNat:Int)=n
    · simp -implicitDefEqProofs [b_spec_MailAny_1,hlt,h,anyN]
    · simp -implicitDefEqProofs [b_spec_MailAny_1,hlt,h,ew]
      exact hLQ (pre++[x],post) ⟨by simp,by simp only [anyN,List.any_append,Bool.or_eq_false_iff] at e2 ⊢; exact ⟨e2,by simp [h]⟩⟩ (by simp) _ (by simp)

def con_mpolicy:List AV→Option AV
  | [.str s]=>some (.bool (polB s))
  | _=>none

theorem ok_mpolicy (Γ:Gam):∀ args r,con_mpolicy args=some r→runs Γ c_spec_mpolicy args (fun v=>v=r):=by
  intro args r h
  simp only [con_mpolicy] at h
  split at h <;> simp at h
  rename_i s
  subst h
  simp only [polB]
  by_cases h1:s=sNone
  · subst h1; simp [c_spec_mpolicy,sNone]
  · by_cases h2:s=sQuar
    · subst h2; simp [c_spec_mpolicy,sNone,sQuar]
    · have h1':=h1; have h2':=h2
      simp only [sNone,sQuar] at h1' h2'
      simp [c_spec_mpolicy,h1,h2,h1',h2',sReject]

def con_MPut1:List AV→Option AV
  | [.str s]=>if s.length < big then some (.bool (foOk s)) else none
  | _=>none

theorem ok_MPut1 (Γ:Gam) (h100:Γ.fn 100=con_MailAny):∀ args r,con_MPut1 args=some r→runs Γ c_spec_MPut_1 args (fun v=>v=r):=by
  intro args r h
  simp only [con_MPut1] at h
  split at h <;> (try simp at h; done)
  rename_i s
  obtain ⟨hs,rfl⟩:=ite_some h
  clear h
  have k:∀ c:UInt8,con_MailAny [.int .u8 c.toNat,.str [48,49,100,115]]=some (.bool (s01ds.contains c)):=by
    intro c
    have e:anyN c.toNat [48,49,100,115]=s01ds.contains c:=by
      simp only [anyN,s01ds,List.any_cons,List.any_nil,List.contains_cons,List.contains_nil,Bool.or_false]
      have q:∀ d:UInt8,decide ((d.toNat:Int)=(c.toNat:Int))=(c == d):=by
        intro d
        rw [Bool.eq_iff_iff]; simp
        rw [← UInt8.toNat_inj]; omega
      simp only [q]
    simp only [con_MailAny,e]
    exact if_pos (by simp [big])
  match s with
  | []=>simp [c_spec_MPut_1,foOk]
  | [c]=>simp [c_spec_MPut_1,foOk,acall,h100,k]
  | a::b::r =>
    simp at hs
    have e:¬ ((r.length:Int)+1+1=1):=by omega
    simp [c_spec_MPut_1,foOk,e]

def con_MPut2:List AV→Option AV
  | [.str s]=>some (.bool (decide (s=sAfrf)))
  | _=>none

theorem ok_MPut2 (Γ:Gam):∀ args r,con_MPut2 args=some r→runs Γ c_spec_MPut_2 args (fun v=>v=r):=by
  intro args r h
  simp only [con_MPut2] at h
  split at h <;> simp at h
  subst h
  simp [c_spec_MPut_2,sAfrf]
  exact decide_eq_decide.2 Iff.rfl

theorem kwB_true {x:UInt8} (h:(97≤(x.toNat:Int)∧(x.toNat:Int)≤122)∨(65≤(x.toNat:Int)∧(x.toNat:Int)≤90)∨(48≤(x.toNat:Int)∧(x.toNat:Int)≤57)∨(x.toNat:Int)=45):kwB x=true:=decide_eq_true (by omega)
theorem kwB_false {x:UInt8} (h:¬ ((97≤(x.toNat:Int)∧(x.toNat:Int)≤122)∨(65≤(x.toNat:Int)∧(x.toNat:Int)≤90)∨(48≤(x.toNat:Int)∧(x.toNat:Int)≤57)∨(x.toNat:Int)=45)):kwB x=false:=decide_eq_false (by omega)

def con_MailKeyword:List AV→Option AV
  | [.str s]=>if s.length < big then some (.bool (mKw s)) else none
  | _=>none

theorem mKw_bad {pre post:L8} {x:UInt8} (h:kwB x=false):mKw (pre++x::post)=false:=by simp [mKw,h]

theorem ok_MailKeyword (Γ:Gam):∀ args r,con_MailKeyword args=some r→runs Γ c_spec_MailKeyword args (fun v=>v=r):=by
  intro args r h
  simp only [con_MailKeyword] at h
  split at h <;> (try simp at h; done)
  rename_i s
  obtain ⟨hs,rfl⟩:=ite_some h
  clear h
  simp only [big] at hs
  simp -implicitDefEqProofs [c_spec_MailKeyword]
  refine awp_loop2 (σ:=L8 × L8) (fun p=>⟨[(0,.str s),(3,.int .i64 p.1.length)],[]⟩) (fun p=>s=p.1++p.2∧p.1.all kwB=true) (fun p=>p.2.length) ([],s) (by simp) (by simp) ?_
  rintro ⟨pre,post⟩ ⟨e1,e2⟩ LQ hLQ
  simp only at e1 e2
  subst e1
  cases post with
  | nil =>
    simp at hs
    cases pre with
    | nil=>simp -implicitDefEqProofs [b_spec_MailKeyword_1,t_spec_MailKeyword_2,mKw]
    | cons a pre =>
      simp at hs
      have ew:IntKind.i64.wrap (pre.length:Int)=pre.length:=wrap64 (by omega) (by omega)
      obtain ⟨z,hz⟩:∃ z,(a::pre)[pre.length]? = some z:=⟨(a::pre)[pre.length]'(by simp),by simp⟩
      have hl:(a::pre).getLast? = some z:=by rw [List.getLast?_eq_getElem?]; simpa using hz
      have eI:∀ c:UInt8,((c.toNat:Int)=45) ↔ c=45:=by
        intro c; rw [← UInt8.toNat_inj]; simp; omega
      have hk:mKw (a::pre)=(decide (¬ a=45) && decide (¬ z=45)):=by
        simp only [mKw,e2,hl]; simp
      simp only [List.append_nil]
      rw [hk]
      by_cases ha:a=45
      · subst ha
        simp -implicitDefEqProofs [b_spec_MailKeyword_1,t_spec_MailKeyword_2]
      · have ha':¬ ((a.toNat:Int)=45):=by rw [eI]; exact ha
        simp -implicitDefEqProofs [b_spec_MailKeyword_1,t_spec_MailKeyword_2,ha,ha',ew,hz,eI]
        rw [List.getElem?_eq_getElem (by simp)] at hz
        injection hz with hz
        rw [hz]
  | cons x post =>
    simp at hs
    have hlt:(pre.length:Int) < (pre.length:Int)+((post.length:Int)+1):=by omega
    have ew:IntKind.i64.wrap ((pre.length:Int)+1)=(pre.length:Int)+1:=wrap64 (by omega) (by omega)
    have good:kwB x=true→LQ ⟨[(0,.str (pre++x::post)),(3,.int .i64 ((pre.length:Int)+1))],[]⟩:=fun h =>
      hLQ (pre++[x],post) ⟨by simp,by simp only [List.all_append,e2,List.all_cons,h]; rfl⟩ (by simp) _ (by simp)
    simp -implicitDefEqProofs [b_spec_MailKeyword_1,hlt,ew]
    repeat' (first | apply And.intro | intro _)
    all_goals first | exact good (kwB_true (by omega)) | exact mKw_bad (kwB_false (by omega))

set_option maxRecDepth 100000 in
theorem tokB_eq {x:UInt8}:tokB x=(decide (32 < (x.toNat:Int)) && decide ((x.toNat:Int) < 127) && !anyN x.toNat tokStop):=by
  have e:anyN x.toNat tokStop=tokStop.contains x:=by
    rw [Bool.eq_iff_iff]
    simp only [anyN,List.any_eq_true,decide_eq_true_eq,List.contains_eq_mem]
    constructor
    · rintro ⟨y,hy,h⟩
      have:y=x:=UInt8.toNat_inj.1 (by omega)
      exact this ▸ hy
    · intro h; exact ⟨x,h,rfl⟩
  rw [tokB,e]
  congr 2
  · congr 1; rw [eq_iff_iff]; omega
  · congr 1; rw [eq_iff_iff]; omega

def con_MailToken:List AV→Option AV
  | [.str s]=>if s.length < big then some (.bool (mTok s)) else none
  | _=>none

set_option maxRecDepth 1000000 in
theorem ok_MailToken (Γ:Gam) (h100:Γ.fn 100=con_MailAny):∀ args r,con_MailToken args=some r→runs Γ c_spec_MailToken args (fun v=>v=r):=by
  intro args r h
  simp only [con_MailToken] at h
  split at h <;> (try simp at h; done)
  rename_i s
  obtain ⟨hs,rfl⟩:=ite_some h
  clear h
  simp only [big] at hs
  have k:∀ c:UInt8,con_MailAny [.int .u8 c.toNat,.str [40,41,60,62,64,44,59,58,92,34,47,91,93,63,61]]=some (.bool (anyN c.toNat tokStop)):=by
    intro c
    simp only [con_MailAny]
    exact if_pos (by simp [big])
  simp -implicitDefEqProofs [c_spec_MailToken]
  refine awp_loop2 (σ:=L8 × L8) (fun p=>⟨[(0,.str s),(3,.int .i64 p.1.length)],[]⟩) (fun p=>s=p.1++p.2∧p.1.all tokB=true) (fun p=>p.2.length) ([],s) (by simp) (by simp) ?_
  rintro ⟨pre,post⟩ ⟨e1,e2⟩ LQ hLQ
  simp only at e1 e2
  subst e1
  cases post with
  | nil=>simp -implicitDefEqProofs [b_spec_MailToken_1,t_spec_MailToken_2,mTok,e2]
  | cons x post =>
    simp at hs
    have hlt:(pre.length:Int) < (pre.length:Int)+((post.length:Int)+1):=by omega
    have ew:IntKind.i64.wrap ((pre.length:Int)+1)=(pre.length:Int)+1:=wrap64 (by omega) (by omega)
    have good:tokB x=true→LQ ⟨[(0,.str (pre++x::post)),(3,.int .i64 ((pre.length:Int)+1))],[]⟩:=fun h =>
      hLQ (pre++[x],post) ⟨by simp,by simp only [List.all_append,e2,List.all_cons,h]; rfl⟩ (by simp) _ (by simp)
    have bad:tokB x=false→mTok (pre++x::post)=false:=by intro h; simp [mTok,h]
    rw [tokB_eq] at good bad
    by_cases h1:(x.toNat:Int)≤32
    · have h1':¬ (32 < (x.toNat:Int)):=by omega
      have b:=bad (by simp [h1'])
      simp -implicitDefEqProofs [b_spec_MailToken_1,hlt,ew,h1,b]
    · have h1':32 < (x.toNat:Int):=by omega
      by_cases h2:127≤(x.toNat:Int)
      · have h2':¬ ((x.toNat:Int) < 127):=by omega
        have b:=bad (by simp [h2'])
        simp -implicitDefEqProofs [b_spec_MailToken_1,hlt,ew,h1,h2,b]
      · have h2':(x.toNat:Int) < 127:=by omega
        cases h3:anyN x.toNat tokStop with
        | true =>
          have b:=bad (by simp [h3])
          simp -implicitDefEqProofs [b_spec_MailToken_1,hlt,ew,h1,h2,acall,h100,k,h3,b]
        | false =>
          have g:=good (by simp [h3,h1',h2'])
          simp -implicitDefEqProofs [b_spec_MailToken_1,hlt,ew,h1,h2,acall,h100,k,h3,g]

theorem digB_iff {x:UInt8}:digB x=true ↔ ¬ ((x.toNat:Int) < 48)∧¬ (57 < (x.toNat:Int)):=by
  simp only [digB,decide_eq_true_eq]; omega

def numV2 (q:Int × Bool):AV:=.tup [.int .i64 q.1,.bool q.2]
def con_mnumber:List AV→Option AV
  | [.str s,.int .i64 m]=>if s.length < big then some (numV2 (mNum s m)) else none
  | _=>none

theorem numW_app (a b:L8) (n:Int):numW n (a++b)=numW (numW n a) b:=by simp [numW]

theorem ok_mnumber (Γ:Gam):∀ args r,con_mnumber args=some r→runs Γ c_spec_mnumber args (fun v=>v=r):=by
  intro args r h
  simp only [con_mnumber] at h
  split at h <;> (try simp at h; done)
  rename_i s m
  obtain ⟨hs,rfl⟩:=ite_some h
  clear h
  simp only [big] at hs
  simp -implicitDefEqProofs [c_spec_mnumber]
  refine awp_loop2 (σ:=L8 × L8) (fun p=>⟨[(0,.str s),(1,.int .i64 m),(6,.int .i64 (numW 0 p.1)),(7,.int .i64 p.1.length)],[]⟩) (fun p=>s=p.1++p.2∧p.1.all digB=true) (fun p=>p.2.length) ([],s) (by simp [numW]) (by simp) ?_
  rintro ⟨pre,post⟩ ⟨e1,e2⟩ LQ hLQ
  simp only at e1 e2
  subst e1
  cases post with
  | nil =>
    by_cases hp:pre=[]
    · subst hp; simp -implicitDefEqProofs [b_spec_mnumber_1,t_spec_mnumber_2,mNum,numV2]
    · simp -implicitDefEqProofs [b_spec_mnumber_1,t_spec_mnumber_2,mNum,e2,hp,numV2]
  | cons x post =>
    simp at hs
    have hlt:(pre.length:Int) < (pre.length:Int)+((post.length:Int)+1):=by omega
    have ew:IntKind.i64.wrap ((pre.length:Int)+1)=(pre.length:Int)+1:=wrap64 (by omega) (by omega)
    have hxb:=x.toNat_lt
    have bad:digB x=false→mNum (pre++x::post) m=(0,false):=by
      intro h; simp only [mNum,List.all_append,List.all_cons,h]; simp
    by_cases h1:(x.toNat:Int) < 48
    · have b:=bad (by rw [Bool.eq_false_iff,ne_eq,digB_iff]; omega)
      simp -implicitDefEqProofs [b_spec_mnumber_1,hlt,ew,h1,b,numV2]
    · by_cases h2:57 < (x.toNat:Int)
      · have b:=bad (by rw [Bool.eq_false_iff,ne_eq,digB_iff]; omega)
        simp -implicitDefEqProofs [b_spec_mnumber_1,hlt,ew,h1,h2,b,numV2]
      · have h3:digB x=true:=digB_iff.2 ⟨h1,h2⟩
        have ex:IntKind.u8.wrap ((x.toNat:Int) - 48)=(x.toNat:Int) - 48:=Go.IntWalk.u8_in _ ⟨by omega,by omega⟩
        have ex2:IntKind.i64.wrap ((x.toNat:Int) - 48)=(x.toNat:Int) - 48:=wrap64 (by omega) (by omega)
        simp -implicitDefEqProofs [b_spec_mnumber_1,hlt,ew,h1,h2,ex,ex2]
        refine hLQ (pre++[x],post) ⟨by simp,by simp only [List.all_append,e2,List.all_cons,h3]; rfl⟩ (by simp) _ ?_
        simp [numW_app]
        simp [numW]
end Wax


