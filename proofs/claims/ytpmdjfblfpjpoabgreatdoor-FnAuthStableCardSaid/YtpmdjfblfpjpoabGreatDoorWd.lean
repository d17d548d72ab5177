/- The machine by which the functions are read, and what is proved of them (part 4): no premise. -/
import Derived.Test.YtpmdjfblfpjpoabGreatDoorWc
set_option linter.all false
namespace Wax
open Go (IntKind)

def c_dmarc_zzIndex:SFn:=⟨2,
 (.seq
 (.region [⟨some 4,.mv (.k (.int .i64 0)),none⟩] [0,1] [] [])
 (.seq
 (.seq
 (.region [⟨some 5,.mv (.k (.int .i64 0)),none⟩] [0,1,5] [] [])
 (.block 0
 (.loop [0,1,5]
 (.seq
 (.seq
 (.region [⟨some 6,.mv (.t 5),none⟩,⟨some 7,.mv (.t 1),none⟩,⟨some 8,.len 0 (.t 7),none⟩,⟨some 9,.bin .add (.t 6) (.t 8),none⟩,⟨some 10,.mv (.t 0),none⟩,⟨some 11,.len 0 (.t 10),none⟩,⟨some 12,.bin .leq (.t 9) (.t 11),none⟩] [0,1,5,12] [] [[],[],[7],[6,8],[],[10]])
 (.cond (.t 12)
 .skip
 (.exit 0)))
 (.seq
 (.block 1
 (.seq
 (.region [⟨some 15,.mv (.t 0),none⟩,⟨some 16,.mv (.t 5),none⟩,⟨some 17,.mv (.t 5),none⟩,⟨some 18,.mv (.t 1),none⟩,⟨some 19,.len 0 (.t 18),none⟩,⟨some 20,.bin .add (.t 17) (.t 19),none⟩,⟨some 21,.slStr (.t 15) (some (.t 16)) (some (.t 20)),none⟩,⟨some 22,.mv (.t 1),none⟩,⟨some 23,.bin .eql (.t 21) (.t 22),none⟩] [0,1,5,23] [] [[],[],[],[],[18],[17,19],[15,16,20]])
 (.cond (.t 23)
 (.seq
 (.region [⟨some 24,.mv (.t 5),none⟩,⟨some 4,.mv (.t 24),none⟩] [4] [] [[5]])
 .ret)
 .skip)))
 (.region [⟨some 13,.mv (.t 5),none⟩,⟨some 14,.bin .add (.t 13) (.k (.int .i64 1)),none⟩,⟨some 5,.mv (.t 14),none⟩] [0,1,5] [] [[],[13]]))))))
 (.seq
 (.region [⟨some 4,.mv (.k (.int .i64 (-1))),none⟩] [4] [] [])
 .ret))),
 [.t 4]⟩

def l_dmarc_zzIndex:Lay:={ rg:=[(0,([0,1],[])),(1,([0,1,5],[])),(2,([0,1,5,12],[])),(3,([0,1,5],[])),(4,([0,1,5,23],[])),(5,([4],[])),(6,([4],[])),(1000002,([0,1,5],[]))],dd:=[(2,[[],[],[7],[6,8],[],[10]]),(3,[[],[13]]),(4,[[],[],[],[],[18],[17,19],[15,16,20]]),(5,[[5]])] }

def b_dmarc_zzSplit_1:SCode :=
 (.seq
 (.region [⟨some 14,.nextS (.t 13),none⟩,⟨some 15,.extr (.t 14) 0,none⟩] [0,5,6,13,14,15] [] [])
 (.seq
 (.cond (.t 15)
 .skip
 (.exit 0))
 (.block 1
 (.seq
 (.region [⟨some 16,.extr (.t 14) 1,none⟩,⟨some 7,.mv (.t 16),none⟩] [0,5,6,7,13] [] [[14]])
 (.seq
 (.region [⟨some 17,.mv (.t 7),none⟩,⟨some 18,.bin .gtr (.t 17) (.k (.int .i64 0)),none⟩] [0,5,6,7,13,18] [] [])
 (.cond (.t 18)
 (.seq
 (.region [⟨some 19,.mv (.t 5),none⟩,⟨some 20,.mv (.t 0),none⟩,⟨some 21,.mv (.t 6),none⟩,⟨some 22,.mv (.t 7),none⟩,⟨some 23,.slStr (.t 20) (some (.t 21)) (some (.t 22)),none⟩,⟨some 24,.mkSl 1 1 [(.str [])] [(0,(.t 23))],none⟩,⟨some 25,.app 1 16 (.t 19) (.t 24),none⟩,⟨some 5,.mv (.t 25),none⟩] [0,5,7,13] [24] [[],[],[6],[],[20,21,22],[23],[19,24]])
 (.region [⟨some 26,.mv (.t 7),none⟩,⟨some 6,.mv (.t 26),none⟩] [0,5,6,13] [] [[7]]))
 .skip))))))

def t_dmarc_zzSplit_2:SCode :=
 (.seq
 (.seq
 (.region [⟨some 27,.mv (.t 0),none⟩,⟨some 28,.len 0 (.t 27),none⟩,⟨some 29,.bin .gtr (.t 28) (.k (.int .i64 0)),none⟩] [0,5,6,29] [13] [[],[27]])
 (.cond (.t 29)
 (.region [⟨some 30,.mv (.t 5),none⟩,⟨some 31,.mv (.t 0),none⟩,⟨some 32,.mv (.t 6),none⟩,⟨some 33,.slStr (.t 31) (some (.t 32)) none,none⟩,⟨some 34,.mkSl 1 1 [(.str [])] [(0,(.t 33))],none⟩,⟨some 35,.app 1 16 (.t 30) (.t 34),none⟩,⟨some 5,.mv (.t 35),none⟩] [5] [34] [[],[0],[6],[31,32],[33],[30,34]])
 .skip))
 (.seq
 (.region [⟨some 36,.mv (.t 5),none⟩,⟨some 4,.mv (.t 36),none⟩] [4] [] [[5]])
 .ret))

def b_dmarc_zzSplit_3:SCode :=
 (.block 3
 (.seq
 (.region [⟨some 37,.mv (.t 0),none⟩,⟨some 38,.mv (.t 1),none⟩,⟨some 39,.call 161 [(.t 37),(.t 38)],none⟩,⟨some 8,.mv (.t 39),none⟩] [0,1,5,8] [] [[],[],[37,38]])
 (.seq
 (.seq
 (.region [⟨some 40,.mv (.t 8),none⟩,⟨some 41,.bin .lss (.t 40) (.k (.int .i64 0)),none⟩] [0,1,5,8,41] [] [])
 (.cond (.t 41)
 (.seq
 (.region [⟨some 42,.mv (.t 5),none⟩,⟨some 43,.mv (.t 0),none⟩,⟨some 44,.mkSl 1 1 [(.str [])] [(0,(.t 43))],none⟩,⟨some 45,.app 1 16 (.t 42) (.t 44),none⟩,⟨some 4,.mv (.t 45),none⟩] [4] [44] [[5],[0],[43],[42,44]])
 .ret)
 .skip))
 (.seq
 (.region [⟨some 46,.mv (.t 5),none⟩,⟨some 47,.mv (.t 0),none⟩,⟨some 48,.mv (.t 8),none⟩,⟨some 49,.slStr (.t 47) none (some (.t 48)),none⟩,⟨some 50,.mkSl 1 1 [(.str [])] [(0,(.t 49))],none⟩,⟨some 51,.app 1 16 (.t 46) (.t 50),none⟩,⟨some 5,.mv (.t 51),none⟩] [0,1,5,8] [50] [[],[],[],[47,48],[49],[46,50]])
 (.region [⟨some 52,.mv (.t 0),none⟩,⟨some 53,.mv (.t 8),none⟩,⟨some 54,.mv (.t 1),none⟩,⟨some 55,.len 0 (.t 54),none⟩,⟨some 56,.bin .add (.t 53) (.t 55),none⟩,⟨some 57,.slStr (.t 52) (some (.t 56)) none,none⟩,⟨some 0,.mv (.t 57),none⟩] [0,1,5] [] [[],[8],[],[54],[53,55],[52,56]])))))

def t_dmarc_zzSplit_4:SCode :=
 (.block 2
 (.loop [0,1,5]
 b_dmarc_zzSplit_3))

def c_dmarc_zzSplit:SFn:=⟨2,
 (.seq
 (.region [⟨some 4,.mv (.k .nilS),none⟩] [0,1] [] [])
 (.seq
 (.region [⟨some 5,.mv (.k .nilS),none⟩] [0,1,5] [] [])
 (.seq
 (.seq
 (.region [⟨some 9,.mv (.t 1),none⟩,⟨some 10,.len 0 (.t 9),none⟩,⟨some 11,.bin .eql (.t 10) (.k (.int .i64 0)),none⟩] [0,1,5,11] [] [[],[9]])
 (.cond (.t 11)
 (.seq
 (.region [⟨some 6,.mv (.k (.int .i64 0)),none⟩] [0,5,6] [] [])
 (.seq
 (.seq
 (.region [⟨some 12,.mv (.t 0),none⟩,⟨some 13,.rangeS (.t 12),none⟩] [0,5,6,13] [] [])
 (.block 0
 (.loop [0,5,6,13]
 b_dmarc_zzSplit_1)))
 t_dmarc_zzSplit_2))
 .skip))
 t_dmarc_zzSplit_4))),
 [.t 4]⟩

def l_dmarc_zzSplit:Lay:={ rg:=[(0,([0,1],[])),(1,([0,1,5],[])),(2,([0,1,5,11],[])),(3,([0,5,6],[])),(4,([0,5,6,13],[])),(5,([0,5,6,13,14,15],[])),(6,([0,5,6,7,13],[])),(7,([0,5,6,7,13,18],[])),(8,([0,5,7,13],[24])),(9,([0,5,6,13],[])),(10,([0,5,6,29],[13])),(11,([5],[34])),(12,([4],[])),(13,([0,1,5,8],[])),(14,([0,1,5,8,41],[])),(15,([4],[44])),(16,([0,1,5,8],[50])),(17,([0,1,5],[])),(1000005,([0,5,6,13],[])),(1000013,([0,1,5],[]))],dd:=[(2,[[],[9]]),(6,[[14]]),(8,[[],[],[6],[],[20,21,22],[23],[19,24]]),(9,[[7]]),(10,[[],[27]]),(11,[[],[0],[6],[31,32],[33],[30,34]]),(12,[[5]]),(13,[[],[],[37,38]]),(15,[[5],[0],[43],[42,44]]),(16,[[],[],[],[47,48],[49],[46,50]]),(17,[[],[8],[],[54],[53,55],[52,56]])] }

def c_dmarc_zzIsSpace:SFn:=⟨1,
 (.seq
 (.region [⟨some 2,.mv (.k (.bool false)),none⟩] [0] [] [])
 (.seq
 (.block 0
 (.seq
 (.seq
 (.region [⟨some 4,.mv (.t 0),none⟩,⟨some 5,.bin .geq (.t 4) (.k (.int .i32 9)),none⟩,⟨some 6,.mv (.t 5),none⟩,⟨some 7,.mv (.t 0),some (6,true)⟩,⟨some 8,.bin .leq (.t 7) (.k (.int .i32 13)),some (6,true)⟩,⟨some 9,.pick (.t 6) (.t 8) (.k (.bool false)),none⟩,⟨some 3,.mv (.t 9),none⟩] [0,3] [] [[],[4],[5],[],[7],[6,8]])
 (.cond (.t 3)
 .skip
 (.seq
 (.region [⟨some 10,.mv (.t 0),none⟩,⟨some 11,.bin .eql (.t 10) (.k (.int .i32 32)),none⟩,⟨some 3,.mv (.t 11),none⟩] [0,3] [] [[],[10]])
 (.cond (.t 3)
 .skip
 (.seq
 (.region [⟨some 12,.mv (.t 0),none⟩,⟨some 13,.bin .eql (.t 12) (.k (.int .i32 133)),none⟩,⟨some 3,.mv (.t 13),none⟩] [0,3] [] [[],[12]])
 (.cond (.t 3)
 .skip
 (.seq
 (.region [⟨some 14,.mv (.t 0),none⟩,⟨some 15,.bin .eql (.t 14) (.k (.int .i32 160)),none⟩,⟨some 3,.mv (.t 15),none⟩] [0,3] [] [[],[14]])
 (.cond (.t 3)
 .skip
 (.seq
 (.region [⟨some 16,.mv (.t 0),none⟩,⟨some 17,.bin .eql (.t 16) (.k (.int .i32 5760)),none⟩,⟨some 3,.mv (.t 17),none⟩] [0,3] [] [[],[16]])
 (.cond (.t 3)
 .skip
 (.seq
 (.region [⟨some 18,.mv (.t 0),none⟩,⟨some 19,.bin .geq (.t 18) (.k (.int .i32 8192)),none⟩,⟨some 20,.mv (.t 19),none⟩,⟨some 21,.mv (.t 0),some (20,true)⟩,⟨some 22,.bin .leq (.t 21) (.k (.int .i32 8202)),some (20,true)⟩,⟨some 23,.pick (.t 20) (.t 22) (.k (.bool false)),none⟩,⟨some 3,.mv (.t 23),none⟩] [0,3] [] [[],[18],[19],[],[21],[20,22]])
 (.cond (.t 3)
 .skip
 (.seq
 (.region [⟨some 24,.mv (.t 0),none⟩,⟨some 25,.bin .eql (.t 24) (.k (.int .i32 8232)),none⟩,⟨some 3,.mv (.t 25),none⟩] [0,3] [] [[],[24]])
 (.cond (.t 3)
 .skip
 (.seq
 (.region [⟨some 26,.mv (.t 0),none⟩,⟨some 27,.bin .eql (.t 26) (.k (.int .i32 8233)),none⟩,⟨some 3,.mv (.t 27),none⟩] [0,3] [] [[],[26]])
 (.cond (.t 3)
 .skip
 (.seq
 (.region [⟨some 28,.mv (.t 0),none⟩,⟨some 29,.bin .eql (.t 28) (.k (.int .i32 8239)),none⟩,⟨some 3,.mv (.t 29),none⟩] [0,3] [] [[],[28]])
 (.cond (.t 3)
 .skip
 (.seq
 (.region [⟨some 30,.mv (.t 0),none⟩,⟨some 31,.bin .eql (.t 30) (.k (.int .i32 8287)),none⟩,⟨some 3,.mv (.t 31),none⟩] [0,3] [] [[],[30]])
 (.cond (.t 3)
 .skip
 (.region [⟨some 32,.mv (.t 0),none⟩,⟨some 33,.bin .eql (.t 32) (.k (.int .i32 12288)),none⟩,⟨some 3,.mv (.t 33),none⟩] [3] [] [[0],[32]])))))))))))))))))))))
 (.cond (.t 3)
 (.seq
 (.region [⟨some 2,.mv (.k (.bool true)),none⟩] [2] [] [])
 .ret)
 .skip)))
 (.seq
 (.region [⟨some 2,.mv (.k (.bool false)),none⟩] [2] [] [])
 .ret))),
 [.t 2]⟩

def l_dmarc_zzIsSpace:Lay:={ rg:=[(0,([0],[])),(1,([0,3],[])),(2,([0,3],[])),(3,([0,3],[])),(4,([0,3],[])),(5,([0,3],[])),(6,([0,3],[])),(7,([0,3],[])),(8,([0,3],[])),(9,([0,3],[])),(10,([0,3],[])),(11,([3],[])),(12,([2],[])),(13,([2],[]))],dd:=[(1,[[],[4],[5],[],[7],[6,8]]),(2,[[],[10]]),(3,[[],[12]]),(4,[[],[14]]),(5,[[],[16]]),(6,[[],[18],[19],[],[21],[20,22]]),(7,[[],[24]]),(8,[[],[26]]),(9,[[],[28]]),(10,[[],[30]]),(11,[[0],[32]])] }

def b_dmarc_zzTrimSpace_1:SCode :=
 (.seq
 (.region [⟨some 17,.nextS (.t 16),none⟩,⟨some 18,.extr (.t 17) 0,none⟩] [0,3,4,16,17,18] [] [])
 (.seq
 (.cond (.t 18)
 .skip
 (.exit 0))
 (.block 1
 (.seq
 (.region [⟨some 19,.extr (.t 17) 1,none⟩,⟨some 20,.extr (.t 17) 2,none⟩,⟨some 5,.mv (.t 19),none⟩,⟨some 6,.mv (.t 20),none⟩] [0,3,4,5,6,16] [] [[],[17],[19]])
 (.seq
 (.region [⟨some 21,.mv (.t 6),none⟩,⟨some 22,.call 168 [(.t 21)],none⟩,⟨some 23,.un .not (.t 22),none⟩] [0,3,4,5,16,23] [] [[6],[21]])
 (.cond (.t 23)
 (.seq
 (.region [⟨some 24,.mv (.t 5),none⟩,⟨some 3,.mv (.t 24),none⟩] [0,3,4] [16] [[5]])
 (.exit 0))
 .skip))))))

def b_dmarc_zzTrimSpace_2:SCode :=
 (.seq
 (.seq
 (.region [⟨some 30,.mv (.t 8),none⟩,⟨some 31,.bin .lss (.t 30) (.k (.int .i64 4)),none⟩,⟨some 32,.mv (.t 31),none⟩,⟨some 33,.mv (.t 7),some (32,true)⟩,⟨some 34,.mv (.t 8),some (32,true)⟩,⟨some 35,.bin .add (.t 33) (.t 34),some (32,true)⟩,⟨some 36,.mv (.t 0),some (32,true)⟩,⟨some 37,.len 0 (.t 36),some (32,true)⟩,⟨some 38,.bin .lss (.t 35) (.t 37),some (32,true)⟩,⟨some 39,.pick (.t 32) (.t 38) (.k (.bool false)),none⟩,⟨some 40,.mv (.t 39),none⟩,⟨some 41,.mv (.t 0),some (40,true)⟩,⟨some 42,.mv (.t 7),some (40,true)⟩,⟨some 43,.iStr (.t 41) (.t 42),some (40,true)⟩,⟨some 44,.bin .geq (.t 43) (.k (.int .u8 192)),some (40,true)⟩,⟨some 45,.pick (.t 40) (.t 44) (.k (.bool false)),none⟩,⟨some 46,.mv (.t 45),none⟩,⟨some 47,.mv (.t 0),some (46,true)⟩,⟨some 48,.mv (.t 7),some (46,true)⟩,⟨some 49,.mv (.t 8),some (46,true)⟩,⟨some 50,.bin .add (.t 48) (.t 49),some (46,true)⟩,⟨some 51,.iStr (.t 47) (.t 50),some (46,true)⟩,⟨some 52,.bin .and (.t 51) (.k (.int .u8 192)),some (46,true)⟩,⟨some 53,.bin .eql (.t 52) (.k (.int .u8 128)),some (46,true)⟩,⟨some 54,.pick (.t 46) (.t 53) (.k (.bool false)),none⟩] [0,3,4,7,8,54] [] [[],[30],[31],[],[],[33,34],[],[36],[35,37],[32,38],[39],[],[],[41,42],[43],[40,44],[45],[],[],[],[48,49],[47,50],[51],[52]])
 (.cond (.t 54)
 .skip
 (.exit 4)))
 (.block 5
 (.region [⟨some 55,.mv (.t 8),none⟩,⟨some 56,.bin .add (.t 55) (.k (.int .i64 1)),none⟩,⟨some 8,.mv (.t 56),none⟩] [0,3,4,7,8] [] [[],[55]])))

def t_dmarc_zzTrimSpace_3:SCode :=
 (.seq
 (.seq
 (.region [⟨some 57,.mv (.t 0),none⟩,⟨some 58,.mv (.t 7),none⟩,⟨some 59,.mv (.t 7),none⟩,⟨some 60,.mv (.t 8),none⟩,⟨some 61,.bin .add (.t 59) (.t 60),none⟩,⟨some 62,.slStr (.t 57) (some (.t 58)) (some (.t 61)),none⟩,⟨some 63,.cStrRunes (.t 62),none⟩,⟨some 9,.mv (.t 63),none⟩] [0,3,4,7,8,9] [] [[],[],[],[],[59,60],[57,58,61],[62]])
 (.seq
 (.region [⟨some 64,.mv (.t 9),none⟩,⟨some 65,.len 1 (.t 64),none⟩,⟨some 66,.bin .gtr (.t 65) (.k (.int .i64 1)),none⟩] [0,3,4,7,8,66] [63] [[9],[64]])
 (.cond (.t 66)
 (.region [⟨some 8,.mv (.k (.int .i64 1)),none⟩] [0,3,4,7,8] [] [])
 .skip)))
 (.seq
 (.seq
 (.region [⟨some 67,.mv (.t 0),none⟩,⟨some 68,.mv (.t 7),none⟩,⟨some 69,.mv (.t 7),none⟩,⟨some 70,.mv (.t 8),none⟩,⟨some 71,.bin .add (.t 69) (.t 70),none⟩,⟨some 72,.slStr (.t 67) (some (.t 68)) (some (.t 71)),none⟩,⟨some 73,.cStrRunes (.t 72),none⟩,⟨some 10,.mv (.t 73),none⟩] [0,3,4,7,8,10] [] [[],[],[],[],[69,70],[67,68,71],[72]])
 (.seq
 (.region [⟨some 74,.mv (.t 10),none⟩,⟨some 75,.len 1 (.t 74),none⟩,⟨some 76,.bin .neq (.t 75) (.k (.int .i64 1)),none⟩,⟨some 77,.mv (.t 76),none⟩,⟨some 78,.mv (.t 10),some (77,false)⟩,⟨some 79,.iAddr 1 (.t 78) (.k (.int .i64 0)),some (77,false)⟩,⟨some 80,.load none (.t 79),some (77,false)⟩,⟨some 81,.call 168 [(.t 80)],some (77,false)⟩,⟨some 82,.un .not (.t 81),some (77,false)⟩,⟨some 83,.pick (.t 77) (.k (.bool true)) (.t 82),none⟩] [0,3,4,7,8,83] [73] [[],[74],[75],[76],[10],[78],[79],[80],[81]])
 (.cond (.t 83)
 (.region [⟨some 84,.mv (.t 7),none⟩,⟨some 85,.mv (.t 8),none⟩,⟨some 86,.bin .add (.t 84) (.t 85),none⟩,⟨some 4,.mv (.t 86),none⟩] [0,3,4,7,8] [] [[],[],[84,85]])
 .skip)))
 (.region [⟨some 87,.mv (.t 7),none⟩,⟨some 88,.mv (.t 8),none⟩,⟨some 89,.bin .add (.t 87) (.t 88),none⟩,⟨some 7,.mv (.t 89),none⟩] [0,3,4,7] [] [[],[8],[87,88]])))

def b_dmarc_zzTrimSpace_4:SCode :=
 (.seq
 (.seq
 (.region [⟨some 26,.mv (.t 7),none⟩,⟨some 27,.mv (.t 0),none⟩,⟨some 28,.len 0 (.t 27),none⟩,⟨some 29,.bin .lss (.t 26) (.t 28),none⟩] [0,3,4,7,29] [] [[],[],[27]])
 (.cond (.t 29)
 .skip
 (.exit 2)))
 (.block 3
 (.seq
 (.region [⟨some 8,.mv (.k (.int .i64 1)),none⟩] [0,3,4,7,8] [] [])
 (.seq
 (.block 4
 (.loop [0,3,4,7,8]
 b_dmarc_zzTrimSpace_2))
 t_dmarc_zzTrimSpace_3))))

def t_dmarc_zzTrimSpace_5:SCode :=
 (.seq
 (.seq
 (.region [⟨some 90,.mv (.t 3),none⟩,⟨some 91,.mv (.t 0),none⟩,⟨some 92,.len 0 (.t 91),none⟩,⟨some 93,.bin .eql (.t 90) (.t 92),none⟩] [0,3,4,93] [] [[],[],[91]])
 (.cond (.t 93)
 (.seq
 (.region [⟨some 2,.mv (.k (.str [])),none⟩] [2] [] [])
 .ret)
 .skip))
 (.seq
 (.region [⟨some 94,.mv (.t 0),none⟩,⟨some 95,.mv (.t 3),none⟩,⟨some 96,.mv (.t 4),none⟩,⟨some 97,.slStr (.t 94) (some (.t 95)) (some (.t 96)),none⟩,⟨some 2,.mv (.t 97),none⟩] [2] [] [[0],[3],[4],[94,95,96]])
 .ret))

def t_dmarc_zzTrimSpace_6:SCode :=
 (.seq
 (.seq
 (.region [⟨some 25,.mv (.t 3),none⟩,⟨some 7,.mv (.t 25),none⟩] [0,3,4,7] [16] [])
 (.block 2
 (.loop [0,3,4,7]
 b_dmarc_zzTrimSpace_4)))
 t_dmarc_zzTrimSpace_5)

def c_dmarc_zzTrimSpace:SFn:=⟨1,
 (.seq
 (.region [⟨some 2,.mv (.k (.str [])),none⟩] [0] [] [])
 (.seq
 (.region [⟨some 11,.mv (.t 0),none⟩,⟨some 12,.len 0 (.t 11),none⟩,⟨some 13,.mv (.t 0),none⟩,⟨some 14,.len 0 (.t 13),none⟩,⟨some 3,.mv (.t 12),none⟩,⟨some 4,.mv (.t 14),none⟩] [0,3,4] [] [[],[11],[],[13],[12]])
 (.seq
 (.seq
 (.region [⟨some 15,.mv (.t 0),none⟩,⟨some 16,.rangeS (.t 15),none⟩] [0,3,4,16] [] [])
 (.block 0
 (.loop [0,3,4,16]
 b_dmarc_zzTrimSpace_1)))
 t_dmarc_zzTrimSpace_6))),
 [.t 2]⟩

def l_dmarc_zzTrimSpace:Lay:={ rg:=[(0,([0],[])),(1,([0,3,4],[])),(2,([0,3,4,16],[])),(3,([0,3,4,16,17,18],[])),(4,([0,3,4,5,6,16],[])),(5,([0,3,4,5,16,23],[])),(6,([0,3,4],[16])),(7,([0,3,4,7],[16])),(8,([0,3,4,7,29],[])),(9,([0,3,4,7,8],[])),(10,([0,3,4,7,8,54],[])),(11,([0,3,4,7,8],[])),(12,([0,3,4,7,8,9],[])),(13,([0,3,4,7,8,66],[63])),(14,([0,3,4,7,8],[])),(15,([0,3,4,7,8,10],[])),(16,([0,3,4,7,8,83],[73])),(17,([0,3,4,7,8],[])),(18,([0,3,4,7],[])),(19,([0,3,4,93],[])),(20,([2],[])),(21,([2],[])),(1000003,([0,3,4,16],[])),(1000008,([0,3,4,7],[])),(1000010,([0,3,4,7,8],[]))],dd:=[(1,[[],[11],[],[13],[12]]),(4,[[],[17],[19]]),(5,[[6],[21]]),(6,[[5]]),(8,[[],[],[27]]),(10,[[],[30],[31],[],[],[33,34],[],[36],[35,37],[32,38],[39],[],[],[41,42],[43],[40,44],[45],[],[],[],[48,49],[47,50],[51],[52]]),(11,[[],[55]]),(12,[[],[],[],[],[59,60],[57,58,61],[62]]),(13,[[9],[64]]),(15,[[],[],[],[],[69,70],[67,68,71],[72]]),(16,[[],[74],[75],[76],[10],[78],[79],[80],[81]]),(17,[[],[],[84,85]]),(18,[[],[8],[87,88]]),(19,[[],[],[91]]),(21,[[0],[3],[4],[94,95,96]])] }

def b_dmarc_zzCut2_1:SCode :=
 (.seq
 (.seq
 (.region [⟨some 6,.mv (.t 5),none⟩,⟨some 7,.mv (.t 0),none⟩,⟨some 8,.len 0 (.t 7),none⟩,⟨some 9,.bin .lss (.t 6) (.t 8),none⟩] [0,1,5,9] [] [[],[],[7]])
 (.cond (.t 9)
 .skip
 (.exit 0)))
 (.seq
 (.block 1
 (.seq
 (.region [⟨some 12,.mv (.t 0),none⟩,⟨some 13,.mv (.t 5),none⟩,⟨some 14,.iStr (.t 12) (.t 13),none⟩,⟨some 15,.mv (.t 1),none⟩,⟨some 16,.bin .eql (.t 14) (.t 15),none⟩] [0,1,5,16] [] [[],[],[12,13]])
 (.cond (.t 16)
 (.seq
 (.region [⟨some 17,.mv (.t 0),none⟩,⟨some 18,.mv (.t 5),none⟩,⟨some 19,.slStr (.t 17) none (some (.t 18)),none⟩,⟨some 20,.mv (.t 0),none⟩,⟨some 21,.mv (.t 5),none⟩,⟨some 22,.bin .add (.t 21) (.k (.int .i64 1)),none⟩,⟨some 23,.slStr (.t 20) (some (.t 22)) none,none⟩,⟨some 24,.mkSl 1 2 [(.str [])] [(0,(.t 19)),(1,(.t 23))],none⟩,⟨some 4,.mv (.t 24),none⟩] [4] [] [])
 .ret)
 .skip)))
 (.region [⟨some 10,.mv (.t 5),none⟩,⟨some 11,.bin .add (.t 10) (.k (.int .i64 1)),none⟩,⟨some 5,.mv (.t 11),none⟩] [0,1,5] [] [[],[10]])))

def t_dmarc_zzCut2_2:SCode :=
 (.seq
 (.region [⟨some 25,.mv (.t 0),none⟩,⟨some 26,.mkSl 1 1 [(.str [])] [(0,(.t 25))],none⟩,⟨some 4,.mv (.t 26),none⟩] [4] [] [[0],[25]])
 .ret)

def c_dmarc_zzCut2:SFn:=⟨2,
 (.seq
 (.region [⟨some 4,.mv (.k .nilS),none⟩] [0,1] [] [])
 (.seq
 (.seq
 (.region [⟨some 5,.mv (.k (.int .i64 0)),none⟩] [0,1,5] [] [])
 (.block 0
 (.loop [0,1,5]
 b_dmarc_zzCut2_1)))
 t_dmarc_zzCut2_2)),
 [.t 4]⟩

def l_dmarc_zzCut2:Lay:={ rg:=[(0,([0,1],[])),(1,([0,1,5],[])),(2,([0,1,5,9],[])),(3,([0,1,5],[])),(4,([0,1,5,16],[])),(5,([4],[])),(6,([4],[])),(1000002,([0,1,5],[]))],dd:=[(2,[[],[],[7]]),(3,[[],[10]]),(4,[[],[],[12,13]]),(6,[[0],[25]])] }

def b_dmarc_parseParams_1:SCode :=
 (.seq
 (.region [⟨some 15,.bin .lss (.t 14) (.t 13),none⟩] [5,12,13,14,15] [] [])
 (.seq
 (.cond (.t 15)
 .skip
 (.exit 0))
 (.seq
 (.block 1
 (.seq
 (.region [⟨some 16,.iAddr 1 (.t 12) (.t 14),none⟩,⟨some 17,.load none (.t 16),none⟩,⟨some 7,.mv (.t 17),none⟩] [5,7,12,13,14] [] [[],[16]])
 (.seq
 (.region [⟨some 18,.mv (.t 7),none⟩,⟨some 19,.call 159 [(.t 18),(.k (.int .u8 61))],none⟩,⟨some 8,.mv (.t 19),none⟩] [5,7,8,12,13,14] [] [[],[18]])
 (.seq
 (.seq
 (.region [⟨some 20,.mv (.t 8),none⟩,⟨some 21,.len 1 (.t 20),none⟩,⟨some 22,.bin .neq (.t 21) (.k (.int .i64 2)),none⟩] [5,7,8,12,13,14,22] [] [[],[20]])
 (.cond (.t 22)
 (.seq
 (.seq
 (.region [⟨some 23,.mv (.t 7),none⟩,⟨some 24,.call 160 [(.t 23)],none⟩,⟨some 25,.bin .eql (.t 24) (.k (.str [])),none⟩] [5,12,13,14,25] [] [[7],[23]])
 (.cond (.t 25)
 (.exit 1)
 .skip))
 (.seq
 (.region [⟨some 26,.mv (.t 5),none⟩,⟨some 27,.call 50 [(.k (.str [100,109,97,114,99,58,32,109,97,108,102,111,114,109,101,100,32,112,97,114,97,109,115]))],none⟩,⟨some 2,.mv (.t 26),none⟩,⟨some 3,.mv (.t 27),none⟩] [2,3] [10,100010] [[5],[],[26]])
 .ret))
 .skip))
 (.region [⟨some 28,.mv (.t 5),none⟩,⟨some 29,.mv (.t 8),none⟩,⟨some 30,.iAddr 1 (.t 29) (.k (.int .i64 0)),none⟩,⟨some 31,.load none (.t 30),none⟩,⟨some 32,.call 160 [(.t 31)],none⟩,⟨some 33,.mv (.t 8),none⟩,⟨some 34,.iAddr 1 (.t 33) (.k (.int .i64 1)),none⟩,⟨some 35,.load none (.t 34),none⟩,⟨some 36,.call 160 [(.t 35)],none⟩,
 ⟨none,.mput (.t 28) (.t 32) (.t 36),none⟩] [5,12,13,14] [] [])))))
 (.region [⟨some 37,.bin .add (.t 14) (.k (.int .i64 1)),none⟩,⟨some 14,.mv (.t 37),none⟩] [5,12,13,14] [] []))))

def t_dmarc_parseParams_2:SCode :=
 (.seq
 (.region [⟨some 38,.mv (.t 5),none⟩,⟨some 2,.mv (.t 38),none⟩,⟨some 3,.mv (.k .nilI),none⟩] [2,3] [10,100010] [[5],[38]])
 .ret)

def c_dmarc_parseParams:SFn:=⟨1,
 (.seq
 (.region [⟨some 2,.mv (.k .nilM),none⟩,⟨some 3,.mv (.k .nilI),none⟩] [0] [] [[2]])
 (.seq
 (.region [⟨some 9,.mv (.t 0),none⟩,⟨some 10,.callS 154 [(.t 9),(.k (.str [59]))],none⟩,⟨some 4,.mv (.t 10),none⟩] [4] [] [[0],[9]])
 (.seq
 (.region [⟨some 11,.mkMap,none⟩,⟨some 5,.mv (.t 11),none⟩] [4,5] [] [])
 (.seq
 (.seq
 (.region [⟨some 12,.mv (.t 4),none⟩,⟨some 13,.len 1 (.t 12),none⟩,⟨some 14,.mv (.k (.int .i64 0)),none⟩] [5,12,13,14] [] [[4]])
 (.block 0
 (.loop [5,12,13,14]
 b_dmarc_parseParams_1)))
 t_dmarc_parseParams_2)))),
 [.t 2,.t 3]⟩

def l_dmarc_parseParams:Lay:={ rg:=[(0,([0],[])),(1,([4],[])),(2,([4,5],[])),(3,([5,12,13,14],[])),(4,([5,12,13,14,15],[])),(5,([5,7,12,13,14],[])),(6,([5,7,8,12,13,14],[])),(7,([5,7,8,12,13,14,22],[])),(8,([5,12,13,14,25],[])),(9,([2,3],[10,100010])),(10,([5,12,13,14],[])),(11,([5,12,13,14],[])),(12,([2,3],[10,100010])),(1000004,([5,12,13,14],[]))],dd:=[(0,[[2]]),(1,[[0],[9]]),(3,[[4]]),(5,[[],[16]]),(6,[[],[18]]),(7,[[],[20]]),(8,[[7],[23]]),(9,[[5],[],[26]]),(12,[[5],[38]])],sf:=[154] }

def c_dmarc_parsePolicy:SFn:=⟨2,
 (.seq
 (.region [⟨some 4,.mv (.k (.str [])),none⟩,⟨some 5,.mv (.k .nilI),none⟩] [0,1] [] [[4]])
 (.seq
 (.region [⟨some 6,.mv (.t 0),none⟩] [0,1,6] [] [])
 (.block 0
 (.seq
 (.seq
 (.region [⟨some 11,.bin .eql (.t 6) (.k (.str [110,111,110,101])),none⟩,⟨some 10,.mv (.t 11),none⟩] [0,1,6,10] [] [])
 (.cond (.t 10)
 .skip
 (.seq
 (.region [⟨some 12,.bin .eql (.t 6) (.k (.str [113,117,97,114,97,110,116,105,110,101])),none⟩,⟨some 10,.mv (.t 12),none⟩] [0,1,6,10] [] [])
 (.cond (.t 10)
 .skip
 (.region [⟨some 13,.bin .eql (.t 6) (.k (.str [114,101,106,101,99,116])),none⟩,⟨some 10,.mv (.t 13),none⟩] [0,1,10] [] [[6]])))))
 (.cond (.t 10)
 (.seq
 (.region [⟨some 14,.mv (.t 0),none⟩,⟨some 4,.mv (.t 14),none⟩,⟨some 5,.mv (.k .nilI),none⟩] [4,5] [] [[0],[14]])
 .ret)
 (.seq
 (.region [⟨some 7,.mv (.t 1),none⟩,⟨some 8,.bin .add (.k (.str [100,109,97,114,99,58,32,105,110,118,97,108,105,100,32,112,111,108,105,99,121,32,102,111,114,32,112,97,114,97,109,101,116,101,114,32])) (.t 7),none⟩,⟨some 9,.call 50 [(.t 8)],none⟩,⟨some 4,.mv (.k (.str [])),none⟩,⟨some 5,.mv (.t 9),none⟩] [4,5] [] [[1],[7],[8]])
 .ret)))))),
 [.t 4,.t 5]⟩

def l_dmarc_parsePolicy:Lay:={ rg:=[(0,([0,1],[])),(1,([0,1,6],[])),(2,([4,5],[])),(3,([0,1,6,10],[])),(4,([0,1,6,10],[])),(5,([0,1,10],[])),(6,([4,5],[]))],dd:=[(0,[[4]]),(2,[[1],[7],[8]]),(5,[[6]]),(6,[[0],[14]])] }

def c_dmarc_parseAlignmentMode:SFn:=⟨2,
 (.seq
 (.region [⟨some 4,.mv (.k (.str [])),none⟩,⟨some 5,.mv (.k .nilI),none⟩] [0,1] [] [[4]])
 (.seq
 (.region [⟨some 6,.mv (.t 0),none⟩] [0,1,6] [] [])
 (.block 0
 (.seq
 (.seq
 (.region [⟨some 11,.bin .eql (.t 6) (.k (.str [114])),none⟩,⟨some 10,.mv (.t 11),none⟩] [0,1,6,10] [] [])
 (.cond (.t 10)
 .skip
 (.region [⟨some 12,.bin .eql (.t 6) (.k (.str [115])),none⟩,⟨some 10,.mv (.t 12),none⟩] [0,1,10] [] [[6]])))
 (.cond (.t 10)
 (.seq
 (.region [⟨some 13,.mv (.t 0),none⟩,⟨some 4,.mv (.t 13),none⟩,⟨some 5,.mv (.k .nilI),none⟩] [4,5] [] [[0],[13]])
 .ret)
 (.seq
 (.region [⟨some 7,.mv (.t 1),none⟩,⟨some 8,.bin .add (.k (.str [100,109,97,114,99,58,32,105,110,118,97,108,105,100,32,97,108,105,103,110,109,101,110,116,32,109,111,100,101,32,102,111,114,32,112,97,114,97,109,101,116,101,114,32])) (.t 7),none⟩,⟨some 9,.call 50 [(.t 8)],none⟩,⟨some 4,.mv (.k (.str [])),none⟩,⟨some 5,.mv (.t 9),none⟩] [4,5] [] [[1],[7],[8]])
 .ret)))))),
 [.t 4,.t 5]⟩

def l_dmarc_parseAlignmentMode:Lay:={ rg:=[(0,([0,1],[])),(1,([0,1,6],[])),(2,([4,5],[])),(3,([0,1,6,10],[])),(4,([0,1,10],[])),(5,([4,5],[]))],dd:=[(0,[[4]]),(2,[[1],[7],[8]]),(4,[[6]]),(5,[[0],[13]])] }

def b_dmarc_parseFailureOptions_1:SCode :=
 (.seq
 (.region [⟨some 13,.bin .lss (.t 12) (.t 11),none⟩] [5,10,11,12,13] [] [])
 (.seq
 (.cond (.t 13)
 .skip
 (.exit 0))
 (.seq
 (.block 1
 (.seq
 (.region [⟨some 14,.iAddr 1 (.t 10) (.t 12),none⟩,⟨some 15,.load none (.t 14),none⟩,⟨some 7,.mv (.t 15),none⟩] [5,7,10,11,12] [] [[],[14]])
 (.seq
 (.region [⟨some 16,.mv (.t 7),none⟩,⟨some 17,.call 160 [(.t 16)],none⟩] [5,10,11,12,17] [] [[7]])
 (.block 2
 (.seq
 (.region [⟨some 20,.bin .eql (.t 17) (.k (.str [48])),none⟩,⟨some 19,.mv (.t 20),none⟩] [5,10,11,12,17,19] [] [])
 (.cond (.t 19)
 (.region [⟨some 21,.mv (.t 5),none⟩,⟨some 22,.bin .or (.t 21) (.k (.int .i64 1)),none⟩,⟨some 5,.mv (.t 22),none⟩] [5,10,11,12] [] [[],[21]])
 (.seq
 (.region [⟨some 24,.bin .eql (.t 17) (.k (.str [49])),none⟩,⟨some 23,.mv (.t 24),none⟩] [5,10,11,12,17,23] [] [])
 (.cond (.t 23)
 (.region [⟨some 25,.mv (.t 5),none⟩,⟨some 26,.bin .or (.t 25) (.k (.int .i64 2)),none⟩,⟨some 5,.mv (.t 26),none⟩] [5,10,11,12] [] [[],[25]])
 (.seq
 (.region [⟨some 28,.bin .eql (.t 17) (.k (.str [100])),none⟩,⟨some 27,.mv (.t 28),none⟩] [5,10,11,12,17,27] [] [])
 (.cond (.t 27)
 (.region [⟨some 29,.mv (.t 5),none⟩,⟨some 30,.bin .or (.t 29) (.k (.int .i64 4)),none⟩,⟨some 5,.mv (.t 30),none⟩] [5,10,11,12] [] [[],[29]])
 (.seq
 (.region [⟨some 32,.bin .eql (.t 17) (.k (.str [115])),none⟩,⟨some 31,.mv (.t 32),none⟩] [5,10,11,12,31] [] [[17]])
 (.cond (.t 31)
 (.region [⟨some 33,.mv (.t 5),none⟩,⟨some 34,.bin .or (.t 33) (.k (.int .i64 8)),none⟩,⟨some 5,.mv (.t 34),none⟩] [5,10,11,12] [] [[],[33]])
 (.seq
 (.region [⟨some 18,.call 50 [(.k (.str [100,109,97,114,99,58,32,105,110,118,97,108,105,100,32,102,97,105,108,117,114,101,32,111,112,116,105,111,110,32,105,110,32,112,97,114,97,109,101,116,101,114,32,39,102,111,39]))],none⟩,⟨some 2,.mv (.k (.int .i64 0)),none⟩,⟨some 3,.mv (.t 18),none⟩] [2,3] [9,100009] [])
 .ret)))))))))))))
 (.region [⟨some 35,.bin .add (.t 12) (.k (.int .i64 1)),none⟩,⟨some 12,.mv (.t 35),none⟩] [5,10,11,12] [] []))))

def t_dmarc_parseFailureOptions_2:SCode :=
 (.seq
 (.region [⟨some 36,.mv (.t 5),none⟩,⟨some 2,.mv (.t 36),none⟩,⟨some 3,.mv (.k .nilI),none⟩] [2,3] [9,100009] [[5],[36]])
 .ret)

def c_dmarc_parseFailureOptions:SFn:=⟨1,
 (.seq
 (.region [⟨some 2,.mv (.k (.int .i64 0)),none⟩,⟨some 3,.mv (.k .nilI),none⟩] [0] [] [[2]])
 (.seq
 (.region [⟨some 8,.mv (.t 0),none⟩,⟨some 9,.callS 154 [(.t 8),(.k (.str [58]))],none⟩,⟨some 4,.mv (.t 9),none⟩] [4] [] [[0],[8]])
 (.seq
 (.region [⟨some 5,.mv (.k (.int .i64 0)),none⟩] [4,5] [] [])
 (.seq
 (.seq
 (.region [⟨some 10,.mv (.t 4),none⟩,⟨some 11,.len 1 (.t 10),none⟩,⟨some 12,.mv (.k (.int .i64 0)),none⟩] [5,10,11,12] [] [[4]])
 (.block 0
 (.loop [5,10,11,12]
 b_dmarc_parseFailureOptions_1)))
 t_dmarc_parseFailureOptions_2)))),
 [.t 2,.t 3]⟩

def l_dmarc_parseFailureOptions:Lay:={ rg:=[(0,([0],[])),(1,([4],[])),(2,([4,5],[])),(3,([5,10,11,12],[])),(4,([5,10,11,12,13],[])),(5,([5,7,10,11,12],[])),(6,([5,10,11,12,17],[])),(7,([2,3],[9,100009])),(8,([5,10,11,12,17,19],[])),(9,([5,10,11,12],[])),(10,([5,10,11,12,17,23],[])),(11,([5,10,11,12],[])),(12,([5,10,11,12,17,27],[])),(13,([5,10,11,12],[])),(14,([5,10,11,12,31],[])),(15,([5,10,11,12],[])),(16,([5,10,11,12],[])),(17,([2,3],[9,100009])),(1000004,([5,10,11,12],[]))],dd:=[(0,[[2]]),(1,[[0],[8]]),(3,[[4]]),(5,[[],[14]]),(6,[[7]]),(9,[[],[21]]),(11,[[],[25]]),(13,[[],[29]]),(14,[[17]]),(15,[[],[33]]),(17,[[5],[36]])],sf:=[154] }

def b_dmarc_parseURIList_1:SCode :=
 (.seq
 (.region [⟨some 11,.bin .lss (.t 10) (.t 9),none⟩] [3,8,9,10,11] [] [])
 (.seq
 (.cond (.t 11)
 .skip
 (.exit 0))
 (.seq
 (.block 1
 (.seq
 (.region [⟨some 12,.mv (.t 10),none⟩,⟨some 13,.iAddr 1 (.t 8) (.t 10),none⟩,⟨some 14,.load none (.t 13),none⟩,⟨some 4,.mv (.t 12),none⟩,⟨some 5,.mv (.t 14),none⟩] [3,4,5,8,9,10] [] [[],[],[13],[12]])
 (.region [⟨some 15,.mv (.t 3),none⟩,⟨some 16,.mv (.t 4),none⟩,⟨some 17,.mv (.t 5),none⟩,⟨some 18,.call 160 [(.t 17)],none⟩,⟨some 19,.iAddr 1 (.t 15) (.t 16),none⟩,
 ⟨none,.store 1 (.t 19) (.t 18),none⟩] [3,8,9,10] [] [[],[4],[5],[17],[15,16]])))
 (.region [⟨some 20,.bin .add (.t 10) (.k (.int .i64 1)),none⟩,⟨some 10,.mv (.t 20),none⟩] [3,8,9,10] [] []))))

def t_dmarc_parseURIList_2:SCode :=
 (.seq
 (.region [⟨some 21,.mv (.t 3),none⟩,⟨some 2,.mv (.t 21),none⟩] [2] [] [[3]])
 .ret)

def c_dmarc_parseURIList:SFn:=⟨1,
 (.seq
 (.region [⟨some 2,.mv (.k .nilS),none⟩] [0] [] [])
 (.seq
 (.region [⟨some 6,.mv (.t 0),none⟩,⟨some 7,.callS 154 [(.t 6),(.k (.str [44]))],none⟩,⟨some 3,.mv (.t 7),none⟩] [3] [] [[0],[6]])
 (.seq
 (.seq
 (.region [⟨some 8,.mv (.t 3),none⟩,⟨some 9,.len 1 (.t 8),none⟩,⟨some 10,.mv (.k (.int .i64 0)),none⟩] [3,8,9,10] [] [])
 (.block 0
 (.loop [3,8,9,10]
 b_dmarc_parseURIList_1)))
 t_dmarc_parseURIList_2))),
 [.t 2]⟩

def l_dmarc_parseURIList:Lay:={ rg:=[(0,([0],[])),(1,([3],[])),(2,([3,8,9,10],[])),(3,([3,8,9,10,11],[])),(4,([3,4,5,8,9,10],[])),(5,([3,8,9,10],[])),(6,([3,8,9,10],[])),(7,([2],[])),(1000003,([3,8,9,10],[]))],dd:=[(1,[[0],[6]]),(4,[[],[],[13],[12]]),(5,[[],[4],[5],[17],[15,16]]),(7,[[3]])],sf:=[154] }

def b_dmarc_Parse_1:SCode :=
 (.seq
 (.region [⟨some 164,.bin .lss (.t 163) (.t 162),none⟩] [4,6,161,162,163,164] [] [])
 (.seq
 (.cond (.t 164)
 .skip
 (.exit 0))
 (.seq
 (.block 1
 (.seq
 (.region [⟨some 165,.mv (.t 163),none⟩,⟨some 166,.iAddr 1 (.t 161) (.t 163),none⟩,⟨some 167,.load none (.t 166),none⟩,⟨some 22,.mv (.t 165),none⟩,⟨some 23,.mv (.t 167),none⟩] [4,6,22,23,161,162,163] [] [[],[],[166],[165]])
 (.seq
 (.region [⟨some 168,.mv (.t 23),none⟩] [4,6,22,23,161,162,163,168] [] [])
 (.block 2
 (.seq
 (.region [⟨some 171,.bin .eql (.t 168) (.k (.str [97,102,114,102])),none⟩,⟨some 170,.mv (.t 171),none⟩] [4,6,22,23,161,162,163,170] [] [[168]])
 (.cond (.t 170)
 (.region [⟨some 172,.mv (.t 6),none⟩,⟨some 173,.chk (.t 172),none⟩,⟨some 174,.fAddr 5 (.t 173),none⟩,⟨some 175,.load none (.t 174),none⟩,⟨some 176,.mv (.t 22),none⟩,⟨some 177,.mv (.t 23),none⟩,⟨some 178,.iAddr 1 (.t 175) (.t 176),none⟩,
 ⟨none,.store 1 (.t 178) (.t 177),none⟩] [4,6,161,162,163] [] [[],[172],[173],[174],[22],[23],[175,176]])
 (.seq
 (.region [⟨some 169,.call 50 [(.k (.str [100,109,97,114,99,58,32,105,110,118,97,108,105,100,32,112,97,114,97,109,101,116,101,114,32,39,114,102,39]))],none⟩,⟨some 2,.mv (.k .nilP),none⟩,⟨some 3,.mv (.t 169),none⟩] [2,3] [] [])
 .ret)))))))
 (.region [⟨some 179,.bin .add (.t 163) (.k (.int .i64 1)),none⟩,⟨some 163,.mv (.t 179),none⟩] [4,6,161,162,163] [] []))))

def f_dmarc_Parse_2:SCode :=
 (.seq
 (.region [⟨some 152,.mv (.t 20),none⟩] [4,6,19,152] [] [])
 (.cond (.t 152)
 (.seq
 (.region [⟨some 153,.mv (.t 19),none⟩,⟨some 154,.callS 154 [(.t 153),(.k (.str [58]))],none⟩,⟨some 21,.mv (.t 154),none⟩] [4,6,21] [] [[19],[153]])
 (.seq
 (.region [⟨some 155,.mv (.t 6),none⟩,⟨some 156,.mv (.t 21),none⟩,⟨some 157,.len 1 (.t 156),none⟩,⟨some 158,.mkSlice 1 16 [(.str [])] (.t 157) (.t 157),none⟩,⟨some 159,.chk (.t 155),none⟩,⟨some 160,.fAddr 5 (.t 159),none⟩,
 ⟨none,.store 1 (.t 160) (.t 158),none⟩] [4,6,21] [] [[],[],[156],[157],[155],[159]])
 (.seq
 (.region [⟨some 161,.mv (.t 21),none⟩,⟨some 162,.len 1 (.t 161),none⟩,⟨some 163,.mv (.k (.int .i64 0)),none⟩] [4,6,161,162,163] [] [[21]])
 (.block 0
 (.loop [4,6,161,162,163]
 b_dmarc_Parse_1)))))
 .skip))

def f_dmarc_Parse_3:SCode :=
 (.seq
 (.region [⟨some 185,.mv (.t 25),none⟩] [4,6,24,185] [] [])
 (.cond (.t 185)
 (.seq
 (.region [⟨some 187,.mv (.t 24),none⟩,⟨some 188,.call 153 [(.t 187)],none⟩,⟨some 186,.mv (.t 188),none⟩,⟨some 189,.extr (.t 186) 0,none⟩,⟨some 190,.extr (.t 186) 1,none⟩,⟨some 26,.mv (.t 189),none⟩,⟨some 27,.mv (.t 190),none⟩] [4,6,26,27] [] [[24],[187],[188],[],[186],[189]])
 (.seq
 (.seq
 (.region [⟨some 191,.mv (.t 27),none⟩,⟨some 192,.isNil 0 true (.t 191),none⟩] [4,6,26,192] [] [[27]])
 (.cond (.t 192)
 (.seq
 (.region [⟨some 193,.call 50 [(.k (.str [100,109,97,114,99,58,32,105,110,118,97,108,105,100,32,112,97,114,97,109,101,116,101,114,32,39,114,105,39]))],none⟩,⟨some 2,.mv (.k .nilP),none⟩,⟨some 3,.mv (.t 193),none⟩] [2,3] [] [])
 .ret)
 .skip))
 (.seq
 (.seq
 (.region [⟨some 194,.mv (.t 26),none⟩,⟨some 195,.bin .leq (.t 194) (.k (.int .i64 0)),none⟩] [4,6,26,195] [] [])
 (.cond (.t 195)
 (.seq
 (.region [⟨some 196,.call 50 [(.k (.str [100,109,97,114,99,58,32,105,110,118,97,108,105,100,32,112,97,114,97,109,101,116,101,114,32,39,114,105,39,58,32,110,101,103,97,116,105,118,101,32,111,114,32,122,101,114,111,32,100,117,114,97,116,105,111,110]))],none⟩,⟨some 2,.mv (.k .nilP),none⟩,⟨some 3,.mv (.t 196),none⟩] [2,3] [] [])
 .ret)
 .skip))
 (.region [⟨some 197,.mv (.t 6),none⟩,⟨some 198,.mv (.t 26),none⟩,⟨some 199,.chk (.t 197),none⟩,⟨some 200,.fAddr 6 (.t 199),none⟩,
 ⟨none,.store 1 (.t 200) (.t 198),none⟩] [4,6] [] [[],[26],[197],[199]]))))
 .skip))

def f_dmarc_Parse_4:SCode :=
 (.seq
 (.region [⟨some 240,.mv (.t 6),none⟩,⟨some 2,.mv (.t 240),none⟩,⟨some 3,.mv (.k .nilI),none⟩] [2,3] [] [[6],[240]])
 .ret)

def f_dmarc_Parse_5:SCode :=
 (.seq
 (.seq
 (.region [⟨some 224,.mv (.t 4),none⟩,⟨some 225,.look (.str []) true (.t 224) (.k (.str [115,112])),none⟩,⟨some 223,.mv (.t 225),none⟩,⟨some 226,.extr (.t 223) 0,none⟩,⟨some 227,.extr (.t 223) 1,none⟩,⟨some 32,.mv (.t 226),none⟩,⟨some 33,.mv (.t 227),none⟩] [6,32,33] [] [[4],[224],[225],[],[223],[226]])
 (.seq
 (.region [⟨some 228,.mv (.t 33),none⟩] [6,32,228] [] [])
 (.cond (.t 228)
 (.seq
 (.region [⟨some 230,.mv (.t 6),none⟩,⟨some 231,.mv (.t 32),none⟩,⟨some 232,.call 150 [(.t 231),(.k (.str [115,112]))],none⟩,⟨some 229,.mv (.t 232),none⟩,⟨some 233,.extr (.t 229) 0,none⟩,⟨some 234,.extr (.t 229) 1,none⟩,⟨some 235,.chk (.t 230),none⟩,⟨some 236,.fAddr 9 (.t 235),none⟩,
 ⟨none,.store 1 (.t 236) (.t 233),none⟩,⟨some 5,.mv (.t 234),none⟩] [5,6] [] [[],[32],[231],[232],[],[229],[230],[235],[233,236]])
 (.seq
 (.region [⟨some 237,.mv (.t 5),none⟩,⟨some 238,.isNil 0 true (.t 237),none⟩] [5,6,238] [] [])
 (.cond (.t 238)
 (.seq
 (.region [⟨some 239,.mv (.t 5),none⟩,⟨some 2,.mv (.k .nilP),none⟩,⟨some 3,.mv (.t 239),none⟩] [2,3] [] [[5]])
 .ret)
 .skip)))
 .skip)))
 f_dmarc_Parse_4)

def f_dmarc_Parse_6:SCode :=
 (.seq
 (.seq
 (.region [⟨some 213,.mv (.t 4),none⟩,⟨some 214,.look (.str []) true (.t 213) (.k (.str [114,117,102])),none⟩,⟨some 212,.mv (.t 214),none⟩,⟨some 215,.extr (.t 212) 0,none⟩,⟨some 216,.extr (.t 212) 1,none⟩,⟨some 30,.mv (.t 215),none⟩,⟨some 31,.mv (.t 216),none⟩] [4,6,30,31] [] [[],[213],[214],[],[212],[215]])
 (.seq
 (.region [⟨some 217,.mv (.t 31),none⟩] [4,6,30,217] [] [])
 (.cond (.t 217)
 (.region [⟨some 218,.mv (.t 6),none⟩,⟨some 219,.mv (.t 30),none⟩,⟨some 220,.call 155 [(.t 219)],none⟩,⟨some 221,.chk (.t 218),none⟩,⟨some 222,.fAddr 8 (.t 221),none⟩,
 ⟨none,.store 1 (.t 222) (.t 220),none⟩] [4,6] [] [[],[30],[219],[218],[221]])
 .skip)))
 f_dmarc_Parse_5)

def f_dmarc_Parse_7:SCode :=
 (.seq
 (.seq
 (.region [⟨some 202,.mv (.t 4),none⟩,⟨some 203,.look (.str []) true (.t 202) (.k (.str [114,117,97])),none⟩,⟨some 201,.mv (.t 203),none⟩,⟨some 204,.extr (.t 201) 0,none⟩,⟨some 205,.extr (.t 201) 1,none⟩,⟨some 28,.mv (.t 204),none⟩,⟨some 29,.mv (.t 205),none⟩] [4,6,28,29] [] [[],[202],[203],[],[201],[204]])
 (.seq
 (.region [⟨some 206,.mv (.t 29),none⟩] [4,6,28,206] [] [])
 (.cond (.t 206)
 (.region [⟨some 207,.mv (.t 6),none⟩,⟨some 208,.mv (.t 28),none⟩,⟨some 209,.call 155 [(.t 208)],none⟩,⟨some 210,.chk (.t 207),none⟩,⟨some 211,.fAddr 7 (.t 210),none⟩,
 ⟨none,.store 1 (.t 211) (.t 209),none⟩] [4,6] [] [[],[28],[208],[207],[210]])
 .skip)))
 f_dmarc_Parse_6)

def f_dmarc_Parse_8:SCode :=
 (.seq
 (.seq
 (.seq
 (.region [⟨some 181,.mv (.t 4),none⟩,⟨some 182,.look (.str []) true (.t 181) (.k (.str [114,105])),none⟩,⟨some 180,.mv (.t 182),none⟩,⟨some 183,.extr (.t 180) 0,none⟩,⟨some 184,.extr (.t 180) 1,none⟩,⟨some 24,.mv (.t 183),none⟩,⟨some 25,.mv (.t 184),none⟩] [4,6,24,25] [] [[],[181],[182],[],[180],[183]])
 (.ghost [.frz 158,.drop 154]))
 f_dmarc_Parse_3)
 f_dmarc_Parse_7)

def f_dmarc_Parse_9:SCode :=
 (.seq
 (.seq
 (.seq
 (.region [⟨some 148,.mv (.t 4),none⟩,⟨some 149,.look (.str []) true (.t 148) (.k (.str [114,102])),none⟩,⟨some 147,.mv (.t 149),none⟩,⟨some 150,.extr (.t 147) 0,none⟩,⟨some 151,.extr (.t 147) 1,none⟩,⟨some 19,.mv (.t 150),none⟩,⟨some 20,.mv (.t 151),none⟩] [4,6,19,20] [] [[],[148],[149],[],[147],[150]])
 (.ghost [.frz 17]))
 f_dmarc_Parse_2)
 f_dmarc_Parse_8)

def f_dmarc_Parse_10:SCode :=
 (.seq
 (.seq
 (.region [⟨some 124,.mv (.t 4),none⟩,⟨some 125,.look (.str []) true (.t 124) (.k (.str [112,99,116])),none⟩,⟨some 123,.mv (.t 125),none⟩,⟨some 126,.extr (.t 123) 0,none⟩,⟨some 127,.extr (.t 123) 1,none⟩,⟨some 15,.mv (.t 126),none⟩,⟨some 16,.mv (.t 127),none⟩] [4,6,15,16] [] [[],[124],[125],[],[123],[126]])
 (.seq
 (.region [⟨some 128,.mv (.t 16),none⟩] [4,6,15,128] [] [])
 (.cond (.t 128)
 (.seq
 (.region [⟨some 130,.mv (.t 15),none⟩,⟨some 131,.call 153 [(.t 130)],none⟩,⟨some 129,.mv (.t 131),none⟩,⟨some 132,.extr (.t 129) 0,none⟩,⟨some 133,.extr (.t 129) 1,none⟩,⟨some 17,.alloc [(.int .i64 0)],none⟩,
 ⟨none,.store 1 (.t 17) (.t 132),none⟩,⟨some 18,.mv (.t 133),none⟩] [4,6,17,18] [] [[15],[130],[131],[],[129],[],[132]])
 (.seq
 (.seq
 (.region [⟨some 134,.mv (.t 18),none⟩,⟨some 135,.isNil 0 true (.t 134),none⟩] [4,6,17,135] [] [[18]])
 (.cond (.t 135)
 (.seq
 (.region [⟨some 136,.call 50 [(.k (.str [100,109,97,114,99,58,32,105,110,118,97,108,105,100,32,112,97,114,97,109,101,116,101,114,32,39,112,99,116,39]))],none⟩,⟨some 2,.mv (.k .nilP),none⟩,⟨some 3,.mv (.t 136),none⟩] [2,3] [] [])
 .ret)
 .skip))
 (.seq
 (.seq
 (.region [⟨some 137,.load none (.t 17),none⟩,⟨some 138,.bin .lss (.t 137) (.k (.int .i64 0)),none⟩,⟨some 139,.mv (.t 138),none⟩,⟨some 140,.load none (.t 17),some (139,false)⟩,⟨some 141,.bin .gtr (.t 140) (.k (.int .i64 100)),some (139,false)⟩,⟨some 142,.pick (.t 139) (.k (.bool true)) (.t 141),none⟩] [4,6,17,142] [] [[],[137],[138],[],[140]])
 (.cond (.t 142)
 (.seq
 (.region [⟨some 143,.call 50 [(.k (.str [100,109,97,114,99,58,32,105,110,118,97,108,105,100,32,112,97,114,97,109,101,116,101,114,32,39,112,99,116,39,58,32,118,97,108,117,101,32,111,117,116,32,111,102,32,98,111,117,110,100,115]))],none⟩,⟨some 2,.mv (.k .nilP),none⟩,⟨some 3,.mv (.t 143),none⟩] [2,3] [] [])
 .ret)
 .skip))
 (.region [⟨some 144,.mv (.t 6),none⟩,⟨some 145,.chk (.t 144),none⟩,⟨some 146,.fAddr 4 (.t 145),none⟩,
 ⟨none,.store 1 (.t 146) (.t 17),none⟩] [4,6] [] [[],[144],[145]]))))
 .skip)))
 f_dmarc_Parse_9)

def f_dmarc_Parse_11:SCode :=
 (.seq
 (.seq
 (.region [⟨some 107,.mv (.t 4),none⟩,⟨some 108,.look (.str []) true (.t 107) (.k (.str [102,111])),none⟩,⟨some 106,.mv (.t 108),none⟩,⟨some 109,.extr (.t 106) 0,none⟩,⟨some 110,.extr (.t 106) 1,none⟩,⟨some 13,.mv (.t 109),none⟩,⟨some 14,.mv (.t 110),none⟩] [4,6,13,14] [] [[],[107],[108],[],[106],[109]])
 (.seq
 (.region [⟨some 111,.mv (.t 14),none⟩] [4,6,13,111] [] [])
 (.cond (.t 111)
 (.seq
 (.region [⟨some 113,.mv (.t 6),none⟩,⟨some 114,.mv (.t 13),none⟩,⟨some 115,.call 152 [(.t 114)],none⟩,⟨some 112,.mv (.t 115),none⟩,⟨some 116,.extr (.t 112) 0,none⟩,⟨some 117,.extr (.t 112) 1,none⟩,⟨some 118,.chk (.t 113),none⟩,⟨some 119,.fAddr 2 (.t 118),none⟩,
 ⟨none,.store 1 (.t 119) (.t 116),none⟩,⟨some 5,.mv (.t 117),none⟩] [4,5,6] [] [[],[13],[114],[115],[],[112],[113],[118],[116,119]])
 (.seq
 (.region [⟨some 120,.mv (.t 5),none⟩,⟨some 121,.isNil 0 true (.t 120),none⟩] [4,5,6,121] [] [])
 (.cond (.t 121)
 (.seq
 (.region [⟨some 122,.mv (.t 5),none⟩,⟨some 2,.mv (.k .nilP),none⟩,⟨some 3,.mv (.t 122),none⟩] [2,3] [] [[5]])
 .ret)
 .skip)))
 .skip)))
 f_dmarc_Parse_10)

def f_dmarc_Parse_12:SCode :=
 (.seq
 (.region [⟨some 86,.mv (.t 6),none⟩,⟨some 87,.chk (.t 86),none⟩,⟨some 88,.fAddr 1 (.t 87),none⟩,
 ⟨none,.store 1 (.t 88) (.k (.str [114])),none⟩] [4,6] [] [[],[86],[87]])
 (.seq
 (.seq
 (.region [⟨some 90,.mv (.t 4),none⟩,⟨some 91,.look (.str []) true (.t 90) (.k (.str [97,115,112,102])),none⟩,⟨some 89,.mv (.t 91),none⟩,⟨some 92,.extr (.t 89) 0,none⟩,⟨some 93,.extr (.t 89) 1,none⟩,⟨some 11,.mv (.t 92),none⟩,⟨some 12,.mv (.t 93),none⟩] [4,6,11,12] [] [[],[90],[91],[],[89],[92]])
 (.seq
 (.region [⟨some 94,.mv (.t 12),none⟩] [4,6,11,94] [] [])
 (.cond (.t 94)
 (.seq
 (.region [⟨some 96,.mv (.t 6),none⟩,⟨some 97,.mv (.t 11),none⟩,⟨some 98,.call 151 [(.t 97),(.k (.str [97,115,112,102]))],none⟩,⟨some 95,.mv (.t 98),none⟩,⟨some 99,.extr (.t 95) 0,none⟩,⟨some 100,.extr (.t 95) 1,none⟩,⟨some 101,.chk (.t 96),none⟩,⟨some 102,.fAddr 1 (.t 101),none⟩,
 ⟨none,.store 1 (.t 102) (.t 99),none⟩,⟨some 5,.mv (.t 100),none⟩] [4,5,6] [] [[],[11],[97],[98],[],[95],[96],[101],[99,102]])
 (.seq
 (.region [⟨some 103,.mv (.t 5),none⟩,⟨some 104,.isNil 0 true (.t 103),none⟩] [4,5,6,104] [] [])
 (.cond (.t 104)
 (.seq
 (.region [⟨some 105,.mv (.t 5),none⟩,⟨some 2,.mv (.k .nilP),none⟩,⟨some 3,.mv (.t 105),none⟩] [2,3] [] [[5]])
 .ret)
 .skip)))
 .skip)))
 f_dmarc_Parse_11))

def f_dmarc_Parse_13:SCode :=
 (.seq
 (.region [⟨some 66,.mv (.t 6),none⟩,⟨some 67,.chk (.t 66),none⟩,⟨some 68,.fAddr 0 (.t 67),none⟩,
 ⟨none,.store 1 (.t 68) (.k (.str [114])),none⟩] [4,6] [] [[],[66],[67]])
 (.seq
 (.seq
 (.region [⟨some 70,.mv (.t 4),none⟩,⟨some 71,.look (.str []) true (.t 70) (.k (.str [97,100,107,105,109])),none⟩,⟨some 69,.mv (.t 71),none⟩,⟨some 72,.extr (.t 69) 0,none⟩,⟨some 73,.extr (.t 69) 1,none⟩,⟨some 9,.mv (.t 72),none⟩,⟨some 10,.mv (.t 73),none⟩] [4,6,9,10] [] [[],[70],[71],[],[69],[72]])
 (.seq
 (.region [⟨some 74,.mv (.t 10),none⟩] [4,6,9,74] [] [])
 (.cond (.t 74)
 (.seq
 (.region [⟨some 76,.mv (.t 6),none⟩,⟨some 77,.mv (.t 9),none⟩,⟨some 78,.call 151 [(.t 77),(.k (.str [97,100,107,105,109]))],none⟩,⟨some 75,.mv (.t 78),none⟩,⟨some 79,.extr (.t 75) 0,none⟩,⟨some 80,.extr (.t 75) 1,none⟩,⟨some 81,.chk (.t 76),none⟩,⟨some 82,.fAddr 0 (.t 81),none⟩,
 ⟨none,.store 1 (.t 82) (.t 79),none⟩,⟨some 5,.mv (.t 80),none⟩] [4,5,6] [] [[],[9],[77],[78],[],[75],[76],[81],[79,82]])
 (.seq
 (.region [⟨some 83,.mv (.t 5),none⟩,⟨some 84,.isNil 0 true (.t 83),none⟩] [4,5,6,84] [] [])
 (.cond (.t 84)
 (.seq
 (.region [⟨some 85,.mv (.t 5),none⟩,⟨some 2,.mv (.k .nilP),none⟩,⟨some 3,.mv (.t 85),none⟩] [2,3] [] [[5]])
 .ret)
 .skip)))
 .skip)))
 f_dmarc_Parse_12))

def c_dmarc_Parse:SFn:=⟨1,
 (.seq
 (.region [⟨some 2,.mv (.k .nilP),none⟩,⟨some 3,.mv (.k .nilI),none⟩] [0] [] [[2]])
 (.seq
 (.region [⟨some 35,.mv (.t 0),none⟩,⟨some 36,.call 149 [(.t 35)],none⟩,⟨some 34,.mv (.t 36),none⟩,⟨some 37,.extr (.t 34) 0,none⟩,⟨some 38,.extr (.t 34) 1,none⟩,⟨some 4,.mv (.t 37),none⟩,⟨some 5,.mv (.t 38),none⟩] [4,5] [] [[0],[35],[36],[],[34],[37]])
 (.seq
 (.seq
 (.region [⟨some 39,.mv (.t 5),none⟩,⟨some 40,.isNil 0 true (.t 39),none⟩] [4,5,40] [] [])
 (.cond (.t 40)
 (.seq
 (.region [⟨some 41,.mv (.t 5),none⟩,⟨some 2,.mv (.k .nilP),none⟩,⟨some 3,.mv (.t 41),none⟩] [2,3] [] [[5]])
 .ret)
 .skip))
 (.seq
 (.seq
 (.region [⟨some 42,.mv (.t 4),none⟩,⟨some 43,.look (.str []) false (.t 42) (.k (.str [118])),none⟩,⟨some 44,.bin .neq (.t 43) (.k (.str [68,77,65,82,67,49])),none⟩] [4,44] [] [[],[42]])
 (.cond (.t 44)
 (.seq
 (.region [⟨some 45,.load none (.k (.ptr [.ifc 3 .junk])),none⟩,⟨some 2,.mv (.k .nilP),none⟩,⟨some 3,.mv (.t 45),none⟩] [2,3] [] [])
 .ret)
 .skip))
 (.seq
 (.region [⟨some 46,.alloc [(.str []),(.str []),(.int .i64 0),(.str []),.nilP,.nilS,(.int .i64 0),.nilS,.nilS,(.str [])],none⟩,⟨some 6,.mv (.t 46),none⟩] [4,6] [] [])
 (.seq
 (.region [⟨some 48,.mv (.t 4),none⟩,⟨some 49,.look (.str []) true (.t 48) (.k (.str [112])),none⟩,⟨some 47,.mv (.t 49),none⟩,⟨some 50,.extr (.t 47) 0,none⟩,⟨some 51,.extr (.t 47) 1,none⟩,⟨some 7,.mv (.t 50),none⟩,⟨some 8,.mv (.t 51),none⟩] [4,6,7,8] [] [[],[48],[49],[],[47],[50]])
 (.seq
 (.seq
 (.region [⟨some 52,.mv (.t 8),none⟩,⟨some 53,.un .not (.t 52),none⟩] [4,6,7,53] [] [[8]])
 (.cond (.t 53)
 (.seq
 (.region [⟨some 54,.call 50 [(.k (.str [100,109,97,114,99,58,32,114,101,99,111,114,100,32,105,115,32,109,105,115,115,105,110,103,32,97,32,39,112,39,32,112,97,114,97,109,101,116,101,114]))],none⟩,⟨some 2,.mv (.k .nilP),none⟩,⟨some 3,.mv (.t 54),none⟩] [2,3] [] [])
 .ret)
 .skip))
 (.seq
 (.region [⟨some 56,.mv (.t 6),none⟩,⟨some 57,.mv (.t 7),none⟩,⟨some 58,.call 150 [(.t 57),(.k (.str [112]))],none⟩,⟨some 55,.mv (.t 58),none⟩,⟨some 59,.extr (.t 55) 0,none⟩,⟨some 60,.extr (.t 55) 1,none⟩,⟨some 61,.chk (.t 56),none⟩,⟨some 62,.fAddr 3 (.t 61),none⟩,
 ⟨none,.store 1 (.t 62) (.t 59),none⟩,⟨some 5,.mv (.t 60),none⟩] [4,5,6] [] [[],[7],[57],[58],[],[55],[56],[61],[59,62]])
 (.seq
 (.seq
 (.region [⟨some 63,.mv (.t 5),none⟩,⟨some 64,.isNil 0 true (.t 63),none⟩] [4,5,6,64] [] [])
 (.cond (.t 64)
 (.seq
 (.region [⟨some 65,.mv (.t 5),none⟩,⟨some 2,.mv (.k .nilP),none⟩,⟨some 3,.mv (.t 65),none⟩] [2,3] [] [[5]])
 .ret)
 .skip))
 f_dmarc_Parse_13))))))))),
 [.t 2,.t 3]⟩

def l_dmarc_Parse:Lay:={ rg:=[(0,([0],[])),(1,([4,5],[])),(2,([4,5,40],[])),(3,([2,3],[])),(4,([4,44],[])),(5,([2,3],[])),(6,([4,6],[])),(7,([4,6,7,8],[])),(8,([4,6,7,53],[])),(9,([2,3],[])),(10,([4,5,6],[])),(11,([4,5,6,64],[])),(12,([2,3],[])),(13,([4,6],[])),(14,([4,6,9,10],[])),(15,([4,6,9,74],[])),(16,([4,5,6],[])),(17,([4,5,6,84],[])),(18,([2,3],[])),(19,([4,6],[])),(20,([4,6,11,12],[])),(21,([4,6,11,94],[])),(22,([4,5,6],[])),(23,([4,5,6,104],[])),(24,([2,3],[])),(25,([4,6,13,14],[])),(26,([4,6,13,111],[])),(27,([4,5,6],[])),(28,([4,5,6,121],[])),(29,([2,3],[])),(30,([4,6,15,16],[])),(31,([4,6,15,128],[])),(32,([4,6,17,18],[])),(33,([4,6,17,135],[])),(34,([2,3],[])),(35,([4,6,17,142],[])),(36,([2,3],[])),(37,([4,6],[])),(38,([4,6,19,20],[])),(39,([4,6,19,152],[])),(40,([4,6,21],[])),(41,([4,6,21],[])),(42,([4,6,161,162,163],[])),(43,([4,6,161,162,163,164],[])),(44,([4,6,22,23,161,162,163],[])),(45,([4,6,22,23,161,162,163,168],[])),(46,([2,3],[])),(47,([4,6,22,23,161,162,163,170],[])),(48,([4,6,161,162,163],[])),(49,([4,6,161,162,163],[])),(50,([4,6,24,25],[])),(51,([4,6,24,185],[])),(52,([4,6,26,27],[])),(53,([4,6,26,192],[])),(54,([2,3],[])),(55,([4,6,26,195],[])),(56,([2,3],[])),(57,([4,6],[])),(58,([4,6,28,29],[])),(59,([4,6,28,206],[])),(60,([4,6],[])),(61,([4,6,30,31],[])),(62,([4,6,30,217],[])),(63,([4,6],[])),(64,([6,32,33],[])),(65,([6,32,228],[])),(66,([5,6],[])),(67,([5,6,238],[])),(68,([2,3],[])),(69,([2,3],[])),(1000043,([4,6,161,162,163],[]))],dd:=[(0,[[2]]),(1,[[0],[35],[36],[],[34],[37]]),(3,[[5]]),(4,[[],[42]]),(7,[[],[48],[49],[],[47],[50]]),(8,[[8]]),(10,[[],[7],[57],[58],[],[55],[56],[61],[59,62]]),(12,[[5]]),(13,[[],[66],[67]]),(14,[[],[70],[71],[],[69],[72]]),(16,[[],[9],[77],[78],[],[75],[76],[81],[79,82]]),(18,[[5]]),(19,[[],[86],[87]]),(20,[[],[90],[91],[],[89],[92]]),(22,[[],[11],[97],[98],[],[95],[96],[101],[99,102]]),(24,[[5]]),(25,[[],[107],[108],[],[106],[109]]),(27,[[],[13],[114],[115],[],[112],[113],[118],[116,119]]),(29,[[5]]),(30,[[],[124],[125],[],[123],[126]]),(32,[[15],[130],[131],[],[129],[],[132]]),(33,[[18]]),(35,[[],[137],[138],[],[140]]),(37,[[],[144],[145]]),(38,[[],[148],[149],[],[147],[150]]),(40,[[19],[153]]),(41,[[],[],[156],[157],[155],[159]]),(42,[[21]]),(44,[[],[],[166],[165]]),(47,[[168]]),(48,[[],[172],[173],[174],[22],[23],[175,176]]),(50,[[],[181],[182],[],[180],[183]]),(52,[[24],[187],[188],[],[186],[189]]),(53,[[27]]),(57,[[],[26],[197],[199]]),(58,[[],[202],[203],[],[201],[204]]),(60,[[],[28],[208],[207],[210]]),(61,[[],[213],[214],[],[212],[215]]),(63,[[],[30],[219],[218],[221]]),(64,[[4],[224],[225],[],[223],[226]]),(66,[[],[32],[231],[232],[],[229],[230],[235],[233,236]]),(68,[[5]]),(69,[[6],[240]])],gh:=[(38,[.frz 17]),(50,[.frz 158,.drop 154])],sf:=[154] }

def c_impl_MParse:SFn:=⟨1,
 (.seq
 (.region [⟨some 2,.alloc [(.str []),(.str []),(.int .i64 0),(.str []),(.int .i64 0),(.bool false),.nilS,(.int .i64 0),.nilS,.nilS,(.str [])],none⟩,⟨some 3,.mv (.k (.bool false)),none⟩] [0,2] [] [])
 (.seq
 (.region [⟨some 7,.mv (.t 0),none⟩,⟨some 8,.call 142 [(.t 7)],none⟩,⟨some 6,.mv (.t 8),none⟩,⟨some 9,.extr (.t 6) 0,none⟩,⟨some 10,.extr (.t 6) 1,none⟩,⟨some 4,.mv (.t 9),none⟩,⟨some 5,.mv (.t 10),none⟩] [2,4,5] [] [[0],[7],[8],[],[6],[9]])
 (.seq
 (.seq
 (.region [⟨some 11,.mv (.t 5),none⟩,⟨some 12,.isNil 0 true (.t 11),none⟩] [2,4,12] [] [[5]])
 (.cond (.t 12)
 (.seq
 (.region [⟨some 13,.agg [(.str []),(.str []),(.int .i64 0),(.str []),(.int .i64 0),(.bool false),.nilS,(.int .i64 0),.nilS,.nilS,(.str [])] [],none⟩,
 ⟨none,.store 11 (.t 2) (.t 13),none⟩,⟨some 3,.mv (.k (.bool false)),none⟩] [2,3] [] [[],[13]])
 .ret)
 .skip))
 (.seq
 (.region [⟨some 14,.mv (.t 4),none⟩,⟨some 15,.call 143 [(.t 14)],none⟩,
 ⟨none,.store 11 (.t 2) (.t 15),none⟩,⟨some 3,.mv (.k (.bool true)),none⟩] [2,3] [] [[4],[14],[15]])
 .ret)))),
 [.c (some 11) 2,.t 3]⟩

def l_impl_MParse:Lay:={ rg:=[(0,([0,2],[])),(1,([2,4,5],[])),(2,([2,4,12],[])),(3,([2,3],[])),(4,([2,3],[]))],dd:=[(1,[[0],[7],[8],[],[6],[9]]),(2,[[5]]),(3,[[],[13]]),(4,[[4],[14],[15]])] }

def b_impl_recordOf_1:SCode :=
 (.seq
 (.region [⟨some 59,.bin .lss (.t 58) (.t 57),none⟩] [2,3,56,57,58,59] [] [])
 (.seq
 (.cond (.t 59)
 .skip
 (.exit 0))
 (.seq
 (.block 1
 (.seq
 (.region [⟨some 60,.iAddr 1 (.t 56) (.t 58),none⟩,⟨some 61,.load none (.t 60),none⟩,⟨some 5,.mv (.t 61),none⟩] [2,3,5,56,57,58] [] [[],[60]])
 (.region [⟨some 62,.fAddr 6 (.t 3),none⟩,⟨some 63,.load none (.t 62),none⟩,⟨some 64,.mv (.t 5),none⟩,⟨some 65,.mkSl 1 1 [(.str [])] [(0,(.t 64))],none⟩,⟨some 66,.app 1 16 (.t 63) (.t 65),none⟩,⟨some 67,.fAddr 6 (.t 3),none⟩,
 ⟨none,.store 1 (.t 67) (.t 66),none⟩] [2,3,56,57,58] [65] [[],[62],[5],[64],[63,65]])))
 (.region [⟨some 68,.bin .add (.t 58) (.k (.int .i64 1)),none⟩,⟨some 58,.mv (.t 68),none⟩] [2,3,56,57,58] [] []))))

def t_impl_recordOf_2:SCode :=
 (.seq
 (.region [⟨some 69,.load (some 11) (.t 3),none⟩,
 ⟨none,.store 11 (.t 2) (.t 69),none⟩] [2] [3] [[3]])
 .ret)

def c_impl_recordOf:SFn:=⟨1,
 (.seq
 (.region [⟨some 2,.alloc [(.str []),(.str []),(.int .i64 0),(.str []),(.int .i64 0),(.bool false),.nilS,(.int .i64 0),.nilS,.nilS,(.str [])],none⟩] [0,2] [] [])
 (.seq
 (.region [⟨some 6,.mv (.t 0),none⟩,⟨some 7,.fl (.chk (.t 6)),none⟩,⟨some 8,.fl (.fAddr 0 (.t 7)),none⟩,⟨some 9,.fl (.load none (.t 8)),none⟩,⟨some 10,.mv (.t 0),none⟩,⟨some 11,.fl (.chk (.t 10)),none⟩,⟨some 12,.fl (.fAddr 1 (.t 11)),none⟩,⟨some 13,.fl (.load none (.t 12)),none⟩,⟨some 14,.mv (.t 0),none⟩,⟨some 15,.fl (.chk (.t 14)),none⟩,⟨some 16,.fl (.fAddr 2 (.t 15)),none⟩,⟨some 17,.fl (.load none (.t 16)),none⟩,⟨some 18,.mv (.t 0),none⟩,⟨some 19,.fl (.chk (.t 18)),none⟩,⟨some 20,.fl (.fAddr 3 (.t 19)),none⟩,⟨some 21,.fl (.load none (.t 20)),none⟩,⟨some 22,.mv (.t 0),none⟩,⟨some 23,.fl (.chk (.t 22)),none⟩,⟨some 24,.fl (.fAddr 6 (.t 23)),none⟩,⟨some 25,.fl (.load none (.t 24)),none⟩,⟨some 26,.fl (.bin .mul (.t 25) (.k (.int .i64 1000000000))),none⟩,⟨some 27,.mv (.t 0),none⟩,⟨some 28,.fl (.chk (.t 27)),none⟩,⟨some 29,.fl (.fAddr 7 (.t 28)),none⟩,⟨some 30,.fl (.load none (.t 29)),none⟩,⟨some 31,.mv (.t 0),none⟩,⟨some 32,.fl (.chk (.t 31)),none⟩,⟨some 33,.fl (.fAddr 8 (.t 32)),none⟩,⟨some 34,.fl (.load none (.t 33)),none⟩,⟨some 35,.mv (.t 0),none⟩,⟨some 36,.fl (.chk (.t 35)),none⟩,⟨some 37,.fl (.fAddr 9 (.t 36)),none⟩,⟨some 38,.fl (.load none (.t 37)),none⟩,⟨some 39,.fl (.agg [(.str []),(.str []),(.int .i64 0),(.str []),(.int .i64 0),(.bool false),.nilS,(.int .i64 0),.nilS,.nilS,(.str [])] [(0,1,(.t 9)),(1,1,(.t 13)),(2,1,(.t 17)),(3,1,(.t 21)),(7,1,(.t 26)),(8,1,(.t 30)),(9,1,(.t 34)),(10,1,(.t 38))]),none⟩,⟨some 3,.alloc [(.str []),(.str []),(.int .i64 0),(.str []),(.int .i64 0),(.bool false),.nilS,(.int .i64 0),.nilS,.nilS,(.str [])],none⟩,
 ⟨none,.store 11 (.t 3) (.t 39),none⟩] [0,2,3] [] [])
 (.seq
 (.seq
 (.region [⟨some 40,.mv (.t 0),none⟩,⟨some 41,.chk (.t 40),none⟩,⟨some 42,.fAddr 4 (.t 41),none⟩,⟨some 43,.load none (.t 42),none⟩,⟨some 44,.isNil 2 true (.t 43),none⟩] [0,2,3,44] [] [[],[40],[41],[42]])
 (.cond (.t 44)
 (.region [⟨some 45,.mv (.t 0),none⟩,⟨some 46,.chk (.t 45),none⟩,⟨some 47,.fAddr 4 (.t 46),none⟩,⟨some 48,.load none (.t 47),none⟩,⟨some 49,.chk (.t 48),none⟩,⟨some 50,.load none (.t 49),none⟩,⟨some 51,.fAddr 4 (.t 3),none⟩,
 ⟨none,.store 1 (.t 51) (.t 50),none⟩,⟨some 52,.fAddr 5 (.t 3),none⟩,
 ⟨none,.store 1 (.t 52) (.k (.bool true)),none⟩] [0,2,3] [] [[],[45],[46],[47],[48],[49],[],[50,51]])
 .skip))
 (.seq
 (.seq
 (.region [⟨some 53,.mv (.t 0),none⟩,⟨some 54,.chk (.t 53),none⟩,⟨some 55,.fAddr 5 (.t 54),none⟩,⟨some 56,.load none (.t 55),none⟩,⟨some 57,.len 1 (.t 56),none⟩,⟨some 58,.mv (.k (.int .i64 0)),none⟩] [2,3,56,57,58] [] [[0],[53],[54],[55]])
 (.block 0
 (.loop [2,3,56,57,58]
 b_impl_recordOf_1)))
 t_impl_recordOf_2)))),
 [.c (some 11) 2]⟩

def l_impl_recordOf:Lay:={ rg:=[(0,([0,2],[])),(1,([0,2,3],[])),(2,([0,2,3,44],[])),(3,([0,2,3],[])),(4,([2,3,56,57,58],[])),(5,([2,3,56,57,58,59],[])),(6,([2,3,5,56,57,58],[])),(7,([2,3,56,57,58],[65])),(8,([2,3,56,57,58],[])),(9,([2],[3])),(1000005,([2,3,56,57,58],[]))],dd:=[(2,[[],[40],[41],[42]]),(3,[[],[45],[46],[47],[48],[49],[],[50,51]]),(4,[[0],[53],[54],[55]]),(6,[[],[60]]),(7,[[],[62],[5],[64],[63,65]]),(9,[[3]])],fl:=[7,8,9,11,12,13,15,16,17,19,20,21,23,24,25,26,28,29,30,32,33,34,36,37,38,39] }

end Wax


namespace Wax
open Go (IntKind)

def c_authres_zzIsSpace:SFn:=⟨1,
 (.seq
 (.region [⟨some 2,.mv (.k (.bool false)),none⟩] [0] [] [])
 (.seq
 (.block 0
 (.seq
 (.seq
 (.region [⟨some 4,.mv (.t 0),none⟩,⟨some 5,.bin .geq (.t 4) (.k (.int .i32 9)),none⟩,⟨some 6,.mv (.t 5),none⟩,⟨some 7,.mv (.t 0),some (6,true)⟩,⟨some 8,.bin .leq (.t 7) (.k (.int .i32 13)),some (6,true)⟩,⟨some 9,.pick (.t 6) (.t 8) (.k (.bool false)),none⟩,⟨some 3,.mv (.t 9),none⟩] [0,3] [] [[],[4],[5],[],[7],[6,8]])
 (.cond (.t 3)
 .skip
 (.seq
 (.region [⟨some 10,.mv (.t 0),none⟩,⟨some 11,.bin .eql (.t 10) (.k (.int .i32 32)),none⟩,⟨some 3,.mv (.t 11),none⟩] [0,3] [] [[],[10]])
 (.cond (.t 3)
 .skip
 (.seq
 (.region [⟨some 12,.mv (.t 0),none⟩,⟨some 13,.bin .eql (.t 12) (.k (.int .i32 133)),none⟩,⟨some 3,.mv (.t 13),none⟩] [0,3] [] [[],[12]])
 (.cond (.t 3)
 .skip
 (.seq
 (.region [⟨some 14,.mv (.t 0),none⟩,⟨some 15,.bin .eql (.t 14) (.k (.int .i32 160)),none⟩,⟨some 3,.mv (.t 15),none⟩] [0,3] [] [[],[14]])
 (.cond (.t 3)
 .skip
 (.seq
 (.region [⟨some 16,.mv (.t 0),none⟩,⟨some 17,.bin .eql (.t 16) (.k (.int .i32 5760)),none⟩,⟨some 3,.mv (.t 17),none⟩] [0,3] [] [[],[16]])
 (.cond (.t 3)
 .skip
 (.seq
 (.region [⟨some 18,.mv (.t 0),none⟩,⟨some 19,.bin .geq (.t 18) (.k (.int .i32 8192)),none⟩,⟨some 20,.mv (.t 19),none⟩,⟨some 21,.mv (.t 0),some (20,true)⟩,⟨some 22,.bin .leq (.t 21) (.k (.int .i32 8202)),some (20,true)⟩,⟨some 23,.pick (.t 20) (.t 22) (.k (.bool false)),none⟩,⟨some 3,.mv (.t 23),none⟩] [0,3] [] [[],[18],[19],[],[21],[20,22]])
 (.cond (.t 3)
 .skip
 (.seq
 (.region [⟨some 24,.mv (.t 0),none⟩,⟨some 25,.bin .eql (.t 24) (.k (.int .i32 8232)),none⟩,⟨some 3,.mv (.t 25),none⟩] [0,3] [] [[],[24]])
 (.cond (.t 3)
 .skip
 (.seq
 (.region [⟨some 26,.mv (.t 0),none⟩,⟨some 27,.bin .eql (.t 26) (.k (.int .i32 8233)),none⟩,⟨some 3,.mv (.t 27),none⟩] [0,3] [] [[],[26]])
 (.cond (.t 3)
 .skip
 (.seq
 (.region [⟨some 28,.mv (.t 0),none⟩,⟨some 29,.bin .eql (.t 28) (.k (.int .i32 8239)),none⟩,⟨some 3,.mv (.t 29),none⟩] [0,3] [] [[],[28]])
 (.cond (.t 3)
 .skip
 (.seq
 (.region [⟨some 30,.mv (.t 0),none⟩,⟨some 31,.bin .eql (.t 30) (.k (.int .i32 8287)),none⟩,⟨some 3,.mv (.t 31),none⟩] [0,3] [] [[],[30]])
 (.cond (.t 3)
 .skip
 (.region [⟨some 32,.mv (.t 0),none⟩,⟨some 33,.bin .eql (.t 32) (.k (.int .i32 12288)),none⟩,⟨some 3,.mv (.t 33),none⟩] [3] [] [[0],[32]])))))))))))))))))))))
 (.cond (.t 3)
 (.seq
 (.region [⟨some 2,.mv (.k (.bool true)),none⟩] [2] [] [])
 .ret)
 .skip)))
 (.seq
 (.region [⟨some 2,.mv (.k (.bool false)),none⟩] [2] [] [])
 .ret))),
 [.t 2]⟩

def l_authres_zzIsSpace:Lay:={ rg:=[(0,([0],[])),(1,([0,3],[])),(2,([0,3],[])),(3,([0,3],[])),(4,([0,3],[])),(5,([0,3],[])),(6,([0,3],[])),(7,([0,3],[])),(8,([0,3],[])),(9,([0,3],[])),(10,([0,3],[])),(11,([3],[])),(12,([2],[])),(13,([2],[]))],dd:=[(1,[[],[4],[5],[],[7],[6,8]]),(2,[[],[10]]),(3,[[],[12]]),(4,[[],[14]]),(5,[[],[16]]),(6,[[],[18],[19],[],[21],[20,22]]),(7,[[],[24]]),(8,[[],[26]]),(9,[[],[28]]),(10,[[],[30]]),(11,[[0],[32]])] }

def b_authres_zzTrimSpace_1:SCode :=
 (.seq
 (.region [⟨some 17,.nextS (.t 16),none⟩,⟨some 18,.extr (.t 17) 0,none⟩] [0,3,4,16,17,18] [] [])
 (.seq
 (.cond (.t 18)
 .skip
 (.exit 0))
 (.block 1
 (.seq
 (.region [⟨some 19,.extr (.t 17) 1,none⟩,⟨some 20,.extr (.t 17) 2,none⟩,⟨some 5,.mv (.t 19),none⟩,⟨some 6,.mv (.t 20),none⟩] [0,3,4,5,6,16] [] [[],[17],[19]])
 (.seq
 (.region [⟨some 21,.mv (.t 6),none⟩,⟨some 22,.call 165 [(.t 21)],none⟩,⟨some 23,.un .not (.t 22),none⟩] [0,3,4,5,16,23] [] [[6],[21]])
 (.cond (.t 23)
 (.seq
 (.region [⟨some 24,.mv (.t 5),none⟩,⟨some 3,.mv (.t 24),none⟩] [0,3,4] [16] [[5]])
 (.exit 0))
 .skip))))))

def b_authres_zzTrimSpace_2:SCode :=
 (.seq
 (.seq
 (.region [⟨some 30,.mv (.t 8),none⟩,⟨some 31,.bin .lss (.t 30) (.k (.int .i64 4)),none⟩,⟨some 32,.mv (.t 31),none⟩,⟨some 33,.mv (.t 7),some (32,true)⟩,⟨some 34,.mv (.t 8),some (32,true)⟩,⟨some 35,.bin .add (.t 33) (.t 34),some (32,true)⟩,⟨some 36,.mv (.t 0),some (32,true)⟩,⟨some 37,.len 0 (.t 36),some (32,true)⟩,⟨some 38,.bin .lss (.t 35) (.t 37),some (32,true)⟩,⟨some 39,.pick (.t 32) (.t 38) (.k (.bool false)),none⟩,⟨some 40,.mv (.t 39),none⟩,⟨some 41,.mv (.t 0),some (40,true)⟩,⟨some 42,.mv (.t 7),some (40,true)⟩,⟨some 43,.iStr (.t 41) (.t 42),some (40,true)⟩,⟨some 44,.bin .geq (.t 43) (.k (.int .u8 192)),some (40,true)⟩,⟨some 45,.pick (.t 40) (.t 44) (.k (.bool false)),none⟩,⟨some 46,.mv (.t 45),none⟩,⟨some 47,.mv (.t 0),some (46,true)⟩,⟨some 48,.mv (.t 7),some (46,true)⟩,⟨some 49,.mv (.t 8),some (46,true)⟩,⟨some 50,.bin .add (.t 48) (.t 49),some (46,true)⟩,⟨some 51,.iStr (.t 47) (.t 50),some (46,true)⟩,⟨some 52,.bin .and (.t 51) (.k (.int .u8 192)),some (46,true)⟩,⟨some 53,.bin .eql (.t 52) (.k (.int .u8 128)),some (46,true)⟩,⟨some 54,.pick (.t 46) (.t 53) (.k (.bool false)),none⟩] [0,3,4,7,8,54] [] [[],[30],[31],[],[],[33,34],[],[36],[35,37],[32,38],[39],[],[],[41,42],[43],[40,44],[45],[],[],[],[48,49],[47,50],[51],[52]])
 (.cond (.t 54)
 .skip
 (.exit 4)))
 (.block 5
 (.region [⟨some 55,.mv (.t 8),none⟩,⟨some 56,.bin .add (.t 55) (.k (.int .i64 1)),none⟩,⟨some 8,.mv (.t 56),none⟩] [0,3,4,7,8] [] [[],[55]])))

def t_authres_zzTrimSpace_3:SCode :=
 (.seq
 (.seq
 (.region [⟨some 57,.mv (.t 0),none⟩,⟨some 58,.mv (.t 7),none⟩,⟨some 59,.mv (.t 7),none⟩,⟨some 60,.mv (.t 8),none⟩,⟨some 61,.bin .add (.t 59) (.t 60),none⟩,⟨some 62,.slStr (.t 57) (some (.t 58)) (some (.t 61)),none⟩,⟨some 63,.cStrRunes (.t 62),none⟩,⟨some 9,.mv (.t 63),none⟩] [0,3,4,7,8,9] [] [[],[],[],[],[59,60],[57,58,61],[62]])
 (.seq
 (.region [⟨some 64,.mv (.t 9),none⟩,⟨some 65,.len 1 (.t 64),none⟩,⟨some 66,.bin .gtr (.t 65) (.k (.int .i64 1)),none⟩] [0,3,4,7,8,66] [63] [[9],[64]])
 (.cond (.t 66)
 (.region [⟨some 8,.mv (.k (.int .i64 1)),none⟩] [0,3,4,7,8] [] [])
 .skip)))
 (.seq
 (.seq
 (.region [⟨some 67,.mv (.t 0),none⟩,⟨some 68,.mv (.t 7),none⟩,⟨some 69,.mv (.t 7),none⟩,⟨some 70,.mv (.t 8),none⟩,⟨some 71,.bin .add (.t 69) (.t 70),none⟩,⟨some 72,.slStr (.t 67) (some (.t 68)) (some (.t 71)),none⟩,⟨some 73,.cStrRunes (.t 72),none⟩,⟨some 10,.mv (.t 73),none⟩] [0,3,4,7,8,10] [] [[],[],[],[],[69,70],[67,68,71],[72]])
 (.seq
 (.region [⟨some 74,.mv (.t 10),none⟩,⟨some 75,.len 1 (.t 74),none⟩,⟨some 76,.bin .neq (.t 75) (.k (.int .i64 1)),none⟩,⟨some 77,.mv (.t 76),none⟩,⟨some 78,.mv (.t 10),some (77,false)⟩,⟨some 79,.iAddr 1 (.t 78) (.k (.int .i64 0)),some (77,false)⟩,⟨some 80,.load none (.t 79),some (77,false)⟩,⟨some 81,.call 165 [(.t 80)],some (77,false)⟩,⟨some 82,.un .not (.t 81),some (77,false)⟩,⟨some 83,.pick (.t 77) (.k (.bool true)) (.t 82),none⟩] [0,3,4,7,8,83] [73] [[],[74],[75],[76],[10],[78],[79],[80],[81]])
 (.cond (.t 83)
 (.region [⟨some 84,.mv (.t 7),none⟩,⟨some 85,.mv (.t 8),none⟩,⟨some 86,.bin .add (.t 84) (.t 85),none⟩,⟨some 4,.mv (.t 86),none⟩] [0,3,4,7,8] [] [[],[],[84,85]])
 .skip)))
 (.region [⟨some 87,.mv (.t 7),none⟩,⟨some 88,.mv (.t 8),none⟩,⟨some 89,.bin .add (.t 87) (.t 88),none⟩,⟨some 7,.mv (.t 89),none⟩] [0,3,4,7] [] [[],[8],[87,88]])))

def b_authres_zzTrimSpace_4:SCode :=
 (.seq
 (.seq
 (.region [⟨some 26,.mv (.t 7),none⟩,⟨some 27,.mv (.t 0),none⟩,⟨some 28,.len 0 (.t 27),none⟩,⟨some 29,.bin .lss (.t 26) (.t 28),none⟩] [0,3,4,7,29] [] [[],[],[27]])
 (.cond (.t 29)
 .skip
 (.exit 2)))
 (.block 3
 (.seq
 (.region [⟨some 8,.mv (.k (.int .i64 1)),none⟩] [0,3,4,7,8] [] [])
 (.seq
 (.block 4
 (.loop [0,3,4,7,8]
 b_authres_zzTrimSpace_2))
 t_authres_zzTrimSpace_3))))

def t_authres_zzTrimSpace_5:SCode :=
 (.seq
 (.seq
 (.region [⟨some 90,.mv (.t 3),none⟩,⟨some 91,.mv (.t 0),none⟩,⟨some 92,.len 0 (.t 91),none⟩,⟨some 93,.bin .eql (.t 90) (.t 92),none⟩] [0,3,4,93] [] [[],[],[91]])
 (.cond (.t 93)
 (.seq
 (.region [⟨some 2,.mv (.k (.str [])),none⟩] [2] [] [])
 .ret)
 .skip))
 (.seq
 (.region [⟨some 94,.mv (.t 0),none⟩,⟨some 95,.mv (.t 3),none⟩,⟨some 96,.mv (.t 4),none⟩,⟨some 97,.slStr (.t 94) (some (.t 95)) (some (.t 96)),none⟩,⟨some 2,.mv (.t 97),none⟩] [2] [] [[0],[3],[4],[94,95,96]])
 .ret))

def t_authres_zzTrimSpace_6:SCode :=
 (.seq
 (.seq
 (.region [⟨some 25,.mv (.t 3),none⟩,⟨some 7,.mv (.t 25),none⟩] [0,3,4,7] [16] [])
 (.block 2
 (.loop [0,3,4,7]
 b_authres_zzTrimSpace_4)))
 t_authres_zzTrimSpace_5)

def c_authres_zzTrimSpace:SFn:=⟨1,
 (.seq
 (.region [⟨some 2,.mv (.k (.str [])),none⟩] [0] [] [])
 (.seq
 (.region [⟨some 11,.mv (.t 0),none⟩,⟨some 12,.len 0 (.t 11),none⟩,⟨some 13,.mv (.t 0),none⟩,⟨some 14,.len 0 (.t 13),none⟩,⟨some 3,.mv (.t 12),none⟩,⟨some 4,.mv (.t 14),none⟩] [0,3,4] [] [[],[11],[],[13],[12]])
 (.seq
 (.seq
 (.region [⟨some 15,.mv (.t 0),none⟩,⟨some 16,.rangeS (.t 15),none⟩] [0,3,4,16] [] [])
 (.block 0
 (.loop [0,3,4,16]
 b_authres_zzTrimSpace_1)))
 t_authres_zzTrimSpace_6))),
 [.t 2]⟩

def l_authres_zzTrimSpace:Lay:={ rg:=[(0,([0],[])),(1,([0,3,4],[])),(2,([0,3,4,16],[])),(3,([0,3,4,16,17,18],[])),(4,([0,3,4,5,6,16],[])),(5,([0,3,4,5,16,23],[])),(6,([0,3,4],[16])),(7,([0,3,4,7],[16])),(8,([0,3,4,7,29],[])),(9,([0,3,4,7,8],[])),(10,([0,3,4,7,8,54],[])),(11,([0,3,4,7,8],[])),(12,([0,3,4,7,8,9],[])),(13,([0,3,4,7,8,66],[63])),(14,([0,3,4,7,8],[])),(15,([0,3,4,7,8,10],[])),(16,([0,3,4,7,8,83],[73])),(17,([0,3,4,7,8],[])),(18,([0,3,4,7],[])),(19,([0,3,4,93],[])),(20,([2],[])),(21,([2],[])),(1000003,([0,3,4,16],[])),(1000008,([0,3,4,7],[])),(1000010,([0,3,4,7,8],[]))],dd:=[(1,[[],[11],[],[13],[12]]),(4,[[],[17],[19]]),(5,[[6],[21]]),(6,[[5]]),(8,[[],[],[27]]),(10,[[],[30],[31],[],[],[33,34],[],[36],[35,37],[32,38],[39],[],[],[41,42],[43],[40,44],[45],[],[],[],[48,49],[47,50],[51],[52]]),(11,[[],[55]]),(12,[[],[],[],[],[59,60],[57,58,61],[62]]),(13,[[9],[64]]),(15,[[],[],[],[],[69,70],[67,68,71],[72]]),(16,[[],[74],[75],[76],[10],[78],[79],[80],[81]]),(17,[[],[],[84,85]]),(18,[[],[8],[87,88]]),(19,[[],[],[91]]),(21,[[0],[3],[4],[94,95,96]])] }

def c_authres_zzIndex:SFn:=⟨2,
 (.seq
 (.region [⟨some 4,.mv (.k (.int .i64 0)),none⟩] [0,1] [] [])
 (.seq
 (.seq
 (.region [⟨some 5,.mv (.k (.int .i64 0)),none⟩] [0,1,5] [] [])
 (.block 0
 (.loop [0,1,5]
 (.seq
 (.seq
 (.region [⟨some 6,.mv (.t 5),none⟩,⟨some 7,.mv (.t 1),none⟩,⟨some 8,.len 0 (.t 7),none⟩,⟨some 9,.bin .add (.t 6) (.t 8),none⟩,⟨some 10,.mv (.t 0),none⟩,⟨some 11,.len 0 (.t 10),none⟩,⟨some 12,.bin .leq (.t 9) (.t 11),none⟩] [0,1,5,12] [] [[],[],[7],[6,8],[],[10]])
 (.cond (.t 12)
 .skip
 (.exit 0)))
 (.seq
 (.block 1
 (.seq
 (.region [⟨some 15,.mv (.t 0),none⟩,⟨some 16,.mv (.t 5),none⟩,⟨some 17,.mv (.t 5),none⟩,⟨some 18,.mv (.t 1),none⟩,⟨some 19,.len 0 (.t 18),none⟩,⟨some 20,.bin .add (.t 17) (.t 19),none⟩,⟨some 21,.slStr (.t 15) (some (.t 16)) (some (.t 20)),none⟩,⟨some 22,.mv (.t 1),none⟩,⟨some 23,.bin .eql (.t 21) (.t 22),none⟩] [0,1,5,23] [] [[],[],[],[],[18],[17,19],[15,16,20]])
 (.cond (.t 23)
 (.seq
 (.region [⟨some 24,.mv (.t 5),none⟩,⟨some 4,.mv (.t 24),none⟩] [4] [] [[5]])
 .ret)
 .skip)))
 (.region [⟨some 13,.mv (.t 5),none⟩,⟨some 14,.bin .add (.t 13) (.k (.int .i64 1)),none⟩,⟨some 5,.mv (.t 14),none⟩] [0,1,5] [] [[],[13]]))))))
 (.seq
 (.region [⟨some 4,.mv (.k (.int .i64 (-1))),none⟩] [4] [] [])
 .ret))),
 [.t 4]⟩

def l_authres_zzIndex:Lay:={ rg:=[(0,([0,1],[])),(1,([0,1,5],[])),(2,([0,1,5,12],[])),(3,([0,1,5],[])),(4,([0,1,5,23],[])),(5,([4],[])),(6,([4],[])),(1000002,([0,1,5],[]))],dd:=[(2,[[],[],[7],[6,8],[],[10]]),(3,[[],[13]]),(4,[[],[],[],[],[18],[17,19],[15,16,20]]),(5,[[5]])] }

def b_authres_zzSplit_1:SCode :=
 (.seq
 (.region [⟨some 14,.nextS (.t 13),none⟩,⟨some 15,.extr (.t 14) 0,none⟩] [0,5,6,13,14,15] [] [])
 (.seq
 (.cond (.t 15)
 .skip
 (.exit 0))
 (.block 1
 (.seq
 (.region [⟨some 16,.extr (.t 14) 1,none⟩,⟨some 7,.mv (.t 16),none⟩] [0,5,6,7,13] [] [[14]])
 (.seq
 (.region [⟨some 17,.mv (.t 7),none⟩,⟨some 18,.bin .gtr (.t 17) (.k (.int .i64 0)),none⟩] [0,5,6,7,13,18] [] [])
 (.cond (.t 18)
 (.seq
 (.region [⟨some 19,.mv (.t 5),none⟩,⟨some 20,.mv (.t 0),none⟩,⟨some 21,.mv (.t 6),none⟩,⟨some 22,.mv (.t 7),none⟩,⟨some 23,.slStr (.t 20) (some (.t 21)) (some (.t 22)),none⟩,⟨some 24,.mkSl 1 1 [(.str [])] [(0,(.t 23))],none⟩,⟨some 25,.app 1 16 (.t 19) (.t 24),none⟩,⟨some 5,.mv (.t 25),none⟩] [0,5,7,13] [24] [[],[],[6],[],[20,21,22],[23],[19,24]])
 (.region [⟨some 26,.mv (.t 7),none⟩,⟨some 6,.mv (.t 26),none⟩] [0,5,6,13] [] [[7]]))
 .skip))))))

def t_authres_zzSplit_2:SCode :=
 (.seq
 (.seq
 (.region [⟨some 27,.mv (.t 0),none⟩,⟨some 28,.len 0 (.t 27),none⟩,⟨some 29,.bin .gtr (.t 28) (.k (.int .i64 0)),none⟩] [0,5,6,29] [13] [[],[27]])
 (.cond (.t 29)
 (.region [⟨some 30,.mv (.t 5),none⟩,⟨some 31,.mv (.t 0),none⟩,⟨some 32,.mv (.t 6),none⟩,⟨some 33,.slStr (.t 31) (some (.t 32)) none,none⟩,⟨some 34,.mkSl 1 1 [(.str [])] [(0,(.t 33))],none⟩,⟨some 35,.app 1 16 (.t 30) (.t 34),none⟩,⟨some 5,.mv (.t 35),none⟩] [5] [34] [[],[0],[6],[31,32],[33],[30,34]])
 .skip))
 (.seq
 (.region [⟨some 36,.mv (.t 5),none⟩,⟨some 4,.mv (.t 36),none⟩] [4] [] [[5]])
 .ret))

def b_authres_zzSplit_3:SCode :=
 (.block 3
 (.seq
 (.region [⟨some 37,.mv (.t 0),none⟩,⟨some 38,.mv (.t 1),none⟩,⟨some 39,.call 169 [(.t 37),(.t 38)],none⟩,⟨some 8,.mv (.t 39),none⟩] [0,1,5,8] [] [[],[],[37,38]])
 (.seq
 (.seq
 (.region [⟨some 40,.mv (.t 8),none⟩,⟨some 41,.bin .lss (.t 40) (.k (.int .i64 0)),none⟩] [0,1,5,8,41] [] [])
 (.cond (.t 41)
 (.seq
 (.region [⟨some 42,.mv (.t 5),none⟩,⟨some 43,.mv (.t 0),none⟩,⟨some 44,.mkSl 1 1 [(.str [])] [(0,(.t 43))],none⟩,⟨some 45,.app 1 16 (.t 42) (.t 44),none⟩,⟨some 4,.mv (.t 45),none⟩] [4] [44] [[5],[0],[43],[42,44]])
 .ret)
 .skip))
 (.seq
 (.region [⟨some 46,.mv (.t 5),none⟩,⟨some 47,.mv (.t 0),none⟩,⟨some 48,.mv (.t 8),none⟩,⟨some 49,.slStr (.t 47) none (some (.t 48)),none⟩,⟨some 50,.mkSl 1 1 [(.str [])] [(0,(.t 49))],none⟩,⟨some 51,.app 1 16 (.t 46) (.t 50),none⟩,⟨some 5,.mv (.t 51),none⟩] [0,1,5,8] [50] [[],[],[],[47,48],[49],[46,50]])
 (.region [⟨some 52,.mv (.t 0),none⟩,⟨some 53,.mv (.t 8),none⟩,⟨some 54,.mv (.t 1),none⟩,⟨some 55,.len 0 (.t 54),none⟩,⟨some 56,.bin .add (.t 53) (.t 55),none⟩,⟨some 57,.slStr (.t 52) (some (.t 56)) none,none⟩,⟨some 0,.mv (.t 57),none⟩] [0,1,5] [] [[],[8],[],[54],[53,55],[52,56]])))))

def t_authres_zzSplit_4:SCode :=
 (.block 2
 (.loop [0,1,5]
 b_authres_zzSplit_3))

def c_authres_zzSplit:SFn:=⟨2,
 (.seq
 (.region [⟨some 4,.mv (.k .nilS),none⟩] [0,1] [] [])
 (.seq
 (.region [⟨some 5,.mv (.k .nilS),none⟩] [0,1,5] [] [])
 (.seq
 (.seq
 (.region [⟨some 9,.mv (.t 1),none⟩,⟨some 10,.len 0 (.t 9),none⟩,⟨some 11,.bin .eql (.t 10) (.k (.int .i64 0)),none⟩] [0,1,5,11] [] [[],[9]])
 (.cond (.t 11)
 (.seq
 (.region [⟨some 6,.mv (.k (.int .i64 0)),none⟩] [0,5,6] [] [])
 (.seq
 (.seq
 (.region [⟨some 12,.mv (.t 0),none⟩,⟨some 13,.rangeS (.t 12),none⟩] [0,5,6,13] [] [])
 (.block 0
 (.loop [0,5,6,13]
 b_authres_zzSplit_1)))
 t_authres_zzSplit_2))
 .skip))
 t_authres_zzSplit_4))),
 [.t 4]⟩

def l_authres_zzSplit:Lay:={ rg:=[(0,([0,1],[])),(1,([0,1,5],[])),(2,([0,1,5,11],[])),(3,([0,5,6],[])),(4,([0,5,6,13],[])),(5,([0,5,6,13,14,15],[])),(6,([0,5,6,7,13],[])),(7,([0,5,6,7,13,18],[])),(8,([0,5,7,13],[24])),(9,([0,5,6,13],[])),(10,([0,5,6,29],[13])),(11,([5],[34])),(12,([4],[])),(13,([0,1,5,8],[])),(14,([0,1,5,8,41],[])),(15,([4],[44])),(16,([0,1,5,8],[50])),(17,([0,1,5],[])),(1000005,([0,5,6,13],[])),(1000013,([0,1,5],[]))],dd:=[(2,[[],[9]]),(6,[[14]]),(8,[[],[],[6],[],[20,21,22],[23],[19,24]]),(9,[[7]]),(10,[[],[27]]),(11,[[],[0],[6],[31,32],[33],[30,34]]),(12,[[5]]),(13,[[],[],[37,38]]),(15,[[5],[0],[43],[42,44]]),(16,[[],[],[],[47,48],[49],[46,50]]),(17,[[],[8],[],[54],[53,55],[52,56]])] }

def c_authres_zzCut:SFn:=⟨2,
 (.seq
 (.region [⟨some 4,.mv (.k (.str [])),none⟩,⟨some 5,.mv (.k (.str [])),none⟩,⟨some 6,.mv (.k (.bool false)),none⟩] [0,1] [] [[4],[5]])
 (.seq
 (.seq
 (.region [⟨some 8,.mv (.t 0),none⟩,⟨some 9,.mv (.t 1),none⟩,⟨some 10,.call 169 [(.t 8),(.t 9)],none⟩,⟨some 7,.mv (.t 10),none⟩] [0,1,7] [] [[],[],[8,9]])
 (.seq
 (.region [⟨some 11,.mv (.t 7),none⟩,⟨some 12,.bin .geq (.t 11) (.k (.int .i64 0)),none⟩] [0,1,7,12] [] [])
 (.cond (.t 12)
 (.seq
 (.region [⟨some 13,.mv (.t 0),none⟩,⟨some 14,.mv (.t 7),none⟩,⟨some 15,.slStr (.t 13) none (some (.t 14)),none⟩,⟨some 16,.mv (.t 0),none⟩,⟨some 17,.mv (.t 7),none⟩,⟨some 18,.mv (.t 1),none⟩,⟨some 19,.len 0 (.t 18),none⟩,⟨some 20,.bin .add (.t 17) (.t 19),none⟩,⟨some 21,.slStr (.t 16) (some (.t 20)) none,none⟩,⟨some 4,.mv (.t 15),none⟩,⟨some 5,.mv (.t 21),none⟩,⟨some 6,.mv (.k (.bool true)),none⟩] [4,5,6] [] [])
 .ret)
 .skip)))
 (.seq
 (.region [⟨some 22,.mv (.t 0),none⟩,⟨some 4,.mv (.t 22),none⟩,⟨some 5,.mv (.k (.str [])),none⟩,⟨some 6,.mv (.k (.bool false)),none⟩] [4,5,6] [] [[0],[22]])
 .ret))),
 [.t 4,.t 5,.t 6]⟩

def l_authres_zzCut:Lay:={ rg:=[(0,([0,1],[])),(1,([0,1,7],[])),(2,([0,1,7,12],[])),(3,([4,5,6],[])),(4,([4,5,6],[]))],dd:=[(0,[[4],[5]]),(1,[[],[],[8,9]]),(4,[[0],[22]])] }

def b_authres_zzToLower_1:SCode :=
 (.seq
 (.seq
 (.region [⟨some 6,.mv (.t 4),none⟩,⟨some 7,.mv (.t 0),none⟩,⟨some 8,.len 0 (.t 7),none⟩,⟨some 9,.bin .lss (.t 6) (.t 8),none⟩] [0,3,4,9] [] [[],[],[7]])
 (.cond (.t 9)
 .skip
 (.exit 0)))
 (.seq
 (.block 1
 (.seq
 (.region [⟨some 12,.mv (.t 0),none⟩,⟨some 13,.mv (.t 4),none⟩,⟨some 14,.iStr (.t 12) (.t 13),none⟩,⟨some 5,.mv (.t 14),none⟩] [0,3,4,5] [] [[],[],[12,13]])
 (.block 2
 (.seq
 (.region [⟨some 20,.mv (.t 5),none⟩,⟨some 21,.bin .leq (.k (.int .u8 65)) (.t 20),none⟩,⟨some 22,.mv (.t 21),none⟩,⟨some 23,.mv (.t 5),some (22,true)⟩,⟨some 24,.bin .leq (.t 23) (.k (.int .u8 90)),some (22,true)⟩,⟨some 25,.pick (.t 22) (.t 24) (.k (.bool false)),none⟩,⟨some 19,.mv (.t 25),none⟩] [0,3,4,5,19] [] [[],[20],[21],[],[23],[22,24]])
 (.cond (.t 19)
 (.region [⟨some 26,.mv (.t 3),none⟩,⟨some 27,.mv (.t 5),none⟩,⟨some 28,.bin .add (.t 27) (.k (.int .u8 97)),none⟩,⟨some 29,.bin .sub (.t 28) (.k (.int .u8 65)),none⟩,⟨some 30,.mkSl 1 1 [(.int .u8 0)] [(0,(.t 29))],none⟩,⟨some 31,.app 1 1 (.t 26) (.t 30),none⟩,⟨some 3,.mv (.t 31),none⟩] [0,3,4] [30] [[],[5],[27],[28],[29],[26,30]])
 (.seq
 (.region [⟨some 33,.mv (.t 0),none⟩,⟨some 34,.len 0 (.t 33),none⟩,⟨some 35,.mv (.t 4),none⟩,⟨some 36,.bin .sub (.t 34) (.t 35),none⟩,⟨some 37,.bin .geq (.t 36) (.k (.int .i64 3)),none⟩,⟨some 38,.mv (.t 37),none⟩,⟨some 39,.mv (.t 0),some (38,true)⟩,⟨some 40,.mv (.t 4),some (38,true)⟩,⟨some 41,.mv (.t 4),some (38,true)⟩,⟨some 42,.bin .add (.t 41) (.k (.int .i64 3)),some (38,true)⟩,⟨some 43,.slStr (.t 39) (some (.t 40)) (some (.t 42)),some (38,true)⟩,⟨some 44,.bin .eql (.t 43) (.k (.str [226,132,170])),some (38,true)⟩,⟨some 45,.pick (.t 38) (.t 44) (.k (.bool false)),none⟩,⟨some 32,.mv (.t 45),none⟩] [0,3,4,5,32] [] [[],[33],[],[34,35],[36],[37],[],[],[],[41],[39,40,42],[43],[38,44]])
 (.cond (.t 32)
 (.seq
 (.region [⟨some 46,.mv (.t 3),none⟩,⟨some 47,.mkSl 1 1 [(.int .u8 0)] [(0,(.k (.int .u8 107)))],none⟩,⟨some 48,.app 1 1 (.t 46) (.t 47),none⟩,⟨some 3,.mv (.t 48),none⟩] [0,3,4] [47] [[],[],[46,47]])
 (.region [⟨some 49,.mv (.t 4),none⟩,⟨some 50,.bin .add (.t 49) (.k (.int .i64 2)),none⟩,⟨some 4,.mv (.t 50),none⟩] [0,3,4] [] [[],[49]]))
 (.region [⟨some 15,.mv (.t 3),none⟩,⟨some 16,.mv (.t 5),none⟩,⟨some 17,.mkSl 1 1 [(.int .u8 0)] [(0,(.t 16))],none⟩,⟨some 18,.app 1 1 (.t 15) (.t 17),none⟩,⟨some 3,.mv (.t 18),none⟩] [0,3,4] [17] [[],[5],[16],[15,17]]))))))))
 (.region [⟨some 10,.mv (.t 4),none⟩,⟨some 11,.bin .add (.t 10) (.k (.int .i64 1)),none⟩,⟨some 4,.mv (.t 11),none⟩] [0,3,4] [] [[],[10]])))

def t_authres_zzToLower_2:SCode :=
 (.seq
 (.region [⟨some 51,.mv (.t 3),none⟩,⟨some 52,.cBytesStr (.t 51),none⟩,⟨some 2,.mv (.t 52),none⟩] [2] [18,31,48] [[3],[51]])
 .ret)

def c_authres_zzToLower:SFn:=⟨1,
 (.seq
 (.region [⟨some 2,.mv (.k (.str [])),none⟩] [0] [] [])
 (.seq
 (.region [⟨some 3,.mv (.k .nilS),none⟩] [0,3] [] [])
 (.seq
 (.seq
 (.region [⟨some 4,.mv (.k (.int .i64 0)),none⟩] [0,3,4] [] [])
 (.block 0
 (.loop [0,3,4]
 b_authres_zzToLower_1)))
 t_authres_zzToLower_2))),
 [.t 2]⟩

def l_authres_zzToLower:Lay:={ rg:=[(0,([0],[])),(1,([0,3],[])),(2,([0,3,4],[])),(3,([0,3,4,9],[])),(4,([0,3,4],[])),(5,([0,3,4,5],[])),(6,([0,3,4],[17])),(7,([0,3,4,5,19],[])),(8,([0,3,4],[30])),(9,([0,3,4,5,32],[])),(10,([0,3,4],[47])),(11,([0,3,4],[])),(12,([2],[18,31,48])),(1000003,([0,3,4],[]))],dd:=[(3,[[],[],[7]]),(4,[[],[10]]),(5,[[],[],[12,13]]),(6,[[],[5],[16],[15,17]]),(7,[[],[20],[21],[],[23],[22,24]]),(8,[[],[5],[27],[28],[29],[26,30]]),(9,[[],[33],[],[34,35],[36],[37],[],[],[],[41],[39,40,42],[43],[38,44]]),(10,[[],[],[46,47]]),(11,[[],[49]]),(12,[[3],[51]])] }

def b_authres_zzFields_1:SCode :=
 (.seq
 (.region [⟨some 9,.nextS (.t 8),none⟩,⟨some 10,.extr (.t 9) 0,none⟩] [0,3,4,8,9,10] [] [])
 (.seq
 (.cond (.t 10)
 .skip
 (.exit 0))
 (.block 1
 (.seq
 (.region [⟨some 11,.extr (.t 9) 1,none⟩,⟨some 12,.extr (.t 9) 2,none⟩,⟨some 5,.mv (.t 11),none⟩,⟨some 6,.mv (.t 12),none⟩] [0,3,4,5,6,8] [] [[],[9],[11]])
 (.block 2
 (.seq
 (.region [⟨some 14,.mv (.t 6),none⟩,⟨some 15,.call 165 [(.t 14)],none⟩,⟨some 13,.mv (.t 15),none⟩] [0,3,4,5,8,13] [] [[6],[14]])
 (.cond (.t 13)
 (.seq
 (.seq
 (.region [⟨some 16,.mv (.t 4),none⟩,⟨some 17,.bin .geq (.t 16) (.k (.int .i64 0)),none⟩] [0,3,4,5,8,17] [] [])
 (.cond (.t 17)
 (.region [⟨some 18,.mv (.t 3),none⟩,⟨some 19,.mv (.t 0),none⟩,⟨some 20,.mv (.t 4),none⟩,⟨some 21,.mv (.t 5),none⟩,⟨some 22,.slStr (.t 19) (some (.t 20)) (some (.t 21)),none⟩,⟨some 23,.mkSl 1 1 [(.str [])] [(0,(.t 22))],none⟩,⟨some 24,.app 1 16 (.t 18) (.t 23),none⟩,⟨some 3,.mv (.t 24),none⟩] [0,3,8] [23] [[],[],[4],[5],[19,20,21],[22],[18,23]])
 .skip))
 (.region [⟨some 4,.mv (.k (.int .i64 (-1))),none⟩] [0,3,4,8] [] []))
 (.seq
 (.region [⟨some 26,.mv (.t 4),none⟩,⟨some 27,.bin .lss (.t 26) (.k (.int .i64 0)),none⟩,⟨some 25,.mv (.t 27),none⟩] [0,3,4,5,8,25] [] [[],[26]])
 (.cond (.t 25)
 (.region [⟨some 28,.mv (.t 5),none⟩,⟨some 4,.mv (.t 28),none⟩] [0,3,4,8] [] [[5]])
 .skip)))))))))

def t_authres_zzFields_2:SCode :=
 (.seq
 (.seq
 (.region [⟨some 29,.mv (.t 4),none⟩,⟨some 30,.bin .geq (.t 29) (.k (.int .i64 0)),none⟩] [0,3,4,30] [8] [])
 (.cond (.t 30)
 (.region [⟨some 31,.mv (.t 3),none⟩,⟨some 32,.mv (.t 0),none⟩,⟨some 33,.mv (.t 4),none⟩,⟨some 34,.slStr (.t 32) (some (.t 33)) none,none⟩,⟨some 35,.mkSl 1 1 [(.str [])] [(0,(.t 34))],none⟩,⟨some 36,.app 1 16 (.t 31) (.t 35),none⟩,⟨some 3,.mv (.t 36),none⟩] [3] [35] [[],[0],[4],[32,33],[34],[31,35]])
 .skip))
 (.seq
 (.region [⟨some 37,.mv (.t 3),none⟩,⟨some 2,.mv (.t 37),none⟩] [2] [] [[3]])
 .ret))

def c_authres_zzFields:SFn:=⟨1,
 (.seq
 (.region [⟨some 2,.mv (.k .nilS),none⟩] [0] [] [])
 (.seq
 (.region [⟨some 3,.mv (.k .nilS),none⟩] [0,3] [] [])
 (.seq
 (.region [⟨some 4,.mv (.k (.int .i64 (-1))),none⟩] [0,3,4] [] [])
 (.seq
 (.seq
 (.region [⟨some 7,.mv (.t 0),none⟩,⟨some 8,.rangeS (.t 7),none⟩] [0,3,4,8] [] [])
 (.block 0
 (.loop [0,3,4,8]
 b_authres_zzFields_1)))
 t_authres_zzFields_2)))),
 [.t 2]⟩

def l_authres_zzFields:Lay:={ rg:=[(0,([0],[])),(1,([0,3],[])),(2,([0,3,4],[])),(3,([0,3,4,8],[])),(4,([0,3,4,8,9,10],[])),(5,([0,3,4,5,6,8],[])),(6,([0,3,4,5,8,13],[])),(7,([0,3,4,5,8,17],[])),(8,([0,3,8],[23])),(9,([0,3,4,8],[])),(10,([0,3,4,5,8,25],[])),(11,([0,3,4,8],[])),(12,([0,3,4,30],[8])),(13,([3],[35])),(14,([2],[])),(1000004,([0,3,4,8],[]))],dd:=[(5,[[],[9],[11]]),(6,[[6],[14]]),(8,[[],[],[4],[5],[19,20,21],[22],[18,23]]),(10,[[],[26]]),(11,[[5]]),(13,[[],[0],[4],[32,33],[34],[31,35]]),(14,[[3]])] }

def c_authres_parseParam:SFn:=⟨1,
 (.seq
 (.region [⟨some 2,.mv (.k (.str [])),none⟩,⟨some 3,.mv (.k (.str [])),none⟩,⟨some 4,.mv (.k .nilI),none⟩] [0] [] [[2],[3]])
 (.seq
 (.region [⟨some 7,.mv (.t 0),none⟩,⟨some 8,.call 174 [(.t 7),(.k (.str [61]))],none⟩,⟨some 6,.mv (.t 8),none⟩,⟨some 9,.extr (.t 6) 0,none⟩,⟨some 10,.extr (.t 6) 1,none⟩,⟨some 11,.extr (.t 6) 2,none⟩,⟨some 2,.mv (.t 9),none⟩,⟨some 3,.mv (.t 10),none⟩,⟨some 5,.mv (.t 11),none⟩] [2,3,5] [] [[0],[7],[8],[],[],[6],[9],[10]])
 (.seq
 (.seq
 (.region [⟨some 12,.mv (.t 5),none⟩,⟨some 13,.un .not (.t 12),none⟩] [2,3,13] [] [[5]])
 (.cond (.t 13)
 (.seq
 (.region [⟨some 14,.call 50 [(.k (.str [109,115,103,97,117,116,104,58,32,109,97,108,102,111,114,109,101,100,32,97,117,116,104,101,110,116,105,99,97,116,105,111,110,32,109,101,116,104,111,100,32,97,110,100,32,118,97,108,117,101]))],none⟩,⟨some 2,.mv (.k (.str [])),none⟩,⟨some 3,.mv (.k (.str [])),none⟩,⟨some 4,.mv (.t 14),none⟩] [2,3,4] [] [])
 .ret)
 .skip))
 (.seq
 (.region [⟨some 15,.mv (.t 2),none⟩,⟨some 16,.call 163 [(.t 15)],none⟩,⟨some 17,.call 172 [(.t 16)],none⟩,⟨some 18,.mv (.t 3),none⟩,⟨some 19,.call 163 [(.t 18)],none⟩,⟨some 2,.mv (.t 17),none⟩,⟨some 3,.mv (.t 19),none⟩,⟨some 4,.mv (.k .nilI),none⟩] [2,3,4] [] [[],[15],[16],[],[18],[17],[19]])
 .ret)))),
 [.t 2,.t 3,.t 4]⟩

def l_authres_parseParam:Lay:={ rg:=[(0,([0],[])),(1,([2,3,5],[])),(2,([2,3,13],[])),(3,([2,3,4],[])),(4,([2,3,4],[]))],dd:=[(0,[[2],[3]]),(1,[[0],[7],[8],[],[],[6],[9],[10]]),(2,[[5]]),(4,[[],[15],[16],[],[18],[17],[19]])] }

def c_authres_newResults:SFn:=⟨1,
 (.seq
 (.region [⟨some 2,.mv (.k .nilF),none⟩,⟨some 3,.mv (.k (.bool false)),none⟩] [0] [] [[2]])
 (.seq
 (.seq
 (.region [⟨some 4,.mv (.t 0),none⟩] [4] [] [])
 (.block 0
 (.seq
 (.region [⟨some 6,.bin .eql (.t 4) (.k (.str [97,114,99])),none⟩,⟨some 5,.mv (.t 6),none⟩] [4,5] [] [])
 (.cond (.t 5)
 (.seq
 (.region [⟨some 2,.mv (.k (.fn 175 [])),none⟩,⟨some 3,.mv (.k (.bool true)),none⟩] [2,3] [] [])
 .ret)
 (.seq
 (.region [⟨some 8,.bin .eql (.t 4) (.k (.str [97,117,116,104])),none⟩,⟨some 7,.mv (.t 8),none⟩] [4,7] [] [])
 (.cond (.t 7)
 (.seq
 (.region [⟨some 2,.mv (.k (.fn 176 [])),none⟩,⟨some 3,.mv (.k (.bool true)),none⟩] [2,3] [] [])
 .ret)
 (.seq
 (.region [⟨some 10,.bin .eql (.t 4) (.k (.str [100,107,105,109])),none⟩,⟨some 9,.mv (.t 10),none⟩] [4,9] [] [])
 (.cond (.t 9)
 (.seq
 (.region [⟨some 2,.mv (.k (.fn 177 [])),none⟩,⟨some 3,.mv (.k (.bool true)),none⟩] [2,3] [] [])
 .ret)
 (.seq
 (.region [⟨some 12,.bin .eql (.t 4) (.k (.str [100,111,109,97,105,110,107,101,121,115])),none⟩,⟨some 11,.mv (.t 12),none⟩] [4,11] [] [])
 (.cond (.t 11)
 (.seq
 (.region [⟨some 2,.mv (.k (.fn 178 [])),none⟩,⟨some 3,.mv (.k (.bool true)),none⟩] [2,3] [] [])
 .ret)
 (.seq
 (.region [⟨some 14,.bin .eql (.t 4) (.k (.str [105,112,114,101,118])),none⟩,⟨some 13,.mv (.t 14),none⟩] [4,13] [] [])
 (.cond (.t 13)
 (.seq
 (.region [⟨some 2,.mv (.k (.fn 179 [])),none⟩,⟨some 3,.mv (.k (.bool true)),none⟩] [2,3] [] [])
 .ret)
 (.seq
 (.region [⟨some 16,.bin .eql (.t 4) (.k (.str [115,101,110,100,101,114,45,105,100])),none⟩,⟨some 15,.mv (.t 16),none⟩] [4,15] [] [])
 (.cond (.t 15)
 (.seq
 (.region [⟨some 2,.mv (.k (.fn 180 [])),none⟩,⟨some 3,.mv (.k (.bool true)),none⟩] [2,3] [] [])
 .ret)
 (.seq
 (.region [⟨some 18,.bin .eql (.t 4) (.k (.str [115,112,102])),none⟩,⟨some 17,.mv (.t 18),none⟩] [4,17] [] [])
 (.cond (.t 17)
 (.seq
 (.region [⟨some 2,.mv (.k (.fn 181 [])),none⟩,⟨some 3,.mv (.k (.bool true)),none⟩] [2,3] [] [])
 .ret)
 (.seq
 (.region [⟨some 20,.bin .eql (.t 4) (.k (.str [100,109,97,114,99])),none⟩,⟨some 19,.mv (.t 20),none⟩] [19] [] [[4]])
 (.cond (.t 19)
 (.seq
 (.region [⟨some 2,.mv (.k (.fn 182 [])),none⟩,⟨some 3,.mv (.k (.bool true)),none⟩] [2,3] [] [])
 .ret)
 .skip))))))))))))))))))
 (.seq
 (.region [⟨some 2,.mv (.k .nilF),none⟩,⟨some 3,.mv (.k (.bool false)),none⟩] [2,3] [] [])
 .ret))),
 [.t 2,.t 3]⟩

def l_authres_newResults:Lay:={ rg:=[(0,([0],[])),(1,([4],[])),(2,([4,5],[])),(3,([2,3],[])),(4,([4,7],[])),(5,([2,3],[])),(6,([4,9],[])),(7,([2,3],[])),(8,([4,11],[])),(9,([2,3],[])),(10,([4,13],[])),(11,([2,3],[])),(12,([4,15],[])),(13,([2,3],[])),(14,([4,17],[])),(15,([2,3],[])),(16,([19],[])),(17,([2,3],[])),(18,([2,3],[]))],dd:=[(0,[[2]]),(16,[[4]])] }

def c_authres_newResults_1:SFn:=⟨0,
 (.seq
 (.region [⟨some 0,.mv (.k .nilI),none⟩] [] [] [])
 (.seq
 (.region [⟨some 1,.alloc [(.str []),(.str []),(.int .i64 0)],none⟩,⟨some 2,.mkIfc 7 (.t 1),none⟩,⟨some 0,.mv (.t 2),none⟩] [0] [] [[],[1]])
 .ret)),
 [.t 0]⟩

def l_authres_newResults_1:Lay:={ rg:=[(0,([],[])),(1,([0],[]))],dd:=[(1,[[],[1]])] }

def c_authres_newResults_2:SFn:=⟨0,
 (.seq
 (.region [⟨some 0,.mv (.k .nilI),none⟩] [] [] [])
 (.seq
 (.region [⟨some 1,.alloc [(.str []),(.str []),(.str [])],none⟩,⟨some 2,.mkIfc 8 (.t 1),none⟩,⟨some 0,.mv (.t 2),none⟩] [0] [] [[],[1]])
 .ret)),
 [.t 0]⟩

def l_authres_newResults_2:Lay:={ rg:=[(0,([],[])),(1,([0],[]))],dd:=[(1,[[],[1]])] }

def c_authres_newResults_3:SFn:=⟨0,
 (.seq
 (.region [⟨some 0,.mv (.k .nilI),none⟩] [] [] [])
 (.seq
 (.region [⟨some 1,.alloc [(.str []),(.str []),(.str []),(.str [])],none⟩,⟨some 2,.mkIfc 9 (.t 1),none⟩,⟨some 0,.mv (.t 2),none⟩] [0] [] [[],[1]])
 .ret)),
 [.t 0]⟩

def l_authres_newResults_3:Lay:={ rg:=[(0,([],[])),(1,([0],[]))],dd:=[(1,[[],[1]])] }

def c_authres_newResults_4:SFn:=⟨0,
 (.seq
 (.region [⟨some 0,.mv (.k .nilI),none⟩] [] [] [])
 (.seq
 (.region [⟨some 1,.alloc [(.str []),(.str []),(.str []),(.str []),(.str [])],none⟩,⟨some 2,.mkIfc 10 (.t 1),none⟩,⟨some 0,.mv (.t 2),none⟩] [0] [] [[],[1]])
 .ret)),
 [.t 0]⟩

def l_authres_newResults_4:Lay:={ rg:=[(0,([],[])),(1,([0],[]))],dd:=[(1,[[],[1]])] }

def c_authres_newResults_5:SFn:=⟨0,
 (.seq
 (.region [⟨some 0,.mv (.k .nilI),none⟩] [] [] [])
 (.seq
 (.region [⟨some 1,.alloc [(.str []),(.str []),(.str [])],none⟩,⟨some 2,.mkIfc 11 (.t 1),none⟩,⟨some 0,.mv (.t 2),none⟩] [0] [] [[],[1]])
 .ret)),
 [.t 0]⟩

def l_authres_newResults_5:Lay:={ rg:=[(0,([],[])),(1,([0],[]))],dd:=[(1,[[],[1]])] }

def c_authres_newResults_6:SFn:=⟨0,
 (.seq
 (.region [⟨some 0,.mv (.k .nilI),none⟩] [] [] [])
 (.seq
 (.region [⟨some 1,.alloc [(.str []),(.str []),(.str []),(.str [])],none⟩,⟨some 2,.mkIfc 12 (.t 1),none⟩,⟨some 0,.mv (.t 2),none⟩] [0] [] [[],[1]])
 .ret)),
 [.t 0]⟩

def l_authres_newResults_6:Lay:={ rg:=[(0,([],[])),(1,([0],[]))],dd:=[(1,[[],[1]])] }

def c_authres_newResults_7:SFn:=⟨0,
 (.seq
 (.region [⟨some 0,.mv (.k .nilI),none⟩] [] [] [])
 (.seq
 (.region [⟨some 1,.alloc [(.str []),(.str []),(.str []),(.str [])],none⟩,⟨some 2,.mkIfc 13 (.t 1),none⟩,⟨some 0,.mv (.t 2),none⟩] [0] [] [[],[1]])
 .ret)),
 [.t 0]⟩

def l_authres_newResults_7:Lay:={ rg:=[(0,([],[])),(1,([0],[]))],dd:=[(1,[[],[1]])] }

def c_authres_newResults_8:SFn:=⟨0,
 (.seq
 (.region [⟨some 0,.mv (.k .nilI),none⟩] [] [] [])
 (.seq
 (.region [⟨some 1,.alloc [(.str []),(.str []),(.str [])],none⟩,⟨some 2,.mkIfc 14 (.t 1),none⟩,⟨some 0,.mv (.t 2),none⟩] [0] [] [[],[1]])
 .ret)),
 [.t 0]⟩

def l_authres_newResults_8:Lay:={ rg:=[(0,([],[])),(1,([0],[]))],dd:=[(1,[[],[1]])] }

def c_authres_AuthResult_parse:SFn:=⟨3,
 (.seq
 (.region [⟨some 6,.mv (.k .nilI),none⟩] [0,1,2] [] [])
 (.seq
 (.region [⟨some 7,.mv (.t 0),none⟩,⟨some 8,.mv (.t 1),none⟩,⟨some 9,.chk (.t 7),none⟩,⟨some 10,.fAddr 0 (.t 9),none⟩,
 ⟨none,.store 1 (.t 10) (.t 8),none⟩] [0,2] [] [[],[1],[7],[9]])
 (.seq
 (.region [⟨some 11,.mv (.t 0),none⟩,⟨some 12,.mv (.t 2),none⟩,⟨some 13,.look (.str []) false (.t 12) (.k (.str [114,101,97,115,111,110])),none⟩,⟨some 14,.chk (.t 11),none⟩,⟨some 15,.fAddr 1 (.t 14),none⟩,
 ⟨none,.store 1 (.t 15) (.t 13),none⟩] [0,2] [] [[],[],[12],[11],[14]])
 (.seq
 (.region [⟨some 16,.mv (.t 0),none⟩,⟨some 17,.mv (.t 2),none⟩,⟨some 18,.look (.str []) false (.t 17) (.k (.str [115,109,116,112,46,97,117,116,104])),none⟩,⟨some 19,.chk (.t 16),none⟩,⟨some 20,.fAddr 2 (.t 19),none⟩,
 ⟨none,.store 1 (.t 20) (.t 18),none⟩] [] [] [[0],[2],[17],[16],[19]])
 (.seq
 (.region [⟨some 6,.mv (.k .nilI),none⟩] [6] [] [])
 .ret))))),
 [.t 6]⟩

def l_authres_AuthResult_parse:Lay:={ rg:=[(0,([0,1,2],[])),(1,([0,2],[])),(2,([0,2],[])),(3,([],[])),(4,([6],[]))],dd:=[(1,[[],[1],[7],[9]]),(2,[[],[],[12],[11],[14]]),(3,[[0],[2],[17],[16],[19]])] }

def c_authres_DKIMResult_parse:SFn:=⟨3,
 (.seq
 (.region [⟨some 6,.mv (.k .nilI),none⟩] [0,1,2] [] [])
 (.seq
 (.region [⟨some 7,.mv (.t 0),none⟩,⟨some 8,.mv (.t 1),none⟩,⟨some 9,.chk (.t 7),none⟩,⟨some 10,.fAddr 0 (.t 9),none⟩,
 ⟨none,.store 1 (.t 10) (.t 8),none⟩] [0,2] [] [[],[1],[7],[9]])
 (.seq
 (.region [⟨some 11,.mv (.t 0),none⟩,⟨some 12,.mv (.t 2),none⟩,⟨some 13,.look (.str []) false (.t 12) (.k (.str [114,101,97,115,111,110])),none⟩,⟨some 14,.chk (.t 11),none⟩,⟨some 15,.fAddr 1 (.t 14),none⟩,
 ⟨none,.store 1 (.t 15) (.t 13),none⟩] [0,2] [] [[],[],[12],[11],[14]])
 (.seq
 (.region [⟨some 16,.mv (.t 0),none⟩,⟨some 17,.mv (.t 2),none⟩,⟨some 18,.look (.str []) false (.t 17) (.k (.str [104,101,97,100,101,114,46,100])),none⟩,⟨some 19,.chk (.t 16),none⟩,⟨some 20,.fAddr 2 (.t 19),none⟩,
 ⟨none,.store 1 (.t 20) (.t 18),none⟩] [0,2] [] [[],[],[17],[16],[19]])
 (.seq
 (.region [⟨some 21,.mv (.t 0),none⟩,⟨some 22,.mv (.t 2),none⟩,⟨some 23,.look (.str []) false (.t 22) (.k (.str [104,101,97,100,101,114,46,105])),none⟩,⟨some 24,.chk (.t 21),none⟩,⟨some 25,.fAddr 3 (.t 24),none⟩,
 ⟨none,.store 1 (.t 25) (.t 23),none⟩] [] [] [[0],[2],[22],[21],[24]])
 (.seq
 (.region [⟨some 6,.mv (.k .nilI),none⟩] [6] [] [])
 .ret)))))),
 [.t 6]⟩

def l_authres_DKIMResult_parse:Lay:={ rg:=[(0,([0,1,2],[])),(1,([0,2],[])),(2,([0,2],[])),(3,([0,2],[])),(4,([],[])),(5,([6],[]))],dd:=[(1,[[],[1],[7],[9]]),(2,[[],[],[12],[11],[14]]),(3,[[],[],[17],[16],[19]]),(4,[[0],[2],[22],[21],[24]])] }

def c_authres_DomainKeysResult_parse:SFn:=⟨3,
 (.seq
 (.region [⟨some 6,.mv (.k .nilI),none⟩] [0,1,2] [] [])
 (.seq
 (.region [⟨some 7,.mv (.t 0),none⟩,⟨some 8,.mv (.t 1),none⟩,⟨some 9,.chk (.t 7),none⟩,⟨some 10,.fAddr 0 (.t 9),none⟩,
 ⟨none,.store 1 (.t 10) (.t 8),none⟩] [0,2] [] [[],[1],[7],[9]])
 (.seq
 (.region [⟨some 11,.mv (.t 0),none⟩,⟨some 12,.mv (.t 2),none⟩,⟨some 13,.look (.str []) false (.t 12) (.k (.str [114,101,97,115,111,110])),none⟩,⟨some 14,.chk (.t 11),none⟩,⟨some 15,.fAddr 1 (.t 14),none⟩,
 ⟨none,.store 1 (.t 15) (.t 13),none⟩] [0,2] [] [[],[],[12],[11],[14]])
 (.seq
 (.region [⟨some 16,.mv (.t 0),none⟩,⟨some 17,.mv (.t 2),none⟩,⟨some 18,.look (.str []) false (.t 17) (.k (.str [104,101,97,100,101,114,46,100])),none⟩,⟨some 19,.chk (.t 16),none⟩,⟨some 20,.fAddr 2 (.t 19),none⟩,
 ⟨none,.store 1 (.t 20) (.t 18),none⟩] [0,2] [] [[],[],[17],[16],[19]])
 (.seq
 (.region [⟨some 21,.mv (.t 0),none⟩,⟨some 22,.mv (.t 2),none⟩,⟨some 23,.look (.str []) false (.t 22) (.k (.str [104,101,97,100,101,114,46,102,114,111,109])),none⟩,⟨some 24,.chk (.t 21),none⟩,⟨some 25,.fAddr 3 (.t 24),none⟩,
 ⟨none,.store 1 (.t 25) (.t 23),none⟩] [0,2] [] [[],[],[22],[21],[24]])
 (.seq
 (.region [⟨some 26,.mv (.t 0),none⟩,⟨some 27,.mv (.t 2),none⟩,⟨some 28,.look (.str []) false (.t 27) (.k (.str [104,101,97,100,101,114,46,115,101,110,100,101,114])),none⟩,⟨some 29,.chk (.t 26),none⟩,⟨some 30,.fAddr 4 (.t 29),none⟩,
 ⟨none,.store 1 (.t 30) (.t 28),none⟩] [] [] [[0],[2],[27],[26],[29]])
 (.seq
 (.region [⟨some 6,.mv (.k .nilI),none⟩] [6] [] [])
 .ret))))))),
 [.t 6]⟩

def l_authres_DomainKeysResult_parse:Lay:={ rg:=[(0,([0,1,2],[])),(1,([0,2],[])),(2,([0,2],[])),(3,([0,2],[])),(4,([0,2],[])),(5,([],[])),(6,([6],[]))],dd:=[(1,[[],[1],[7],[9]]),(2,[[],[],[12],[11],[14]]),(3,[[],[],[17],[16],[19]]),(4,[[],[],[22],[21],[24]]),(5,[[0],[2],[27],[26],[29]])] }

def c_authres_IPRevResult_parse:SFn:=⟨3,
 (.seq
 (.region [⟨some 6,.mv (.k .nilI),none⟩] [0,1,2] [] [])
 (.seq
 (.region [⟨some 7,.mv (.t 0),none⟩,⟨some 8,.mv (.t 1),none⟩,⟨some 9,.chk (.t 7),none⟩,⟨some 10,.fAddr 0 (.t 9),none⟩,
 ⟨none,.store 1 (.t 10) (.t 8),none⟩] [0,2] [] [[],[1],[7],[9]])
 (.seq
 (.region [⟨some 11,.mv (.t 0),none⟩,⟨some 12,.mv (.t 2),none⟩,⟨some 13,.look (.str []) false (.t 12) (.k (.str [114,101,97,115,111,110])),none⟩,⟨some 14,.chk (.t 11),none⟩,⟨some 15,.fAddr 1 (.t 14),none⟩,
 ⟨none,.store 1 (.t 15) (.t 13),none⟩] [0,2] [] [[],[],[12],[11],[14]])
 (.seq
 (.region [⟨some 16,.mv (.t 0),none⟩,⟨some 17,.mv (.t 2),none⟩,⟨some 18,.look (.str []) false (.t 17) (.k (.str [112,111,108,105,99,121,46,105,112,114,101,118])),none⟩,⟨some 19,.chk (.t 16),none⟩,⟨some 20,.fAddr 2 (.t 19),none⟩,
 ⟨none,.store 1 (.t 20) (.t 18),none⟩] [] [] [[0],[2],[17],[16],[19]])
 (.seq
 (.region [⟨some 6,.mv (.k .nilI),none⟩] [6] [] [])
 .ret))))),
 [.t 6]⟩

def l_authres_IPRevResult_parse:Lay:={ rg:=[(0,([0,1,2],[])),(1,([0,2],[])),(2,([0,2],[])),(3,([],[])),(4,([6],[]))],dd:=[(1,[[],[1],[7],[9]]),(2,[[],[],[12],[11],[14]]),(3,[[0],[2],[17],[16],[19]])] }

def c_authres_SenderIDResult_parse:SFn:=⟨3,
 (.seq
 (.region [⟨some 6,.mv (.k .nilI),none⟩] [0,1,2] [] [])
 (.seq
 (.region [⟨some 9,.mv (.t 0),none⟩,⟨some 10,.mv (.t 1),none⟩,⟨some 11,.chk (.t 9),none⟩,⟨some 12,.fAddr 0 (.t 11),none⟩,
 ⟨none,.store 1 (.t 12) (.t 10),none⟩] [0,2] [] [[],[1],[9],[11]])
 (.seq
 (.seq
 (.region [⟨some 13,.mv (.t 0),none⟩,⟨some 14,.mv (.t 2),none⟩,⟨some 15,.look (.str []) false (.t 14) (.k (.str [114,101,97,115,111,110])),none⟩,⟨some 16,.chk (.t 13),none⟩,⟨some 17,.fAddr 1 (.t 16),none⟩,
 ⟨none,.store 1 (.t 17) (.t 15),none⟩] [0,2] [] [[],[],[14],[13],[16]])
 (.ghost [.frz 1000001]))
 (.seq
 (.seq
 (.region [⟨some 18,.mv (.t 2),none⟩,⟨some 19,.call 48 [(.t 18)],none⟩,⟨some 20,.call 49 [(.t 19)],none⟩,⟨some 21,.len 1 (.t 20),none⟩,⟨some 22,.mv (.k (.int .i64 0)),none⟩] [0,2,20,21,22] [] [[],[18],[19]])
 (.block 0
 (.loop [0,2,20,21,22]
 (.seq
 (.region [⟨some 23,.bin .lss (.t 22) (.t 21),none⟩] [0,2,20,21,22,23] [] [])
 (.seq
 (.cond (.t 23)
 .skip
 (.exit 0))
 (.seq
 (.block 1
 (.seq
 (.region [⟨some 24,.iAddr 1 (.t 20) (.t 22),none⟩,⟨some 25,.load none (.t 24),none⟩,⟨some 8,.mv (.t 25),none⟩] [0,2,8,20,21,22] [] [[],[24]])
 (.seq
 (.region [⟨some 26,.mv (.t 8),none⟩,⟨some 27,.call 158 [(.t 26),(.k (.str [104,101,97,100,101,114,46]))],none⟩] [0,2,8,20,21,22,27] [] [])
 (.cond (.t 27)
 (.seq
 (.region [⟨some 28,.mv (.t 0),none⟩,⟨some 29,.mv (.t 8),none⟩,⟨some 30,.call 192 [(.t 29),(.k (.str [104,101,97,100,101,114,46]))],none⟩,⟨some 31,.chk (.t 28),none⟩,⟨some 32,.fAddr 2 (.t 31),none⟩,
 ⟨none,.store 1 (.t 32) (.t 30),none⟩] [0,2,8] [] [[],[],[29],[28],[31]])
 (.seq
 (.region [⟨some 33,.mv (.t 0),none⟩,⟨some 34,.mv (.t 2),none⟩,⟨some 35,.mv (.t 8),none⟩,⟨some 36,.look (.str []) false (.t 34) (.t 35),none⟩,⟨some 37,.chk (.t 33),none⟩,⟨some 38,.fAddr 3 (.t 37),none⟩,
 ⟨none,.store 1 (.t 38) (.t 36),none⟩] [] [] [[0],[2],[8],[34,35],[33],[37]])
 (.exit 0)))
 .skip))))
 (.region [⟨some 39,.bin .add (.t 22) (.k (.int .i64 1)),none⟩,⟨some 22,.mv (.t 39),none⟩] [0,2,20,21,22] [] [])))))))
 (.seq
 (.region [⟨some 6,.mv (.k .nilI),none⟩] [6] [] [])
 .ret))))),
 [.t 6]⟩

def l_authres_SenderIDResult_parse:Lay:={ rg:=[(0,([0,1,2],[])),(1,([0,2],[])),(2,([0,2],[])),(3,([0,2,20,21,22],[])),(4,([0,2,20,21,22,23],[])),(5,([0,2,8,20,21,22],[])),(6,([0,2,8,20,21,22,27],[])),(7,([0,2,8],[])),(8,([],[])),(9,([0,2,20,21,22],[])),(10,([6],[])),(1000004,([0,2,20,21,22],[]))],dd:=[(1,[[],[1],[9],[11]]),(2,[[],[],[14],[13],[16]]),(3,[[],[18],[19]]),(5,[[],[24]]),(7,[[],[],[29],[28],[31]]),(8,[[0],[2],[8],[34,35],[33],[37]])],gh:=[(2,[.frz 1000001])] }

def c_authres_SPFResult_parse:SFn:=⟨3,
 (.seq
 (.region [⟨some 6,.mv (.k .nilI),none⟩] [0,1,2] [] [])
 (.seq
 (.region [⟨some 7,.mv (.t 0),none⟩,⟨some 8,.mv (.t 1),none⟩,⟨some 9,.chk (.t 7),none⟩,⟨some 10,.fAddr 0 (.t 9),none⟩,
 ⟨none,.store 1 (.t 10) (.t 8),none⟩] [0,2] [] [[],[1],[7],[9]])
 (.seq
 (.region [⟨some 11,.mv (.t 0),none⟩,⟨some 12,.mv (.t 2),none⟩,⟨some 13,.look (.str []) false (.t 12) (.k (.str [114,101,97,115,111,110])),none⟩,⟨some 14,.chk (.t 11),none⟩,⟨some 15,.fAddr 1 (.t 14),none⟩,
 ⟨none,.store 1 (.t 15) (.t 13),none⟩] [0,2] [] [[],[],[12],[11],[14]])
 (.seq
 (.region [⟨some 16,.mv (.t 0),none⟩,⟨some 17,.mv (.t 2),none⟩,⟨some 18,.look (.str []) false (.t 17) (.k (.str [115,109,116,112,46,109,97,105,108,102,114,111,109])),none⟩,⟨some 19,.chk (.t 16),none⟩,⟨some 20,.fAddr 2 (.t 19),none⟩,
 ⟨none,.store 1 (.t 20) (.t 18),none⟩] [0,2] [] [[],[],[17],[16],[19]])
 (.seq
 (.region [⟨some 21,.mv (.t 0),none⟩,⟨some 22,.mv (.t 2),none⟩,⟨some 23,.look (.str []) false (.t 22) (.k (.str [115,109,116,112,46,104,101,108,111])),none⟩,⟨some 24,.chk (.t 21),none⟩,⟨some 25,.fAddr 3 (.t 24),none⟩,
 ⟨none,.store 1 (.t 25) (.t 23),none⟩] [] [] [[0],[2],[22],[21],[24]])
 (.seq
 (.region [⟨some 6,.mv (.k .nilI),none⟩] [6] [] [])
 .ret)))))),
 [.t 6]⟩

def l_authres_SPFResult_parse:Lay:={ rg:=[(0,([0,1,2],[])),(1,([0,2],[])),(2,([0,2],[])),(3,([0,2],[])),(4,([],[])),(5,([6],[]))],dd:=[(1,[[],[1],[7],[9]]),(2,[[],[],[12],[11],[14]]),(3,[[],[],[17],[16],[19]]),(4,[[0],[2],[22],[21],[24]])] }

def c_authres_DMARCResult_parse:SFn:=⟨3,
 (.seq
 (.region [⟨some 6,.mv (.k .nilI),none⟩] [0,1,2] [] [])
 (.seq
 (.region [⟨some 7,.mv (.t 0),none⟩,⟨some 8,.mv (.t 1),none⟩,⟨some 9,.chk (.t 7),none⟩,⟨some 10,.fAddr 0 (.t 9),none⟩,
 ⟨none,.store 1 (.t 10) (.t 8),none⟩] [0,2] [] [[],[1],[7],[9]])
 (.seq
 (.region [⟨some 11,.mv (.t 0),none⟩,⟨some 12,.mv (.t 2),none⟩,⟨some 13,.look (.str []) false (.t 12) (.k (.str [114,101,97,115,111,110])),none⟩,⟨some 14,.chk (.t 11),none⟩,⟨some 15,.fAddr 1 (.t 14),none⟩,
 ⟨none,.store 1 (.t 15) (.t 13),none⟩] [0,2] [] [[],[],[12],[11],[14]])
 (.seq
 (.region [⟨some 16,.mv (.t 0),none⟩,⟨some 17,.mv (.t 2),none⟩,⟨some 18,.look (.str []) false (.t 17) (.k (.str [104,101,97,100,101,114,46,102,114,111,109])),none⟩,⟨some 19,.chk (.t 16),none⟩,⟨some 20,.fAddr 2 (.t 19),none⟩,
 ⟨none,.store 1 (.t 20) (.t 18),none⟩] [] [] [[0],[2],[17],[16],[19]])
 (.seq
 (.region [⟨some 6,.mv (.k .nilI),none⟩] [6] [] [])
 .ret))))),
 [.t 6]⟩

def l_authres_DMARCResult_parse:Lay:={ rg:=[(0,([0,1,2],[])),(1,([0,2],[])),(2,([0,2],[])),(3,([],[])),(4,([6],[]))],dd:=[(1,[[],[1],[7],[9]]),(2,[[],[],[12],[11],[14]]),(3,[[0],[2],[17],[16],[19]])] }

def c_authres_ARCResult_parse:SFn:=⟨3,
 (.seq
 (.region [⟨some 6,.mv (.k .nilI),none⟩] [0,1,2] [] [])
 (.seq
 (.region [⟨some 7,.mv (.k (.int .i64 0)),none⟩] [0,1,2,7] [] [])
 (.seq
 (.seq
 (.region [⟨some 12,.mv (.t 2),none⟩,⟨some 13,.look (.str []) true (.t 12) (.k (.str [104,101,97,100,101,114,46,111,108,100,101,115,116,45,112,97,115,115])),none⟩,⟨some 11,.mv (.t 13),none⟩,⟨some 14,.extr (.t 11) 0,none⟩,⟨some 15,.extr (.t 11) 1,none⟩,⟨some 8,.mv (.t 14),none⟩,⟨some 9,.mv (.t 15),none⟩] [0,1,2,7,8,9] [] [[],[12],[13],[],[11],[14]])
 (.seq
 (.region [⟨some 16,.mv (.t 9),none⟩] [0,1,2,7,8,16] [] [])
 (.cond (.t 16)
 (.seq
 (.region [⟨some 10,.mv (.k .nilI),none⟩] [0,1,2,8] [] [])
 (.seq
 (.region [⟨some 18,.mv (.t 8),none⟩,⟨some 19,.call 153 [(.t 18)],none⟩,⟨some 17,.mv (.t 19),none⟩,⟨some 20,.extr (.t 17) 0,none⟩,⟨some 21,.extr (.t 17) 1,none⟩,⟨some 7,.mv (.t 20),none⟩,⟨some 10,.mv (.t 21),none⟩] [0,1,2,7,10] [] [[8],[18],[19],[],[17],[20]])
 (.seq
 (.region [⟨some 22,.mv (.t 10),none⟩,⟨some 23,.isNil 0 true (.t 22),none⟩] [0,1,2,7,23] [] [[10]])
 (.cond (.t 23)
 (.seq
 (.region [⟨some 24,.call 50 [(.k (.str [105,110,118,97,108,105,100,32,104,101,97,100,101,114,46,111,108,100,101,115,116,45,112,97,115,115,32,112,97,114,97,109]))],none⟩,⟨some 6,.mv (.t 24),none⟩] [6] [] [])
 .ret)
 (.seq
 (.region [⟨some 25,.mv (.t 7),none⟩,⟨some 26,.bin .leq (.t 25) (.k (.int .i64 0)),none⟩] [0,1,2,7,26] [] [])
 (.cond (.t 26)
 (.seq
 (.region [⟨some 27,.call 50 [(.k (.str [105,110,118,97,108,105,100,32,104,101,97,100,101,114,46,111,108,100,101,115,116,45,112,97,115,115,32,112,97,114,97,109,58,32,109,117,115,116,32,98,101,32,62,61,32,49]))],none⟩,⟨some 6,.mv (.t 27),none⟩] [6] [] [])
 .ret)
 .skip))))))
 .skip)))
 (.seq
 (.region [⟨some 28,.mv (.t 0),none⟩,⟨some 29,.mv (.t 1),none⟩,⟨some 30,.chk (.t 28),none⟩,⟨some 31,.fAddr 0 (.t 30),none⟩,
 ⟨none,.store 1 (.t 31) (.t 29),none⟩] [0,2,7] [] [[],[1],[28],[30]])
 (.seq
 (.region [⟨some 32,.mv (.t 0),none⟩,⟨some 33,.mv (.t 2),none⟩,⟨some 34,.look (.str []) false (.t 33) (.k (.str [115,109,116,112,46,114,101,109,111,116,101,45,105,112])),none⟩,⟨some 35,.chk (.t 32),none⟩,⟨some 36,.fAddr 1 (.t 35),none⟩,
 ⟨none,.store 1 (.t 36) (.t 34),none⟩] [0,7] [] [[],[2],[33],[32],[35]])
 (.seq
 (.region [⟨some 37,.mv (.t 0),none⟩,⟨some 38,.mv (.t 7),none⟩,⟨some 39,.chk (.t 37),none⟩,⟨some 40,.fAddr 2 (.t 39),none⟩,
 ⟨none,.store 1 (.t 40) (.t 38),none⟩] [] [] [[0],[7],[37],[39]])
 (.seq
 (.region [⟨some 6,.mv (.k .nilI),none⟩] [6] [] [])
 .ret))))))),
 [.t 6]⟩

def l_authres_ARCResult_parse:Lay:={ rg:=[(0,([0,1,2],[])),(1,([0,1,2,7],[])),(2,([0,1,2,7,8,9],[])),(3,([0,1,2,7,8,16],[])),(4,([0,1,2,8],[])),(5,([0,1,2,7,10],[])),(6,([0,1,2,7,23],[])),(7,([6],[])),(8,([0,1,2,7,26],[])),(9,([6],[])),(10,([0,2,7],[])),(11,([0,7],[])),(12,([],[])),(13,([6],[]))],dd:=[(2,[[],[12],[13],[],[11],[14]]),(5,[[8],[18],[19],[],[17],[20]]),(6,[[10]]),(10,[[],[1],[28],[30]]),(11,[[],[2],[33],[32],[35]]),(12,[[0],[7],[37],[39]])] }

def c_authres_GenericResult_parse:SFn:=⟨3,
 (.seq
 (.region [⟨some 6,.mv (.k .nilI),none⟩] [0,1,2] [] [])
 (.seq
 (.region [⟨some 7,.mv (.t 0),none⟩,⟨some 8,.mv (.t 1),none⟩,⟨some 9,.chk (.t 7),none⟩,⟨some 10,.fAddr 1 (.t 9),none⟩,
 ⟨none,.store 1 (.t 10) (.t 8),none⟩] [0,2] [] [[],[1],[7],[9]])
 (.seq
 (.region [⟨some 11,.mv (.t 0),none⟩,⟨some 12,.mv (.t 2),none⟩,⟨some 13,.chk (.t 11),none⟩,⟨some 14,.fAddr 2 (.t 13),none⟩,
 ⟨none,.store 1 (.t 14) (.t 12),none⟩] [] [] [[0],[2],[11],[13]])
 (.seq
 (.region [⟨some 6,.mv (.k .nilI),none⟩] [6] [] [])
 .ret)))),
 [.t 6]⟩

def l_authres_GenericResult_parse:Lay:={ rg:=[(0,([0,1,2],[])),(1,([0,2],[])),(2,([],[])),(3,([6],[]))],dd:=[(1,[[],[1],[7],[9]]),(2,[[0],[2],[11],[13]])] }

def c_strings_indexFunc:SFn:=⟨3,
 (.seq
 (.region [⟨some 6,.mv (.k (.int .i64 0)),none⟩] [0,1,2] [] [])
 (.seq
 (.seq
 (.region [⟨some 9,.mv (.t 0),none⟩,⟨some 10,.rangeS (.t 9),none⟩] [1,2,10] [] [[0]])
 (.block 0
 (.loop [1,2,10]
 (.seq
 (.region [⟨some 11,.nextS (.t 10),none⟩,⟨some 12,.extr (.t 11) 0,none⟩] [1,2,10,11,12] [] [])
 (.seq
 (.cond (.t 12)
 .skip
 (.exit 0))
 (.block 1
 (.seq
 (.region [⟨some 13,.extr (.t 11) 1,none⟩,⟨some 14,.extr (.t 11) 2,none⟩,⟨some 7,.mv (.t 13),none⟩,⟨some 8,.mv (.t 14),none⟩] [1,2,7,8,10] [] [[],[11],[13]])
 (.seq
 (.region [⟨some 15,.mv (.t 1),none⟩,⟨some 16,.mv (.t 8),none⟩,⟨some 17,.callV (.t 15) [(.t 16)],none⟩,⟨some 18,.mv (.t 2),none⟩,⟨some 19,.eqB false (.t 17) (.t 18),none⟩] [1,2,7,10,19] [] [[],[8],[15,16]])
 (.cond (.t 19)
 (.seq
 (.region [⟨some 20,.mv (.t 7),none⟩,⟨some 6,.mv (.t 20),none⟩] [6] [10] [[7]])
 .ret)
 .skip)))))))))
 (.seq
 (.region [⟨some 6,.mv (.k (.int .i64 (-1))),none⟩] [6] [10] [])
 .ret))),
 [.t 6]⟩

def l_strings_indexFunc:Lay:={ rg:=[(0,([0,1,2],[])),(1,([1,2,10],[])),(2,([1,2,10,11,12],[])),(3,([1,2,7,8,10],[])),(4,([1,2,7,10,19],[])),(5,([6],[10])),(6,([6],[10])),(1000002,([1,2,10],[]))],dd:=[(1,[[0]]),(3,[[],[11],[13]]),(4,[[],[8],[15,16]]),(5,[[7]])] }

def c_strings_IndexFunc:SFn:=⟨2,
 (.seq
 (.region [⟨some 4,.mv (.k (.int .i64 0)),none⟩] [0,1] [] [])
 (.seq
 (.region [⟨some 5,.mv (.t 0),none⟩,⟨some 6,.mv (.t 1),none⟩,⟨some 7,.call 197 [(.t 5),(.t 6),(.k (.bool true))],none⟩,⟨some 4,.mv (.t 7),none⟩] [4] [] [[0],[1],[5,6]])
 .ret)),
 [.t 4]⟩

def l_strings_IndexFunc:Lay:={ rg:=[(0,([0,1],[])),(1,([4],[]))],dd:=[(1,[[0],[1],[5,6]])] }

def b_authres_parseResult_1:SCode :=
 (.seq
 (.seq
 (.region [⟨some 44,.mv (.t 11),none⟩,⟨some 45,.mv (.t 4),none⟩,⟨some 46,.len 1 (.t 45),none⟩,⟨some 47,.bin .lss (.t 44) (.t 46),none⟩] [4,8,9,10,11,47] [] [[],[],[45]])
 (.cond (.t 47)
 .skip
 (.exit 0)))
 (.seq
 (.block 1
 (.seq
 (.region [⟨some 51,.mv (.t 4),none⟩,⟨some 52,.mv (.t 11),none⟩,⟨some 53,.iAddr 1 (.t 51) (.t 52),none⟩,⟨some 54,.load none (.t 53),none⟩,⟨some 55,.call 171 [(.t 54)],none⟩,⟨some 50,.mv (.t 55),none⟩,⟨some 56,.extr (.t 50) 0,none⟩,⟨some 57,.extr (.t 50) 1,none⟩,⟨some 58,.extr (.t 50) 2,none⟩,⟨some 12,.mv (.t 56),none⟩,⟨some 13,.mv (.t 57),none⟩,⟨some 14,.mv (.t 58),none⟩] [4,8,9,10,11,12,13,14] [] [[],[],[51,52],[53],[54],[55],[],[],[50],[56],[57]])
 (.seq
 (.seq
 (.region [⟨some 59,.mv (.t 14),none⟩,⟨some 60,.isNil 0 true (.t 59),none⟩] [4,8,9,10,11,12,13,60] [] [[14]])
 (.cond (.t 60)
 (.exit 1)
 .skip))
 (.region [⟨some 61,.mv (.t 10),none⟩,⟨some 62,.mv (.t 12),none⟩,⟨some 63,.mv (.t 13),none⟩,
 ⟨none,.mput (.t 61) (.t 62) (.t 63),none⟩] [4,8,9,10,11] [] [[],[12],[13]]))))
 (.region [⟨some 48,.mv (.t 11),none⟩,⟨some 49,.bin .add (.t 48) (.k (.int .i64 1)),none⟩,⟨some 11,.mv (.t 49),none⟩] [4,8,9,10,11] [] [[],[48]])))

def t_authres_parseResult_2:SCode :=
 (.seq
 (.region [⟨some 65,.mv (.t 8),none⟩,⟨some 66,.call 173 [(.t 65)],none⟩,⟨some 64,.mv (.t 66),none⟩,⟨some 67,.extr (.t 64) 0,none⟩,⟨some 68,.extr (.t 64) 1,none⟩,⟨some 15,.mv (.t 67),none⟩,⟨some 16,.mv (.t 68),none⟩] [8,9,10,15,16] [] [[],[65],[66],[],[64],[67]])
 (.seq
 (.region [⟨some 17,.mv (.k .nilI),none⟩] [8,9,10,15,16] [] [])
 (.seq
 (.seq
 (.region [⟨some 69,.mv (.t 16),none⟩] [8,9,10,15,69] [] [])
 (.cond (.t 69)
 (.region [⟨some 70,.mv (.t 15),none⟩,⟨some 71,.callVS (.t 70) [],none⟩,⟨some 17,.mv (.t 71),none⟩] [9,10,17] [] [[15],[70]])
 (.region [⟨some 72,.mv (.t 8),none⟩,⟨some 73,.mv (.t 9),none⟩,⟨some 74,.mv (.t 10),none⟩,⟨some 75,.agg [(.str []),(.str []),.nilM] [(0,1,(.t 72)),(1,1,(.t 73)),(2,1,(.t 74))],none⟩,⟨some 76,.box (.t 75),none⟩,⟨some 77,.mkIfc 15 (.t 76),none⟩,⟨some 17,.mv (.t 77),none⟩] [9,10,17] [] [[8],[],[],[72,73,74],[75],[76]])))
 (.seq
 (.region [⟨some 78,.mv (.t 17),none⟩,⟨some 79,.mv (.t 9),none⟩,⟨some 80,.mv (.t 10),none⟩,⟨some 81,.invS (.t 78) "given.example/pub-waxseal/pub/msgauth/authres.parse" [(.t 79),(.t 80)],none⟩,⟨some 7,.mv (.t 81),none⟩] [7,17] [] [[],[9],[10],[78,79,80]])
 (.seq
 (.region [⟨some 82,.mv (.t 17),none⟩,⟨some 83,.mv (.t 7),none⟩,⟨some 2,.mv (.t 82),none⟩,⟨some 3,.mv (.t 83),none⟩] [2,3] [] [[17],[7],[82]])
 .ret)))))

def c_authres_parseResult:SFn:=⟨1,
 (.seq
 (.region [⟨some 2,.mv (.k .nilI),none⟩,⟨some 3,.mv (.k .nilI),none⟩] [0] [] [[2]])
 (.seq
 (.region [⟨some 18,.mv (.t 0),none⟩,⟨some 19,.call 170 [(.t 18)],none⟩,⟨some 4,.mv (.t 19),none⟩] [4] [] [[0],[18]])
 (.seq
 (.seq
 (.region [⟨some 20,.mv (.t 4),none⟩,⟨some 21,.len 1 (.t 20),none⟩,⟨some 22,.bin .eql (.t 21) (.k (.int .i64 0)),none⟩,⟨some 23,.mv (.t 22),none⟩,⟨some 24,.mv (.t 4),some (23,false)⟩,⟨some 25,.iAddr 1 (.t 24) (.k (.int .i64 0)),some (23,false)⟩,⟨some 26,.load none (.t 25),some (23,false)⟩,⟨some 27,.bin .eql (.t 26) (.k (.str [110,111,110,101])),some (23,false)⟩,⟨some 28,.pick (.t 23) (.k (.bool true)) (.t 27),none⟩] [4,28] [] [[],[20],[21],[22],[],[24],[25],[26]])
 (.cond (.t 28)
 (.seq
 (.region [⟨some 2,.mv (.k .nilI),none⟩,⟨some 3,.mv (.k .nilI),none⟩] [2,3] [] [])
 .ret)
 .skip))
 (.seq
 (.region [⟨some 30,.mv (.t 4),none⟩,⟨some 31,.iAddr 1 (.t 30) (.k (.int .i64 0)),none⟩,⟨some 32,.load none (.t 31),none⟩,⟨some 33,.call 171 [(.t 32)],none⟩,⟨some 29,.mv (.t 33),none⟩,⟨some 34,.extr (.t 29) 0,none⟩,⟨some 35,.extr (.t 29) 1,none⟩,⟨some 36,.extr (.t 29) 2,none⟩,⟨some 5,.mv (.t 34),none⟩,⟨some 6,.mv (.t 35),none⟩,⟨some 7,.mv (.t 36),none⟩] [4,5,6,7] [] [[],[30],[31],[32],[33],[],[],[29],[34],[35]])
 (.seq
 (.seq
 (.region [⟨some 37,.mv (.t 7),none⟩,⟨some 38,.isNil 0 true (.t 37),none⟩] [4,5,6,7,38] [] [])
 (.cond (.t 38)
 (.seq
 (.region [⟨some 39,.mv (.t 7),none⟩,⟨some 2,.mv (.k .nilI),none⟩,⟨some 3,.mv (.t 39),none⟩] [2,3] [] [[7]])
 .ret)
 .skip))
 (.seq
 (.region [⟨some 40,.mv (.t 5),none⟩,⟨some 41,.mv (.t 6),none⟩,⟨some 42,.call 172 [(.t 41)],none⟩,⟨some 8,.mv (.t 40),none⟩,⟨some 9,.mv (.t 42),none⟩] [4,8,9] [] [[5],[6],[41],[40]])
 (.seq
 (.region [⟨some 43,.mkMap,none⟩,⟨some 10,.mv (.t 43),none⟩] [4,8,9,10] [] [])
 (.seq
 (.seq
 (.region [⟨some 11,.mv (.k (.int .i64 1)),none⟩] [4,8,9,10,11] [] [])
 (.block 0
 (.loop [4,8,9,10,11]
 b_authres_parseResult_1)))
 t_authres_parseResult_2)))))))),
 [.t 2,.t 3]⟩

def l_authres_parseResult:Lay:={ rg:=[(0,([0],[])),(1,([4],[])),(2,([4,28],[])),(3,([2,3],[])),(4,([4,5,6,7],[])),(5,([4,5,6,7,38],[])),(6,([2,3],[])),(7,([4,8,9],[])),(8,([4,8,9,10],[])),(9,([4,8,9,10,11],[])),(10,([4,8,9,10,11,47],[])),(11,([4,8,9,10,11],[])),(12,([4,8,9,10,11,12,13,14],[])),(13,([4,8,9,10,11,12,13,60],[])),(14,([4,8,9,10,11],[])),(15,([8,9,10,15,16],[])),(16,([8,9,10,15,16],[])),(17,([8,9,10,15,69],[])),(18,([9,10,17],[])),(19,([9,10,17],[])),(20,([7,17],[])),(21,([2,3],[])),(1000010,([4,8,9,10,11],[]))],dd:=[(0,[[2]]),(1,[[0],[18]]),(2,[[],[20],[21],[22],[],[24],[25],[26]]),(4,[[],[30],[31],[32],[33],[],[],[29],[34],[35]]),(6,[[7]]),(7,[[5],[6],[41],[40]]),(10,[[],[],[45]]),(11,[[],[48]]),(12,[[],[],[51,52],[53],[54],[55],[],[],[50],[56],[57]]),(13,[[14]]),(14,[[],[12],[13]]),(15,[[],[65],[66],[],[64],[67]]),(18,[[15],[70]]),(19,[[8],[],[],[72,73,74],[75],[76]]),(20,[[],[9],[10],[78,79,80]]),(21,[[17],[7],[82]])],sm:=["given.example/pub-waxseal/pub/msgauth/authres.parse"],cv:=true }

def b_authres_Parse_1:SCode :=
 (.seq
 (.seq
 (.region [⟨some 32,.mv (.t 8),none⟩,⟨some 33,.mv (.t 5),none⟩,⟨some 34,.len 1 (.t 33),none⟩,⟨some 35,.bin .lss (.t 32) (.t 34),none⟩] [2,3,4,5,8,35] [] [[],[],[33]])
 (.cond (.t 35)
 .skip
 (.exit 0)))
 (.seq
 (.block 1
 (.seq
 (.region [⟨some 38,.mv (.t 5),none⟩,⟨some 39,.mv (.t 8),none⟩,⟨some 40,.iAddr 1 (.t 38) (.t 39),none⟩,⟨some 41,.load none (.t 40),none⟩,⟨some 42,.call 163 [(.t 41)],none⟩,⟨some 9,.mv (.t 42),none⟩] [2,3,4,5,8,9] [] [[],[],[38,39],[40],[41]])
 (.seq
 (.seq
 (.region [⟨some 43,.mv (.t 9),none⟩,⟨some 44,.bin .eql (.t 43) (.k (.str [])),none⟩] [2,3,4,5,8,9,44] [] [])
 (.cond (.t 44)
 (.exit 1)
 .skip))
 (.seq
 (.region [⟨some 46,.mv (.t 9),none⟩,⟨some 47,.call 166 [(.t 46)],none⟩,⟨some 45,.mv (.t 47),none⟩,⟨some 48,.extr (.t 45) 0,none⟩,⟨some 49,.extr (.t 45) 1,none⟩,⟨some 10,.mv (.t 48),none⟩,⟨some 11,.mv (.t 49),none⟩] [2,3,4,5,8,10,11] [] [[9],[46],[47],[],[45],[48]])
 (.seq
 (.seq
 (.region [⟨some 50,.mv (.t 11),none⟩,⟨some 51,.isNil 0 true (.t 50),none⟩] [2,3,4,5,8,10,11,51] [] [])
 (.cond (.t 51)
 (.seq
 (.region [⟨some 52,.mv (.t 2),none⟩,⟨some 53,.mv (.t 3),none⟩,⟨some 54,.mv (.t 11),none⟩,⟨some 2,.mv (.t 52),none⟩,⟨some 3,.mv (.t 53),none⟩,⟨some 4,.mv (.t 54),none⟩] [2,3,4] [13,100013] [[],[],[11],[52],[53]])
 .ret)
 .skip))
 (.seq
 (.region [⟨some 55,.mv (.t 10),none⟩,⟨some 56,.isNil 0 true (.t 55),none⟩] [2,3,4,5,8,10,56] [] [])
 (.cond (.t 56)
 (.region [⟨some 57,.mv (.t 3),none⟩,⟨some 58,.mv (.t 10),none⟩,⟨some 59,.mkSl 1 1 [.nilI] [(0,(.t 58))],none⟩,⟨some 60,.app 1 16 (.t 57) (.t 59),none⟩,⟨some 3,.mv (.t 60),none⟩] [2,3,4,5,8] [59] [[],[10],[58],[57,59]])
 .skip)))))))
 (.region [⟨some 36,.mv (.t 8),none⟩,⟨some 37,.bin .add (.t 36) (.k (.int .i64 1)),none⟩,⟨some 8,.mv (.t 37),none⟩] [2,3,4,5,8] [] [[],[36]])))

def c_authres_Parse:SFn:=⟨1,
 (.seq
 (.region [⟨some 2,.mv (.k (.str [])),none⟩,⟨some 3,.mv (.k .nilS),none⟩,⟨some 4,.mv (.k .nilI),none⟩] [0,3,4] [] [[2]])
 (.seq
 (.region [⟨some 12,.mv (.t 0),none⟩,⟨some 13,.callS 162 [(.t 12),(.k (.str [59]))],none⟩,⟨some 5,.mv (.t 13),none⟩] [3,4,5] [] [[0],[12]])
 (.seq
 (.region [⟨some 14,.mv (.t 5),none⟩,⟨some 15,.iAddr 1 (.t 14) (.k (.int .i64 0)),none⟩,⟨some 16,.load none (.t 15),none⟩,⟨some 17,.call 163 [(.t 16)],none⟩,⟨some 2,.mv (.t 17),none⟩] [2,3,4,5] [] [[],[14],[15],[16]])
 (.seq
 (.region [⟨some 18,.mv (.t 2),none⟩,⟨some 19,.call 164 [(.t 18),(.k (.fn 165 []))],none⟩,⟨some 6,.mv (.t 19),none⟩] [2,3,4,5,6] [] [[],[18]])
 (.seq
 (.seq
 (.region [⟨some 20,.mv (.t 6),none⟩,⟨some 21,.bin .gtr (.t 20) (.k (.int .i64 0)),none⟩] [2,3,4,5,6,21] [] [])
 (.cond (.t 21)
 (.seq
 (.region [⟨some 22,.mv (.t 2),none⟩,⟨some 23,.mv (.t 6),none⟩,⟨some 24,.slStr (.t 22) (some (.t 23)) none,none⟩,⟨some 25,.call 163 [(.t 24)],none⟩,⟨some 7,.mv (.t 25),none⟩] [2,3,4,5,6,7] [] [[],[],[22,23],[24]])
 (.seq
 (.seq
 (.region [⟨some 26,.mv (.t 7),none⟩,⟨some 27,.bin .neq (.t 26) (.k (.str [49])),none⟩] [2,3,4,5,6,27] [] [[7]])
 (.cond (.t 27)
 (.seq
 (.region [⟨some 28,.call 50 [(.k (.str [109,115,103,97,117,116,104,58,32,117,110,115,117,112,112,111,114,116,101,100,32,118,101,114,115,105,111,110]))],none⟩,⟨some 2,.mv (.k (.str [])),none⟩,⟨some 3,.mv (.k .nilS),none⟩,⟨some 4,.mv (.t 28),none⟩] [2,3,4] [13,100013] [])
 .ret)
 .skip))
 (.region [⟨some 29,.mv (.t 2),none⟩,⟨some 30,.mv (.t 6),none⟩,⟨some 31,.slStr (.t 29) none (some (.t 30)),none⟩,⟨some 2,.mv (.t 31),none⟩] [2,3,4,5] [] [[],[6],[29,30]])))
 .skip))
 (.seq
 (.seq
 (.region [⟨some 8,.mv (.k (.int .i64 1)),none⟩] [2,3,4,5,8] [] [])
 (.block 0
 (.loop [2,3,4,5,8]
 b_authres_Parse_1)))
 .ret)))))),
 [.t 2,.t 3,.t 4]⟩

def l_authres_Parse:Lay:={ rg:=[(0,([0,3,4],[])),(1,([3,4,5],[])),(2,([2,3,4,5],[])),(3,([2,3,4,5,6],[])),(4,([2,3,4,5,6,21],[])),(5,([2,3,4,5,6,7],[])),(6,([2,3,4,5,6,27],[])),(7,([2,3,4],[13,100013])),(8,([2,3,4,5],[])),(9,([2,3,4,5,8],[])),(10,([2,3,4,5,8,35],[])),(11,([2,3,4,5,8],[])),(12,([2,3,4,5,8,9],[])),(13,([2,3,4,5,8,9,44],[])),(14,([2,3,4,5,8,10,11],[])),(15,([2,3,4,5,8,10,11,51],[])),(16,([2,3,4],[13,100013])),(17,([2,3,4,5,8,10,56],[])),(18,([2,3,4,5,8],[59])),(1000010,([2,3,4,5,8],[]))],dd:=[(0,[[2]]),(1,[[0],[12]]),(2,[[],[14],[15],[16]]),(3,[[],[18]]),(5,[[],[],[22,23],[24]]),(6,[[7]]),(8,[[],[6],[29,30]]),(10,[[],[],[33]]),(11,[[],[36]]),(12,[[],[],[38,39],[40],[41]]),(14,[[9],[46],[47],[],[45],[48]]),(16,[[],[],[11],[52],[53]]),(18,[[],[10],[58],[57,59]])],sf:=[162] }

def c_impl_paramsOf:SFn:=⟨1,
 (.seq
 (.region [⟨some 2,.mv (.k .nilS),none⟩] [0] [] [])
 (.seq
 (.region [⟨some 3,.mv (.k .nilS),none⟩] [0,3] [] [])
 (.seq
 (.seq
 (.region [⟨some 6,.mv (.t 0),none⟩,⟨some 7,.call 48 [(.t 6)],none⟩,⟨some 8,.call 49 [(.t 7)],none⟩,⟨some 9,.len 1 (.t 8),none⟩,⟨some 10,.mv (.k (.int .i64 0)),none⟩] [0,3,8,9,10] [] [[],[6],[7]])
 (.block 0
 (.loop [0,3,8,9,10]
 (.seq
 (.region [⟨some 11,.bin .lss (.t 10) (.t 9),none⟩] [0,3,8,9,10,11] [] [])
 (.seq
 (.cond (.t 11)
 .skip
 (.exit 0))
 (.seq
 (.block 1
 (.seq
 (.region [⟨some 12,.iAddr 1 (.t 8) (.t 10),none⟩,⟨some 13,.load none (.t 12),none⟩,⟨some 5,.mv (.t 13),none⟩] [0,3,5,8,9,10] [] [[],[12]])
 (.region [⟨some 14,.mv (.t 3),none⟩,⟨some 15,.mv (.t 5),none⟩,⟨some 16,.mv (.t 0),none⟩,⟨some 17,.mv (.t 5),none⟩,⟨some 18,.look (.str []) false (.t 16) (.t 17),none⟩,⟨some 19,.agg [(.str []),(.str [])] [(0,1,(.t 15)),(1,1,(.t 18))],none⟩,⟨some 20,.mkSl 2 1 [(.str []),(.str [])] [(0,(.t 19))],none⟩,⟨some 21,.app 2 32 (.t 14) (.t 20),none⟩,⟨some 3,.mv (.t 21),none⟩] [0,3,8,9,10] [20] [[],[],[],[5],[16,17],[15,18],[19],[14,20]])))
 (.region [⟨some 22,.bin .add (.t 10) (.k (.int .i64 1)),none⟩,⟨some 10,.mv (.t 22),none⟩] [0,3,8,9,10] [] [])))))))
 (.seq
 (.region [⟨some 23,.mv (.t 3),none⟩,⟨some 2,.mv (.t 23),none⟩] [2] [] [[3]])
 .ret)))),
 [.t 2]⟩

def l_impl_paramsOf:Lay:={ rg:=[(0,([0],[])),(1,([0,3],[])),(2,([0,3,8,9,10],[])),(3,([0,3,8,9,10,11],[])),(4,([0,3,5,8,9,10],[])),(5,([0,3,8,9,10],[20])),(6,([0,3,8,9,10],[])),(7,([2],[])),(1000003,([0,3,8,9,10],[]))],dd:=[(2,[[],[6],[7]]),(4,[[],[12]]),(5,[[],[],[],[5],[16,17],[15,18],[19],[14,20]]),(7,[[3]])] }

def c_impl_resultOf:SFn:=⟨1,
 (.seq
 (.region [⟨some 2,.alloc [(.int .i64 0),(.str []),(.str []),(.str []),(.str []),(.str []),(.str []),(.str []),(.str []),(.str []),(.str []),(.str []),(.str []),(.str []),(.int .i64 0),.nilS],none⟩] [0,2] [] [])
 (.seq
 (.seq
 (.region [⟨some 12,.mv (.t 0),none⟩] [2,12] [] [])
 (.block 0
 (.seq
 (.region [⟨some 13,.assert 8 .nilP true (.t 12),none⟩,⟨some 14,.extr (.t 13) 1,none⟩,⟨some 15,.extr (.t 13) 0,none⟩] [2,12,14,15] [] [])
 (.cond (.t 14)
 (.seq
 (.region [⟨some 3,.mv (.t 15),none⟩] [2,3] [] [])
 (.seq
 (.region [⟨some 16,.mv (.t 3),none⟩,⟨some 17,.chk (.t 16),none⟩,⟨some 18,.fAddr 0 (.t 17),none⟩,⟨some 19,.load none (.t 18),none⟩,⟨some 20,.mv (.t 3),none⟩,⟨some 21,.chk (.t 20),none⟩,⟨some 22,.fAddr 1 (.t 21),none⟩,⟨some 23,.load none (.t 22),none⟩,⟨some 24,.mv (.t 3),none⟩,⟨some 25,.chk (.t 24),none⟩,⟨some 26,.fAddr 2 (.t 25),none⟩,⟨some 27,.load none (.t 26),none⟩,⟨some 28,.agg [(.int .i64 0),(.str []),(.str []),(.str []),(.str []),(.str []),(.str []),(.str []),(.str []),(.str []),(.str []),(.str []),(.str []),(.str []),(.int .i64 0),.nilS] [(0,1,(.k (.int .i64 1))),(2,1,(.t 19)),(3,1,(.t 23)),(10,1,(.t 27))],none⟩,
 ⟨none,.store 16 (.t 2) (.t 28),none⟩] [2] [] [])
 .ret))
 (.seq
 (.region [⟨some 29,.assert 9 .nilP true (.t 12),none⟩,⟨some 30,.extr (.t 29) 1,none⟩,⟨some 31,.extr (.t 29) 0,none⟩] [2,12,30,31] [] [])
 (.cond (.t 30)
 (.seq
 (.region [⟨some 4,.mv (.t 31),none⟩] [2,4] [] [])
 (.seq
 (.region [⟨some 32,.mv (.t 4),none⟩,⟨some 33,.chk (.t 32),none⟩,⟨some 34,.fAddr 0 (.t 33),none⟩,⟨some 35,.load none (.t 34),none⟩,⟨some 36,.mv (.t 4),none⟩,⟨some 37,.chk (.t 36),none⟩,⟨some 38,.fAddr 1 (.t 37),none⟩,⟨some 39,.load none (.t 38),none⟩,⟨some 40,.mv (.t 4),none⟩,⟨some 41,.chk (.t 40),none⟩,⟨some 42,.fAddr 2 (.t 41),none⟩,⟨some 43,.load none (.t 42),none⟩,⟨some 44,.mv (.t 4),none⟩,⟨some 45,.chk (.t 44),none⟩,⟨some 46,.fAddr 3 (.t 45),none⟩,⟨some 47,.load none (.t 46),none⟩,⟨some 48,.agg [(.int .i64 0),(.str []),(.str []),(.str []),(.str []),(.str []),(.str []),(.str []),(.str []),(.str []),(.str []),(.str []),(.str []),(.str []),(.int .i64 0),.nilS] [(0,1,(.k (.int .i64 2))),(2,1,(.t 35)),(3,1,(.t 39)),(4,1,(.t 43)),(5,1,(.t 47))],none⟩,
 ⟨none,.store 16 (.t 2) (.t 48),none⟩] [2] [] [])
 .ret))
 (.seq
 (.region [⟨some 49,.assert 10 .nilP true (.t 12),none⟩,⟨some 50,.extr (.t 49) 1,none⟩,⟨some 51,.extr (.t 49) 0,none⟩] [2,12,50,51] [] [])
 (.cond (.t 50)
 (.seq
 (.region [⟨some 5,.mv (.t 51),none⟩] [2,5] [] [])
 (.seq
 (.region [⟨some 52,.mv (.t 5),none⟩,⟨some 53,.chk (.t 52),none⟩,⟨some 54,.fAddr 0 (.t 53),none⟩,⟨some 55,.load none (.t 54),none⟩,⟨some 56,.mv (.t 5),none⟩,⟨some 57,.chk (.t 56),none⟩,⟨some 58,.fAddr 1 (.t 57),none⟩,⟨some 59,.load none (.t 58),none⟩,⟨some 60,.mv (.t 5),none⟩,⟨some 61,.chk (.t 60),none⟩,⟨some 62,.fAddr 2 (.t 61),none⟩,⟨some 63,.load none (.t 62),none⟩,⟨some 64,.mv (.t 5),none⟩,⟨some 65,.chk (.t 64),none⟩,⟨some 66,.fAddr 3 (.t 65),none⟩,⟨some 67,.load none (.t 66),none⟩,⟨some 68,.mv (.t 5),none⟩,⟨some 69,.chk (.t 68),none⟩,⟨some 70,.fAddr 4 (.t 69),none⟩,⟨some 71,.load none (.t 70),none⟩,⟨some 72,.agg [(.int .i64 0),(.str []),(.str []),(.str []),(.str []),(.str []),(.str []),(.str []),(.str []),(.str []),(.str []),(.str []),(.str []),(.str []),(.int .i64 0),.nilS] [(0,1,(.k (.int .i64 3))),(2,1,(.t 55)),(3,1,(.t 59)),(4,1,(.t 63)),(6,1,(.t 67)),(7,1,(.t 71))],none⟩,
 ⟨none,.store 16 (.t 2) (.t 72),none⟩] [2] [] [])
 .ret))
 (.seq
 (.region [⟨some 73,.assert 11 .nilP true (.t 12),none⟩,⟨some 74,.extr (.t 73) 1,none⟩,⟨some 75,.extr (.t 73) 0,none⟩] [2,12,74,75] [] [])
 (.cond (.t 74)
 (.seq
 (.region [⟨some 6,.mv (.t 75),none⟩] [2,6] [] [])
 (.seq
 (.region [⟨some 76,.mv (.t 6),none⟩,⟨some 77,.chk (.t 76),none⟩,⟨some 78,.fAddr 0 (.t 77),none⟩,⟨some 79,.load none (.t 78),none⟩,⟨some 80,.mv (.t 6),none⟩,⟨some 81,.chk (.t 80),none⟩,⟨some 82,.fAddr 1 (.t 81),none⟩,⟨some 83,.load none (.t 82),none⟩,⟨some 84,.mv (.t 6),none⟩,⟨some 85,.chk (.t 84),none⟩,⟨some 86,.fAddr 2 (.t 85),none⟩,⟨some 87,.load none (.t 86),none⟩,⟨some 88,.agg [(.int .i64 0),(.str []),(.str []),(.str []),(.str []),(.str []),(.str []),(.str []),(.str []),(.str []),(.str []),(.str []),(.str []),(.str []),(.int .i64 0),.nilS] [(0,1,(.k (.int .i64 4))),(2,1,(.t 79)),(3,1,(.t 83)),(8,1,(.t 87))],none⟩,
 ⟨none,.store 16 (.t 2) (.t 88),none⟩] [2] [] [])
 .ret))
 (.seq
 (.region [⟨some 89,.assert 12 .nilP true (.t 12),none⟩,⟨some 90,.extr (.t 89) 1,none⟩,⟨some 91,.extr (.t 89) 0,none⟩] [2,12,90,91] [] [])
 (.cond (.t 90)
 (.seq
 (.region [⟨some 7,.mv (.t 91),none⟩] [2,7] [] [])
 (.seq
 (.region [⟨some 92,.mv (.t 7),none⟩,⟨some 93,.chk (.t 92),none⟩,⟨some 94,.fAddr 0 (.t 93),none⟩,⟨some 95,.load none (.t 94),none⟩,⟨some 96,.mv (.t 7),none⟩,⟨some 97,.chk (.t 96),none⟩,⟨some 98,.fAddr 1 (.t 97),none⟩,⟨some 99,.load none (.t 98),none⟩,⟨some 100,.mv (.t 7),none⟩,⟨some 101,.chk (.t 100),none⟩,⟨some 102,.fAddr 2 (.t 101),none⟩,⟨some 103,.load none (.t 102),none⟩,⟨some 104,.mv (.t 7),none⟩,⟨some 105,.chk (.t 104),none⟩,⟨some 106,.fAddr 3 (.t 105),none⟩,⟨some 107,.load none (.t 106),none⟩,⟨some 108,.agg [(.int .i64 0),(.str []),(.str []),(.str []),(.str []),(.str []),(.str []),(.str []),(.str []),(.str []),(.str []),(.str []),(.str []),(.str []),(.int .i64 0),.nilS] [(0,1,(.k (.int .i64 5))),(2,1,(.t 95)),(3,1,(.t 99)),(11,1,(.t 103)),(12,1,(.t 107))],none⟩,
 ⟨none,.store 16 (.t 2) (.t 108),none⟩] [2] [] [])
 .ret))
 (.seq
 (.region [⟨some 109,.assert 13 .nilP true (.t 12),none⟩,⟨some 110,.extr (.t 109) 1,none⟩,⟨some 111,.extr (.t 109) 0,none⟩] [2,12,110,111] [] [])
 (.cond (.t 110)
 (.seq
 (.region [⟨some 8,.mv (.t 111),none⟩] [2,8] [] [])
 (.seq
 (.region [⟨some 112,.mv (.t 8),none⟩,⟨some 113,.chk (.t 112),none⟩,⟨some 114,.fAddr 0 (.t 113),none⟩,⟨some 115,.load none (.t 114),none⟩,⟨some 116,.mv (.t 8),none⟩,⟨some 117,.chk (.t 116),none⟩,⟨some 118,.fAddr 1 (.t 117),none⟩,⟨some 119,.load none (.t 118),none⟩,⟨some 120,.mv (.t 8),none⟩,⟨some 121,.chk (.t 120),none⟩,⟨some 122,.fAddr 2 (.t 121),none⟩,⟨some 123,.load none (.t 122),none⟩,⟨some 124,.mv (.t 8),none⟩,⟨some 125,.chk (.t 124),none⟩,⟨some 126,.fAddr 3 (.t 125),none⟩,⟨some 127,.load none (.t 126),none⟩,⟨some 128,.agg [(.int .i64 0),(.str []),(.str []),(.str []),(.str []),(.str []),(.str []),(.str []),(.str []),(.str []),(.str []),(.str []),(.str []),(.str []),(.int .i64 0),.nilS] [(0,1,(.k (.int .i64 6))),(2,1,(.t 115)),(3,1,(.t 119)),(6,1,(.t 123)),(9,1,(.t 127))],none⟩,
 ⟨none,.store 16 (.t 2) (.t 128),none⟩] [2] [] [])
 .ret))
 (.seq
 (.region [⟨some 129,.assert 14 .nilP true (.t 12),none⟩,⟨some 130,.extr (.t 129) 1,none⟩,⟨some 131,.extr (.t 129) 0,none⟩] [2,12,130,131] [] [])
 (.cond (.t 130)
 (.seq
 (.region [⟨some 9,.mv (.t 131),none⟩] [2,9] [] [])
 (.seq
 (.region [⟨some 132,.mv (.t 9),none⟩,⟨some 133,.chk (.t 132),none⟩,⟨some 134,.fAddr 0 (.t 133),none⟩,⟨some 135,.load none (.t 134),none⟩,⟨some 136,.mv (.t 9),none⟩,⟨some 137,.chk (.t 136),none⟩,⟨some 138,.fAddr 1 (.t 137),none⟩,⟨some 139,.load none (.t 138),none⟩,⟨some 140,.mv (.t 9),none⟩,⟨some 141,.chk (.t 140),none⟩,⟨some 142,.fAddr 2 (.t 141),none⟩,⟨some 143,.load none (.t 142),none⟩,⟨some 144,.agg [(.int .i64 0),(.str []),(.str []),(.str []),(.str []),(.str []),(.str []),(.str []),(.str []),(.str []),(.str []),(.str []),(.str []),(.str []),(.int .i64 0),.nilS] [(0,1,(.k (.int .i64 7))),(2,1,(.t 135)),(3,1,(.t 139)),(6,1,(.t 143))],none⟩,
 ⟨none,.store 16 (.t 2) (.t 144),none⟩] [2] [] [])
 .ret))
 (.seq
 (.region [⟨some 145,.assert 7 .nilP true (.t 12),none⟩,⟨some 146,.extr (.t 145) 1,none⟩,⟨some 147,.extr (.t 145) 0,none⟩] [2,12,146,147] [] [])
 (.cond (.t 146)
 (.seq
 (.region [⟨some 10,.mv (.t 147),none⟩] [2,10] [] [])
 (.seq
 (.region [⟨some 148,.mv (.t 10),none⟩,⟨some 149,.chk (.t 148),none⟩,⟨some 150,.fAddr 0 (.t 149),none⟩,⟨some 151,.load none (.t 150),none⟩,⟨some 152,.mv (.t 10),none⟩,⟨some 153,.chk (.t 152),none⟩,⟨some 154,.fAddr 1 (.t 153),none⟩,⟨some 155,.load none (.t 154),none⟩,⟨some 156,.mv (.t 10),none⟩,⟨some 157,.chk (.t 156),none⟩,⟨some 158,.fAddr 2 (.t 157),none⟩,⟨some 159,.load none (.t 158),none⟩,⟨some 160,.agg [(.int .i64 0),(.str []),(.str []),(.str []),(.str []),(.str []),(.str []),(.str []),(.str []),(.str []),(.str []),(.str []),(.str []),(.str []),(.int .i64 0),.nilS] [(0,1,(.k (.int .i64 8))),(2,1,(.t 151)),(13,1,(.t 155)),(14,1,(.t 159))],none⟩,
 ⟨none,.store 16 (.t 2) (.t 160),none⟩] [2] [] [])
 .ret))
 (.seq
 (.region [⟨some 161,.assert 15 .nilP true (.t 12),none⟩,⟨some 162,.extr (.t 161) 1,none⟩,⟨some 163,.extr (.t 161) 0,none⟩] [2,162,163] [] [[12]])
 (.cond (.t 162)
 (.seq
 (.region [⟨some 11,.mv (.t 163),none⟩] [2,11] [] [])
 (.seq
 (.region [⟨some 164,.mv (.t 11),none⟩,⟨some 165,.chk (.t 164),none⟩,⟨some 166,.fAddr 0 (.t 165),none⟩,⟨some 167,.load none (.t 166),none⟩,⟨some 168,.mv (.t 11),none⟩,⟨some 169,.chk (.t 168),none⟩,⟨some 170,.fAddr 1 (.t 169),none⟩,⟨some 171,.load none (.t 170),none⟩,⟨some 172,.mv (.t 11),none⟩,⟨some 173,.chk (.t 172),none⟩,⟨some 174,.fAddr 2 (.t 173),none⟩,⟨some 175,.load none (.t 174),none⟩,⟨some 176,.call 167 [(.t 175)],none⟩,⟨some 177,.agg [(.int .i64 0),(.str []),(.str []),(.str []),(.str []),(.str []),(.str []),(.str []),(.str []),(.str []),(.str []),(.str []),(.str []),(.str []),(.int .i64 0),.nilS] [(0,1,(.k (.int .i64 0))),(1,1,(.t 167)),(2,1,(.t 171)),(15,1,(.t 176))],none⟩,
 ⟨none,.store 16 (.t 2) (.t 177),none⟩] [2] [] [])
 .ret))
 .skip))))))))))))))))))))
 (.seq
 (.region [⟨some 178,.agg [(.int .i64 0),(.str []),(.str []),(.str []),(.str []),(.str []),(.str []),(.str []),(.str []),(.str []),(.str []),(.str []),(.str []),(.str []),(.int .i64 0),.nilS] [],none⟩,
 ⟨none,.store 16 (.t 2) (.t 178),none⟩] [2] [] [])
 .ret))),
 [.c (some 16) 2]⟩

def l_impl_resultOf:Lay:={ rg:=[(0,([0,2],[])),(1,([2,12],[])),(2,([2,12,14,15],[])),(3,([2,3],[])),(4,([2],[])),(5,([2,12,30,31],[])),(6,([2,4],[])),(7,([2],[])),(8,([2,12,50,51],[])),(9,([2,5],[])),(10,([2],[])),(11,([2,12,74,75],[])),(12,([2,6],[])),(13,([2],[])),(14,([2,12,90,91],[])),(15,([2,7],[])),(16,([2],[])),(17,([2,12,110,111],[])),(18,([2,8],[])),(19,([2],[])),(20,([2,12,130,131],[])),(21,([2,9],[])),(22,([2],[])),(23,([2,12,146,147],[])),(24,([2,10],[])),(25,([2],[])),(26,([2,162,163],[])),(27,([2,11],[])),(28,([2],[])),(29,([2],[]))],dd:=[(26,[[12]])] }

def b_impl_AParse_1:SCode :=
 (.seq
 (.region [⟨some 22,.bin .lss (.t 21) (.t 20),none⟩] [5,8,19,20,21,22] [] [])
 (.seq
 (.cond (.t 22)
 .skip
 (.exit 0))
 (.seq
 (.block 1
 (.seq
 (.region [⟨some 23,.iAddr 1 (.t 19) (.t 21),none⟩,⟨some 24,.load none (.t 23),none⟩,⟨some 10,.mv (.t 24),none⟩] [5,8,10,19,20,21] [] [[],[23]])
 (.region [⟨some 25,.mv (.t 8),none⟩,⟨some 26,.mv (.t 10),none⟩,⟨some 27,.call 157 [(.t 26)],none⟩,⟨some 28,.mkSl 16 1 [(.int .i64 0),(.str []),(.str []),(.str []),(.str []),(.str []),(.str []),(.str []),(.str []),(.str []),(.str []),(.str []),(.str []),(.str []),(.int .i64 0),.nilS] [(0,(.t 27))],none⟩,⟨some 29,.app 16 248 (.t 25) (.t 28),none⟩,⟨some 8,.mv (.t 29),none⟩] [5,8,19,20,21] [28] [[],[10],[26],[27],[25,28]])))
 (.region [⟨some 30,.bin .add (.t 21) (.k (.int .i64 1)),none⟩,⟨some 21,.mv (.t 30),none⟩] [5,8,19,20,21] [] []))))

def t_impl_AParse_2:SCode :=
 (.seq
 (.region [⟨some 31,.mv (.t 5),none⟩,⟨some 32,.mv (.t 8),none⟩,⟨some 2,.mv (.t 31),none⟩,⟨some 3,.mv (.t 32),none⟩,⟨some 4,.mv (.k (.bool true)),none⟩] [2,3,4] [] [[5],[8],[31],[32]])
 .ret)

def c_impl_AParse:SFn:=⟨1,
 (.seq
 (.region [⟨some 2,.mv (.k (.str [])),none⟩,⟨some 3,.mv (.k .nilS),none⟩,⟨some 4,.mv (.k (.bool false)),none⟩] [0] [] [[2],[3]])
 (.seq
 (.region [⟨some 12,.mv (.t 0),none⟩,⟨some 13,.call 156 [(.t 12)],none⟩,⟨some 11,.mv (.t 13),none⟩,⟨some 14,.extr (.t 11) 0,none⟩,⟨some 15,.extr (.t 11) 1,none⟩,⟨some 16,.extr (.t 11) 2,none⟩,⟨some 5,.mv (.t 14),none⟩,⟨some 6,.mv (.t 15),none⟩,⟨some 7,.mv (.t 16),none⟩] [5,6,7] [] [[0],[12],[13],[],[],[11],[14],[15]])
 (.seq
 (.seq
 (.region [⟨some 17,.mv (.t 7),none⟩,⟨some 18,.isNil 0 true (.t 17),none⟩] [5,6,18] [] [[7]])
 (.cond (.t 18)
 (.seq
 (.region [⟨some 2,.mv (.k (.str [])),none⟩,⟨some 3,.mv (.k .nilS),none⟩,⟨some 4,.mv (.k (.bool false)),none⟩] [2,3,4] [] [])
 .ret)
 .skip))
 (.seq
 (.region [⟨some 8,.mv (.k .nilS),none⟩] [5,6,8] [] [])
 (.seq
 (.seq
 (.region [⟨some 19,.mv (.t 6),none⟩,⟨some 20,.len 1 (.t 19),none⟩,⟨some 21,.mv (.k (.int .i64 0)),none⟩] [5,8,19,20,21] [] [[6]])
 (.block 0
 (.loop [5,8,19,20,21]
 b_impl_AParse_1)))
 t_impl_AParse_2))))),
 [.t 2,.t 3,.t 4]⟩

def l_impl_AParse:Lay:={ rg:=[(0,([0],[])),(1,([5,6,7],[])),(2,([5,6,18],[])),(3,([2,3,4],[])),(4,([5,6,8],[])),(5,([5,8,19,20,21],[])),(6,([5,8,19,20,21,22],[])),(7,([5,8,10,19,20,21],[])),(8,([5,8,19,20,21],[28])),(9,([5,8,19,20,21],[])),(10,([2,3,4],[])),(1000006,([5,8,19,20,21],[]))],dd:=[(0,[[2],[3]]),(1,[[0],[12],[13],[],[],[11],[14],[15]]),(2,[[7]]),(5,[[6]]),(7,[[],[23]]),(8,[[],[10],[26],[27],[25,28]]),(10,[[5],[8],[31],[32]])] }

end Wax


namespace Wax
open Go (IntKind)

def c_laws_awake:SFn:=⟨0,
 (.seq
 (.region [⟨some 0,.mv (.k (.bool false)),none⟩] [] [] [])
 (.seq
 (.region [⟨some 7,.call 144 [(.k (.str [97,59,32,100,107,105,109,61,112,97,115,115,32,104,101,97,100,101,114,46,100,61,98]))],none⟩,⟨some 6,.mv (.t 7),none⟩,⟨some 8,.extr (.t 6) 0,none⟩,⟨some 9,.extr (.t 6) 1,none⟩,⟨some 10,.extr (.t 6) 2,none⟩,⟨some 1,.mv (.t 8),none⟩,⟨some 2,.mv (.t 9),none⟩,⟨some 3,.mv (.t 10),none⟩] [1,2,3] [] [[],[7],[],[],[6],[8],[9]])
 (.seq
 (.region [⟨some 12,.call 133 [(.k (.str [118,61,68,77,65,82,67,49,59,32,112,61,110,111,110,101]))],none⟩,⟨some 11,.mv (.t 12),none⟩,⟨some 13,.extr (.t 11) 0,none⟩,⟨some 14,.extr (.t 11) 1,none⟩,⟨some 4,.alloc [(.str []),(.str []),(.int .i64 0),(.str []),(.int .i64 0),(.bool false),.nilS,(.int .i64 0),.nilS,.nilS,(.str [])],none⟩,
 ⟨none,.store 11 (.t 4) (.t 13),none⟩,⟨some 5,.mv (.t 14),none⟩] [1,2,3,4,5] [] [[],[12],[],[11],[],[13]])
 (.seq
 (.region [⟨some 15,.mv (.t 3),none⟩,⟨some 16,.mv (.t 15),none⟩,⟨some 17,.mv (.t 1),some (16,true)⟩,⟨some 18,.bin .eql (.t 17) (.k (.str [97])),some (16,true)⟩,⟨some 19,.pick (.t 16) (.t 18) (.k (.bool false)),none⟩,⟨some 20,.mv (.t 19),none⟩,⟨some 21,.mv (.t 2),some (20,true)⟩,⟨some 22,.len 1 (.t 21),some (20,true)⟩,⟨some 23,.bin .eql (.t 22) (.k (.int .i64 1)),some (20,true)⟩,⟨some 24,.pick (.t 20) (.t 23) (.k (.bool false)),none⟩,⟨some 25,.mv (.t 24),none⟩,⟨some 26,.mv (.t 2),some (25,true)⟩,⟨some 27,.iAddr 16 (.t 26) (.k (.int .i64 0)),some (25,true)⟩,⟨some 28,.fAddr 4 (.t 27),some (25,true)⟩,⟨some 29,.load none (.t 28),some (25,true)⟩,⟨some 30,.bin .eql (.t 29) (.k (.str [98])),some (25,true)⟩,⟨some 31,.pick (.t 25) (.t 30) (.k (.bool false)),none⟩,⟨some 32,.mv (.t 31),none⟩,⟨some 33,.mv (.t 5),some (32,true)⟩,⟨some 34,.pick (.t 32) (.t 33) (.k (.bool false)),none⟩,⟨some 35,.mv (.t 34),none⟩,⟨some 36,.fAddr 3 (.t 4),some (35,true)⟩,⟨some 37,.load none (.t 36),some (35,true)⟩,⟨some 38,.bin .eql (.t 37) (.k (.str [110,111,110,101])),some (35,true)⟩,⟨some 39,.pick (.t 35) (.t 38) (.k (.bool false)),none⟩,⟨some 0,.mv (.t 39),none⟩] [0] [4] [[3],[15],[1],[17],[16,18],[19],[],[21],[22],[20,23],[24],[2],[26],[27],[28],[29],[25,30],[31],[5],[32,33],[34],[4],[36],[37],[35,38]])
 .ret)))),
 [.t 0]⟩

def l_laws_awake:Lay:={ rg:=[(0,([],[])),(1,([1,2,3],[])),(2,([1,2,3,4,5],[])),(3,([0],[4]))],dd:=[(1,[[],[7],[],[],[6],[8],[9]]),(2,[[],[12],[],[11],[],[13]]),(3,[[3],[15],[1],[17],[16,18],[19],[],[21],[22],[20,23],[24],[2],[26],[27],[28],[29],[25,30],[31],[5],[32,33],[34],[4],[36],[37],[35,38]])] }

end Wax


namespace Wax
open Go (IntKind)

def c_strings_HasPrefix:SFn:=⟨2,
 (.seq
 (.region [⟨some 4,.mv (.k (.bool false)),none⟩] [0,1] [] [])
 (.seq
 (.region [⟨some 5,.mv (.t 0),none⟩,⟨some 6,.mv (.t 1),none⟩,⟨some 7,.call 198 [(.t 5),(.t 6)],none⟩,⟨some 4,.mv (.t 7),none⟩] [4] [] [[0],[1],[5,6]])
 .ret)),
 [.t 4]⟩

def l_strings_HasPrefix:Lay:={ rg:=[(0,([0,1],[])),(1,([4],[]))],dd:=[(1,[[0],[1],[5,6]])] }

def c_strings_TrimPrefix:SFn:=⟨2,
 (.seq
 (.region [⟨some 4,.mv (.k (.str [])),none⟩] [0,1] [] [])
 (.seq
 (.region [⟨some 5,.mv (.t 0),none⟩,⟨some 6,.mv (.t 1),none⟩,⟨some 7,.call 199 [(.t 5),(.t 6)],none⟩,⟨some 4,.mv (.t 7),none⟩] [4] [] [[0],[1],[5,6]])
 .ret)),
 [.t 4]⟩

def l_strings_TrimPrefix:Lay:={ rg:=[(0,([0,1],[])),(1,([4],[]))],dd:=[(1,[[0],[1],[5,6]])] }

def c_stringslite_HasPrefix:SFn:=⟨2,
 (.seq
 (.region [⟨some 4,.mv (.k (.bool false)),none⟩] [0,1] [] [])
 (.seq
 (.region [⟨some 5,.mv (.t 0),none⟩,⟨some 6,.len 0 (.t 5),none⟩,⟨some 7,.mv (.t 1),none⟩,⟨some 8,.len 0 (.t 7),none⟩,⟨some 9,.bin .geq (.t 6) (.t 8),none⟩,⟨some 10,.mv (.t 9),none⟩,⟨some 11,.mv (.t 0),some (10,true)⟩,⟨some 12,.mv (.t 1),some (10,true)⟩,⟨some 13,.len 0 (.t 12),some (10,true)⟩,⟨some 14,.slStr (.t 11) none (some (.t 13)),some (10,true)⟩,⟨some 15,.mv (.t 1),some (10,true)⟩,⟨some 16,.bin .eql (.t 14) (.t 15),some (10,true)⟩,⟨some 17,.pick (.t 10) (.t 16) (.k (.bool false)),none⟩,⟨some 4,.mv (.t 17),none⟩] [4] [] [[],[5],[],[7],[6,8],[9],[0],[],[12],[11,13],[1],[14,15],[10,16]])
 .ret)),
 [.t 4]⟩

def l_stringslite_HasPrefix:Lay:={ rg:=[(0,([0,1],[])),(1,([4],[]))],dd:=[(1,[[],[5],[],[7],[6,8],[9],[0],[],[12],[11,13],[1],[14,15],[10,16]])] }

def c_stringslite_TrimPrefix:SFn:=⟨2,
 (.seq
 (.region [⟨some 4,.mv (.k (.str [])),none⟩] [0,1] [] [])
 (.seq
 (.seq
 (.region [⟨some 5,.mv (.t 0),none⟩,⟨some 6,.mv (.t 1),none⟩,⟨some 7,.call 198 [(.t 5),(.t 6)],none⟩] [0,1,7] [] [])
 (.cond (.t 7)
 (.seq
 (.region [⟨some 8,.mv (.t 0),none⟩,⟨some 9,.mv (.t 1),none⟩,⟨some 10,.len 0 (.t 9),none⟩,⟨some 11,.slStr (.t 8) (some (.t 10)) none,none⟩,⟨some 4,.mv (.t 11),none⟩] [4] [] [[0],[1],[9],[8,10]])
 .ret)
 .skip))
 (.seq
 (.region [⟨some 12,.mv (.t 0),none⟩,⟨some 4,.mv (.t 12),none⟩] [4] [] [[0]])
 .ret))),
 [.t 4]⟩

def l_stringslite_TrimPrefix:Lay:={ rg:=[(0,([0,1],[])),(1,([0,1,7],[])),(2,([4],[])),(3,([4],[]))],dd:=[(2,[[0],[1],[9],[8,10]]),(3,[[0]])] }

end Wax


