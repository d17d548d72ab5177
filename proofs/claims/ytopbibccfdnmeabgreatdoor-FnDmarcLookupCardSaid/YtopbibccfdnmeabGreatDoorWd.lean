/- The machine by which the functions are read, and what is proved of them (part 4): no premise. -/
import Derived.Test.YtopbibccfdnmeabGreatDoorWc
set_option linter.all false
namespace Wax
open Go (IntKind)

def b_spec_MailKeyword_1:SCode :=
 (.seq
 (.seq
 (.region [⟨some 5,.mv (.t 3),none⟩,⟨some 6,.mv (.t 0),none⟩,⟨some 7,.len 0 (.t 6),none⟩,⟨some 8,.bin .lss (.t 5) (.t 7),none⟩] [0,3,8] [] [[],[],[6]])
 (.cond (.t 8)
 .skip
 (.exit 0)))
 (.seq
 (.block 1
 (.seq
 (.region [⟨some 11,.mv (.t 0),none⟩,⟨some 12,.mv (.t 3),none⟩,⟨some 13,.iStr (.t 11) (.t 12),none⟩,⟨some 4,.mv (.t 13),none⟩] [0,3,4] [] [[],[],[11,12]])
 (.seq
 (.region [⟨some 14,.mv (.t 4),none⟩,⟨some 15,.bin .geq (.t 14) (.k (.int .u8 97)),none⟩,⟨some 16,.mv (.t 15),none⟩,⟨some 17,.mv (.t 4),some (16,true)⟩,⟨some 18,.bin .leq (.t 17) (.k (.int .u8 122)),some (16,true)⟩,⟨some 19,.pick (.t 16) (.t 18) (.k (.bool false)),none⟩,⟨some 20,.mv (.t 19),none⟩,⟨some 21,.mv (.t 4),some (20,false)⟩,⟨some 22,.bin .geq (.t 21) (.k (.int .u8 65)),some (20,false)⟩,⟨some 23,.mv (.t 22),some (20,false)⟩,⟨some 24,.mv (.t 4),some (23,true)⟩,⟨some 25,.bin .leq (.t 24) (.k (.int .u8 90)),some (23,true)⟩,⟨some 26,.pick (.t 23) (.t 25) (.k (.bool false)),some (20,false)⟩,⟨some 27,.pick (.t 20) (.k (.bool true)) (.t 26),none⟩,⟨some 28,.mv (.t 27),none⟩,⟨some 29,.mv (.t 4),some (28,false)⟩,⟨some 30,.bin .geq (.t 29) (.k (.int .u8 48)),some (28,false)⟩,⟨some 31,.mv (.t 30),some (28,false)⟩,⟨some 32,.mv (.t 4),some (31,true)⟩,⟨some 33,.bin .leq (.t 32) (.k (.int .u8 57)),some (31,true)⟩,⟨some 34,.pick (.t 31) (.t 33) (.k (.bool false)),some (28,false)⟩,⟨some 35,.pick (.t 28) (.k (.bool true)) (.t 34),none⟩,⟨some 36,.mv (.t 35),none⟩,⟨some 37,.mv (.t 4),some (36,false)⟩,⟨some 38,.bin .eql (.t 37) (.k (.int .u8 45)),some (36,false)⟩,⟨some 39,.pick (.t 36) (.k (.bool true)) (.t 38),none⟩,⟨some 40,.un .not (.t 39),none⟩] [0,3,40] [] [[],[14],[15],[],[17],[16,18],[19],[],[21],[22],[],[24],[23,25],[20,26],[27],[],[29],[30],[],[32],[31,33],[28,34],[35],[4],[37],[36,38]])
 (.cond (.t 40)
 (.seq
 (.region [⟨some 2,.mv (.k (.bool false)),none⟩] [2] [] [])
 .ret)
 .skip))))
 (.region [⟨some 9,.mv (.t 3),none⟩,⟨some 10,.bin .add (.t 9) (.k (.int .i64 1)),none⟩,⟨some 3,.mv (.t 10),none⟩] [0,3] [] [[],[9]])))

def t_spec_MailKeyword_2:SCode :=
 (.seq
 (.region [⟨some 41,.mv (.t 0),none⟩,⟨some 42,.bin .neq (.t 41) (.k (.str [])),none⟩,⟨some 43,.mv (.t 42),none⟩,⟨some 44,.mv (.t 0),some (43,true)⟩,⟨some 45,.iStr (.t 44) (.k (.int .i64 0)),some (43,true)⟩,⟨some 46,.bin .neq (.t 45) (.k (.int .u8 45)),some (43,true)⟩,⟨some 47,.pick (.t 43) (.t 46) (.k (.bool false)),none⟩,⟨some 48,.mv (.t 47),none⟩,⟨some 49,.mv (.t 0),some (48,true)⟩,⟨some 50,.mv (.t 0),some (48,true)⟩,⟨some 51,.len 0 (.t 50),some (48,true)⟩,⟨some 52,.bin .sub (.t 51) (.k (.int .i64 1)),some (48,true)⟩,⟨some 53,.iStr (.t 49) (.t 52),some (48,true)⟩,⟨some 54,.bin .neq (.t 53) (.k (.int .u8 45)),some (48,true)⟩,⟨some 55,.pick (.t 48) (.t 54) (.k (.bool false)),none⟩,⟨some 2,.mv (.t 55),none⟩] [2] [] [[],[41],[42],[],[44],[45],[43,46],[47],[],[0],[50],[51],[49,52],[53],[48,54]])
 .ret)

def c_spec_MailKeyword:SFn:=⟨1,
 (.seq
 (.region [⟨some 2,.mv (.k (.bool false)),none⟩] [0] [] [])
 (.seq
 (.seq
 (.region [⟨some 3,.mv (.k (.int .i64 0)),none⟩] [0,3] [] [])
 (.block 0
 (.loop [0,3]
 b_spec_MailKeyword_1)))
 t_spec_MailKeyword_2)),
 [.t 2]⟩

def l_spec_MailKeyword:Lay:={ rg:=[(0,([0],[])),(1,([0,3],[])),(2,([0,3,8],[])),(3,([0,3],[])),(4,([0,3,4],[])),(5,([0,3,40],[])),(6,([2],[])),(7,([2],[])),(1000002,([0,3],[]))],dd:=[(2,[[],[],[6]]),(3,[[],[9]]),(4,[[],[],[11,12]]),(5,[[],[14],[15],[],[17],[16,18],[19],[],[21],[22],[],[24],[23,25],[20,26],[27],[],[29],[30],[],[32],[31,33],[28,34],[35],[4],[37],[36,38]]),(7,[[],[41],[42],[],[44],[45],[43,46],[47],[],[0],[50],[51],[49,52],[53],[48,54]])] }

def b_spec_MailDomain_1:SCode :=
 (.seq
 (.seq
 (.region [⟨some 5,.mv (.t 4),none⟩,⟨some 6,.mv (.t 0),none⟩,⟨some 7,.len 0 (.t 6),none⟩,⟨some 8,.bin .leq (.t 5) (.t 7),none⟩] [0,3,4,8] [] [[],[],[6]])
 (.cond (.t 8)
 .skip
 (.exit 0)))
 (.seq
 (.block 1
 (.seq
 (.region [⟨some 11,.mv (.t 4),none⟩,⟨some 12,.mv (.t 0),none⟩,⟨some 13,.len 0 (.t 12),none⟩,⟨some 14,.bin .eql (.t 11) (.t 13),none⟩,⟨some 15,.mv (.t 14),none⟩,⟨some 16,.mv (.t 0),some (15,false)⟩,⟨some 17,.mv (.t 4),some (15,false)⟩,⟨some 18,.iStr (.t 16) (.t 17),some (15,false)⟩,⟨some 19,.bin .eql (.t 18) (.k (.int .u8 46)),some (15,false)⟩,⟨some 20,.pick (.t 15) (.k (.bool true)) (.t 19),none⟩] [0,3,4,20] [] [[],[],[12],[11,13],[14],[],[],[16,17],[18]])
 (.cond (.t 20)
 (.seq
 (.seq
 (.region [⟨some 21,.mv (.t 0),none⟩,⟨some 22,.mv (.t 3),none⟩,⟨some 23,.mv (.t 4),none⟩,⟨some 24,.slStr (.t 21) (some (.t 22)) (some (.t 23)),none⟩,⟨some 25,.call 99 [(.t 24)],none⟩,⟨some 26,.un .not (.t 25),none⟩,⟨some 27,.mv (.t 26),none⟩,⟨some 28,.mv (.t 4),some (27,false)⟩,⟨some 29,.mv (.t 3),some (27,false)⟩,⟨some 30,.bin .sub (.t 28) (.t 29),some (27,false)⟩,⟨some 31,.bin .gtr (.t 30) (.k (.int .i64 63)),some (27,false)⟩,⟨some 32,.pick (.t 27) (.k (.bool true)) (.t 31),none⟩] [0,4,32] [] [[],[],[],[21,22,23],[24],[25],[26],[],[3],[28,29],[30]])
 (.cond (.t 32)
 (.seq
 (.region [⟨some 2,.mv (.k (.bool false)),none⟩] [2] [] [])
 .ret)
 .skip))
 (.region [⟨some 33,.mv (.t 4),none⟩,⟨some 34,.bin .add (.t 33) (.k (.int .i64 1)),none⟩,⟨some 3,.mv (.t 34),none⟩] [0,3,4] [] [[],[33]]))
 .skip)))
 (.region [⟨some 9,.mv (.t 4),none⟩,⟨some 10,.bin .add (.t 9) (.k (.int .i64 1)),none⟩,⟨some 4,.mv (.t 10),none⟩] [0,3,4] [] [[],[9]])))

def t_spec_MailDomain_2:SCode :=
 (.seq
 (.region [⟨some 35,.mv (.t 0),none⟩,⟨some 36,.len 0 (.t 35),none⟩,⟨some 37,.bin .leq (.t 36) (.k (.int .i64 253)),none⟩,⟨some 2,.mv (.t 37),none⟩] [2] [] [[0],[35],[36]])
 .ret)

def c_spec_MailDomain:SFn:=⟨1,
 (.seq
 (.region [⟨some 2,.mv (.k (.bool false)),none⟩] [0] [] [])
 (.seq
 (.region [⟨some 3,.mv (.k (.int .i64 0)),none⟩] [0,3] [] [])
 (.seq
 (.seq
 (.region [⟨some 4,.mv (.k (.int .i64 0)),none⟩] [0,3,4] [] [])
 (.block 0
 (.loop [0,3,4]
 b_spec_MailDomain_1)))
 t_spec_MailDomain_2))),
 [.t 2]⟩

def l_spec_MailDomain:Lay:={ rg:=[(0,([0],[])),(1,([0,3],[])),(2,([0,3,4],[])),(3,([0,3,4,8],[])),(4,([0,3,4],[])),(5,([0,3,4,20],[])),(6,([0,4,32],[])),(7,([2],[])),(8,([0,3,4],[])),(9,([2],[])),(1000003,([0,3,4],[]))],dd:=[(3,[[],[],[6]]),(4,[[],[9]]),(5,[[],[],[12],[11,13],[14],[],[],[16,17],[18]]),(6,[[],[],[],[21,22,23],[24],[25],[26],[],[3],[28,29],[30]]),(8,[[],[33]]),(9,[[0],[35],[36]])] }

def b_spec_MailLower_1:SCode :=
 (.seq
 (.region [⟨some 11,.bin .lss (.t 10) (.t 9),none⟩] [3,8,9,10,11] [] [])
 (.seq
 (.cond (.t 11)
 .skip
 (.exit 0))
 (.seq
 (.block 1
 (.seq
 (.region [⟨some 12,.mv (.t 10),none⟩,⟨some 13,.iAddr 1 (.t 8) (.t 10),none⟩,⟨some 14,.load none (.t 13),none⟩,⟨some 4,.mv (.t 12),none⟩,⟨some 5,.mv (.t 14),none⟩] [3,4,5,8,9,10] [] [[],[],[13],[12]])
 (.seq
 (.region [⟨some 15,.mv (.t 5),none⟩,⟨some 16,.bin .geq (.t 15) (.k (.int .u8 65)),none⟩,⟨some 17,.mv (.t 16),none⟩,⟨some 18,.mv (.t 5),some (17,true)⟩,⟨some 19,.bin .leq (.t 18) (.k (.int .u8 90)),some (17,true)⟩,⟨some 20,.pick (.t 17) (.t 19) (.k (.bool false)),none⟩] [3,4,5,8,9,10,20] [] [[],[15],[16],[],[18]])
 (.cond (.t 20)
 (.region [⟨some 21,.mv (.t 3),none⟩,⟨some 22,.mv (.t 4),none⟩,⟨some 23,.mv (.t 5),none⟩,⟨some 24,.bin .add (.t 23) (.k (.int .u8 32)),none⟩,⟨some 25,.iAddr 1 (.t 21) (.t 22),none⟩,
 ⟨none,.store 1 (.t 25) (.t 24),none⟩] [3,8,9,10] [] [[],[4],[5],[23],[21,22]])
 .skip))))
 (.region [⟨some 26,.bin .add (.t 10) (.k (.int .i64 1)),none⟩,⟨some 10,.mv (.t 26),none⟩] [3,8,9,10] [] []))))

def t_spec_MailLower_2:SCode :=
 (.seq
 (.region [⟨some 27,.mv (.t 3),none⟩,⟨some 28,.cBytesStr (.t 27),none⟩,⟨some 2,.mv (.t 28),none⟩] [2] [7] [[3],[27]])
 .ret)

def c_spec_MailLower:SFn:=⟨1,
 (.seq
 (.region [⟨some 2,.mv (.k (.str [])),none⟩] [0] [] [])
 (.seq
 (.region [⟨some 6,.mv (.t 0),none⟩,⟨some 7,.cStrBytes (.t 6),none⟩,⟨some 3,.mv (.t 7),none⟩] [3] [] [[0],[6]])
 (.seq
 (.seq
 (.region [⟨some 8,.mv (.t 3),none⟩,⟨some 9,.len 1 (.t 8),none⟩,⟨some 10,.mv (.k (.int .i64 0)),none⟩] [3,8,9,10] [] [])
 (.block 0
 (.loop [3,8,9,10]
 b_spec_MailLower_1)))
 t_spec_MailLower_2))),
 [.t 2]⟩

def l_spec_MailLower:Lay:={ rg:=[(0,([0],[])),(1,([3],[])),(2,([3,8,9,10],[])),(3,([3,8,9,10,11],[])),(4,([3,4,5,8,9,10],[])),(5,([3,4,5,8,9,10,20],[])),(6,([3,8,9,10],[])),(7,([3,8,9,10],[])),(8,([2],[7])),(1000003,([3,8,9,10],[]))],dd:=[(1,[[0],[6]]),(4,[[],[],[13],[12]]),(5,[[],[15],[16],[],[18]]),(6,[[],[4],[5],[23],[21,22]]),(8,[[3],[27]])] }

def b_spec_MailAny_1:SCode :=
 (.seq
 (.seq
 (.region [⟨some 6,.mv (.t 5),none⟩,⟨some 7,.mv (.t 1),none⟩,⟨some 8,.len 0 (.t 7),none⟩,⟨some 9,.bin .lss (.t 6) (.t 8),none⟩] [0,1,5,9] [] [[],[],[7]])
 (.cond (.t 9)
 .skip
 (.exit 0)))
 (.seq
 (.block 1
 (.seq
 (.region [⟨some 12,.mv (.t 1),none⟩,⟨some 13,.mv (.t 5),none⟩,⟨some 14,.iStr (.t 12) (.t 13),none⟩,⟨some 15,.mv (.t 0),none⟩,⟨some 16,.bin .eql (.t 14) (.t 15),none⟩] [0,1,5,16] [] [[],[],[12,13]])
 (.cond (.t 16)
 (.seq
 (.region [⟨some 4,.mv (.k (.bool true)),none⟩] [4] [] [])
 .ret)
 .skip)))
 (.region [⟨some 10,.mv (.t 5),none⟩,⟨some 11,.bin .add (.t 10) (.k (.int .i64 1)),none⟩,⟨some 5,.mv (.t 11),none⟩] [0,1,5] [] [[],[10]])))

def t_spec_MailAny_2:SCode :=
 (.seq
 (.region [⟨some 4,.mv (.k (.bool false)),none⟩] [4] [] [])
 .ret)

def c_spec_MailAny:SFn:=⟨2,
 (.seq
 (.region [⟨some 4,.mv (.k (.bool false)),none⟩] [0,1] [] [])
 (.seq
 (.seq
 (.region [⟨some 5,.mv (.k (.int .i64 0)),none⟩] [0,1,5] [] [])
 (.block 0
 (.loop [0,1,5]
 b_spec_MailAny_1)))
 t_spec_MailAny_2)),
 [.t 4]⟩

def l_spec_MailAny:Lay:={ rg:=[(0,([0,1],[])),(1,([0,1,5],[])),(2,([0,1,5,9],[])),(3,([0,1,5],[])),(4,([0,1,5,16],[])),(5,([4],[])),(6,([4],[])),(1000002,([0,1,5],[]))],dd:=[(2,[[],[],[7]]),(3,[[],[10]]),(4,[[],[],[12,13]])] }

def b_spec_MailToken_1:SCode :=
 (.seq
 (.seq
 (.region [⟨some 4,.mv (.t 3),none⟩,⟨some 5,.mv (.t 0),none⟩,⟨some 6,.len 0 (.t 5),none⟩,⟨some 7,.bin .lss (.t 4) (.t 6),none⟩] [0,3,7] [] [[],[],[5]])
 (.cond (.t 7)
 .skip
 (.exit 0)))
 (.seq
 (.block 1
 (.seq
 (.region [⟨some 10,.mv (.t 0),none⟩,⟨some 11,.mv (.t 3),none⟩,⟨some 12,.iStr (.t 10) (.t 11),none⟩,⟨some 13,.bin .leq (.t 12) (.k (.int .u8 32)),none⟩,⟨some 14,.mv (.t 13),none⟩,⟨some 15,.mv (.t 0),some (14,false)⟩,⟨some 16,.mv (.t 3),some (14,false)⟩,⟨some 17,.iStr (.t 15) (.t 16),some (14,false)⟩,⟨some 18,.bin .geq (.t 17) (.k (.int .u8 127)),some (14,false)⟩,⟨some 19,.pick (.t 14) (.k (.bool true)) (.t 18),none⟩,⟨some 20,.mv (.t 19),none⟩,⟨some 21,.mv (.t 0),some (20,false)⟩,⟨some 22,.mv (.t 3),some (20,false)⟩,⟨some 23,.iStr (.t 21) (.t 22),some (20,false)⟩,⟨some 24,.call 100 [(.t 23),(.k (.str [40,41,60,62,64,44,59,58,92,34,47,91,93,63,61]))],some (20,false)⟩,⟨some 25,.pick (.t 20) (.k (.bool true)) (.t 24),none⟩] [0,3,25] [] [[],[],[10,11],[12],[13],[],[],[15,16],[17],[14,18],[19],[],[],[21,22],[23]])
 (.cond (.t 25)
 (.seq
 (.region [⟨some 2,.mv (.k (.bool false)),none⟩] [2] [] [])
 .ret)
 .skip)))
 (.region [⟨some 8,.mv (.t 3),none⟩,⟨some 9,.bin .add (.t 8) (.k (.int .i64 1)),none⟩,⟨some 3,.mv (.t 9),none⟩] [0,3] [] [[],[8]])))

def t_spec_MailToken_2:SCode :=
 (.seq
 (.region [⟨some 26,.mv (.t 0),none⟩,⟨some 27,.bin .neq (.t 26) (.k (.str [])),none⟩,⟨some 2,.mv (.t 27),none⟩] [2] [] [[0],[26]])
 .ret)

def c_spec_MailToken:SFn:=⟨1,
 (.seq
 (.region [⟨some 2,.mv (.k (.bool false)),none⟩] [0] [] [])
 (.seq
 (.seq
 (.region [⟨some 3,.mv (.k (.int .i64 0)),none⟩] [0,3] [] [])
 (.block 0
 (.loop [0,3]
 b_spec_MailToken_1)))
 t_spec_MailToken_2)),
 [.t 2]⟩

def l_spec_MailToken:Lay:={ rg:=[(0,([0],[])),(1,([0,3],[])),(2,([0,3,7],[])),(3,([0,3],[])),(4,([0,3,25],[])),(5,([2],[])),(6,([2],[])),(1000002,([0,3],[]))],dd:=[(2,[[],[],[5]]),(3,[[],[8]]),(4,[[],[],[10,11],[12],[13],[],[],[15,16],[17],[14,18],[19],[],[],[21,22],[23]]),(6,[[0],[26]])] }

def b_spec_MailSplit_1:SCode :=
 (.seq
 (.seq
 (.region [⟨some 8,.mv (.t 7),none⟩,⟨some 9,.mv (.t 0),none⟩,⟨some 10,.len 0 (.t 9),none⟩,⟨some 11,.bin .leq (.t 8) (.t 10),none⟩] [0,1,5,6,7,11] [] [[],[],[9]])
 (.cond (.t 11)
 .skip
 (.exit 0)))
 (.seq
 (.block 1
 (.seq
 (.region [⟨some 14,.mv (.t 7),none⟩,⟨some 15,.mv (.t 0),none⟩,⟨some 16,.len 0 (.t 15),none⟩,⟨some 17,.bin .eql (.t 14) (.t 16),none⟩,⟨some 18,.mv (.t 17),none⟩,⟨some 19,.mv (.t 0),some (18,false)⟩,⟨some 20,.mv (.t 7),some (18,false)⟩,⟨some 21,.iStr (.t 19) (.t 20),some (18,false)⟩,⟨some 22,.mv (.t 1),some (18,false)⟩,⟨some 23,.bin .eql (.t 21) (.t 22),some (18,false)⟩,⟨some 24,.pick (.t 18) (.k (.bool true)) (.t 23),none⟩] [0,1,5,6,7,24] [] [[],[],[15],[14,16],[17],[],[],[19,20],[],[21,22]])
 (.cond (.t 24)
 (.seq
 (.region [⟨some 25,.mv (.t 5),none⟩,⟨some 26,.mv (.t 0),none⟩,⟨some 27,.mv (.t 6),none⟩,⟨some 28,.mv (.t 7),none⟩,⟨some 29,.slStr (.t 26) (some (.t 27)) (some (.t 28)),none⟩,⟨some 30,.mkSl 1 1 [(.str [])] [(0,(.t 29))],none⟩,⟨some 31,.app 1 16 (.t 25) (.t 30),none⟩,⟨some 5,.mv (.t 31),none⟩] [0,1,5,7] [30] [[],[],[6],[],[26,27,28],[29],[25,30]])
 (.region [⟨some 32,.mv (.t 7),none⟩,⟨some 33,.bin .add (.t 32) (.k (.int .i64 1)),none⟩,⟨some 6,.mv (.t 33),none⟩] [0,1,5,6,7] [] [[],[32]]))
 .skip)))
 (.region [⟨some 12,.mv (.t 7),none⟩,⟨some 13,.bin .add (.t 12) (.k (.int .i64 1)),none⟩,⟨some 7,.mv (.t 13),none⟩] [0,1,5,6,7] [] [[],[12]])))

def t_spec_MailSplit_2:SCode :=
 (.seq
 (.region [⟨some 34,.mv (.t 5),none⟩,⟨some 4,.mv (.t 34),none⟩] [4] [] [[5]])
 .ret)

def c_spec_MailSplit:SFn:=⟨2,
 (.seq
 (.region [⟨some 4,.mv (.k .nilS),none⟩] [0,1] [] [])
 (.seq
 (.region [⟨some 5,.mv (.k .nilS),none⟩] [0,1,5] [] [])
 (.seq
 (.region [⟨some 6,.mv (.k (.int .i64 0)),none⟩] [0,1,5,6] [] [])
 (.seq
 (.seq
 (.region [⟨some 7,.mv (.k (.int .i64 0)),none⟩] [0,1,5,6,7] [] [])
 (.block 0
 (.loop [0,1,5,6,7]
 b_spec_MailSplit_1)))
 t_spec_MailSplit_2)))),
 [.t 4]⟩

def l_spec_MailSplit:Lay:={ rg:=[(0,([0,1],[])),(1,([0,1,5],[])),(2,([0,1,5,6],[])),(3,([0,1,5,6,7],[])),(4,([0,1,5,6,7,11],[])),(5,([0,1,5,6,7],[])),(6,([0,1,5,6,7,24],[])),(7,([0,1,5,7],[30])),(8,([0,1,5,6,7],[])),(9,([4],[])),(1000004,([0,1,5,6,7],[]))],dd:=[(4,[[],[],[9]]),(5,[[],[12]]),(6,[[],[],[15],[14,16],[17],[],[],[19,20],[],[21,22]]),(7,[[],[],[6],[],[26,27,28],[29],[25,30]]),(8,[[],[32]]),(9,[[5]])] }

def b_spec_MailHalves_1:SCode :=
 (.seq
 (.seq
 (.region [⟨some 8,.mv (.t 7),none⟩,⟨some 9,.mv (.t 0),none⟩,⟨some 10,.len 0 (.t 9),none⟩,⟨some 11,.bin .lss (.t 8) (.t 10),none⟩] [0,1,7,11] [] [[],[],[9]])
 (.cond (.t 11)
 .skip
 (.exit 0)))
 (.seq
 (.block 1
 (.seq
 (.region [⟨some 14,.mv (.t 0),none⟩,⟨some 15,.mv (.t 7),none⟩,⟨some 16,.iStr (.t 14) (.t 15),none⟩,⟨some 17,.mv (.t 1),none⟩,⟨some 18,.bin .eql (.t 16) (.t 17),none⟩] [0,1,7,18] [] [[],[],[14,15]])
 (.cond (.t 18)
 (.seq
 (.region [⟨some 19,.mv (.t 0),none⟩,⟨some 20,.mv (.t 7),none⟩,⟨some 21,.slStr (.t 19) none (some (.t 20)),none⟩,⟨some 22,.mv (.t 0),none⟩,⟨some 23,.mv (.t 7),none⟩,⟨some 24,.bin .add (.t 23) (.k (.int .i64 1)),none⟩,⟨some 25,.slStr (.t 22) (some (.t 24)) none,none⟩,⟨some 4,.mv (.t 21),none⟩,⟨some 5,.mv (.t 25),none⟩,⟨some 6,.mv (.k (.bool true)),none⟩] [4,5,6] [] [])
 .ret)
 .skip)))
 (.region [⟨some 12,.mv (.t 7),none⟩,⟨some 13,.bin .add (.t 12) (.k (.int .i64 1)),none⟩,⟨some 7,.mv (.t 13),none⟩] [0,1,7] [] [[],[12]])))

def t_spec_MailHalves_2:SCode :=
 (.seq
 (.region [⟨some 26,.mv (.t 0),none⟩,⟨some 4,.mv (.t 26),none⟩,⟨some 5,.mv (.k (.str [])),none⟩,⟨some 6,.mv (.k (.bool false)),none⟩] [4,5,6] [] [[0],[26]])
 .ret)

def c_spec_MailHalves:SFn:=⟨2,
 (.seq
 (.region [⟨some 4,.mv (.k (.str [])),none⟩,⟨some 5,.mv (.k (.str [])),none⟩,⟨some 6,.mv (.k (.bool false)),none⟩] [0,1] [] [[4],[5]])
 (.seq
 (.seq
 (.region [⟨some 7,.mv (.k (.int .i64 0)),none⟩] [0,1,7] [] [])
 (.block 0
 (.loop [0,1,7]
 b_spec_MailHalves_1)))
 t_spec_MailHalves_2)),
 [.t 4,.t 5,.t 6]⟩

def l_spec_MailHalves:Lay:={ rg:=[(0,([0,1],[])),(1,([0,1,7],[])),(2,([0,1,7,11],[])),(3,([0,1,7],[])),(4,([0,1,7,18],[])),(5,([4,5,6],[])),(6,([4,5,6],[])),(1000002,([0,1,7],[]))],dd:=[(0,[[4],[5]]),(2,[[],[],[9]]),(3,[[],[12]]),(4,[[],[],[14,15]]),(6,[[0],[26]])] }

def b_spec_MailTexts_1:SCode :=
 (.seq
 (.region [⟨some 14,.bin .lss (.t 13) (.t 12),none⟩] [0,1,12,13,14] [] [])
 (.seq
 (.cond (.t 14)
 .skip
 (.exit 0))
 (.seq
 (.block 1
 (.seq
 (.region [⟨some 15,.mv (.t 13),none⟩,⟨some 5,.mv (.t 15),none⟩] [0,1,5,12,13] [] [])
 (.seq
 (.region [⟨some 16,.mv (.t 0),none⟩,⟨some 17,.mv (.t 5),none⟩,⟨some 18,.iAddr 1 (.t 16) (.t 17),none⟩,⟨some 19,.load none (.t 18),none⟩,⟨some 20,.mv (.t 1),none⟩,⟨some 21,.mv (.t 5),none⟩,⟨some 22,.iAddr 1 (.t 20) (.t 21),none⟩,⟨some 23,.load none (.t 22),none⟩,⟨some 24,.bin .neq (.t 19) (.t 23),none⟩] [0,1,12,13,24] [] [])
 (.cond (.t 24)
 (.seq
 (.region [⟨some 4,.mv (.k (.bool false)),none⟩] [4] [] [])
 .ret)
 .skip))))
 (.region [⟨some 25,.bin .add (.t 13) (.k (.int .i64 1)),none⟩,⟨some 13,.mv (.t 25),none⟩] [0,1,12,13] [] []))))

def t_spec_MailTexts_2:SCode :=
 (.seq
 (.region [⟨some 4,.mv (.k (.bool true)),none⟩] [4] [] [])
 .ret)

def c_spec_MailTexts:SFn:=⟨2,
 (.seq
 (.region [⟨some 4,.mv (.k (.bool false)),none⟩] [0,1] [] [])
 (.seq
 (.seq
 (.region [⟨some 6,.mv (.t 0),none⟩,⟨some 7,.len 1 (.t 6),none⟩,⟨some 8,.mv (.t 1),none⟩,⟨some 9,.len 1 (.t 8),none⟩,⟨some 10,.bin .neq (.t 7) (.t 9),none⟩] [0,1,10] [] [[],[6],[],[8]])
 (.cond (.t 10)
 (.seq
 (.region [⟨some 4,.mv (.k (.bool false)),none⟩] [4] [] [])
 .ret)
 .skip))
 (.seq
 (.seq
 (.region [⟨some 11,.mv (.t 0),none⟩,⟨some 12,.len 1 (.t 11),none⟩,⟨some 13,.mv (.k (.int .i64 0)),none⟩] [0,1,12,13] [] [[],[11]])
 (.block 0
 (.loop [0,1,12,13]
 b_spec_MailTexts_1)))
 t_spec_MailTexts_2))),
 [.t 4]⟩

def l_spec_MailTexts:Lay:={ rg:=[(0,([0,1],[])),(1,([0,1,10],[])),(2,([4],[])),(3,([0,1,12,13],[])),(4,([0,1,12,13,14],[])),(5,([0,1,5,12,13],[])),(6,([0,1,12,13,24],[])),(7,([4],[])),(8,([0,1,12,13],[])),(9,([4],[])),(1000004,([0,1,12,13],[]))],dd:=[(1,[[],[6],[],[8]]),(3,[[],[11]])] }

def b_spec_mlist_1:SCode :=
 (.seq
 (.region [⟨some 17,.bin .lss (.t 16) (.t 15),none⟩] [2,8,14,15,16,17] [] [])
 (.seq
 (.cond (.t 17)
 .skip
 (.exit 0))
 (.seq
 (.block 1
 (.seq
 (.region [⟨some 18,.iAddr 1 (.t 14) (.t 16),none⟩,⟨some 19,.load none (.t 18),none⟩,⟨some 10,.mv (.t 19),none⟩] [2,8,10,14,15,16] [] [[],[18]])
 (.seq
 (.region [⟨some 20,.mv (.t 2),none⟩,⟨some 21,.mv (.t 10),none⟩,⟨some 22,.callV (.t 20) [(.t 21)],none⟩,⟨some 23,.un .not (.t 22),none⟩] [2,8,14,15,16,23] [] [[],[10],[20,21]])
 (.cond (.t 23)
 (.seq
 (.region [⟨some 6,.mv (.k .nilS),none⟩,⟨some 7,.mv (.k (.bool false)),none⟩] [6,7] [] [])
 .ret)
 .skip))))
 (.region [⟨some 24,.bin .add (.t 16) (.k (.int .i64 1)),none⟩,⟨some 16,.mv (.t 24),none⟩] [2,8,14,15,16] [] []))))

def t_spec_mlist_2:SCode :=
 (.seq
 (.region [⟨some 25,.mv (.t 8),none⟩,⟨some 6,.mv (.t 25),none⟩,⟨some 7,.mv (.k (.bool true)),none⟩] [6,7] [] [[8],[25]])
 .ret)

def c_spec_mlist:SFn:=⟨3,
 (.seq
 (.region [⟨some 6,.mv (.k .nilS),none⟩,⟨some 7,.mv (.k (.bool false)),none⟩] [0,1,2] [] [[6]])
 (.seq
 (.region [⟨some 11,.mv (.t 0),none⟩,⟨some 12,.mv (.t 1),none⟩,⟨some 13,.call 101 [(.t 11),(.t 12)],none⟩,⟨some 8,.mv (.t 13),none⟩] [2,8] [] [[0],[1],[11,12]])
 (.seq
 (.seq
 (.region [⟨some 14,.mv (.t 8),none⟩,⟨some 15,.len 1 (.t 14),none⟩,⟨some 16,.mv (.k (.int .i64 0)),none⟩] [2,8,14,15,16] [] [])
 (.block 0
 (.loop [2,8,14,15,16]
 b_spec_mlist_1)))
 t_spec_mlist_2))),
 [.t 6,.t 7]⟩

def l_spec_mlist:Lay:={ rg:=[(0,([0,1,2],[])),(1,([2,8],[])),(2,([2,8,14,15,16],[])),(3,([2,8,14,15,16,17],[])),(4,([2,8,10,14,15,16],[])),(5,([2,8,14,15,16,23],[])),(6,([6,7],[])),(7,([2,8,14,15,16],[])),(8,([6,7],[])),(1000003,([2,8,14,15,16],[]))],dd:=[(0,[[6]]),(1,[[0],[1],[11,12]]),(4,[[],[18]]),(5,[[],[10],[20,21]]),(8,[[8],[25]])] }

def c_spec_MPut_1:SFn:=⟨1,
 (.seq
 (.region [⟨some 2,.mv (.k (.bool false)),none⟩] [0] [] [])
 (.seq
 (.region [⟨some 3,.mv (.t 0),none⟩,⟨some 4,.len 0 (.t 3),none⟩,⟨some 5,.bin .eql (.t 4) (.k (.int .i64 1)),none⟩,⟨some 6,.mv (.t 5),none⟩,⟨some 7,.mv (.t 0),some (6,true)⟩,⟨some 8,.iStr (.t 7) (.k (.int .i64 0)),some (6,true)⟩,⟨some 9,.call 100 [(.t 8),(.k (.str [48,49,100,115]))],some (6,true)⟩,⟨some 10,.pick (.t 6) (.t 9) (.k (.bool false)),none⟩,⟨some 2,.mv (.t 10),none⟩] [2] [] [[],[3],[4],[5],[0],[7],[8],[6,9]])
 .ret)),
 [.t 2]⟩

def l_spec_MPut_1:Lay:={ rg:=[(0,([0],[])),(1,([2],[]))],dd:=[(1,[[],[3],[4],[5],[0],[7],[8],[6,9]])] }

def c_spec_MPut_2:SFn:=⟨1,
 (.seq
 (.region [⟨some 2,.mv (.k (.bool false)),none⟩] [0] [] [])
 (.seq
 (.region [⟨some 3,.mv (.t 0),none⟩,⟨some 4,.bin .eql (.t 3) (.k (.str [97,102,114,102])),none⟩,⟨some 2,.mv (.t 4),none⟩] [2] [] [[0],[3]])
 .ret)),
 [.t 2]⟩

def l_spec_MPut_2:Lay:={ rg:=[(0,([0],[])),(1,([2],[]))],dd:=[(1,[[0],[3]])] }

def b_spec_mnumber_1:SCode :=
 (.seq
 (.seq
 (.region [⟨some 8,.mv (.t 7),none⟩,⟨some 9,.mv (.t 0),none⟩,⟨some 10,.len 0 (.t 9),none⟩,⟨some 11,.bin .lss (.t 8) (.t 10),none⟩] [0,1,6,7,11] [] [[],[],[9]])
 (.cond (.t 11)
 .skip
 (.exit 0)))
 (.seq
 (.block 1
 (.seq
 (.seq
 (.region [⟨some 14,.mv (.t 0),none⟩,⟨some 15,.mv (.t 7),none⟩,⟨some 16,.iStr (.t 14) (.t 15),none⟩,⟨some 17,.bin .lss (.t 16) (.k (.int .u8 48)),none⟩,⟨some 18,.mv (.t 17),none⟩,⟨some 19,.mv (.t 0),some (18,false)⟩,⟨some 20,.mv (.t 7),some (18,false)⟩,⟨some 21,.iStr (.t 19) (.t 20),some (18,false)⟩,⟨some 22,.bin .gtr (.t 21) (.k (.int .u8 57)),some (18,false)⟩,⟨some 23,.pick (.t 18) (.k (.bool true)) (.t 22),none⟩] [0,1,6,7,23] [] [[],[],[14,15],[16],[17],[],[],[19,20],[21]])
 (.cond (.t 23)
 (.seq
 (.region [⟨some 4,.mv (.k (.int .i64 0)),none⟩,⟨some 5,.mv (.k (.bool false)),none⟩] [4,5] [] [])
 .ret)
 .skip))
 (.region [⟨some 24,.mv (.t 6),none⟩,⟨some 25,.bin .mul (.k (.int .i64 10)) (.t 24),none⟩,⟨some 26,.mv (.t 0),none⟩,⟨some 27,.mv (.t 7),none⟩,⟨some 28,.iStr (.t 26) (.t 27),none⟩,⟨some 29,.bin .sub (.t 28) (.k (.int .u8 48)),none⟩,⟨some 30,.cInt .i64 (.t 29),none⟩,⟨some 31,.bin .add (.t 25) (.t 30),none⟩,⟨some 6,.mv (.t 31),none⟩] [0,1,6,7] [] [[],[24],[],[],[26,27],[28],[29],[25,30]])))
 (.region [⟨some 12,.mv (.t 7),none⟩,⟨some 13,.bin .add (.t 12) (.k (.int .i64 1)),none⟩,⟨some 7,.mv (.t 13),none⟩] [0,1,6,7] [] [[],[12]])))

def t_spec_mnumber_2:SCode :=
 (.seq
 (.region [⟨some 32,.mv (.t 6),none⟩,⟨some 33,.mv (.t 0),none⟩,⟨some 34,.bin .neq (.t 33) (.k (.str [])),none⟩,⟨some 35,.mv (.t 34),none⟩,⟨some 36,.mv (.t 0),some (35,true)⟩,⟨some 37,.len 0 (.t 36),some (35,true)⟩,⟨some 38,.mv (.t 1),some (35,true)⟩,⟨some 39,.bin .leq (.t 37) (.t 38),some (35,true)⟩,⟨some 40,.pick (.t 35) (.t 39) (.k (.bool false)),none⟩,⟨some 4,.mv (.t 32),none⟩,⟨some 5,.mv (.t 40),none⟩] [4,5] [] [[6],[],[33],[34],[0],[36],[1],[37,38],[35,39],[32]])
 .ret)

def c_spec_mnumber:SFn:=⟨2,
 (.seq
 (.region [⟨some 4,.mv (.k (.int .i64 0)),none⟩,⟨some 5,.mv (.k (.bool false)),none⟩] [0,1] [] [[4]])
 (.seq
 (.region [⟨some 6,.mv (.k (.int .i64 0)),none⟩] [0,1,6] [] [])
 (.seq
 (.seq
 (.region [⟨some 7,.mv (.k (.int .i64 0)),none⟩] [0,1,6,7] [] [])
 (.block 0
 (.loop [0,1,6,7]
 b_spec_mnumber_1)))
 t_spec_mnumber_2))),
 [.t 4,.t 5]⟩

def l_spec_mnumber:Lay:={ rg:=[(0,([0,1],[])),(1,([0,1,6],[])),(2,([0,1,6,7],[])),(3,([0,1,6,7,11],[])),(4,([0,1,6,7],[])),(5,([0,1,6,7,23],[])),(6,([4,5],[])),(7,([0,1,6,7],[])),(8,([4,5],[])),(1000003,([0,1,6,7],[]))],dd:=[(0,[[4]]),(3,[[],[],[9]]),(4,[[],[12]]),(5,[[],[],[14,15],[16],[17],[],[],[19,20],[21]]),(7,[[],[24],[],[],[26,27],[28],[29],[25,30]]),(8,[[6],[],[33],[34],[0],[36],[1],[37,38],[35,39],[32]])] }

def c_spec_mpolicy:SFn:=⟨1,
 (.seq
 (.region [⟨some 2,.mv (.k (.bool false)),none⟩] [0] [] [])
 (.seq
 (.region [⟨some 3,.mv (.t 0),none⟩,⟨some 4,.bin .eql (.t 3) (.k (.str [110,111,110,101])),none⟩,⟨some 5,.mv (.t 4),none⟩,⟨some 6,.mv (.t 0),some (5,false)⟩,⟨some 7,.bin .eql (.t 6) (.k (.str [113,117,97,114,97,110,116,105,110,101])),some (5,false)⟩,⟨some 8,.pick (.t 5) (.k (.bool true)) (.t 7),none⟩,⟨some 9,.mv (.t 8),none⟩,⟨some 10,.mv (.t 0),some (9,false)⟩,⟨some 11,.bin .eql (.t 10) (.k (.str [114,101,106,101,99,116])),some (9,false)⟩,⟨some 12,.pick (.t 9) (.k (.bool true)) (.t 11),none⟩,⟨some 2,.mv (.t 12),none⟩] [2] [] [[],[3],[4],[],[6],[5,7],[8],[0],[10],[9,11]])
 .ret)),
 [.t 2]⟩

def l_spec_mpolicy:Lay:={ rg:=[(0,([0],[])),(1,([2],[]))],dd:=[(1,[[],[3],[4],[],[6],[5,7],[8],[0],[10],[9,11]])] }

def f_spec_muri_1:SCode :=
 (.seq
 (.region [⟨some 42,.mv (.t 4),none⟩,⟨some 43,.call 103 [(.t 42),(.k (.int .i64 9))],none⟩,⟨some 41,.mv (.t 43),none⟩,⟨some 44,.extr (.t 41) 0,none⟩,⟨some 45,.extr (.t 41) 1,none⟩,⟨some 6,.mv (.t 44),none⟩,⟨some 7,.mv (.t 45),none⟩] [3,7] [] [[4],[42],[43],[],[41],[6,44]])
 (.seq
 (.region [⟨some 46,.mv (.t 7),none⟩,⟨some 47,.un .not (.t 46),none⟩] [3,47] [] [[7]])
 (.cond (.t 47)
 (.seq
 (.region [⟨some 2,.mv (.k (.bool false)),none⟩] [2] [] [])
 .ret)
 .skip)))

def f_spec_muri_2:SCode :=
 (.seq
 (.region [⟨some 49,.mv (.t 3),none⟩,⟨some 50,.call 102 [(.t 49),(.k (.int .u8 64))],none⟩,⟨some 48,.mv (.t 50),none⟩,⟨some 51,.extr (.t 48) 0,none⟩,⟨some 52,.extr (.t 48) 1,none⟩,⟨some 53,.extr (.t 48) 2,none⟩,⟨some 8,.mv (.t 51),none⟩,⟨some 9,.mv (.t 52),none⟩,⟨some 5,.mv (.t 53),none⟩] [5,8,9] [] [[3],[49],[50],[],[],[48],[51],[52]])
 (.seq
 (.region [⟨some 54,.mv (.t 5),none⟩,⟨some 55,.mv (.t 54),none⟩,⟨some 56,.mv (.t 8),some (55,true)⟩,⟨some 57,.call 104 [(.t 56)],some (55,true)⟩,⟨some 58,.pick (.t 55) (.t 57) (.k (.bool false)),none⟩,⟨some 59,.mv (.t 58),none⟩,⟨some 60,.mv (.t 9),some (59,true)⟩,⟨some 61,.call 105 [(.t 60)],some (59,true)⟩,⟨some 62,.pick (.t 59) (.t 61) (.k (.bool false)),none⟩,⟨some 2,.mv (.t 62),none⟩] [2] [] [[5],[54],[8],[56],[55,57],[58],[9],[60],[59,61]])
 .ret))

def f_spec_muri_3:SCode :=
 (.seq
 (.seq
 (.region [⟨some 25,.mv (.t 5),none⟩] [3,4,25] [] [])
 (.cond (.t 25)
 (.seq
 (.seq
 (.region [⟨some 26,.mv (.t 4),none⟩,⟨some 27,.bin .neq (.t 26) (.k (.str [])),none⟩,⟨some 28,.mv (.t 27),none⟩,⟨some 29,.mv (.t 4),some (28,true)⟩,⟨some 30,.mv (.t 4),some (28,true)⟩,⟨some 31,.len 0 (.t 30),some (28,true)⟩,⟨some 32,.bin .sub (.t 31) (.k (.int .i64 1)),some (28,true)⟩,⟨some 33,.iStr (.t 29) (.t 32),some (28,true)⟩,⟨some 34,.call 100 [(.t 33),(.k (.str [107,109,103,116]))],some (28,true)⟩,⟨some 35,.pick (.t 28) (.t 34) (.k (.bool false)),none⟩] [3,4,35] [] [[],[26],[27],[],[],[30],[31],[29,32],[33]])
 (.cond (.t 35)
 (.region [⟨some 36,.mv (.t 4),none⟩,⟨some 37,.mv (.t 4),none⟩,⟨some 38,.len 0 (.t 37),none⟩,⟨some 39,.bin .sub (.t 38) (.k (.int .i64 1)),none⟩,⟨some 40,.slStr (.t 36) none (some (.t 39)),none⟩,⟨some 4,.mv (.t 40),none⟩] [3,4] [] [[],[],[37],[38],[36,39]])
 .skip))
 f_spec_muri_1)
 .skip))
 f_spec_muri_2)

def c_spec_muri:SFn:=⟨1,
 (.seq
 (.region [⟨some 2,.mv (.k (.bool false)),none⟩] [0] [] [])
 (.seq
 (.seq
 (.region [⟨some 10,.mv (.t 0),none⟩,⟨some 11,.len 0 (.t 10),none⟩,⟨some 12,.bin .lss (.t 11) (.k (.int .i64 8)),none⟩,⟨some 13,.mv (.t 12),none⟩,⟨some 14,.mv (.t 0),some (13,false)⟩,⟨some 15,.slStr (.t 14) none (some (.k (.int .i64 7))),some (13,false)⟩,⟨some 16,.bin .neq (.t 15) (.k (.str [109,97,105,108,116,111,58])),some (13,false)⟩,⟨some 17,.pick (.t 13) (.k (.bool true)) (.t 16),none⟩] [0,17] [] [[],[10],[11],[12],[],[14],[15]])
 (.cond (.t 17)
 (.seq
 (.region [⟨some 2,.mv (.k (.bool false)),none⟩] [2] [] [])
 .ret)
 .skip))
 (.seq
 (.region [⟨some 19,.mv (.t 0),none⟩,⟨some 20,.slStr (.t 19) (some (.k (.int .i64 7))) none,none⟩,⟨some 21,.call 102 [(.t 20),(.k (.int .u8 33))],none⟩,⟨some 18,.mv (.t 21),none⟩,⟨some 22,.extr (.t 18) 0,none⟩,⟨some 23,.extr (.t 18) 1,none⟩,⟨some 24,.extr (.t 18) 2,none⟩,⟨some 3,.mv (.t 22),none⟩,⟨some 4,.mv (.t 23),none⟩,⟨some 5,.mv (.t 24),none⟩] [3,4,5] [] [[0],[19],[20],[21],[],[],[18],[22],[23]])
 f_spec_muri_3))),
 [.t 2]⟩

def l_spec_muri:Lay:={ rg:=[(0,([0],[])),(1,([0,17],[])),(2,([2],[])),(3,([3,4,5],[])),(4,([3,4,25],[])),(5,([3,4,35],[])),(6,([3,4],[])),(7,([3,7],[])),(8,([3,47],[])),(9,([2],[])),(10,([5,8,9],[])),(11,([2],[]))],dd:=[(1,[[],[10],[11],[12],[],[14],[15]]),(3,[[0],[19],[20],[21],[],[],[18],[22],[23]]),(5,[[],[26],[27],[],[],[30],[31],[29,32],[33]]),(6,[[],[],[37],[38],[36,39]]),(7,[[4],[42],[43],[],[41],[6,44]]),(8,[[7]]),(10,[[3],[49],[50],[],[],[48],[51],[52]]),(11,[[5],[54],[8],[56],[55,57],[58],[9],[60],[59,61]])] }

def b_spec_MPut_1:SCode :=
 (.seq
 (.region [⟨some 89,.bin .lss (.t 88) (.t 87),none⟩] [0,7,9,79,80,81,86,87,88,89] [] [])
 (.seq
 (.cond (.t 89)
 .skip
 (.exit 3))
 (.seq
 (.block 4
 (.seq
 (.region [⟨some 90,.mv (.t 88),none⟩,⟨some 91,.iAddr 1 (.t 86) (.t 88),none⟩,⟨some 92,.load none (.t 91),none⟩,⟨some 10,.mv (.t 90),none⟩,⟨some 11,.mv (.t 92),none⟩] [0,7,9,10,11,79,80,81,86,87,88] [] [[],[],[91],[90]])
 (.seq
 (.region [⟨some 93,.mv (.t 9),none⟩,⟨some 94,.iStr (.t 93) (.k (.int .i64 0)),none⟩,⟨some 95,.mv (.t 11),none⟩,⟨some 96,.bin .eql (.t 94) (.t 95),none⟩] [0,7,9,10,79,80,81,86,87,88,96] [] [[],[93],[11]])
 (.cond (.t 96)
 (.region [⟨some 97,.mv (.t 0),none⟩,⟨some 98,.chk (.t 97),none⟩,⟨some 99,.fAddr 2 (.t 98),none⟩,⟨some 100,.load none (.t 99),none⟩,⟨some 101,.mv (.t 10),none⟩,⟨some 102,.bin .shl (.k (.int .i64 1)) (.t 101),none⟩,⟨some 103,.bin .or (.t 100) (.t 102),none⟩,⟨some 104,.chk (.t 97),none⟩,⟨some 105,.fAddr 2 (.t 104),none⟩,
 ⟨none,.store 1 (.t 105) (.t 103),none⟩] [0,7,9,79,80,81,86,87,88] [] [])
 .skip))))
 (.region [⟨some 106,.bin .add (.t 88) (.k (.int .i64 1)),none⟩,⟨some 88,.mv (.t 106),none⟩] [0,7,9,79,80,81,86,87,88] [] []))))

def t_spec_MPut_2:SCode :=
 (.region [⟨some 107,.bin .add (.t 81) (.k (.int .i64 1)),none⟩,⟨some 81,.mv (.t 107),none⟩] [0,7,79,80,81] [85] [])

def b_spec_MPut_3:SCode :=
 (.seq
 (.region [⟨some 82,.bin .lss (.t 81) (.t 80),none⟩] [0,7,79,80,81,82] [] [])
 (.seq
 (.cond (.t 82)
 .skip
 (.exit 1))
 (.seq
 (.block 2
 (.seq
 (.region [⟨some 83,.iAddr 1 (.t 79) (.t 81),none⟩,⟨some 84,.load none (.t 83),none⟩,⟨some 9,.mv (.t 84),none⟩] [0,7,9,79,80,81] [] [[],[83]])
 (.seq
 (.region [⟨some 85,.mkSl 1 4 [(.int .u8 0)] [(0,(.k (.int .u8 48))),(1,(.k (.int .u8 49))),(2,(.k (.int .u8 100))),(3,(.k (.int .u8 115)))],none⟩,⟨some 86,.cSl (.t 85),none⟩,⟨some 87,.len 1 (.t 86),none⟩,⟨some 88,.mv (.k (.int .i64 0)),none⟩] [0,7,9,79,80,81,86,87,88] [] [[],[85]])
 (.block 3
 (.loop [0,7,9,79,80,81,86,87,88]
 b_spec_MPut_1)))))
 t_spec_MPut_2)))

def t_spec_MPut_4:SCode :=
 (.seq
 (.region [⟨some 108,.mv (.t 7),none⟩,⟨some 4,.mv (.t 108),none⟩] [4] [] [[7]])
 .ret)

def t_spec_MPut_5:SCode :=
 (.seq
 (.region [⟨some 4,.mv (.k (.bool true)),none⟩] [4] [] [])
 .ret)

def c_spec_MPut:SFn:=⟨2,
 (.seq
 (.seq
 (.region [⟨some 3,.box (.t 1),none⟩,⟨some 4,.mv (.k (.bool false)),none⟩] [0,3] [] [[1]])
 (.ghost [.frz 3]))
 (.seq
 (.region [⟨some 22,.fAddr 1 (.t 3),none⟩,⟨some 23,.load none (.t 22),none⟩,⟨some 24,.bin .eql (.t 23) (.k (.str [114])),none⟩,⟨some 25,.mv (.t 24),none⟩,⟨some 26,.fAddr 1 (.t 3),some (25,false)⟩,⟨some 27,.load none (.t 26),some (25,false)⟩,⟨some 28,.bin .eql (.t 27) (.k (.str [115])),some (25,false)⟩,⟨some 29,.pick (.t 25) (.k (.bool true)) (.t 28),none⟩,⟨some 5,.mv (.t 29),none⟩] [0,3,5] [] [[],[22],[23],[24],[],[26],[27],[25,28]])
 (.seq
 (.seq
 (.region [⟨some 30,.fAddr 0 (.t 3),none⟩,⟨some 31,.load none (.t 30),none⟩] [0,3,5,31] [] [])
 (.block 0
 (.seq
 (.region [⟨some 33,.bin .eql (.t 31) (.k (.str [97,100,107,105,109])),none⟩,⟨some 32,.mv (.t 33),none⟩] [0,3,5,31,32] [] [])
 (.cond (.t 32)
 (.seq
 (.region [⟨some 34,.mv (.t 0),none⟩,⟨some 35,.fAddr 1 (.t 3),none⟩,⟨some 36,.load none (.t 35),none⟩,⟨some 37,.chk (.t 34),none⟩,⟨some 38,.fAddr 0 (.t 37),none⟩,
 ⟨none,.store 1 (.t 38) (.t 36),none⟩] [5] [] [[0],[3],[35],[34],[37]])
 (.seq
 (.region [⟨some 39,.mv (.t 5),none⟩,⟨some 4,.mv (.t 39),none⟩] [4] [] [[5]])
 .ret))
 (.seq
 (.region [⟨some 41,.bin .eql (.t 31) (.k (.str [97,115,112,102])),none⟩,⟨some 40,.mv (.t 41),none⟩] [0,3,5,31,40] [] [])
 (.cond (.t 40)
 (.seq
 (.region [⟨some 42,.mv (.t 0),none⟩,⟨some 43,.fAddr 1 (.t 3),none⟩,⟨some 44,.load none (.t 43),none⟩,⟨some 45,.chk (.t 42),none⟩,⟨some 46,.fAddr 1 (.t 45),none⟩,
 ⟨none,.store 1 (.t 46) (.t 44),none⟩] [5] [] [[0],[3],[43],[42],[45]])
 (.seq
 (.region [⟨some 47,.mv (.t 5),none⟩,⟨some 4,.mv (.t 47),none⟩] [4] [] [[5]])
 .ret))
 (.seq
 (.region [⟨some 49,.bin .eql (.t 31) (.k (.str [112])),none⟩,⟨some 48,.mv (.t 49),none⟩] [0,3,31,48] [] [])
 (.cond (.t 48)
 (.seq
 (.region [⟨some 50,.mv (.t 0),none⟩,⟨some 51,.fAddr 1 (.t 3),none⟩,⟨some 52,.load none (.t 51),none⟩,⟨some 53,.chk (.t 50),none⟩,⟨some 54,.fAddr 3 (.t 53),none⟩,
 ⟨none,.store 1 (.t 54) (.t 52),none⟩] [3] [] [[0],[],[51],[50],[53]])
 (.seq
 (.region [⟨some 55,.fAddr 1 (.t 3),none⟩,⟨some 56,.load none (.t 55),none⟩,⟨some 57,.call 106 [(.t 56)],none⟩,⟨some 4,.mv (.t 57),none⟩] [4] [] [[3],[55],[56]])
 .ret))
 (.seq
 (.region [⟨some 59,.bin .eql (.t 31) (.k (.str [115,112])),none⟩,⟨some 58,.mv (.t 59),none⟩] [0,3,31,58] [] [])
 (.cond (.t 58)
 (.seq
 (.region [⟨some 60,.mv (.t 0),none⟩,⟨some 61,.fAddr 1 (.t 3),none⟩,⟨some 62,.load none (.t 61),none⟩,⟨some 63,.chk (.t 60),none⟩,⟨some 64,.fAddr 10 (.t 63),none⟩,
 ⟨none,.store 1 (.t 64) (.t 62),none⟩] [3] [] [[0],[],[61],[60],[63]])
 (.seq
 (.region [⟨some 65,.fAddr 1 (.t 3),none⟩,⟨some 66,.load none (.t 65),none⟩,⟨some 67,.call 106 [(.t 66)],none⟩,⟨some 4,.mv (.t 67),none⟩] [4] [] [[3],[65],[66]])
 .ret))
 (.seq
 (.region [⟨some 69,.bin .eql (.t 31) (.k (.str [102,111])),none⟩,⟨some 68,.mv (.t 69),none⟩] [0,3,31,68] [] [])
 (.cond (.t 68)
 (.seq
 (.region [⟨some 71,.fAddr 1 (.t 3),none⟩,⟨some 72,.load none (.t 71),none⟩,⟨some 73,.call 107 [(.t 72),(.k (.int .u8 58)),(.k (.fn 108 []))],none⟩,⟨some 70,.mv (.t 73),none⟩,⟨some 74,.extr (.t 70) 0,none⟩,⟨some 75,.extr (.t 70) 1,none⟩,⟨some 6,.mv (.t 74),none⟩,⟨some 7,.mv (.t 75),none⟩] [0,6,7] [] [[3],[71],[72],[73],[],[70],[74]])
 (.seq
 (.region [⟨some 76,.mv (.t 0),none⟩,⟨some 77,.chk (.t 76),none⟩,⟨some 78,.fAddr 2 (.t 77),none⟩,
 ⟨none,.store 1 (.t 78) (.k (.int .i64 0)),none⟩] [0,6,7] [] [[],[76],[77]])
 (.seq
 (.seq
 (.region [⟨some 79,.mv (.t 6),none⟩,⟨some 80,.len 1 (.t 79),none⟩,⟨some 81,.mv (.k (.int .i64 0)),none⟩] [0,7,79,80,81] [] [[6]])
 (.block 1
 (.loop [0,7,79,80,81]
 b_spec_MPut_3)))
 t_spec_MPut_4)))
 (.seq
 (.region [⟨some 110,.bin .eql (.t 31) (.k (.str [112,99,116])),none⟩,⟨some 109,.mv (.t 110),none⟩] [0,3,31,109] [] [])
 (.cond (.t 109)
 (.seq
 (.region [⟨some 112,.fAddr 1 (.t 3),none⟩,⟨some 113,.load none (.t 112),none⟩,⟨some 114,.call 103 [(.t 113),(.k (.int .i64 3))],none⟩,⟨some 111,.mv (.t 114),none⟩,⟨some 115,.extr (.t 111) 0,none⟩,⟨some 116,.extr (.t 111) 1,none⟩,⟨some 12,.mv (.t 115),none⟩,⟨some 13,.mv (.t 116),none⟩] [0,12,13] [] [[3],[112],[113],[114],[],[111],[115]])
 (.seq
 (.region [⟨some 117,.mv (.t 0),none⟩,⟨some 118,.mv (.t 0),none⟩,⟨some 119,.mv (.t 12),none⟩,⟨some 120,.chk (.t 117),none⟩,⟨some 121,.fAddr 4 (.t 120),none⟩,
 ⟨none,.store 1 (.t 121) (.t 119),none⟩,⟨some 122,.chk (.t 118),none⟩,⟨some 123,.fAddr 5 (.t 122),none⟩,
 ⟨none,.store 1 (.t 123) (.k (.bool true)),none⟩] [12,13] [] [[],[0],[],[117],[120],[119,121],[118],[122]])
 (.seq
 (.region [⟨some 124,.mv (.t 13),none⟩,⟨some 125,.mv (.t 124),none⟩,⟨some 126,.mv (.t 12),some (125,true)⟩,⟨some 127,.bin .leq (.t 126) (.k (.int .i64 100)),some (125,true)⟩,⟨some 128,.pick (.t 125) (.t 127) (.k (.bool false)),none⟩,⟨some 4,.mv (.t 128),none⟩] [4] [] [[13],[124],[12],[126],[125,127]])
 .ret)))
 (.seq
 (.region [⟨some 130,.bin .eql (.t 31) (.k (.str [114,102])),none⟩,⟨some 129,.mv (.t 130),none⟩] [0,3,31,129] [] [])
 (.cond (.t 129)
 (.seq
 (.region [⟨some 132,.fAddr 1 (.t 3),none⟩,⟨some 133,.load none (.t 132),none⟩,⟨some 134,.call 107 [(.t 133),(.k (.int .u8 58)),(.k (.fn 109 []))],none⟩,⟨some 131,.mv (.t 134),none⟩,⟨some 135,.extr (.t 131) 0,none⟩,⟨some 136,.extr (.t 131) 1,none⟩,⟨some 14,.mv (.t 135),none⟩,⟨some 15,.mv (.t 136),none⟩] [0,14,15] [] [[3],[132],[133],[134],[],[131],[135]])
 (.seq
 (.region [⟨some 137,.mv (.t 0),none⟩,⟨some 138,.mv (.t 14),none⟩,⟨some 139,.chk (.t 137),none⟩,⟨some 140,.fAddr 6 (.t 139),none⟩,
 ⟨none,.store 1 (.t 140) (.t 138),none⟩] [15] [] [[0],[14],[137],[139]])
 (.seq
 (.region [⟨some 141,.mv (.t 15),none⟩,⟨some 4,.mv (.t 141),none⟩] [4] [] [[15]])
 .ret)))
 (.seq
 (.region [⟨some 143,.bin .eql (.t 31) (.k (.str [114,105])),none⟩,⟨some 142,.mv (.t 143),none⟩] [0,3,31,142] [] [])
 (.cond (.t 142)
 (.seq
 (.region [⟨some 145,.fAddr 1 (.t 3),none⟩,⟨some 146,.load none (.t 145),none⟩,⟨some 147,.call 103 [(.t 146),(.k (.int .i64 10))],none⟩,⟨some 144,.mv (.t 147),none⟩,⟨some 148,.extr (.t 144) 0,none⟩,⟨some 149,.extr (.t 144) 1,none⟩,⟨some 16,.mv (.t 148),none⟩,⟨some 17,.mv (.t 149),none⟩] [0,16,17] [] [[3],[145],[146],[147],[],[144],[148]])
 (.seq
 (.region [⟨some 150,.mv (.t 0),none⟩,⟨some 151,.mv (.t 16),none⟩,⟨some 152,.bin .mul (.t 151) (.k (.int .i64 1000000000)),none⟩,⟨some 153,.chk (.t 150),none⟩,⟨some 154,.fAddr 7 (.t 153),none⟩,
 ⟨none,.store 1 (.t 154) (.t 152),none⟩] [16,17] [] [[0],[],[151],[150],[153]])
 (.seq
 (.region [⟨some 155,.mv (.t 17),none⟩,⟨some 156,.mv (.t 155),none⟩,⟨some 157,.mv (.t 16),some (156,true)⟩,⟨some 158,.bin .gtr (.t 157) (.k (.int .i64 0)),some (156,true)⟩,⟨some 159,.pick (.t 156) (.t 158) (.k (.bool false)),none⟩,⟨some 160,.mv (.t 159),none⟩,⟨some 161,.mv (.t 16),some (160,true)⟩,⟨some 162,.bin .lss (.t 161) (.k (.int .i64 4294967296)),some (160,true)⟩,⟨some 163,.pick (.t 160) (.t 162) (.k (.bool false)),none⟩,⟨some 4,.mv (.t 163),none⟩] [4] [] [[17],[155],[],[157],[156,158],[159],[16],[161],[160,162]])
 .ret)))
 (.seq
 (.region [⟨some 165,.bin .eql (.t 31) (.k (.str [114,117,97])),none⟩,⟨some 164,.mv (.t 165),none⟩] [0,3,31,164] [] [])
 (.cond (.t 164)
 (.seq
 (.region [⟨some 167,.fAddr 1 (.t 3),none⟩,⟨some 168,.load none (.t 167),none⟩,⟨some 169,.call 107 [(.t 168),(.k (.int .u8 44)),(.k (.fn 110 []))],none⟩,⟨some 166,.mv (.t 169),none⟩,⟨some 170,.extr (.t 166) 0,none⟩,⟨some 171,.extr (.t 166) 1,none⟩,⟨some 18,.mv (.t 170),none⟩,⟨some 19,.mv (.t 171),none⟩] [0,18,19] [] [[3],[167],[168],[169],[],[166],[170]])
 (.seq
 (.region [⟨some 172,.mv (.t 0),none⟩,⟨some 173,.mv (.t 18),none⟩,⟨some 174,.chk (.t 172),none⟩,⟨some 175,.fAddr 8 (.t 174),none⟩,
 ⟨none,.store 1 (.t 175) (.t 173),none⟩] [19] [] [[0],[18],[172],[174]])
 (.seq
 (.region [⟨some 176,.mv (.t 19),none⟩,⟨some 4,.mv (.t 176),none⟩] [4] [] [[19]])
 .ret)))
 (.seq
 (.region [⟨some 178,.bin .eql (.t 31) (.k (.str [114,117,102])),none⟩,⟨some 177,.mv (.t 178),none⟩] [0,3,177] [] [[31]])
 (.cond (.t 177)
 (.seq
 (.region [⟨some 180,.fAddr 1 (.t 3),none⟩,⟨some 181,.load none (.t 180),none⟩,⟨some 182,.call 107 [(.t 181),(.k (.int .u8 44)),(.k (.fn 110 []))],none⟩,⟨some 179,.mv (.t 182),none⟩,⟨some 183,.extr (.t 179) 0,none⟩,⟨some 184,.extr (.t 179) 1,none⟩,⟨some 20,.mv (.t 183),none⟩,⟨some 21,.mv (.t 184),none⟩] [0,20,21] [] [[3],[180],[181],[182],[],[179],[183]])
 (.seq
 (.region [⟨some 185,.mv (.t 0),none⟩,⟨some 186,.mv (.t 20),none⟩,⟨some 187,.chk (.t 185),none⟩,⟨some 188,.fAddr 9 (.t 187),none⟩,
 ⟨none,.store 1 (.t 188) (.t 186),none⟩] [21] [] [[0],[20],[185],[187]])
 (.seq
 (.region [⟨some 189,.mv (.t 21),none⟩,⟨some 4,.mv (.t 189),none⟩] [4] [] [[21]])
 .ret)))
 .skip))))))))))))))))))))))
 t_spec_MPut_5))),
 [.t 4]⟩

def l_spec_MPut:Lay:={ rg:=[(0,([0,3],[])),(1,([0,3,5],[])),(2,([0,3,5,31],[])),(3,([0,3,5,31,32],[])),(4,([5],[])),(5,([4],[])),(6,([0,3,5,31,40],[])),(7,([5],[])),(8,([4],[])),(9,([0,3,31,48],[])),(10,([3],[])),(11,([4],[])),(12,([0,3,31,58],[])),(13,([3],[])),(14,([4],[])),(15,([0,3,31,68],[])),(16,([0,6,7],[])),(17,([0,6,7],[])),(18,([0,7,79,80,81],[])),(19,([0,7,79,80,81,82],[])),(20,([0,7,9,79,80,81],[])),(21,([0,7,9,79,80,81,86,87,88],[])),(22,([0,7,9,79,80,81,86,87,88,89],[])),(23,([0,7,9,10,11,79,80,81,86,87,88],[])),(24,([0,7,9,10,79,80,81,86,87,88,96],[])),(25,([0,7,9,79,80,81,86,87,88],[])),(26,([0,7,9,79,80,81,86,87,88],[])),(27,([0,7,79,80,81],[85])),(28,([4],[])),(29,([0,3,31,109],[])),(30,([0,12,13],[])),(31,([12,13],[])),(32,([4],[])),(33,([0,3,31,129],[])),(34,([0,14,15],[])),(35,([15],[])),(36,([4],[])),(37,([0,3,31,142],[])),(38,([0,16,17],[])),(39,([16,17],[])),(40,([4],[])),(41,([0,3,31,164],[])),(42,([0,18,19],[])),(43,([19],[])),(44,([4],[])),(45,([0,3,177],[])),(46,([0,20,21],[])),(47,([21],[])),(48,([4],[])),(49,([4],[])),(1000019,([0,7,79,80,81],[])),(1000022,([0,7,9,79,80,81,86,87,88],[]))],dd:=[(0,[[1]]),(1,[[],[22],[23],[24],[],[26],[27],[25,28]]),(4,[[0],[3],[35],[34],[37]]),(5,[[5]]),(7,[[0],[3],[43],[42],[45]]),(8,[[5]]),(10,[[0],[],[51],[50],[53]]),(11,[[3],[55],[56]]),(13,[[0],[],[61],[60],[63]]),(14,[[3],[65],[66]]),(16,[[3],[71],[72],[73],[],[70],[74]]),(17,[[],[76],[77]]),(18,[[6]]),(20,[[],[83]]),(21,[[],[85]]),(23,[[],[],[91],[90]]),(24,[[],[93],[11]]),(28,[[7]]),(30,[[3],[112],[113],[114],[],[111],[115]]),(31,[[],[0],[],[117],[120],[119,121],[118],[122]]),(32,[[13],[124],[12],[126],[125,127]]),(34,[[3],[132],[133],[134],[],[131],[135]]),(35,[[0],[14],[137],[139]]),(36,[[15]]),(38,[[3],[145],[146],[147],[],[144],[148]]),(39,[[0],[],[151],[150],[153]]),(40,[[17],[155],[],[157],[156,158],[159],[16],[161],[160,162]]),(42,[[3],[167],[168],[169],[],[166],[170]]),(43,[[0],[18],[172],[174]]),(44,[[19]]),(45,[[31]]),(46,[[3],[180],[181],[182],[],[179],[183]]),(47,[[0],[20],[185],[187]]),(48,[[21]])],gh:=[(0,[.frz 3])] }

def b_spec_MRight_1:SCode :=
 (.seq
 (.seq
 (.region [⟨some 53,.mv (.t 6),none⟩,⟨some 54,.mv (.t 4),none⟩,⟨some 55,.bin .lss (.t 53) (.t 54),none⟩] [0,3,4,5,6,11,12,13,55] [] [])
 (.cond (.t 55)
 .skip
 (.exit 2)))
 (.seq
 (.block 3
 (.seq
 (.region [⟨some 58,.mv (.t 0),none⟩,⟨some 59,.mv (.t 6),none⟩,⟨some 60,.iAddr 2 (.t 58) (.t 59),none⟩,⟨some 61,.fAddr 0 (.t 60),none⟩,⟨some 62,.load none (.t 61),none⟩,⟨some 63,.call 112 [(.t 62)],none⟩,⟨some 64,.fAddr 0 (.t 5),none⟩,⟨some 65,.load none (.t 64),none⟩,⟨some 66,.call 112 [(.t 65)],none⟩,⟨some 67,.bin .eql (.t 63) (.t 66),none⟩] [0,3,4,5,6,11,12,13,67] [] [])
 (.cond (.t 67)
 (.seq
 (.region [⟨some 2,.mv (.k (.bool false)),none⟩] [2] [3,44,100044] [])
 .ret)
 .skip)))
 (.region [⟨some 56,.mv (.t 6),none⟩,⟨some 57,.bin .add (.t 56) (.k (.int .i64 1)),none⟩,⟨some 6,.mv (.t 57),none⟩] [0,3,4,5,6,11,12,13] [] [[],[56]])))

def b_spec_MRight_2:SCode :=
 (.seq
 (.region [⟨some 71,.bin .lss (.t 70) (.t 69),none⟩] [0,3,5,7,11,12,13,68,69,70,71] [] [])
 (.seq
 (.cond (.t 71)
 .skip
 (.exit 4))
 (.seq
 (.block 5
 (.seq
 (.region [⟨some 72,.iAddr 1 (.t 68) (.t 70),none⟩,⟨some 73,.load none (.t 72),none⟩,⟨some 9,.mv (.t 73),none⟩] [0,3,5,7,9,11,12,13,68,69,70] [] [[],[72]])
 (.seq
 (.region [⟨some 74,.mv (.t 7),none⟩,⟨some 75,.mv (.t 74),none⟩,⟨some 76,.mv (.t 9),some (75,false)⟩,⟨some 77,.fAddr 0 (.t 5),some (75,false)⟩,⟨some 78,.load none (.t 77),some (75,false)⟩,⟨some 79,.bin .eql (.t 76) (.t 78),some (75,false)⟩,⟨some 80,.pick (.t 75) (.k (.bool true)) (.t 79),none⟩,⟨some 7,.mv (.t 80),none⟩] [0,3,5,7,9,11,12,13,68,69,70] [] [[],[74],[],[],[77],[76,78],[75,79]])
 (.seq
 (.region [⟨some 81,.mv (.t 9),none⟩,⟨some 82,.fAddr 0 (.t 5),none⟩,⟨some 83,.load none (.t 82),none⟩,⟨some 84,.bin .neq (.t 81) (.t 83),none⟩,⟨some 85,.mv (.t 84),none⟩,⟨some 86,.mv (.t 9),some (85,true)⟩,⟨some 87,.fAddr 0 (.t 5),some (85,true)⟩,⟨some 88,.load none (.t 87),some (85,true)⟩,⟨some 89,.call 112 [(.t 88)],some (85,true)⟩,⟨some 90,.bin .eql (.t 86) (.t 89),some (85,true)⟩,⟨some 91,.pick (.t 85) (.t 90) (.k (.bool false)),none⟩] [0,3,5,7,11,12,13,68,69,70,91] [] [[],[],[82],[81,83],[84],[9],[],[87],[88],[86,89]])
 (.cond (.t 91)
 (.seq
 (.region [⟨some 2,.mv (.k (.bool false)),none⟩] [2] [3,44,100044] [])
 .ret)
 .skip)))))
 (.region [⟨some 92,.bin .add (.t 70) (.k (.int .i64 1)),none⟩,⟨some 70,.mv (.t 92),none⟩] [0,3,5,7,11,12,13,68,69,70] [] []))))

def b_spec_MRight_3:SCode :=
 (.seq
 (.seq
 (.region [⟨some 93,.mv (.t 10),none⟩,⟨some 94,.fAddr 1 (.t 5),none⟩,⟨some 95,.load none (.t 94),none⟩,⟨some 96,.len 0 (.t 95),none⟩,⟨some 97,.bin .lss (.t 93) (.t 96),none⟩,⟨some 98,.mv (.t 97),none⟩,⟨some 99,.mv (.t 7),some (98,true)⟩,⟨some 100,.un .not (.t 99),some (98,true)⟩,⟨some 101,.pick (.t 98) (.t 100) (.k (.bool false)),none⟩] [0,3,5,7,10,11,12,13,101] [] [[],[],[94],[95],[93,96],[97],[],[99]])
 (.cond (.t 101)
 .skip
 (.exit 6)))
 (.seq
 (.block 7
 (.seq
 (.region [⟨some 104,.fAddr 1 (.t 5),none⟩,⟨some 105,.load none (.t 104),none⟩,⟨some 106,.mv (.t 10),none⟩,⟨some 107,.iStr (.t 105) (.t 106),none⟩,⟨some 108,.bin .leq (.t 107) (.k (.int .u8 32)),none⟩,⟨some 109,.mv (.t 108),none⟩,⟨some 110,.fAddr 1 (.t 5),some (109,false)⟩,⟨some 111,.load none (.t 110),some (109,false)⟩,⟨some 112,.mv (.t 10),some (109,false)⟩,⟨some 113,.iStr (.t 111) (.t 112),some (109,false)⟩,⟨some 114,.bin .geq (.t 113) (.k (.int .u8 127)),some (109,false)⟩,⟨some 115,.pick (.t 109) (.k (.bool true)) (.t 114),none⟩,⟨some 116,.mv (.t 115),none⟩,⟨some 117,.fAddr 1 (.t 5),some (116,false)⟩,⟨some 118,.load none (.t 117),some (116,false)⟩,⟨some 119,.mv (.t 10),some (116,false)⟩,⟨some 120,.iStr (.t 118) (.t 119),some (116,false)⟩,⟨some 121,.call 100 [(.t 120),(.k (.str [59,61]))],some (116,false)⟩,⟨some 122,.pick (.t 116) (.k (.bool true)) (.t 121),none⟩] [0,3,5,7,10,11,12,13,122] [] [[],[104],[],[105,106],[107],[108],[],[110],[],[111,112],[113],[109,114],[115],[],[117],[],[118,119],[120]])
 (.cond (.t 122)
 (.seq
 (.region [⟨some 2,.mv (.k (.bool false)),none⟩] [2] [3,44,100044] [])
 .ret)
 .skip)))
 (.region [⟨some 102,.mv (.t 10),none⟩,⟨some 103,.bin .add (.t 102) (.k (.int .i64 1)),none⟩,⟨some 10,.mv (.t 103),none⟩] [0,3,5,7,10,11,12,13] [] [[],[102]])))

def t_spec_MRight_4:SCode :=
 (.seq
 (.region [⟨some 123,.fAddr 1 (.t 5),none⟩,⟨some 124,.load none (.t 123),none⟩,⟨some 125,.bin .eql (.t 124) (.k (.str [])),none⟩,⟨some 126,.mv (.t 125),none⟩,⟨some 127,.fAddr 0 (.t 5),some (126,false)⟩,⟨some 128,.load none (.t 127),some (126,false)⟩,⟨some 129,.call 112 [(.t 128)],some (126,false)⟩,⟨some 130,.bin .eql (.t 129) (.k (.str [118])),some (126,false)⟩,⟨some 131,.pick (.t 126) (.k (.bool true)) (.t 130),none⟩] [0,3,11,12,13,131] [] [[],[123],[124],[125],[5],[127],[128],[129]])
 (.cond (.t 131)
 (.seq
 (.region [⟨some 2,.mv (.k (.bool false)),none⟩] [2] [3,44,100044] [])
 .ret)
 .skip))

def t_spec_MRight_5:SCode :=
 (.seq
 (.seq
 (.region [⟨some 10,.mv (.k (.int .i64 0)),none⟩] [0,3,5,7,10,11,12,13] [] [])
 (.block 6
 (.loop [0,3,5,7,10,11,12,13]
 b_spec_MRight_3)))
 t_spec_MRight_4)

def t_spec_MRight_6:SCode :=
 (.seq
 (.region [⟨some 7,.mv (.k (.bool false)),none⟩] [0,3,5,7,11,12,13] [] [])
 (.seq
 (.seq
 (.region [⟨some 68,.call 113 [],none⟩,⟨some 69,.len 1 (.t 68),none⟩,⟨some 70,.mv (.k (.int .i64 0)),none⟩] [0,3,5,7,11,12,13,68,69,70] [] [])
 (.block 4
 (.loop [0,3,5,7,11,12,13,68,69,70]
 b_spec_MRight_2)))
 t_spec_MRight_5))

def f_spec_MRight_7:SCode :=
 (.seq
 (.seq
 (.region [⟨some 6,.mv (.k (.int .i64 0)),none⟩] [0,3,4,5,6,11,12,13] [] [])
 (.block 2
 (.loop [0,3,4,5,6,11,12,13]
 b_spec_MRight_1)))
 t_spec_MRight_6)

def t_spec_MRight_8:SCode :=
 (.region [⟨some 132,.bin .add (.t 13) (.k (.int .i64 1)),none⟩,⟨some 13,.mv (.t 132),none⟩] [0,3,11,12,13] [] [])

def b_spec_MRight_9:SCode :=
 (.seq
 (.region [⟨some 14,.bin .lss (.t 13) (.t 12),none⟩] [0,3,11,12,13,14] [] [])
 (.seq
 (.cond (.t 14)
 .skip
 (.exit 0))
 (.seq
 (.block 1
 (.seq
 (.seq
 (.region [⟨some 15,.mv (.t 13),none⟩,⟨some 16,.iAddr 2 (.t 11) (.t 13),none⟩,⟨some 17,.load (some 2) (.t 16),none⟩,⟨some 5,.alloc [(.str []),(.str [])],none⟩,⟨some 4,.mv (.t 15),none⟩,
 ⟨none,.store 2 (.t 5) (.t 17),none⟩] [0,3,4,5,11,12,13] [] [[],[],[16],[],[15]])
 (.ghost [.frz 5]))
 (.seq
 (.seq
 (.region [⟨some 18,.mv (.t 4),none⟩,⟨some 19,.bin .eql (.t 18) (.k (.int .i64 0)),none⟩,⟨some 20,.mv (.t 19),none⟩,⟨some 21,.fAddr 0 (.t 5),some (20,true)⟩,⟨some 22,.load none (.t 21),some (20,true)⟩,⟨some 23,.bin .neq (.t 22) (.k (.str [112])),some (20,true)⟩,⟨some 24,.pick (.t 20) (.t 23) (.k (.bool false)),none⟩,⟨some 25,.mv (.t 24),none⟩,⟨some 26,.fAddr 0 (.t 5),some (25,false)⟩,⟨some 27,.load none (.t 26),some (25,false)⟩,⟨some 28,.bin .eql (.t 27) (.k (.str [118])),some (25,false)⟩,⟨some 29,.pick (.t 25) (.k (.bool true)) (.t 28),none⟩,⟨some 30,.mv (.t 29),none⟩,⟨some 31,.fAddr 0 (.t 5),some (30,false)⟩,⟨some 32,.load none (.t 31),some (30,false)⟩,⟨some 33,.len 0 (.t 32),some (30,false)⟩,⟨some 34,.bin .gtr (.t 33) (.k (.int .i64 20)),some (30,false)⟩,⟨some 35,.pick (.t 30) (.k (.bool true)) (.t 34),none⟩,⟨some 36,.mv (.t 35),none⟩,⟨some 37,.fAddr 1 (.t 5),some (36,false)⟩,⟨some 38,.load none (.t 37),some (36,false)⟩,⟨some 39,.len 0 (.t 38),some (36,false)⟩,⟨some 40,.bin .gtr (.t 39) (.k (.int .i64 200)),some (36,false)⟩,⟨some 41,.pick (.t 36) (.k (.bool true)) (.t 40),none⟩,⟨some 42,.mv (.t 41),none⟩,⟨some 43,.load (some 2) (.t 5),some (42,false)⟩,⟨some 44,.callS 111 [(.t 3),(.t 43)],some (42,false)⟩,⟨some 45,.un .not (.t 44),some (42,false)⟩,⟨some 46,.pick (.t 42) (.k (.bool true)) (.t 45),none⟩,⟨some 47,.mv (.t 46),none⟩,⟨some 48,.fAddr 0 (.t 5),some (47,false)⟩,⟨some 49,.load none (.t 48),some (47,false)⟩,⟨some 50,.call 99 [(.t 49)],some (47,false)⟩,⟨some 51,.un .not (.t 50),some (47,false)⟩,⟨some 52,.pick (.t 47) (.k (.bool true)) (.t 51),none⟩] [0,3,4,5,11,12,13,52] [] [[],[18],[19],[],[21],[22],[20,23],[24],[],[26],[27],[25,28],[29],[],[31],[32],[33],[30,34],[35],[],[37],[38],[39],[36,40],[41],[],[43],[44],[42,45],[46],[],[48],[49],[50]])
 (.cond (.t 52)
 (.seq
 (.region [⟨some 2,.mv (.k (.bool false)),none⟩] [2] [3,44,100044] [])
 .ret)
 .skip))
 f_spec_MRight_7)))
 t_spec_MRight_8)))

def t_spec_MRight_10:SCode :=
 (.seq
 (.region [⟨some 133,.mv (.t 0),none⟩,⟨some 134,.len 1 (.t 133),none⟩,⟨some 135,.bin .gtr (.t 134) (.k (.int .i64 0)),none⟩,⟨some 136,.mv (.t 135),none⟩,⟨some 137,.mv (.t 0),some (136,true)⟩,⟨some 138,.len 1 (.t 137),some (136,true)⟩,⟨some 139,.bin .leq (.t 138) (.k (.int .i64 20)),some (136,true)⟩,⟨some 140,.pick (.t 136) (.t 139) (.k (.bool false)),none⟩,⟨some 2,.mv (.t 140),none⟩] [2] [3,44,100044] [[],[133],[134],[135],[0],[137],[138],[136,139]])
 .ret)

def c_spec_MRight:SFn:=⟨1,
 (.seq
 (.region [⟨some 2,.mv (.k (.bool false)),none⟩] [0] [] [])
 (.seq
 (.region [⟨some 3,.alloc [(.str []),(.str []),(.int .i64 0),(.str []),(.int .i64 0),(.bool false),.nilS,(.int .i64 0),.nilS,.nilS,(.str [])],none⟩] [0,3] [] [])
 (.seq
 (.seq
 (.region [⟨some 11,.mv (.t 0),none⟩,⟨some 12,.len 1 (.t 11),none⟩,⟨some 13,.mv (.k (.int .i64 0)),none⟩] [0,3,11,12,13] [] [])
 (.block 0
 (.loop [0,3,11,12,13]
 b_spec_MRight_9)))
 t_spec_MRight_10))),
 [.t 2]⟩

def l_spec_MRight:Lay:={ rg:=[(0,([0],[])),(1,([0,3],[])),(2,([0,3,11,12,13],[])),(3,([0,3,11,12,13,14],[])),(4,([0,3,4,5,11,12,13],[])),(5,([0,3,4,5,11,12,13,52],[])),(6,([2],[3,44,100044])),(7,([0,3,4,5,6,11,12,13],[])),(8,([0,3,4,5,6,11,12,13,55],[])),(9,([0,3,4,5,6,11,12,13],[])),(10,([0,3,4,5,6,11,12,13,67],[])),(11,([2],[3,44,100044])),(12,([0,3,5,7,11,12,13],[])),(13,([0,3,5,7,11,12,13,68,69,70],[])),(14,([0,3,5,7,11,12,13,68,69,70,71],[])),(15,([0,3,5,7,9,11,12,13,68,69,70],[])),(16,([0,3,5,7,9,11,12,13,68,69,70],[])),(17,([0,3,5,7,11,12,13,68,69,70,91],[])),(18,([2],[3,44,100044])),(19,([0,3,5,7,11,12,13,68,69,70],[])),(20,([0,3,5,7,10,11,12,13],[])),(21,([0,3,5,7,10,11,12,13,101],[])),(22,([0,3,5,7,10,11,12,13],[])),(23,([0,3,5,7,10,11,12,13,122],[])),(24,([2],[3,44,100044])),(25,([0,3,11,12,13,131],[])),(26,([2],[3,44,100044])),(27,([0,3,11,12,13],[])),(28,([2],[3,44,100044])),(1000003,([0,3,11,12,13],[])),(1000008,([0,3,4,5,6,11,12,13],[])),(1000014,([0,3,5,7,11,12,13,68,69,70],[])),(1000021,([0,3,5,7,10,11,12,13],[]))],dd:=[(4,[[],[],[16],[],[15]]),(5,[[],[18],[19],[],[21],[22],[20,23],[24],[],[26],[27],[25,28],[29],[],[31],[32],[33],[30,34],[35],[],[37],[38],[39],[36,40],[41],[],[43],[44],[42,45],[46],[],[48],[49],[50]]),(9,[[],[56]]),(15,[[],[72]]),(16,[[],[74],[],[],[77],[76,78],[75,79]]),(17,[[],[],[82],[81,83],[84],[9],[],[87],[88],[86,89]]),(21,[[],[],[94],[95],[93,96],[97],[],[99]]),(22,[[],[102]]),(23,[[],[104],[],[105,106],[107],[108],[],[110],[],[111,112],[113],[109,114],[115],[],[117],[],[118,119],[120]]),(25,[[],[123],[124],[125],[5],[127],[128],[129]]),(28,[[],[133],[134],[135],[0],[137],[138],[136,139]])],gh:=[(4,[.frz 5])],sf:=[111] }

def c_spec_MKnown:SFn:=⟨0,
 (.seq
 (.region [⟨some 0,.mv (.k .nilS),none⟩] [] [] [])
 (.seq
 (.region [⟨some 1,.mkSl 1 10 [(.str [])] [(0,(.k (.str [112]))),(1,(.k (.str [97,100,107,105,109]))),(2,(.k (.str [97,115,112,102]))),(3,(.k (.str [102,111]))),(4,(.k (.str [112,99,116]))),(5,(.k (.str [114,102]))),(6,(.k (.str [114,105]))),(7,(.k (.str [114,117,97]))),(8,(.k (.str [114,117,102]))),(9,(.k (.str [115,112])))],none⟩,⟨some 0,.mv (.t 1),none⟩] [0] [] [])
 .ret)),
 [.t 0]⟩

def l_spec_MKnown:Lay:={ rg:=[(0,([],[])),(1,([0],[]))] }

def c_spec_MSpace:SFn:=⟨1,
 (.seq
 (.region [⟨some 2,.mv (.k (.str [])),none⟩] [0] [] [])
 (.seq
 (.region [⟨some 3,.mkSl 1 6 [(.str [])] [(0,(.k (.str []))),(1,(.k (.str []))),(2,(.k (.str [32]))),(3,(.k (.str [32,32]))),(4,(.k (.str [9]))),(5,(.k (.str [32,9])))],none⟩,⟨some 4,.mv (.t 0),none⟩,⟨some 5,.bin .rem (.t 4) (.k (.int .u8 6)),none⟩,⟨some 6,.iAddr 1 (.t 3) (.t 5),none⟩,⟨some 7,.load none (.t 6),none⟩,⟨some 2,.mv (.t 7),none⟩] [2] [3] [[],[0],[4],[3,5],[6]])
 .ret)),
 [.t 2]⟩

def l_spec_MSpace:Lay:={ rg:=[(0,([0],[])),(1,([2],[3]))],dd:=[(1,[[],[0],[4],[3,5],[6]])] }

def b_spec_MText_1:SCode :=
 (.seq
 (.region [⟨some 24,.bin .lss (.t 23) (.t 22),none⟩] [2,8,9,21,22,23,24] [] [])
 (.seq
 (.cond (.t 24)
 .skip
 (.exit 0))
 (.seq
 (.block 1
 (.seq
 (.seq
 (.region [⟨some 25,.iAddr 2 (.t 21) (.t 23),none⟩,⟨some 26,.load (some 2) (.t 25),none⟩,⟨some 11,.alloc [(.str []),(.str [])],none⟩,
 ⟨none,.store 2 (.t 11) (.t 26),none⟩] [2,8,9,11,21,22,23] [] [[],[25]])
 (.ghost [.frz 11]))
 (.region [⟨some 27,.mv (.t 9),none⟩,⟨some 28,.mv (.t 8),none⟩,⟨some 29,.callVS (.t 28) [],none⟩,⟨some 30,.fl (.bin .add (.t 29) (.k (.str [59]))),none⟩,⟨some 31,.mv (.t 8),none⟩,⟨some 32,.callVS (.t 31) [],none⟩,⟨some 33,.fl (.bin .add (.t 30) (.t 32)),none⟩,⟨some 34,.fl (.fAddr 0 (.t 11)),none⟩,⟨some 35,.fl (.load none (.t 34)),none⟩,⟨some 36,.fl (.bin .add (.t 33) (.t 35)),none⟩,⟨some 37,.mv (.t 8),none⟩,⟨some 38,.callVS (.t 37) [],none⟩,⟨some 39,.fl (.bin .add (.t 36) (.t 38)),none⟩,⟨some 40,.fl (.bin .add (.t 39) (.k (.str [61]))),none⟩,⟨some 41,.mv (.t 8),none⟩,⟨some 42,.callVS (.t 41) [],none⟩,⟨some 43,.fl (.bin .add (.t 40) (.t 42)),none⟩,⟨some 44,.fl (.fAddr 1 (.t 11)),none⟩,⟨some 45,.fl (.load none (.t 44)),none⟩,⟨some 46,.fl (.bin .add (.t 43) (.t 45)),none⟩,⟨some 47,.fl (.bin .add (.t 27) (.t 46)),none⟩,⟨some 9,.mv (.t 47),none⟩] [2,8,9,21,22,23] [] [])))
 (.region [⟨some 48,.bin .add (.t 23) (.k (.int .i64 1)),none⟩,⟨some 23,.mv (.t 48),none⟩] [2,8,9,21,22,23] [] []))))

def t_spec_MText_2:SCode :=
 (.seq
 (.seq
 (.region [⟨some 49,.mv (.t 2),none⟩] [8,9,49] [] [])
 (.cond (.t 49)
 (.region [⟨some 50,.mv (.t 9),none⟩,⟨some 51,.mv (.t 8),none⟩,⟨some 52,.callVS (.t 51) [],none⟩,⟨some 53,.bin .add (.t 52) (.k (.str [59])),none⟩,⟨some 54,.bin .add (.t 50) (.t 53),none⟩,⟨some 9,.mv (.t 54),none⟩] [9] [7,14,18,29,32,38,42,52,100014,100018,100029,100032,100038,100042,100052] [[],[8],[51],[52],[50,53]])
 .skip))
 (.seq
 (.region [⟨some 55,.mv (.t 9),none⟩,⟨some 6,.mv (.t 55),none⟩] [6] [7,14,18,29,32,38,42,100014,100018,100029,100032,100038,100042] [[9]])
 .ret))

def c_spec_MText:SFn:=⟨3,
 (.seq
 (.region [⟨some 4,.boxF (.t 1),none⟩,⟨some 6,.mv (.k (.str [])),none⟩] [0,2,4] [] [[1]])
 (.seq
 (.region [⟨some 7,.alloc [(.int .i64 0)],none⟩,
 ⟨none,.store 1 (.t 7) (.k (.int .i64 0)),none⟩] [0,2,4,7] [] [])
 (.seq
 (.region [⟨some 12,.mkFn 114 [(.t 4),(.t 7)],none⟩,⟨some 8,.mv (.t 12),none⟩] [0,2,8] [] [[4,7]])
 (.seq
 (.region [⟨some 13,.mv (.t 8),none⟩,⟨some 14,.callVS (.t 13) [],none⟩,⟨some 15,.bin .add (.k (.str [118])) (.t 14),none⟩,⟨some 16,.bin .add (.t 15) (.k (.str [61])),none⟩,⟨some 17,.mv (.t 8),none⟩,⟨some 18,.callVS (.t 17) [],none⟩,⟨some 19,.bin .add (.t 16) (.t 18),none⟩,⟨some 20,.bin .add (.t 19) (.k (.str [68,77,65,82,67,49])),none⟩,⟨some 9,.mv (.t 20),none⟩] [0,2,8,9] [] [[],[13],[14],[15],[],[17],[16,18],[19]])
 (.seq
 (.seq
 (.region [⟨some 21,.mv (.t 0),none⟩,⟨some 22,.len 1 (.t 21),none⟩,⟨some 23,.mv (.k (.int .i64 0)),none⟩] [2,8,9,21,22,23] [] [[0]])
 (.block 0
 (.loop [2,8,9,21,22,23]
 b_spec_MText_1)))
 t_spec_MText_2))))),
 [.t 6]⟩

def l_spec_MText:Lay:={ rg:=[(0,([0,2,4],[])),(1,([0,2,4,7],[])),(2,([0,2,8],[])),(3,([0,2,8,9],[])),(4,([2,8,9,21,22,23],[])),(5,([2,8,9,21,22,23,24],[])),(6,([2,8,9,11,21,22,23],[])),(7,([2,8,9,21,22,23],[])),(8,([2,8,9,21,22,23],[])),(9,([8,9,49],[])),(10,([9],[7,14,18,29,32,38,42,52,100014,100018,100029,100032,100038,100042,100052])),(11,([6],[7,14,18,29,32,38,42,100014,100018,100029,100032,100038,100042])),(1000005,([2,8,9,21,22,23],[]))],dd:=[(0,[[1]]),(2,[[4,7]]),(3,[[],[13],[14],[15],[],[17],[16,18],[19]]),(4,[[0]]),(6,[[],[25]]),(10,[[],[8],[51],[52],[50,53]]),(11,[[9]])],gh:=[(6,[.frz 11])],cv:=true,fz:=[4],fl:=[30,33,34,35,36,39,40,43,44,45,46,47] }

def c_spec_MText_1:SFn:=⟨2,
 (.seq
 (.region [⟨some 2,.mv (.k (.str [])),none⟩] [0,1] [] [])
 (.seq
 (.seq
 (.region [⟨some 3,.load none (.t 0),none⟩,⟨some 4,.len 1 (.t 3),none⟩,⟨some 5,.bin .eql (.t 4) (.k (.int .i64 0)),none⟩] [0,1,5] [] [[],[3]])
 (.cond (.t 5)
 (.seq
 (.region [⟨some 2,.mv (.k (.str [])),none⟩] [2] [] [])
 .ret)
 .skip))
 (.seq
 (.region [⟨some 6,.load none (.t 1),none⟩,⟨some 7,.bin .add (.t 6) (.k (.int .i64 1)),none⟩,
 ⟨none,.store 1 (.t 1) (.t 7),none⟩] [0,1] [] [[],[6]])
 (.seq
 (.region [⟨some 8,.load none (.t 0),none⟩,⟨some 9,.load none (.t 1),none⟩,⟨some 10,.load none (.t 0),none⟩,⟨some 11,.len 1 (.t 10),none⟩,⟨some 12,.bin .rem (.t 9) (.t 11),none⟩,⟨some 13,.iAddr 1 (.t 8) (.t 12),none⟩,⟨some 14,.load none (.t 13),none⟩,⟨some 15,.call 115 [(.t 14)],none⟩,⟨some 2,.mv (.t 15),none⟩] [2] [] [])
 .ret)))),
 [.t 2]⟩

def l_spec_MText_1:Lay:={ rg:=[(0,([0,1],[])),(1,([0,1,5],[])),(2,([2],[])),(3,([0,1],[])),(4,([2],[]))],dd:=[(1,[[],[3]]),(3,[[],[6]])] }

def c_spec_MSame:SFn:=⟨2,
 (.seq
 (.seq
 (.region [⟨some 2,.box (.t 0),none⟩,⟨some 3,.box (.t 1),none⟩,⟨some 4,.mv (.k (.bool false)),none⟩] [2,3] [] [[0],[1]])
 (.ghost [.frz 2,.frz 3]))
 (.seq
 (.region [⟨some 5,.fAddr 0 (.t 2),none⟩,⟨some 6,.load none (.t 5),none⟩,⟨some 7,.fAddr 0 (.t 3),none⟩,⟨some 8,.load none (.t 7),none⟩,⟨some 9,.bin .eql (.t 6) (.t 8),none⟩,⟨some 10,.mv (.t 9),none⟩,⟨some 11,.fAddr 1 (.t 2),some (10,true)⟩,⟨some 12,.load none (.t 11),some (10,true)⟩,⟨some 13,.fAddr 1 (.t 3),some (10,true)⟩,⟨some 14,.load none (.t 13),some (10,true)⟩,⟨some 15,.bin .eql (.t 12) (.t 14),some (10,true)⟩,⟨some 16,.pick (.t 10) (.t 15) (.k (.bool false)),none⟩,⟨some 17,.mv (.t 16),none⟩,⟨some 18,.fAddr 2 (.t 2),some (17,true)⟩,⟨some 19,.load none (.t 18),some (17,true)⟩,⟨some 20,.fAddr 2 (.t 3),some (17,true)⟩,⟨some 21,.load none (.t 20),some (17,true)⟩,⟨some 22,.bin .eql (.t 19) (.t 21),some (17,true)⟩,⟨some 23,.pick (.t 17) (.t 22) (.k (.bool false)),none⟩,⟨some 24,.mv (.t 23),none⟩,⟨some 25,.fAddr 3 (.t 2),some (24,true)⟩,⟨some 26,.load none (.t 25),some (24,true)⟩,⟨some 27,.fAddr 3 (.t 3),some (24,true)⟩,⟨some 28,.load none (.t 27),some (24,true)⟩,⟨some 29,.bin .eql (.t 26) (.t 28),some (24,true)⟩,⟨some 30,.pick (.t 24) (.t 29) (.k (.bool false)),none⟩,⟨some 31,.mv (.t 30),none⟩,⟨some 32,.fAddr 4 (.t 2),some (31,true)⟩,⟨some 33,.load none (.t 32),some (31,true)⟩,⟨some 34,.fAddr 4 (.t 3),some (31,true)⟩,⟨some 35,.load none (.t 34),some (31,true)⟩,⟨some 36,.bin .eql (.t 33) (.t 35),some (31,true)⟩,⟨some 37,.pick (.t 31) (.t 36) (.k (.bool false)),none⟩,⟨some 38,.mv (.t 37),none⟩,⟨some 39,.fAddr 5 (.t 2),some (38,true)⟩,⟨some 40,.load none (.t 39),some (38,true)⟩,⟨some 41,.fAddr 5 (.t 3),some (38,true)⟩,⟨some 42,.load none (.t 41),some (38,true)⟩,⟨some 43,.eqB false (.t 40) (.t 42),some (38,true)⟩,⟨some 44,.pick (.t 38) (.t 43) (.k (.bool false)),none⟩,⟨some 45,.mv (.t 44),none⟩,⟨some 46,.fAddr 7 (.t 2),some (45,true)⟩,⟨some 47,.load none (.t 46),some (45,true)⟩,⟨some 48,.fAddr 7 (.t 3),some (45,true)⟩,⟨some 49,.load none (.t 48),some (45,true)⟩,⟨some 50,.bin .eql (.t 47) (.t 49),some (45,true)⟩,⟨some 51,.pick (.t 45) (.t 50) (.k (.bool false)),none⟩,⟨some 52,.mv (.t 51),none⟩,⟨some 53,.fAddr 10 (.t 2),some (52,true)⟩,⟨some 54,.load none (.t 53),some (52,true)⟩,⟨some 55,.fAddr 10 (.t 3),some (52,true)⟩,⟨some 56,.load none (.t 55),some (52,true)⟩,⟨some 57,.bin .eql (.t 54) (.t 56),some (52,true)⟩,⟨some 58,.pick (.t 52) (.t 57) (.k (.bool false)),none⟩,⟨some 59,.mv (.t 58),none⟩,⟨some 60,.fAddr 6 (.t 2),some (59,true)⟩,⟨some 61,.load none (.t 60),some (59,true)⟩,⟨some 62,.fAddr 6 (.t 3),some (59,true)⟩,⟨some 63,.load none (.t 62),some (59,true)⟩,⟨some 64,.call 116 [(.t 61),(.t 63)],some (59,true)⟩,⟨some 65,.pick (.t 59) (.t 64) (.k (.bool false)),none⟩,⟨some 66,.mv (.t 65),none⟩,⟨some 67,.fAddr 8 (.t 2),some (66,true)⟩,⟨some 68,.load none (.t 67),some (66,true)⟩,⟨some 69,.fAddr 8 (.t 3),some (66,true)⟩,⟨some 70,.load none (.t 69),some (66,true)⟩,⟨some 71,.call 116 [(.t 68),(.t 70)],some (66,true)⟩,⟨some 72,.pick (.t 66) (.t 71) (.k (.bool false)),none⟩,⟨some 73,.mv (.t 72),none⟩,⟨some 74,.fAddr 9 (.t 2),some (73,true)⟩,⟨some 75,.load none (.t 74),some (73,true)⟩,⟨some 76,.fAddr 9 (.t 3),some (73,true)⟩,⟨some 77,.load none (.t 76),some (73,true)⟩,⟨some 78,.call 116 [(.t 75),(.t 77)],some (73,true)⟩,⟨some 79,.pick (.t 73) (.t 78) (.k (.bool false)),none⟩,⟨some 4,.mv (.t 79),none⟩] [4] [] [[],[5],[],[7],[6,8],[9],[],[11],[],[13],[12,14],[10,15],[16],[],[18],[],[20],[19,21],[17,22],[23],[],[25],[],[27],[26,28],[24,29],[30],[],[32],[],[34],[33,35],[31,36],[37],[],[39],[],[41],[40,42],[38,43],[44],[],[46],[],[48],[47,49],[45,50],[51],[],[53],[],[55],[54,56],[52,57],[58],[],[60],[],[62],[61,63],[59,64],[65],[],[67],[],[69],[68,70],[66,71],[72],[2],[74],[3],[76],[75,77],[73,78]])
 .ret)),
 [.t 4]⟩

def l_spec_MSame:Lay:={ rg:=[(0,([2,3],[])),(1,([4],[]))],dd:=[(0,[[0],[1]]),(1,[[],[5],[],[7],[6,8],[9],[],[11],[],[13],[12,14],[10,15],[16],[],[18],[],[20],[19,21],[17,22],[23],[],[25],[],[27],[26,28],[24,29],[30],[],[32],[],[34],[33,35],[31,36],[37],[],[39],[],[41],[40,42],[38,43],[44],[],[46],[],[48],[47,49],[45,50],[51],[],[53],[],[55],[54,56],[52,57],[58],[],[60],[],[62],[61,63],[59,64],[65],[],[67],[],[69],[68,70],[66,71],[72],[2],[74],[3],[76],[75,77],[73,78]])],gh:=[(0,[.frz 2,.frz 3])] }

def b_laws_zzFits13_1:SCode :=
 (.seq
 (.region [⟨some 11,.bin .lss (.t 10) (.t 9),none⟩] [8,9,10,11] [] [])
 (.seq
 (.cond (.t 11)
 .skip
 (.exit 0))
 (.seq
 (.block 1
 (.seq
 (.seq
 (.region [⟨some 12,.iAddr 2 (.t 8) (.t 10),none⟩,⟨some 13,.load (some 2) (.t 12),none⟩,⟨some 4,.alloc [(.str []),(.str [])],none⟩,
 ⟨none,.store 2 (.t 4) (.t 13),none⟩] [4,8,9,10] [] [[],[12]])
 (.ghost [.frz 4]))
 (.seq
 (.region [⟨some 14,.load (some 2) (.t 4),none⟩,⟨some 15,.call 119 [(.t 14)],none⟩,⟨some 16,.un .not (.t 15),none⟩] [8,9,10,16] [] [[4],[14]])
 (.cond (.t 16)
 (.seq
 (.region [⟨some 2,.mv (.k (.bool false)),none⟩] [2] [] [])
 .ret)
 .skip))))
 (.region [⟨some 17,.bin .add (.t 10) (.k (.int .i64 1)),none⟩,⟨some 10,.mv (.t 17),none⟩] [8,9,10] [] []))))

def t_laws_zzFits13_2:SCode :=
 (.seq
 (.region [⟨some 2,.mv (.k (.bool true)),none⟩] [2] [] [])
 .ret)

def c_laws_zzFits13:SFn:=⟨1,
 (.seq
 (.region [⟨some 2,.mv (.k (.bool false)),none⟩] [0] [] [])
 (.seq
 (.seq
 (.region [⟨some 5,.mv (.t 0),none⟩,⟨some 6,.len 1 (.t 5),none⟩,⟨some 7,.bin .gtr (.t 6) (.k (.int .i64 2147483647)),none⟩] [0,7] [] [[],[5]])
 (.cond (.t 7)
 (.seq
 (.region [⟨some 2,.mv (.k (.bool false)),none⟩] [2] [] [])
 .ret)
 .skip))
 (.seq
 (.seq
 (.region [⟨some 8,.mv (.t 0),none⟩,⟨some 9,.len 1 (.t 8),none⟩,⟨some 10,.mv (.k (.int .i64 0)),none⟩] [8,9,10] [] [[0]])
 (.block 0
 (.loop [8,9,10]
 b_laws_zzFits13_1)))
 t_laws_zzFits13_2))),
 [.t 2]⟩

def l_laws_zzFits13:Lay:={ rg:=[(0,([0],[])),(1,([0,7],[])),(2,([2],[])),(3,([8,9,10],[])),(4,([8,9,10,11],[])),(5,([4,8,9,10],[])),(6,([8,9,10,16],[])),(7,([2],[])),(8,([8,9,10],[])),(9,([2],[])),(1000004,([8,9,10],[]))],dd:=[(1,[[],[5]]),(3,[[0]]),(5,[[],[12]]),(6,[[4],[14]])],gh:=[(5,[.frz 4])] }

def c_laws_zzFits14:SFn:=⟨1,
 (.seq
 (.seq
 (.region [⟨some 1,.box (.t 0),none⟩,⟨some 2,.mv (.k (.bool false)),none⟩] [1] [] [[0]])
 (.ghost [.frz 1]))
 (.seq
 (.seq
 (.region [⟨some 3,.fAddr 0 (.t 1),none⟩,⟨some 4,.load none (.t 3),none⟩,⟨some 5,.len 0 (.t 4),none⟩,⟨some 6,.bin .gtr (.t 5) (.k (.int .i64 2147483647)),none⟩] [1,6] [] [[],[3],[4]])
 (.cond (.t 6)
 (.seq
 (.region [⟨some 2,.mv (.k (.bool false)),none⟩] [2] [] [])
 .ret)
 .skip))
 (.seq
 (.seq
 (.region [⟨some 7,.fAddr 1 (.t 1),none⟩,⟨some 8,.load none (.t 7),none⟩,⟨some 9,.len 0 (.t 8),none⟩,⟨some 10,.bin .gtr (.t 9) (.k (.int .i64 2147483647)),none⟩] [10] [] [[1],[7],[8]])
 (.cond (.t 10)
 (.seq
 (.region [⟨some 2,.mv (.k (.bool false)),none⟩] [2] [] [])
 .ret)
 .skip))
 (.seq
 (.region [⟨some 2,.mv (.k (.bool true)),none⟩] [2] [] [])
 .ret)))),
 [.t 2]⟩

def l_laws_zzFits14:Lay:={ rg:=[(0,([1],[])),(1,([1,6],[])),(2,([2],[])),(3,([10],[])),(4,([2],[])),(5,([2],[]))],dd:=[(0,[[0]]),(1,[[],[3],[4]]),(3,[[1],[7],[8]])],gh:=[(0,[.frz 1])] }

end Wax


namespace Wax
open Go (IntKind)

def c_dmarc_zzIndex:SFn:=⟨2,
 (.seq
 (.region [⟨some 4,.mv (.k (.int .i64 0)),none⟩] [0,1] [] [])
 (.seq
 (.seq
 (.region [⟨some 5,.mv (.k (.int .i64 0)),none⟩] [0,1,5] [] [])
 (.block 0
 (.loop [0,1,5]
 (.seq
 (.seq
 (.region [⟨some 6,.mv (.t 5),none⟩,⟨some 7,.mv (.t 1),none⟩,⟨some 8,.len 0 (.t 7),none⟩,⟨some 9,.bin .add (.t 6) (.t 8),none⟩,⟨some 10,.mv (.t 0),none⟩,⟨some 11,.len 0 (.t 10),none⟩,⟨some 12,.bin .leq (.t 9) (.t 11),none⟩] [0,1,5,12] [] [[],[],[7],[6,8],[],[10]])
 (.cond (.t 12)
 .skip
 (.exit 0)))
 (.seq
 (.block 1
 (.seq
 (.region [⟨some 15,.mv (.t 0),none⟩,⟨some 16,.mv (.t 5),none⟩,⟨some 17,.mv (.t 5),none⟩,⟨some 18,.mv (.t 1),none⟩,⟨some 19,.len 0 (.t 18),none⟩,⟨some 20,.bin .add (.t 17) (.t 19),none⟩,⟨some 21,.slStr (.t 15) (some (.t 16)) (some (.t 20)),none⟩,⟨some 22,.mv (.t 1),none⟩,⟨some 23,.bin .eql (.t 21) (.t 22),none⟩] [0,1,5,23] [] [[],[],[],[],[18],[17,19],[15,16,20]])
 (.cond (.t 23)
 (.seq
 (.region [⟨some 24,.mv (.t 5),none⟩,⟨some 4,.mv (.t 24),none⟩] [4] [] [[5]])
 .ret)
 .skip)))
 (.region [⟨some 13,.mv (.t 5),none⟩,⟨some 14,.bin .add (.t 13) (.k (.int .i64 1)),none⟩,⟨some 5,.mv (.t 14),none⟩] [0,1,5] [] [[],[13]]))))))
 (.seq
 (.region [⟨some 4,.mv (.k (.int .i64 (-1))),none⟩] [4] [] [])
 .ret))),
 [.t 4]⟩

def l_dmarc_zzIndex:Lay:={ rg:=[(0,([0,1],[])),(1,([0,1,5],[])),(2,([0,1,5,12],[])),(3,([0,1,5],[])),(4,([0,1,5,23],[])),(5,([4],[])),(6,([4],[])),(1000002,([0,1,5],[]))],dd:=[(2,[[],[],[7],[6,8],[],[10]]),(3,[[],[13]]),(4,[[],[],[],[],[18],[17,19],[15,16,20]]),(5,[[5]])] }

def b_dmarc_zzSplit_1:SCode :=
 (.seq
 (.region [⟨some 14,.nextS (.t 13),none⟩,⟨some 15,.extr (.t 14) 0,none⟩] [0,5,6,13,14,15] [] [])
 (.seq
 (.cond (.t 15)
 .skip
 (.exit 0))
 (.block 1
 (.seq
 (.region [⟨some 16,.extr (.t 14) 1,none⟩,⟨some 7,.mv (.t 16),none⟩] [0,5,6,7,13] [] [[14]])
 (.seq
 (.region [⟨some 17,.mv (.t 7),none⟩,⟨some 18,.bin .gtr (.t 17) (.k (.int .i64 0)),none⟩] [0,5,6,7,13,18] [] [])
 (.cond (.t 18)
 (.seq
 (.region [⟨some 19,.mv (.t 5),none⟩,⟨some 20,.mv (.t 0),none⟩,⟨some 21,.mv (.t 6),none⟩,⟨some 22,.mv (.t 7),none⟩,⟨some 23,.slStr (.t 20) (some (.t 21)) (some (.t 22)),none⟩,⟨some 24,.mkSl 1 1 [(.str [])] [(0,(.t 23))],none⟩,⟨some 25,.app 1 16 (.t 19) (.t 24),none⟩,⟨some 5,.mv (.t 25),none⟩] [0,5,7,13] [24] [[],[],[6],[],[20,21,22],[23],[19,24]])
 (.region [⟨some 26,.mv (.t 7),none⟩,⟨some 6,.mv (.t 26),none⟩] [0,5,6,13] [] [[7]]))
 .skip))))))

def t_dmarc_zzSplit_2:SCode :=
 (.seq
 (.seq
 (.region [⟨some 27,.mv (.t 0),none⟩,⟨some 28,.len 0 (.t 27),none⟩,⟨some 29,.bin .gtr (.t 28) (.k (.int .i64 0)),none⟩] [0,5,6,29] [13] [[],[27]])
 (.cond (.t 29)
 (.region [⟨some 30,.mv (.t 5),none⟩,⟨some 31,.mv (.t 0),none⟩,⟨some 32,.mv (.t 6),none⟩,⟨some 33,.slStr (.t 31) (some (.t 32)) none,none⟩,⟨some 34,.mkSl 1 1 [(.str [])] [(0,(.t 33))],none⟩,⟨some 35,.app 1 16 (.t 30) (.t 34),none⟩,⟨some 5,.mv (.t 35),none⟩] [5] [34] [[],[0],[6],[31,32],[33],[30,34]])
 .skip))
 (.seq
 (.region [⟨some 36,.mv (.t 5),none⟩,⟨some 4,.mv (.t 36),none⟩] [4] [] [[5]])
 .ret))

def b_dmarc_zzSplit_3:SCode :=
 (.block 3
 (.seq
 (.region [⟨some 37,.mv (.t 0),none⟩,⟨some 38,.mv (.t 1),none⟩,⟨some 39,.call 161 [(.t 37),(.t 38)],none⟩,⟨some 8,.mv (.t 39),none⟩] [0,1,5,8] [] [[],[],[37,38]])
 (.seq
 (.seq
 (.region [⟨some 40,.mv (.t 8),none⟩,⟨some 41,.bin .lss (.t 40) (.k (.int .i64 0)),none⟩] [0,1,5,8,41] [] [])
 (.cond (.t 41)
 (.seq
 (.region [⟨some 42,.mv (.t 5),none⟩,⟨some 43,.mv (.t 0),none⟩,⟨some 44,.mkSl 1 1 [(.str [])] [(0,(.t 43))],none⟩,⟨some 45,.app 1 16 (.t 42) (.t 44),none⟩,⟨some 4,.mv (.t 45),none⟩] [4] [44] [[5],[0],[43],[42,44]])
 .ret)
 .skip))
 (.seq
 (.region [⟨some 46,.mv (.t 5),none⟩,⟨some 47,.mv (.t 0),none⟩,⟨some 48,.mv (.t 8),none⟩,⟨some 49,.slStr (.t 47) none (some (.t 48)),none⟩,⟨some 50,.mkSl 1 1 [(.str [])] [(0,(.t 49))],none⟩,⟨some 51,.app 1 16 (.t 46) (.t 50),none⟩,⟨some 5,.mv (.t 51),none⟩] [0,1,5,8] [50] [[],[],[],[47,48],[49],[46,50]])
 (.region [⟨some 52,.mv (.t 0),none⟩,⟨some 53,.mv (.t 8),none⟩,⟨some 54,.mv (.t 1),none⟩,⟨some 55,.len 0 (.t 54),none⟩,⟨some 56,.bin .add (.t 53) (.t 55),none⟩,⟨some 57,.slStr (.t 52) (some (.t 56)) none,none⟩,⟨some 0,.mv (.t 57),none⟩] [0,1,5] [] [[],[8],[],[54],[53,55],[52,56]])))))

def t_dmarc_zzSplit_4:SCode :=
 (.block 2
 (.loop [0,1,5]
 b_dmarc_zzSplit_3))

def c_dmarc_zzSplit:SFn:=⟨2,
 (.seq
 (.region [⟨some 4,.mv (.k .nilS),none⟩] [0,1] [] [])
 (.seq
 (.region [⟨some 5,.mv (.k .nilS),none⟩] [0,1,5] [] [])
 (.seq
 (.seq
 (.region [⟨some 9,.mv (.t 1),none⟩,⟨some 10,.len 0 (.t 9),none⟩,⟨some 11,.bin .eql (.t 10) (.k (.int .i64 0)),none⟩] [0,1,5,11] [] [[],[9]])
 (.cond (.t 11)
 (.seq
 (.region [⟨some 6,.mv (.k (.int .i64 0)),none⟩] [0,5,6] [] [])
 (.seq
 (.seq
 (.region [⟨some 12,.mv (.t 0),none⟩,⟨some 13,.rangeS (.t 12),none⟩] [0,5,6,13] [] [])
 (.block 0
 (.loop [0,5,6,13]
 b_dmarc_zzSplit_1)))
 t_dmarc_zzSplit_2))
 .skip))
 t_dmarc_zzSplit_4))),
 [.t 4]⟩

def l_dmarc_zzSplit:Lay:={ rg:=[(0,([0,1],[])),(1,([0,1,5],[])),(2,([0,1,5,11],[])),(3,([0,5,6],[])),(4,([0,5,6,13],[])),(5,([0,5,6,13,14,15],[])),(6,([0,5,6,7,13],[])),(7,([0,5,6,7,13,18],[])),(8,([0,5,7,13],[24])),(9,([0,5,6,13],[])),(10,([0,5,6,29],[13])),(11,([5],[34])),(12,([4],[])),(13,([0,1,5,8],[])),(14,([0,1,5,8,41],[])),(15,([4],[44])),(16,([0,1,5,8],[50])),(17,([0,1,5],[])),(1000005,([0,5,6,13],[])),(1000013,([0,1,5],[]))],dd:=[(2,[[],[9]]),(6,[[14]]),(8,[[],[],[6],[],[20,21,22],[23],[19,24]]),(9,[[7]]),(10,[[],[27]]),(11,[[],[0],[6],[31,32],[33],[30,34]]),(12,[[5]]),(13,[[],[],[37,38]]),(15,[[5],[0],[43],[42,44]]),(16,[[],[],[],[47,48],[49],[46,50]]),(17,[[],[8],[],[54],[53,55],[52,56]])] }

def c_dmarc_zzIsSpace:SFn:=⟨1,
 (.seq
 (.region [⟨some 2,.mv (.k (.bool false)),none⟩] [0] [] [])
 (.seq
 (.block 0
 (.seq
 (.seq
 (.region [⟨some 4,.mv (.t 0),none⟩,⟨some 5,.bin .geq (.t 4) (.k (.int .i32 9)),none⟩,⟨some 6,.mv (.t 5),none⟩,⟨some 7,.mv (.t 0),some (6,true)⟩,⟨some 8,.bin .leq (.t 7) (.k (.int .i32 13)),some (6,true)⟩,⟨some 9,.pick (.t 6) (.t 8) (.k (.bool false)),none⟩,⟨some 3,.mv (.t 9),none⟩] [0,3] [] [[],[4],[5],[],[7],[6,8]])
 (.cond (.t 3)
 .skip
 (.seq
 (.region [⟨some 10,.mv (.t 0),none⟩,⟨some 11,.bin .eql (.t 10) (.k (.int .i32 32)),none⟩,⟨some 3,.mv (.t 11),none⟩] [0,3] [] [[],[10]])
 (.cond (.t 3)
 .skip
 (.seq
 (.region [⟨some 12,.mv (.t 0),none⟩,⟨some 13,.bin .eql (.t 12) (.k (.int .i32 133)),none⟩,⟨some 3,.mv (.t 13),none⟩] [0,3] [] [[],[12]])
 (.cond (.t 3)
 .skip
 (.seq
 (.region [⟨some 14,.mv (.t 0),none⟩,⟨some 15,.bin .eql (.t 14) (.k (.int .i32 160)),none⟩,⟨some 3,.mv (.t 15),none⟩] [0,3] [] [[],[14]])
 (.cond (.t 3)
 .skip
 (.seq
 (.region [⟨some 16,.mv (.t 0),none⟩,⟨some 17,.bin .eql (.t 16) (.k (.int .i32 5760)),none⟩,⟨some 3,.mv (.t 17),none⟩] [0,3] [] [[],[16]])
 (.cond (.t 3)
 .skip
 (.seq
 (.region [⟨some 18,.mv (.t 0),none⟩,⟨some 19,.bin .geq (.t 18) (.k (.int .i32 8192)),none⟩,⟨some 20,.mv (.t 19),none⟩,⟨some 21,.mv (.t 0),some (20,true)⟩,⟨some 22,.bin .leq (.t 21) (.k (.int .i32 8202)),some (20,true)⟩,⟨some 23,.pick (.t 20) (.t 22) (.k (.bool false)),none⟩,⟨some 3,.mv (.t 23),none⟩] [0,3] [] [[],[18],[19],[],[21],[20,22]])
 (.cond (.t 3)
 .skip
 (.seq
 (.region [⟨some 24,.mv (.t 0),none⟩,⟨some 25,.bin .eql (.t 24) (.k (.int .i32 8232)),none⟩,⟨some 3,.mv (.t 25),none⟩] [0,3] [] [[],[24]])
 (.cond (.t 3)
 .skip
 (.seq
 (.region [⟨some 26,.mv (.t 0),none⟩,⟨some 27,.bin .eql (.t 26) (.k (.int .i32 8233)),none⟩,⟨some 3,.mv (.t 27),none⟩] [0,3] [] [[],[26]])
 (.cond (.t 3)
 .skip
 (.seq
 (.region [⟨some 28,.mv (.t 0),none⟩,⟨some 29,.bin .eql (.t 28) (.k (.int .i32 8239)),none⟩,⟨some 3,.mv (.t 29),none⟩] [0,3] [] [[],[28]])
 (.cond (.t 3)
 .skip
 (.seq
 (.region [⟨some 30,.mv (.t 0),none⟩,⟨some 31,.bin .eql (.t 30) (.k (.int .i32 8287)),none⟩,⟨some 3,.mv (.t 31),none⟩] [0,3] [] [[],[30]])
 (.cond (.t 3)
 .skip
 (.region [⟨some 32,.mv (.t 0),none⟩,⟨some 33,.bin .eql (.t 32) (.k (.int .i32 12288)),none⟩,⟨some 3,.mv (.t 33),none⟩] [3] [] [[0],[32]])))))))))))))))))))))
 (.cond (.t 3)
 (.seq
 (.region [⟨some 2,.mv (.k (.bool true)),none⟩] [2] [] [])
 .ret)
 .skip)))
 (.seq
 (.region [⟨some 2,.mv (.k (.bool false)),none⟩] [2] [] [])
 .ret))),
 [.t 2]⟩

def l_dmarc_zzIsSpace:Lay:={ rg:=[(0,([0],[])),(1,([0,3],[])),(2,([0,3],[])),(3,([0,3],[])),(4,([0,3],[])),(5,([0,3],[])),(6,([0,3],[])),(7,([0,3],[])),(8,([0,3],[])),(9,([0,3],[])),(10,([0,3],[])),(11,([3],[])),(12,([2],[])),(13,([2],[]))],dd:=[(1,[[],[4],[5],[],[7],[6,8]]),(2,[[],[10]]),(3,[[],[12]]),(4,[[],[14]]),(5,[[],[16]]),(6,[[],[18],[19],[],[21],[20,22]]),(7,[[],[24]]),(8,[[],[26]]),(9,[[],[28]]),(10,[[],[30]]),(11,[[0],[32]])] }

def b_dmarc_zzTrimSpace_1:SCode :=
 (.seq
 (.region [⟨some 17,.nextS (.t 16),none⟩,⟨some 18,.extr (.t 17) 0,none⟩] [0,3,4,16,17,18] [] [])
 (.seq
 (.cond (.t 18)
 .skip
 (.exit 0))
 (.block 1
 (.seq
 (.region [⟨some 19,.extr (.t 17) 1,none⟩,⟨some 20,.extr (.t 17) 2,none⟩,⟨some 5,.mv (.t 19),none⟩,⟨some 6,.mv (.t 20),none⟩] [0,3,4,5,6,16] [] [[],[17],[19]])
 (.seq
 (.region [⟨some 21,.mv (.t 6),none⟩,⟨some 22,.call 168 [(.t 21)],none⟩,⟨some 23,.un .not (.t 22),none⟩] [0,3,4,5,16,23] [] [[6],[21]])
 (.cond (.t 23)
 (.seq
 (.region [⟨some 24,.mv (.t 5),none⟩,⟨some 3,.mv (.t 24),none⟩] [0,3,4] [16] [[5]])
 (.exit 0))
 .skip))))))

def b_dmarc_zzTrimSpace_2:SCode :=
 (.seq
 (.seq
 (.region [⟨some 30,.mv (.t 8),none⟩,⟨some 31,.bin .lss (.t 30) (.k (.int .i64 4)),none⟩,⟨some 32,.mv (.t 31),none⟩,⟨some 33,.mv (.t 7),some (32,true)⟩,⟨some 34,.mv (.t 8),some (32,true)⟩,⟨some 35,.bin .add (.t 33) (.t 34),some (32,true)⟩,⟨some 36,.mv (.t 0),some (32,true)⟩,⟨some 37,.len 0 (.t 36),some (32,true)⟩,⟨some 38,.bin .lss (.t 35) (.t 37),some (32,true)⟩,⟨some 39,.pick (.t 32) (.t 38) (.k (.bool false)),none⟩,⟨some 40,.mv (.t 39),none⟩,⟨some 41,.mv (.t 0),some (40,true)⟩,⟨some 42,.mv (.t 7),some (40,true)⟩,⟨some 43,.iStr (.t 41) (.t 42),some (40,true)⟩,⟨some 44,.bin .geq (.t 43) (.k (.int .u8 192)),some (40,true)⟩,⟨some 45,.pick (.t 40) (.t 44) (.k (.bool false)),none⟩,⟨some 46,.mv (.t 45),none⟩,⟨some 47,.mv (.t 0),some (46,true)⟩,⟨some 48,.mv (.t 7),some (46,true)⟩,⟨some 49,.mv (.t 8),some (46,true)⟩,⟨some 50,.bin .add (.t 48) (.t 49),some (46,true)⟩,⟨some 51,.iStr (.t 47) (.t 50),some (46,true)⟩,⟨some 52,.bin .and (.t 51) (.k (.int .u8 192)),some (46,true)⟩,⟨some 53,.bin .eql (.t 52) (.k (.int .u8 128)),some (46,true)⟩,⟨some 54,.pick (.t 46) (.t 53) (.k (.bool false)),none⟩] [0,3,4,7,8,54] [] [[],[30],[31],[],[],[33,34],[],[36],[35,37],[32,38],[39],[],[],[41,42],[43],[40,44],[45],[],[],[],[48,49],[47,50],[51],[52]])
 (.cond (.t 54)
 .skip
 (.exit 4)))
 (.block 5
 (.region [⟨some 55,.mv (.t 8),none⟩,⟨some 56,.bin .add (.t 55) (.k (.int .i64 1)),none⟩,⟨some 8,.mv (.t 56),none⟩] [0,3,4,7,8] [] [[],[55]])))

def t_dmarc_zzTrimSpace_3:SCode :=
 (.seq
 (.seq
 (.region [⟨some 57,.mv (.t 0),none⟩,⟨some 58,.mv (.t 7),none⟩,⟨some 59,.mv (.t 7),none⟩,⟨some 60,.mv (.t 8),none⟩,⟨some 61,.bin .add (.t 59) (.t 60),none⟩,⟨some 62,.slStr (.t 57) (some (.t 58)) (some (.t 61)),none⟩,⟨some 63,.cStrRunes (.t 62),none⟩,⟨some 9,.mv (.t 63),none⟩] [0,3,4,7,8,9] [] [[],[],[],[],[59,60],[57,58,61],[62]])
 (.seq
 (.region [⟨some 64,.mv (.t 9),none⟩,⟨some 65,.len 1 (.t 64),none⟩,⟨some 66,.bin .gtr (.t 65) (.k (.int .i64 1)),none⟩] [0,3,4,7,8,66] [63] [[9],[64]])
 (.cond (.t 66)
 (.region [⟨some 8,.mv (.k (.int .i64 1)),none⟩] [0,3,4,7,8] [] [])
 .skip)))
 (.seq
 (.seq
 (.region [⟨some 67,.mv (.t 0),none⟩,⟨some 68,.mv (.t 7),none⟩,⟨some 69,.mv (.t 7),none⟩,⟨some 70,.mv (.t 8),none⟩,⟨some 71,.bin .add (.t 69) (.t 70),none⟩,⟨some 72,.slStr (.t 67) (some (.t 68)) (some (.t 71)),none⟩,⟨some 73,.cStrRunes (.t 72),none⟩,⟨some 10,.mv (.t 73),none⟩] [0,3,4,7,8,10] [] [[],[],[],[],[69,70],[67,68,71],[72]])
 (.seq
 (.region [⟨some 74,.mv (.t 10),none⟩,⟨some 75,.len 1 (.t 74),none⟩,⟨some 76,.bin .neq (.t 75) (.k (.int .i64 1)),none⟩,⟨some 77,.mv (.t 76),none⟩,⟨some 78,.mv (.t 10),some (77,false)⟩,⟨some 79,.iAddr 1 (.t 78) (.k (.int .i64 0)),some (77,false)⟩,⟨some 80,.load none (.t 79),some (77,false)⟩,⟨some 81,.call 168 [(.t 80)],some (77,false)⟩,⟨some 82,.un .not (.t 81),some (77,false)⟩,⟨some 83,.pick (.t 77) (.k (.bool true)) (.t 82),none⟩] [0,3,4,7,8,83] [73] [[],[74],[75],[76],[10],[78],[79],[80],[81]])
 (.cond (.t 83)
 (.region [⟨some 84,.mv (.t 7),none⟩,⟨some 85,.mv (.t 8),none⟩,⟨some 86,.bin .add (.t 84) (.t 85),none⟩,⟨some 4,.mv (.t 86),none⟩] [0,3,4,7,8] [] [[],[],[84,85]])
 .skip)))
 (.region [⟨some 87,.mv (.t 7),none⟩,⟨some 88,.mv (.t 8),none⟩,⟨some 89,.bin .add (.t 87) (.t 88),none⟩,⟨some 7,.mv (.t 89),none⟩] [0,3,4,7] [] [[],[8],[87,88]])))

def b_dmarc_zzTrimSpace_4:SCode :=
 (.seq
 (.seq
 (.region [⟨some 26,.mv (.t 7),none⟩,⟨some 27,.mv (.t 0),none⟩,⟨some 28,.len 0 (.t 27),none⟩,⟨some 29,.bin .lss (.t 26) (.t 28),none⟩] [0,3,4,7,29] [] [[],[],[27]])
 (.cond (.t 29)
 .skip
 (.exit 2)))
 (.block 3
 (.seq
 (.region [⟨some 8,.mv (.k (.int .i64 1)),none⟩] [0,3,4,7,8] [] [])
 (.seq
 (.block 4
 (.loop [0,3,4,7,8]
 b_dmarc_zzTrimSpace_2))
 t_dmarc_zzTrimSpace_3))))

def t_dmarc_zzTrimSpace_5:SCode :=
 (.seq
 (.seq
 (.region [⟨some 90,.mv (.t 3),none⟩,⟨some 91,.mv (.t 0),none⟩,⟨some 92,.len 0 (.t 91),none⟩,⟨some 93,.bin .eql (.t 90) (.t 92),none⟩] [0,3,4,93] [] [[],[],[91]])
 (.cond (.t 93)
 (.seq
 (.region [⟨some 2,.mv (.k (.str [])),none⟩] [2] [] [])
 .ret)
 .skip))
 (.seq
 (.region [⟨some 94,.mv (.t 0),none⟩,⟨some 95,.mv (.t 3),none⟩,⟨some 96,.mv (.t 4),none⟩,⟨some 97,.slStr (.t 94) (some (.t 95)) (some (.t 96)),none⟩,⟨some 2,.mv (.t 97),none⟩] [2] [] [[0],[3],[4],[94,95,96]])
 .ret))

def t_dmarc_zzTrimSpace_6:SCode :=
 (.seq
 (.seq
 (.region [⟨some 25,.mv (.t 3),none⟩,⟨some 7,.mv (.t 25),none⟩] [0,3,4,7] [16] [])
 (.block 2
 (.loop [0,3,4,7]
 b_dmarc_zzTrimSpace_4)))
 t_dmarc_zzTrimSpace_5)

def c_dmarc_zzTrimSpace:SFn:=⟨1,
 (.seq
 (.region [⟨some 2,.mv (.k (.str [])),none⟩] [0] [] [])
 (.seq
 (.region [⟨some 11,.mv (.t 0),none⟩,⟨some 12,.len 0 (.t 11),none⟩,⟨some 13,.mv (.t 0),none⟩,⟨some 14,.len 0 (.t 13),none⟩,⟨some 3,.mv (.t 12),none⟩,⟨some 4,.mv (.t 14),none⟩] [0,3,4] [] [[],[11],[],[13],[12]])
 (.seq
 (.seq
 (.region [⟨some 15,.mv (.t 0),none⟩,⟨some 16,.rangeS (.t 15),none⟩] [0,3,4,16] [] [])
 (.block 0
 (.loop [0,3,4,16]
 b_dmarc_zzTrimSpace_1)))
 t_dmarc_zzTrimSpace_6))),
 [.t 2]⟩

def l_dmarc_zzTrimSpace:Lay:={ rg:=[(0,([0],[])),(1,([0,3,4],[])),(2,([0,3,4,16],[])),(3,([0,3,4,16,17,18],[])),(4,([0,3,4,5,6,16],[])),(5,([0,3,4,5,16,23],[])),(6,([0,3,4],[16])),(7,([0,3,4,7],[16])),(8,([0,3,4,7,29],[])),(9,([0,3,4,7,8],[])),(10,([0,3,4,7,8,54],[])),(11,([0,3,4,7,8],[])),(12,([0,3,4,7,8,9],[])),(13,([0,3,4,7,8,66],[63])),(14,([0,3,4,7,8],[])),(15,([0,3,4,7,8,10],[])),(16,([0,3,4,7,8,83],[73])),(17,([0,3,4,7,8],[])),(18,([0,3,4,7],[])),(19,([0,3,4,93],[])),(20,([2],[])),(21,([2],[])),(1000003,([0,3,4,16],[])),(1000008,([0,3,4,7],[])),(1000010,([0,3,4,7,8],[]))],dd:=[(1,[[],[11],[],[13],[12]]),(4,[[],[17],[19]]),(5,[[6],[21]]),(6,[[5]]),(8,[[],[],[27]]),(10,[[],[30],[31],[],[],[33,34],[],[36],[35,37],[32,38],[39],[],[],[41,42],[43],[40,44],[45],[],[],[],[48,49],[47,50],[51],[52]]),(11,[[],[55]]),(12,[[],[],[],[],[59,60],[57,58,61],[62]]),(13,[[9],[64]]),(15,[[],[],[],[],[69,70],[67,68,71],[72]]),(16,[[],[74],[75],[76],[10],[78],[79],[80],[81]]),(17,[[],[],[84,85]]),(18,[[],[8],[87,88]]),(19,[[],[],[91]]),(21,[[0],[3],[4],[94,95,96]])] }

def b_dmarc_zzCut2_1:SCode :=
 (.seq
 (.seq
 (.region [⟨some 6,.mv (.t 5),none⟩,⟨some 7,.mv (.t 0),none⟩,⟨some 8,.len 0 (.t 7),none⟩,⟨some 9,.bin .lss (.t 6) (.t 8),none⟩] [0,1,5,9] [] [[],[],[7]])
 (.cond (.t 9)
 .skip
 (.exit 0)))
 (.seq
 (.block 1
 (.seq
 (.region [⟨some 12,.mv (.t 0),none⟩,⟨some 13,.mv (.t 5),none⟩,⟨some 14,.iStr (.t 12) (.t 13),none⟩,⟨some 15,.mv (.t 1),none⟩,⟨some 16,.bin .eql (.t 14) (.t 15),none⟩] [0,1,5,16] [] [[],[],[12,13]])
 (.cond (.t 16)
 (.seq
 (.region [⟨some 17,.mv (.t 0),none⟩,⟨some 18,.mv (.t 5),none⟩,⟨some 19,.slStr (.t 17) none (some (.t 18)),none⟩,⟨some 20,.mv (.t 0),none⟩,⟨some 21,.mv (.t 5),none⟩,⟨some 22,.bin .add (.t 21) (.k (.int .i64 1)),none⟩,⟨some 23,.slStr (.t 20) (some (.t 22)) none,none⟩,⟨some 24,.mkSl 1 2 [(.str [])] [(0,(.t 19)),(1,(.t 23))],none⟩,⟨some 4,.mv (.t 24),none⟩] [4] [] [])
 .ret)
 .skip)))
 (.region [⟨some 10,.mv (.t 5),none⟩,⟨some 11,.bin .add (.t 10) (.k (.int .i64 1)),none⟩,⟨some 5,.mv (.t 11),none⟩] [0,1,5] [] [[],[10]])))

def t_dmarc_zzCut2_2:SCode :=
 (.seq
 (.region [⟨some 25,.mv (.t 0),none⟩,⟨some 26,.mkSl 1 1 [(.str [])] [(0,(.t 25))],none⟩,⟨some 4,.mv (.t 26),none⟩] [4] [] [[0],[25]])
 .ret)

def c_dmarc_zzCut2:SFn:=⟨2,
 (.seq
 (.region [⟨some 4,.mv (.k .nilS),none⟩] [0,1] [] [])
 (.seq
 (.seq
 (.region [⟨some 5,.mv (.k (.int .i64 0)),none⟩] [0,1,5] [] [])
 (.block 0
 (.loop [0,1,5]
 b_dmarc_zzCut2_1)))
 t_dmarc_zzCut2_2)),
 [.t 4]⟩

def l_dmarc_zzCut2:Lay:={ rg:=[(0,([0,1],[])),(1,([0,1,5],[])),(2,([0,1,5,9],[])),(3,([0,1,5],[])),(4,([0,1,5,16],[])),(5,([4],[])),(6,([4],[])),(1000002,([0,1,5],[]))],dd:=[(2,[[],[],[7]]),(3,[[],[10]]),(4,[[],[],[12,13]]),(6,[[0],[25]])] }

def b_dmarc_parseParams_1:SCode :=
 (.seq
 (.region [⟨some 15,.bin .lss (.t 14) (.t 13),none⟩] [5,12,13,14,15] [] [])
 (.seq
 (.cond (.t 15)
 .skip
 (.exit 0))
 (.seq
 (.block 1
 (.seq
 (.region [⟨some 16,.iAddr 1 (.t 12) (.t 14),none⟩,⟨some 17,.load none (.t 16),none⟩,⟨some 7,.mv (.t 17),none⟩] [5,7,12,13,14] [] [[],[16]])
 (.seq
 (.region [⟨some 18,.mv (.t 7),none⟩,⟨some 19,.call 159 [(.t 18),(.k (.int .u8 61))],none⟩,⟨some 8,.mv (.t 19),none⟩] [5,7,8,12,13,14] [] [[],[18]])
 (.seq
 (.seq
 (.region [⟨some 20,.mv (.t 8),none⟩,⟨some 21,.len 1 (.t 20),none⟩,⟨some 22,.bin .neq (.t 21) (.k (.int .i64 2)),none⟩] [5,7,8,12,13,14,22] [] [[],[20]])
 (.cond (.t 22)
 (.seq
 (.seq
 (.region [⟨some 23,.mv (.t 7),none⟩,⟨some 24,.call 160 [(.t 23)],none⟩,⟨some 25,.bin .eql (.t 24) (.k (.str [])),none⟩] [5,12,13,14,25] [] [[7],[23]])
 (.cond (.t 25)
 (.exit 1)
 .skip))
 (.seq
 (.region [⟨some 26,.mv (.t 5),none⟩,⟨some 27,.call 50 [(.k (.str [100,109,97,114,99,58,32,109,97,108,102,111,114,109,101,100,32,112,97,114,97,109,115]))],none⟩,⟨some 2,.mv (.t 26),none⟩,⟨some 3,.mv (.t 27),none⟩] [2,3] [10,100010] [[5],[],[26]])
 .ret))
 .skip))
 (.region [⟨some 28,.mv (.t 5),none⟩,⟨some 29,.mv (.t 8),none⟩,⟨some 30,.iAddr 1 (.t 29) (.k (.int .i64 0)),none⟩,⟨some 31,.load none (.t 30),none⟩,⟨some 32,.call 160 [(.t 31)],none⟩,⟨some 33,.mv (.t 8),none⟩,⟨some 34,.iAddr 1 (.t 33) (.k (.int .i64 1)),none⟩,⟨some 35,.load none (.t 34),none⟩,⟨some 36,.call 160 [(.t 35)],none⟩,
 ⟨none,.mput (.t 28) (.t 32) (.t 36),none⟩] [5,12,13,14] [] [])))))
 (.region [⟨some 37,.bin .add (.t 14) (.k (.int .i64 1)),none⟩,⟨some 14,.mv (.t 37),none⟩] [5,12,13,14] [] []))))

def t_dmarc_parseParams_2:SCode :=
 (.seq
 (.region [⟨some 38,.mv (.t 5),none⟩,⟨some 2,.mv (.t 38),none⟩,⟨some 3,.mv (.k .nilI),none⟩] [2,3] [10,100010] [[5],[38]])
 .ret)

def c_dmarc_parseParams:SFn:=⟨1,
 (.seq
 (.region [⟨some 2,.mv (.k .nilM),none⟩,⟨some 3,.mv (.k .nilI),none⟩] [0] [] [[2]])
 (.seq
 (.region [⟨some 9,.mv (.t 0),none⟩,⟨some 10,.callS 154 [(.t 9),(.k (.str [59]))],none⟩,⟨some 4,.mv (.t 10),none⟩] [4] [] [[0],[9]])
 (.seq
 (.region [⟨some 11,.mkMap,none⟩,⟨some 5,.mv (.t 11),none⟩] [4,5] [] [])
 (.seq
 (.seq
 (.region [⟨some 12,.mv (.t 4),none⟩,⟨some 13,.len 1 (.t 12),none⟩,⟨some 14,.mv (.k (.int .i64 0)),none⟩] [5,12,13,14] [] [[4]])
 (.block 0
 (.loop [5,12,13,14]
 b_dmarc_parseParams_1)))
 t_dmarc_parseParams_2)))),
 [.t 2,.t 3]⟩

def l_dmarc_parseParams:Lay:={ rg:=[(0,([0],[])),(1,([4],[])),(2,([4,5],[])),(3,([5,12,13,14],[])),(4,([5,12,13,14,15],[])),(5,([5,7,12,13,14],[])),(6,([5,7,8,12,13,14],[])),(7,([5,7,8,12,13,14,22],[])),(8,([5,12,13,14,25],[])),(9,([2,3],[10,100010])),(10,([5,12,13,14],[])),(11,([5,12,13,14],[])),(12,([2,3],[10,100010])),(1000004,([5,12,13,14],[]))],dd:=[(0,[[2]]),(1,[[0],[9]]),(3,[[4]]),(5,[[],[16]]),(6,[[],[18]]),(7,[[],[20]]),(8,[[7],[23]]),(9,[[5],[],[26]]),(12,[[5],[38]])],sf:=[154] }

def c_dmarc_parsePolicy:SFn:=⟨2,
 (.seq
 (.region [⟨some 4,.mv (.k (.str [])),none⟩,⟨some 5,.mv (.k .nilI),none⟩] [0,1] [] [[4]])
 (.seq
 (.region [⟨some 6,.mv (.t 0),none⟩] [0,1,6] [] [])
 (.block 0
 (.seq
 (.seq
 (.region [⟨some 11,.bin .eql (.t 6) (.k (.str [110,111,110,101])),none⟩,⟨some 10,.mv (.t 11),none⟩] [0,1,6,10] [] [])
 (.cond (.t 10)
 .skip
 (.seq
 (.region [⟨some 12,.bin .eql (.t 6) (.k (.str [113,117,97,114,97,110,116,105,110,101])),none⟩,⟨some 10,.mv (.t 12),none⟩] [0,1,6,10] [] [])
 (.cond (.t 10)
 .skip
 (.region [⟨some 13,.bin .eql (.t 6) (.k (.str [114,101,106,101,99,116])),none⟩,⟨some 10,.mv (.t 13),none⟩] [0,1,10] [] [[6]])))))
 (.cond (.t 10)
 (.seq
 (.region [⟨some 14,.mv (.t 0),none⟩,⟨some 4,.mv (.t 14),none⟩,⟨some 5,.mv (.k .nilI),none⟩] [4,5] [] [[0],[14]])
 .ret)
 (.seq
 (.region [⟨some 7,.mv (.t 1),none⟩,⟨some 8,.bin .add (.k (.str [100,109,97,114,99,58,32,105,110,118,97,108,105,100,32,112,111,108,105,99,121,32,102,111,114,32,112,97,114,97,109,101,116,101,114,32])) (.t 7),none⟩,⟨some 9,.call 50 [(.t 8)],none⟩,⟨some 4,.mv (.k (.str [])),none⟩,⟨some 5,.mv (.t 9),none⟩] [4,5] [] [[1],[7],[8]])
 .ret)))))),
 [.t 4,.t 5]⟩

def l_dmarc_parsePolicy:Lay:={ rg:=[(0,([0,1],[])),(1,([0,1,6],[])),(2,([4,5],[])),(3,([0,1,6,10],[])),(4,([0,1,6,10],[])),(5,([0,1,10],[])),(6,([4,5],[]))],dd:=[(0,[[4]]),(2,[[1],[7],[8]]),(5,[[6]]),(6,[[0],[14]])] }

def c_dmarc_parseAlignmentMode:SFn:=⟨2,
 (.seq
 (.region [⟨some 4,.mv (.k (.str [])),none⟩,⟨some 5,.mv (.k .nilI),none⟩] [0,1] [] [[4]])
 (.seq
 (.region [⟨some 6,.mv (.t 0),none⟩] [0,1,6] [] [])
 (.block 0
 (.seq
 (.seq
 (.region [⟨some 11,.bin .eql (.t 6) (.k (.str [114])),none⟩,⟨some 10,.mv (.t 11),none⟩] [0,1,6,10] [] [])
 (.cond (.t 10)
 .skip
 (.region [⟨some 12,.bin .eql (.t 6) (.k (.str [115])),none⟩,⟨some 10,.mv (.t 12),none⟩] [0,1,10] [] [[6]])))
 (.cond (.t 10)
 (.seq
 (.region [⟨some 13,.mv (.t 0),none⟩,⟨some 4,.mv (.t 13),none⟩,⟨some 5,.mv (.k .nilI),none⟩] [4,5] [] [[0],[13]])
 .ret)
 (.seq
 (.region [⟨some 7,.mv (.t 1),none⟩,⟨some 8,.bin .add (.k (.str [100,109,97,114,99,58,32,105,110,118,97,108,105,100,32,97,108,105,103,110,109,101,110,116,32,109,111,100,101,32,102,111,114,32,112,97,114,97,109,101,116,101,114,32])) (.t 7),none⟩,⟨some 9,.call 50 [(.t 8)],none⟩,⟨some 4,.mv (.k (.str [])),none⟩,⟨some 5,.mv (.t 9),none⟩] [4,5] [] [[1],[7],[8]])
 .ret)))))),
 [.t 4,.t 5]⟩

def l_dmarc_parseAlignmentMode:Lay:={ rg:=[(0,([0,1],[])),(1,([0,1,6],[])),(2,([4,5],[])),(3,([0,1,6,10],[])),(4,([0,1,10],[])),(5,([4,5],[]))],dd:=[(0,[[4]]),(2,[[1],[7],[8]]),(4,[[6]]),(5,[[0],[13]])] }

def b_dmarc_parseFailureOptions_1:SCode :=
 (.seq
 (.region [⟨some 13,.bin .lss (.t 12) (.t 11),none⟩] [5,10,11,12,13] [] [])
 (.seq
 (.cond (.t 13)
 .skip
 (.exit 0))
 (.seq
 (.block 1
 (.seq
 (.region [⟨some 14,.iAddr 1 (.t 10) (.t 12),none⟩,⟨some 15,.load none (.t 14),none⟩,⟨some 7,.mv (.t 15),none⟩] [5,7,10,11,12] [] [[],[14]])
 (.seq
 (.region [⟨some 16,.mv (.t 7),none⟩,⟨some 17,.call 160 [(.t 16)],none⟩] [5,10,11,12,17] [] [[7]])
 (.block 2
 (.seq
 (.region [⟨some 20,.bin .eql (.t 17) (.k (.str [48])),none⟩,⟨some 19,.mv (.t 20),none⟩] [5,10,11,12,17,19] [] [])
 (.cond (.t 19)
 (.region [⟨some 21,.mv (.t 5),none⟩,⟨some 22,.bin .or (.t 21) (.k (.int .i64 1)),none⟩,⟨some 5,.mv (.t 22),none⟩] [5,10,11,12] [] [[],[21]])
 (.seq
 (.region [⟨some 24,.bin .eql (.t 17) (.k (.str [49])),none⟩,⟨some 23,.mv (.t 24),none⟩] [5,10,11,12,17,23] [] [])
 (.cond (.t 23)
 (.region [⟨some 25,.mv (.t 5),none⟩,⟨some 26,.bin .or (.t 25) (.k (.int .i64 2)),none⟩,⟨some 5,.mv (.t 26),none⟩] [5,10,11,12] [] [[],[25]])
 (.seq
 (.region [⟨some 28,.bin .eql (.t 17) (.k (.str [100])),none⟩,⟨some 27,.mv (.t 28),none⟩] [5,10,11,12,17,27] [] [])
 (.cond (.t 27)
 (.region [⟨some 29,.mv (.t 5),none⟩,⟨some 30,.bin .or (.t 29) (.k (.int .i64 4)),none⟩,⟨some 5,.mv (.t 30),none⟩] [5,10,11,12] [] [[],[29]])
 (.seq
 (.region [⟨some 32,.bin .eql (.t 17) (.k (.str [115])),none⟩,⟨some 31,.mv (.t 32),none⟩] [5,10,11,12,31] [] [[17]])
 (.cond (.t 31)
 (.region [⟨some 33,.mv (.t 5),none⟩,⟨some 34,.bin .or (.t 33) (.k (.int .i64 8)),none⟩,⟨some 5,.mv (.t 34),none⟩] [5,10,11,12] [] [[],[33]])
 (.seq
 (.region [⟨some 18,.call 50 [(.k (.str [100,109,97,114,99,58,32,105,110,118,97,108,105,100,32,102,97,105,108,117,114,101,32,111,112,116,105,111,110,32,105,110,32,112,97,114,97,109,101,116,101,114,32,39,102,111,39]))],none⟩,⟨some 2,.mv (.k (.int .i64 0)),none⟩,⟨some 3,.mv (.t 18),none⟩] [2,3] [9,100009] [])
 .ret)))))))))))))
 (.region [⟨some 35,.bin .add (.t 12) (.k (.int .i64 1)),none⟩,⟨some 12,.mv (.t 35),none⟩] [5,10,11,12] [] []))))

def t_dmarc_parseFailureOptions_2:SCode :=
 (.seq
 (.region [⟨some 36,.mv (.t 5),none⟩,⟨some 2,.mv (.t 36),none⟩,⟨some 3,.mv (.k .nilI),none⟩] [2,3] [9,100009] [[5],[36]])
 .ret)

def c_dmarc_parseFailureOptions:SFn:=⟨1,
 (.seq
 (.region [⟨some 2,.mv (.k (.int .i64 0)),none⟩,⟨some 3,.mv (.k .nilI),none⟩] [0] [] [[2]])
 (.seq
 (.region [⟨some 8,.mv (.t 0),none⟩,⟨some 9,.callS 154 [(.t 8),(.k (.str [58]))],none⟩,⟨some 4,.mv (.t 9),none⟩] [4] [] [[0],[8]])
 (.seq
 (.region [⟨some 5,.mv (.k (.int .i64 0)),none⟩] [4,5] [] [])
 (.seq
 (.seq
 (.region [⟨some 10,.mv (.t 4),none⟩,⟨some 11,.len 1 (.t 10),none⟩,⟨some 12,.mv (.k (.int .i64 0)),none⟩] [5,10,11,12] [] [[4]])
 (.block 0
 (.loop [5,10,11,12]
 b_dmarc_parseFailureOptions_1)))
 t_dmarc_parseFailureOptions_2)))),
 [.t 2,.t 3]⟩

def l_dmarc_parseFailureOptions:Lay:={ rg:=[(0,([0],[])),(1,([4],[])),(2,([4,5],[])),(3,([5,10,11,12],[])),(4,([5,10,11,12,13],[])),(5,([5,7,10,11,12],[])),(6,([5,10,11,12,17],[])),(7,([2,3],[9,100009])),(8,([5,10,11,12,17,19],[])),(9,([5,10,11,12],[])),(10,([5,10,11,12,17,23],[])),(11,([5,10,11,12],[])),(12,([5,10,11,12,17,27],[])),(13,([5,10,11,12],[])),(14,([5,10,11,12,31],[])),(15,([5,10,11,12],[])),(16,([5,10,11,12],[])),(17,([2,3],[9,100009])),(1000004,([5,10,11,12],[]))],dd:=[(0,[[2]]),(1,[[0],[8]]),(3,[[4]]),(5,[[],[14]]),(6,[[7]]),(9,[[],[21]]),(11,[[],[25]]),(13,[[],[29]]),(14,[[17]]),(15,[[],[33]]),(17,[[5],[36]])],sf:=[154] }

def b_dmarc_parseURIList_1:SCode :=
 (.seq
 (.region [⟨some 11,.bin .lss (.t 10) (.t 9),none⟩] [3,8,9,10,11] [] [])
 (.seq
 (.cond (.t 11)
 .skip
 (.exit 0))
 (.seq
 (.block 1
 (.seq
 (.region [⟨some 12,.mv (.t 10),none⟩,⟨some 13,.iAddr 1 (.t 8) (.t 10),none⟩,⟨some 14,.load none (.t 13),none⟩,⟨some 4,.mv (.t 12),none⟩,⟨some 5,.mv (.t 14),none⟩] [3,4,5,8,9,10] [] [[],[],[13],[12]])
 (.region [⟨some 15,.mv (.t 3),none⟩,⟨some 16,.mv (.t 4),none⟩,⟨some 17,.mv (.t 5),none⟩,⟨some 18,.call 160 [(.t 17)],none⟩,⟨some 19,.iAddr 1 (.t 15) (.t 16),none⟩,
 ⟨none,.store 1 (.t 19) (.t 18),none⟩] [3,8,9,10] [] [[],[4],[5],[17],[15,16]])))
 (.region [⟨some 20,.bin .add (.t 10) (.k (.int .i64 1)),none⟩,⟨some 10,.mv (.t 20),none⟩] [3,8,9,10] [] []))))

def t_dmarc_parseURIList_2:SCode :=
 (.seq
 (.region [⟨some 21,.mv (.t 3),none⟩,⟨some 2,.mv (.t 21),none⟩] [2] [] [[3]])
 .ret)

def c_dmarc_parseURIList:SFn:=⟨1,
 (.seq
 (.region [⟨some 2,.mv (.k .nilS),none⟩] [0] [] [])
 (.seq
 (.region [⟨some 6,.mv (.t 0),none⟩,⟨some 7,.callS 154 [(.t 6),(.k (.str [44]))],none⟩,⟨some 3,.mv (.t 7),none⟩] [3] [] [[0],[6]])
 (.seq
 (.seq
 (.region [⟨some 8,.mv (.t 3),none⟩,⟨some 9,.len 1 (.t 8),none⟩,⟨some 10,.mv (.k (.int .i64 0)),none⟩] [3,8,9,10] [] [])
 (.block 0
 (.loop [3,8,9,10]
 b_dmarc_parseURIList_1)))
 t_dmarc_parseURIList_2))),
 [.t 2]⟩

def l_dmarc_parseURIList:Lay:={ rg:=[(0,([0],[])),(1,([3],[])),(2,([3,8,9,10],[])),(3,([3,8,9,10,11],[])),(4,([3,4,5,8,9,10],[])),(5,([3,8,9,10],[])),(6,([3,8,9,10],[])),(7,([2],[])),(1000003,([3,8,9,10],[]))],dd:=[(1,[[0],[6]]),(4,[[],[],[13],[12]]),(5,[[],[4],[5],[17],[15,16]]),(7,[[3]])],sf:=[154] }

def b_dmarc_Parse_1:SCode :=
 (.seq
 (.region [⟨some 164,.bin .lss (.t 163) (.t 162),none⟩] [4,6,161,162,163,164] [] [])
 (.seq
 (.cond (.t 164)
 .skip
 (.exit 0))
 (.seq
 (.block 1
 (.seq
 (.region [⟨some 165,.mv (.t 163),none⟩,⟨some 166,.iAddr 1 (.t 161) (.t 163),none⟩,⟨some 167,.load none (.t 166),none⟩,⟨some 22,.mv (.t 165),none⟩,⟨some 23,.mv (.t 167),none⟩] [4,6,22,23,161,162,163] [] [[],[],[166],[165]])
 (.seq
 (.region [⟨some 168,.mv (.t 23),none⟩] [4,6,22,23,161,162,163,168] [] [])
 (.block 2
 (.seq
 (.region [⟨some 171,.bin .eql (.t 168) (.k (.str [97,102,114,102])),none⟩,⟨some 170,.mv (.t 171),none⟩] [4,6,22,23,161,162,163,170] [] [[168]])
 (.cond (.t 170)
 (.region [⟨some 172,.mv (.t 6),none⟩,⟨some 173,.chk (.t 172),none⟩,⟨some 174,.fAddr 5 (.t 173),none⟩,⟨some 175,.load none (.t 174),none⟩,⟨some 176,.mv (.t 22),none⟩,⟨some 177,.mv (.t 23),none⟩,⟨some 178,.iAddr 1 (.t 175) (.t 176),none⟩,
 ⟨none,.store 1 (.t 178) (.t 177),none⟩] [4,6,161,162,163] [] [[],[172],[173],[174],[22],[23],[175,176]])
 (.seq
 (.region [⟨some 169,.call 50 [(.k (.str [100,109,97,114,99,58,32,105,110,118,97,108,105,100,32,112,97,114,97,109,101,116,101,114,32,39,114,102,39]))],none⟩,⟨some 2,.mv (.k .nilP),none⟩,⟨some 3,.mv (.t 169),none⟩] [2,3] [] [])
 .ret)))))))
 (.region [⟨some 179,.bin .add (.t 163) (.k (.int .i64 1)),none⟩,⟨some 163,.mv (.t 179),none⟩] [4,6,161,162,163] [] []))))

def f_dmarc_Parse_2:SCode :=
 (.seq
 (.region [⟨some 152,.mv (.t 20),none⟩] [4,6,19,152] [] [])
 (.cond (.t 152)
 (.seq
 (.region [⟨some 153,.mv (.t 19),none⟩,⟨some 154,.callS 154 [(.t 153),(.k (.str [58]))],none⟩,⟨some 21,.mv (.t 154),none⟩] [4,6,21] [] [[19],[153]])
 (.seq
 (.region [⟨some 155,.mv (.t 6),none⟩,⟨some 156,.mv (.t 21),none⟩,⟨some 157,.len 1 (.t 156),none⟩,⟨some 158,.mkSlice 1 16 [(.str [])] (.t 157) (.t 157),none⟩,⟨some 159,.chk (.t 155),none⟩,⟨some 160,.fAddr 5 (.t 159),none⟩,
 ⟨none,.store 1 (.t 160) (.t 158),none⟩] [4,6,21] [] [[],[],[156],[157],[155],[159]])
 (.seq
 (.region [⟨some 161,.mv (.t 21),none⟩,⟨some 162,.len 1 (.t 161),none⟩,⟨some 163,.mv (.k (.int .i64 0)),none⟩] [4,6,161,162,163] [] [[21]])
 (.block 0
 (.loop [4,6,161,162,163]
 b_dmarc_Parse_1)))))
 .skip))

def f_dmarc_Parse_3:SCode :=
 (.seq
 (.region [⟨some 185,.mv (.t 25),none⟩] [4,6,24,185] [] [])
 (.cond (.t 185)
 (.seq
 (.region [⟨some 187,.mv (.t 24),none⟩,⟨some 188,.call 153 [(.t 187)],none⟩,⟨some 186,.mv (.t 188),none⟩,⟨some 189,.extr (.t 186) 0,none⟩,⟨some 190,.extr (.t 186) 1,none⟩,⟨some 26,.mv (.t 189),none⟩,⟨some 27,.mv (.t 190),none⟩] [4,6,26,27] [] [[24],[187],[188],[],[186],[189]])
 (.seq
 (.seq
 (.region [⟨some 191,.mv (.t 27),none⟩,⟨some 192,.isNil 0 true (.t 191),none⟩] [4,6,26,192] [] [[27]])
 (.cond (.t 192)
 (.seq
 (.region [⟨some 193,.call 50 [(.k (.str [100,109,97,114,99,58,32,105,110,118,97,108,105,100,32,112,97,114,97,109,101,116,101,114,32,39,114,105,39]))],none⟩,⟨some 2,.mv (.k .nilP),none⟩,⟨some 3,.mv (.t 193),none⟩] [2,3] [] [])
 .ret)
 .skip))
 (.seq
 (.seq
 (.region [⟨some 194,.mv (.t 26),none⟩,⟨some 195,.bin .leq (.t 194) (.k (.int .i64 0)),none⟩] [4,6,26,195] [] [])
 (.cond (.t 195)
 (.seq
 (.region [⟨some 196,.call 50 [(.k (.str [100,109,97,114,99,58,32,105,110,118,97,108,105,100,32,112,97,114,97,109,101,116,101,114,32,39,114,105,39,58,32,110,101,103,97,116,105,118,101,32,111,114,32,122,101,114,111,32,100,117,114,97,116,105,111,110]))],none⟩,⟨some 2,.mv (.k .nilP),none⟩,⟨some 3,.mv (.t 196),none⟩] [2,3] [] [])
 .ret)
 .skip))
 (.region [⟨some 197,.mv (.t 6),none⟩,⟨some 198,.mv (.t 26),none⟩,⟨some 199,.chk (.t 197),none⟩,⟨some 200,.fAddr 6 (.t 199),none⟩,
 ⟨none,.store 1 (.t 200) (.t 198),none⟩] [4,6] [] [[],[26],[197],[199]]))))
 .skip))

def f_dmarc_Parse_4:SCode :=
 (.seq
 (.region [⟨some 240,.mv (.t 6),none⟩,⟨some 2,.mv (.t 240),none⟩,⟨some 3,.mv (.k .nilI),none⟩] [2,3] [] [[6],[240]])
 .ret)

def f_dmarc_Parse_5:SCode :=
 (.seq
 (.seq
 (.region [⟨some 224,.mv (.t 4),none⟩,⟨some 225,.look (.str []) true (.t 224) (.k (.str [115,112])),none⟩,⟨some 223,.mv (.t 225),none⟩,⟨some 226,.extr (.t 223) 0,none⟩,⟨some 227,.extr (.t 223) 1,none⟩,⟨some 32,.mv (.t 226),none⟩,⟨some 33,.mv (.t 227),none⟩] [6,32,33] [] [[4],[224],[225],[],[223],[226]])
 (.seq
 (.region [⟨some 228,.mv (.t 33),none⟩] [6,32,228] [] [])
 (.cond (.t 228)
 (.seq
 (.region [⟨some 230,.mv (.t 6),none⟩,⟨some 231,.mv (.t 32),none⟩,⟨some 232,.call 150 [(.t 231),(.k (.str [115,112]))],none⟩,⟨some 229,.mv (.t 232),none⟩,⟨some 233,.extr (.t 229) 0,none⟩,⟨some 234,.extr (.t 229) 1,none⟩,⟨some 235,.chk (.t 230),none⟩,⟨some 236,.fAddr 9 (.t 235),none⟩,
 ⟨none,.store 1 (.t 236) (.t 233),none⟩,⟨some 5,.mv (.t 234),none⟩] [5,6] [] [[],[32],[231],[232],[],[229],[230],[235],[233,236]])
 (.seq
 (.region [⟨some 237,.mv (.t 5),none⟩,⟨some 238,.isNil 0 true (.t 237),none⟩] [5,6,238] [] [])
 (.cond (.t 238)
 (.seq
 (.region [⟨some 239,.mv (.t 5),none⟩,⟨some 2,.mv (.k .nilP),none⟩,⟨some 3,.mv (.t 239),none⟩] [2,3] [] [[5]])
 .ret)
 .skip)))
 .skip)))
 f_dmarc_Parse_4)

def f_dmarc_Parse_6:SCode :=
 (.seq
 (.seq
 (.region [⟨some 213,.mv (.t 4),none⟩,⟨some 214,.look (.str []) true (.t 213) (.k (.str [114,117,102])),none⟩,⟨some 212,.mv (.t 214),none⟩,⟨some 215,.extr (.t 212) 0,none⟩,⟨some 216,.extr (.t 212) 1,none⟩,⟨some 30,.mv (.t 215),none⟩,⟨some 31,.mv (.t 216),none⟩] [4,6,30,31] [] [[],[213],[214],[],[212],[215]])
 (.seq
 (.region [⟨some 217,.mv (.t 31),none⟩] [4,6,30,217] [] [])
 (.cond (.t 217)
 (.region [⟨some 218,.mv (.t 6),none⟩,⟨some 219,.mv (.t 30),none⟩,⟨some 220,.call 155 [(.t 219)],none⟩,⟨some 221,.chk (.t 218),none⟩,⟨some 222,.fAddr 8 (.t 221),none⟩,
 ⟨none,.store 1 (.t 222) (.t 220),none⟩] [4,6] [] [[],[30],[219],[218],[221]])
 .skip)))
 f_dmarc_Parse_5)

def f_dmarc_Parse_7:SCode :=
 (.seq
 (.seq
 (.region [⟨some 202,.mv (.t 4),none⟩,⟨some 203,.look (.str []) true (.t 202) (.k (.str [114,117,97])),none⟩,⟨some 201,.mv (.t 203),none⟩,⟨some 204,.extr (.t 201) 0,none⟩,⟨some 205,.extr (.t 201) 1,none⟩,⟨some 28,.mv (.t 204),none⟩,⟨some 29,.mv (.t 205),none⟩] [4,6,28,29] [] [[],[202],[203],[],[201],[204]])
 (.seq
 (.region [⟨some 206,.mv (.t 29),none⟩] [4,6,28,206] [] [])
 (.cond (.t 206)
 (.region [⟨some 207,.mv (.t 6),none⟩,⟨some 208,.mv (.t 28),none⟩,⟨some 209,.call 155 [(.t 208)],none⟩,⟨some 210,.chk (.t 207),none⟩,⟨some 211,.fAddr 7 (.t 210),none⟩,
 ⟨none,.store 1 (.t 211) (.t 209),none⟩] [4,6] [] [[],[28],[208],[207],[210]])
 .skip)))
 f_dmarc_Parse_6)

def f_dmarc_Parse_8:SCode :=
 (.seq
 (.seq
 (.seq
 (.region [⟨some 181,.mv (.t 4),none⟩,⟨some 182,.look (.str []) true (.t 181) (.k (.str [114,105])),none⟩,⟨some 180,.mv (.t 182),none⟩,⟨some 183,.extr (.t 180) 0,none⟩,⟨some 184,.extr (.t 180) 1,none⟩,⟨some 24,.mv (.t 183),none⟩,⟨some 25,.mv (.t 184),none⟩] [4,6,24,25] [] [[],[181],[182],[],[180],[183]])
 (.ghost [.frz 158,.drop 154]))
 f_dmarc_Parse_3)
 f_dmarc_Parse_7)

def f_dmarc_Parse_9:SCode :=
 (.seq
 (.seq
 (.seq
 (.region [⟨some 148,.mv (.t 4),none⟩,⟨some 149,.look (.str []) true (.t 148) (.k (.str [114,102])),none⟩,⟨some 147,.mv (.t 149),none⟩,⟨some 150,.extr (.t 147) 0,none⟩,⟨some 151,.extr (.t 147) 1,none⟩,⟨some 19,.mv (.t 150),none⟩,⟨some 20,.mv (.t 151),none⟩] [4,6,19,20] [] [[],[148],[149],[],[147],[150]])
 (.ghost [.frz 17]))
 f_dmarc_Parse_2)
 f_dmarc_Parse_8)

def f_dmarc_Parse_10:SCode :=
 (.seq
 (.seq
 (.region [⟨some 124,.mv (.t 4),none⟩,⟨some 125,.look (.str []) true (.t 124) (.k (.str [112,99,116])),none⟩,⟨some 123,.mv (.t 125),none⟩,⟨some 126,.extr (.t 123) 0,none⟩,⟨some 127,.extr (.t 123) 1,none⟩,⟨some 15,.mv (.t 126),none⟩,⟨some 16,.mv (.t 127),none⟩] [4,6,15,16] [] [[],[124],[125],[],[123],[126]])
 (.seq
 (.region [⟨some 128,.mv (.t 16),none⟩] [4,6,15,128] [] [])
 (.cond (.t 128)
 (.seq
 (.region [⟨some 130,.mv (.t 15),none⟩,⟨some 131,.call 153 [(.t 130)],none⟩,⟨some 129,.mv (.t 131),none⟩,⟨some 132,.extr (.t 129) 0,none⟩,⟨some 133,.extr (.t 129) 1,none⟩,⟨some 17,.alloc [(.int .i64 0)],none⟩,
 ⟨none,.store 1 (.t 17) (.t 132),none⟩,⟨some 18,.mv (.t 133),none⟩] [4,6,17,18] [] [[15],[130],[131],[],[129],[],[132]])
 (.seq
 (.seq
 (.region [⟨some 134,.mv (.t 18),none⟩,⟨some 135,.isNil 0 true (.t 134),none⟩] [4,6,17,135] [] [[18]])
 (.cond (.t 135)
 (.seq
 (.region [⟨some 136,.call 50 [(.k (.str [100,109,97,114,99,58,32,105,110,118,97,108,105,100,32,112,97,114,97,109,101,116,101,114,32,39,112,99,116,39]))],none⟩,⟨some 2,.mv (.k .nilP),none⟩,⟨some 3,.mv (.t 136),none⟩] [2,3] [] [])
 .ret)
 .skip))
 (.seq
 (.seq
 (.region [⟨some 137,.load none (.t 17),none⟩,⟨some 138,.bin .lss (.t 137) (.k (.int .i64 0)),none⟩,⟨some 139,.mv (.t 138),none⟩,⟨some 140,.load none (.t 17),some (139,false)⟩,⟨some 141,.bin .gtr (.t 140) (.k (.int .i64 100)),some (139,false)⟩,⟨some 142,.pick (.t 139) (.k (.bool true)) (.t 141),none⟩] [4,6,17,142] [] [[],[137],[138],[],[140]])
 (.cond (.t 142)
 (.seq
 (.region [⟨some 143,.call 50 [(.k (.str [100,109,97,114,99,58,32,105,110,118,97,108,105,100,32,112,97,114,97,109,101,116,101,114,32,39,112,99,116,39,58,32,118,97,108,117,101,32,111,117,116,32,111,102,32,98,111,117,110,100,115]))],none⟩,⟨some 2,.mv (.k .nilP),none⟩,⟨some 3,.mv (.t 143),none⟩] [2,3] [] [])
 .ret)
 .skip))
 (.region [⟨some 144,.mv (.t 6),none⟩,⟨some 145,.chk (.t 144),none⟩,⟨some 146,.fAddr 4 (.t 145),none⟩,
 ⟨none,.store 1 (.t 146) (.t 17),none⟩] [4,6] [] [[],[144],[145]]))))
 .skip)))
 f_dmarc_Parse_9)

def f_dmarc_Parse_11:SCode :=
 (.seq
 (.seq
 (.region [⟨some 107,.mv (.t 4),none⟩,⟨some 108,.look (.str []) true (.t 107) (.k (.str [102,111])),none⟩,⟨some 106,.mv (.t 108),none⟩,⟨some 109,.extr (.t 106) 0,none⟩,⟨some 110,.extr (.t 106) 1,none⟩,⟨some 13,.mv (.t 109),none⟩,⟨some 14,.mv (.t 110),none⟩] [4,6,13,14] [] [[],[107],[108],[],[106],[109]])
 (.seq
 (.region [⟨some 111,.mv (.t 14),none⟩] [4,6,13,111] [] [])
 (.cond (.t 111)
 (.seq
 (.region [⟨some 113,.mv (.t 6),none⟩,⟨some 114,.mv (.t 13),none⟩,⟨some 115,.call 152 [(.t 114)],none⟩,⟨some 112,.mv (.t 115),none⟩,⟨some 116,.extr (.t 112) 0,none⟩,⟨some 117,.extr (.t 112) 1,none⟩,⟨some 118,.chk (.t 113),none⟩,⟨some 119,.fAddr 2 (.t 118),none⟩,
 ⟨none,.store 1 (.t 119) (.t 116),none⟩,⟨some 5,.mv (.t 117),none⟩] [4,5,6] [] [[],[13],[114],[115],[],[112],[113],[118],[116,119]])
 (.seq
 (.region [⟨some 120,.mv (.t 5),none⟩,⟨some 121,.isNil 0 true (.t 120),none⟩] [4,5,6,121] [] [])
 (.cond (.t 121)
 (.seq
 (.region [⟨some 122,.mv (.t 5),none⟩,⟨some 2,.mv (.k .nilP),none⟩,⟨some 3,.mv (.t 122),none⟩] [2,3] [] [[5]])
 .ret)
 .skip)))
 .skip)))
 f_dmarc_Parse_10)

def f_dmarc_Parse_12:SCode :=
 (.seq
 (.region [⟨some 86,.mv (.t 6),none⟩,⟨some 87,.chk (.t 86),none⟩,⟨some 88,.fAddr 1 (.t 87),none⟩,
 ⟨none,.store 1 (.t 88) (.k (.str [114])),none⟩] [4,6] [] [[],[86],[87]])
 (.seq
 (.seq
 (.region [⟨some 90,.mv (.t 4),none⟩,⟨some 91,.look (.str []) true (.t 90) (.k (.str [97,115,112,102])),none⟩,⟨some 89,.mv (.t 91),none⟩,⟨some 92,.extr (.t 89) 0,none⟩,⟨some 93,.extr (.t 89) 1,none⟩,⟨some 11,.mv (.t 92),none⟩,⟨some 12,.mv (.t 93),none⟩] [4,6,11,12] [] [[],[90],[91],[],[89],[92]])
 (.seq
 (.region [⟨some 94,.mv (.t 12),none⟩] [4,6,11,94] [] [])
 (.cond (.t 94)
 (.seq
 (.region [⟨some 96,.mv (.t 6),none⟩,⟨some 97,.mv (.t 11),none⟩,⟨some 98,.call 151 [(.t 97),(.k (.str [97,115,112,102]))],none⟩,⟨some 95,.mv (.t 98),none⟩,⟨some 99,.extr (.t 95) 0,none⟩,⟨some 100,.extr (.t 95) 1,none⟩,⟨some 101,.chk (.t 96),none⟩,⟨some 102,.fAddr 1 (.t 101),none⟩,
 ⟨none,.store 1 (.t 102) (.t 99),none⟩,⟨some 5,.mv (.t 100),none⟩] [4,5,6] [] [[],[11],[97],[98],[],[95],[96],[101],[99,102]])
 (.seq
 (.region [⟨some 103,.mv (.t 5),none⟩,⟨some 104,.isNil 0 true (.t 103),none⟩] [4,5,6,104] [] [])
 (.cond (.t 104)
 (.seq
 (.region [⟨some 105,.mv (.t 5),none⟩,⟨some 2,.mv (.k .nilP),none⟩,⟨some 3,.mv (.t 105),none⟩] [2,3] [] [[5]])
 .ret)
 .skip)))
 .skip)))
 f_dmarc_Parse_11))

def f_dmarc_Parse_13:SCode :=
 (.seq
 (.region [⟨some 66,.mv (.t 6),none⟩,⟨some 67,.chk (.t 66),none⟩,⟨some 68,.fAddr 0 (.t 67),none⟩,
 ⟨none,.store 1 (.t 68) (.k (.str [114])),none⟩] [4,6] [] [[],[66],[67]])
 (.seq
 (.seq
 (.region [⟨some 70,.mv (.t 4),none⟩,⟨some 71,.look (.str []) true (.t 70) (.k (.str [97,100,107,105,109])),none⟩,⟨some 69,.mv (.t 71),none⟩,⟨some 72,.extr (.t 69) 0,none⟩,⟨some 73,.extr (.t 69) 1,none⟩,⟨some 9,.mv (.t 72),none⟩,⟨some 10,.mv (.t 73),none⟩] [4,6,9,10] [] [[],[70],[71],[],[69],[72]])
 (.seq
 (.region [⟨some 74,.mv (.t 10),none⟩] [4,6,9,74] [] [])
 (.cond (.t 74)
 (.seq
 (.region [⟨some 76,.mv (.t 6),none⟩,⟨some 77,.mv (.t 9),none⟩,⟨some 78,.call 151 [(.t 77),(.k (.str [97,100,107,105,109]))],none⟩,⟨some 75,.mv (.t 78),none⟩,⟨some 79,.extr (.t 75) 0,none⟩,⟨some 80,.extr (.t 75) 1,none⟩,⟨some 81,.chk (.t 76),none⟩,⟨some 82,.fAddr 0 (.t 81),none⟩,
 ⟨none,.store 1 (.t 82) (.t 79),none⟩,⟨some 5,.mv (.t 80),none⟩] [4,5,6] [] [[],[9],[77],[78],[],[75],[76],[81],[79,82]])
 (.seq
 (.region [⟨some 83,.mv (.t 5),none⟩,⟨some 84,.isNil 0 true (.t 83),none⟩] [4,5,6,84] [] [])
 (.cond (.t 84)
 (.seq
 (.region [⟨some 85,.mv (.t 5),none⟩,⟨some 2,.mv (.k .nilP),none⟩,⟨some 3,.mv (.t 85),none⟩] [2,3] [] [[5]])
 .ret)
 .skip)))
 .skip)))
 f_dmarc_Parse_12))

def c_dmarc_Parse:SFn:=⟨1,
 (.seq
 (.region [⟨some 2,.mv (.k .nilP),none⟩,⟨some 3,.mv (.k .nilI),none⟩] [0] [] [[2]])
 (.seq
 (.region [⟨some 35,.mv (.t 0),none⟩,⟨some 36,.call 149 [(.t 35)],none⟩,⟨some 34,.mv (.t 36),none⟩,⟨some 37,.extr (.t 34) 0,none⟩,⟨some 38,.extr (.t 34) 1,none⟩,⟨some 4,.mv (.t 37),none⟩,⟨some 5,.mv (.t 38),none⟩] [4,5] [] [[0],[35],[36],[],[34],[37]])
 (.seq
 (.seq
 (.region [⟨some 39,.mv (.t 5),none⟩,⟨some 40,.isNil 0 true (.t 39),none⟩] [4,5,40] [] [])
 (.cond (.t 40)
 (.seq
 (.region [⟨some 41,.mv (.t 5),none⟩,⟨some 2,.mv (.k .nilP),none⟩,⟨some 3,.mv (.t 41),none⟩] [2,3] [] [[5]])
 .ret)
 .skip))
 (.seq
 (.seq
 (.region [⟨some 42,.mv (.t 4),none⟩,⟨some 43,.look (.str []) false (.t 42) (.k (.str [118])),none⟩,⟨some 44,.bin .neq (.t 43) (.k (.str [68,77,65,82,67,49])),none⟩] [4,44] [] [[],[42]])
 (.cond (.t 44)
 (.seq
 (.region [⟨some 45,.load none (.k (.ptr [.ifc 3 (.gp 1)])),none⟩,⟨some 2,.mv (.k .nilP),none⟩,⟨some 3,.mv (.t 45),none⟩] [2,3] [] [])
 .ret)
 .skip))
 (.seq
 (.region [⟨some 46,.alloc [(.str []),(.str []),(.int .i64 0),(.str []),.nilP,.nilS,(.int .i64 0),.nilS,.nilS,(.str [])],none⟩,⟨some 6,.mv (.t 46),none⟩] [4,6] [] [])
 (.seq
 (.region [⟨some 48,.mv (.t 4),none⟩,⟨some 49,.look (.str []) true (.t 48) (.k (.str [112])),none⟩,⟨some 47,.mv (.t 49),none⟩,⟨some 50,.extr (.t 47) 0,none⟩,⟨some 51,.extr (.t 47) 1,none⟩,⟨some 7,.mv (.t 50),none⟩,⟨some 8,.mv (.t 51),none⟩] [4,6,7,8] [] [[],[48],[49],[],[47],[50]])
 (.seq
 (.seq
 (.region [⟨some 52,.mv (.t 8),none⟩,⟨some 53,.un .not (.t 52),none⟩] [4,6,7,53] [] [[8]])
 (.cond (.t 53)
 (.seq
 (.region [⟨some 54,.call 50 [(.k (.str [100,109,97,114,99,58,32,114,101,99,111,114,100,32,105,115,32,109,105,115,115,105,110,103,32,97,32,39,112,39,32,112,97,114,97,109,101,116,101,114]))],none⟩,⟨some 2,.mv (.k .nilP),none⟩,⟨some 3,.mv (.t 54),none⟩] [2,3] [] [])
 .ret)
 .skip))
 (.seq
 (.region [⟨some 56,.mv (.t 6),none⟩,⟨some 57,.mv (.t 7),none⟩,⟨some 58,.call 150 [(.t 57),(.k (.str [112]))],none⟩,⟨some 55,.mv (.t 58),none⟩,⟨some 59,.extr (.t 55) 0,none⟩,⟨some 60,.extr (.t 55) 1,none⟩,⟨some 61,.chk (.t 56),none⟩,⟨some 62,.fAddr 3 (.t 61),none⟩,
 ⟨none,.store 1 (.t 62) (.t 59),none⟩,⟨some 5,.mv (.t 60),none⟩] [4,5,6] [] [[],[7],[57],[58],[],[55],[56],[61],[59,62]])
 (.seq
 (.seq
 (.region [⟨some 63,.mv (.t 5),none⟩,⟨some 64,.isNil 0 true (.t 63),none⟩] [4,5,6,64] [] [])
 (.cond (.t 64)
 (.seq
 (.region [⟨some 65,.mv (.t 5),none⟩,⟨some 2,.mv (.k .nilP),none⟩,⟨some 3,.mv (.t 65),none⟩] [2,3] [] [[5]])
 .ret)
 .skip))
 f_dmarc_Parse_13))))))))),
 [.t 2,.t 3]⟩

def l_dmarc_Parse:Lay:={ rg:=[(0,([0],[])),(1,([4,5],[])),(2,([4,5,40],[])),(3,([2,3],[])),(4,([4,44],[])),(5,([2,3],[])),(6,([4,6],[])),(7,([4,6,7,8],[])),(8,([4,6,7,53],[])),(9,([2,3],[])),(10,([4,5,6],[])),(11,([4,5,6,64],[])),(12,([2,3],[])),(13,([4,6],[])),(14,([4,6,9,10],[])),(15,([4,6,9,74],[])),(16,([4,5,6],[])),(17,([4,5,6,84],[])),(18,([2,3],[])),(19,([4,6],[])),(20,([4,6,11,12],[])),(21,([4,6,11,94],[])),(22,([4,5,6],[])),(23,([4,5,6,104],[])),(24,([2,3],[])),(25,([4,6,13,14],[])),(26,([4,6,13,111],[])),(27,([4,5,6],[])),(28,([4,5,6,121],[])),(29,([2,3],[])),(30,([4,6,15,16],[])),(31,([4,6,15,128],[])),(32,([4,6,17,18],[])),(33,([4,6,17,135],[])),(34,([2,3],[])),(35,([4,6,17,142],[])),(36,([2,3],[])),(37,([4,6],[])),(38,([4,6,19,20],[])),(39,([4,6,19,152],[])),(40,([4,6,21],[])),(41,([4,6,21],[])),(42,([4,6,161,162,163],[])),(43,([4,6,161,162,163,164],[])),(44,([4,6,22,23,161,162,163],[])),(45,([4,6,22,23,161,162,163,168],[])),(46,([2,3],[])),(47,([4,6,22,23,161,162,163,170],[])),(48,([4,6,161,162,163],[])),(49,([4,6,161,162,163],[])),(50,([4,6,24,25],[])),(51,([4,6,24,185],[])),(52,([4,6,26,27],[])),(53,([4,6,26,192],[])),(54,([2,3],[])),(55,([4,6,26,195],[])),(56,([2,3],[])),(57,([4,6],[])),(58,([4,6,28,29],[])),(59,([4,6,28,206],[])),(60,([4,6],[])),(61,([4,6,30,31],[])),(62,([4,6,30,217],[])),(63,([4,6],[])),(64,([6,32,33],[])),(65,([6,32,228],[])),(66,([5,6],[])),(67,([5,6,238],[])),(68,([2,3],[])),(69,([2,3],[])),(1000043,([4,6,161,162,163],[]))],dd:=[(0,[[2]]),(1,[[0],[35],[36],[],[34],[37]]),(3,[[5]]),(4,[[],[42]]),(7,[[],[48],[49],[],[47],[50]]),(8,[[8]]),(10,[[],[7],[57],[58],[],[55],[56],[61],[59,62]]),(12,[[5]]),(13,[[],[66],[67]]),(14,[[],[70],[71],[],[69],[72]]),(16,[[],[9],[77],[78],[],[75],[76],[81],[79,82]]),(18,[[5]]),(19,[[],[86],[87]]),(20,[[],[90],[91],[],[89],[92]]),(22,[[],[11],[97],[98],[],[95],[96],[101],[99,102]]),(24,[[5]]),(25,[[],[107],[108],[],[106],[109]]),(27,[[],[13],[114],[115],[],[112],[113],[118],[116,119]]),(29,[[5]]),(30,[[],[124],[125],[],[123],[126]]),(32,[[15],[130],[131],[],[129],[],[132]]),(33,[[18]]),(35,[[],[137],[138],[],[140]]),(37,[[],[144],[145]]),(38,[[],[148],[149],[],[147],[150]]),(40,[[19],[153]]),(41,[[],[],[156],[157],[155],[159]]),(42,[[21]]),(44,[[],[],[166],[165]]),(47,[[168]]),(48,[[],[172],[173],[174],[22],[23],[175,176]]),(50,[[],[181],[182],[],[180],[183]]),(52,[[24],[187],[188],[],[186],[189]]),(53,[[27]]),(57,[[],[26],[197],[199]]),(58,[[],[202],[203],[],[201],[204]]),(60,[[],[28],[208],[207],[210]]),(61,[[],[213],[214],[],[212],[215]]),(63,[[],[30],[219],[218],[221]]),(64,[[4],[224],[225],[],[223],[226]]),(66,[[],[32],[231],[232],[],[229],[230],[235],[233,236]]),(68,[[5]]),(69,[[6],[240]])],gh:=[(38,[.frz 17]),(50,[.frz 158,.drop 154])],sf:=[154] }

def c_impl_MParse:SFn:=⟨1,
 (.seq
 (.region [⟨some 2,.alloc [(.str []),(.str []),(.int .i64 0),(.str []),(.int .i64 0),(.bool false),.nilS,(.int .i64 0),.nilS,.nilS,(.str [])],none⟩,⟨some 3,.mv (.k (.bool false)),none⟩] [0,2] [] [])
 (.seq
 (.region [⟨some 7,.mv (.t 0),none⟩,⟨some 8,.call 142 [(.t 7)],none⟩,⟨some 6,.mv (.t 8),none⟩,⟨some 9,.extr (.t 6) 0,none⟩,⟨some 10,.extr (.t 6) 1,none⟩,⟨some 4,.mv (.t 9),none⟩,⟨some 5,.mv (.t 10),none⟩] [2,4,5] [] [[0],[7],[8],[],[6],[9]])
 (.seq
 (.seq
 (.region [⟨some 11,.mv (.t 5),none⟩,⟨some 12,.isNil 0 true (.t 11),none⟩] [2,4,12] [] [[5]])
 (.cond (.t 12)
 (.seq
 (.region [⟨some 13,.agg [(.str []),(.str []),(.int .i64 0),(.str []),(.int .i64 0),(.bool false),.nilS,(.int .i64 0),.nilS,.nilS,(.str [])] [],none⟩,
 ⟨none,.store 11 (.t 2) (.t 13),none⟩,⟨some 3,.mv (.k (.bool false)),none⟩] [2,3] [] [[],[13]])
 .ret)
 .skip))
 (.seq
 (.region [⟨some 14,.mv (.t 4),none⟩,⟨some 15,.call 143 [(.t 14)],none⟩,
 ⟨none,.store 11 (.t 2) (.t 15),none⟩,⟨some 3,.mv (.k (.bool true)),none⟩] [2,3] [] [[4],[14],[15]])
 .ret)))),
 [.c (some 11) 2,.t 3]⟩

def l_impl_MParse:Lay:={ rg:=[(0,([0,2],[])),(1,([2,4,5],[])),(2,([2,4,12],[])),(3,([2,3],[])),(4,([2,3],[]))],dd:=[(1,[[0],[7],[8],[],[6],[9]]),(2,[[5]]),(3,[[],[13]]),(4,[[4],[14],[15]])] }

def b_impl_recordOf_1:SCode :=
 (.seq
 (.region [⟨some 59,.bin .lss (.t 58) (.t 57),none⟩] [2,3,56,57,58,59] [] [])
 (.seq
 (.cond (.t 59)
 .skip
 (.exit 0))
 (.seq
 (.block 1
 (.seq
 (.region [⟨some 60,.iAddr 1 (.t 56) (.t 58),none⟩,⟨some 61,.load none (.t 60),none⟩,⟨some 5,.mv (.t 61),none⟩] [2,3,5,56,57,58] [] [[],[60]])
 (.region [⟨some 62,.fAddr 6 (.t 3),none⟩,⟨some 63,.load none (.t 62),none⟩,⟨some 64,.mv (.t 5),none⟩,⟨some 65,.mkSl 1 1 [(.str [])] [(0,(.t 64))],none⟩,⟨some 66,.app 1 16 (.t 63) (.t 65),none⟩,⟨some 67,.fAddr 6 (.t 3),none⟩,
 ⟨none,.store 1 (.t 67) (.t 66),none⟩] [2,3,56,57,58] [65] [[],[62],[5],[64],[63,65]])))
 (.region [⟨some 68,.bin .add (.t 58) (.k (.int .i64 1)),none⟩,⟨some 58,.mv (.t 68),none⟩] [2,3,56,57,58] [] []))))

def t_impl_recordOf_2:SCode :=
 (.seq
 (.region [⟨some 69,.load (some 11) (.t 3),none⟩,
 ⟨none,.store 11 (.t 2) (.t 69),none⟩] [2] [3] [[3]])
 .ret)

def c_impl_recordOf:SFn:=⟨1,
 (.seq
 (.region [⟨some 2,.alloc [(.str []),(.str []),(.int .i64 0),(.str []),(.int .i64 0),(.bool false),.nilS,(.int .i64 0),.nilS,.nilS,(.str [])],none⟩] [0,2] [] [])
 (.seq
 (.region [⟨some 6,.mv (.t 0),none⟩,⟨some 7,.fl (.chk (.t 6)),none⟩,⟨some 8,.fl (.fAddr 0 (.t 7)),none⟩,⟨some 9,.fl (.load none (.t 8)),none⟩,⟨some 10,.mv (.t 0),none⟩,⟨some 11,.fl (.chk (.t 10)),none⟩,⟨some 12,.fl (.fAddr 1 (.t 11)),none⟩,⟨some 13,.fl (.load none (.t 12)),none⟩,⟨some 14,.mv (.t 0),none⟩,⟨some 15,.fl (.chk (.t 14)),none⟩,⟨some 16,.fl (.fAddr 2 (.t 15)),none⟩,⟨some 17,.fl (.load none (.t 16)),none⟩,⟨some 18,.mv (.t 0),none⟩,⟨some 19,.fl (.chk (.t 18)),none⟩,⟨some 20,.fl (.fAddr 3 (.t 19)),none⟩,⟨some 21,.fl (.load none (.t 20)),none⟩,⟨some 22,.mv (.t 0),none⟩,⟨some 23,.fl (.chk (.t 22)),none⟩,⟨some 24,.fl (.fAddr 6 (.t 23)),none⟩,⟨some 25,.fl (.load none (.t 24)),none⟩,⟨some 26,.fl (.bin .mul (.t 25) (.k (.int .i64 1000000000))),none⟩,⟨some 27,.mv (.t 0),none⟩,⟨some 28,.fl (.chk (.t 27)),none⟩,⟨some 29,.fl (.fAddr 7 (.t 28)),none⟩,⟨some 30,.fl (.load none (.t 29)),none⟩,⟨some 31,.mv (.t 0),none⟩,⟨some 32,.fl (.chk (.t 31)),none⟩,⟨some 33,.fl (.fAddr 8 (.t 32)),none⟩,⟨some 34,.fl (.load none (.t 33)),none⟩,⟨some 35,.mv (.t 0),none⟩,⟨some 36,.fl (.chk (.t 35)),none⟩,⟨some 37,.fl (.fAddr 9 (.t 36)),none⟩,⟨some 38,.fl (.load none (.t 37)),none⟩,⟨some 39,.fl (.agg [(.str []),(.str []),(.int .i64 0),(.str []),(.int .i64 0),(.bool false),.nilS,(.int .i64 0),.nilS,.nilS,(.str [])] [(0,1,(.t 9)),(1,1,(.t 13)),(2,1,(.t 17)),(3,1,(.t 21)),(7,1,(.t 26)),(8,1,(.t 30)),(9,1,(.t 34)),(10,1,(.t 38))]),none⟩,⟨some 3,.alloc [(.str []),(.str []),(.int .i64 0),(.str []),(.int .i64 0),(.bool false),.nilS,(.int .i64 0),.nilS,.nilS,(.str [])],none⟩,
 ⟨none,.store 11 (.t 3) (.t 39),none⟩] [0,2,3] [] [])
 (.seq
 (.seq
 (.region [⟨some 40,.mv (.t 0),none⟩,⟨some 41,.chk (.t 40),none⟩,⟨some 42,.fAddr 4 (.t 41),none⟩,⟨some 43,.load none (.t 42),none⟩,⟨some 44,.isNil 2 true (.t 43),none⟩] [0,2,3,44] [] [[],[40],[41],[42]])
 (.cond (.t 44)
 (.region [⟨some 45,.mv (.t 0),none⟩,⟨some 46,.chk (.t 45),none⟩,⟨some 47,.fAddr 4 (.t 46),none⟩,⟨some 48,.load none (.t 47),none⟩,⟨some 49,.chk (.t 48),none⟩,⟨some 50,.load none (.t 49),none⟩,⟨some 51,.fAddr 4 (.t 3),none⟩,
 ⟨none,.store 1 (.t 51) (.t 50),none⟩,⟨some 52,.fAddr 5 (.t 3),none⟩,
 ⟨none,.store 1 (.t 52) (.k (.bool true)),none⟩] [0,2,3] [] [[],[45],[46],[47],[48],[49],[],[50,51]])
 .skip))
 (.seq
 (.seq
 (.region [⟨some 53,.mv (.t 0),none⟩,⟨some 54,.chk (.t 53),none⟩,⟨some 55,.fAddr 5 (.t 54),none⟩,⟨some 56,.load none (.t 55),none⟩,⟨some 57,.len 1 (.t 56),none⟩,⟨some 58,.mv (.k (.int .i64 0)),none⟩] [2,3,56,57,58] [] [[0],[53],[54],[55]])
 (.block 0
 (.loop [2,3,56,57,58]
 b_impl_recordOf_1)))
 t_impl_recordOf_2)))),
 [.c (some 11) 2]⟩

def l_impl_recordOf:Lay:={ rg:=[(0,([0,2],[])),(1,([0,2,3],[])),(2,([0,2,3,44],[])),(3,([0,2,3],[])),(4,([2,3,56,57,58],[])),(5,([2,3,56,57,58,59],[])),(6,([2,3,5,56,57,58],[])),(7,([2,3,56,57,58],[65])),(8,([2,3,56,57,58],[])),(9,([2],[3])),(1000005,([2,3,56,57,58],[]))],dd:=[(2,[[],[40],[41],[42]]),(3,[[],[45],[46],[47],[48],[49],[],[50,51]]),(4,[[0],[53],[54],[55]]),(6,[[],[60]]),(7,[[],[62],[5],[64],[63,65]]),(9,[[3]])],fl:=[7,8,9,11,12,13,15,16,17,19,20,21,23,24,25,26,28,29,30,32,33,34,36,37,38,39] }

end Wax


