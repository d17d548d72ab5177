/- The machine by which the functions are read, and what is proved of them (part 4): no premise. -/
import Derived.Test.YtflhiclingkonaaDoorWc
set_option linter.all false
/- Functions as the abstract machine has them. -/
namespace Wax
open Go (IntKind)

/- spec.dBlank -/
def c_spec_dBlank : SFn := ⟨1,
    (.seq
      (.region [
        ⟨some 2, .mv (.k (.bool false)), none⟩] [0] [] [])
      (.seq
        (.region [
          ⟨some 3, .mv (.t 0), none⟩,
          ⟨some 4, .bin .eql (.t 3) (.k (.int .u8 32)), none⟩,
          ⟨some 5, .mv (.t 4), none⟩,
          ⟨some 6, .mv (.t 0), some (5, false)⟩,
          ⟨some 7, .bin .eql (.t 6) (.k (.int .u8 9)), some (5, false)⟩,
          ⟨some 8, .pick (.t 5) (.k (.bool true)) (.t 7), none⟩,
          ⟨some 9, .mv (.t 8), none⟩,
          ⟨some 10, .mv (.t 0), some (9, false)⟩,
          ⟨some 11, .bin .eql (.t 10) (.k (.int .u8 13)), some (9, false)⟩,
          ⟨some 12, .pick (.t 9) (.k (.bool true)) (.t 11), none⟩,
          ⟨some 13, .mv (.t 12), none⟩,
          ⟨some 14, .mv (.t 0), some (13, false)⟩,
          ⟨some 15, .bin .eql (.t 14) (.k (.int .u8 10)), some (13, false)⟩,
          ⟨some 16, .pick (.t 13) (.k (.bool true)) (.t 15), none⟩,
          ⟨some 2, .mv (.t 16), none⟩] [2] [] [[], [3], [4], [], [6], [5, 7], [8], [], [10], [9, 11], [12], [0], [14], [13, 15]])
        .ret)),
  [.t 2]⟩

def l_spec_dBlank : Lay := { rg := [(0, ([0], [])), (1, ([2], []))], dd := [(1, [[], [3], [4], [], [6], [5, 7], [8], [], [10], [9, 11], [12], [0], [14], [13, 15]])] }

/- spec.dCut -/
def c_spec_dCut : SFn := ⟨2,
    (.seq
      (.region [
        ⟨some 4, .mv (.k (.str [])), none⟩,
        ⟨some 5, .mv (.k (.str [])), none⟩,
        ⟨some 6, .mv (.k (.bool false)), none⟩] [0, 1] [] [[4], [5]])
      (.seq
        (.seq
          (.region [
            ⟨some 7, .mv (.k (.int .i64 0)), none⟩] [0, 1, 7] [] [])
          (.block 0
            (.loop [0, 1, 7]
              (.seq
                (.seq
                  (.region [
                    ⟨some 8, .mv (.t 7), none⟩,
                    ⟨some 9, .mv (.t 0), none⟩,
                    ⟨some 10, .len 0 (.t 9), none⟩,
                    ⟨some 11, .bin .lss (.t 8) (.t 10), none⟩] [0, 1, 7, 11] [] [[], [], [9]])
                  (.cond (.t 11)
                    .skip
                    (.exit 0)))
                (.seq
                  (.block 1
                    (.seq
                      (.region [
                        ⟨some 14, .mv (.t 0), none⟩,
                        ⟨some 15, .mv (.t 7), none⟩,
                        ⟨some 16, .iStr (.t 14) (.t 15), none⟩,
                        ⟨some 17, .mv (.t 1), none⟩,
                        ⟨some 18, .bin .eql (.t 16) (.t 17), none⟩] [0, 1, 7, 18] [] [[], [], [14, 15]])
                      (.cond (.t 18)
                        (.seq
                          (.region [
                            ⟨some 19, .mv (.t 0), none⟩,
                            ⟨some 20, .mv (.t 7), none⟩,
                            ⟨some 21, .slStr (.t 19) none (some (.t 20)), none⟩,
                            ⟨some 22, .mv (.t 0), none⟩,
                            ⟨some 23, .mv (.t 7), none⟩,
                            ⟨some 24, .bin .add (.t 23) (.k (.int .i64 1)), none⟩,
                            ⟨some 25, .slStr (.t 22) (some (.t 24)) none, none⟩,
                            ⟨some 4, .mv (.t 21), none⟩,
                            ⟨some 5, .mv (.t 25), none⟩,
                            ⟨some 6, .mv (.k (.bool true)), none⟩] [4, 5, 6] [] [])
                          .ret)
                        .skip)))
                  (.region [
                    ⟨some 12, .mv (.t 7), none⟩,
                    ⟨some 13, .bin .add (.t 12) (.k (.int .i64 1)), none⟩,
                    ⟨some 7, .mv (.t 13), none⟩] [0, 1, 7] [] [[], [12]]))))))
        (.seq
          (.region [
            ⟨some 26, .mv (.t 0), none⟩,
            ⟨some 4, .mv (.t 26), none⟩,
            ⟨some 5, .mv (.k (.str [])), none⟩,
            ⟨some 6, .mv (.k (.bool false)), none⟩] [4, 5, 6] [] [[0], [26]])
          .ret))),
  [.t 4, .t 5, .t 6]⟩

def l_spec_dCut : Lay := { rg := [(0, ([0, 1], [])), (1, ([0, 1, 7], [])), (2, ([0, 1, 7, 11], [])), (3, ([0, 1, 7], [])), (4, ([0, 1, 7, 18], [])), (5, ([4, 5, 6], [])), (6, ([4, 5, 6], [])), (1000002, ([0, 1, 7], []))], dd := [(0, [[4], [5]]), (2, [[], [], [9]]), (3, [[], [12]]), (4, [[], [], [14, 15]]), (6, [[0], [26]])] }

/- spec.DTrim -/
def b_spec_DTrim_1 : SCode :=
  (.seq
    (.seq
      (.region [
        ⟨some 3, .mv (.t 0), none⟩,
        ⟨some 4, .bin .neq (.t 3) (.k (.str [])), none⟩,
        ⟨some 5, .mv (.t 4), none⟩,
        ⟨some 6, .mv (.t 0), some (5, true)⟩,
        ⟨some 7, .iStr (.t 6) (.k (.int .i64 0)), some (5, true)⟩,
        ⟨some 8, .call 1 [(.t 7)], some (5, true)⟩,
        ⟨some 9, .pick (.t 5) (.t 8) (.k (.bool false)), none⟩] [0, 9] [] [[], [3], [4], [], [6], [7]])
      (.cond (.t 9)
        .skip
        (.exit 0)))
    (.block 1
      (.region [
        ⟨some 10, .mv (.t 0), none⟩,
        ⟨some 11, .slStr (.t 10) (some (.k (.int .i64 1))) none, none⟩,
        ⟨some 0, .mv (.t 11), none⟩] [0] [] [[], [10]])))

def b_spec_DTrim_2 : SCode :=
  (.seq
    (.seq
      (.region [
        ⟨some 12, .mv (.t 0), none⟩,
        ⟨some 13, .bin .neq (.t 12) (.k (.str [])), none⟩,
        ⟨some 14, .mv (.t 13), none⟩,
        ⟨some 15, .mv (.t 0), some (14, true)⟩,
        ⟨some 16, .mv (.t 0), some (14, true)⟩,
        ⟨some 17, .len 0 (.t 16), some (14, true)⟩,
        ⟨some 18, .bin .sub (.t 17) (.k (.int .i64 1)), some (14, true)⟩,
        ⟨some 19, .iStr (.t 15) (.t 18), some (14, true)⟩,
        ⟨some 20, .call 1 [(.t 19)], some (14, true)⟩,
        ⟨some 21, .pick (.t 14) (.t 20) (.k (.bool false)), none⟩] [0, 21] [] [[], [12], [13], [], [], [16], [17], [15, 18], [19]])
      (.cond (.t 21)
        .skip
        (.exit 2)))
    (.block 3
      (.region [
        ⟨some 22, .mv (.t 0), none⟩,
        ⟨some 23, .mv (.t 0), none⟩,
        ⟨some 24, .len 0 (.t 23), none⟩,
        ⟨some 25, .bin .sub (.t 24) (.k (.int .i64 1)), none⟩,
        ⟨some 26, .slStr (.t 22) none (some (.t 25)), none⟩,
        ⟨some 0, .mv (.t 26), none⟩] [0] [] [[], [], [23], [24], [22, 25]])))

def t_spec_DTrim_3 : SCode :=
  (.seq
    (.region [
      ⟨some 27, .mv (.t 0), none⟩,
      ⟨some 2, .mv (.t 27), none⟩] [2] [] [[0]])
    .ret)

def t_spec_DTrim_4 : SCode :=
  (.seq
    (.block 2
      (.loop [0]
        b_spec_DTrim_2))
    t_spec_DTrim_3)

def c_spec_DTrim : SFn := ⟨1,
    (.seq
      (.region [
        ⟨some 2, .mv (.k (.str [])), none⟩] [0] [] [])
      (.seq
        (.block 0
          (.loop [0]
            b_spec_DTrim_1))
        t_spec_DTrim_4)),
  [.t 2]⟩

def l_spec_DTrim : Lay := { rg := [(0, ([0], [])), (1, ([0, 9], [])), (2, ([0], [])), (3, ([0, 21], [])), (4, ([0], [])), (5, ([2], [])), (1000001, ([0], [])), (1000003, ([0], []))], dd := [(1, [[], [3], [4], [], [6], [7]]), (2, [[], [10]]), (3, [[], [12], [13], [], [], [16], [17], [15, 18], [19]]), (4, [[], [], [23], [24], [22, 25]]), (5, [[0]])] }

/- spec.DLower -/
def c_spec_DLower : SFn := ⟨1,
    (.seq
      (.region [
        ⟨some 2, .mv (.k (.str [])), none⟩] [0] [] [])
      (.seq
        (.region [
          ⟨some 5, .mv (.t 0), none⟩,
          ⟨some 6, .cStrBytes (.t 5), none⟩,
          ⟨some 3, .mv (.t 6), none⟩] [3] [] [[0], [5]])
        (.seq
          (.seq
            (.region [
              ⟨some 4, .mv (.k (.int .i64 0)), none⟩] [3, 4] [] [])
            (.block 0
              (.loop [3, 4]
                (.seq
                  (.seq
                    (.region [
                      ⟨some 7, .mv (.t 4), none⟩,
                      ⟨some 8, .mv (.t 3), none⟩,
                      ⟨some 9, .len 1 (.t 8), none⟩,
                      ⟨some 10, .bin .lss (.t 7) (.t 9), none⟩] [3, 4, 10] [] [[], [], [8]])
                    (.cond (.t 10)
                      .skip
                      (.exit 0)))
                  (.seq
                    (.block 1
                      (.seq
                        (.region [
                          ⟨some 13, .mv (.t 3), none⟩,
                          ⟨some 14, .mv (.t 4), none⟩,
                          ⟨some 15, .iAddr 1 (.t 13) (.t 14), none⟩,
                          ⟨some 16, .load none (.t 15), none⟩,
                          ⟨some 17, .bin .geq (.t 16) (.k (.int .u8 65)), none⟩,
                          ⟨some 18, .mv (.t 17), none⟩,
                          ⟨some 19, .mv (.t 3), some (18, true)⟩,
                          ⟨some 20, .mv (.t 4), some (18, true)⟩,
                          ⟨some 21, .iAddr 1 (.t 19) (.t 20), some (18, true)⟩,
                          ⟨some 22, .load none (.t 21), some (18, true)⟩,
                          ⟨some 23, .bin .leq (.t 22) (.k (.int .u8 90)), some (18, true)⟩,
                          ⟨some 24, .pick (.t 18) (.t 23) (.k (.bool false)), none⟩] [3, 4, 24] [] [[], [], [13, 14], [15], [16], [17], [], [], [19, 20], [21], [22]])
                        (.cond (.t 24)
                          (.region [
                            ⟨some 25, .mv (.t 3), none⟩,
                            ⟨some 26, .mv (.t 4), none⟩,
                            ⟨some 27, .mv (.t 3), none⟩,
                            ⟨some 28, .mv (.t 4), none⟩,
                            ⟨some 29, .iAddr 1 (.t 27) (.t 28), none⟩,
                            ⟨some 30, .load none (.t 29), none⟩,
                            ⟨some 31, .bin .add (.t 30) (.k (.int .u8 32)), none⟩,
                            ⟨some 32, .iAddr 1 (.t 25) (.t 26), none⟩,
                            ⟨none, .store 1 (.t 32) (.t 31), none⟩] [3, 4] [] [[], [], [], [], [27, 28], [29], [30], [25, 26]])
                          .skip)))
                    (.region [
                      ⟨some 11, .mv (.t 4), none⟩,
                      ⟨some 12, .bin .add (.t 11) (.k (.int .i64 1)), none⟩,
                      ⟨some 4, .mv (.t 12), none⟩] [3, 4] [] [[], [11]]))))))
          (.seq
            (.region [
              ⟨some 33, .mv (.t 3), none⟩,
              ⟨some 34, .cBytesStr (.t 33), none⟩,
              ⟨some 2, .mv (.t 34), none⟩] [2] [6] [[3], [33]])
            .ret)))),
  [.t 2]⟩

def l_spec_DLower : Lay := { rg := [(0, ([0], [])), (1, ([3], [])), (2, ([3, 4], [])), (3, ([3, 4, 10], [])), (4, ([3, 4], [])), (5, ([3, 4, 24], [])), (6, ([3, 4], [])), (7, ([2], [6])), (1000003, ([3, 4], []))], dd := [(1, [[0], [5]]), (3, [[], [], [8]]), (4, [[], [11]]), (5, [[], [], [13, 14], [15], [16], [17], [], [], [19, 20], [21], [22]]), (6, [[], [], [], [], [27, 28], [29], [30], [25, 26]]), (7, [[3], [33]])] }

/- spec.DStrip -/
def c_spec_DStrip : SFn := ⟨1,
    (.seq
      (.region [
        ⟨some 2, .mv (.k (.str [])), none⟩] [0] [] [])
      (.seq
        (.region [
          ⟨some 3, .mv (.k .nilS), none⟩] [0, 3] [] [])
        (.seq
          (.seq
            (.region [
              ⟨some 4, .mv (.k (.int .i64 0)), none⟩] [0, 3, 4] [] [])
            (.block 0
              (.loop [0, 3, 4]
                (.seq
                  (.seq
                    (.region [
                      ⟨some 5, .mv (.t 4), none⟩,
                      ⟨some 6, .mv (.t 0), none⟩,
                      ⟨some 7, .len 0 (.t 6), none⟩,
                      ⟨some 8, .bin .lss (.t 5) (.t 7), none⟩] [0, 3, 4, 8] [] [[], [], [6]])
                    (.cond (.t 8)
                      .skip
                      (.exit 0)))
                  (.seq
                    (.block 1
                      (.seq
                        (.region [
                          ⟨some 11, .mv (.t 0), none⟩,
                          ⟨some 12, .mv (.t 4), none⟩,
                          ⟨some 13, .iStr (.t 11) (.t 12), none⟩,
                          ⟨some 14, .call 1 [(.t 13)], none⟩,
                          ⟨some 15, .un .not (.t 14), none⟩] [0, 3, 4, 15] [] [[], [], [11, 12], [13]])
                        (.cond (.t 15)
                          (.region [
                            ⟨some 16, .mv (.t 3), none⟩,
                            ⟨some 17, .mv (.t 0), none⟩,
                            ⟨some 18, .mv (.t 4), none⟩,
                            ⟨some 19, .iStr (.t 17) (.t 18), none⟩,
                            ⟨some 20, .mkSl 1 1 [(.int .u8 0)] [(0, (.t 19))], none⟩,
                            ⟨some 21, .app 1 1 (.t 16) (.t 20), none⟩,
                            ⟨some 3, .mv (.t 21), none⟩] [0, 3, 4] [20] [[], [], [], [17, 18], [19], [16, 20]])
                          .skip)))
                    (.region [
                      ⟨some 9, .mv (.t 4), none⟩,
                      ⟨some 10, .bin .add (.t 9) (.k (.int .i64 1)), none⟩,
                      ⟨some 4, .mv (.t 10), none⟩] [0, 3, 4] [] [[], [9]]))))))
          (.seq
            (.region [
              ⟨some 22, .mv (.t 3), none⟩,
              ⟨some 23, .cBytesStr (.t 22), none⟩,
              ⟨some 2, .mv (.t 23), none⟩] [2] [21] [[3], [22]])
            .ret)))),
  [.t 2]⟩

def l_spec_DStrip : Lay := { rg := [(0, ([0], [])), (1, ([0, 3], [])), (2, ([0, 3, 4], [])), (3, ([0, 3, 4, 8], [])), (4, ([0, 3, 4], [])), (5, ([0, 3, 4, 15], [])), (6, ([0, 3, 4], [20])), (7, ([2], [21])), (1000003, ([0, 3, 4], []))], dd := [(3, [[], [], [6]]), (4, [[], [9]]), (5, [[], [], [11, 12], [13]]), (6, [[], [], [], [17, 18], [19], [16, 20]]), (7, [[3], [22]])] }

/- spec.dJoined -/
def c_spec_dJoined : SFn := ⟨1,
    (.seq
      (.region [
        ⟨some 2, .mv (.k (.str [])), none⟩] [0] [] [])
      (.seq
        (.region [
          ⟨some 3, .mv (.k .nilS), none⟩] [0, 3] [] [])
        (.seq
          (.region [
            ⟨some 4, .mv (.k (.bool false)), none⟩] [0, 3, 4] [] [])
          (.seq
            (.seq
              (.region [
                ⟨some 5, .mv (.k (.int .i64 0)), none⟩] [0, 3, 4, 5] [] [])
              (.block 0
                (.loop [0, 3, 4, 5]
                  (.seq
                    (.seq
                      (.region [
                        ⟨some 6, .mv (.t 5), none⟩,
                        ⟨some 7, .mv (.t 0), none⟩,
                        ⟨some 8, .len 0 (.t 7), none⟩,
                        ⟨some 9, .bin .lss (.t 6) (.t 8), none⟩] [0, 3, 4, 5, 9] [] [[], [], [7]])
                      (.cond (.t 9)
                        .skip
                        (.exit 0)))
                    (.seq
                      (.block 1
                        (.seq
                          (.seq
                            (.region [
                              ⟨some 12, .mv (.t 0), none⟩,
                              ⟨some 13, .mv (.t 5), none⟩,
                              ⟨some 14, .iStr (.t 12) (.t 13), none⟩,
                              ⟨some 15, .call 1 [(.t 14)], none⟩] [0, 3, 4, 5, 15] [] [[], [], [12, 13]])
                            (.cond (.t 15)
                              (.seq
                                (.region [
                                  ⟨some 16, .mv (.t 3), none⟩,
                                  ⟨some 17, .len 1 (.t 16), none⟩,
                                  ⟨some 18, .bin .gtr (.t 17) (.k (.int .i64 0)), none⟩,
                                  ⟨some 4, .mv (.t 18), none⟩] [0, 3, 4, 5] [] [[], [16], [17]])
                                (.exit 1))
                              .skip))
                          (.seq
                            (.seq
                              (.region [
                                ⟨some 19, .mv (.t 4), none⟩] [0, 3, 4, 5, 19] [] [])
                              (.cond (.t 19)
                                (.seq
                                  (.region [
                                    ⟨some 20, .mv (.t 3), none⟩,
                                    ⟨some 21, .mkSl 1 1 [(.int .u8 0)] [(0, (.k (.int .u8 32)))], none⟩,
                                    ⟨some 22, .app 1 1 (.t 20) (.t 21), none⟩,
                                    ⟨some 3, .mv (.t 22), none⟩] [0, 3, 5] [21] [[], [], [20, 21]])
                                  (.region [
                                    ⟨some 4, .mv (.k (.bool false)), none⟩] [0, 3, 4, 5] [] []))
                                .skip))
                            (.region [
                              ⟨some 23, .mv (.t 3), none⟩,
                              ⟨some 24, .mv (.t 0), none⟩,
                              ⟨some 25, .mv (.t 5), none⟩,
                              ⟨some 26, .iStr (.t 24) (.t 25), none⟩,
                              ⟨some 27, .mkSl 1 1 [(.int .u8 0)] [(0, (.t 26))], none⟩,
                              ⟨some 28, .app 1 1 (.t 23) (.t 27), none⟩,
                              ⟨some 3, .mv (.t 28), none⟩] [0, 3, 4, 5] [27] [[], [], [], [24, 25], [26], [23, 27]]))))
                      (.region [
                        ⟨some 10, .mv (.t 5), none⟩,
                        ⟨some 11, .bin .add (.t 10) (.k (.int .i64 1)), none⟩,
                        ⟨some 5, .mv (.t 11), none⟩] [0, 3, 4, 5] [] [[], [10]]))))))
            (.seq
              (.region [
                ⟨some 29, .mv (.t 3), none⟩,
                ⟨some 30, .cBytesStr (.t 29), none⟩,
                ⟨some 2, .mv (.t 30), none⟩] [2] [22, 28] [[3], [29]])
              .ret))))),
  [.t 2]⟩

def l_spec_dJoined : Lay := { rg := [(0, ([0], [])), (1, ([0, 3], [])), (2, ([0, 3, 4], [])), (3, ([0, 3, 4, 5], [])), (4, ([0, 3, 4, 5, 9], [])), (5, ([0, 3, 4, 5], [])), (6, ([0, 3, 4, 5, 15], [])), (7, ([0, 3, 4, 5], [])), (8, ([0, 3, 4, 5, 19], [])), (9, ([0, 3, 5], [21])), (10, ([0, 3, 4, 5], [])), (11, ([0, 3, 4, 5], [27])), (12, ([2], [22, 28])), (1000004, ([0, 3, 4, 5], []))], dd := [(4, [[], [], [7]]), (5, [[], [10]]), (6, [[], [], [12, 13]]), (7, [[], [16], [17]]), (9, [[], [], [20, 21]]), (11, [[], [], [], [24, 25], [26], [23, 27]]), (12, [[3], [29]])] }

/- spec.DName -/
def c_spec_DName : SFn := ⟨1,
    (.seq
      (.region [
        ⟨some 2, .mv (.k (.str [])), none⟩] [0] [] [])
      (.seq
        (.region [
          ⟨some 7, .mv (.t 0), none⟩,
          ⟨some 8, .call 2 [(.t 7), (.k (.int .u8 58))], none⟩,
          ⟨some 6, .mv (.t 8), none⟩,
          ⟨some 9, .extr (.t 6) 0, none⟩,
          ⟨some 10, .extr (.t 6) 1, none⟩,
          ⟨some 11, .extr (.t 6) 2, none⟩,
          ⟨some 3, .mv (.t 9), none⟩,
          ⟨some 4, .mv (.t 10), none⟩,
          ⟨some 5, .mv (.t 11), none⟩] [3] [] [[0], [7], [8], [], [], [6], [9], [4, 10]])
        (.seq
          (.region [
            ⟨some 12, .mv (.t 3), none⟩,
            ⟨some 13, .call 3 [(.t 12)], none⟩,
            ⟨some 2, .mv (.t 13), none⟩] [2] [] [[3], [12]])
          .ret))),
  [.t 2]⟩

def l_spec_DName : Lay := { rg := [(0, ([0], [])), (1, ([3], [])), (2, ([2], []))], dd := [(1, [[0], [7], [8], [], [], [6], [9], [4, 10]]), (2, [[3], [12]])] }

/- spec.DFieldOf -/
def c_spec_DFieldOf : SFn := ⟨2,
    (.seq
      (.region [
        ⟨some 4, .mv (.k (.str [])), none⟩] [0, 1] [] [])
      (.seq
        (.seq
          (.region [
            ⟨some 8, .mv (.t 0), none⟩,
            ⟨some 9, .bin .eql (.t 8) (.k (.str [115, 105, 109, 112, 108, 101])), none⟩] [1, 9] [] [[0]])
          (.cond (.t 9)
            (.seq
              (.region [
                ⟨some 10, .mv (.t 1), none⟩,
                ⟨some 4, .mv (.t 10), none⟩] [4] [] [[1]])
              .ret)
            .skip))
        (.seq
          (.region [
            ⟨some 12, .mv (.t 1), none⟩,
            ⟨some 13, .call 2 [(.t 12), (.k (.int .u8 58))], none⟩,
            ⟨some 11, .mv (.t 13), none⟩,
            ⟨some 14, .extr (.t 11) 0, none⟩,
            ⟨some 15, .extr (.t 11) 1, none⟩,
            ⟨some 16, .extr (.t 11) 2, none⟩,
            ⟨some 5, .mv (.t 14), none⟩,
            ⟨some 6, .mv (.t 15), none⟩,
            ⟨some 7, .mv (.t 16), none⟩] [1, 5, 6, 7] [] [[], [12], [13], [], [], [11], [14], [15]])
          (.seq
            (.seq
              (.region [
                ⟨some 17, .mv (.t 7), none⟩,
                ⟨some 18, .un .not (.t 17), none⟩] [1, 5, 6, 18] [] [[7]])
              (.cond (.t 18)
                (.seq
                  (.region [
                    ⟨some 19, .mv (.t 1), none⟩,
                    ⟨some 20, .call 4 [(.t 19)], none⟩,
                    ⟨some 21, .call 3 [(.t 20)], none⟩,
                    ⟨some 22, .bin .add (.t 21) (.k (.str [58, 13, 10])), none⟩,
                    ⟨some 4, .mv (.t 22), none⟩] [4] [] [[1], [19], [20], [21]])
                  .ret)
                .skip))
            (.seq
              (.region [
                ⟨some 23, .mv (.t 5), none⟩,
                ⟨some 24, .call 4 [(.t 23)], none⟩,
                ⟨some 25, .call 3 [(.t 24)], none⟩,
                ⟨some 26, .bin .add (.t 25) (.k (.str [58])), none⟩,
                ⟨some 27, .mv (.t 6), none⟩,
                ⟨some 28, .call 5 [(.t 27)], none⟩,
                ⟨some 29, .bin .add (.t 26) (.t 28), none⟩,
                ⟨some 30, .bin .add (.t 29) (.k (.str [13, 10])), none⟩,
                ⟨some 4, .mv (.t 30), none⟩] [4] [] [[5], [23], [24], [25], [6], [27], [26, 28], [29]])
              .ret))))),
  [.t 4]⟩

def l_spec_DFieldOf : Lay := { rg := [(0, ([0, 1], [])), (1, ([1, 9], [])), (2, ([4], [])), (3, ([1, 5, 6, 7], [])), (4, ([1, 5, 6, 18], [])), (5, ([4], [])), (6, ([4], []))], dd := [(1, [[0]]), (2, [[1]]), (3, [[], [12], [13], [], [], [11], [14], [15]]), (4, [[7]]), (5, [[1], [19], [20], [21]]), (6, [[5], [23], [24], [25], [6], [27], [26, 28], [29]])] }

/- spec.DPlain -/
def c_spec_DPlain : SFn := ⟨2,
    (.seq
      (.region [
        ⟨some 4, .mv (.k (.bool false)), none⟩] [0, 1] [] [])
      (.seq
        (.seq
          (.region [
            ⟨some 5, .mv (.k (.int .i64 0)), none⟩] [0, 1, 5] [] [])
          (.block 0
            (.loop [0, 1, 5]
              (.seq
                (.seq
                  (.region [
                    ⟨some 6, .mv (.t 5), none⟩,
                    ⟨some 7, .mv (.t 0), none⟩,
                    ⟨some 8, .len 0 (.t 7), none⟩,
                    ⟨some 9, .bin .lss (.t 6) (.t 8), none⟩] [0, 1, 5, 9] [] [[], [], [7]])
                  (.cond (.t 9)
                    .skip
                    (.exit 0)))
                (.seq
                  (.block 1
                    (.seq
                      (.region [
                        ⟨some 12, .mv (.t 0), none⟩,
                        ⟨some 13, .mv (.t 5), none⟩,
                        ⟨some 14, .iStr (.t 12) (.t 13), none⟩,
                        ⟨some 15, .bin .geq (.t 14) (.k (.int .u8 128)), none⟩,
                        ⟨some 16, .mv (.t 15), none⟩,
                        ⟨some 17, .mv (.t 0), some (16, false)⟩,
                        ⟨some 18, .mv (.t 5), some (16, false)⟩,
                        ⟨some 19, .iStr (.t 17) (.t 18), some (16, false)⟩,
                        ⟨some 20, .bin .eql (.t 19) (.k (.int .u8 11)), some (16, false)⟩,
                        ⟨some 21, .pick (.t 16) (.k (.bool true)) (.t 20), none⟩,
                        ⟨some 22, .mv (.t 21), none⟩,
                        ⟨some 23, .mv (.t 0), some (22, false)⟩,
                        ⟨some 24, .mv (.t 5), some (22, false)⟩,
                        ⟨some 25, .iStr (.t 23) (.t 24), some (22, false)⟩,
                        ⟨some 26, .bin .eql (.t 25) (.k (.int .u8 12)), some (22, false)⟩,
                        ⟨some 27, .pick (.t 22) (.k (.bool true)) (.t 26), none⟩] [0, 1, 5, 27] [] [[], [], [12, 13], [14], [15], [], [], [17, 18], [19], [16, 20], [21], [], [], [23, 24], [25]])
                      (.cond (.t 27)
                        (.seq
                          (.region [
                            ⟨some 4, .mv (.k (.bool false)), none⟩] [4] [] [])
                          .ret)
                        .skip)))
                  (.region [
                    ⟨some 10, .mv (.t 5), none⟩,
                    ⟨some 11, .bin .add (.t 10) (.k (.int .i64 1)), none⟩,
                    ⟨some 5, .mv (.t 11), none⟩] [0, 1, 5] [] [[], [10]]))))))
        (.seq
          (.region [
            ⟨some 28, .mv (.t 0), none⟩,
            ⟨some 29, .len 0 (.t 28), none⟩,
            ⟨some 30, .mv (.t 1), none⟩,
            ⟨some 31, .bin .leq (.t 29) (.t 30), none⟩,
            ⟨some 4, .mv (.t 31), none⟩] [4] [] [[0], [28], [1], [29, 30]])
          .ret))),
  [.t 4]⟩

def l_spec_DPlain : Lay := { rg := [(0, ([0, 1], [])), (1, ([0, 1, 5], [])), (2, ([0, 1, 5, 9], [])), (3, ([0, 1, 5], [])), (4, ([0, 1, 5, 27], [])), (5, ([4], [])), (6, ([4], [])), (1000002, ([0, 1, 5], []))], dd := [(2, [[], [], [7]]), (3, [[], [10]]), (4, [[], [], [12, 13], [14], [15], [], [], [17, 18], [19], [16, 20], [21], [], [], [23, 24], [25]]), (6, [[0], [28], [1], [29, 30]])] }

/- laws.dForm -/
def c_laws_dForm : SFn := ⟨1,
    (.seq
      (.region [
        ⟨some 2, .mv (.k (.bool false)), none⟩] [0] [] [])
      (.seq
        (.region [
          ⟨some 3, .mv (.t 0), none⟩,
          ⟨some 4, .bin .eql (.t 3) (.k (.str [115, 105, 109, 112, 108, 101])), none⟩,
          ⟨some 5, .mv (.t 4), none⟩,
          ⟨some 6, .mv (.t 0), some (5, false)⟩,
          ⟨some 7, .bin .eql (.t 6) (.k (.str [114, 101, 108, 97, 120, 101, 100])), some (5, false)⟩,
          ⟨some 8, .pick (.t 5) (.k (.bool true)) (.t 7), none⟩,
          ⟨some 2, .mv (.t 8), none⟩] [2] [] [[], [3], [4], [0], [6], [5, 7]])
        .ret)),
  [.t 2]⟩

def l_laws_dForm : Lay := { rg := [(0, ([0], [])), (1, ([2], []))], dd := [(1, [[], [3], [4], [0], [6], [5, 7]])] }

/- laws.dShort -/
def c_laws_dShort : SFn := ⟨2,
    (.seq
      (.region [
        ⟨some 4, .mv (.k (.bool false)), none⟩] [0, 1] [] [])
      (.seq
        (.seq
          (.region [
            ⟨some 5, .mv (.k (.int .i64 0)), none⟩] [0, 1, 5] [] [])
          (.block 0
            (.loop [0, 1, 5]
              (.seq
                (.seq
                  (.region [
                    ⟨some 6, .mv (.t 5), none⟩,
                    ⟨some 7, .mv (.t 1), none⟩,
                    ⟨some 8, .len 1 (.t 7), none⟩,
                    ⟨some 9, .bin .lss (.t 6) (.t 8), none⟩] [0, 1, 5, 9] [] [[], [], [7]])
                  (.cond (.t 9)
                    .skip
                    (.exit 0)))
                (.seq
                  (.block 1
                    (.seq
                      (.region [
                        ⟨some 12, .mv (.t 1), none⟩,
                        ⟨some 13, .mv (.t 5), none⟩,
                        ⟨some 14, .iAddr 1 (.t 12) (.t 13), none⟩,
                        ⟨some 15, .load none (.t 14), none⟩,
                        ⟨some 16, .mv (.t 0), none⟩,
                        ⟨some 17, .call 6 [(.t 15), (.t 16)], none⟩,
                        ⟨some 18, .un .not (.t 17), none⟩] [0, 1, 5, 18] [] [[], [], [12, 13], [14], [], [15, 16]])
                      (.cond (.t 18)
                        (.seq
                          (.region [
                            ⟨some 4, .mv (.k (.bool false)), none⟩] [4] [] [])
                          .ret)
                        .skip)))
                  (.region [
                    ⟨some 10, .mv (.t 5), none⟩,
                    ⟨some 11, .bin .add (.t 10) (.k (.int .i64 1)), none⟩,
                    ⟨some 5, .mv (.t 11), none⟩] [0, 1, 5] [] [[], [10]]))))))
        (.seq
          (.region [
            ⟨some 19, .mv (.t 1), none⟩,
            ⟨some 20, .len 1 (.t 19), none⟩,
            ⟨some 21, .bin .leq (.t 20) (.k (.int .i64 200)), none⟩,
            ⟨some 4, .mv (.t 21), none⟩] [4] [] [[1], [19], [20]])
          .ret))),
  [.t 4]⟩

def l_laws_dShort : Lay := { rg := [(0, ([0, 1], [])), (1, ([0, 1, 5], [])), (2, ([0, 1, 5, 9], [])), (3, ([0, 1, 5], [])), (4, ([0, 1, 5, 18], [])), (5, ([4], [])), (6, ([4], [])), (1000002, ([0, 1, 5], []))], dd := [(2, [[], [], [7]]), (3, [[], [10]]), (4, [[], [], [12, 13], [14], [], [15, 16]]), (6, [[1], [19], [20]])] }

/- laws.dAwake -/
def c_laws_dAwake : SFn := ⟨0,
    (.seq
      (.region [
        ⟨some 0, .mv (.k (.bool false)), none⟩] [] [] [])
      (.seq
        (.region [
          ⟨some 1, .call 7 [(.k (.str [97, 58, 98]))], none⟩,
          ⟨some 2, .len 1 (.t 1), none⟩,
          ⟨some 3, .bin .eql (.t 2) (.k (.int .i64 2)), none⟩,
          ⟨some 4, .mv (.t 3), none⟩,
          ⟨some 5, .call 8 [(.k (.str [114, 101, 108, 97, 120, 101, 100])), (.k (.str [65, 58, 32, 66, 13, 10]))], some (4, true)⟩,
          ⟨some 6, .bin .eql (.t 5) (.k (.str [97, 58, 66, 13, 10])), some (4, true)⟩,
          ⟨some 7, .pick (.t 4) (.t 6) (.k (.bool false)), none⟩,
          ⟨some 0, .mv (.t 7), none⟩] [0] [] [[], [1], [2], [3], [], [5], [4, 6]])
        .ret)),
  [.t 0]⟩

def l_laws_dAwake : Lay := { rg := [(0, ([], [])), (1, ([0], []))], dd := [(1, [[], [1], [2], [3], [], [5], [4, 6]])] }

/- laws.FnDCanonFields -/
def c_laws_FnDCanonFields : SFn := ⟨2,
    (.seq
      (.region [
        ⟨some 4, .mv (.k (.bool false)), none⟩] [0, 1] [] [])
      (.seq
        (.seq
          (.region [
            ⟨some 5, .mv (.t 0), none⟩,
            ⟨some 6, .len 0 (.t 5), none⟩,
            ⟨some 7, .bin .gtr (.t 6) (.k (.int .i64 2147483647)), none⟩,
            ⟨some 8, .mv (.t 7), none⟩,
            ⟨some 9, .mv (.t 1), some (8, false)⟩,
            ⟨some 10, .len 0 (.t 9), some (8, false)⟩,
            ⟨some 11, .bin .gtr (.t 10) (.k (.int .i64 2147483647)), some (8, false)⟩,
            ⟨some 12, .pick (.t 8) (.k (.bool true)) (.t 11), none⟩] [0, 1, 12] [] [[], [5], [6], [7], [], [9], [10]])
          (.cond (.t 12)
            (.seq
              (.region [
                ⟨some 4, .mv (.k (.bool true)), none⟩] [4] [] [])
              .ret)
            .skip))
        (.seq
          (.seq
            (.region [
              ⟨some 13, .mv (.t 0), none⟩,
              ⟨some 14, .call 9 [(.t 13)], none⟩,
              ⟨some 15, .un .not (.t 14), none⟩,
              ⟨some 16, .mv (.t 15), none⟩,
              ⟨some 17, .mv (.t 1), some (16, false)⟩,
              ⟨some 18, .mkSl 1 1 [(.str [])] [(0, (.t 17))], some (16, false)⟩,
              ⟨some 19, .call 10 [(.k (.int .i64 2000)), (.t 18)], some (16, false)⟩,
              ⟨some 20, .un .not (.t 19), some (16, false)⟩,
              ⟨some 21, .pick (.t 16) (.k (.bool true)) (.t 20), none⟩] [0, 1, 21] [18] [[], [13], [14], [15], [], [17], [18], [19]])
            (.cond (.t 21)
              (.seq
                (.region [
                  ⟨some 22, .call 11 [], none⟩,
                  ⟨some 4, .mv (.t 22), none⟩] [4] [] [])
                .ret)
              .skip))
          (.seq
            (.region [
              ⟨some 23, .mv (.t 0), none⟩,
              ⟨some 24, .mv (.t 1), none⟩,
              ⟨some 25, .call 8 [(.t 23), (.t 24)], none⟩,
              ⟨some 26, .mv (.t 0), none⟩,
              ⟨some 27, .mv (.t 1), none⟩,
              ⟨some 28, .call 12 [(.t 26), (.t 27)], none⟩,
              ⟨some 29, .bin .eql (.t 25) (.t 28), none⟩,
              ⟨some 4, .mv (.t 29), none⟩] [4] [] [[], [], [23, 24], [0], [1], [26, 27], [25, 28]])
            .ret)))),
  [.t 4]⟩

def l_laws_FnDCanonFields : Lay := { rg := [(0, ([0, 1], [])), (1, ([0, 1, 12], [])), (2, ([4], [])), (3, ([0, 1, 21], [18])), (4, ([4], [])), (5, ([4], []))], dd := [(1, [[], [5], [6], [7], [], [9], [10]]), (3, [[], [13], [14], [15], [], [17], [18], [19]]), (5, [[], [], [23, 24], [0], [1], [26, 27], [25, 28]])] }

/- impl.DCanonField -/
def c_impl_DCanonField : SFn := ⟨2,
    (.seq
      (.region [
        ⟨some 4, .mv (.k (.str [])), none⟩] [0, 1] [] [])
      (.seq
        (.region [
          ⟨some 8, .mv (.t 0), none⟩,
          ⟨some 9, .mv (.t 1), none⟩,
          ⟨some 10, .call 13 [(.t 8), (.t 9)], none⟩,
          ⟨some 7, .mv (.t 10), none⟩,
          ⟨some 11, .extr (.t 7) 0, none⟩,
          ⟨some 12, .extr (.t 7) 1, none⟩,
          ⟨some 5, .mv (.t 11), none⟩,
          ⟨some 6, .mv (.t 12), none⟩] [5] [] [[0], [1], [8, 9], [10], [], [7], [11]])
        (.seq
          (.region [
            ⟨some 13, .mv (.t 5), none⟩,
            ⟨some 4, .mv (.t 13), none⟩] [4] [] [[5]])
          .ret))),
  [.t 4]⟩

def l_impl_DCanonField : Lay := { rg := [(0, ([0, 1], [])), (1, ([5], [])), (2, ([4], []))], dd := [(1, [[0], [1], [8, 9], [10], [], [7], [11]]), (2, [[5]])] }

/- impl.DList -/
def c_impl_DList : SFn := ⟨1,
    (.seq
      (.region [
        ⟨some 2, .mv (.k .nilS), none⟩] [0] [] [])
      (.seq
        (.region [
          ⟨some 3, .mv (.t 0), none⟩,
          ⟨some 4, .call 14 [(.t 3)], none⟩,
          ⟨some 2, .mv (.t 4), none⟩] [2] [] [[0], [3]])
        .ret)),
  [.t 2]⟩

def l_impl_DList : Lay := { rg := [(0, ([0], [])), (1, ([2], []))], dd := [(1, [[0], [3]])] }

/- dkim.CanonicalHeader -/
def c_dkim_CanonicalHeader : SFn := ⟨2,
    (.seq
      (.region [
        ⟨some 4, .mv (.k (.str [])), none⟩,
        ⟨some 5, .mv (.k (.bool false)), none⟩] [0, 1] [] [[4]])
      (.seq
        (.region [
          ⟨some 9, .mv (.t 0), none⟩,
          ⟨some 10, .call 15 [(.t 9)], none⟩,
          ⟨some 8, .mv (.t 10), none⟩,
          ⟨some 11, .extr (.t 8) 0, none⟩,
          ⟨some 12, .extr (.t 8) 1, none⟩,
          ⟨some 6, .mv (.t 11), none⟩,
          ⟨some 7, .mv (.t 12), none⟩] [1, 6, 7] [] [[0], [9], [10], [], [8], [11]])
        (.seq
          (.seq
            (.region [
              ⟨some 13, .mv (.t 7), none⟩,
              ⟨some 14, .un .not (.t 13), none⟩] [1, 6, 14] [] [[7]])
            (.cond (.t 14)
              (.seq
                (.region [
                  ⟨some 4, .mv (.k (.str [])), none⟩,
                  ⟨some 5, .mv (.k (.bool false)), none⟩] [4, 5] [] [])
                .ret)
              .skip))
          (.seq
            (.region [
              ⟨some 15, .mv (.t 6), none⟩,
              ⟨some 16, .mv (.t 1), none⟩,
              ⟨some 17, .inv (.t 15) "CanonicalizeHeader" [(.t 16)], none⟩,
              ⟨some 4, .mv (.t 17), none⟩,
              ⟨some 5, .mv (.k (.bool true)), none⟩] [4, 5] [] [[6], [1], [15, 16], [17]])
            .ret)))),
  [.t 4, .t 5]⟩

def l_dkim_CanonicalHeader : Lay := { rg := [(0, ([0, 1], [])), (1, ([1, 6, 7], [])), (2, ([1, 6, 14], [])), (3, ([4, 5], [])), (4, ([4, 5], []))], dd := [(0, [[4]]), (1, [[0], [9], [10], [], [8], [11]]), (2, [[7]]), (4, [[6], [1], [15, 16], [17]])] }

/- dkim.canonicalizers -/
def c_dkim_canonicalizers : SFn := ⟨1,
    (.seq
      (.region [
        ⟨some 2, .mv (.k .nilI), none⟩,
        ⟨some 3, .mv (.k (.bool false)), none⟩] [0] [] [[2]])
      (.seq
        (.seq
          (.region [
            ⟨some 4, .mv (.t 0), none⟩] [4] [] [])
          (.block 0
            (.seq
              (.region [
                ⟨some 6, .bin .eql (.t 4) (.k (.str [115, 105, 109, 112, 108, 101])), none⟩,
                ⟨some 5, .mv (.t 6), none⟩] [4, 5] [] [])
              (.cond (.t 5)
                (.seq
                  (.region [
                    ⟨some 7, .alloc [], none⟩,
                    ⟨some 8, .mkIfc 1 (.t 7), none⟩,
                    ⟨some 2, .mv (.t 8), none⟩,
                    ⟨some 3, .mv (.k (.bool true)), none⟩] [2, 3] [] [[], [7], [8]])
                  .ret)
                (.seq
                  (.region [
                    ⟨some 10, .bin .eql (.t 4) (.k (.str [114, 101, 108, 97, 120, 101, 100])), none⟩,
                    ⟨some 9, .mv (.t 10), none⟩] [9] [] [[4]])
                  (.cond (.t 9)
                    (.seq
                      (.region [
                        ⟨some 11, .alloc [], none⟩,
                        ⟨some 12, .mkIfc 2 (.t 11), none⟩,
                        ⟨some 2, .mv (.t 12), none⟩,
                        ⟨some 3, .mv (.k (.bool true)), none⟩] [2, 3] [] [[], [11], [12]])
                      .ret)
                    .skip))))))
        (.seq
          (.region [
            ⟨some 2, .mv (.k .nilI), none⟩,
            ⟨some 3, .mv (.k (.bool false)), none⟩] [2, 3] [] [])
          .ret))),
  [.t 2, .t 3]⟩

def l_dkim_canonicalizers : Lay := { rg := [(0, ([0], [])), (1, ([4], [])), (2, ([4, 5], [])), (3, ([2, 3], [])), (4, ([9], [])), (5, ([2, 3], [])), (6, ([2, 3], []))], dd := [(0, [[2]]), (3, [[], [7], [8]]), (4, [[4]]), (5, [[], [11], [12]])] }

/- dkim.simpleCanonicalizer).CanonicalizeHeader -/
def c_dkim_simpleCanonicalizer_CanonicalizeHeader : SFn := ⟨2,
    (.seq
      (.region [
        ⟨some 4, .mv (.k (.str [])), none⟩] [1] [] [])
      (.seq
        (.region [
          ⟨some 5, .mv (.t 1), none⟩,
          ⟨some 4, .mv (.t 5), none⟩] [4] [] [[1]])
        .ret)),
  [.t 4]⟩

def l_dkim_simpleCanonicalizer_CanonicalizeHeader : Lay := { rg := [(0, ([1], [])), (1, ([4], []))], dd := [(1, [[1]])] }

/- dkim.relaxedCanonicalizer).CanonicalizeHeader -/
def c_dkim_relaxedCanonicalizer_CanonicalizeHeader : SFn := ⟨2,
    (.seq
      (.region [
        ⟨some 4, .mv (.k (.str [])), none⟩] [1] [] [])
      (.seq
        (.region [
          ⟨some 9, .mv (.t 1), none⟩,
          ⟨some 10, .call 16 [(.t 9), (.k (.str [58]))], none⟩,
          ⟨some 8, .mv (.t 10), none⟩,
          ⟨some 11, .extr (.t 8) 0, none⟩,
          ⟨some 12, .extr (.t 8) 1, none⟩,
          ⟨some 13, .extr (.t 8) 2, none⟩,
          ⟨some 5, .mv (.t 11), none⟩,
          ⟨some 6, .mv (.t 12), none⟩,
          ⟨some 7, .mv (.t 13), none⟩] [1, 5, 6, 7] [] [[], [9], [10], [], [], [8], [11], [12]])
        (.seq
          (.seq
            (.region [
              ⟨some 14, .mv (.t 7), none⟩,
              ⟨some 15, .un .not (.t 14), none⟩] [1, 5, 6, 15] [] [[7]])
            (.cond (.t 15)
              (.seq
                (.region [
                  ⟨some 16, .mv (.t 1), none⟩,
                  ⟨some 17, .call 17 [(.t 16)], none⟩,
                  ⟨some 18, .call 18 [(.t 17)], none⟩,
                  ⟨some 19, .bin .add (.t 18) (.k (.str [58])), none⟩,
                  ⟨some 20, .bin .add (.t 19) (.k (.str [13, 10])), none⟩,
                  ⟨some 4, .mv (.t 20), none⟩] [4] [] [[1], [16], [17], [18], [19]])
                .ret)
              .skip))
          (.seq
            (.region [
              ⟨some 21, .mv (.t 5), none⟩,
              ⟨some 22, .call 17 [(.t 21)], none⟩,
              ⟨some 23, .call 18 [(.t 22)], none⟩,
              ⟨some 5, .mv (.t 23), none⟩] [5, 6] [] [[], [21], [22]])
            (.seq
              (.region [
                ⟨some 24, .mv (.t 6), none⟩,
                ⟨some 25, .call 19 [(.t 24), (.k (.fn 20 []))], none⟩,
                ⟨some 26, .call 21 [(.t 25), (.k (.str [32]))], none⟩,
                ⟨some 6, .mv (.t 26), none⟩] [5, 6] [] [[], [24], [25]])
              (.seq
                (.region [
                  ⟨some 27, .mv (.t 5), none⟩,
                  ⟨some 28, .bin .add (.t 27) (.k (.str [58])), none⟩,
                  ⟨some 29, .mv (.t 6), none⟩,
                  ⟨some 30, .bin .add (.t 28) (.t 29), none⟩,
                  ⟨some 31, .bin .add (.t 30) (.k (.str [13, 10])), none⟩,
                  ⟨some 4, .mv (.t 31), none⟩] [4] [] [[5], [27], [6], [28, 29], [30]])
                .ret)))))),
  [.t 4]⟩

def l_dkim_relaxedCanonicalizer_CanonicalizeHeader : Lay := { rg := [(0, ([1], [])), (1, ([1, 5, 6, 7], [])), (2, ([1, 5, 6, 15], [])), (3, ([4], [])), (4, ([5, 6], [])), (5, ([5, 6], [])), (6, ([4], []))], dd := [(1, [[], [9], [10], [], [], [8], [11], [12]]), (2, [[7]]), (3, [[1], [16], [17], [18], [19]]), (4, [[], [21], [22]]), (5, [[], [24], [25]]), (6, [[5], [27], [6], [28, 29], [30]])] }

/- dkim.relaxedCanonicalizer).CanonicalizeHeader$1 -/
def c_dkim_relaxedCanonicalizer_CanonicalizeHeader_1 : SFn := ⟨1,
    (.seq
      (.region [
        ⟨some 2, .mv (.k (.bool false)), none⟩] [0] [] [])
      (.seq
        (.region [
          ⟨some 3, .mv (.t 0), none⟩,
          ⟨some 4, .bin .eql (.t 3) (.k (.int .i32 32)), none⟩,
          ⟨some 5, .mv (.t 4), none⟩,
          ⟨some 6, .mv (.t 0), some (5, false)⟩,
          ⟨some 7, .bin .eql (.t 6) (.k (.int .i32 9)), some (5, false)⟩,
          ⟨some 8, .pick (.t 5) (.k (.bool true)) (.t 7), none⟩,
          ⟨some 9, .mv (.t 8), none⟩,
          ⟨some 10, .mv (.t 0), some (9, false)⟩,
          ⟨some 11, .bin .eql (.t 10) (.k (.int .i32 10)), some (9, false)⟩,
          ⟨some 12, .pick (.t 9) (.k (.bool true)) (.t 11), none⟩,
          ⟨some 13, .mv (.t 12), none⟩,
          ⟨some 14, .mv (.t 0), some (13, false)⟩,
          ⟨some 15, .bin .eql (.t 14) (.k (.int .i32 13)), some (13, false)⟩,
          ⟨some 16, .pick (.t 13) (.k (.bool true)) (.t 15), none⟩,
          ⟨some 2, .mv (.t 16), none⟩] [2] [] [[], [3], [4], [], [6], [5, 7], [8], [], [10], [9, 11], [12], [0], [14], [13, 15]])
        .ret)),
  [.t 2]⟩

def l_dkim_relaxedCanonicalizer_CanonicalizeHeader_1 : Lay := { rg := [(0, ([0], [])), (1, ([2], []))], dd := [(1, [[], [3], [4], [], [6], [5, 7], [8], [], [10], [9, 11], [12], [0], [14], [13, 15]])] }

/- dkim.zzCut -/
def c_dkim_zzCut : SFn := ⟨2,
    (.seq
      (.region [
        ⟨some 4, .mv (.k (.str [])), none⟩,
        ⟨some 5, .mv (.k (.str [])), none⟩,
        ⟨some 6, .mv (.k (.bool false)), none⟩] [0, 1] [] [[4], [5]])
      (.seq
        (.seq
          (.region [
            ⟨some 8, .mv (.t 0), none⟩,
            ⟨some 9, .mv (.t 1), none⟩,
            ⟨some 10, .call 22 [(.t 8), (.t 9)], none⟩,
            ⟨some 7, .mv (.t 10), none⟩] [0, 1, 7] [] [[], [], [8, 9]])
          (.seq
            (.region [
              ⟨some 11, .mv (.t 7), none⟩,
              ⟨some 12, .bin .geq (.t 11) (.k (.int .i64 0)), none⟩] [0, 1, 7, 12] [] [])
            (.cond (.t 12)
              (.seq
                (.region [
                  ⟨some 13, .mv (.t 0), none⟩,
                  ⟨some 14, .mv (.t 7), none⟩,
                  ⟨some 15, .slStr (.t 13) none (some (.t 14)), none⟩,
                  ⟨some 16, .mv (.t 0), none⟩,
                  ⟨some 17, .mv (.t 7), none⟩,
                  ⟨some 18, .mv (.t 1), none⟩,
                  ⟨some 19, .len 0 (.t 18), none⟩,
                  ⟨some 20, .bin .add (.t 17) (.t 19), none⟩,
                  ⟨some 21, .slStr (.t 16) (some (.t 20)) none, none⟩,
                  ⟨some 4, .mv (.t 15), none⟩,
                  ⟨some 5, .mv (.t 21), none⟩,
                  ⟨some 6, .mv (.k (.bool true)), none⟩] [4, 5, 6] [] [])
                .ret)
              .skip)))
        (.seq
          (.region [
            ⟨some 22, .mv (.t 0), none⟩,
            ⟨some 4, .mv (.t 22), none⟩,
            ⟨some 5, .mv (.k (.str [])), none⟩,
            ⟨some 6, .mv (.k (.bool false)), none⟩] [4, 5, 6] [] [[0], [22]])
          .ret))),
  [.t 4, .t 5, .t 6]⟩

def l_dkim_zzCut : Lay := { rg := [(0, ([0, 1], [])), (1, ([0, 1, 7], [])), (2, ([0, 1, 7, 12], [])), (3, ([4, 5, 6], [])), (4, ([4, 5, 6], []))], dd := [(0, [[4], [5]]), (1, [[], [], [8, 9]]), (4, [[0], [22]])] }

/- dkim.zzIndex -/
def c_dkim_zzIndex : SFn := ⟨2,
    (.seq
      (.region [
        ⟨some 4, .mv (.k (.int .i64 0)), none⟩] [0, 1] [] [])
      (.seq
        (.seq
          (.region [
            ⟨some 5, .mv (.k (.int .i64 0)), none⟩] [0, 1, 5] [] [])
          (.block 0
            (.loop [0, 1, 5]
              (.seq
                (.seq
                  (.region [
                    ⟨some 6, .mv (.t 5), none⟩,
                    ⟨some 7, .mv (.t 1), none⟩,
                    ⟨some 8, .len 0 (.t 7), none⟩,
                    ⟨some 9, .bin .add (.t 6) (.t 8), none⟩,
                    ⟨some 10, .mv (.t 0), none⟩,
                    ⟨some 11, .len 0 (.t 10), none⟩,
                    ⟨some 12, .bin .leq (.t 9) (.t 11), none⟩] [0, 1, 5, 12] [] [[], [], [7], [6, 8], [], [10]])
                  (.cond (.t 12)
                    .skip
                    (.exit 0)))
                (.seq
                  (.block 1
                    (.seq
                      (.region [
                        ⟨some 15, .mv (.t 0), none⟩,
                        ⟨some 16, .mv (.t 5), none⟩,
                        ⟨some 17, .mv (.t 5), none⟩,
                        ⟨some 18, .mv (.t 1), none⟩,
                        ⟨some 19, .len 0 (.t 18), none⟩,
                        ⟨some 20, .bin .add (.t 17) (.t 19), none⟩,
                        ⟨some 21, .slStr (.t 15) (some (.t 16)) (some (.t 20)), none⟩,
                        ⟨some 22, .mv (.t 1), none⟩,
                        ⟨some 23, .bin .eql (.t 21) (.t 22), none⟩] [0, 1, 5, 23] [] [[], [], [], [], [18], [17, 19], [15, 16, 20]])
                      (.cond (.t 23)
                        (.seq
                          (.region [
                            ⟨some 24, .mv (.t 5), none⟩,
                            ⟨some 4, .mv (.t 24), none⟩] [4] [] [[5]])
                          .ret)
                        .skip)))
                  (.region [
                    ⟨some 13, .mv (.t 5), none⟩,
                    ⟨some 14, .bin .add (.t 13) (.k (.int .i64 1)), none⟩,
                    ⟨some 5, .mv (.t 14), none⟩] [0, 1, 5] [] [[], [13]]))))))
        (.seq
          (.region [
            ⟨some 4, .mv (.k (.int .i64 (-1))), none⟩] [4] [] [])
          .ret))),
  [.t 4]⟩

def l_dkim_zzIndex : Lay := { rg := [(0, ([0, 1], [])), (1, ([0, 1, 5], [])), (2, ([0, 1, 5, 12], [])), (3, ([0, 1, 5], [])), (4, ([0, 1, 5, 23], [])), (5, ([4], [])), (6, ([4], [])), (1000002, ([0, 1, 5], []))], dd := [(2, [[], [], [7], [6, 8], [], [10]]), (3, [[], [13]]), (4, [[], [], [], [], [18], [17, 19], [15, 16, 20]]), (5, [[5]])] }

/- dkim.zzToLower -/
def c_dkim_zzToLower : SFn := ⟨1,
    (.seq
      (.region [
        ⟨some 2, .mv (.k (.str [])), none⟩] [0] [] [])
      (.seq
        (.region [
          ⟨some 3, .mv (.k .nilS), none⟩] [0, 3] [] [])
        (.seq
          (.seq
            (.region [
              ⟨some 4, .mv (.k (.int .i64 0)), none⟩] [0, 3, 4] [] [])
            (.block 0
              (.loop [0, 3, 4]
                (.seq
                  (.seq
                    (.region [
                      ⟨some 6, .mv (.t 4), none⟩,
                      ⟨some 7, .mv (.t 0), none⟩,
                      ⟨some 8, .len 0 (.t 7), none⟩,
                      ⟨some 9, .bin .lss (.t 6) (.t 8), none⟩] [0, 3, 4, 9] [] [[], [], [7]])
                    (.cond (.t 9)
                      .skip
                      (.exit 0)))
                  (.seq
                    (.block 1
                      (.seq
                        (.region [
                          ⟨some 12, .mv (.t 0), none⟩,
                          ⟨some 13, .mv (.t 4), none⟩,
                          ⟨some 14, .iStr (.t 12) (.t 13), none⟩,
                          ⟨some 5, .mv (.t 14), none⟩] [0, 3, 4, 5] [] [[], [], [12, 13]])
                        (.block 2
                          (.seq
                            (.region [
                              ⟨some 20, .mv (.t 5), none⟩,
                              ⟨some 21, .bin .leq (.k (.int .u8 65)) (.t 20), none⟩,
                              ⟨some 22, .mv (.t 21), none⟩,
                              ⟨some 23, .mv (.t 5), some (22, true)⟩,
                              ⟨some 24, .bin .leq (.t 23) (.k (.int .u8 90)), some (22, true)⟩,
                              ⟨some 25, .pick (.t 22) (.t 24) (.k (.bool false)), none⟩,
                              ⟨some 19, .mv (.t 25), none⟩] [0, 3, 4, 5, 19] [] [[], [20], [21], [], [23], [22, 24]])
                            (.cond (.t 19)
                              (.region [
                                ⟨some 26, .mv (.t 3), none⟩,
                                ⟨some 27, .mv (.t 5), none⟩,
                                ⟨some 28, .bin .add (.t 27) (.k (.int .u8 97)), none⟩,
                                ⟨some 29, .bin .sub (.t 28) (.k (.int .u8 65)), none⟩,
                                ⟨some 30, .mkSl 1 1 [(.int .u8 0)] [(0, (.t 29))], none⟩,
                                ⟨some 31, .app 1 1 (.t 26) (.t 30), none⟩,
                                ⟨some 3, .mv (.t 31), none⟩] [0, 3, 4] [30] [[], [5], [27], [28], [29], [26, 30]])
                              (.seq
                                (.region [
                                  ⟨some 33, .mv (.t 0), none⟩,
                                  ⟨some 34, .len 0 (.t 33), none⟩,
                                  ⟨some 35, .mv (.t 4), none⟩,
                                  ⟨some 36, .bin .sub (.t 34) (.t 35), none⟩,
                                  ⟨some 37, .bin .geq (.t 36) (.k (.int .i64 3)), none⟩,
                                  ⟨some 38, .mv (.t 37), none⟩,
                                  ⟨some 39, .mv (.t 0), some (38, true)⟩,
                                  ⟨some 40, .mv (.t 4), some (38, true)⟩,
                                  ⟨some 41, .mv (.t 4), some (38, true)⟩,
                                  ⟨some 42, .bin .add (.t 41) (.k (.int .i64 3)), some (38, true)⟩,
                                  ⟨some 43, .slStr (.t 39) (some (.t 40)) (some (.t 42)), some (38, true)⟩,
                                  ⟨some 44, .bin .eql (.t 43) (.k (.str [226, 132, 170])), some (38, true)⟩,
                                  ⟨some 45, .pick (.t 38) (.t 44) (.k (.bool false)), none⟩,
                                  ⟨some 32, .mv (.t 45), none⟩] [0, 3, 4, 5, 32] [] [[], [33], [], [34, 35], [36], [37], [], [], [], [41], [39, 40, 42], [43], [38, 44]])
                                (.cond (.t 32)
                                  (.seq
                                    (.region [
                                      ⟨some 46, .mv (.t 3), none⟩,
                                      ⟨some 47, .mkSl 1 1 [(.int .u8 0)] [(0, (.k (.int .u8 107)))], none⟩,
                                      ⟨some 48, .app 1 1 (.t 46) (.t 47), none⟩,
                                      ⟨some 3, .mv (.t 48), none⟩] [0, 3, 4] [47] [[], [], [46, 47]])
                                    (.region [
                                      ⟨some 49, .mv (.t 4), none⟩,
                                      ⟨some 50, .bin .add (.t 49) (.k (.int .i64 2)), none⟩,
                                      ⟨some 4, .mv (.t 50), none⟩] [0, 3, 4] [] [[], [49]]))
                                  (.region [
                                    ⟨some 15, .mv (.t 3), none⟩,
                                    ⟨some 16, .mv (.t 5), none⟩,
                                    ⟨some 17, .mkSl 1 1 [(.int .u8 0)] [(0, (.t 16))], none⟩,
                                    ⟨some 18, .app 1 1 (.t 15) (.t 17), none⟩,
                                    ⟨some 3, .mv (.t 18), none⟩] [0, 3, 4] [17] [[], [5], [16], [15, 17]]))))))))
                    (.region [
                      ⟨some 10, .mv (.t 4), none⟩,
                      ⟨some 11, .bin .add (.t 10) (.k (.int .i64 1)), none⟩,
                      ⟨some 4, .mv (.t 11), none⟩] [0, 3, 4] [] [[], [10]]))))))
          (.seq
            (.region [
              ⟨some 51, .mv (.t 3), none⟩,
              ⟨some 52, .cBytesStr (.t 51), none⟩,
              ⟨some 2, .mv (.t 52), none⟩] [2] [18, 31, 48] [[3], [51]])
            .ret)))),
  [.t 2]⟩

def l_dkim_zzToLower : Lay := { rg := [(0, ([0], [])), (1, ([0, 3], [])), (2, ([0, 3, 4], [])), (3, ([0, 3, 4, 9], [])), (4, ([0, 3, 4], [])), (5, ([0, 3, 4, 5], [])), (6, ([0, 3, 4], [17])), (7, ([0, 3, 4, 5, 19], [])), (8, ([0, 3, 4], [30])), (9, ([0, 3, 4, 5, 32], [])), (10, ([0, 3, 4], [47])), (11, ([0, 3, 4], [])), (12, ([2], [18, 31, 48])), (1000003, ([0, 3, 4], []))], dd := [(3, [[], [], [7]]), (4, [[], [10]]), (5, [[], [], [12, 13]]), (6, [[], [5], [16], [15, 17]]), (7, [[], [20], [21], [], [23], [22, 24]]), (8, [[], [5], [27], [28], [29], [26, 30]]), (9, [[], [33], [], [34, 35], [36], [37], [], [], [], [41], [39, 40, 42], [43], [38, 44]]), (10, [[], [], [46, 47]]), (11, [[], [49]]), (12, [[3], [51]])] }

/- dkim.zzTrimSpace -/
def b_dkim_zzTrimSpace_1 : SCode :=
  (.seq
    (.region [
      ⟨some 17, .nextS (.t 16), none⟩,
      ⟨some 18, .extr (.t 17) 0, none⟩] [0, 3, 4, 16, 17, 18] [] [])
    (.seq
      (.cond (.t 18)
        .skip
        (.exit 0))
      (.block 1
        (.seq
          (.region [
            ⟨some 19, .extr (.t 17) 1, none⟩,
            ⟨some 20, .extr (.t 17) 2, none⟩,
            ⟨some 5, .mv (.t 19), none⟩,
            ⟨some 6, .mv (.t 20), none⟩] [0, 3, 4, 5, 6, 16] [] [[], [17], [19]])
          (.seq
            (.region [
              ⟨some 21, .mv (.t 6), none⟩,
              ⟨some 22, .call 23 [(.t 21)], none⟩,
              ⟨some 23, .un .not (.t 22), none⟩] [0, 3, 4, 5, 16, 23] [] [[6], [21]])
            (.cond (.t 23)
              (.seq
                (.region [
                  ⟨some 24, .mv (.t 5), none⟩,
                  ⟨some 3, .mv (.t 24), none⟩] [0, 3, 4] [16] [[5]])
                (.exit 0))
              .skip))))))

def b_dkim_zzTrimSpace_2 : SCode :=
  (.seq
    (.seq
      (.region [
        ⟨some 30, .mv (.t 8), none⟩,
        ⟨some 31, .bin .lss (.t 30) (.k (.int .i64 4)), none⟩,
        ⟨some 32, .mv (.t 31), none⟩,
        ⟨some 33, .mv (.t 7), some (32, true)⟩,
        ⟨some 34, .mv (.t 8), some (32, true)⟩,
        ⟨some 35, .bin .add (.t 33) (.t 34), some (32, true)⟩,
        ⟨some 36, .mv (.t 0), some (32, true)⟩,
        ⟨some 37, .len 0 (.t 36), some (32, true)⟩,
        ⟨some 38, .bin .lss (.t 35) (.t 37), some (32, true)⟩,
        ⟨some 39, .pick (.t 32) (.t 38) (.k (.bool false)), none⟩,
        ⟨some 40, .mv (.t 39), none⟩,
        ⟨some 41, .mv (.t 0), some (40, true)⟩,
        ⟨some 42, .mv (.t 7), some (40, true)⟩,
        ⟨some 43, .iStr (.t 41) (.t 42), some (40, true)⟩,
        ⟨some 44, .bin .geq (.t 43) (.k (.int .u8 192)), some (40, true)⟩,
        ⟨some 45, .pick (.t 40) (.t 44) (.k (.bool false)), none⟩,
        ⟨some 46, .mv (.t 45), none⟩,
        ⟨some 47, .mv (.t 0), some (46, true)⟩,
        ⟨some 48, .mv (.t 7), some (46, true)⟩,
        ⟨some 49, .mv (.t 8), some (46, true)⟩,
        ⟨some 50, .bin .add (.t 48) (.t 49), some (46, true)⟩,
        ⟨some 51, .iStr (.t 47) (.t 50), some (46, true)⟩,
        ⟨some 52, .bin .and (.t 51) (.k (.int .u8 192)), some (46, true)⟩,
        ⟨some 53, .bin .eql (.t 52) (.k (.int .u8 128)), some (46, true)⟩,
        ⟨some 54, .pick (.t 46) (.t 53) (.k (.bool false)), none⟩] [0, 3, 4, 7, 8, 54] [] [[], [30], [31], [], [], [33, 34], [], [36], [35, 37], [32, 38], [39], [], [], [41, 42], [43], [40, 44], [45], [], [], [], [48, 49], [47, 50], [51], [52]])
      (.cond (.t 54)
        .skip
        (.exit 4)))
    (.block 5
      (.region [
        ⟨some 55, .mv (.t 8), none⟩,
        ⟨some 56, .bin .add (.t 55) (.k (.int .i64 1)), none⟩,
        ⟨some 8, .mv (.t 56), none⟩] [0, 3, 4, 7, 8] [] [[], [55]])))

def t_dkim_zzTrimSpace_3 : SCode :=
  (.seq
    (.seq
      (.region [
        ⟨some 57, .mv (.t 0), none⟩,
        ⟨some 58, .mv (.t 7), none⟩,
        ⟨some 59, .mv (.t 7), none⟩,
        ⟨some 60, .mv (.t 8), none⟩,
        ⟨some 61, .bin .add (.t 59) (.t 60), none⟩,
        ⟨some 62, .slStr (.t 57) (some (.t 58)) (some (.t 61)), none⟩,
        ⟨some 63, .cStrRunes (.t 62), none⟩,
        ⟨some 9, .mv (.t 63), none⟩] [0, 3, 4, 7, 8, 9] [] [[], [], [], [], [59, 60], [57, 58, 61], [62]])
      (.seq
        (.region [
          ⟨some 64, .mv (.t 9), none⟩,
          ⟨some 65, .len 1 (.t 64), none⟩,
          ⟨some 66, .bin .gtr (.t 65) (.k (.int .i64 1)), none⟩] [0, 3, 4, 7, 8, 66] [63] [[9], [64]])
        (.cond (.t 66)
          (.region [
            ⟨some 8, .mv (.k (.int .i64 1)), none⟩] [0, 3, 4, 7, 8] [] [])
          .skip)))
    (.seq
      (.seq
        (.region [
          ⟨some 67, .mv (.t 0), none⟩,
          ⟨some 68, .mv (.t 7), none⟩,
          ⟨some 69, .mv (.t 7), none⟩,
          ⟨some 70, .mv (.t 8), none⟩,
          ⟨some 71, .bin .add (.t 69) (.t 70), none⟩,
          ⟨some 72, .slStr (.t 67) (some (.t 68)) (some (.t 71)), none⟩,
          ⟨some 73, .cStrRunes (.t 72), none⟩,
          ⟨some 10, .mv (.t 73), none⟩] [0, 3, 4, 7, 8, 10] [] [[], [], [], [], [69, 70], [67, 68, 71], [72]])
        (.seq
          (.region [
            ⟨some 74, .mv (.t 10), none⟩,
            ⟨some 75, .len 1 (.t 74), none⟩,
            ⟨some 76, .bin .neq (.t 75) (.k (.int .i64 1)), none⟩,
            ⟨some 77, .mv (.t 76), none⟩,
            ⟨some 78, .mv (.t 10), some (77, false)⟩,
            ⟨some 79, .iAddr 1 (.t 78) (.k (.int .i64 0)), some (77, false)⟩,
            ⟨some 80, .load none (.t 79), some (77, false)⟩,
            ⟨some 81, .call 23 [(.t 80)], some (77, false)⟩,
            ⟨some 82, .un .not (.t 81), some (77, false)⟩,
            ⟨some 83, .pick (.t 77) (.k (.bool true)) (.t 82), none⟩] [0, 3, 4, 7, 8, 83] [73] [[], [74], [75], [76], [10], [78], [79], [80], [81]])
          (.cond (.t 83)
            (.region [
              ⟨some 84, .mv (.t 7), none⟩,
              ⟨some 85, .mv (.t 8), none⟩,
              ⟨some 86, .bin .add (.t 84) (.t 85), none⟩,
              ⟨some 4, .mv (.t 86), none⟩] [0, 3, 4, 7, 8] [] [[], [], [84, 85]])
            .skip)))
      (.region [
        ⟨some 87, .mv (.t 7), none⟩,
        ⟨some 88, .mv (.t 8), none⟩,
        ⟨some 89, .bin .add (.t 87) (.t 88), none⟩,
        ⟨some 7, .mv (.t 89), none⟩] [0, 3, 4, 7] [] [[], [8], [87, 88]])))

def b_dkim_zzTrimSpace_4 : SCode :=
  (.seq
    (.seq
      (.region [
        ⟨some 26, .mv (.t 7), none⟩,
        ⟨some 27, .mv (.t 0), none⟩,
        ⟨some 28, .len 0 (.t 27), none⟩,
        ⟨some 29, .bin .lss (.t 26) (.t 28), none⟩] [0, 3, 4, 7, 29] [] [[], [], [27]])
      (.cond (.t 29)
        .skip
        (.exit 2)))
    (.block 3
      (.seq
        (.region [
          ⟨some 8, .mv (.k (.int .i64 1)), none⟩] [0, 3, 4, 7, 8] [] [])
        (.seq
          (.block 4
            (.loop [0, 3, 4, 7, 8]
              b_dkim_zzTrimSpace_2))
          t_dkim_zzTrimSpace_3))))

def t_dkim_zzTrimSpace_5 : SCode :=
  (.seq
    (.seq
      (.region [
        ⟨some 90, .mv (.t 3), none⟩,
        ⟨some 91, .mv (.t 0), none⟩,
        ⟨some 92, .len 0 (.t 91), none⟩,
        ⟨some 93, .bin .eql (.t 90) (.t 92), none⟩] [0, 3, 4, 93] [] [[], [], [91]])
      (.cond (.t 93)
        (.seq
          (.region [
            ⟨some 2, .mv (.k (.str [])), none⟩] [2] [] [])
          .ret)
        .skip))
    (.seq
      (.region [
        ⟨some 94, .mv (.t 0), none⟩,
        ⟨some 95, .mv (.t 3), none⟩,
        ⟨some 96, .mv (.t 4), none⟩,
        ⟨some 97, .slStr (.t 94) (some (.t 95)) (some (.t 96)), none⟩,
        ⟨some 2, .mv (.t 97), none⟩] [2] [] [[0], [3], [4], [94, 95, 96]])
      .ret))

def t_dkim_zzTrimSpace_6 : SCode :=
  (.seq
    (.seq
      (.region [
        ⟨some 25, .mv (.t 3), none⟩,
        ⟨some 7, .mv (.t 25), none⟩] [0, 3, 4, 7] [16] [])
      (.block 2
        (.loop [0, 3, 4, 7]
          b_dkim_zzTrimSpace_4)))
    t_dkim_zzTrimSpace_5)

def c_dkim_zzTrimSpace : SFn := ⟨1,
    (.seq
      (.region [
        ⟨some 2, .mv (.k (.str [])), none⟩] [0] [] [])
      (.seq
        (.region [
          ⟨some 11, .mv (.t 0), none⟩,
          ⟨some 12, .len 0 (.t 11), none⟩,
          ⟨some 13, .mv (.t 0), none⟩,
          ⟨some 14, .len 0 (.t 13), none⟩,
          ⟨some 3, .mv (.t 12), none⟩,
          ⟨some 4, .mv (.t 14), none⟩] [0, 3, 4] [] [[], [11], [], [13], [12]])
        (.seq
          (.seq
            (.region [
              ⟨some 15, .mv (.t 0), none⟩,
              ⟨some 16, .rangeS (.t 15), none⟩] [0, 3, 4, 16] [] [])
            (.block 0
              (.loop [0, 3, 4, 16]
                b_dkim_zzTrimSpace_1)))
          t_dkim_zzTrimSpace_6))),
  [.t 2]⟩

def l_dkim_zzTrimSpace : Lay := { rg := [(0, ([0], [])), (1, ([0, 3, 4], [])), (2, ([0, 3, 4, 16], [])), (3, ([0, 3, 4, 16, 17, 18], [])), (4, ([0, 3, 4, 5, 6, 16], [])), (5, ([0, 3, 4, 5, 16, 23], [])), (6, ([0, 3, 4], [16])), (7, ([0, 3, 4, 7], [16])), (8, ([0, 3, 4, 7, 29], [])), (9, ([0, 3, 4, 7, 8], [])), (10, ([0, 3, 4, 7, 8, 54], [])), (11, ([0, 3, 4, 7, 8], [])), (12, ([0, 3, 4, 7, 8, 9], [])), (13, ([0, 3, 4, 7, 8, 66], [63])), (14, ([0, 3, 4, 7, 8], [])), (15, ([0, 3, 4, 7, 8, 10], [])), (16, ([0, 3, 4, 7, 8, 83], [73])), (17, ([0, 3, 4, 7, 8], [])), (18, ([0, 3, 4, 7], [])), (19, ([0, 3, 4, 93], [])), (20, ([2], [])), (21, ([2], [])), (1000003, ([0, 3, 4, 16], [])), (1000008, ([0, 3, 4, 7], [])), (1000010, ([0, 3, 4, 7, 8], []))], dd := [(1, [[], [11], [], [13], [12]]), (4, [[], [17], [19]]), (5, [[6], [21]]), (6, [[5]]), (8, [[], [], [27]]), (10, [[], [30], [31], [], [], [33, 34], [], [36], [35, 37], [32, 38], [39], [], [], [41, 42], [43], [40, 44], [45], [], [], [], [48, 49], [47, 50], [51], [52]]), (11, [[], [55]]), (12, [[], [], [], [], [59, 60], [57, 58, 61], [62]]), (13, [[9], [64]]), (15, [[], [], [], [], [69, 70], [67, 68, 71], [72]]), (16, [[], [74], [75], [76], [10], [78], [79], [80], [81]]), (17, [[], [], [84, 85]]), (18, [[], [8], [87, 88]]), (19, [[], [], [91]]), (21, [[0], [3], [4], [94, 95, 96]])] }

/- dkim.zzIsSpace -/
def c_dkim_zzIsSpace : SFn := ⟨1,
    (.seq
      (.region [
        ⟨some 2, .mv (.k (.bool false)), none⟩] [0] [] [])
      (.seq
        (.block 0
          (.seq
            (.seq
              (.region [
                ⟨some 4, .mv (.t 0), none⟩,
                ⟨some 5, .bin .geq (.t 4) (.k (.int .i32 9)), none⟩,
                ⟨some 6, .mv (.t 5), none⟩,
                ⟨some 7, .mv (.t 0), some (6, true)⟩,
                ⟨some 8, .bin .leq (.t 7) (.k (.int .i32 13)), some (6, true)⟩,
                ⟨some 9, .pick (.t 6) (.t 8) (.k (.bool false)), none⟩,
                ⟨some 3, .mv (.t 9), none⟩] [0, 3] [] [[], [4], [5], [], [7], [6, 8]])
              (.cond (.t 3)
                .skip
                (.seq
                  (.region [
                    ⟨some 10, .mv (.t 0), none⟩,
                    ⟨some 11, .bin .eql (.t 10) (.k (.int .i32 32)), none⟩,
                    ⟨some 3, .mv (.t 11), none⟩] [0, 3] [] [[], [10]])
                  (.cond (.t 3)
                    .skip
                    (.seq
                      (.region [
                        ⟨some 12, .mv (.t 0), none⟩,
                        ⟨some 13, .bin .eql (.t 12) (.k (.int .i32 133)), none⟩,
                        ⟨some 3, .mv (.t 13), none⟩] [0, 3] [] [[], [12]])
                      (.cond (.t 3)
                        .skip
                        (.seq
                          (.region [
                            ⟨some 14, .mv (.t 0), none⟩,
                            ⟨some 15, .bin .eql (.t 14) (.k (.int .i32 160)), none⟩,
                            ⟨some 3, .mv (.t 15), none⟩] [0, 3] [] [[], [14]])
                          (.cond (.t 3)
                            .skip
                            (.seq
                              (.region [
                                ⟨some 16, .mv (.t 0), none⟩,
                                ⟨some 17, .bin .eql (.t 16) (.k (.int .i32 5760)), none⟩,
                                ⟨some 3, .mv (.t 17), none⟩] [0, 3] [] [[], [16]])
                              (.cond (.t 3)
                                .skip
                                (.seq
                                  (.region [
                                    ⟨some 18, .mv (.t 0), none⟩,
                                    ⟨some 19, .bin .geq (.t 18) (.k (.int .i32 8192)), none⟩,
                                    ⟨some 20, .mv (.t 19), none⟩,
                                    ⟨some 21, .mv (.t 0), some (20, true)⟩,
                                    ⟨some 22, .bin .leq (.t 21) (.k (.int .i32 8202)), some (20, true)⟩,
                                    ⟨some 23, .pick (.t 20) (.t 22) (.k (.bool false)), none⟩,
                                    ⟨some 3, .mv (.t 23), none⟩] [0, 3] [] [[], [18], [19], [], [21], [20, 22]])
                                  (.cond (.t 3)
                                    .skip
                                    (.seq
                                      (.region [
                                        ⟨some 24, .mv (.t 0), none⟩,
                                        ⟨some 25, .bin .eql (.t 24) (.k (.int .i32 8232)), none⟩,
                                        ⟨some 3, .mv (.t 25), none⟩] [0, 3] [] [[], [24]])
                                      (.cond (.t 3)
                                        .skip
                                        (.seq
                                          (.region [
                                            ⟨some 26, .mv (.t 0), none⟩,
                                            ⟨some 27, .bin .eql (.t 26) (.k (.int .i32 8233)), none⟩,
                                            ⟨some 3, .mv (.t 27), none⟩] [0, 3] [] [[], [26]])
                                          (.cond (.t 3)
                                            .skip
                                            (.seq
                                              (.region [
                                                ⟨some 28, .mv (.t 0), none⟩,
                                                ⟨some 29, .bin .eql (.t 28) (.k (.int .i32 8239)), none⟩,
                                                ⟨some 3, .mv (.t 29), none⟩] [0, 3] [] [[], [28]])
                                              (.cond (.t 3)
                                                .skip
                                                (.seq
                                                  (.region [
                                                    ⟨some 30, .mv (.t 0), none⟩,
                                                    ⟨some 31, .bin .eql (.t 30) (.k (.int .i32 8287)), none⟩,
                                                    ⟨some 3, .mv (.t 31), none⟩] [0, 3] [] [[], [30]])
                                                  (.cond (.t 3)
                                                    .skip
                                                    (.region [
                                                      ⟨some 32, .mv (.t 0), none⟩,
                                                      ⟨some 33, .bin .eql (.t 32) (.k (.int .i32 12288)), none⟩,
                                                      ⟨some 3, .mv (.t 33), none⟩] [3] [] [[0], [32]])))))))))))))))))))))
            (.cond (.t 3)
              (.seq
                (.region [
                  ⟨some 2, .mv (.k (.bool true)), none⟩] [2] [] [])
                .ret)
              .skip)))
        (.seq
          (.region [
            ⟨some 2, .mv (.k (.bool false)), none⟩] [2] [] [])
          .ret))),
  [.t 2]⟩

def l_dkim_zzIsSpace : Lay := { rg := [(0, ([0], [])), (1, ([0, 3], [])), (2, ([0, 3], [])), (3, ([0, 3], [])), (4, ([0, 3], [])), (5, ([0, 3], [])), (6, ([0, 3], [])), (7, ([0, 3], [])), (8, ([0, 3], [])), (9, ([0, 3], [])), (10, ([0, 3], [])), (11, ([3], [])), (12, ([2], [])), (13, ([2], []))], dd := [(1, [[], [4], [5], [], [7], [6, 8]]), (2, [[], [10]]), (3, [[], [12]]), (4, [[], [14]]), (5, [[], [16]]), (6, [[], [18], [19], [], [21], [20, 22]]), (7, [[], [24]]), (8, [[], [26]]), (9, [[], [28]]), (10, [[], [30]]), (11, [[0], [32]])] }

/- dkim.TagList -/
def c_dkim_TagList : SFn := ⟨1,
    (.seq
      (.region [
        ⟨some 2, .mv (.k .nilS), none⟩] [0] [] [])
      (.seq
        (.region [
          ⟨some 3, .mv (.t 0), none⟩,
          ⟨some 4, .call 24 [(.t 3)], none⟩,
          ⟨some 2, .mv (.t 4), none⟩] [2] [] [[0], [3]])
        .ret)),
  [.t 2]⟩

def l_dkim_TagList : Lay := { rg := [(0, ([0], [])), (1, ([2], []))], dd := [(1, [[0], [3]])] }

/- dkim.parseTagList -/
def b_dkim_parseTagList_1 : SCode :=
  (.seq
    (.region [
      ⟨some 11, .bin .lss (.t 10) (.t 9), none⟩] [3, 8, 9, 10, 11] [] [])
    (.seq
      (.cond (.t 11)
        .skip
        (.exit 0))
      (.seq
        (.block 1
          (.seq
            (.region [
              ⟨some 12, .mv (.t 10), none⟩,
              ⟨some 13, .iAddr 1 (.t 8) (.t 10), none⟩,
              ⟨some 14, .load none (.t 13), none⟩,
              ⟨some 4, .mv (.t 12), none⟩,
              ⟨some 5, .mv (.t 14), none⟩] [3, 4, 5, 8, 9, 10] [] [[], [], [13], [12]])
            (.region [
              ⟨some 15, .mv (.t 3), none⟩,
              ⟨some 16, .mv (.t 4), none⟩,
              ⟨some 17, .mv (.t 5), none⟩,
              ⟨some 18, .call 26 [(.t 17)], none⟩,
              ⟨some 19, .iAddr 1 (.t 15) (.t 16), none⟩,
              ⟨none, .store 1 (.t 19) (.t 18), none⟩] [3, 8, 9, 10] [] [[], [4], [5], [17], [15, 16]])))
        (.region [
          ⟨some 20, .bin .add (.t 10) (.k (.int .i64 1)), none⟩,
          ⟨some 10, .mv (.t 20), none⟩] [3, 8, 9, 10] [] []))))

def t_dkim_parseTagList_2 : SCode :=
  (.seq
    (.region [
      ⟨some 21, .mv (.t 3), none⟩,
      ⟨some 2, .mv (.t 21), none⟩] [2] [] [[3]])
    .ret)

def c_dkim_parseTagList : SFn := ⟨1,
    (.seq
      (.region [
        ⟨some 2, .mv (.k .nilS), none⟩] [0] [] [])
      (.seq
        (.region [
          ⟨some 6, .mv (.t 0), none⟩,
          ⟨some 7, .callS 25 [(.t 6), (.k (.str [58]))], none⟩,
          ⟨some 3, .mv (.t 7), none⟩] [3] [] [[0], [6]])
        (.seq
          (.seq
            (.region [
              ⟨some 8, .mv (.t 3), none⟩,
              ⟨some 9, .len 1 (.t 8), none⟩,
              ⟨some 10, .mv (.k (.int .i64 0)), none⟩] [3, 8, 9, 10] [] [])
            (.block 0
              (.loop [3, 8, 9, 10]
                b_dkim_parseTagList_1)))
          t_dkim_parseTagList_2))),
  [.t 2]⟩

def l_dkim_parseTagList : Lay := { rg := [(0, ([0], [])), (1, ([3], [])), (2, ([3, 8, 9, 10], [])), (3, ([3, 8, 9, 10, 11], [])), (4, ([3, 4, 5, 8, 9, 10], [])), (5, ([3, 8, 9, 10], [])), (6, ([3, 8, 9, 10], [])), (7, ([2], [])), (1000003, ([3, 8, 9, 10], []))], dd := [(1, [[0], [6]]), (4, [[], [], [13], [12]]), (5, [[], [4], [5], [17], [15, 16]]), (7, [[3]])], sf := [25] }

/- dkim.zzSplit -/
def b_dkim_zzSplit_1 : SCode :=
  (.seq
    (.region [
      ⟨some 14, .nextS (.t 13), none⟩,
      ⟨some 15, .extr (.t 14) 0, none⟩] [0, 5, 6, 13, 14, 15] [] [])
    (.seq
      (.cond (.t 15)
        .skip
        (.exit 0))
      (.block 1
        (.seq
          (.region [
            ⟨some 16, .extr (.t 14) 1, none⟩,
            ⟨some 7, .mv (.t 16), none⟩] [0, 5, 6, 7, 13] [] [[14]])
          (.seq
            (.region [
              ⟨some 17, .mv (.t 7), none⟩,
              ⟨some 18, .bin .gtr (.t 17) (.k (.int .i64 0)), none⟩] [0, 5, 6, 7, 13, 18] [] [])
            (.cond (.t 18)
              (.seq
                (.region [
                  ⟨some 19, .mv (.t 5), none⟩,
                  ⟨some 20, .mv (.t 0), none⟩,
                  ⟨some 21, .mv (.t 6), none⟩,
                  ⟨some 22, .mv (.t 7), none⟩,
                  ⟨some 23, .slStr (.t 20) (some (.t 21)) (some (.t 22)), none⟩,
                  ⟨some 24, .mkSl 1 1 [(.str [])] [(0, (.t 23))], none⟩,
                  ⟨some 25, .app 1 16 (.t 19) (.t 24), none⟩,
                  ⟨some 5, .mv (.t 25), none⟩] [0, 5, 7, 13] [24] [[], [], [6], [], [20, 21, 22], [23], [19, 24]])
                (.region [
                  ⟨some 26, .mv (.t 7), none⟩,
                  ⟨some 6, .mv (.t 26), none⟩] [0, 5, 6, 13] [] [[7]]))
              .skip))))))

def t_dkim_zzSplit_2 : SCode :=
  (.seq
    (.seq
      (.region [
        ⟨some 27, .mv (.t 0), none⟩,
        ⟨some 28, .len 0 (.t 27), none⟩,
        ⟨some 29, .bin .gtr (.t 28) (.k (.int .i64 0)), none⟩] [0, 5, 6, 29] [13] [[], [27]])
      (.cond (.t 29)
        (.region [
          ⟨some 30, .mv (.t 5), none⟩,
          ⟨some 31, .mv (.t 0), none⟩,
          ⟨some 32, .mv (.t 6), none⟩,
          ⟨some 33, .slStr (.t 31) (some (.t 32)) none, none⟩,
          ⟨some 34, .mkSl 1 1 [(.str [])] [(0, (.t 33))], none⟩,
          ⟨some 35, .app 1 16 (.t 30) (.t 34), none⟩,
          ⟨some 5, .mv (.t 35), none⟩] [5] [34] [[], [0], [6], [31, 32], [33], [30, 34]])
        .skip))
    (.seq
      (.region [
        ⟨some 36, .mv (.t 5), none⟩,
        ⟨some 4, .mv (.t 36), none⟩] [4] [] [[5]])
      .ret))

def b_dkim_zzSplit_3 : SCode :=
  (.block 3
    (.seq
      (.region [
        ⟨some 37, .mv (.t 0), none⟩,
        ⟨some 38, .mv (.t 1), none⟩,
        ⟨some 39, .call 22 [(.t 37), (.t 38)], none⟩,
        ⟨some 8, .mv (.t 39), none⟩] [0, 1, 5, 8] [] [[], [], [37, 38]])
      (.seq
        (.seq
          (.region [
            ⟨some 40, .mv (.t 8), none⟩,
            ⟨some 41, .bin .lss (.t 40) (.k (.int .i64 0)), none⟩] [0, 1, 5, 8, 41] [] [])
          (.cond (.t 41)
            (.seq
              (.region [
                ⟨some 42, .mv (.t 5), none⟩,
                ⟨some 43, .mv (.t 0), none⟩,
                ⟨some 44, .mkSl 1 1 [(.str [])] [(0, (.t 43))], none⟩,
                ⟨some 45, .app 1 16 (.t 42) (.t 44), none⟩,
                ⟨some 4, .mv (.t 45), none⟩] [4] [44] [[5], [0], [43], [42, 44]])
              .ret)
            .skip))
        (.seq
          (.region [
            ⟨some 46, .mv (.t 5), none⟩,
            ⟨some 47, .mv (.t 0), none⟩,
            ⟨some 48, .mv (.t 8), none⟩,
            ⟨some 49, .slStr (.t 47) none (some (.t 48)), none⟩,
            ⟨some 50, .mkSl 1 1 [(.str [])] [(0, (.t 49))], none⟩,
            ⟨some 51, .app 1 16 (.t 46) (.t 50), none⟩,
            ⟨some 5, .mv (.t 51), none⟩] [0, 1, 5, 8] [50] [[], [], [], [47, 48], [49], [46, 50]])
          (.region [
            ⟨some 52, .mv (.t 0), none⟩,
            ⟨some 53, .mv (.t 8), none⟩,
            ⟨some 54, .mv (.t 1), none⟩,
            ⟨some 55, .len 0 (.t 54), none⟩,
            ⟨some 56, .bin .add (.t 53) (.t 55), none⟩,
            ⟨some 57, .slStr (.t 52) (some (.t 56)) none, none⟩,
            ⟨some 0, .mv (.t 57), none⟩] [0, 1, 5] [] [[], [8], [], [54], [53, 55], [52, 56]])))))

def t_dkim_zzSplit_4 : SCode :=
  (.block 2
    (.loop [0, 1, 5]
      b_dkim_zzSplit_3))

def c_dkim_zzSplit : SFn := ⟨2,
    (.seq
      (.region [
        ⟨some 4, .mv (.k .nilS), none⟩] [0, 1] [] [])
      (.seq
        (.region [
          ⟨some 5, .mv (.k .nilS), none⟩] [0, 1, 5] [] [])
        (.seq
          (.seq
            (.region [
              ⟨some 9, .mv (.t 1), none⟩,
              ⟨some 10, .len 0 (.t 9), none⟩,
              ⟨some 11, .bin .eql (.t 10) (.k (.int .i64 0)), none⟩] [0, 1, 5, 11] [] [[], [9]])
            (.cond (.t 11)
              (.seq
                (.region [
                  ⟨some 6, .mv (.k (.int .i64 0)), none⟩] [0, 5, 6] [] [])
                (.seq
                  (.seq
                    (.region [
                      ⟨some 12, .mv (.t 0), none⟩,
                      ⟨some 13, .rangeS (.t 12), none⟩] [0, 5, 6, 13] [] [])
                    (.block 0
                      (.loop [0, 5, 6, 13]
                        b_dkim_zzSplit_1)))
                  t_dkim_zzSplit_2))
              .skip))
          t_dkim_zzSplit_4))),
  [.t 4]⟩

def l_dkim_zzSplit : Lay := { rg := [(0, ([0, 1], [])), (1, ([0, 1, 5], [])), (2, ([0, 1, 5, 11], [])), (3, ([0, 5, 6], [])), (4, ([0, 5, 6, 13], [])), (5, ([0, 5, 6, 13, 14, 15], [])), (6, ([0, 5, 6, 7, 13], [])), (7, ([0, 5, 6, 7, 13, 18], [])), (8, ([0, 5, 7, 13], [24])), (9, ([0, 5, 6, 13], [])), (10, ([0, 5, 6, 29], [13])), (11, ([5], [34])), (12, ([4], [])), (13, ([0, 1, 5, 8], [])), (14, ([0, 1, 5, 8, 41], [])), (15, ([4], [44])), (16, ([0, 1, 5, 8], [50])), (17, ([0, 1, 5], [])), (1000005, ([0, 5, 6, 13], [])), (1000013, ([0, 1, 5], []))], dd := [(2, [[], [9]]), (6, [[14]]), (8, [[], [], [6], [], [20, 21, 22], [23], [19, 24]]), (9, [[7]]), (10, [[], [27]]), (11, [[], [0], [6], [31, 32], [33], [30, 34]]), (12, [[5]]), (13, [[], [], [37, 38]]), (15, [[5], [0], [43], [42, 44]]), (16, [[], [], [], [47, 48], [49], [46, 50]]), (17, [[], [8], [], [54], [53, 55], [52, 56]])] }

/- dkim.stripWhitespace -/
def b_dkim_stripWhitespace_1 : SCode :=
  (.seq
    (.region [
      ⟨some 8, .nextS (.t 7), none⟩,
      ⟨some 9, .extr (.t 8) 0, none⟩] [3, 7, 8, 9] [] [])
    (.seq
      (.cond (.t 9)
        .skip
        (.exit 0))
      (.block 1
        (.seq
          (.region [
            ⟨some 10, .extr (.t 8) 2, none⟩,
            ⟨some 5, .mv (.t 10), none⟩] [3, 5, 7] [] [[8]])
          (.seq
            (.region [
              ⟨some 11, .mv (.t 5), none⟩,
              ⟨some 12, .call 23 [(.t 11)], none⟩,
              ⟨some 13, .un .not (.t 12), none⟩] [3, 5, 7, 13] [] [[], [11]])
            (.cond (.t 13)
              (.region [
                ⟨some 14, .mv (.t 3), none⟩,
                ⟨some 15, .mv (.t 5), none⟩,
                ⟨some 16, .cIntStr (.t 15), none⟩,
                ⟨some 17, .app 1 1 (.t 14) (.t 16), none⟩,
                ⟨some 3, .mv (.t 17), none⟩] [3, 7] [] [[], [5], [15], [14, 16]])
              .skip))))))

def t_dkim_stripWhitespace_2 : SCode :=
  (.seq
    (.region [
      ⟨some 18, .mv (.t 3), none⟩,
      ⟨some 19, .cBytesStr (.t 18), none⟩,
      ⟨some 2, .mv (.t 19), none⟩] [2] [7, 17] [[3], [18]])
    .ret)

def c_dkim_stripWhitespace : SFn := ⟨1,
    (.seq
      (.region [
        ⟨some 2, .mv (.k (.str [])), none⟩] [0] [] [])
      (.seq
        (.region [
          ⟨some 3, .mv (.k .nilS), none⟩] [0, 3] [] [])
        (.seq
          (.seq
            (.region [
              ⟨some 6, .mv (.t 0), none⟩,
              ⟨some 7, .rangeS (.t 6), none⟩] [3, 7] [] [[0]])
            (.block 0
              (.loop [3, 7]
                b_dkim_stripWhitespace_1)))
          t_dkim_stripWhitespace_2))),
  [.t 2]⟩

def l_dkim_stripWhitespace : Lay := { rg := [(0, ([0], [])), (1, ([0, 3], [])), (2, ([3, 7], [])), (3, ([3, 7, 8, 9], [])), (4, ([3, 5, 7], [])), (5, ([3, 5, 7, 13], [])), (6, ([3, 7], [])), (7, ([2], [7, 17])), (1000003, ([3, 7], []))], dd := [(2, [[0]]), (4, [[8]]), (5, [[], [11]]), (6, [[], [5], [15], [14, 16]]), (7, [[3], [18]])] }

/- strings.FieldsFunc -/
def b_strings_FieldsFunc_1 : SCode :=
  (.seq
    (.region [
      ⟨some 15, .nextS (.t 14), none⟩,
      ⟨some 16, .extr (.t 15) 0, none⟩] [0, 1, 5, 6, 14, 15, 16] [] [])
    (.seq
      (.cond (.t 16)
        .skip
        (.exit 0))
      (.block 1
        (.seq
          (.region [
            ⟨some 17, .extr (.t 15) 1, none⟩,
            ⟨some 18, .extr (.t 15) 2, none⟩,
            ⟨some 7, .mv (.t 17), none⟩,
            ⟨some 8, .mv (.t 18), none⟩] [0, 1, 5, 6, 7, 8, 14] [] [[], [15], [17]])
          (.seq
            (.region [
              ⟨some 19, .mv (.t 1), none⟩,
              ⟨some 20, .mv (.t 8), none⟩,
              ⟨some 21, .callV (.t 19) [(.t 20)], none⟩] [0, 1, 5, 6, 7, 14, 21] [] [[], [8]])
            (.cond (.t 21)
              (.seq
                (.region [
                  ⟨some 22, .mv (.t 6), none⟩,
                  ⟨some 23, .bin .geq (.t 22) (.k (.int .i64 0)), none⟩] [0, 1, 5, 6, 7, 14, 23] [] [])
                (.cond (.t 23)
                  (.seq
                    (.region [
                      ⟨some 24, .mv (.t 5), none⟩,
                      ⟨some 25, .mv (.t 6), none⟩,
                      ⟨some 26, .mv (.t 7), none⟩,
                      ⟨some 27, .agg [(.int .i64 0), (.int .i64 0)] [(0, 1, (.t 25)), (1, 1, (.t 26))], none⟩,
                      ⟨some 28, .mkSl 2 1 [(.int .i64 0), (.int .i64 0)] [(0, (.t 27))], none⟩,
                      ⟨some 29, .app 2 16 (.t 24) (.t 28), none⟩,
                      ⟨some 5, .mv (.t 29), none⟩] [0, 1, 5, 6, 14] [28] [[], [], [7], [25, 26], [27], [24, 28]])
                    (.region [
                      ⟨some 30, .mv (.t 6), none⟩,
                      ⟨some 31, .un .xor (.t 30), none⟩,
                      ⟨some 6, .mv (.t 31), none⟩] [0, 1, 5, 6, 14] [] [[], [30]]))
                  .skip))
              (.seq
                (.region [
                  ⟨some 32, .mv (.t 6), none⟩,
                  ⟨some 33, .bin .lss (.t 32) (.k (.int .i64 0)), none⟩] [0, 1, 5, 6, 7, 14, 33] [] [])
                (.cond (.t 33)
                  (.region [
                    ⟨some 34, .mv (.t 7), none⟩,
                    ⟨some 6, .mv (.t 34), none⟩] [0, 1, 5, 6, 14] [] [[7]])
                  .skip))))))))

def b_strings_FieldsFunc_2 : SCode :=
  (.seq
    (.region [
      ⟨some 50, .bin .lss (.t 49) (.t 48), none⟩] [0, 9, 47, 48, 49, 50] [] [])
    (.seq
      (.cond (.t 50)
        .skip
        (.exit 2))
      (.seq
        (.block 3
          (.seq
            (.region [
              ⟨some 51, .mv (.t 49), none⟩,
              ⟨some 52, .iAddr 2 (.t 47) (.t 49), none⟩,
              ⟨some 53, .load (some 2) (.t 52), none⟩,
              ⟨some 11, .alloc [(.int .i64 0), (.int .i64 0)], none⟩,
              ⟨some 10, .mv (.t 51), none⟩,
              ⟨none, .store 2 (.t 11) (.t 53), none⟩] [0, 9, 10, 11, 47, 48, 49] [] [[], [], [52], [], [51]])
            (.region [
              ⟨some 54, .mv (.t 9), none⟩,
              ⟨some 55, .mv (.t 10), none⟩,
              ⟨some 56, .mv (.t 0), none⟩,
              ⟨some 57, .fAddr 0 (.t 11), none⟩,
              ⟨some 58, .load none (.t 57), none⟩,
              ⟨some 59, .fAddr 1 (.t 11), none⟩,
              ⟨some 60, .load none (.t 59), none⟩,
              ⟨some 61, .slStr (.t 56) (some (.t 58)) (some (.t 60)), none⟩,
              ⟨some 62, .iAddr 1 (.t 54) (.t 55), none⟩,
              ⟨none, .store 1 (.t 62) (.t 61), none⟩] [0, 9, 47, 48, 49] [11] [[], [10], [], [], [57], [11], [59], [56, 58, 60], [54, 55]])))
        (.region [
          ⟨some 63, .bin .add (.t 49) (.k (.int .i64 1)), none⟩,
          ⟨some 49, .mv (.t 63), none⟩] [0, 9, 47, 48, 49] [] []))))

def t_strings_FieldsFunc_3 : SCode :=
  (.seq
    (.region [
      ⟨some 64, .mv (.t 9), none⟩,
      ⟨some 4, .mv (.t 64), none⟩] [4] [12, 29, 43] [[9]])
    .ret)

def t_strings_FieldsFunc_4 : SCode :=
  (.seq
    (.seq
      (.region [
        ⟨some 35, .mv (.t 6), none⟩,
        ⟨some 36, .bin .geq (.t 35) (.k (.int .i64 0)), none⟩] [0, 5, 6, 36] [14] [])
      (.cond (.t 36)
        (.region [
          ⟨some 37, .mv (.t 5), none⟩,
          ⟨some 38, .mv (.t 6), none⟩,
          ⟨some 39, .mv (.t 0), none⟩,
          ⟨some 40, .len 0 (.t 39), none⟩,
          ⟨some 41, .agg [(.int .i64 0), (.int .i64 0)] [(0, 1, (.t 38)), (1, 1, (.t 40))], none⟩,
          ⟨some 42, .mkSl 2 1 [(.int .i64 0), (.int .i64 0)] [(0, (.t 41))], none⟩,
          ⟨some 43, .app 2 16 (.t 37) (.t 42), none⟩,
          ⟨some 5, .mv (.t 43), none⟩] [0, 5] [42] [[], [6], [], [39], [38, 40], [41], [37, 42]])
        .skip))
    (.seq
      (.region [
        ⟨some 44, .mv (.t 5), none⟩,
        ⟨some 45, .len 1 (.t 44), none⟩,
        ⟨some 46, .mkSlice 1 16 [(.str [])] (.t 45) (.t 45), none⟩,
        ⟨some 9, .mv (.t 46), none⟩] [0, 5, 9] [] [[], [44], [45]])
      (.seq
        (.seq
          (.region [
            ⟨some 47, .mv (.t 5), none⟩,
            ⟨some 48, .len 1 (.t 47), none⟩,
            ⟨some 49, .mv (.k (.int .i64 0)), none⟩] [0, 9, 47, 48, 49] [] [[5]])
          (.block 2
            (.loop [0, 9, 47, 48, 49]
              b_strings_FieldsFunc_2)))
        t_strings_FieldsFunc_3)))

def c_strings_FieldsFunc : SFn := ⟨2,
    (.seq
      (.region [
        ⟨some 4, .mv (.k .nilS), none⟩] [0, 1] [] [])
      (.seq
        (.region [
          ⟨some 12, .mkSlice 2 16 [(.int .i64 0), (.int .i64 0)] (.k (.int .i64 0)) (.k (.int .i64 32)), none⟩,
          ⟨some 5, .mv (.t 12), none⟩] [0, 1, 5] [] [])
        (.seq
          (.region [
            ⟨some 6, .mv (.k (.int .i64 (-1))), none⟩] [0, 1, 5, 6] [] [])
          (.seq
            (.seq
              (.region [
                ⟨some 13, .mv (.t 0), none⟩,
                ⟨some 14, .rangeS (.t 13), none⟩] [0, 1, 5, 6, 14] [] [])
              (.block 0
                (.loop [0, 1, 5, 6, 14]
                  b_strings_FieldsFunc_1)))
            t_strings_FieldsFunc_4)))),
  [.t 4]⟩

def l_strings_FieldsFunc : Lay := { rg := [(0, ([0, 1], [])), (1, ([0, 1, 5], [])), (2, ([0, 1, 5, 6], [])), (3, ([0, 1, 5, 6, 14], [])), (4, ([0, 1, 5, 6, 14, 15, 16], [])), (5, ([0, 1, 5, 6, 7, 8, 14], [])), (6, ([0, 1, 5, 6, 7, 14, 21], [])), (7, ([0, 1, 5, 6, 7, 14, 23], [])), (8, ([0, 1, 5, 6, 14], [28])), (9, ([0, 1, 5, 6, 14], [])), (10, ([0, 1, 5, 6, 7, 14, 33], [])), (11, ([0, 1, 5, 6, 14], [])), (12, ([0, 5, 6, 36], [14])), (13, ([0, 5], [42])), (14, ([0, 5, 9], [])), (15, ([0, 9, 47, 48, 49], [])), (16, ([0, 9, 47, 48, 49, 50], [])), (17, ([0, 9, 10, 11, 47, 48, 49], [])), (18, ([0, 9, 47, 48, 49], [11])), (19, ([0, 9, 47, 48, 49], [])), (20, ([4], [12, 29, 43])), (1000004, ([0, 1, 5, 6, 14], [])), (1000016, ([0, 9, 47, 48, 49], []))], dd := [(5, [[], [15], [17]]), (6, [[], [8]]), (8, [[], [], [7], [25, 26], [27], [24, 28]]), (9, [[], [30]]), (11, [[7]]), (13, [[], [6], [], [39], [38, 40], [41], [37, 42]]), (14, [[], [44], [45]]), (15, [[5]]), (17, [[], [], [52], [], [51]]), (18, [[], [10], [], [], [57], [11], [59], [56, 58, 60], [54, 55]]), (20, [[9]])] }

/- laws.zzFits7 -/
def b_laws_zzFits7_1 : SCode :=
  (.seq
    (.region [
      ⟨some 11, .bin .lss (.t 10) (.t 9), none⟩] [8, 9, 10, 11] [] [])
    (.seq
      (.cond (.t 11)
        .skip
        (.exit 0))
      (.seq
        (.block 1
          (.seq
            (.region [
              ⟨some 12, .iAddr 1 (.t 8) (.t 10), none⟩,
              ⟨some 13, .load none (.t 12), none⟩,
              ⟨some 4, .mv (.t 13), none⟩] [4, 8, 9, 10] [] [[], [12]])
            (.seq
              (.region [
                ⟨some 14, .mv (.t 4), none⟩,
                ⟨some 15, .len 0 (.t 14), none⟩,
                ⟨some 16, .bin .gtr (.t 15) (.k (.int .i64 2147483647)), none⟩] [8, 9, 10, 16] [] [[4], [14]])
              (.cond (.t 16)
                (.seq
                  (.region [
                    ⟨some 2, .mv (.k (.bool false)), none⟩] [2] [] [])
                  .ret)
                .skip))))
        (.region [
          ⟨some 17, .bin .add (.t 10) (.k (.int .i64 1)), none⟩,
          ⟨some 10, .mv (.t 17), none⟩] [8, 9, 10] [] []))))

def t_laws_zzFits7_2 : SCode :=
  (.seq
    (.region [
      ⟨some 2, .mv (.k (.bool true)), none⟩] [2] [] [])
    .ret)

def c_laws_zzFits7 : SFn := ⟨1,
    (.seq
      (.region [
        ⟨some 2, .mv (.k (.bool false)), none⟩] [0] [] [])
      (.seq
        (.seq
          (.region [
            ⟨some 5, .mv (.t 0), none⟩,
            ⟨some 6, .len 1 (.t 5), none⟩,
            ⟨some 7, .bin .gtr (.t 6) (.k (.int .i64 2147483647)), none⟩] [0, 7] [] [[], [5]])
          (.cond (.t 7)
            (.seq
              (.region [
                ⟨some 2, .mv (.k (.bool false)), none⟩] [2] [] [])
              .ret)
            .skip))
        (.seq
          (.seq
            (.region [
              ⟨some 8, .mv (.t 0), none⟩,
              ⟨some 9, .len 1 (.t 8), none⟩,
              ⟨some 10, .mv (.k (.int .i64 0)), none⟩] [8, 9, 10] [] [[0]])
            (.block 0
              (.loop [8, 9, 10]
                b_laws_zzFits7_1)))
          t_laws_zzFits7_2))),
  [.t 2]⟩

def l_laws_zzFits7 : Lay := { rg := [(0, ([0], [])), (1, ([0, 7], [])), (2, ([2], [])), (3, ([8, 9, 10], [])), (4, ([8, 9, 10, 11], [])), (5, ([4, 8, 9, 10], [])), (6, ([8, 9, 10, 16], [])), (7, ([2], [])), (8, ([8, 9, 10], [])), (9, ([2], [])), (1000004, ([8, 9, 10], []))], dd := [(1, [[], [5]]), (3, [[0]]), (5, [[], [12]]), (6, [[4], [14]])] }

/- laws.FnDCanonAgain -/
def b_laws_FnDCanonAgain_1 : SCode :=
  (.seq
    (.seq
      (.region [
        ⟨some 57, .mv (.t 7), none⟩,
        ⟨some 58, .mv (.t 0), none⟩,
        ⟨some 59, .len 0 (.t 58), none⟩,
        ⟨some 60, .bin .lss (.t 57) (.t 59), none⟩] [0, 1, 2, 7, 60] [] [[], [], [58]])
      (.cond (.t 60)
        .skip
        (.exit 0)))
    (.seq
      (.block 1
        (.seq
          (.region [
            ⟨some 63, .mv (.t 0), none⟩,
            ⟨some 64, .mv (.t 7), none⟩,
            ⟨some 65, .iStr (.t 63) (.t 64), none⟩,
            ⟨some 8, .mv (.t 65), none⟩] [0, 1, 2, 7, 8] [] [[], [], [63, 64]])
          (.seq
            (.region [
              ⟨some 66, .mv (.t 8), none⟩,
              ⟨some 67, .bin .leq (.t 66) (.k (.int .u8 32)), none⟩,
              ⟨some 68, .mv (.t 67), none⟩,
              ⟨some 69, .mv (.t 8), some (68, false)⟩,
              ⟨some 70, .bin .eql (.t 69) (.k (.int .u8 58)), some (68, false)⟩,
              ⟨some 71, .pick (.t 68) (.k (.bool true)) (.t 70), none⟩,
              ⟨some 72, .mv (.t 71), none⟩,
              ⟨some 73, .mv (.t 8), some (72, false)⟩,
              ⟨some 74, .bin .eql (.t 73) (.k (.int .u8 127)), some (72, false)⟩,
              ⟨some 75, .pick (.t 72) (.k (.bool true)) (.t 74), none⟩] [0, 1, 2, 7, 75] [] [[], [66], [67], [], [69], [68, 70], [71], [8], [73]])
            (.cond (.t 75)
              (.seq
                (.region [
                  ⟨some 76, .call 11 [], none⟩,
                  ⟨some 6, .mv (.t 76), none⟩] [6] [] [])
                .ret)
              .skip))))
      (.region [
        ⟨some 61, .mv (.t 7), none⟩,
        ⟨some 62, .bin .add (.t 61) (.k (.int .i64 1)), none⟩,
        ⟨some 7, .mv (.t 62), none⟩] [0, 1, 2, 7] [] [[], [61]])))

def b_laws_FnDCanonAgain_2 : SCode :=
  (.seq
    (.seq
      (.region [
        ⟨some 77, .mv (.t 9), none⟩,
        ⟨some 78, .mv (.t 1), none⟩,
        ⟨some 79, .len 1 (.t 78), none⟩,
        ⟨some 80, .bin .lss (.t 77) (.t 79), none⟩] [0, 1, 2, 9, 80] [] [[], [], [78]])
      (.cond (.t 80)
        .skip
        (.exit 2)))
    (.seq
      (.block 3
        (.seq
          (.region [
            ⟨some 83, .mv (.t 1), none⟩,
            ⟨some 84, .mv (.t 9), none⟩,
            ⟨some 85, .iAddr 1 (.t 83) (.t 84), none⟩,
            ⟨some 86, .load none (.t 85), none⟩,
            ⟨some 87, .call 27 [(.t 86)], none⟩,
            ⟨some 88, .mv (.t 1), none⟩,
            ⟨some 89, .mv (.t 9), none⟩,
            ⟨some 90, .iAddr 1 (.t 88) (.t 89), none⟩,
            ⟨some 91, .load none (.t 90), none⟩,
            ⟨some 92, .bin .neq (.t 87) (.t 91), none⟩,
            ⟨some 93, .mv (.t 92), none⟩,
            ⟨some 94, .mv (.t 1), some (93, false)⟩,
            ⟨some 95, .mv (.t 9), some (93, false)⟩,
            ⟨some 96, .iAddr 1 (.t 94) (.t 95), some (93, false)⟩,
            ⟨some 97, .load none (.t 96), some (93, false)⟩,
            ⟨some 98, .bin .eql (.t 97) (.k (.str [])), some (93, false)⟩,
            ⟨some 99, .pick (.t 93) (.k (.bool true)) (.t 98), none⟩] [0, 1, 2, 9, 99] [] [])
          (.cond (.t 99)
            (.seq
              (.region [
                ⟨some 100, .call 11 [], none⟩,
                ⟨some 6, .mv (.t 100), none⟩] [6] [] [])
              .ret)
            .skip)))
      (.region [
        ⟨some 81, .mv (.t 9), none⟩,
        ⟨some 82, .bin .add (.t 81) (.k (.int .i64 1)), none⟩,
        ⟨some 9, .mv (.t 82), none⟩] [0, 1, 2, 9] [] [[], [81]])))

def b_laws_FnDCanonAgain_3 : SCode :=
  (.seq
    (.seq
      (.region [
        ⟨some 101, .mv (.t 10), none⟩,
        ⟨some 102, .mv (.t 2), none⟩,
        ⟨some 103, .len 1 (.t 102), none⟩,
        ⟨some 104, .bin .lss (.t 101) (.t 103), none⟩] [0, 1, 2, 10, 104] [] [[], [], [102]])
      (.cond (.t 104)
        .skip
        (.exit 4)))
    (.seq
      (.block 5
        (.seq
          (.region [
            ⟨some 107, .mv (.t 2), none⟩,
            ⟨some 108, .mv (.t 10), none⟩,
            ⟨some 109, .iAddr 1 (.t 107) (.t 108), none⟩,
            ⟨some 110, .load none (.t 109), none⟩,
            ⟨some 111, .call 27 [(.t 110)], none⟩,
            ⟨some 112, .bin .neq (.t 111) (.k (.str [])), none⟩,
            ⟨some 113, .mv (.t 112), none⟩,
            ⟨some 114, .mv (.t 2), some (113, false)⟩,
            ⟨some 115, .mv (.t 10), some (113, false)⟩,
            ⟨some 116, .iAddr 1 (.t 114) (.t 115), some (113, false)⟩,
            ⟨some 117, .load none (.t 116), some (113, false)⟩,
            ⟨some 118, .bin .eql (.t 117) (.k (.str [])), some (113, false)⟩,
            ⟨some 119, .pick (.t 113) (.k (.bool true)) (.t 118), none⟩] [0, 1, 2, 10, 119] [] [[], [], [107, 108], [109], [110], [111], [112], [], [], [114, 115], [116], [117]])
          (.cond (.t 119)
            (.seq
              (.region [
                ⟨some 120, .call 11 [], none⟩,
                ⟨some 6, .mv (.t 120), none⟩] [6] [] [])
              .ret)
            .skip)))
      (.region [
        ⟨some 105, .mv (.t 10), none⟩,
        ⟨some 106, .bin .add (.t 105) (.k (.int .i64 1)), none⟩,
        ⟨some 10, .mv (.t 106), none⟩] [0, 1, 2, 10] [] [[], [105]])))

def b_laws_FnDCanonAgain_4 : SCode :=
  (.seq
    (.seq
      (.region [
        ⟨some 129, .mv (.t 13), none⟩,
        ⟨some 130, .mv (.t 1), none⟩,
        ⟨some 131, .len 1 (.t 130), none⟩,
        ⟨some 132, .bin .lss (.t 129) (.t 131), none⟩] [0, 1, 2, 11, 12, 13, 132] [] [[], [], [130]])
      (.cond (.t 132)
        .skip
        (.exit 6)))
    (.seq
      (.block 7
        (.seq
          (.seq
            (.region [
              ⟨some 135, .mv (.t 13), none⟩,
              ⟨some 136, .bin .gtr (.t 135) (.k (.int .i64 0)), none⟩] [0, 1, 2, 11, 12, 13, 136] [] [])
            (.cond (.t 136)
              (.region [
                ⟨some 137, .mv (.t 11), none⟩,
                ⟨some 138, .bin .add (.t 137) (.k (.str [32])), none⟩,
                ⟨some 11, .mv (.t 138), none⟩] [0, 1, 2, 11, 12, 13] [] [[], [137]])
              .skip))
          (.seq
            (.region [
              ⟨some 139, .mv (.t 11), none⟩,
              ⟨some 140, .mv (.t 1), none⟩,
              ⟨some 141, .mv (.t 13), none⟩,
              ⟨some 142, .iAddr 1 (.t 140) (.t 141), none⟩,
              ⟨some 143, .load none (.t 142), none⟩,
              ⟨some 144, .bin .add (.t 139) (.t 143), none⟩,
              ⟨some 11, .mv (.t 144), none⟩] [0, 1, 2, 11, 12, 13] [] [[], [], [], [140, 141], [142], [139, 143]])
            (.region [
              ⟨some 145, .mv (.t 12), none⟩,
              ⟨some 146, .mv (.t 2), none⟩,
              ⟨some 147, .mv (.t 13), none⟩,
              ⟨some 148, .mv (.t 2), none⟩,
              ⟨some 149, .len 1 (.t 148), none⟩,
              ⟨some 150, .bin .rem (.t 147) (.t 149), none⟩,
              ⟨some 151, .iAddr 1 (.t 146) (.t 150), none⟩,
              ⟨some 152, .load none (.t 151), none⟩,
              ⟨some 153, .bin .add (.t 145) (.t 152), none⟩,
              ⟨some 154, .mv (.t 1), none⟩,
              ⟨some 155, .mv (.t 13), none⟩,
              ⟨some 156, .iAddr 1 (.t 154) (.t 155), none⟩,
              ⟨some 157, .load none (.t 156), none⟩,
              ⟨some 158, .bin .add (.t 153) (.t 157), none⟩,
              ⟨some 12, .mv (.t 158), none⟩] [0, 1, 2, 11, 12, 13] [] []))))
      (.region [
        ⟨some 133, .mv (.t 13), none⟩,
        ⟨some 134, .bin .add (.t 133) (.k (.int .i64 1)), none⟩,
        ⟨some 13, .mv (.t 134), none⟩] [0, 1, 2, 11, 12, 13] [] [[], [133]])))

def t_laws_FnDCanonAgain_5 : SCode :=
  (.seq
    (.region [
      ⟨some 159, .mv (.t 11), none⟩,
      ⟨some 160, .bin .add (.t 159) (.k (.str [13, 10])), none⟩,
      ⟨some 161, .call 8 [(.k (.str [114, 101, 108, 97, 120, 101, 100])), (.t 160)], none⟩,
      ⟨some 14, .mv (.t 161), none⟩] [0, 2, 11, 12, 14] [] [[], [159], [160]])
    (.seq
      (.region [
        ⟨some 162, .mv (.t 12), none⟩,
        ⟨some 163, .mv (.t 2), none⟩,
        ⟨some 164, .iAddr 1 (.t 163) (.k (.int .i64 0)), none⟩,
        ⟨some 165, .load none (.t 164), none⟩,
        ⟨some 166, .bin .add (.t 162) (.t 165), none⟩,
        ⟨some 167, .bin .add (.t 166) (.k (.str [13, 10])), none⟩,
        ⟨some 168, .call 8 [(.k (.str [114, 101, 108, 97, 120, 101, 100])), (.t 167)], none⟩,
        ⟨some 169, .mv (.t 14), none⟩,
        ⟨some 170, .bin .eql (.t 168) (.t 169), none⟩,
        ⟨some 171, .mv (.t 170), none⟩,
        ⟨some 172, .mv (.t 14), some (171, true)⟩,
        ⟨some 173, .call 8 [(.k (.str [114, 101, 108, 97, 120, 101, 100])), (.t 172)], some (171, true)⟩,
        ⟨some 174, .mv (.t 14), some (171, true)⟩,
        ⟨some 175, .bin .eql (.t 173) (.t 174), some (171, true)⟩,
        ⟨some 176, .pick (.t 171) (.t 175) (.k (.bool false)), none⟩,
        ⟨some 177, .mv (.t 176), none⟩,
        ⟨some 178, .mv (.t 14), some (177, true)⟩,
        ⟨some 179, .mv (.t 0), some (177, true)⟩,
        ⟨some 180, .call 4 [(.t 179)], some (177, true)⟩,
        ⟨some 181, .mv (.t 11), some (177, true)⟩,
        ⟨some 182, .mv (.t 0), some (177, true)⟩,
        ⟨some 183, .len 0 (.t 182), some (177, true)⟩,
        ⟨some 184, .slStr (.t 181) (some (.t 183)) none, some (177, true)⟩,
        ⟨some 185, .bin .add (.t 180) (.t 184), some (177, true)⟩,
        ⟨some 186, .bin .add (.t 185) (.k (.str [13, 10])), some (177, true)⟩,
        ⟨some 187, .bin .eql (.t 178) (.t 186), some (177, true)⟩,
        ⟨some 188, .pick (.t 177) (.t 187) (.k (.bool false)), none⟩,
        ⟨some 6, .mv (.t 188), none⟩] [6] [] [])
      .ret))

def t_laws_FnDCanonAgain_6 : SCode :=
  (.seq
    (.region [
      ⟨some 121, .mv (.t 0), none⟩,
      ⟨some 122, .bin .add (.t 121) (.k (.str [58])), none⟩,
      ⟨some 123, .mv (.t 0), none⟩,
      ⟨some 124, .mv (.t 2), none⟩,
      ⟨some 125, .iAddr 1 (.t 124) (.k (.int .i64 0)), none⟩,
      ⟨some 126, .load none (.t 125), none⟩,
      ⟨some 127, .bin .add (.t 123) (.t 126), none⟩,
      ⟨some 128, .bin .add (.t 127) (.k (.str [58])), none⟩,
      ⟨some 11, .mv (.t 122), none⟩,
      ⟨some 12, .mv (.t 128), none⟩] [0, 1, 2, 11, 12] [] [])
    (.seq
      (.seq
        (.region [
          ⟨some 13, .mv (.k (.int .i64 0)), none⟩] [0, 1, 2, 11, 12, 13] [] [])
        (.block 6
          (.loop [0, 1, 2, 11, 12, 13]
            b_laws_FnDCanonAgain_4)))
      t_laws_FnDCanonAgain_5))

def t_laws_FnDCanonAgain_7 : SCode :=
  (.seq
    (.seq
      (.region [
        ⟨some 10, .mv (.k (.int .i64 0)), none⟩] [0, 1, 2, 10] [] [])
      (.block 4
        (.loop [0, 1, 2, 10]
          b_laws_FnDCanonAgain_3)))
    t_laws_FnDCanonAgain_6)

def t_laws_FnDCanonAgain_8 : SCode :=
  (.seq
    (.seq
      (.region [
        ⟨some 9, .mv (.k (.int .i64 0)), none⟩] [0, 1, 2, 9] [] [])
      (.block 2
        (.loop [0, 1, 2, 9]
          b_laws_FnDCanonAgain_2)))
    t_laws_FnDCanonAgain_7)

def c_laws_FnDCanonAgain : SFn := ⟨3,
    (.seq
      (.region [
        ⟨some 6, .mv (.k (.bool false)), none⟩] [0, 1, 2] [] [])
      (.seq
        (.seq
          (.region [
            ⟨some 15, .mv (.t 0), none⟩,
            ⟨some 16, .len 0 (.t 15), none⟩,
            ⟨some 17, .bin .gtr (.t 16) (.k (.int .i64 2147483647)), none⟩,
            ⟨some 18, .mv (.t 17), none⟩,
            ⟨some 19, .mv (.t 1), some (18, false)⟩,
            ⟨some 20, .call 32 [(.t 19)], some (18, false)⟩,
            ⟨some 21, .un .not (.t 20), some (18, false)⟩,
            ⟨some 22, .pick (.t 18) (.k (.bool true)) (.t 21), none⟩,
            ⟨some 23, .mv (.t 22), none⟩,
            ⟨some 24, .mv (.t 2), some (23, false)⟩,
            ⟨some 25, .call 32 [(.t 24)], some (23, false)⟩,
            ⟨some 26, .un .not (.t 25), some (23, false)⟩,
            ⟨some 27, .pick (.t 23) (.k (.bool true)) (.t 26), none⟩] [0, 1, 2, 27] [] [[], [15], [16], [17], [], [19], [20], [18, 21], [22], [], [24], [25]])
          (.cond (.t 27)
            (.seq
              (.region [
                ⟨some 6, .mv (.k (.bool true)), none⟩] [6] [] [])
              .ret)
            .skip))
        (.seq
          (.seq
            (.region [
              ⟨some 28, .mv (.t 0), none⟩,
              ⟨some 29, .mkSl 1 1 [(.str [])] [(0, (.t 28))], none⟩,
              ⟨some 30, .call 10 [(.k (.int .i64 200)), (.t 29)], none⟩,
              ⟨some 31, .un .not (.t 30), none⟩,
              ⟨some 32, .mv (.t 31), none⟩,
              ⟨some 33, .mv (.t 1), some (32, false)⟩,
              ⟨some 34, .call 10 [(.k (.int .i64 200)), (.t 33)], some (32, false)⟩,
              ⟨some 35, .un .not (.t 34), some (32, false)⟩,
              ⟨some 36, .pick (.t 32) (.k (.bool true)) (.t 35), none⟩,
              ⟨some 37, .mv (.t 36), none⟩,
              ⟨some 38, .mv (.t 2), some (37, false)⟩,
              ⟨some 39, .call 10 [(.k (.int .i64 20)), (.t 38)], some (37, false)⟩,
              ⟨some 40, .un .not (.t 39), some (37, false)⟩,
              ⟨some 41, .pick (.t 37) (.k (.bool true)) (.t 40), none⟩,
              ⟨some 42, .mv (.t 41), none⟩,
              ⟨some 43, .mv (.t 0), some (42, false)⟩,
              ⟨some 44, .bin .eql (.t 43) (.k (.str [])), some (42, false)⟩,
              ⟨some 45, .pick (.t 42) (.k (.bool true)) (.t 44), none⟩,
              ⟨some 46, .mv (.t 45), none⟩,
              ⟨some 47, .mv (.t 1), some (46, false)⟩,
              ⟨some 48, .len 1 (.t 47), some (46, false)⟩,
              ⟨some 49, .bin .eql (.t 48) (.k (.int .i64 0)), some (46, false)⟩,
              ⟨some 50, .pick (.t 46) (.k (.bool true)) (.t 49), none⟩,
              ⟨some 51, .mv (.t 50), none⟩,
              ⟨some 52, .mv (.t 2), some (51, false)⟩,
              ⟨some 53, .len 1 (.t 52), some (51, false)⟩,
              ⟨some 54, .bin .eql (.t 53) (.k (.int .i64 0)), some (51, false)⟩,
              ⟨some 55, .pick (.t 51) (.k (.bool true)) (.t 54), none⟩] [0, 1, 2, 55] [29] [[], [28], [29], [30], [31], [], [33], [34], [32, 35], [36], [], [38], [39], [37, 40], [41], [], [43], [42, 44], [45], [], [47], [48], [46, 49], [50], [], [52], [53]])
            (.cond (.t 55)
              (.seq
                (.region [
                  ⟨some 56, .call 11 [], none⟩,
                  ⟨some 6, .mv (.t 56), none⟩] [6] [] [])
                .ret)
              .skip))
          (.seq
            (.seq
              (.region [
                ⟨some 7, .mv (.k (.int .i64 0)), none⟩] [0, 1, 2, 7] [] [])
              (.block 0
                (.loop [0, 1, 2, 7]
                  b_laws_FnDCanonAgain_1)))
            t_laws_FnDCanonAgain_8)))),
  [.t 6]⟩

def l_laws_FnDCanonAgain : Lay := { rg := [(0, ([0, 1, 2], [])), (1, ([0, 1, 2, 27], [])), (2, ([6], [])), (3, ([0, 1, 2, 55], [29])), (4, ([6], [])), (5, ([0, 1, 2, 7], [])), (6, ([0, 1, 2, 7, 60], [])), (7, ([0, 1, 2, 7], [])), (8, ([0, 1, 2, 7, 8], [])), (9, ([0, 1, 2, 7, 75], [])), (10, ([6], [])), (11, ([0, 1, 2, 9], [])), (12, ([0, 1, 2, 9, 80], [])), (13, ([0, 1, 2, 9], [])), (14, ([0, 1, 2, 9, 99], [])), (15, ([6], [])), (16, ([0, 1, 2, 10], [])), (17, ([0, 1, 2, 10, 104], [])), (18, ([0, 1, 2, 10], [])), (19, ([0, 1, 2, 10, 119], [])), (20, ([6], [])), (21, ([0, 1, 2, 11, 12], [])), (22, ([0, 1, 2, 11, 12, 13], [])), (23, ([0, 1, 2, 11, 12, 13, 132], [])), (24, ([0, 1, 2, 11, 12, 13], [])), (25, ([0, 1, 2, 11, 12, 13, 136], [])), (26, ([0, 1, 2, 11, 12, 13], [])), (27, ([0, 1, 2, 11, 12, 13], [])), (28, ([0, 1, 2, 11, 12, 13], [])), (29, ([0, 2, 11, 12, 14], [])), (30, ([6], [])), (1000006, ([0, 1, 2, 7], [])), (1000012, ([0, 1, 2, 9], [])), (1000017, ([0, 1, 2, 10], [])), (1000023, ([0, 1, 2, 11, 12, 13], []))], dd := [(1, [[], [15], [16], [17], [], [19], [20], [18, 21], [22], [], [24], [25]]), (3, [[], [28], [29], [30], [31], [], [33], [34], [32, 35], [36], [], [38], [39], [37, 40], [41], [], [43], [42, 44], [45], [], [47], [48], [46, 49], [50], [], [52], [53]]), (6, [[], [], [58]]), (7, [[], [61]]), (8, [[], [], [63, 64]]), (9, [[], [66], [67], [], [69], [68, 70], [71], [8], [73]]), (12, [[], [], [78]]), (13, [[], [81]]), (17, [[], [], [102]]), (18, [[], [105]]), (19, [[], [], [107, 108], [109], [110], [111], [112], [], [], [114, 115], [116], [117]]), (23, [[], [], [130]]), (24, [[], [133]]), (26, [[], [137]]), (27, [[], [], [], [140, 141], [142], [139, 143]]), (29, [[], [159], [160]])] }

/- laws.FnDPicks -/
def c_laws_FnDPicks : SFn := ⟨2,
    (.seq
      (.region [
        ⟨some 4, .mv (.k (.bool false)), none⟩] [0, 1] [] [])
      (.seq
        (.seq
          (.region [
            ⟨some 5, .mv (.t 0), none⟩,
            ⟨some 6, .call 32 [(.t 5)], none⟩,
            ⟨some 7, .un .not (.t 6), none⟩,
            ⟨some 8, .mv (.t 7), none⟩,
            ⟨some 9, .mv (.t 1), some (8, false)⟩,
            ⟨some 10, .call 32 [(.t 9)], some (8, false)⟩,
            ⟨some 11, .un .not (.t 10), some (8, false)⟩,
            ⟨some 12, .pick (.t 8) (.k (.bool true)) (.t 11), none⟩] [0, 1, 12] [] [[], [5], [6], [7], [], [9], [10]])
          (.cond (.t 12)
            (.seq
              (.region [
                ⟨some 4, .mv (.k (.bool true)), none⟩] [4] [] [])
              .ret)
            .skip))
        (.seq
          (.seq
            (.region [
              ⟨some 13, .mv (.t 0), none⟩,
              ⟨some 14, .call 10 [(.k (.int .i64 1000)), (.t 13)], none⟩,
              ⟨some 15, .un .not (.t 14), none⟩,
              ⟨some 16, .mv (.t 15), none⟩,
              ⟨some 17, .mv (.t 1), some (16, false)⟩,
              ⟨some 18, .call 10 [(.k (.int .i64 1000)), (.t 17)], some (16, false)⟩,
              ⟨some 19, .un .not (.t 18), some (16, false)⟩,
              ⟨some 20, .pick (.t 16) (.k (.bool true)) (.t 19), none⟩,
              ⟨some 21, .mv (.t 20), none⟩,
              ⟨some 22, .mv (.t 0), some (21, false)⟩,
              ⟨some 23, .len 1 (.t 22), some (21, false)⟩,
              ⟨some 24, .bin .gtr (.t 23) (.k (.int .i64 50)), some (21, false)⟩,
              ⟨some 25, .pick (.t 21) (.k (.bool true)) (.t 24), none⟩,
              ⟨some 26, .mv (.t 25), none⟩,
              ⟨some 27, .mv (.t 1), some (26, false)⟩,
              ⟨some 28, .len 1 (.t 27), some (26, false)⟩,
              ⟨some 29, .bin .gtr (.t 28) (.k (.int .i64 50)), some (26, false)⟩,
              ⟨some 30, .pick (.t 26) (.k (.bool true)) (.t 29), none⟩] [0, 1, 30] [] [[], [13], [14], [15], [], [17], [18], [16, 19], [20], [], [22], [23], [21, 24], [25], [], [27], [28]])
            (.cond (.t 30)
              (.seq
                (.region [
                  ⟨some 31, .call 11 [], none⟩,
                  ⟨some 4, .mv (.t 31), none⟩] [4] [] [])
                .ret)
              .skip))
          (.seq
            (.region [
              ⟨some 32, .mv (.t 0), none⟩,
              ⟨some 33, .mv (.t 1), none⟩,
              ⟨some 34, .call 33 [(.t 32), (.t 33)], none⟩,
              ⟨some 35, .mv (.t 0), none⟩,
              ⟨some 36, .mv (.t 1), none⟩,
              ⟨some 37, .call 34 [(.t 35), (.t 36)], none⟩,
              ⟨some 38, .call 35 [(.t 34), (.t 37)], none⟩,
              ⟨some 39, .mv (.t 38), none⟩,
              ⟨some 40, .mkSlF 1 1 [(.str [])] [(0, (.k (.str [65, 58, 32, 98, 13, 10])))], some (39, true)⟩,
              ⟨some 41, .mkSlF 1 1 [(.str [])] [(0, (.k (.str [97])))], some (39, true)⟩,
              ⟨some 42, .call 33 [(.t 40), (.t 41)], some (39, true)⟩,
              ⟨some 43, .len 1 (.t 42), some (39, true)⟩,
              ⟨some 44, .bin .eql (.t 43) (.k (.int .i64 1)), some (39, true)⟩,
              ⟨some 45, .pick (.t 39) (.t 44) (.k (.bool false)), none⟩,
              ⟨some 4, .mv (.t 45), none⟩] [4] [] [[], [], [32, 33], [0], [1], [35, 36], [34, 37], [38], [], [], [40, 41], [42], [43], [39, 44]])
            .ret)))),
  [.t 4]⟩

def l_laws_FnDPicks : Lay := { rg := [(0, ([0, 1], [])), (1, ([0, 1, 12], [])), (2, ([4], [])), (3, ([0, 1, 30], [])), (4, ([4], [])), (5, ([4], []))], dd := [(1, [[], [5], [6], [7], [], [9], [10]]), (3, [[], [13], [14], [15], [], [17], [18], [16, 19], [20], [], [22], [23], [21, 24], [25], [], [27], [28]]), (5, [[], [], [32, 33], [0], [1], [35, 36], [34, 37], [38], [], [], [40, 41], [42], [43], [39, 44]])], fz := [40, 41] }

/- laws.dSameTexts -/
def b_laws_dSameTexts_1 : SCode :=
  (.seq
    (.seq
      (.region [
        ⟨some 11, .mv (.t 5), none⟩,
        ⟨some 12, .mv (.t 0), none⟩,
        ⟨some 13, .len 1 (.t 12), none⟩,
        ⟨some 14, .bin .lss (.t 11) (.t 13), none⟩] [0, 1, 5, 14] [] [[], [], [12]])
      (.cond (.t 14)
        .skip
        (.exit 0)))
    (.seq
      (.block 1
        (.seq
          (.region [
            ⟨some 17, .mv (.t 0), none⟩,
            ⟨some 18, .mv (.t 5), none⟩,
            ⟨some 19, .iAddr 1 (.t 17) (.t 18), none⟩,
            ⟨some 20, .load none (.t 19), none⟩,
            ⟨some 21, .mv (.t 1), none⟩,
            ⟨some 22, .mv (.t 5), none⟩,
            ⟨some 23, .iAddr 1 (.t 21) (.t 22), none⟩,
            ⟨some 24, .load none (.t 23), none⟩,
            ⟨some 25, .bin .neq (.t 20) (.t 24), none⟩] [0, 1, 5, 25] [] [])
          (.cond (.t 25)
            (.seq
              (.region [
                ⟨some 4, .mv (.k (.bool false)), none⟩] [4] [] [])
              .ret)
            .skip)))
      (.region [
        ⟨some 15, .mv (.t 5), none⟩,
        ⟨some 16, .bin .add (.t 15) (.k (.int .i64 1)), none⟩,
        ⟨some 5, .mv (.t 16), none⟩] [0, 1, 5] [] [[], [15]])))

def t_laws_dSameTexts_2 : SCode :=
  (.seq
    (.region [
      ⟨some 4, .mv (.k (.bool true)), none⟩] [4] [] [])
    .ret)

def c_laws_dSameTexts : SFn := ⟨2,
    (.seq
      (.region [
        ⟨some 4, .mv (.k (.bool false)), none⟩] [0, 1] [] [])
      (.seq
        (.seq
          (.region [
            ⟨some 6, .mv (.t 0), none⟩,
            ⟨some 7, .len 1 (.t 6), none⟩,
            ⟨some 8, .mv (.t 1), none⟩,
            ⟨some 9, .len 1 (.t 8), none⟩,
            ⟨some 10, .bin .neq (.t 7) (.t 9), none⟩] [0, 1, 10] [] [[], [6], [], [8]])
          (.cond (.t 10)
            (.seq
              (.region [
                ⟨some 4, .mv (.k (.bool false)), none⟩] [4] [] [])
              .ret)
            .skip))
        (.seq
          (.seq
            (.region [
              ⟨some 5, .mv (.k (.int .i64 0)), none⟩] [0, 1, 5] [] [])
            (.block 0
              (.loop [0, 1, 5]
                b_laws_dSameTexts_1)))
          t_laws_dSameTexts_2))),
  [.t 4]⟩

def l_laws_dSameTexts : Lay := { rg := [(0, ([0, 1], [])), (1, ([0, 1, 10], [])), (2, ([4], [])), (3, ([0, 1, 5], [])), (4, ([0, 1, 5, 14], [])), (5, ([0, 1, 5], [])), (6, ([0, 1, 5, 25], [])), (7, ([4], [])), (8, ([4], [])), (1000004, ([0, 1, 5], []))], dd := [(1, [[], [6], [], [8]]), (4, [[], [], [12]]), (5, [[], [15]])] }

/- impl.DPick -/
def c_impl_DPick : SFn := ⟨2,
    (.seq
      (.region [
        ⟨some 4, .mv (.k .nilS), none⟩] [0, 1] [] [])
      (.seq
        (.region [
          ⟨some 5, .mv (.t 0), none⟩,
          ⟨some 6, .call 36 [(.t 5)], none⟩,
          ⟨some 7, .mv (.t 1), none⟩,
          ⟨some 8, .call 37 [(.t 6), (.t 7)], none⟩,
          ⟨some 4, .mv (.t 8), none⟩] [4] [] [[0], [5], [1], [6, 7]])
        .ret)),
  [.t 4]⟩

def l_impl_DPick : Lay := { rg := [(0, ([0, 1], [])), (1, ([4], []))], dd := [(1, [[0], [5], [1], [6, 7]])] }

/- spec.DPicked -/
def b_spec_DPicked_1 : SCode :=
  (.seq
    (.seq
      (.region [
        ⟨some 22, .mv (.t 9), none⟩,
        ⟨some 23, .bin .geq (.t 22) (.k (.int .i64 0)), none⟩] [0, 1, 5, 6, 7, 8, 9, 23] [] [])
      (.cond (.t 23)
        .skip
        (.exit 2)))
    (.seq
      (.block 3
        (.seq
          (.region [
            ⟨some 26, .mv (.t 5), none⟩,
            ⟨some 27, .mv (.t 9), none⟩,
            ⟨some 28, .iAddr 1 (.t 26) (.t 27), none⟩,
            ⟨some 29, .load none (.t 28), none⟩,
            ⟨some 30, .un .not (.t 29), none⟩,
            ⟨some 31, .mv (.t 30), none⟩,
            ⟨some 32, .mv (.t 0), some (31, true)⟩,
            ⟨some 33, .mv (.t 9), some (31, true)⟩,
            ⟨some 34, .iAddr 1 (.t 32) (.t 33), some (31, true)⟩,
            ⟨some 35, .load none (.t 34), some (31, true)⟩,
            ⟨some 36, .call 28 [(.t 35)], some (31, true)⟩,
            ⟨some 37, .call 4 [(.t 36)], some (31, true)⟩,
            ⟨some 38, .mv (.t 1), some (31, true)⟩,
            ⟨some 39, .mv (.t 7), some (31, true)⟩,
            ⟨some 40, .iAddr 1 (.t 38) (.t 39), some (31, true)⟩,
            ⟨some 41, .load none (.t 40), some (31, true)⟩,
            ⟨some 42, .call 4 [(.t 41)], some (31, true)⟩,
            ⟨some 43, .bin .eql (.t 37) (.t 42), some (31, true)⟩,
            ⟨some 44, .pick (.t 31) (.t 43) (.k (.bool false)), none⟩] [0, 1, 5, 6, 7, 8, 9, 44] [] [])
          (.cond (.t 44)
            (.seq
              (.region [
                ⟨some 45, .mv (.t 5), none⟩,
                ⟨some 46, .mv (.t 9), none⟩,
                ⟨some 47, .mv (.t 0), none⟩,
                ⟨some 48, .mv (.t 9), none⟩,
                ⟨some 49, .iAddr 1 (.t 47) (.t 48), none⟩,
                ⟨some 50, .load none (.t 49), none⟩,
                ⟨some 8, .mv (.t 50), none⟩,
                ⟨some 51, .iAddr 1 (.t 45) (.t 46), none⟩,
                ⟨none, .store 1 (.t 51) (.k (.bool true)), none⟩] [0, 1, 5, 6, 7, 8] [] [[], [], [], [9], [47, 48], [49], [50], [45, 46]])
              (.exit 2))
            .skip)))
      (.region [
        ⟨some 24, .mv (.t 9), none⟩,
        ⟨some 25, .bin .sub (.t 24) (.k (.int .i64 1)), none⟩,
        ⟨some 9, .mv (.t 25), none⟩] [0, 1, 5, 6, 7, 8, 9] [] [[], [24]])))

def t_spec_DPicked_2 : SCode :=
  (.region [
    ⟨some 52, .mv (.t 6), none⟩,
    ⟨some 53, .mv (.t 8), none⟩,
    ⟨some 54, .mkSl 1 1 [(.str [])] [(0, (.t 53))], none⟩,
    ⟨some 55, .app 1 16 (.t 52) (.t 54), none⟩,
    ⟨some 6, .mv (.t 55), none⟩] [0, 1, 5, 6, 7] [54] [[], [8], [53], [52, 54]])

def t_spec_DPicked_3 : SCode :=
  (.region [
    ⟨some 17, .mv (.t 7), none⟩,
    ⟨some 18, .bin .add (.t 17) (.k (.int .i64 1)), none⟩,
    ⟨some 7, .mv (.t 18), none⟩] [0, 1, 5, 6, 7] [] [[], [17]])

def b_spec_DPicked_4 : SCode :=
  (.seq
    (.seq
      (.region [
        ⟨some 13, .mv (.t 7), none⟩,
        ⟨some 14, .mv (.t 1), none⟩,
        ⟨some 15, .len 1 (.t 14), none⟩,
        ⟨some 16, .bin .lss (.t 13) (.t 15), none⟩] [0, 1, 5, 6, 7, 16] [] [[], [], [14]])
      (.cond (.t 16)
        .skip
        (.exit 0)))
    (.seq
      (.block 1
        (.seq
          (.region [
            ⟨some 8, .mv (.k (.str [])), none⟩] [0, 1, 5, 6, 7, 8] [] [])
          (.seq
            (.seq
              (.region [
                ⟨some 19, .mv (.t 0), none⟩,
                ⟨some 20, .len 1 (.t 19), none⟩,
                ⟨some 21, .bin .sub (.t 20) (.k (.int .i64 1)), none⟩,
                ⟨some 9, .mv (.t 21), none⟩] [0, 1, 5, 6, 7, 8, 9] [] [[], [19], [20]])
              (.block 2
                (.loop [0, 1, 5, 6, 7, 8, 9]
                  b_spec_DPicked_1)))
            t_spec_DPicked_2)))
      t_spec_DPicked_3))

def t_spec_DPicked_5 : SCode :=
  (.seq
    (.region [
      ⟨some 56, .mv (.t 6), none⟩,
      ⟨some 4, .mv (.t 56), none⟩] [4] [12] [[6]])
    .ret)

def c_spec_DPicked : SFn := ⟨2,
    (.seq
      (.region [
        ⟨some 4, .mv (.k .nilS), none⟩] [0, 1] [] [])
      (.seq
        (.region [
          ⟨some 10, .mv (.t 0), none⟩,
          ⟨some 11, .len 1 (.t 10), none⟩,
          ⟨some 12, .mkSlice 1 1 [(.bool false)] (.t 11) (.t 11), none⟩,
          ⟨some 5, .mv (.t 12), none⟩] [0, 1, 5] [] [[], [10], [11]])
        (.seq
          (.region [
            ⟨some 6, .mv (.k .nilS), none⟩] [0, 1, 5, 6] [] [])
          (.seq
            (.seq
              (.region [
                ⟨some 7, .mv (.k (.int .i64 0)), none⟩] [0, 1, 5, 6, 7] [] [])
              (.block 0
                (.loop [0, 1, 5, 6, 7]
                  b_spec_DPicked_4)))
            t_spec_DPicked_5)))),
  [.t 4]⟩

def l_spec_DPicked : Lay := { rg := [(0, ([0, 1], [])), (1, ([0, 1, 5], [])), (2, ([0, 1, 5, 6], [])), (3, ([0, 1, 5, 6, 7], [])), (4, ([0, 1, 5, 6, 7, 16], [])), (5, ([0, 1, 5, 6, 7], [])), (6, ([0, 1, 5, 6, 7, 8], [])), (7, ([0, 1, 5, 6, 7, 8, 9], [])), (8, ([0, 1, 5, 6, 7, 8, 9, 23], [])), (9, ([0, 1, 5, 6, 7, 8, 9], [])), (10, ([0, 1, 5, 6, 7, 8, 9, 44], [])), (11, ([0, 1, 5, 6, 7, 8], [])), (12, ([0, 1, 5, 6, 7], [54])), (13, ([4], [12])), (1000004, ([0, 1, 5, 6, 7], [])), (1000008, ([0, 1, 5, 6, 7, 8, 9], []))], dd := [(1, [[], [10], [11]]), (4, [[], [], [14]]), (5, [[], [17]]), (7, [[], [19], [20]]), (9, [[], [24]]), (11, [[], [], [], [9], [47, 48], [49], [50], [45, 46]]), (12, [[], [8], [53], [52, 54]]), (13, [[6]])] }

/- dkim.Pick -/
def b_dkim_Pick_1 : SCode :=
  (.seq
    (.region [
      ⟨some 14, .bin .lss (.t 13) (.t 12), none⟩] [5, 6, 11, 12, 13, 14] [] [])
    (.seq
      (.cond (.t 14)
        .skip
        (.exit 0))
      (.seq
        (.block 1
          (.seq
            (.region [
              ⟨some 15, .iAddr 1 (.t 11) (.t 13), none⟩,
              ⟨some 16, .load none (.t 15), none⟩,
              ⟨some 8, .mv (.t 16), none⟩] [5, 6, 8, 11, 12, 13] [] [[], [15]])
            (.region [
              ⟨some 17, .mv (.t 6), none⟩,
              ⟨some 18, .mv (.t 5), none⟩,
              ⟨some 19, .mv (.t 8), none⟩,
              ⟨some 20, .callS 39 [(.t 18), (.t 19)], none⟩,
              ⟨some 21, .mkSl 1 1 [(.str [])] [(0, (.t 20))], none⟩,
              ⟨some 22, .app 1 16 (.t 17) (.t 21), none⟩,
              ⟨some 6, .mv (.t 22), none⟩] [5, 6, 11, 12, 13] [21] [[], [], [8], [18, 19], [20], [17, 21]])))
        (.region [
          ⟨some 23, .bin .add (.t 13) (.k (.int .i64 1)), none⟩,
          ⟨some 13, .mv (.t 23), none⟩] [5, 6, 11, 12, 13] [] []))))

def t_dkim_Pick_2 : SCode :=
  (.seq
    (.region [
      ⟨some 24, .mv (.t 6), none⟩,
      ⟨some 4, .mv (.t 24), none⟩] [4] [] [[6]])
    .ret)

def c_dkim_Pick : SFn := ⟨2,
    (.seq
      (.region [
        ⟨some 4, .mv (.k .nilS), none⟩] [0, 1] [] [])
      (.seq
        (.region [
          ⟨some 9, .mv (.t 0), none⟩,
          ⟨some 10, .callS 38 [(.t 9)], none⟩,
          ⟨some 5, .mv (.t 10), none⟩] [1, 5] [] [[0], [9]])
        (.seq
          (.region [
            ⟨some 6, .mv (.k .nilS), none⟩] [1, 5, 6] [] [])
          (.seq
            (.seq
              (.region [
                ⟨some 11, .mv (.t 1), none⟩,
                ⟨some 12, .len 1 (.t 11), none⟩,
                ⟨some 13, .mv (.k (.int .i64 0)), none⟩] [5, 6, 11, 12, 13] [] [[1]])
              (.block 0
                (.loop [5, 6, 11, 12, 13]
                  b_dkim_Pick_1)))
            t_dkim_Pick_2)))),
  [.t 4]⟩

def l_dkim_Pick : Lay := { rg := [(0, ([0, 1], [])), (1, ([1, 5], [])), (2, ([1, 5, 6], [])), (3, ([5, 6, 11, 12, 13], [])), (4, ([5, 6, 11, 12, 13, 14], [])), (5, ([5, 6, 8, 11, 12, 13], [])), (6, ([5, 6, 11, 12, 13], [21])), (7, ([5, 6, 11, 12, 13], [])), (8, ([4], [])), (1000004, ([5, 6, 11, 12, 13], []))], dd := [(1, [[0], [9]]), (3, [[1]]), (5, [[], [15]]), (6, [[], [], [8], [18, 19], [20], [17, 21]]), (8, [[6]])], sf := [38, 39] }

/- dkim.newHeaderPicker -/
def c_dkim_newHeaderPicker : SFn := ⟨1,
    (.seq
      (.region [
        ⟨some 2, .mv (.k .nilP), none⟩] [0] [] [])
      (.seq
        (.region [
          ⟨some 3, .mv (.t 0), none⟩,
          ⟨some 4, .mkMap, none⟩,
          ⟨some 5, .agg [.nilS, .nilM] [(0, 1, (.t 3)), (1, 1, (.t 4))], none⟩,
          ⟨some 6, .box (.t 5), none⟩,
          ⟨some 2, .mv (.t 6), none⟩] [2] [] [[0], [], [3, 4], [5]])
        .ret)),
  [.t 2]⟩

def l_dkim_newHeaderPicker : Lay := { rg := [(0, ([0], [])), (1, ([2], []))], dd := [(1, [[0], [], [3, 4], [5]])] }

/- dkim.headerPicker).Pick -/
def b_dkim_headerPicker_Pick_1 : SCode :=
  (.seq
    (.seq
      (.region [
        ⟨some 24, .mv (.t 6), none⟩,
        ⟨some 25, .bin .geq (.t 24) (.k (.int .i64 0)), none⟩] [0, 1, 5, 6, 25] [] [])
      (.cond (.t 25)
        .skip
        (.exit 0)))
    (.seq
      (.block 1
        (.seq
          (.region [
            ⟨some 28, .mv (.t 0), none⟩,
            ⟨some 29, .chk (.t 28), none⟩,
            ⟨some 30, .fAddr 0 (.t 29), none⟩,
            ⟨some 31, .load none (.t 30), none⟩,
            ⟨some 32, .mv (.t 6), none⟩,
            ⟨some 33, .iAddr 1 (.t 31) (.t 32), none⟩,
            ⟨some 34, .load none (.t 33), none⟩,
            ⟨some 7, .mv (.t 34), none⟩] [0, 1, 5, 6, 7] [] [[], [28], [29], [30], [], [31, 32], [33]])
          (.seq
            (.region [
              ⟨some 36, .mv (.t 7), none⟩,
              ⟨some 37, .call 40 [(.t 36)], none⟩,
              ⟨some 35, .mv (.t 37), none⟩,
              ⟨some 38, .extr (.t 35) 0, none⟩,
              ⟨some 39, .extr (.t 35) 1, none⟩,
              ⟨some 8, .mv (.t 38), none⟩,
              ⟨some 9, .mv (.t 39), none⟩] [0, 1, 5, 6, 7, 8] [] [[], [36], [37], [], [35], [38]])
            (.seq
              (.seq
                (.region [
                  ⟨some 40, .mv (.t 8), none⟩,
                  ⟨some 41, .mv (.t 1), none⟩,
                  ⟨some 42, .call 41 [(.t 40), (.t 41)], none⟩,
                  ⟨some 43, .un .not (.t 42), none⟩] [0, 1, 5, 6, 7, 43] [] [[8], [], [40, 41]])
                (.cond (.t 43)
                  (.exit 1)
                  .skip))
              (.seq
                (.seq
                  (.region [
                    ⟨some 44, .mv (.t 5), none⟩,
                    ⟨some 45, .bin .eql (.t 44) (.k (.int .i64 0)), none⟩] [0, 1, 5, 6, 7, 45] [] [])
                  (.cond (.t 45)
                    (.seq
                      (.region [
                        ⟨some 46, .mv (.t 0), none⟩,
                        ⟨some 47, .chk (.t 46), none⟩,
                        ⟨some 48, .fAddr 1 (.t 47), none⟩,
                        ⟨some 49, .load none (.t 48), none⟩,
                        ⟨some 50, .mv (.t 1), none⟩,
                        ⟨some 51, .look (.int .i64 0) false (.t 49) (.t 50), none⟩,
                        ⟨some 52, .bin .add (.t 51) (.k (.int .i64 1)), none⟩,
                        ⟨none, .mput (.t 49) (.t 50) (.t 52), none⟩] [7] [] [[0], [46], [47], [48], [1], [], [51]])
                      (.seq
                        (.region [
                          ⟨some 53, .mv (.t 7), none⟩,
                          ⟨some 4, .mv (.t 53), none⟩] [4] [] [[7]])
                        .ret))
                    .skip))
                (.region [
                  ⟨some 54, .mv (.t 5), none⟩,
                  ⟨some 55, .bin .sub (.t 54) (.k (.int .i64 1)), none⟩,
                  ⟨some 5, .mv (.t 55), none⟩] [0, 1, 5, 6] [] [[], [54]]))))))
      (.region [
        ⟨some 26, .mv (.t 6), none⟩,
        ⟨some 27, .bin .sub (.t 26) (.k (.int .i64 1)), none⟩,
        ⟨some 6, .mv (.t 27), none⟩] [0, 1, 5, 6] [] [[], [26]])))

def t_dkim_headerPicker_Pick_2 : SCode :=
  (.seq
    (.region [
      ⟨some 4, .mv (.k (.str [])), none⟩] [4] [] [])
    .ret)

def c_dkim_headerPicker_Pick : SFn := ⟨2,
    (.seq
      (.region [
        ⟨some 4, .mv (.k (.str [])), none⟩] [0, 1] [] [])
      (.seq
        (.region [
          ⟨some 10, .mv (.t 1), none⟩,
          ⟨some 11, .call 17 [(.t 10)], none⟩,
          ⟨some 1, .mv (.t 11), none⟩] [0, 1] [] [[], [10]])
        (.seq
          (.region [
            ⟨some 12, .mv (.t 0), none⟩,
            ⟨some 13, .chk (.t 12), none⟩,
            ⟨some 14, .fAddr 1 (.t 13), none⟩,
            ⟨some 15, .load none (.t 14), none⟩,
            ⟨some 16, .mv (.t 1), none⟩,
            ⟨some 17, .look (.int .i64 0) false (.t 15) (.t 16), none⟩,
            ⟨some 5, .mv (.t 17), none⟩] [0, 1, 5] [] [[], [12], [13], [14], [], [15, 16]])
          (.seq
            (.seq
              (.region [
                ⟨some 18, .mv (.t 0), none⟩,
                ⟨some 19, .chk (.t 18), none⟩,
                ⟨some 20, .fAddr 0 (.t 19), none⟩,
                ⟨some 21, .load none (.t 20), none⟩,
                ⟨some 22, .len 1 (.t 21), none⟩,
                ⟨some 23, .bin .sub (.t 22) (.k (.int .i64 1)), none⟩,
                ⟨some 6, .mv (.t 23), none⟩] [0, 1, 5, 6] [] [[], [18], [19], [20], [21], [22]])
              (.block 0
                (.loop [0, 1, 5, 6]
                  b_dkim_headerPicker_Pick_1)))
            t_dkim_headerPicker_Pick_2)))),
  [.t 4]⟩

def l_dkim_headerPicker_Pick : Lay := { rg := [(0, ([0, 1], [])), (1, ([0, 1], [])), (2, ([0, 1, 5], [])), (3, ([0, 1, 5, 6], [])), (4, ([0, 1, 5, 6, 25], [])), (5, ([0, 1, 5, 6], [])), (6, ([0, 1, 5, 6, 7], [])), (7, ([0, 1, 5, 6, 7, 8], [])), (8, ([0, 1, 5, 6, 7, 43], [])), (9, ([0, 1, 5, 6, 7, 45], [])), (10, ([7], [])), (11, ([4], [])), (12, ([0, 1, 5, 6], [])), (13, ([4], [])), (1000004, ([0, 1, 5, 6], []))], dd := [(1, [[], [10]]), (2, [[], [12], [13], [14], [], [15, 16]]), (3, [[], [18], [19], [20], [21], [22]]), (5, [[], [26]]), (6, [[], [28], [29], [30], [], [31, 32], [33]]), (7, [[], [36], [37], [], [35], [38]]), (8, [[8], [], [40, 41]]), (10, [[0], [46], [47], [48], [1], [], [51]]), (11, [[7]]), (12, [[], [54]])] }

/- dkim.parseHeaderField -/
def c_dkim_parseHeaderField : SFn := ⟨1,
    (.seq
      (.region [
        ⟨some 2, .mv (.k (.str [])), none⟩,
        ⟨some 3, .mv (.k (.str [])), none⟩] [0] [] [[2]])
      (.seq
        (.region [
          ⟨some 8, .mv (.t 0), none⟩,
          ⟨some 9, .call 16 [(.t 8), (.k (.str [58]))], none⟩,
          ⟨some 7, .mv (.t 9), none⟩,
          ⟨some 10, .extr (.t 7) 0, none⟩,
          ⟨some 11, .extr (.t 7) 1, none⟩,
          ⟨some 12, .extr (.t 7) 2, none⟩,
          ⟨some 4, .mv (.t 10), none⟩,
          ⟨some 5, .mv (.t 11), none⟩,
          ⟨some 6, .mv (.t 12), none⟩] [4, 5] [] [[0], [8], [9], [], [], [7], [10], [11]])
        (.seq
          (.region [
            ⟨some 13, .mv (.t 4), none⟩,
            ⟨some 14, .call 18 [(.t 13)], none⟩,
            ⟨some 15, .mv (.t 5), none⟩,
            ⟨some 16, .call 18 [(.t 15)], none⟩,
            ⟨some 2, .mv (.t 14), none⟩,
            ⟨some 3, .mv (.t 16), none⟩] [2, 3] [] [[4], [13], [5], [15], [14]])
          .ret))),
  [.t 2, .t 3]⟩

def l_dkim_parseHeaderField : Lay := { rg := [(0, ([0], [])), (1, ([4, 5], [])), (2, ([2, 3], []))], dd := [(0, [[2]]), (1, [[0], [8], [9], [], [], [7], [10], [11]]), (2, [[4], [13], [5], [15], [14]])] }

/- dkim.zzEqualFold -/
def b_dkim_zzEqualFold_1 : SCode :=
  (.seq
    (.region [
      ⟨some 23, .bin .lss (.t 22) (.t 21), none⟩] [6, 7, 21, 22, 23] [] [])
    (.seq
      (.cond (.t 23)
        .skip
        (.exit 0))
      (.seq
        (.block 1
          (.seq
            (.region [
              ⟨some 24, .mv (.t 22), none⟩,
              ⟨some 8, .mv (.t 24), none⟩] [6, 7, 8, 21, 22] [] [])
            (.seq
              (.region [
                ⟨some 25, .mv (.t 6), none⟩,
                ⟨some 26, .mv (.t 8), none⟩,
                ⟨some 27, .iAddr 1 (.t 25) (.t 26), none⟩,
                ⟨some 28, .load none (.t 27), none⟩,
                ⟨some 29, .mv (.t 7), none⟩,
                ⟨some 30, .mv (.t 8), none⟩,
                ⟨some 31, .iAddr 1 (.t 29) (.t 30), none⟩,
                ⟨some 32, .load none (.t 31), none⟩,
                ⟨some 33, .bin .neq (.t 28) (.t 32), none⟩] [6, 7, 21, 22, 33] [] [])
              (.cond (.t 33)
                (.seq
                  (.region [
                    ⟨some 4, .mv (.k (.bool false)), none⟩] [4] [] [])
                  .ret)
                .skip))))
        (.region [
          ⟨some 34, .bin .add (.t 22) (.k (.int .i64 1)), none⟩,
          ⟨some 22, .mv (.t 34), none⟩] [6, 7, 21, 22] [] []))))

def t_dkim_zzEqualFold_2 : SCode :=
  (.seq
    (.region [
      ⟨some 4, .mv (.k (.bool true)), none⟩] [4] [] [])
    .ret)

def c_dkim_zzEqualFold : SFn := ⟨2,
    (.seq
      (.region [
        ⟨some 4, .mv (.k (.bool false)), none⟩] [0, 1] [] [])
      (.seq
        (.region [
          ⟨some 5, .mv (.k (.fn 42 [])), none⟩] [0, 1, 5] [] [])
        (.seq
          (.region [
            ⟨some 9, .mv (.t 5), none⟩,
            ⟨some 10, .mv (.t 0), none⟩,
            ⟨some 11, .callV (.t 9) [(.t 10)], none⟩,
            ⟨some 12, .mv (.t 5), none⟩,
            ⟨some 13, .mv (.t 1), none⟩,
            ⟨some 14, .callV (.t 12) [(.t 13)], none⟩,
            ⟨some 6, .mv (.t 11), none⟩,
            ⟨some 7, .mv (.t 14), none⟩] [6, 7] [] [[], [0], [9, 10], [5], [1], [12, 13], [11]])
          (.seq
            (.seq
              (.region [
                ⟨some 15, .mv (.t 6), none⟩,
                ⟨some 16, .len 1 (.t 15), none⟩,
                ⟨some 17, .mv (.t 7), none⟩,
                ⟨some 18, .len 1 (.t 17), none⟩,
                ⟨some 19, .bin .neq (.t 16) (.t 18), none⟩] [6, 7, 19] [] [[], [15], [], [17]])
              (.cond (.t 19)
                (.seq
                  (.region [
                    ⟨some 4, .mv (.k (.bool false)), none⟩] [4] [] [])
                  .ret)
                .skip))
            (.seq
              (.seq
                (.region [
                  ⟨some 20, .mv (.t 6), none⟩,
                  ⟨some 21, .len 1 (.t 20), none⟩,
                  ⟨some 22, .mv (.k (.int .i64 0)), none⟩] [6, 7, 21, 22] [] [[], [20]])
                (.block 0
                  (.loop [6, 7, 21, 22]
                    b_dkim_zzEqualFold_1)))
              t_dkim_zzEqualFold_2))))),
  [.t 4]⟩

def l_dkim_zzEqualFold : Lay := { rg := [(0, ([0, 1], [])), (1, ([0, 1, 5], [])), (2, ([6, 7], [])), (3, ([6, 7, 19], [])), (4, ([4], [])), (5, ([6, 7, 21, 22], [])), (6, ([6, 7, 21, 22, 23], [])), (7, ([6, 7, 8, 21, 22], [])), (8, ([6, 7, 21, 22, 33], [])), (9, ([4], [])), (10, ([6, 7, 21, 22], [])), (11, ([4], [])), (1000006, ([6, 7, 21, 22], []))], dd := [(2, [[], [0], [9, 10], [5], [1], [12, 13], [11]]), (3, [[], [15], [], [17]]), (5, [[], [20]])] }

/- dkim.zzEqualFold$1 -/
def b_dkim_zzEqualFold_1_1 : SCode :=
  (.seq
    (.region [
      ⟨some 8, .nextS (.t 7), none⟩,
      ⟨some 9, .extr (.t 8) 0, none⟩] [3, 7, 8, 9] [] [])
    (.seq
      (.cond (.t 9)
        .skip
        (.exit 0))
      (.block 1
        (.seq
          (.region [
            ⟨some 10, .extr (.t 8) 2, none⟩,
            ⟨some 5, .mv (.t 10), none⟩] [3, 5, 7] [] [[8]])
          (.seq
            (.block 2
              (.seq
                (.region [
                  ⟨some 12, .mv (.t 5), none⟩,
                  ⟨some 13, .bin .leq (.k (.int .i32 65)) (.t 12), none⟩,
                  ⟨some 14, .mv (.t 13), none⟩,
                  ⟨some 15, .mv (.t 5), some (14, true)⟩,
                  ⟨some 16, .bin .leq (.t 15) (.k (.int .i32 90)), some (14, true)⟩,
                  ⟨some 17, .pick (.t 14) (.t 16) (.k (.bool false)), none⟩,
                  ⟨some 11, .mv (.t 17), none⟩] [3, 5, 7, 11] [] [[], [12], [13], [], [15], [14, 16]])
                (.cond (.t 11)
                  (.region [
                    ⟨some 18, .mv (.t 5), none⟩,
                    ⟨some 19, .bin .add (.t 18) (.k (.int .i32 32)), none⟩,
                    ⟨some 5, .mv (.t 19), none⟩] [3, 5, 7] [] [[], [18]])
                  (.seq
                    (.region [
                      ⟨some 21, .mv (.t 5), none⟩,
                      ⟨some 22, .bin .eql (.t 21) (.k (.int .i32 383)), none⟩,
                      ⟨some 20, .mv (.t 22), none⟩] [3, 5, 7, 20] [] [[], [21]])
                    (.cond (.t 20)
                      (.region [
                        ⟨some 5, .mv (.k (.int .i32 115)), none⟩] [3, 5, 7] [] [])
                      (.seq
                        (.region [
                          ⟨some 24, .mv (.t 5), none⟩,
                          ⟨some 25, .bin .eql (.t 24) (.k (.int .i32 8490)), none⟩,
                          ⟨some 23, .mv (.t 25), none⟩] [3, 5, 7, 23] [] [[], [24]])
                        (.cond (.t 23)
                          (.region [
                            ⟨some 5, .mv (.k (.int .i32 107)), none⟩] [3, 5, 7] [] [])
                          .skip)))))))
            (.region [
              ⟨some 26, .mv (.t 3), none⟩,
              ⟨some 27, .mv (.t 5), none⟩,
              ⟨some 28, .mkSl 1 1 [(.int .i32 0)] [(0, (.t 27))], none⟩,
              ⟨some 29, .app 1 4 (.t 26) (.t 28), none⟩,
              ⟨some 3, .mv (.t 29), none⟩] [3, 7] [28] [[], [5], [27], [26, 28]]))))))

def t_dkim_zzEqualFold_1_2 : SCode :=
  (.seq
    (.region [
      ⟨some 30, .mv (.t 3), none⟩,
      ⟨some 2, .mv (.t 30), none⟩] [2] [7] [[3]])
    .ret)

def c_dkim_zzEqualFold_1 : SFn := ⟨1,
    (.seq
      (.region [
        ⟨some 2, .mv (.k .nilS), none⟩] [0] [] [])
      (.seq
        (.region [
          ⟨some 3, .mv (.k .nilS), none⟩] [0, 3] [] [])
        (.seq
          (.seq
            (.region [
              ⟨some 6, .mv (.t 0), none⟩,
              ⟨some 7, .rangeS (.t 6), none⟩] [3, 7] [] [[0]])
            (.block 0
              (.loop [3, 7]
                b_dkim_zzEqualFold_1_1)))
          t_dkim_zzEqualFold_1_2))),
  [.t 2]⟩

def l_dkim_zzEqualFold_1 : Lay := { rg := [(0, ([0], [])), (1, ([0, 3], [])), (2, ([3, 7], [])), (3, ([3, 7, 8, 9], [])), (4, ([3, 5, 7], [])), (5, ([3, 5, 7, 11], [])), (6, ([3, 5, 7], [])), (7, ([3, 5, 7, 20], [])), (8, ([3, 5, 7], [])), (9, ([3, 5, 7, 23], [])), (10, ([3, 5, 7], [])), (11, ([3, 7], [28])), (12, ([2], [7])), (1000003, ([3, 7], []))], dd := [(2, [[0]]), (4, [[8]]), (5, [[], [12], [13], [], [15], [14, 16]]), (6, [[], [18]]), (7, [[], [21]]), (9, [[], [24]]), (11, [[], [5], [27], [26, 28]]), (12, [[3]])] }

end Wax

/- Functions as the abstract machine has them. -/
namespace Wax
open Go (IntKind)

/- spec.DSplit -/
def b_spec_DSplit_1 : SCode :=
  (.block 1
    (.seq
      (.region [
        ⟨some 10, .mv (.t 0), none⟩,
        ⟨some 11, .mv (.t 1), none⟩,
        ⟨some 12, .call 2 [(.t 10), (.t 11)], none⟩,
        ⟨some 9, .mv (.t 12), none⟩,
        ⟨some 13, .extr (.t 9) 0, none⟩,
        ⟨some 14, .extr (.t 9) 1, none⟩,
        ⟨some 15, .extr (.t 9) 2, none⟩,
        ⟨some 6, .mv (.t 13), none⟩,
        ⟨some 7, .mv (.t 14), none⟩,
        ⟨some 8, .mv (.t 15), none⟩] [1, 5, 6, 7, 8] [] [[0], [], [10, 11], [12], [], [], [9], [13], [14]])
      (.seq
        (.region [
          ⟨some 16, .mv (.t 5), none⟩,
          ⟨some 17, .mv (.t 6), none⟩,
          ⟨some 18, .mkSl 1 1 [(.str [])] [(0, (.t 17))], none⟩,
          ⟨some 19, .app 1 16 (.t 16) (.t 18), none⟩,
          ⟨some 5, .mv (.t 19), none⟩] [1, 5, 7, 8] [18] [[], [6], [17], [16, 18]])
        (.seq
          (.seq
            (.region [
              ⟨some 20, .mv (.t 8), none⟩,
              ⟨some 21, .un .not (.t 20), none⟩] [1, 5, 7, 21] [] [[8]])
            (.cond (.t 21)
              (.seq
                (.region [
                  ⟨some 22, .mv (.t 5), none⟩,
                  ⟨some 4, .mv (.t 22), none⟩] [4] [] [[5]])
                .ret)
              .skip))
          (.region [
            ⟨some 23, .mv (.t 7), none⟩,
            ⟨some 0, .mv (.t 23), none⟩] [0, 1, 5] [] [[7]])))))

def c_spec_DSplit : SFn := ⟨2,
    (.seq
      (.region [
        ⟨some 4, .mv (.k .nilS), none⟩] [0, 1] [] [])
      (.seq
        (.region [
          ⟨some 5, .mv (.k .nilS), none⟩] [0, 1, 5] [] [])
        (.block 0
          (.loop [0, 1, 5]
            b_spec_DSplit_1)))),
  [.t 4]⟩

def l_spec_DSplit : Lay := { rg := [(0, ([0, 1], [])), (1, ([0, 1, 5], [])), (2, ([1, 5, 6, 7, 8], [])), (3, ([1, 5, 7, 8], [18])), (4, ([1, 5, 7, 21], [])), (5, ([4], [])), (6, ([0, 1, 5], [])), (1000002, ([0, 1, 5], []))], dd := [(2, [[0], [], [10, 11], [12], [], [], [9], [13], [14]]), (3, [[], [6], [17], [16, 18]]), (4, [[8]]), (5, [[5]]), (6, [[7]])] }

/- laws.dSamePairs -/
def b_laws_dSamePairs_1 : SCode :=
  (.seq
    (.seq
      (.region [
        ⟨some 11, .mv (.t 5), none⟩,
        ⟨some 12, .mv (.t 0), none⟩,
        ⟨some 13, .len 1 (.t 12), none⟩,
        ⟨some 14, .bin .lss (.t 11) (.t 13), none⟩] [0, 1, 5, 14] [] [[], [], [12]])
      (.cond (.t 14)
        .skip
        (.exit 0)))
    (.seq
      (.block 1
        (.seq
          (.region [
            ⟨some 17, .mv (.t 0), none⟩,
            ⟨some 18, .mv (.t 5), none⟩,
            ⟨some 19, .iAddr 2 (.t 17) (.t 18), none⟩,
            ⟨some 20, .load (some 2) (.t 19), none⟩,
            ⟨some 21, .mv (.t 1), none⟩,
            ⟨some 22, .mv (.t 5), none⟩,
            ⟨some 23, .iAddr 2 (.t 21) (.t 22), none⟩,
            ⟨some 24, .load (some 2) (.t 23), none⟩,
            ⟨some 25, .eqA true [2, 2] (.t 20) (.t 24), none⟩] [0, 1, 5, 25] [] [])
          (.cond (.t 25)
            (.seq
              (.region [
                ⟨some 4, .mv (.k (.bool false)), none⟩] [4] [] [])
              .ret)
            .skip)))
      (.region [
        ⟨some 15, .mv (.t 5), none⟩,
        ⟨some 16, .bin .add (.t 15) (.k (.int .i64 1)), none⟩,
        ⟨some 5, .mv (.t 16), none⟩] [0, 1, 5] [] [[], [15]])))

def t_laws_dSamePairs_2 : SCode :=
  (.seq
    (.region [
      ⟨some 4, .mv (.k (.bool true)), none⟩] [4] [] [])
    .ret)

def c_laws_dSamePairs : SFn := ⟨2,
    (.seq
      (.region [
        ⟨some 4, .mv (.k (.bool false)), none⟩] [0, 1] [] [])
      (.seq
        (.seq
          (.region [
            ⟨some 6, .mv (.t 0), none⟩,
            ⟨some 7, .len 1 (.t 6), none⟩,
            ⟨some 8, .mv (.t 1), none⟩,
            ⟨some 9, .len 1 (.t 8), none⟩,
            ⟨some 10, .bin .neq (.t 7) (.t 9), none⟩] [0, 1, 10] [] [[], [6], [], [8]])
          (.cond (.t 10)
            (.seq
              (.region [
                ⟨some 4, .mv (.k (.bool false)), none⟩] [4] [] [])
              .ret)
            .skip))
        (.seq
          (.seq
            (.region [
              ⟨some 5, .mv (.k (.int .i64 0)), none⟩] [0, 1, 5] [] [])
            (.block 0
              (.loop [0, 1, 5]
                b_laws_dSamePairs_1)))
          t_laws_dSamePairs_2))),
  [.t 4]⟩

def l_laws_dSamePairs : Lay := { rg := [(0, ([0, 1], [])), (1, ([0, 1, 10], [])), (2, ([4], [])), (3, ([0, 1, 5], [])), (4, ([0, 1, 5, 14], [])), (5, ([0, 1, 5], [])), (6, ([0, 1, 5, 25], [])), (7, ([4], [])), (8, ([4], [])), (1000004, ([0, 1, 5], []))], dd := [(1, [[], [6], [], [8]]), (4, [[], [], [12]]), (5, [[], [15]])] }

/- impl.DParams -/
def c_impl_DParams : SFn := ⟨1,
    (.seq
      (.region [
        ⟨some 2, .mv (.k .nilS), none⟩,
        ⟨some 3, .mv (.k (.bool false)), none⟩] [0] [] [[2]])
      (.seq
        (.region [
          ⟨some 7, .mv (.t 0), none⟩,
          ⟨some 8, .call 45 [(.t 7)], none⟩,
          ⟨some 6, .mv (.t 8), none⟩,
          ⟨some 9, .extr (.t 6) 0, none⟩,
          ⟨some 10, .extr (.t 6) 1, none⟩,
          ⟨some 4, .mv (.t 9), none⟩,
          ⟨some 5, .mv (.t 10), none⟩] [4, 5] [] [[0], [7], [8], [], [6], [9]])
        (.seq
          (.seq
            (.region [
              ⟨some 11, .mv (.t 5), none⟩,
              ⟨some 12, .isNil 0 true (.t 11), none⟩] [4, 12] [] [[5]])
            (.cond (.t 12)
              (.seq
                (.region [
                  ⟨some 2, .mv (.k .nilS), none⟩,
                  ⟨some 3, .mv (.k (.bool false)), none⟩] [2, 3] [] [])
                .ret)
              .skip))
          (.seq
            (.region [
              ⟨some 13, .mv (.t 4), none⟩,
              ⟨some 14, .call 46 [(.t 13)], none⟩,
              ⟨some 2, .mv (.t 14), none⟩,
              ⟨some 3, .mv (.k (.bool true)), none⟩] [2, 3] [] [[4], [13], [14]])
            .ret)))),
  [.t 2, .t 3]⟩

def l_impl_DParams : Lay := { rg := [(0, ([0], [])), (1, ([4, 5], [])), (2, ([4, 12], [])), (3, ([2, 3], [])), (4, ([2, 3], []))], dd := [(0, [[2]]), (1, [[0], [7], [8], [], [6], [9]]), (2, [[5]]), (4, [[4], [13], [14]])] }

/- impl.pairsOf -/
def b_impl_pairsOf_1 : SCode :=
  (.seq
    (.region [
      ⟨some 9, .bin .lss (.t 8) (.t 7), none⟩] [3, 6, 7, 8, 9] [] [])
    (.seq
      (.cond (.t 9)
        .skip
        (.exit 0))
      (.seq
        (.block 1
          (.seq
            (.region [
              ⟨some 10, .iAddr 2 (.t 6) (.t 8), none⟩,
              ⟨some 11, .load (some 2) (.t 10), none⟩,
              ⟨some 5, .alloc [(.str []), (.str [])], none⟩,
              ⟨none, .store 2 (.t 5) (.t 11), none⟩] [3, 5, 6, 7, 8] [] [[], [10]])
            (.region [
              ⟨some 12, .mv (.t 3), none⟩,
              ⟨some 13, .iAddrA 2 1 (.t 5) (.k (.int .i64 0)), none⟩,
              ⟨some 14, .load none (.t 13), none⟩,
              ⟨some 15, .iAddrA 2 1 (.t 5) (.k (.int .i64 1)), none⟩,
              ⟨some 16, .load none (.t 15), none⟩,
              ⟨some 17, .agg [(.str []), (.str [])] [(0, 1, (.t 14)), (1, 1, (.t 16))], none⟩,
              ⟨some 18, .mkSl 2 1 [(.str []), (.str [])] [(0, (.t 17))], none⟩,
              ⟨some 19, .app 2 32 (.t 12) (.t 18), none⟩,
              ⟨some 3, .mv (.t 19), none⟩] [3, 6, 7, 8] [5, 18] [[], [], [13], [5], [15], [14, 16], [17], [12, 18]])))
        (.region [
          ⟨some 20, .bin .add (.t 8) (.k (.int .i64 1)), none⟩,
          ⟨some 8, .mv (.t 20), none⟩] [3, 6, 7, 8] [] []))))

def t_impl_pairsOf_2 : SCode :=
  (.seq
    (.region [
      ⟨some 21, .mv (.t 3), none⟩,
      ⟨some 2, .mv (.t 21), none⟩] [2] [] [[3]])
    .ret)

def c_impl_pairsOf : SFn := ⟨1,
    (.seq
      (.region [
        ⟨some 2, .mv (.k .nilS), none⟩] [0] [] [])
      (.seq
        (.region [
          ⟨some 3, .mv (.k .nilS), none⟩] [0, 3] [] [])
        (.seq
          (.seq
            (.region [
              ⟨some 6, .mv (.t 0), none⟩,
              ⟨some 7, .len 1 (.t 6), none⟩,
              ⟨some 8, .mv (.k (.int .i64 0)), none⟩] [3, 6, 7, 8] [] [[0]])
            (.block 0
              (.loop [3, 6, 7, 8]
                b_impl_pairsOf_1)))
          t_impl_pairsOf_2))),
  [.t 2]⟩

def l_impl_pairsOf : Lay := { rg := [(0, ([0], [])), (1, ([0, 3], [])), (2, ([3, 6, 7, 8], [])), (3, ([3, 6, 7, 8, 9], [])), (4, ([3, 5, 6, 7, 8], [])), (5, ([3, 6, 7, 8], [5, 18])), (6, ([3, 6, 7, 8], [])), (7, ([2], [])), (1000003, ([3, 6, 7, 8], []))], dd := [(2, [[0]]), (4, [[], [10]]), (5, [[], [], [13], [5], [15], [14, 16], [17], [12, 18]]), (7, [[3]])] }

/- dkim.Params -/
def b_dkim_Params_1 : SCode :=
  (.seq
    (.region [
      ⟨some 22, .bin .lss (.t 21) (.t 20), none⟩] [4, 6, 19, 20, 21, 22] [] [])
    (.seq
      (.cond (.t 22)
        .skip
        (.exit 0))
      (.seq
        (.block 1
          (.seq
            (.region [
              ⟨some 23, .iAddr 1 (.t 19) (.t 21), none⟩,
              ⟨some 24, .load none (.t 23), none⟩,
              ⟨some 8, .mv (.t 24), none⟩] [4, 6, 8, 19, 20, 21] [] [[], [23]])
            (.region [
              ⟨some 25, .mv (.t 6), none⟩,
              ⟨some 26, .mv (.t 8), none⟩,
              ⟨some 27, .mv (.t 4), none⟩,
              ⟨some 28, .mv (.t 8), none⟩,
              ⟨some 29, .look (.str []) false (.t 27) (.t 28), none⟩,
              ⟨some 30, .agg [(.str []), (.str [])] [(0, 1, (.t 26)), (1, 1, (.t 29))], none⟩,
              ⟨some 31, .mkSl 2 1 [(.str []), (.str [])] [(0, (.t 30))], none⟩,
              ⟨some 32, .app 2 32 (.t 25) (.t 31), none⟩,
              ⟨some 6, .mv (.t 32), none⟩] [4, 6, 19, 20, 21] [31] [[], [], [], [8], [27, 28], [26, 29], [30], [25, 31]])))
        (.region [
          ⟨some 33, .bin .add (.t 21) (.k (.int .i64 1)), none⟩,
          ⟨some 21, .mv (.t 33), none⟩] [4, 6, 19, 20, 21] [] []))))

def t_dkim_Params_2 : SCode :=
  (.seq
    (.region [
      ⟨some 34, .mv (.t 6), none⟩,
      ⟨some 2, .mv (.t 34), none⟩,
      ⟨some 3, .mv (.k .nilI), none⟩] [2, 3] [] [[6], [34]])
    .ret)

def c_dkim_Params : SFn := ⟨1,
    (.seq
      (.region [
        ⟨some 2, .mv (.k .nilS), none⟩,
        ⟨some 3, .mv (.k .nilI), none⟩] [0] [] [[2]])
      (.seq
        (.region [
          ⟨some 10, .mv (.t 0), none⟩,
          ⟨some 11, .call 47 [(.t 10)], none⟩,
          ⟨some 9, .mv (.t 11), none⟩,
          ⟨some 12, .extr (.t 9) 0, none⟩,
          ⟨some 13, .extr (.t 9) 1, none⟩,
          ⟨some 4, .mv (.t 12), none⟩,
          ⟨some 5, .mv (.t 13), none⟩] [4, 5] [] [[0], [10], [11], [], [9], [12]])
        (.seq
          (.seq
            (.region [
              ⟨some 14, .mv (.t 5), none⟩,
              ⟨some 15, .isNil 0 true (.t 14), none⟩] [4, 5, 15] [] [])
            (.cond (.t 15)
              (.seq
                (.region [
                  ⟨some 16, .mv (.t 5), none⟩,
                  ⟨some 2, .mv (.k .nilS), none⟩,
                  ⟨some 3, .mv (.t 16), none⟩] [2, 3] [] [[5]])
                .ret)
              .skip))
          (.seq
            (.region [
              ⟨some 6, .mv (.k .nilS), none⟩] [4, 6] [] [])
            (.seq
              (.seq
                (.region [
                  ⟨some 17, .mv (.t 4), none⟩,
                  ⟨some 18, .call 48 [(.t 17)], none⟩,
                  ⟨some 19, .call 49 [(.t 18)], none⟩,
                  ⟨some 20, .len 1 (.t 19), none⟩,
                  ⟨some 21, .mv (.k (.int .i64 0)), none⟩] [4, 6, 19, 20, 21] [] [[], [17], [18]])
                (.block 0
                  (.loop [4, 6, 19, 20, 21]
                    b_dkim_Params_1)))
              t_dkim_Params_2))))),
  [.t 2, .t 3]⟩

def l_dkim_Params : Lay := { rg := [(0, ([0], [])), (1, ([4, 5], [])), (2, ([4, 5, 15], [])), (3, ([2, 3], [])), (4, ([4, 6], [])), (5, ([4, 6, 19, 20, 21], [])), (6, ([4, 6, 19, 20, 21, 22], [])), (7, ([4, 6, 8, 19, 20, 21], [])), (8, ([4, 6, 19, 20, 21], [31])), (9, ([4, 6, 19, 20, 21], [])), (10, ([2, 3], [])), (1000006, ([4, 6, 19, 20, 21], []))], dd := [(0, [[2]]), (1, [[0], [10], [11], [], [9], [12]]), (3, [[5]]), (5, [[], [17], [18]]), (7, [[], [23]]), (8, [[], [], [], [8], [27, 28], [26, 29], [30], [25, 31]]), (10, [[6], [34]])] }

/- dkim.parseHeaderParams -/
def b_dkim_parseHeaderParams_1 : SCode :=
  (.seq
    (.region [
      ⟨some 20, .bin .lss (.t 19) (.t 18), none⟩] [5, 17, 18, 19, 20] [] [])
    (.seq
      (.cond (.t 20)
        .skip
        (.exit 0))
      (.seq
        (.block 1
          (.seq
            (.region [
              ⟨some 21, .iAddr 1 (.t 17) (.t 19), none⟩,
              ⟨some 22, .load none (.t 21), none⟩,
              ⟨some 7, .mv (.t 22), none⟩] [5, 7, 17, 18, 19] [] [[], [21]])
            (.seq
              (.region [
                ⟨some 24, .mv (.t 7), none⟩,
                ⟨some 25, .call 16 [(.t 24), (.k (.str [61]))], none⟩,
                ⟨some 23, .mv (.t 25), none⟩,
                ⟨some 26, .extr (.t 23) 0, none⟩,
                ⟨some 27, .extr (.t 23) 1, none⟩,
                ⟨some 28, .extr (.t 23) 2, none⟩,
                ⟨some 8, .mv (.t 26), none⟩,
                ⟨some 9, .mv (.t 27), none⟩,
                ⟨some 10, .mv (.t 28), none⟩] [5, 7, 8, 9, 10, 17, 18, 19] [] [[], [24], [25], [], [], [23], [26], [27]])
              (.seq
                (.seq
                  (.region [
                    ⟨some 29, .mv (.t 10), none⟩,
                    ⟨some 30, .un .not (.t 29), none⟩] [5, 7, 8, 9, 17, 18, 19, 30] [] [[10]])
                  (.cond (.t 30)
                    (.seq
                      (.seq
                        (.region [
                          ⟨some 31, .mv (.t 7), none⟩,
                          ⟨some 32, .call 18 [(.t 31)], none⟩,
                          ⟨some 33, .bin .eql (.t 32) (.k (.str [])), none⟩] [5, 17, 18, 19, 33] [] [[7], [31]])
                        (.cond (.t 33)
                          (.exit 1)
                          .skip))
                      (.seq
                        (.region [
                          ⟨some 34, .mv (.t 5), none⟩,
                          ⟨some 35, .call 50 [(.k (.str [100, 107, 105, 109, 58, 32, 109, 97, 108, 102, 111, 114, 109, 101, 100, 32, 104, 101, 97, 100, 101, 114, 32, 112, 97, 114, 97, 109, 115]))], none⟩,
                          ⟨some 2, .mv (.t 34), none⟩,
                          ⟨some 3, .mv (.t 35), none⟩] [2, 3] [15, 100015] [[5], [], [34]])
                        .ret))
                    .skip))
                (.seq
                  (.region [
                    ⟨some 36, .mv (.t 8), none⟩,
                    ⟨some 37, .call 18 [(.t 36)], none⟩,
                    ⟨some 11, .mv (.t 37), none⟩] [5, 9, 11, 17, 18, 19] [] [[8], [36]])
                  (.seq
                    (.region [
                      ⟨some 39, .mv (.t 5), none⟩,
                      ⟨some 40, .mv (.t 11), none⟩,
                      ⟨some 41, .look (.str []) true (.t 39) (.t 40), none⟩,
                      ⟨some 38, .mv (.t 41), none⟩,
                      ⟨some 42, .extr (.t 38) 0, none⟩,
                      ⟨some 43, .extr (.t 38) 1, none⟩,
                      ⟨some 12, .mv (.t 42), none⟩,
                      ⟨some 13, .mv (.t 43), none⟩] [5, 9, 11, 13, 17, 18, 19] [] [[], [], [39, 40], [41], [], [38], [12, 42]])
                    (.seq
                      (.seq
                        (.region [
                          ⟨some 44, .mv (.t 13), none⟩] [5, 9, 11, 17, 18, 19, 44] [] [])
                        (.cond (.t 44)
                          (.seq
                            (.region [
                              ⟨some 45, .mv (.t 5), none⟩,
                              ⟨some 46, .call 50 [(.k (.str [100, 107, 105, 109, 58, 32, 100, 117, 112, 108, 105, 99, 97, 116, 101, 32, 116, 97, 103, 32, 110, 97, 109, 101]))], none⟩,
                              ⟨some 2, .mv (.t 45), none⟩,
                              ⟨some 3, .mv (.t 46), none⟩] [2, 3] [15, 100015] [[5], [], [45]])
                            .ret)
                          .skip))
                      (.region [
                        ⟨some 47, .mv (.t 5), none⟩,
                        ⟨some 48, .mv (.t 11), none⟩,
                        ⟨some 49, .mv (.t 9), none⟩,
                        ⟨some 50, .call 18 [(.t 49)], none⟩,
                        ⟨none, .mput (.t 47) (.t 48) (.t 50), none⟩] [5, 17, 18, 19] [] [[], [11], [9], [49]]))))))))
        (.region [
          ⟨some 51, .bin .add (.t 19) (.k (.int .i64 1)), none⟩,
          ⟨some 19, .mv (.t 51), none⟩] [5, 17, 18, 19] [] []))))

def t_dkim_parseHeaderParams_2 : SCode :=
  (.seq
    (.region [
      ⟨some 52, .mv (.t 5), none⟩,
      ⟨some 2, .mv (.t 52), none⟩,
      ⟨some 3, .mv (.k .nilI), none⟩] [2, 3] [15, 100015] [[5], [52]])
    .ret)

def c_dkim_parseHeaderParams : SFn := ⟨1,
    (.seq
      (.region [
        ⟨some 2, .mv (.k .nilM), none⟩,
        ⟨some 3, .mv (.k .nilI), none⟩] [0] [] [[2]])
      (.seq
        (.region [
          ⟨some 14, .mv (.t 0), none⟩,
          ⟨some 15, .callS 25 [(.t 14), (.k (.str [59]))], none⟩,
          ⟨some 4, .mv (.t 15), none⟩] [4] [] [[0], [14]])
        (.seq
          (.region [
            ⟨some 16, .mkMap, none⟩,
            ⟨some 5, .mv (.t 16), none⟩] [4, 5] [] [])
          (.seq
            (.seq
              (.region [
                ⟨some 17, .mv (.t 4), none⟩,
                ⟨some 18, .len 1 (.t 17), none⟩,
                ⟨some 19, .mv (.k (.int .i64 0)), none⟩] [5, 17, 18, 19] [] [[4]])
              (.block 0
                (.loop [5, 17, 18, 19]
                  b_dkim_parseHeaderParams_1)))
            t_dkim_parseHeaderParams_2)))),
  [.t 2, .t 3]⟩

def l_dkim_parseHeaderParams : Lay := { rg := [(0, ([0], [])), (1, ([4], [])), (2, ([4, 5], [])), (3, ([5, 17, 18, 19], [])), (4, ([5, 17, 18, 19, 20], [])), (5, ([5, 7, 17, 18, 19], [])), (6, ([5, 7, 8, 9, 10, 17, 18, 19], [])), (7, ([5, 7, 8, 9, 17, 18, 19, 30], [])), (8, ([5, 17, 18, 19, 33], [])), (9, ([2, 3], [15, 100015])), (10, ([5, 9, 11, 17, 18, 19], [])), (11, ([5, 9, 11, 13, 17, 18, 19], [])), (12, ([5, 9, 11, 17, 18, 19, 44], [])), (13, ([2, 3], [15, 100015])), (14, ([5, 17, 18, 19], [])), (15, ([5, 17, 18, 19], [])), (16, ([2, 3], [15, 100015])), (1000004, ([5, 17, 18, 19], []))], dd := [(0, [[2]]), (1, [[0], [14]]), (3, [[4]]), (5, [[], [21]]), (6, [[], [24], [25], [], [], [23], [26], [27]]), (7, [[10]]), (8, [[7], [31]]), (9, [[5], [], [34]]), (10, [[8], [36]]), (11, [[], [], [39, 40], [41], [], [38], [12, 42]]), (13, [[5], [], [45]]), (14, [[], [11], [9], [49]]), (16, [[5], [52]])], sf := [25] }

/- errors.New -/
def c_errors_New : SFn := ⟨1,
    (.seq
      (.region [
        ⟨some 2, .mv (.k .nilI), none⟩] [0] [] [])
      (.seq
        (.region [
          ⟨some 3, .mv (.t 0), none⟩,
          ⟨some 4, .agg [(.str [])] [(0, 1, (.t 3))], none⟩,
          ⟨some 5, .box (.t 4), none⟩,
          ⟨some 6, .mkIfc 3 (.t 5), none⟩,
          ⟨some 2, .mv (.t 6), none⟩] [2] [] [[0], [3], [4], [5]])
        .ret)),
  [.t 2]⟩

def l_errors_New : Lay := { rg := [(0, ([0], [])), (1, ([2], []))], dd := [(1, [[0], [3], [4], [5]])] }

/- laws.FnDParams -/
def c_laws_FnDParams : SFn := ⟨1,
    (.seq
      (.region [
        ⟨some 2, .mv (.k (.bool false)), none⟩] [0] [] [])
      (.seq
        (.seq
          (.region [
            ⟨some 9, .mv (.t 0), none⟩,
            ⟨some 10, .len 0 (.t 9), none⟩,
            ⟨some 11, .bin .gtr (.t 10) (.k (.int .i64 2147483647)), none⟩] [0, 11] [] [[], [9]])
          (.cond (.t 11)
            (.seq
              (.region [
                ⟨some 2, .mv (.k (.bool true)), none⟩] [2] [] [])
              .ret)
            .skip))
        (.seq
          (.seq
            (.region [
              ⟨some 12, .mv (.t 0), none⟩,
              ⟨some 13, .mkSl 1 1 [(.str [])] [(0, (.t 12))], none⟩,
              ⟨some 14, .call 10 [(.k (.int .i64 2000)), (.t 13)], none⟩,
              ⟨some 15, .un .not (.t 14), none⟩] [0, 15] [13] [[], [12], [13]])
            (.cond (.t 15)
              (.seq
                (.region [
                  ⟨some 16, .call 11 [], none⟩,
                  ⟨some 2, .mv (.t 16), none⟩] [2] [] [])
                .ret)
              .skip))
          (.seq
            (.region [
              ⟨some 18, .mv (.t 0), none⟩,
              ⟨some 19, .call 51 [(.t 18)], none⟩,
              ⟨some 17, .mv (.t 19), none⟩,
              ⟨some 20, .extr (.t 17) 0, none⟩,
              ⟨some 21, .extr (.t 17) 1, none⟩,
              ⟨some 3, .mv (.t 20), none⟩,
              ⟨some 4, .mv (.t 21), none⟩] [0, 3, 4] [] [[], [18], [19], [], [17], [20]])
            (.seq
              (.region [
                ⟨some 23, .mv (.t 0), none⟩,
                ⟨some 24, .call 52 [(.t 23)], none⟩,
                ⟨some 22, .mv (.t 24), none⟩,
                ⟨some 25, .extr (.t 22) 0, none⟩,
                ⟨some 26, .extr (.t 22) 1, none⟩,
                ⟨some 5, .mv (.t 25), none⟩,
                ⟨some 6, .mv (.t 26), none⟩] [3, 4, 5, 6] [] [[0], [23], [24], [], [22], [25]])
              (.seq
                (.region [
                  ⟨some 28, .call 51 [(.k (.str [97, 61, 98, 59, 32, 99, 61, 100, 59]))], none⟩,
                  ⟨some 27, .mv (.t 28), none⟩,
                  ⟨some 29, .extr (.t 27) 0, none⟩,
                  ⟨some 30, .extr (.t 27) 1, none⟩,
                  ⟨some 7, .mv (.t 29), none⟩,
                  ⟨some 8, .mv (.t 30), none⟩] [3, 4, 5, 6, 7, 8] [] [[], [28], [], [27], [29]])
                (.seq
                  (.region [
                    ⟨some 31, .mv (.t 4), none⟩,
                    ⟨some 32, .mv (.t 6), none⟩,
                    ⟨some 33, .eqB false (.t 31) (.t 32), none⟩,
                    ⟨some 34, .mv (.t 33), none⟩,
                    ⟨some 35, .mv (.t 4), some (34, true)⟩,
                    ⟨some 36, .un .not (.t 35), some (34, true)⟩,
                    ⟨some 37, .mv (.t 36), some (34, true)⟩,
                    ⟨some 38, .mv (.t 3), some (37, false)⟩,
                    ⟨some 39, .mv (.t 5), some (37, false)⟩,
                    ⟨some 40, .call 53 [(.t 38), (.t 39)], some (37, false)⟩,
                    ⟨some 41, .pick (.t 37) (.k (.bool true)) (.t 40), some (34, true)⟩,
                    ⟨some 42, .pick (.t 34) (.t 41) (.k (.bool false)), none⟩,
                    ⟨some 43, .mv (.t 42), none⟩,
                    ⟨some 44, .mv (.t 8), some (43, true)⟩,
                    ⟨some 45, .pick (.t 43) (.t 44) (.k (.bool false)), none⟩,
                    ⟨some 46, .mv (.t 45), none⟩,
                    ⟨some 47, .mv (.t 7), some (46, true)⟩,
                    ⟨some 48, .len 1 (.t 47), some (46, true)⟩,
                    ⟨some 49, .bin .eql (.t 48) (.k (.int .i64 2)), some (46, true)⟩,
                    ⟨some 50, .pick (.t 46) (.t 49) (.k (.bool false)), none⟩,
                    ⟨some 2, .mv (.t 50), none⟩] [2] [] [[], [6], [31, 32], [33], [4], [35], [36], [3], [5], [38, 39], [37, 40], [34, 41], [42], [8], [43, 44], [45], [7], [47], [48], [46, 49]])
                  .ret))))))),
  [.t 2]⟩

def l_laws_FnDParams : Lay := { rg := [(0, ([0], [])), (1, ([0, 11], [])), (2, ([2], [])), (3, ([0, 15], [13])), (4, ([2], [])), (5, ([0, 3, 4], [])), (6, ([3, 4, 5, 6], [])), (7, ([3, 4, 5, 6, 7, 8], [])), (8, ([2], []))], dd := [(1, [[], [9]]), (3, [[], [12], [13]]), (5, [[], [18], [19], [], [17], [20]]), (6, [[0], [23], [24], [], [22], [25]]), (7, [[], [28], [], [27], [29]]), (8, [[], [6], [31, 32], [33], [4], [35], [36], [3], [5], [38, 39], [37, 40], [34, 41], [42], [8], [43, 44], [45], [7], [47], [48], [46, 49]])] }

/- spec.DTags -/
def b_spec_DTags_1 : SCode :=
  (.seq
    (.seq
      (.region [
        ⟨some 35, .mv (.t 11), none⟩,
        ⟨some 36, .mv (.t 4), none⟩,
        ⟨some 37, .len 1 (.t 36), none⟩,
        ⟨some 38, .bin .lss (.t 35) (.t 37), none⟩,
        ⟨some 39, .mv (.t 38), none⟩,
        ⟨some 40, .mv (.t 4), some (39, true)⟩,
        ⟨some 41, .mv (.t 11), some (39, true)⟩,
        ⟨some 42, .iAddr 2 (.t 40) (.t 41), some (39, true)⟩,
        ⟨some 43, .fAddr 0 (.t 42), some (39, true)⟩,
        ⟨some 44, .load none (.t 43), some (39, true)⟩,
        ⟨some 45, .fAddr 0 (.t 10), some (39, true)⟩,
        ⟨some 46, .load none (.t 45), some (39, true)⟩,
        ⟨some 47, .bin .lss (.t 44) (.t 46), some (39, true)⟩,
        ⟨some 48, .pick (.t 39) (.t 47) (.k (.bool false)), none⟩] [4, 10, 11, 13, 14, 15, 48] [] [])
      (.cond (.t 48)
        .skip
        (.exit 2)))
    (.block 3
      (.region [
        ⟨some 49, .mv (.t 11), none⟩,
        ⟨some 50, .bin .add (.t 49) (.k (.int .i64 1)), none⟩,
        ⟨some 11, .mv (.t 50), none⟩] [4, 10, 11, 13, 14, 15] [] [[], [49]])))

def t_spec_DTags_2 : SCode :=
  (.seq
    (.seq
      (.region [
        ⟨some 51, .mv (.t 11), none⟩,
        ⟨some 52, .mv (.t 4), none⟩,
        ⟨some 53, .len 1 (.t 52), none⟩,
        ⟨some 54, .bin .lss (.t 51) (.t 53), none⟩,
        ⟨some 55, .mv (.t 54), none⟩,
        ⟨some 56, .mv (.t 4), some (55, true)⟩,
        ⟨some 57, .mv (.t 11), some (55, true)⟩,
        ⟨some 58, .iAddr 2 (.t 56) (.t 57), some (55, true)⟩,
        ⟨some 59, .fAddr 0 (.t 58), some (55, true)⟩,
        ⟨some 60, .load none (.t 59), some (55, true)⟩,
        ⟨some 61, .fAddr 0 (.t 10), some (55, true)⟩,
        ⟨some 62, .load none (.t 61), some (55, true)⟩,
        ⟨some 63, .bin .eql (.t 60) (.t 62), some (55, true)⟩,
        ⟨some 64, .pick (.t 55) (.t 63) (.k (.bool false)), none⟩] [4, 10, 11, 13, 14, 15, 64] [] [])
      (.cond (.t 64)
        (.seq
          (.region [
            ⟨some 2, .mv (.k .nilS), none⟩,
            ⟨some 3, .mv (.k (.bool false)), none⟩] [2, 3] [] [])
          .ret)
        .skip))
    (.seq
    (.region [
      ⟨some 65, .mkSl 2 0 [(.str []), (.str [])] [], none⟩,
      ⟨some 66, .fl (.mv (.t 4)), none⟩,
      ⟨some 67, .fl (.mv (.t 11)), none⟩,
      ⟨some 68, .fl (.slSl 2 (.t 66) none (some (.t 67))), none⟩,
      ⟨some 69, .app 2 32 (.t 65) (.t 68), none⟩,
      ⟨some 70, .fl (.load (some 2) (.t 10)), none⟩,
      ⟨some 71, .fl (.mkSlF 2 1 [(.str []), (.str [])] [(0, (.t 70))]), none⟩,
      ⟨some 72, .app 2 32 (.t 69) (.t 71), none⟩,
      ⟨some 73, .fl (.mv (.t 4)), none⟩,
      ⟨some 74, .fl (.mv (.t 11)), none⟩,
      ⟨some 75, .fl (.slSl 2 (.t 73) (some (.t 74)) none), none⟩,
      ⟨some 76, .app 2 32 (.t 72) (.t 75), none⟩,
      ⟨some 4, .mv (.t 76), none⟩] [4, 13, 14, 15] [] [])
    (.ghost [.frz 72, .frz 76])))

def t_spec_DTags_3 : SCode :=
  (.region [
    ⟨some 77, .bin .add (.t 15) (.k (.int .i64 1)), none⟩,
    ⟨some 15, .mv (.t 77), none⟩] [4, 13, 14, 15] [] [])

def b_spec_DTags_4 : SCode :=
  (.seq
    (.region [
      ⟨some 16, .bin .lss (.t 15) (.t 14), none⟩] [4, 13, 14, 15, 16] [] [])
    (.seq
      (.cond (.t 16)
        .skip
        (.exit 0))
      (.seq
        (.block 1
          (.seq
            (.region [
              ⟨some 17, .iAddr 1 (.t 13) (.t 15), none⟩,
              ⟨some 18, .load none (.t 17), none⟩,
              ⟨some 6, .mv (.t 18), none⟩] [4, 6, 13, 14, 15] [] [[], [17]])
            (.seq
              (.region [
                ⟨some 20, .mv (.t 6), none⟩,
                ⟨some 21, .call 2 [(.t 20), (.k (.int .u8 61))], none⟩,
                ⟨some 19, .mv (.t 21), none⟩,
                ⟨some 22, .extr (.t 19) 0, none⟩,
                ⟨some 23, .extr (.t 19) 1, none⟩,
                ⟨some 24, .extr (.t 19) 2, none⟩,
                ⟨some 7, .mv (.t 22), none⟩,
                ⟨some 8, .mv (.t 23), none⟩,
                ⟨some 9, .mv (.t 24), none⟩] [4, 6, 7, 8, 9, 13, 14, 15] [] [[], [20], [21], [], [], [19], [22], [23]])
              (.seq
                (.seq
                  (.region [
                    ⟨some 25, .mv (.t 9), none⟩,
                    ⟨some 26, .un .not (.t 25), none⟩] [4, 6, 7, 8, 13, 14, 15, 26] [] [[9]])
                  (.cond (.t 26)
                    (.seq
                      (.seq
                        (.region [
                          ⟨some 27, .mv (.t 6), none⟩,
                          ⟨some 28, .call 3 [(.t 27)], none⟩,
                          ⟨some 29, .bin .neq (.t 28) (.k (.str [])), none⟩] [4, 13, 14, 15, 29] [] [[6], [27]])
                        (.cond (.t 29)
                          (.seq
                            (.region [
                              ⟨some 2, .mv (.k .nilS), none⟩,
                              ⟨some 3, .mv (.k (.bool false)), none⟩] [2, 3] [] [])
                            .ret)
                          .skip))
                      (.exit 1))
                    .skip))
                (.seq
                  (.seq
                  (.region [
                    ⟨some 30, .mv (.t 7), none⟩,
                    ⟨some 31, .call 3 [(.t 30)], none⟩,
                    ⟨some 32, .mv (.t 8), none⟩,
                    ⟨some 33, .call 3 [(.t 32)], none⟩,
                    ⟨some 34, .agg [(.str []), (.str [])] [(0, 1, (.t 31)), (1, 1, (.t 33))], none⟩,
                    ⟨some 10, .alloc [(.str []), (.str [])], none⟩,
                    ⟨none, .store 2 (.t 10) (.t 34), none⟩] [4, 10, 13, 14, 15] [] [[7], [30], [8], [32], [31, 33]])
                  (.ghost [.frz 10]))
                  (.seq
                    (.region [
                      ⟨some 11, .mv (.k (.int .i64 0)), none⟩] [4, 10, 11, 13, 14, 15] [] [])
                    (.seq
                      (.block 2
                        (.loop [4, 10, 11, 13, 14, 15]
                          b_spec_DTags_1))
                      t_spec_DTags_2)))))))
        t_spec_DTags_3)))

def t_spec_DTags_5 : SCode :=
  (.seq
    (.region [
      ⟨some 78, .mv (.t 4), none⟩,
      ⟨some 2, .mv (.t 78), none⟩,
      ⟨some 3, .mv (.k (.bool true)), none⟩] [2, 3] [] [[4], [78]])
    .ret)

def c_spec_DTags : SFn := ⟨1,
    (.seq
      (.region [
        ⟨some 2, .mv (.k .nilS), none⟩,
        ⟨some 3, .mv (.k (.bool false)), none⟩] [0] [] [[2]])
      (.seq
        (.region [
          ⟨some 4, .mv (.k .nilS), none⟩] [0, 4] [] [])
        (.seq
          (.seq
            (.region [
              ⟨some 12, .mv (.t 0), none⟩,
              ⟨some 13, .call 54 [(.t 12), (.k (.int .u8 59))], none⟩,
              ⟨some 14, .len 1 (.t 13), none⟩,
              ⟨some 15, .mv (.k (.int .i64 0)), none⟩] [4, 13, 14, 15] [] [[0], [12]])
            (.block 0
              (.loop [4, 13, 14, 15]
                b_spec_DTags_4)))
          t_spec_DTags_5))),
  [.t 2, .t 3]⟩

def l_spec_DTags : Lay := { rg := [(0, ([0], [])), (1, ([0, 4], [])), (2, ([4, 13, 14, 15], [])), (3, ([4, 13, 14, 15, 16], [])), (4, ([4, 6, 13, 14, 15], [])), (5, ([4, 6, 7, 8, 9, 13, 14, 15], [])), (6, ([4, 6, 7, 8, 13, 14, 15, 26], [])), (7, ([4, 13, 14, 15, 29], [])), (8, ([2, 3], [])), (9, ([4, 10, 13, 14, 15], [])), (10, ([4, 10, 11, 13, 14, 15], [])), (11, ([4, 10, 11, 13, 14, 15, 48], [])), (12, ([4, 10, 11, 13, 14, 15], [])), (13, ([4, 10, 11, 13, 14, 15, 64], [])), (14, ([2, 3], [])), (15, ([4, 13, 14, 15], [])), (16, ([4, 13, 14, 15], [])), (17, ([2, 3], [])), (1000003, ([4, 13, 14, 15], [])), (1000011, ([4, 10, 11, 13, 14, 15], []))], dd := [(0, [[2]]), (2, [[0], [12]]), (4, [[], [17]]), (5, [[], [20], [21], [], [], [19], [22], [23]]), (6, [[9]]), (7, [[6], [27]]), (9, [[7], [30], [8], [32], [31, 33]]), (12, [[], [49]]), (17, [[4], [78]])], gh := [(9, [.frz 10]), (15, [.frz 72, .frz 76])], fz := [71], fl := [66, 67, 68, 70, 71, 73, 74, 75] }

end Wax

