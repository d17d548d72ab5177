/- The machine by which the functions are read, and what is proved of them (part 5): no premise. -/
import Derived.Test.YtflhiclingkonaaDoorWd
set_option linter.all false
/- Functions as the abstract machine has them. -/
namespace Wax
open Go (IntKind)

/- dkim.zzReplaceAll -/
def b_dkim_zzReplaceAll_1 : SCode :=
  (.seq
    (.region [
      ⟨some 19, .nextS (.t 18), none⟩,
      ⟨some 20, .extr (.t 19) 0, none⟩] [0, 2, 7, 8, 18, 19, 20] [] [])
    (.seq
      (.cond (.t 20)
        .skip
        (.exit 0))
      (.block 1
        (.seq
          (.region [
            ⟨some 21, .extr (.t 19) 1, none⟩,
            ⟨some 9, .mv (.t 21), none⟩] [0, 2, 7, 8, 9, 18] [] [[19]])
          (.seq
            (.region [
              ⟨some 22, .mv (.t 9), none⟩,
              ⟨some 23, .bin .gtr (.t 22) (.k (.int .i64 0)), none⟩] [0, 2, 7, 8, 9, 18, 23] [] [])
            (.cond (.t 23)
              (.seq
                (.region [
                  ⟨some 24, .mv (.t 7), none⟩,
                  ⟨some 25, .mv (.t 0), none⟩,
                  ⟨some 26, .mv (.t 8), none⟩,
                  ⟨some 27, .mv (.t 9), none⟩,
                  ⟨some 28, .slStr (.t 25) (some (.t 26)) (some (.t 27)), none⟩,
                  ⟨some 29, .app 1 1 (.t 24) (.t 28), none⟩,
                  ⟨some 30, .mv (.t 2), none⟩,
                  ⟨some 31, .app 1 1 (.t 29) (.t 30), none⟩,
                  ⟨some 7, .mv (.t 31), none⟩] [0, 2, 7, 9, 18] [] [[], [], [8], [], [25, 26, 27], [24, 28], [], [29, 30]])
                (.region [
                  ⟨some 32, .mv (.t 9), none⟩,
                  ⟨some 8, .mv (.t 32), none⟩] [0, 2, 7, 8, 18] [] [[9]]))
              .skip))))))

def t_dkim_zzReplaceAll_2 : SCode :=
  (.seq
    (.seq
      (.region [
        ⟨some 33, .mv (.t 0), none⟩,
        ⟨some 34, .len 0 (.t 33), none⟩,
        ⟨some 35, .bin .gtr (.t 34) (.k (.int .i64 0)), none⟩] [0, 2, 7, 8, 35] [18] [[], [33]])
      (.cond (.t 35)
        (.region [
          ⟨some 36, .mv (.t 7), none⟩,
          ⟨some 37, .mv (.t 0), none⟩,
          ⟨some 38, .mv (.t 8), none⟩,
          ⟨some 39, .slStr (.t 37) (some (.t 38)) none, none⟩,
          ⟨some 40, .app 1 1 (.t 36) (.t 39), none⟩,
          ⟨some 41, .mv (.t 2), none⟩,
          ⟨some 42, .app 1 1 (.t 40) (.t 41), none⟩,
          ⟨some 7, .mv (.t 42), none⟩] [7] [] [[], [0], [8], [37, 38], [36, 39], [2], [40, 41]])
        .skip))
    (.seq
      (.region [
        ⟨some 43, .mv (.t 7), none⟩,
        ⟨some 44, .cBytesStr (.t 43), none⟩,
        ⟨some 6, .mv (.t 44), none⟩] [6] [16, 29, 31, 40, 42] [[7], [43]])
      .ret))

def b_dkim_zzReplaceAll_3 : SCode :=
  (.block 3
    (.seq
      (.region [
        ⟨some 45, .mv (.t 0), none⟩,
        ⟨some 46, .mv (.t 1), none⟩,
        ⟨some 47, .call 22 [(.t 45), (.t 46)], none⟩,
        ⟨some 10, .mv (.t 47), none⟩] [0, 1, 2, 7, 10] [] [[], [], [45, 46]])
      (.seq
        (.seq
          (.region [
            ⟨some 48, .mv (.t 10), none⟩,
            ⟨some 49, .bin .lss (.t 48) (.k (.int .i64 0)), none⟩] [0, 1, 2, 7, 10, 49] [] [])
          (.cond (.t 49)
            (.seq
              (.region [
                ⟨some 50, .mv (.t 7), none⟩,
                ⟨some 51, .mv (.t 0), none⟩,
                ⟨some 52, .app 1 1 (.t 50) (.t 51), none⟩,
                ⟨some 53, .cBytesStr (.t 52), none⟩,
                ⟨some 6, .mv (.t 53), none⟩] [6] [52, 58, 60] [[7], [0], [50, 51], [52]])
              .ret)
            .skip))
        (.seq
          (.region [
            ⟨some 54, .mv (.t 7), none⟩,
            ⟨some 55, .mv (.t 0), none⟩,
            ⟨some 56, .mv (.t 10), none⟩,
            ⟨some 57, .slStr (.t 55) none (some (.t 56)), none⟩,
            ⟨some 58, .app 1 1 (.t 54) (.t 57), none⟩,
            ⟨some 59, .mv (.t 2), none⟩,
            ⟨some 60, .app 1 1 (.t 58) (.t 59), none⟩,
            ⟨some 7, .mv (.t 60), none⟩] [0, 1, 2, 7, 10] [] [[], [], [], [55, 56], [54, 57], [], [58, 59]])
          (.region [
            ⟨some 61, .mv (.t 0), none⟩,
            ⟨some 62, .mv (.t 10), none⟩,
            ⟨some 63, .mv (.t 1), none⟩,
            ⟨some 64, .len 0 (.t 63), none⟩,
            ⟨some 65, .bin .add (.t 62) (.t 64), none⟩,
            ⟨some 66, .slStr (.t 61) (some (.t 65)) none, none⟩,
            ⟨some 0, .mv (.t 66), none⟩] [0, 1, 2, 7] [] [[], [10], [], [63], [62, 64], [61, 65]])))))

def t_dkim_zzReplaceAll_4 : SCode :=
  (.block 2
    (.loop [0, 1, 2, 7]
      b_dkim_zzReplaceAll_3))

def c_dkim_zzReplaceAll : SFn := ⟨3,
    (.seq
      (.region [
        ⟨some 6, .mv (.k (.str [])), none⟩] [0, 1, 2] [] [])
      (.seq
        (.region [
          ⟨some 7, .mv (.k .nilS), none⟩] [0, 1, 2, 7] [] [])
        (.seq
          (.seq
            (.region [
              ⟨some 11, .mv (.t 1), none⟩,
              ⟨some 12, .len 0 (.t 11), none⟩,
              ⟨some 13, .bin .eql (.t 12) (.k (.int .i64 0)), none⟩] [0, 1, 2, 7, 13] [] [[], [11]])
            (.cond (.t 13)
              (.seq
                (.region [
                  ⟨some 14, .mv (.t 7), none⟩,
                  ⟨some 15, .mv (.t 2), none⟩,
                  ⟨some 16, .app 1 1 (.t 14) (.t 15), none⟩,
                  ⟨some 7, .mv (.t 16), none⟩] [0, 2, 7] [] [[], [], [14, 15]])
                (.seq
                  (.region [
                    ⟨some 8, .mv (.k (.int .i64 0)), none⟩] [0, 2, 7, 8] [] [])
                  (.seq
                    (.seq
                      (.region [
                        ⟨some 17, .mv (.t 0), none⟩,
                        ⟨some 18, .rangeS (.t 17), none⟩] [0, 2, 7, 8, 18] [] [])
                      (.block 0
                        (.loop [0, 2, 7, 8, 18]
                          b_dkim_zzReplaceAll_1)))
                    t_dkim_zzReplaceAll_2)))
              .skip))
          t_dkim_zzReplaceAll_4))),
  [.t 6]⟩

def l_dkim_zzReplaceAll : Lay := { rg := [(0, ([0, 1, 2], [])), (1, ([0, 1, 2, 7], [])), (2, ([0, 1, 2, 7, 13], [])), (3, ([0, 2, 7], [])), (4, ([0, 2, 7, 8], [])), (5, ([0, 2, 7, 8, 18], [])), (6, ([0, 2, 7, 8, 18, 19, 20], [])), (7, ([0, 2, 7, 8, 9, 18], [])), (8, ([0, 2, 7, 8, 9, 18, 23], [])), (9, ([0, 2, 7, 9, 18], [])), (10, ([0, 2, 7, 8, 18], [])), (11, ([0, 2, 7, 8, 35], [18])), (12, ([7], [])), (13, ([6], [16, 29, 31, 40, 42])), (14, ([0, 1, 2, 7, 10], [])), (15, ([0, 1, 2, 7, 10, 49], [])), (16, ([6], [52, 58, 60])), (17, ([0, 1, 2, 7, 10], [])), (18, ([0, 1, 2, 7], [])), (1000006, ([0, 2, 7, 8, 18], [])), (1000014, ([0, 1, 2, 7], []))], dd := [(2, [[], [11]]), (3, [[], [], [14, 15]]), (7, [[19]]), (9, [[], [], [8], [], [25, 26, 27], [24, 28], [], [29, 30]]), (10, [[9]]), (11, [[], [33]]), (12, [[], [0], [8], [37, 38], [36, 39], [2], [40, 41]]), (13, [[7], [43]]), (14, [[], [], [45, 46]]), (16, [[7], [0], [50, 51], [52]]), (17, [[], [], [], [55, 56], [54, 57], [], [58, 59]]), (18, [[], [10], [], [63], [62, 64], [61, 65]])] }

/- dkim.zzDecode -/
def b_dkim_zzDecode_1 : SCode :=
  (.seq
    (.seq
      (.region [
        ⟨some 14, .mv (.t 6), none⟩,
        ⟨some 15, .mv (.t 0), none⟩,
        ⟨some 16, .len 0 (.t 15), none⟩,
        ⟨some 17, .bin .lss (.t 14) (.t 16), none⟩] [0, 4, 5, 6, 17] [] [[], [], [15]])
      (.cond (.t 17)
        .skip
        (.exit 0)))
    (.seq
      (.block 1
        (.seq
          (.region [
            ⟨some 20, .mv (.t 0), none⟩,
            ⟨some 21, .mv (.t 6), none⟩,
            ⟨some 22, .iStr (.t 20) (.t 21), none⟩,
            ⟨some 23, .bin .neq (.t 22) (.k (.int .u8 13)), none⟩,
            ⟨some 24, .mv (.t 23), none⟩,
            ⟨some 25, .mv (.t 0), some (24, true)⟩,
            ⟨some 26, .mv (.t 6), some (24, true)⟩,
            ⟨some 27, .iStr (.t 25) (.t 26), some (24, true)⟩,
            ⟨some 28, .bin .neq (.t 27) (.k (.int .u8 10)), some (24, true)⟩,
            ⟨some 29, .pick (.t 24) (.t 28) (.k (.bool false)), none⟩] [0, 4, 5, 6, 29] [] [[], [], [20, 21], [22], [23], [], [], [25, 26], [27]])
          (.cond (.t 29)
            (.region [
              ⟨some 30, .mv (.t 5), none⟩,
              ⟨some 31, .mv (.t 0), none⟩,
              ⟨some 32, .mv (.t 6), none⟩,
              ⟨some 33, .iStr (.t 31) (.t 32), none⟩,
              ⟨some 34, .mkSl 1 1 [(.int .u8 0)] [(0, (.t 33))], none⟩,
              ⟨some 35, .app 1 1 (.t 30) (.t 34), none⟩,
              ⟨some 5, .mv (.t 35), none⟩] [0, 4, 5, 6] [34] [[], [], [], [31, 32], [33], [30, 34]])
            .skip)))
      (.region [
        ⟨some 18, .mv (.t 6), none⟩,
        ⟨some 19, .bin .add (.t 18) (.k (.int .i64 1)), none⟩,
        ⟨some 6, .mv (.t 19), none⟩] [0, 4, 5, 6] [] [[], [18]])))

def b_dkim_zzDecode_2 : SCode :=
  (.seq
    (.seq
      (.region [
        ⟨some 49, .mv (.t 12), none⟩,
        ⟨some 50, .bin .lss (.t 49) (.k (.int .i64 64)), none⟩] [4, 5, 7, 8, 9, 10, 11, 12, 50] [] [])
      (.cond (.t 50)
        .skip
        (.exit 6)))
    (.seq
      (.block 7
        (.seq
          (.region [
            ⟨some 53, .mv (.t 12), none⟩,
            ⟨some 54, .iStr (.k (.str [65, 66, 67, 68, 69, 70, 71, 72, 73, 74, 75, 76, 77, 78, 79, 80, 81, 82, 83, 84, 85, 86, 87, 88, 89, 90, 97, 98, 99, 100, 101, 102, 103, 104, 105, 106, 107, 108, 109, 110, 111, 112, 113, 114, 115, 116, 117, 118, 119, 120, 121, 122, 48, 49, 50, 51, 52, 53, 54, 55, 56, 57, 43, 47])) (.t 53), none⟩,
            ⟨some 55, .mv (.t 5), none⟩,
            ⟨some 56, .mv (.t 10), none⟩,
            ⟨some 57, .iAddr 1 (.t 55) (.t 56), none⟩,
            ⟨some 58, .load none (.t 57), none⟩,
            ⟨some 59, .bin .eql (.t 54) (.t 58), none⟩] [4, 5, 7, 8, 9, 10, 11, 12, 59] [] [])
          (.cond (.t 59)
            (.region [
              ⟨some 60, .mv (.t 12), none⟩,
              ⟨some 11, .mv (.t 60), none⟩] [4, 5, 7, 8, 9, 10, 11, 12] [] [])
            .skip)))
      (.region [
        ⟨some 51, .mv (.t 12), none⟩,
        ⟨some 52, .bin .add (.t 51) (.k (.int .i64 1)), none⟩,
        ⟨some 12, .mv (.t 52), none⟩] [4, 5, 7, 8, 9, 10, 11, 12] [] [[], [51]])))

def t_dkim_zzDecode_3 : SCode :=
  (.seq
    (.seq
      (.region [
        ⟨some 61, .mv (.t 11), none⟩,
        ⟨some 62, .bin .lss (.t 61) (.k (.int .i64 0)), none⟩] [4, 5, 7, 8, 9, 10, 11, 62] [] [])
      (.cond (.t 62)
        (.seq
          (.seq
            (.region [
              ⟨some 63, .mv (.t 5), none⟩,
              ⟨some 64, .mv (.t 10), none⟩,
              ⟨some 65, .iAddr 1 (.t 63) (.t 64), none⟩,
              ⟨some 66, .load none (.t 65), none⟩,
              ⟨some 67, .bin .neq (.t 66) (.k (.int .u8 61)), none⟩,
              ⟨some 68, .mv (.t 67), none⟩,
              ⟨some 69, .mv (.t 10), some (68, false)⟩,
              ⟨some 70, .bin .lss (.t 69) (.k (.int .i64 2)), some (68, false)⟩,
              ⟨some 71, .pick (.t 68) (.k (.bool true)) (.t 70), none⟩,
              ⟨some 72, .mv (.t 71), none⟩,
              ⟨some 73, .mv (.t 5), some (72, false)⟩,
              ⟨some 74, .len 1 (.t 73), some (72, false)⟩,
              ⟨some 75, .bin .gtr (.t 74) (.k (.int .i64 4)), some (72, false)⟩,
              ⟨some 76, .pick (.t 72) (.k (.bool true)) (.t 75), none⟩,
              ⟨some 77, .mv (.t 76), none⟩,
              ⟨some 78, .mv (.t 10), some (77, false)⟩,
              ⟨some 79, .bin .eql (.t 78) (.k (.int .i64 2)), some (77, false)⟩,
              ⟨some 80, .mv (.t 79), some (77, false)⟩,
              ⟨some 81, .mv (.t 5), some (80, true)⟩,
              ⟨some 82, .iAddr 1 (.t 81) (.k (.int .i64 3)), some (80, true)⟩,
              ⟨some 83, .load none (.t 82), some (80, true)⟩,
              ⟨some 84, .bin .neq (.t 83) (.k (.int .u8 61)), some (80, true)⟩,
              ⟨some 85, .pick (.t 80) (.t 84) (.k (.bool false)), some (77, false)⟩,
              ⟨some 86, .pick (.t 77) (.k (.bool true)) (.t 85), none⟩] [4, 5, 7, 8, 9, 10, 86] [] [[], [], [63, 64], [65], [66], [67], [], [69], [68, 70], [71], [], [73], [74], [72, 75], [76], [], [78], [79], [], [81], [82], [83], [80, 84]])
            (.cond (.t 86)
              (.seq
                (.region [
                  ⟨some 87, .mv (.t 4), none⟩,
                  ⟨some 2, .mv (.k .nilS), none⟩,
                  ⟨some 3, .mv (.t 87), none⟩] [2, 3] [] [[4]])
                .ret)
              .skip))
          (.seq
            (.region [
              ⟨some 88, .mv (.t 9), none⟩,
              ⟨some 89, .mv (.t 10), none⟩,
              ⟨some 90, .mn (.t 88) (.t 89), none⟩,
              ⟨some 9, .mv (.t 90), none⟩] [4, 5, 7, 8, 9, 10] [] [[], [], [88, 89]])
            (.region [
              ⟨some 11, .mv (.k (.int .i64 0)), none⟩] [4, 5, 7, 8, 9, 10, 11] [] [])))
        (.seq
          (.region [
            ⟨some 91, .mv (.t 9), none⟩,
            ⟨some 92, .bin .lss (.t 91) (.k (.int .i64 4)), none⟩] [4, 5, 7, 8, 9, 10, 11, 92] [] [])
          (.cond (.t 92)
            (.seq
              (.region [
                ⟨some 93, .mv (.t 4), none⟩,
                ⟨some 2, .mv (.k .nilS), none⟩,
                ⟨some 3, .mv (.t 93), none⟩] [2, 3] [] [[4]])
              .ret)
            .skip))))
    (.region [
      ⟨some 94, .mv (.t 8), none⟩,
      ⟨some 95, .bin .shl (.t 94) (.k (.int .u64 6)), none⟩,
      ⟨some 96, .mv (.t 11), none⟩,
      ⟨some 97, .cInt .u64 (.t 96), none⟩,
      ⟨some 98, .bin .or (.t 95) (.t 97), none⟩,
      ⟨some 8, .mv (.t 98), none⟩] [4, 5, 7, 8, 9, 10] [] [[], [94], [11], [96], [95, 97]]))

def t_dkim_zzDecode_4 : SCode :=
  (.region [
    ⟨some 47, .mv (.t 10), none⟩,
    ⟨some 48, .bin .add (.t 47) (.k (.int .i64 1)), none⟩,
    ⟨some 10, .mv (.t 48), none⟩] [4, 5, 7, 8, 9, 10] [] [[], [47]])

def b_dkim_zzDecode_5 : SCode :=
  (.seq
    (.seq
      (.region [
        ⟨some 45, .mv (.t 10), none⟩,
        ⟨some 46, .bin .lss (.t 45) (.k (.int .i64 4)), none⟩] [4, 5, 7, 8, 9, 10, 46] [] [])
      (.cond (.t 46)
        .skip
        (.exit 4)))
    (.seq
      (.block 5
        (.seq
          (.region [
            ⟨some 11, .mv (.k (.int .i64 (-1))), none⟩] [4, 5, 7, 8, 9, 10, 11] [] [])
          (.seq
            (.seq
              (.region [
                ⟨some 12, .mv (.k (.int .i64 0)), none⟩] [4, 5, 7, 8, 9, 10, 11, 12] [] [])
              (.block 6
                (.loop [4, 5, 7, 8, 9, 10, 11, 12]
                  b_dkim_zzDecode_2)))
            t_dkim_zzDecode_3)))
      t_dkim_zzDecode_4))

def t_dkim_zzDecode_6 : SCode :=
  (.seq
    (.region [
      ⟨some 99, .mv (.t 7), none⟩,
      ⟨some 100, .mv (.t 8), none⟩,
      ⟨some 101, .bin .shr (.t 100) (.k (.int .u64 16)), none⟩,
      ⟨some 102, .cInt .u8 (.t 101), none⟩,
      ⟨some 103, .mv (.t 8), none⟩,
      ⟨some 104, .bin .shr (.t 103) (.k (.int .u64 8)), none⟩,
      ⟨some 105, .cInt .u8 (.t 104), none⟩,
      ⟨some 106, .mv (.t 8), none⟩,
      ⟨some 107, .cInt .u8 (.t 106), none⟩,
      ⟨some 108, .mkSl 1 3 [(.int .u8 0)] [(0, (.t 102)), (1, (.t 105)), (2, (.t 107))], none⟩,
      ⟨some 109, .mv (.t 9), none⟩,
      ⟨some 110, .bin .sub (.t 109) (.k (.int .i64 1)), none⟩,
      ⟨some 111, .slSl 1 (.t 108) none (some (.t 110)), none⟩,
      ⟨some 112, .app 1 1 (.t 99) (.t 111), none⟩,
      ⟨some 7, .mv (.t 112), none⟩] [4, 5, 7] [108] [[], [], [100], [101], [], [103], [104], [8], [106], [102, 105, 107], [9], [109], [108, 110], [99, 111]])
    (.region [
      ⟨some 113, .mv (.t 5), none⟩,
      ⟨some 114, .slSl 1 (.t 113) (some (.k (.int .i64 4))) none, none⟩,
      ⟨some 5, .mv (.t 114), none⟩] [4, 5, 7] [] [[], [113]]))

def b_dkim_zzDecode_7 : SCode :=
  (.seq
    (.seq
      (.region [
        ⟨some 42, .mv (.t 5), none⟩,
        ⟨some 43, .len 1 (.t 42), none⟩,
        ⟨some 44, .bin .gtr (.t 43) (.k (.int .i64 0)), none⟩] [4, 5, 7, 44] [] [[], [42]])
      (.cond (.t 44)
        .skip
        (.exit 2)))
    (.block 3
      (.seq
        (.region [
          ⟨some 8, .mv (.k (.int .u64 0)), none⟩] [4, 5, 7, 8] [] [])
        (.seq
          (.region [
            ⟨some 9, .mv (.k (.int .i64 4)), none⟩] [4, 5, 7, 8, 9] [] [])
          (.seq
            (.seq
              (.region [
                ⟨some 10, .mv (.k (.int .i64 0)), none⟩] [4, 5, 7, 8, 9, 10] [] [])
              (.block 4
                (.loop [4, 5, 7, 8, 9, 10]
                  b_dkim_zzDecode_5)))
            t_dkim_zzDecode_6)))))

def t_dkim_zzDecode_8 : SCode :=
  (.seq
    (.region [
      ⟨some 115, .mv (.t 7), none⟩,
      ⟨some 2, .mv (.t 115), none⟩,
      ⟨some 3, .mv (.k .nilI), none⟩] [2, 3] [] [[7], [115]])
    .ret)

def t_dkim_zzDecode_9 : SCode :=
  (.seq
    (.seq
      (.seq
      (.region [
        ⟨some 36, .mv (.t 5), none⟩,
        ⟨some 37, .len 1 (.t 36), none⟩,
        ⟨some 38, .bin .rem (.t 37) (.k (.int .i64 4)), none⟩,
        ⟨some 39, .bin .neq (.t 38) (.k (.int .i64 0)), none⟩] [4, 5, 39] [] [[], [36], [37]])
      (.ghost [.frz 35]))
      (.cond (.t 39)
        (.seq
          (.region [
            ⟨some 40, .mv (.t 4), none⟩,
            ⟨some 2, .mv (.k .nilS), none⟩,
            ⟨some 3, .mv (.t 40), none⟩] [2, 3] [] [[4]])
          .ret)
        .skip))
    (.seq
      (.seq
      (.region [
        ⟨some 41, .mkSl 1 0 [(.int .u8 0)] [], none⟩,
        ⟨some 7, .mv (.t 41), none⟩] [4, 5, 7] [] [])
      (.ghost [.ren 41 112]))
      (.seq
        (.block 2
          (.loop [4, 5, 7]
            b_dkim_zzDecode_7))
        t_dkim_zzDecode_8)))

def c_dkim_zzDecode : SFn := ⟨1,
    (.seq
      (.region [
        ⟨some 2, .mv (.k .nilS), none⟩,
        ⟨some 3, .mv (.k .nilI), none⟩] [0] [] [[2]])
      (.seq
        (.region [
          ⟨some 13, .call 50 [(.k (.str [105, 108, 108, 101, 103, 97, 108, 32, 98, 97, 115, 101, 54, 52, 32, 100, 97, 116, 97]))], none⟩,
          ⟨some 4, .mv (.t 13), none⟩] [0, 4] [] [])
        (.seq
          (.region [
            ⟨some 5, .mv (.k .nilS), none⟩] [0, 4, 5] [] [])
          (.seq
            (.seq
              (.region [
                ⟨some 6, .mv (.k (.int .i64 0)), none⟩] [0, 4, 5, 6] [] [])
              (.block 0
                (.loop [0, 4, 5, 6]
                  b_dkim_zzDecode_1)))
            t_dkim_zzDecode_9)))),
  [.t 2, .t 3]⟩

def l_dkim_zzDecode : Lay := { rg := [(0, ([0], [])), (1, ([0, 4], [])), (2, ([0, 4, 5], [])), (3, ([0, 4, 5, 6], [])), (4, ([0, 4, 5, 6, 17], [])), (5, ([0, 4, 5, 6], [])), (6, ([0, 4, 5, 6, 29], [])), (7, ([0, 4, 5, 6], [34])), (8, ([4, 5, 39], [])), (9, ([2, 3], [])), (10, ([4, 5, 7], [])), (11, ([4, 5, 7, 44], [])), (12, ([4, 5, 7, 8], [])), (13, ([4, 5, 7, 8, 9], [])), (14, ([4, 5, 7, 8, 9, 10], [])), (15, ([4, 5, 7, 8, 9, 10, 46], [])), (16, ([4, 5, 7, 8, 9, 10], [])), (17, ([4, 5, 7, 8, 9, 10, 11], [])), (18, ([4, 5, 7, 8, 9, 10, 11, 12], [])), (19, ([4, 5, 7, 8, 9, 10, 11, 12, 50], [])), (20, ([4, 5, 7, 8, 9, 10, 11, 12], [])), (21, ([4, 5, 7, 8, 9, 10, 11, 12, 59], [])), (22, ([4, 5, 7, 8, 9, 10, 11, 12], [])), (23, ([4, 5, 7, 8, 9, 10, 11, 62], [])), (24, ([4, 5, 7, 8, 9, 10, 86], [])), (25, ([2, 3], [])), (26, ([4, 5, 7, 8, 9, 10], [])), (27, ([4, 5, 7, 8, 9, 10, 11], [])), (28, ([4, 5, 7, 8, 9, 10, 11, 92], [])), (29, ([2, 3], [])), (30, ([4, 5, 7, 8, 9, 10], [])), (31, ([4, 5, 7], [108])), (32, ([4, 5, 7], [])), (33, ([2, 3], [])), (1000004, ([0, 4, 5, 6], [])), (1000011, ([4, 5, 7], [])), (1000015, ([4, 5, 7, 8, 9, 10], [])), (1000019, ([4, 5, 7, 8, 9, 10, 11, 12], []))], dd := [(0, [[2]]), (4, [[], [], [15]]), (5, [[], [18]]), (6, [[], [], [20, 21], [22], [23], [], [], [25, 26], [27]]), (7, [[], [], [], [31, 32], [33], [30, 34]]), (8, [[], [36], [37]]), (9, [[4]]), (11, [[], [42]]), (16, [[], [47]]), (20, [[], [51]]), (24, [[], [], [63, 64], [65], [66], [67], [], [69], [68, 70], [71], [], [73], [74], [72, 75], [76], [], [78], [79], [], [81], [82], [83], [80, 84]]), (25, [[4]]), (26, [[], [], [88, 89]]), (29, [[4]]), (30, [[], [94], [11], [96], [95, 97]]), (31, [[], [], [100], [101], [], [103], [104], [8], [106], [102, 105, 107], [9], [109], [108, 110], [99, 111]]), (32, [[], [113]]), (33, [[7], [115]])], gh := [(8, [.frz 35]), (10, [.ren 41 112])] }

/- (*errors.errorString).Error -/
def c_errors_errorString_Error : SFn := ⟨1,
    (.seq
      (.region [
        ⟨some 2, .mv (.k (.str [])), none⟩] [0] [] [])
      (.seq
        (.region [
          ⟨some 3, .mv (.t 0), none⟩,
          ⟨some 4, .chk (.t 3), none⟩,
          ⟨some 5, .fAddr 0 (.t 4), none⟩,
          ⟨some 6, .load none (.t 5), none⟩,
          ⟨some 2, .mv (.t 6), none⟩] [2] [] [[0], [3], [4], [5]])
        .ret)),
  [.t 2]⟩

def l_errors_errorString_Error : Lay := { rg := [(0, ([0], [])), (1, ([2], []))], dd := [(1, [[0], [3], [4], [5]])] }

/- dkim.parsePublicKey -/
def b_dkim_parsePublicKey_1 : SCode :=
  (.seq
    (.region [
      ⟨some 175, .bin .lss (.t 174) (.t 173), none⟩] [6, 8, 26, 27, 172, 173, 174, 175] [] [])
    (.seq
      (.cond (.t 175)
        .skip
        (.exit 1))
      (.seq
        (.block 2
          (.seq
            (.region [
              ⟨some 176, .iAddr 1 (.t 172) (.t 174), none⟩,
              ⟨some 177, .load none (.t 176), none⟩,
              ⟨some 29, .mv (.t 177), none⟩] [6, 8, 26, 27, 29, 172, 173, 174] [] [[], [176]])
            (.seq
              (.region [
                ⟨some 178, .mv (.t 29), none⟩,
                ⟨some 179, .bin .eql (.t 178) (.k (.str [42])), none⟩] [6, 8, 26, 27, 172, 173, 174, 179] [] [[29]])
              (.cond (.t 179)
                (.seq
                  (.region [
                    ⟨some 27, .mv (.k (.bool true)), none⟩] [6, 8, 26, 27] [] [])
                  (.exit 1))
                .skip))))
        (.region [
          ⟨some 180, .bin .add (.t 174) (.k (.int .i64 1)), none⟩,
          ⟨some 174, .mv (.t 180), none⟩] [6, 8, 26, 27, 172, 173, 174] [] []))))

def t_dkim_parsePublicKey_2 : SCode :=
  (.seq
    (.region [
      ⟨some 181, .mv (.t 27), none⟩,
      ⟨some 182, .un .not (.t 181), none⟩] [6, 8, 26, 182] [] [[27]])
    (.cond (.t 182)
      (.region [
        ⟨some 183, .mv (.t 8), none⟩,
        ⟨some 184, .mv (.t 26), none⟩,
        ⟨some 185, .chk (.t 183), none⟩,
        ⟨some 186, .fAddr 4 (.t 185), none⟩,
        ⟨none, .store 1 (.t 186) (.t 184), none⟩] [6, 8] [] [[], [26], [183], [185]])
      .skip))

def f_dkim_parsePublicKey_3 : SCode :=
  (.seq
    (.seq
      (.region [
        ⟨some 188, .mv (.t 6), none⟩,
        ⟨some 189, .look (.str []) true (.t 188) (.k (.str [116])), none⟩,
        ⟨some 187, .mv (.t 189), none⟩,
        ⟨some 190, .extr (.t 187) 0, none⟩,
        ⟨some 191, .extr (.t 187) 1, none⟩,
        ⟨some 30, .mv (.t 190), none⟩,
        ⟨some 31, .mv (.t 191), none⟩] [8, 30, 31] [] [[6], [188], [189], [], [187], [190]])
      (.seq
        (.region [
          ⟨some 192, .mv (.t 31), none⟩] [8, 30, 192] [] [])
        (.cond (.t 192)
          (.region [
            ⟨some 193, .mv (.t 8), none⟩,
            ⟨some 194, .mv (.t 30), none⟩,
            ⟨some 195, .call 24 [(.t 194)], none⟩,
            ⟨some 196, .chk (.t 193), none⟩,
            ⟨some 197, .fAddr 5 (.t 196), none⟩,
            ⟨none, .store 1 (.t 197) (.t 195), none⟩] [8] [] [[], [30], [194], [193], [196]])
          .skip)))
    (.seq
      (.seq
      (.region [
        ⟨some 198, .mv (.t 8), none⟩,
        ⟨some 4, .mv (.t 198), none⟩,
        ⟨some 5, .mv (.k .nilI), none⟩] [4, 5] [] [[8], [198]])
      (.ghost [.frz 43]))
      .ret))

def f_dkim_parsePublicKey_4 : SCode :=
  (.seq
    (.seq
      (.region [
        ⟨some 165, .mv (.t 6), none⟩,
        ⟨some 166, .look (.str []) true (.t 165) (.k (.str [115])), none⟩,
        ⟨some 164, .mv (.t 166), none⟩,
        ⟨some 167, .extr (.t 164) 0, none⟩,
        ⟨some 168, .extr (.t 164) 1, none⟩,
        ⟨some 24, .mv (.t 167), none⟩,
        ⟨some 25, .mv (.t 168), none⟩] [6, 8, 24, 25] [] [[], [165], [166], [], [164], [167]])
      (.seq
        (.region [
          ⟨some 169, .mv (.t 25), none⟩] [6, 8, 24, 169] [] [])
        (.cond (.t 169)
          (.seq
            (.region [
              ⟨some 170, .mv (.t 24), none⟩,
              ⟨some 171, .call 24 [(.t 170)], none⟩,
              ⟨some 26, .mv (.t 171), none⟩] [6, 8, 26] [] [[24], [170]])
            (.seq
              (.region [
                ⟨some 27, .mv (.k (.bool false)), none⟩] [6, 8, 26, 27] [] [])
              (.seq
                (.seq
                  (.region [
                    ⟨some 172, .mv (.t 26), none⟩,
                    ⟨some 173, .len 1 (.t 172), none⟩,
                    ⟨some 174, .mv (.k (.int .i64 0)), none⟩] [6, 8, 26, 27, 172, 173, 174] [] [])
                  (.block 1
                    (.loop [6, 8, 26, 27, 172, 173, 174]
                      b_dkim_parsePublicKey_1)))
                t_dkim_parsePublicKey_2)))
          .skip)))
    f_dkim_parsePublicKey_3)

def f_dkim_parsePublicKey_5 : SCode :=
  (.seq
    (.seq
      (.region [
        ⟨some 155, .mv (.t 6), none⟩,
        ⟨some 156, .look (.str []) true (.t 155) (.k (.str [110])), none⟩,
        ⟨some 154, .mv (.t 156), none⟩,
        ⟨some 157, .extr (.t 154) 0, none⟩,
        ⟨some 158, .extr (.t 154) 1, none⟩,
        ⟨some 22, .mv (.t 157), none⟩,
        ⟨some 23, .mv (.t 158), none⟩] [6, 8, 22, 23] [] [[], [155], [156], [], [154], [157]])
      (.seq
        (.region [
          ⟨some 159, .mv (.t 23), none⟩] [6, 8, 22, 159] [] [])
        (.cond (.t 159)
          (.region [
            ⟨some 160, .mv (.t 8), none⟩,
            ⟨some 161, .mv (.t 22), none⟩,
            ⟨some 162, .chk (.t 160), none⟩,
            ⟨some 163, .fAddr 3 (.t 162), none⟩,
            ⟨none, .store 1 (.t 163) (.t 161), none⟩] [6, 8] [] [[], [22], [160], [162]])
          .skip)))
    f_dkim_parsePublicKey_4)

def f_dkim_parsePublicKey_6 : SCode :=
  (.seq
    (.seq
      (.region [
        ⟨some 144, .mv (.t 6), none⟩,
        ⟨some 145, .look (.str []) true (.t 144) (.k (.str [104])), none⟩,
        ⟨some 143, .mv (.t 145), none⟩,
        ⟨some 146, .extr (.t 143) 0, none⟩,
        ⟨some 147, .extr (.t 143) 1, none⟩,
        ⟨some 20, .mv (.t 146), none⟩,
        ⟨some 21, .mv (.t 147), none⟩] [6, 8, 20, 21] [] [[], [144], [145], [], [143], [146]])
      (.seq
        (.region [
          ⟨some 148, .mv (.t 21), none⟩] [6, 8, 20, 148] [] [])
        (.cond (.t 148)
          (.region [
            ⟨some 149, .mv (.t 8), none⟩,
            ⟨some 150, .mv (.t 20), none⟩,
            ⟨some 151, .call 24 [(.t 150)], none⟩,
            ⟨some 152, .chk (.t 149), none⟩,
            ⟨some 153, .fAddr 2 (.t 152), none⟩,
            ⟨none, .store 1 (.t 153) (.t 151), none⟩] [6, 8] [] [[], [20], [150], [149], [152]])
          .skip)))
    f_dkim_parsePublicKey_5)

def f_dkim_parsePublicKey_7 : SCode :=
  (.seq
    (.seq
      (.region [
        ⟨some 79, .mv (.t 6), none⟩,
        ⟨some 80, .look (.str []) false (.t 79) (.k (.str [107])), none⟩] [1, 6, 8, 13, 80] [] [])
      (.block 0
        (.seq
          (.seq
            (.region [
              ⟨some 83, .bin .eql (.t 80) (.k (.str [114, 115, 97])), none⟩,
              ⟨some 82, .mv (.t 83), none⟩] [1, 6, 8, 13, 80, 82] [] [])
            (.cond (.t 82)
              .skip
              (.region [
                ⟨some 84, .bin .eql (.t 80) (.k (.str [])), none⟩,
                ⟨some 82, .mv (.t 84), none⟩] [1, 6, 8, 13, 80, 82] [] [])))
          (.cond (.t 82)
            (.seq
              (.region [
                ⟨some 86, .mv (.t 1), none⟩,
                ⟨some 87, .mv (.t 13), none⟩,
                ⟨some 88, .callVS (.t 86) [(.k (.str [114, 115, 97])), (.t 87)], none⟩,
                ⟨some 85, .mv (.t 88), none⟩,
                ⟨some 89, .extr (.t 85) 0, none⟩,
                ⟨some 90, .extr (.t 85) 1, none⟩,
                ⟨some 91, .extr (.t 85) 2, none⟩,
                ⟨some 14, .mv (.t 89), none⟩,
                ⟨some 15, .mv (.t 90), none⟩,
                ⟨some 16, .mv (.t 91), none⟩] [6, 8, 14, 15, 16] [] [[1], [13], [86, 87], [88], [], [], [85], [89], [90]])
              (.seq
                (.seq
                  (.region [
                    ⟨some 92, .mv (.t 16), none⟩,
                    ⟨some 93, .isNil 0 true (.t 92), none⟩] [6, 8, 14, 15, 16, 93] [] [])
                  (.cond (.t 93)
                    (.seq
                      (.region [
                        ⟨some 94, .mv (.t 16), none⟩,
                        ⟨some 95, .inv (.t 94) "Error" [], none⟩,
                        ⟨some 96, .bin .add (.k (.str [107, 101, 121, 32, 115, 121, 110, 116, 97, 120, 32, 101, 114, 114, 111, 114, 58, 32])) (.t 95), none⟩,
                        ⟨some 97, .mkIfc 5 (.t 96), none⟩,
                        ⟨some 4, .mv (.k .nilP), none⟩,
                        ⟨some 5, .mv (.t 97), none⟩] [4, 5] [] [[16], [94], [95], [96]])
                      .ret)
                    .skip))
                (.seq
                  (.seq
                    (.region [
                      ⟨some 98, .mv (.t 15), none⟩,
                      ⟨some 99, .bin .lss (.t 98) (.k (.int .i64 1024)), none⟩] [6, 8, 14, 15, 99] [] [])
                    (.cond (.t 99)
                      (.seq
                        (.region [
                          ⟨some 100, .mv (.t 15), none⟩,
                          ⟨some 101, .call 74 [(.t 100)], none⟩,
                          ⟨some 102, .bin .add (.k (.str [107, 101, 121, 32, 105, 115, 32, 116, 111, 111, 32, 115, 104, 111, 114, 116, 58, 32, 119, 97, 110, 116, 32, 49, 48, 50, 52, 32, 98, 105, 116, 115, 44, 32, 104, 97, 115, 32])) (.t 101), none⟩,
                          ⟨some 103, .bin .add (.t 102) (.k (.str [32, 98, 105, 116, 115])), none⟩,
                          ⟨some 104, .mkIfc 5 (.t 103), none⟩,
                          ⟨some 4, .mv (.k .nilP), none⟩,
                          ⟨some 5, .mv (.t 104), none⟩] [4, 5] [] [[15], [100], [101], [102], [103]])
                        .ret)
                      .skip))
                  (.seq
                    (.region [
                      ⟨some 105, .mv (.t 8), none⟩,
                      ⟨some 106, .mv (.t 14), none⟩,
                      ⟨some 107, .chk (.t 105), none⟩,
                      ⟨some 108, .fAddr 0 (.t 107), none⟩,
                      ⟨none, .store 1 (.t 108) (.t 106), none⟩] [6, 8] [] [[], [14], [105], [107]])
                    (.region [
                      ⟨some 109, .mv (.t 8), none⟩,
                      ⟨some 110, .chk (.t 109), none⟩,
                      ⟨some 111, .fAddr 1 (.t 110), none⟩,
                      ⟨none, .store 1 (.t 111) (.k (.str [114, 115, 97])), none⟩] [6, 8] [] [[], [109], [110]])))))
            (.seq
              (.region [
                ⟨some 113, .bin .eql (.t 80) (.k (.str [101, 100, 50, 53, 53, 49, 57])), none⟩,
                ⟨some 112, .mv (.t 113), none⟩] [1, 6, 8, 13, 112] [] [[80]])
              (.cond (.t 112)
                (.seq
                  (.seq
                    (.region [
                      ⟨some 114, .mv (.t 13), none⟩,
                      ⟨some 115, .len 1 (.t 114), none⟩,
                      ⟨some 116, .bin .neq (.t 115) (.k (.int .i64 32)), none⟩] [1, 6, 8, 13, 116] [] [[], [114]])
                    (.cond (.t 116)
                      (.seq
                        (.region [
                          ⟨some 117, .mv (.t 13), none⟩,
                          ⟨some 118, .len 1 (.t 117), none⟩,
                          ⟨some 119, .call 74 [(.t 118)], none⟩,
                          ⟨some 120, .bin .add (.k (.str [105, 110, 118, 97, 108, 105, 100, 32, 69, 100, 50, 53, 53, 49, 57, 32, 112, 117, 98, 108, 105, 99, 32, 107, 101, 121, 32, 115, 105, 122, 101, 58, 32])) (.t 119), none⟩,
                          ⟨some 121, .bin .add (.t 120) (.k (.str [32, 98, 121, 116, 101, 115])), none⟩,
                          ⟨some 122, .mkIfc 5 (.t 121), none⟩,
                          ⟨some 4, .mv (.k .nilP), none⟩,
                          ⟨some 5, .mv (.t 122), none⟩] [4, 5] [] [[13], [117], [118], [119], [120], [121]])
                        .ret)
                      .skip))
                  (.seq
                    (.region [
                      ⟨some 124, .mv (.t 1), none⟩,
                      ⟨some 125, .mv (.t 13), none⟩,
                      ⟨some 126, .callVS (.t 124) [(.k (.str [101, 100, 50, 53, 53, 49, 57])), (.t 125)], none⟩,
                      ⟨some 123, .mv (.t 126), none⟩,
                      ⟨some 127, .extr (.t 123) 0, none⟩,
                      ⟨some 128, .extr (.t 123) 1, none⟩,
                      ⟨some 129, .extr (.t 123) 2, none⟩,
                      ⟨some 17, .mv (.t 127), none⟩,
                      ⟨some 18, .mv (.t 128), none⟩,
                      ⟨some 19, .mv (.t 129), none⟩] [6, 8, 17, 19] [] [[1], [13], [124, 125], [126], [], [], [123], [127], [18, 128]])
                    (.seq
                      (.seq
                        (.region [
                          ⟨some 130, .mv (.t 19), none⟩,
                          ⟨some 131, .isNil 0 true (.t 130), none⟩] [6, 8, 17, 19, 131] [] [])
                        (.cond (.t 131)
                          (.seq
                            (.region [
                              ⟨some 132, .mv (.t 19), none⟩,
                              ⟨some 133, .inv (.t 132) "Error" [], none⟩,
                              ⟨some 134, .bin .add (.k (.str [107, 101, 121, 32, 115, 121, 110, 116, 97, 120, 32, 101, 114, 114, 111, 114, 58, 32])) (.t 133), none⟩,
                              ⟨some 135, .mkIfc 5 (.t 134), none⟩,
                              ⟨some 4, .mv (.k .nilP), none⟩,
                              ⟨some 5, .mv (.t 135), none⟩] [4, 5] [] [[19], [132], [133], [134]])
                            .ret)
                          .skip))
                      (.seq
                        (.region [
                          ⟨some 136, .mv (.t 8), none⟩,
                          ⟨some 137, .mv (.t 17), none⟩,
                          ⟨some 138, .chk (.t 136), none⟩,
                          ⟨some 139, .fAddr 0 (.t 138), none⟩,
                          ⟨none, .store 1 (.t 139) (.t 137), none⟩] [6, 8] [] [[], [17], [136], [138]])
                        (.region [
                          ⟨some 140, .mv (.t 8), none⟩,
                          ⟨some 141, .chk (.t 140), none⟩,
                          ⟨some 142, .fAddr 1 (.t 141), none⟩,
                          ⟨none, .store 1 (.t 142) (.k (.str [101, 100, 50, 53, 53, 49, 57])), none⟩] [6, 8] [] [[], [140], [141]])))))
                (.seq
                  (.region [
                    ⟨some 81, .mkIfc 5 (.k (.str [117, 110, 115, 117, 112, 112, 111, 114, 116, 101, 100, 32, 107, 101, 121, 32, 97, 108, 103, 111, 114, 105, 116, 104, 109])), none⟩,
                    ⟨some 4, .mv (.k .nilP), none⟩,
                    ⟨some 5, .mv (.t 81), none⟩] [4, 5] [] [])
                  .ret)))))))
    f_dkim_parsePublicKey_6)

def f_dkim_parsePublicKey_8 : SCode :=
  (.seq
    (.region [
      ⟨some 66, .mv (.t 11), none⟩,
      ⟨some 67, .call 72 [(.t 66), (.k (.str [32])), (.k (.str []))], none⟩,
      ⟨some 11, .mv (.t 67), none⟩] [1, 6, 8, 11] [] [[], [66]])
    (.seq
      (.region [
        ⟨some 69, .mv (.t 11), none⟩,
        ⟨some 70, .call 73 [(.t 69)], none⟩,
        ⟨some 68, .mv (.t 70), none⟩,
        ⟨some 71, .extr (.t 68) 0, none⟩,
        ⟨some 72, .extr (.t 68) 1, none⟩,
        ⟨some 13, .mv (.t 71), none⟩,
        ⟨some 7, .mv (.t 72), none⟩] [1, 6, 7, 8, 13] [] [[11], [69], [70], [], [68], [71]])
      (.seq
        (.seq
          (.region [
            ⟨some 73, .mv (.t 7), none⟩,
            ⟨some 74, .isNil 0 true (.t 73), none⟩] [1, 6, 7, 8, 13, 74] [] [])
          (.cond (.t 74)
            (.seq
              (.region [
                ⟨some 75, .mv (.t 7), none⟩,
                ⟨some 76, .inv (.t 75) "Error" [], none⟩,
                ⟨some 77, .bin .add (.k (.str [107, 101, 121, 32, 115, 121, 110, 116, 97, 120, 32, 101, 114, 114, 111, 114, 58, 32])) (.t 76), none⟩,
                ⟨some 78, .mkIfc 5 (.t 77), none⟩,
                ⟨some 4, .mv (.k .nilP), none⟩,
                ⟨some 5, .mv (.t 78), none⟩] [4, 5] [] [[7], [75], [76], [77]])
              .ret)
            .skip))
        f_dkim_parsePublicKey_7)))

def f_dkim_parsePublicKey_9 : SCode :=
  (.seq
    (.region [
      ⟨some 56, .mv (.t 6), none⟩,
      ⟨some 57, .look (.str []) true (.t 56) (.k (.str [112])), none⟩,
      ⟨some 55, .mv (.t 57), none⟩,
      ⟨some 58, .extr (.t 55) 0, none⟩,
      ⟨some 59, .extr (.t 55) 1, none⟩,
      ⟨some 11, .mv (.t 58), none⟩,
      ⟨some 12, .mv (.t 59), none⟩] [1, 6, 8, 11, 12] [] [[], [56], [57], [], [55], [58]])
    (.seq
      (.seq
        (.region [
          ⟨some 60, .mv (.t 12), none⟩,
          ⟨some 61, .un .not (.t 60), none⟩] [1, 6, 8, 11, 61] [] [[12]])
        (.cond (.t 61)
          (.seq
            (.region [
              ⟨some 62, .mkIfc 5 (.k (.str [107, 101, 121, 32, 115, 121, 110, 116, 97, 120, 32, 101, 114, 114, 111, 114, 58, 32, 109, 105, 115, 115, 105, 110, 103, 32, 112, 117, 98, 108, 105, 99, 32, 107, 101, 121, 32, 100, 97, 116, 97])), none⟩,
              ⟨some 4, .mv (.k .nilP), none⟩,
              ⟨some 5, .mv (.t 62), none⟩] [4, 5] [] [])
            .ret)
          .skip))
      (.seq
        (.seq
          (.region [
            ⟨some 63, .mv (.t 11), none⟩,
            ⟨some 64, .bin .eql (.t 63) (.k (.str [])), none⟩] [1, 6, 8, 11, 64] [] [])
          (.cond (.t 64)
            (.seq
              (.region [
                ⟨some 65, .mkIfc 5 (.k (.str [107, 101, 121, 32, 114, 101, 118, 111, 107, 101, 100])), none⟩,
                ⟨some 4, .mv (.k .nilP), none⟩,
                ⟨some 5, .mv (.t 65), none⟩] [4, 5] [] [])
              .ret)
            .skip))
        f_dkim_parsePublicKey_8)))

def f_dkim_parsePublicKey_10 : SCode :=
  (.seq
    (.seq
      (.region [
        ⟨some 45, .mv (.t 6), none⟩,
        ⟨some 46, .look (.str []) true (.t 45) (.k (.str [118])), none⟩,
        ⟨some 44, .mv (.t 46), none⟩,
        ⟨some 47, .extr (.t 44) 0, none⟩,
        ⟨some 48, .extr (.t 44) 1, none⟩,
        ⟨some 9, .mv (.t 47), none⟩,
        ⟨some 10, .mv (.t 48), none⟩] [1, 6, 8, 9, 10] [] [[], [45], [46], [], [44], [47]])
      (.seq
        (.region [
          ⟨some 49, .mv (.t 10), none⟩,
          ⟨some 50, .mv (.t 49), none⟩,
          ⟨some 51, .mv (.t 9), some (50, true)⟩,
          ⟨some 52, .bin .neq (.t 51) (.k (.str [68, 75, 73, 77, 49])), some (50, true)⟩,
          ⟨some 53, .pick (.t 50) (.t 52) (.k (.bool false)), none⟩] [1, 6, 8, 53] [] [[10], [49], [9], [51]])
        (.cond (.t 53)
          (.seq
            (.region [
              ⟨some 54, .mkIfc 5 (.k (.str [105, 110, 99, 111, 109, 112, 97, 116, 105, 98, 108, 101, 32, 112, 117, 98, 108, 105, 99, 32, 107, 101, 121, 32, 118, 101, 114, 115, 105, 111, 110])), none⟩,
              ⟨some 4, .mv (.k .nilP), none⟩,
              ⟨some 5, .mv (.t 54), none⟩] [4, 5] [] [])
            .ret)
          .skip)))
    f_dkim_parsePublicKey_9)

def c_dkim_parsePublicKey : SFn := ⟨2,
    (.seq
      (.region [
        ⟨some 4, .mv (.k .nilP), none⟩,
        ⟨some 5, .mv (.k .nilI), none⟩] [0, 1] [] [[4]])
      (.seq
        (.region [
          ⟨some 33, .mv (.t 0), none⟩,
          ⟨some 34, .call 47 [(.t 33)], none⟩,
          ⟨some 32, .mv (.t 34), none⟩,
          ⟨some 35, .extr (.t 32) 0, none⟩,
          ⟨some 36, .extr (.t 32) 1, none⟩,
          ⟨some 6, .mv (.t 35), none⟩,
          ⟨some 7, .mv (.t 36), none⟩] [1, 6, 7] [] [[0], [33], [34], [], [32], [35]])
        (.seq
          (.seq
            (.region [
              ⟨some 37, .mv (.t 7), none⟩,
              ⟨some 38, .isNil 0 true (.t 37), none⟩] [1, 6, 7, 38] [] [])
            (.cond (.t 38)
              (.seq
                (.region [
                  ⟨some 39, .mv (.t 7), none⟩,
                  ⟨some 40, .inv (.t 39) "Error" [], none⟩,
                  ⟨some 41, .bin .add (.k (.str [107, 101, 121, 32, 114, 101, 99, 111, 114, 100, 32, 101, 114, 114, 111, 114, 58, 32])) (.t 40), none⟩,
                  ⟨some 42, .mkIfc 5 (.t 41), none⟩,
                  ⟨some 4, .mv (.k .nilP), none⟩,
                  ⟨some 5, .mv (.t 42), none⟩] [4, 5] [] [[7], [39], [40], [41]])
                .ret)
              .skip))
          (.seq
            (.region [
              ⟨some 43, .alloc [.nilI, (.str []), .nilS, (.str []), .nilS, .nilS], none⟩,
              ⟨some 8, .mv (.t 43), none⟩] [1, 6, 8] [] [])
            f_dkim_parsePublicKey_10)))),
  [.t 4, .t 5]⟩

def l_dkim_parsePublicKey : Lay := { rg := [(0, ([0, 1], [])), (1, ([1, 6, 7], [])), (2, ([1, 6, 7, 38], [])), (3, ([4, 5], [])), (4, ([1, 6, 8], [])), (5, ([1, 6, 8, 9, 10], [])), (6, ([1, 6, 8, 53], [])), (7, ([4, 5], [])), (8, ([1, 6, 8, 11, 12], [])), (9, ([1, 6, 8, 11, 61], [])), (10, ([4, 5], [])), (11, ([1, 6, 8, 11, 64], [])), (12, ([4, 5], [])), (13, ([1, 6, 8, 11], [])), (14, ([1, 6, 7, 8, 13], [])), (15, ([1, 6, 7, 8, 13, 74], [])), (16, ([4, 5], [])), (17, ([1, 6, 8, 13, 80], [])), (18, ([4, 5], [])), (19, ([1, 6, 8, 13, 80, 82], [])), (20, ([1, 6, 8, 13, 80, 82], [])), (21, ([6, 8, 14, 15, 16], [])), (22, ([6, 8, 14, 15, 16, 93], [])), (23, ([4, 5], [])), (24, ([6, 8, 14, 15, 99], [])), (25, ([4, 5], [])), (26, ([6, 8], [])), (27, ([6, 8], [])), (28, ([1, 6, 8, 13, 112], [])), (29, ([1, 6, 8, 13, 116], [])), (30, ([4, 5], [])), (31, ([6, 8, 17, 19], [])), (32, ([6, 8, 17, 19, 131], [])), (33, ([4, 5], [])), (34, ([6, 8], [])), (35, ([6, 8], [])), (36, ([6, 8, 20, 21], [])), (37, ([6, 8, 20, 148], [])), (38, ([6, 8], [])), (39, ([6, 8, 22, 23], [])), (40, ([6, 8, 22, 159], [])), (41, ([6, 8], [])), (42, ([6, 8, 24, 25], [])), (43, ([6, 8, 24, 169], [])), (44, ([6, 8, 26], [])), (45, ([6, 8, 26, 27], [])), (46, ([6, 8, 26, 27, 172, 173, 174], [])), (47, ([6, 8, 26, 27, 172, 173, 174, 175], [])), (48, ([6, 8, 26, 27, 29, 172, 173, 174], [])), (49, ([6, 8, 26, 27, 172, 173, 174, 179], [])), (50, ([6, 8, 26, 27], [])), (51, ([6, 8, 26, 27, 172, 173, 174], [])), (52, ([6, 8, 26, 182], [])), (53, ([6, 8], [])), (54, ([8, 30, 31], [])), (55, ([8, 30, 192], [])), (56, ([8], [])), (57, ([4, 5], [])), (1000047, ([6, 8, 26, 27, 172, 173, 174], []))], dd := [(0, [[4]]), (1, [[0], [33], [34], [], [32], [35]]), (3, [[7], [39], [40], [41]]), (5, [[], [45], [46], [], [44], [47]]), (6, [[10], [49], [9], [51]]), (8, [[], [56], [57], [], [55], [58]]), (9, [[12]]), (13, [[], [66]]), (14, [[11], [69], [70], [], [68], [71]]), (16, [[7], [75], [76], [77]]), (21, [[1], [13], [86, 87], [88], [], [], [85], [89], [90]]), (23, [[16], [94], [95], [96]]), (25, [[15], [100], [101], [102], [103]]), (26, [[], [14], [105], [107]]), (27, [[], [109], [110]]), (28, [[80]]), (29, [[], [114]]), (30, [[13], [117], [118], [119], [120], [121]]), (31, [[1], [13], [124, 125], [126], [], [], [123], [127], [18, 128]]), (33, [[19], [132], [133], [134]]), (34, [[], [17], [136], [138]]), (35, [[], [140], [141]]), (36, [[], [144], [145], [], [143], [146]]), (38, [[], [20], [150], [149], [152]]), (39, [[], [155], [156], [], [154], [157]]), (41, [[], [22], [160], [162]]), (42, [[], [165], [166], [], [164], [167]]), (44, [[24], [170]]), (48, [[], [176]]), (49, [[29]]), (52, [[27]]), (53, [[], [26], [183], [185]]), (54, [[6], [188], [189], [], [187], [190]]), (56, [[], [30], [194], [193], [196]]), (57, [[8], [198]])], gh := [(57, [.frz 43])], cv := true }

/- dkim.ParseRecord -/
def c_dkim_ParseRecord : SFn := ⟨2,
    (.seq
      (.region [
        ⟨some 4, .alloc [(.str []), .nilS, .nilS, .nilS, (.str [])], none⟩,
        ⟨some 5, .mv (.k .nilI), none⟩] [0, 1, 4] [] [])
      (.seq
        (.region [
          ⟨some 9, .mv (.t 0), none⟩,
          ⟨some 10, .mv (.t 1), none⟩,
          ⟨some 11, .callS 75 [(.t 9), (.t 10)], none⟩,
          ⟨some 8, .mv (.t 11), none⟩,
          ⟨some 12, .extr (.t 8) 0, none⟩,
          ⟨some 13, .extr (.t 8) 1, none⟩,
          ⟨some 6, .mv (.t 12), none⟩,
          ⟨some 7, .mv (.t 13), none⟩] [4, 6, 7] [] [[0], [1], [9, 10], [11], [], [8], [12]])
        (.seq
          (.seq
            (.region [
              ⟨some 14, .mv (.t 7), none⟩,
              ⟨some 15, .isNil 0 true (.t 14), none⟩] [4, 6, 7, 15] [] [])
            (.cond (.t 15)
              (.seq
                (.region [
                  ⟨some 16, .agg [(.str []), .nilS, .nilS, .nilS, (.str [])] [], none⟩,
                  ⟨some 17, .mv (.t 7), none⟩,
                  ⟨none, .store 5 (.t 4) (.t 16), none⟩,
                  ⟨some 5, .mv (.t 17), none⟩] [4, 5] [] [[], [7], [16]])
                .ret)
              .skip))
          (.seq
            (.region [
              ⟨some 18, .mv (.t 6), none⟩,
              ⟨some 19, .chk (.t 18), none⟩,
              ⟨some 20, .fAddr 1 (.t 19), none⟩,
              ⟨some 21, .load none (.t 20), none⟩,
              ⟨some 22, .mv (.t 6), none⟩,
              ⟨some 23, .chk (.t 22), none⟩,
              ⟨some 24, .fAddr 2 (.t 23), none⟩,
              ⟨some 25, .load none (.t 24), none⟩,
              ⟨some 26, .mv (.t 6), none⟩,
              ⟨some 27, .chk (.t 26), none⟩,
              ⟨some 28, .fAddr 4 (.t 27), none⟩,
              ⟨some 29, .load none (.t 28), none⟩,
              ⟨some 30, .mv (.t 6), none⟩,
              ⟨some 31, .chk (.t 30), none⟩,
              ⟨some 32, .fAddr 5 (.t 31), none⟩,
              ⟨some 33, .load none (.t 32), none⟩,
              ⟨some 34, .mv (.t 6), none⟩,
              ⟨some 35, .chk (.t 34), none⟩,
              ⟨some 36, .fAddr 3 (.t 35), none⟩,
              ⟨some 37, .load none (.t 36), none⟩,
              ⟨some 38, .agg [(.str []), .nilS, .nilS, .nilS, (.str [])] [(0, 1, (.t 21)), (1, 1, (.t 25)), (2, 1, (.t 29)), (3, 1, (.t 33)), (4, 1, (.t 37))], none⟩,
              ⟨none, .store 5 (.t 4) (.t 38), none⟩,
              ⟨some 5, .mv (.k .nilI), none⟩] [4, 5] [] [])
            .ret)))),
  [.c (some 5) 4, .t 5]⟩

def l_dkim_ParseRecord : Lay := { rg := [(0, ([0, 1, 4], [])), (1, ([4, 6, 7], [])), (2, ([4, 6, 7, 15], [])), (3, ([4, 5], [])), (4, ([4, 5], []))], dd := [(1, [[0], [1], [9, 10], [11], [], [8], [12]]), (3, [[], [7], [16]])], sf := [75] }

/- impl.sizeOf -/
def c_impl_sizeOf : SFn := ⟨2,
    (.seq
      (.region [
        ⟨some 4, .mv (.k (.int .i64 0)), none⟩] [0, 1] [] [])
      (.seq
        (.seq
          (.region [
            ⟨some 5, .mv (.t 0), none⟩,
            ⟨some 6, .bin .eql (.t 5) (.k (.str [101, 100, 50, 53, 53, 49, 57])), none⟩] [1, 6] [] [[0]])
          (.cond (.t 6)
            (.seq
              (.region [
                ⟨some 4, .mv (.k (.int .i64 256)), none⟩] [4] [] [])
              .ret)
            .skip))
        (.seq
          (.region [
            ⟨some 7, .mv (.t 1), none⟩,
            ⟨some 8, .len 1 (.t 7), none⟩,
            ⟨some 9, .bin .mul (.k (.int .i64 8)) (.t 8), none⟩,
            ⟨some 4, .mv (.t 9), none⟩] [4] [] [[1], [7], [8]])
          .ret))),
  [.t 4]⟩

def l_impl_sizeOf : Lay := { rg := [(0, ([0, 1], [])), (1, ([1, 6], [])), (2, ([4], [])), (3, ([4], []))], dd := [(1, [[0]]), (3, [[1], [7], [8]])] }

/- impl.DRecord$1 -/
def c_impl_DRecord_1 : SFn := ⟨3,
    (.seq
      (.region [
        ⟨some 5, .mv (.k .nilI), none⟩,
        ⟨some 6, .mv (.k (.int .i64 0)), none⟩,
        ⟨some 7, .mv (.k .nilI), none⟩] [0, 1, 2] [] [[5], [6]])
      (.seq
        (.region [
          ⟨some 8, .mv (.t 1), none⟩,
          ⟨some 9, .call 76 [(.t 8)], none⟩,
          ⟨some 10, .mv (.t 0), none⟩,
          ⟨some 11, .mv (.t 1), none⟩,
          ⟨some 12, .call 77 [(.t 10), (.t 11)], none⟩,
          ⟨some 13, .fAddr 1 (.t 2), none⟩,
          ⟨none, .store 1 (.t 13) (.t 9), none⟩,
          ⟨some 14, .fAddr 2 (.t 2), none⟩,
          ⟨none, .store 1 (.t 14) (.t 12), none⟩] [0, 1] [] [[], [8], [], [], [10, 11], [], [9, 13], [2]])
        (.seq
          (.region [
            ⟨some 15, .mv (.t 0), none⟩,
            ⟨some 16, .mv (.t 1), none⟩,
            ⟨some 17, .agg [(.str []), .nilS] [(0, 1, (.t 15)), (1, 1, (.t 16))], none⟩,
            ⟨some 18, .mkIfc 6 (.t 17), none⟩,
            ⟨some 19, .mv (.t 0), none⟩,
            ⟨some 20, .mv (.t 1), none⟩,
            ⟨some 21, .call 77 [(.t 19), (.t 20)], none⟩,
            ⟨some 5, .mv (.t 18), none⟩,
            ⟨some 6, .mv (.t 21), none⟩,
            ⟨some 7, .mv (.k .nilI), none⟩] [5, 6, 7] [] [[], [], [15, 16], [17], [0], [1], [19, 20], [18], [21]])
          .ret))),
  [.t 5, .t 6, .t 7]⟩

def l_impl_DRecord_1 : Lay := { rg := [(0, ([0, 1, 2], [])), (1, ([0, 1], [])), (2, ([5, 6, 7], []))], dd := [(0, [[5], [6]]), (1, [[], [8], [], [], [10, 11], [], [9, 13], [2]]), (2, [[], [], [15, 16], [17], [0], [1], [19, 20], [18], [21]])] }

/- dkim.IsPermFail -/
def c_dkim_IsPermFail : SFn := ⟨1,
    (.seq
      (.region [
        ⟨some 2, .mv (.k (.bool false)), none⟩] [0] [] [])
      (.seq
        (.region [
          ⟨some 6, .mv (.t 0), none⟩,
          ⟨some 7, .assert 5 (.str []) true (.t 6), none⟩,
          ⟨some 5, .mv (.t 7), none⟩,
          ⟨some 8, .extr (.t 5) 0, none⟩,
          ⟨some 9, .extr (.t 5) 1, none⟩,
          ⟨some 3, .mv (.t 8), none⟩,
          ⟨some 4, .mv (.t 9), none⟩] [4] [] [[0], [6], [7], [], [5], [3, 8]])
        (.seq
          (.region [
            ⟨some 10, .mv (.t 4), none⟩,
            ⟨some 2, .mv (.t 10), none⟩] [2] [] [[4]])
          .ret))),
  [.t 2]⟩

def l_dkim_IsPermFail : Lay := { rg := [(0, ([0], [])), (1, ([4], [])), (2, ([2], []))], dd := [(1, [[0], [6], [7], [], [5], [3, 8]]), (2, [[4]])] }

/- impl.codeOf -/
def c_impl_codeOf : SFn := ⟨1,
    (.seq
      (.region [
        ⟨some 2, .mv (.k (.int .i64 0)), none⟩] [0] [] [])
      (.seq
        (.block 0
          (.seq
            (.region [
              ⟨some 4, .mv (.t 0), none⟩,
              ⟨some 5, .isNil 0 false (.t 4), none⟩,
              ⟨some 3, .mv (.t 5), none⟩] [0, 3] [] [[], [4]])
            (.cond (.t 3)
              (.seq
                (.region [
                  ⟨some 2, .mv (.k (.int .i64 0)), none⟩] [2] [] [])
                .ret)
              (.seq
                (.region [
                  ⟨some 7, .mv (.t 0), none⟩,
                  ⟨some 8, .call 78 [(.t 7)], none⟩,
                  ⟨some 6, .mv (.t 8), none⟩] [0, 6] [] [[], [7]])
                (.cond (.t 6)
                  (.seq
                    (.region [
                      ⟨some 2, .mv (.k (.int .i64 2)), none⟩] [2] [] [])
                    .ret)
                  (.seq
                    (.region [
                      ⟨some 10, .mv (.t 0), none⟩,
                      ⟨some 11, .call 79 [(.t 10)], none⟩,
                      ⟨some 9, .mv (.t 11), none⟩] [0, 9] [] [[], [10]])
                    (.cond (.t 9)
                      (.seq
                        (.region [
                          ⟨some 2, .mv (.k (.int .i64 3)), none⟩] [2] [] [])
                        .ret)
                      (.seq
                        (.region [
                          ⟨some 13, .mv (.t 0), none⟩,
                          ⟨some 14, .call 80 [(.t 13)], none⟩,
                          ⟨some 12, .mv (.t 14), none⟩] [12] [] [[0], [13]])
                        (.cond (.t 12)
                          (.seq
                            (.region [
                              ⟨some 2, .mv (.k (.int .i64 1)), none⟩] [2] [] [])
                            .ret)
                          .skip)))))))))
        (.seq
          (.region [
            ⟨some 2, .mv (.k (.int .i64 4)), none⟩] [2] [] [])
          .ret))),
  [.t 2]⟩

def l_impl_codeOf : Lay := { rg := [(0, ([0], [])), (1, ([0, 3], [])), (2, ([2], [])), (3, ([0, 6], [])), (4, ([2], [])), (5, ([0, 9], [])), (6, ([2], [])), (7, ([12], [])), (8, ([2], [])), (9, ([2], []))], dd := [(1, [[], [4]]), (3, [[], [7]]), (5, [[], [10]]), (7, [[0], [13]])] }

/- impl.DRecord -/
def c_impl_DRecord : SFn := ⟨1,
    (.seq
      (.region [
        ⟨some 2, .alloc [(.str []), .nilS, (.int .i64 0), .nilS, .nilS, .nilS, (.str []), (.bool false), (.bool false)], none⟩,
        ⟨some 3, .mv (.k (.int .i64 0)), none⟩] [0, 2] [] [])
      (.seq
        (.region [
          ⟨some 4, .alloc [(.str []), .nilS, (.int .i64 0), .nilS, .nilS, .nilS, (.str []), (.bool false), (.bool false)], none⟩] [0, 2, 4] [] [])
        (.seq
          (.seq
          (.region [
            ⟨some 8, .mv (.t 0), none⟩,
            ⟨some 9, .mkFn 82 [(.t 4)], none⟩,
            ⟨some 10, .callS 81 [(.t 8), (.t 9)], none⟩,
            ⟨some 7, .mv (.t 10), none⟩,
            ⟨some 11, .extr (.t 7) 0, none⟩,
            ⟨some 12, .extr (.t 7) 1, none⟩,
            ⟨some 5, .alloc [(.str []), .nilS, .nilS, .nilS, (.str [])], none⟩,
            ⟨none, .store 5 (.t 5) (.t 11), none⟩,
            ⟨some 6, .mv (.t 12), none⟩] [2, 4, 5, 6] [] [[0], [], [8, 9], [10], [], [7], [], [11]])
          (.ghost [.frz 5]))
          (.seq
            (.seq
              (.region [
                ⟨some 13, .mv (.t 6), none⟩,
                ⟨some 14, .isNil 0 true (.t 13), none⟩] [2, 4, 5, 6, 14] [] [])
              (.cond (.t 14)
                (.seq
                  (.region [
                    ⟨some 15, .agg [(.str []), .nilS, (.int .i64 0), .nilS, .nilS, .nilS, (.str []), (.bool false), (.bool false)] [], none⟩,
                    ⟨some 16, .mv (.t 6), none⟩,
                    ⟨some 17, .call 83 [(.t 16)], none⟩,
                    ⟨none, .store 9 (.t 2) (.t 15), none⟩,
                    ⟨some 3, .mv (.t 17), none⟩] [2, 3] [] [[], [6], [16], [15]])
                  .ret)
                .skip))
            (.seq
              (.region [
                ⟨some 18, .fAddr 0 (.t 5), none⟩,
                ⟨some 19, .fl (.load none (.t 18)), none⟩,
                ⟨some 20, .fAddr 1 (.t 5), none⟩,
                ⟨some 21, .fl (.load none (.t 20)), none⟩,
                ⟨some 22, .fAddr 2 (.t 5), none⟩,
                ⟨some 23, .fl (.load none (.t 22)), none⟩,
                ⟨some 24, .fAddr 3 (.t 5), none⟩,
                ⟨some 25, .fl (.load none (.t 24)), none⟩,
                ⟨some 26, .fAddr 4 (.t 5), none⟩,
                ⟨some 27, .fl (.load none (.t 26)), none⟩,
                ⟨some 28, .fAddr 0 (.t 4), none⟩,
                ⟨none, .store 1 (.t 28) (.t 19), none⟩,
                ⟨some 29, .fAddr 3 (.t 4), none⟩,
                ⟨none, .store 1 (.t 29) (.t 21), none⟩,
                ⟨some 30, .fAddr 4 (.t 4), none⟩,
                ⟨none, .store 1 (.t 30) (.t 23), none⟩,
                ⟨some 31, .fAddr 5 (.t 4), none⟩,
                ⟨none, .store 1 (.t 31) (.t 25), none⟩,
                ⟨some 32, .fAddr 6 (.t 4), none⟩,
                ⟨none, .store 1 (.t 32) (.t 27), none⟩] [2, 4, 5] [] [])
              (.seq
                (.region [
                  ⟨some 33, .fAddr 1 (.t 5), none⟩,
                  ⟨some 34, .fl (.load none (.t 33)), none⟩,
                  ⟨some 35, .isNil 1 false (.t 34), none⟩,
                  ⟨some 36, .fAddr 2 (.t 5), none⟩,
                  ⟨some 37, .fl (.load none (.t 36)), none⟩,
                  ⟨some 38, .isNil 1 false (.t 37), none⟩,
                  ⟨some 39, .fAddr 7 (.t 4), none⟩,
                  ⟨none, .store 1 (.t 39) (.t 35), none⟩,
                  ⟨some 40, .fAddr 8 (.t 4), none⟩,
                  ⟨none, .store 1 (.t 40) (.t 38), none⟩] [2, 4] [] [])
                (.seq
                  (.region [
                    ⟨some 41, .load (some 9) (.t 4), none⟩,
                    ⟨none, .store 9 (.t 2) (.t 41), none⟩,
                    ⟨some 3, .mv (.k (.int .i64 0)), none⟩] [2, 3] [] [[4], [41]])
                  .ret))))))),
  [.c (some 9) 2, .t 3]⟩

def l_impl_DRecord : Lay := { rg := [(0, ([0, 2], [])), (1, ([0, 2, 4], [])), (2, ([2, 4, 5, 6], [])), (3, ([2, 4, 5, 6, 14], [])), (4, ([2, 3], [])), (5, ([2, 4, 5], [])), (6, ([2, 4], [])), (7, ([2, 3], []))], dd := [(2, [[0], [], [8, 9], [10], [], [7], [], [11]]), (4, [[], [6], [16], [15]]), (7, [[4], [41]])], gh := [(2, [.frz 5])], sf := [81], fl := [19, 21, 23, 25, 27, 34, 37] }

/- spec.DValue -/
def b_spec_DValue_1 : SCode :=
  (.seq
    (.seq
      (.region [
        ⟨some 7, .mv (.t 6), none⟩,
        ⟨some 8, .mv (.t 0), none⟩,
        ⟨some 9, .len 1 (.t 8), none⟩,
        ⟨some 10, .bin .lss (.t 7) (.t 9), none⟩] [0, 1, 6, 10] [] [[], [], [8]])
      (.cond (.t 10)
        .skip
        (.exit 0)))
    (.seq
      (.block 1
        (.seq
          (.region [
            ⟨some 13, .mv (.t 0), none⟩,
            ⟨some 14, .mv (.t 6), none⟩,
            ⟨some 15, .iAddr 2 (.t 13) (.t 14), none⟩,
            ⟨some 16, .fAddr 0 (.t 15), none⟩,
            ⟨some 17, .load none (.t 16), none⟩,
            ⟨some 18, .mv (.t 1), none⟩,
            ⟨some 19, .bin .eql (.t 17) (.t 18), none⟩] [0, 1, 6, 19] [] [[], [], [13, 14], [15], [16]])
          (.cond (.t 19)
            (.seq
              (.region [
                ⟨some 20, .mv (.t 0), none⟩,
                ⟨some 21, .mv (.t 6), none⟩,
                ⟨some 22, .iAddr 2 (.t 20) (.t 21), none⟩,
                ⟨some 23, .fAddr 1 (.t 22), none⟩,
                ⟨some 24, .load none (.t 23), none⟩,
                ⟨some 4, .mv (.t 24), none⟩,
                ⟨some 5, .mv (.k (.bool true)), none⟩] [4, 5] [] [[0], [6], [20, 21], [22], [23], [24]])
              .ret)
            .skip)))
      (.region [
        ⟨some 11, .mv (.t 6), none⟩,
        ⟨some 12, .bin .add (.t 11) (.k (.int .i64 1)), none⟩,
        ⟨some 6, .mv (.t 12), none⟩] [0, 1, 6] [] [[], [11]])))

def t_spec_DValue_2 : SCode :=
  (.seq
    (.region [
      ⟨some 4, .mv (.k (.str [])), none⟩,
      ⟨some 5, .mv (.k (.bool false)), none⟩] [4, 5] [] [])
    .ret)

def c_spec_DValue : SFn := ⟨2,
    (.seq
      (.region [
        ⟨some 4, .mv (.k (.str [])), none⟩,
        ⟨some 5, .mv (.k (.bool false)), none⟩] [0, 1] [] [[4]])
      (.seq
        (.seq
          (.region [
            ⟨some 6, .mv (.k (.int .i64 0)), none⟩] [0, 1, 6] [] [])
          (.block 0
            (.loop [0, 1, 6]
              b_spec_DValue_1)))
        t_spec_DValue_2)),
  [.t 4, .t 5]⟩

def l_spec_DValue : Lay := { rg := [(0, ([0, 1], [])), (1, ([0, 1, 6], [])), (2, ([0, 1, 6, 10], [])), (3, ([0, 1, 6], [])), (4, ([0, 1, 6, 19], [])), (5, ([4, 5], [])), (6, ([4, 5], [])), (1000002, ([0, 1, 6], []))], dd := [(0, [[4]]), (2, [[], [], [8]]), (3, [[], [11]]), (4, [[], [], [13, 14], [15], [16]]), (5, [[0], [6], [20, 21], [22], [23], [24]])] }

/- spec.dBare -/
def b_spec_dBare_1 : SCode :=
  (.seq
    (.seq
      (.region [
        ⟨some 5, .mv (.t 4), none⟩,
        ⟨some 6, .mv (.t 0), none⟩,
        ⟨some 7, .len 0 (.t 6), none⟩,
        ⟨some 8, .bin .lss (.t 5) (.t 7), none⟩] [0, 3, 4, 8] [] [[], [], [6]])
      (.cond (.t 8)
        .skip
        (.exit 0)))
    (.seq
      (.block 1
        (.seq
          (.region [
            ⟨some 11, .mv (.t 0), none⟩,
            ⟨some 12, .mv (.t 4), none⟩,
            ⟨some 13, .iStr (.t 11) (.t 12), none⟩,
            ⟨some 14, .bin .neq (.t 13) (.k (.int .u8 32)), none⟩,
            ⟨some 15, .mv (.t 14), none⟩,
            ⟨some 16, .mv (.t 0), some (15, true)⟩,
            ⟨some 17, .mv (.t 4), some (15, true)⟩,
            ⟨some 18, .iStr (.t 16) (.t 17), some (15, true)⟩,
            ⟨some 19, .bin .neq (.t 18) (.k (.int .u8 13)), some (15, true)⟩,
            ⟨some 20, .pick (.t 15) (.t 19) (.k (.bool false)), none⟩,
            ⟨some 21, .mv (.t 20), none⟩,
            ⟨some 22, .mv (.t 0), some (21, true)⟩,
            ⟨some 23, .mv (.t 4), some (21, true)⟩,
            ⟨some 24, .iStr (.t 22) (.t 23), some (21, true)⟩,
            ⟨some 25, .bin .neq (.t 24) (.k (.int .u8 10)), some (21, true)⟩,
            ⟨some 26, .pick (.t 21) (.t 25) (.k (.bool false)), none⟩] [0, 3, 4, 26] [] [[], [], [11, 12], [13], [14], [], [], [16, 17], [18], [15, 19], [20], [], [], [22, 23], [24]])
          (.cond (.t 26)
            (.region [
              ⟨some 27, .mv (.t 3), none⟩,
              ⟨some 28, .mv (.t 0), none⟩,
              ⟨some 29, .mv (.t 4), none⟩,
              ⟨some 30, .iStr (.t 28) (.t 29), none⟩,
              ⟨some 31, .mkSl 1 1 [(.int .u8 0)] [(0, (.t 30))], none⟩,
              ⟨some 32, .app 1 1 (.t 27) (.t 31), none⟩,
              ⟨some 3, .mv (.t 32), none⟩] [0, 3, 4] [31] [[], [], [], [28, 29], [30], [27, 31]])
            .skip)))
      (.region [
        ⟨some 9, .mv (.t 4), none⟩,
        ⟨some 10, .bin .add (.t 9) (.k (.int .i64 1)), none⟩,
        ⟨some 4, .mv (.t 10), none⟩] [0, 3, 4] [] [[], [9]])))

def t_spec_dBare_2 : SCode :=
  (.seq
    (.region [
      ⟨some 33, .mv (.t 3), none⟩,
      ⟨some 34, .cBytesStr (.t 33), none⟩,
      ⟨some 2, .mv (.t 34), none⟩] [2] [32] [[3], [33]])
    .ret)

def c_spec_dBare : SFn := ⟨1,
    (.seq
      (.region [
        ⟨some 2, .mv (.k (.str [])), none⟩] [0] [] [])
      (.seq
        (.region [
          ⟨some 3, .mv (.k .nilS), none⟩] [0, 3] [] [])
        (.seq
          (.seq
            (.region [
              ⟨some 4, .mv (.k (.int .i64 0)), none⟩] [0, 3, 4] [] [])
            (.block 0
              (.loop [0, 3, 4]
                b_spec_dBare_1)))
          t_spec_dBare_2))),
  [.t 2]⟩

def l_spec_dBare : Lay := { rg := [(0, ([0], [])), (1, ([0, 3], [])), (2, ([0, 3, 4], [])), (3, ([0, 3, 4, 8], [])), (4, ([0, 3, 4], [])), (5, ([0, 3, 4, 26], [])), (6, ([0, 3, 4], [31])), (7, ([2], [32])), (1000003, ([0, 3, 4], []))], dd := [(3, [[], [], [6]]), (4, [[], [9]]), (5, [[], [], [11, 12], [13], [14], [], [], [16, 17], [18], [15, 19], [20], [], [], [22, 23], [24]]), (6, [[], [], [], [28, 29], [30], [27, 31]]), (7, [[3], [33]])] }

/- spec.dBytes64 -/
def b_spec_dBytes64_1 : SCode :=
  (.seq
    (.seq
      (.region [
        ⟨some 31, .mv (.t 11), none⟩,
        ⟨some 32, .bin .lss (.t 31) (.k (.int .i64 64)), none⟩] [0, 4, 5, 6, 7, 8, 9, 10, 11, 32] [] [])
      (.cond (.t 32)
        .skip
        (.exit 4)))
    (.seq
      (.block 5
        (.seq
          (.region [
            ⟨some 35, .mv (.t 11), none⟩,
            ⟨some 36, .iStr (.k (.str [65, 66, 67, 68, 69, 70, 71, 72, 73, 74, 75, 76, 77, 78, 79, 80, 81, 82, 83, 84, 85, 86, 87, 88, 89, 90, 97, 98, 99, 100, 101, 102, 103, 104, 105, 106, 107, 108, 109, 110, 111, 112, 113, 114, 115, 116, 117, 118, 119, 120, 121, 122, 48, 49, 50, 51, 52, 53, 54, 55, 56, 57, 43, 47])) (.t 35), none⟩,
            ⟨some 37, .mv (.t 9), none⟩,
            ⟨some 38, .bin .eql (.t 36) (.t 37), none⟩] [0, 4, 5, 6, 7, 8, 9, 10, 11, 38] [] [[], [35]])
          (.cond (.t 38)
            (.region [
              ⟨some 39, .mv (.t 11), none⟩,
              ⟨some 10, .mv (.t 39), none⟩] [0, 4, 5, 6, 7, 8, 9, 10, 11] [] [])
            .skip)))
      (.region [
        ⟨some 33, .mv (.t 11), none⟩,
        ⟨some 34, .bin .add (.t 33) (.k (.int .i64 1)), none⟩,
        ⟨some 11, .mv (.t 34), none⟩] [0, 4, 5, 6, 7, 8, 9, 10, 11] [] [[], [33]])))

def t_spec_dBytes64_2 : SCode :=
  (.seq
    (.seq
      (.region [
        ⟨some 40, .mv (.t 9), none⟩,
        ⟨some 41, .bin .eql (.t 40) (.k (.int .u8 61)), none⟩,
        ⟨some 42, .mv (.t 41), none⟩,
        ⟨some 43, .mv (.t 8), some (42, true)⟩,
        ⟨some 44, .bin .gtr (.t 43) (.k (.int .i64 1)), some (42, true)⟩,
        ⟨some 45, .pick (.t 42) (.t 44) (.k (.bool false)), none⟩,
        ⟨some 46, .mv (.t 45), none⟩,
        ⟨some 47, .mv (.t 5), some (46, true)⟩,
        ⟨some 48, .bin .add (.t 47) (.k (.int .i64 4)), some (46, true)⟩,
        ⟨some 49, .mv (.t 0), some (46, true)⟩,
        ⟨some 50, .len 0 (.t 49), some (46, true)⟩,
        ⟨some 51, .bin .eql (.t 48) (.t 50), some (46, true)⟩,
        ⟨some 52, .pick (.t 46) (.t 51) (.k (.bool false)), none⟩] [0, 4, 5, 6, 7, 8, 10, 52] [] [[9], [40], [41], [], [43], [42, 44], [45], [], [47], [], [49], [48, 50]])
      (.cond (.t 52)
        (.region [
          ⟨some 53, .mv (.t 7), none⟩,
          ⟨some 54, .bin .add (.t 53) (.k (.int .i64 1)), none⟩,
          ⟨some 7, .mv (.t 54), none⟩,
          ⟨some 10, .mv (.k (.int .i64 0)), none⟩] [0, 4, 5, 6, 7, 8, 10] [] [[], [53], [54]])
        (.seq
          (.region [
            ⟨some 55, .mv (.t 10), none⟩,
            ⟨some 56, .bin .lss (.t 55) (.k (.int .i64 0)), none⟩,
            ⟨some 57, .mv (.t 56), none⟩,
            ⟨some 58, .mv (.t 7), some (57, false)⟩,
            ⟨some 59, .bin .gtr (.t 58) (.k (.int .i64 0)), some (57, false)⟩,
            ⟨some 60, .pick (.t 57) (.k (.bool true)) (.t 59), none⟩] [0, 4, 5, 6, 7, 8, 10, 60] [] [[], [55], [56], [], [58]])
          (.cond (.t 60)
            (.seq
              (.region [
                ⟨some 2, .mv (.k (.str [])), none⟩,
                ⟨some 3, .mv (.k (.bool false)), none⟩] [2, 3] [78] [])
              .ret)
            .skip))))
    (.region [
      ⟨some 61, .mv (.t 6), none⟩,
      ⟨some 62, .bin .mul (.t 61) (.k (.int .i64 64)), none⟩,
      ⟨some 63, .mv (.t 10), none⟩,
      ⟨some 64, .bin .add (.t 62) (.t 63), none⟩,
      ⟨some 6, .mv (.t 64), none⟩] [0, 4, 5, 6, 7, 8] [] [[], [61], [10], [62, 63]]))

def t_spec_dBytes64_3 : SCode :=
  (.region [
    ⟨some 24, .mv (.t 8), none⟩,
    ⟨some 25, .bin .add (.t 24) (.k (.int .i64 1)), none⟩,
    ⟨some 8, .mv (.t 25), none⟩] [0, 4, 5, 6, 7, 8] [] [[], [24]])

def b_spec_dBytes64_4 : SCode :=
  (.seq
    (.seq
      (.region [
        ⟨some 22, .mv (.t 8), none⟩,
        ⟨some 23, .bin .lss (.t 22) (.k (.int .i64 4)), none⟩] [0, 4, 5, 6, 7, 8, 23] [] [])
      (.cond (.t 23)
        .skip
        (.exit 2)))
    (.seq
      (.block 3
        (.seq
          (.region [
            ⟨some 26, .mv (.t 0), none⟩,
            ⟨some 27, .mv (.t 5), none⟩,
            ⟨some 28, .mv (.t 8), none⟩,
            ⟨some 29, .bin .add (.t 27) (.t 28), none⟩,
            ⟨some 30, .iStr (.t 26) (.t 29), none⟩,
            ⟨some 9, .mv (.t 30), none⟩,
            ⟨some 10, .mv (.k (.int .i64 (-1))), none⟩] [0, 4, 5, 6, 7, 8, 9, 10] [] [[], [], [], [27, 28], [26, 29], [30]])
          (.seq
            (.seq
              (.region [
                ⟨some 11, .mv (.k (.int .i64 0)), none⟩] [0, 4, 5, 6, 7, 8, 9, 10, 11] [] [])
              (.block 4
                (.loop [0, 4, 5, 6, 7, 8, 9, 10, 11]
                  b_spec_dBytes64_1)))
            t_spec_dBytes64_2)))
      t_spec_dBytes64_3))

def t_spec_dBytes64_5 : SCode :=
  (.region [
    ⟨some 65, .mv (.t 4), none⟩,
    ⟨some 66, .mv (.t 6), none⟩,
    ⟨some 67, .bin .shr (.t 66) (.k (.int .u64 16)), none⟩,
    ⟨some 68, .cInt .u8 (.t 67), none⟩,
    ⟨some 69, .mv (.t 6), none⟩,
    ⟨some 70, .bin .shr (.t 69) (.k (.int .u64 8)), none⟩,
    ⟨some 71, .cInt .u8 (.t 70), none⟩,
    ⟨some 72, .mv (.t 6), none⟩,
    ⟨some 73, .cInt .u8 (.t 72), none⟩,
    ⟨some 74, .mkSl 1 3 [(.int .u8 0)] [(0, (.t 68)), (1, (.t 71)), (2, (.t 73))], none⟩,
    ⟨some 75, .mv (.t 7), none⟩,
    ⟨some 76, .bin .sub (.k (.int .i64 3)) (.t 75), none⟩,
    ⟨some 77, .slSl 1 (.t 74) none (some (.t 76)), none⟩,
    ⟨some 78, .app 1 1 (.t 65) (.t 77), none⟩,
    ⟨some 4, .mv (.t 78), none⟩] [0, 4, 5] [74] [[], [], [66], [67], [], [69], [70], [6], [72], [68, 71, 73], [7], [75], [74, 76], [65, 77]])

def t_spec_dBytes64_6 : SCode :=
  (.region [
    ⟨some 20, .mv (.t 5), none⟩,
    ⟨some 21, .bin .add (.t 20) (.k (.int .i64 4)), none⟩,
    ⟨some 5, .mv (.t 21), none⟩] [0, 4, 5] [] [[], [20]])

def b_spec_dBytes64_7 : SCode :=
  (.seq
    (.seq
      (.region [
        ⟨some 16, .mv (.t 5), none⟩,
        ⟨some 17, .mv (.t 0), none⟩,
        ⟨some 18, .len 0 (.t 17), none⟩,
        ⟨some 19, .bin .lss (.t 16) (.t 18), none⟩] [0, 4, 5, 19] [] [[], [], [17]])
      (.cond (.t 19)
        .skip
        (.exit 0)))
    (.seq
      (.block 1
        (.seq
          (.region [
            ⟨some 6, .mv (.k (.int .i64 0)), none⟩,
            ⟨some 7, .mv (.k (.int .i64 0)), none⟩] [0, 4, 5, 6, 7] [] [])
          (.seq
            (.seq
              (.region [
                ⟨some 8, .mv (.k (.int .i64 0)), none⟩] [0, 4, 5, 6, 7, 8] [] [])
              (.block 2
                (.loop [0, 4, 5, 6, 7, 8]
                  b_spec_dBytes64_4)))
            t_spec_dBytes64_5)))
      t_spec_dBytes64_6))

def t_spec_dBytes64_8 : SCode :=
  (.seq
    (.region [
      ⟨some 79, .mv (.t 4), none⟩,
      ⟨some 80, .cBytesStr (.t 79), none⟩,
      ⟨some 2, .mv (.t 80), none⟩,
      ⟨some 3, .mv (.k (.bool true)), none⟩] [2, 3] [78] [[4], [79], [80]])
    .ret)

def c_spec_dBytes64 : SFn := ⟨1,
    (.seq
      (.region [
        ⟨some 2, .mv (.k (.str [])), none⟩,
        ⟨some 3, .mv (.k (.bool false)), none⟩] [0] [] [[2]])
      (.seq
        (.seq
          (.region [
            ⟨some 12, .mv (.t 0), none⟩,
            ⟨some 13, .len 0 (.t 12), none⟩,
            ⟨some 14, .bin .rem (.t 13) (.k (.int .i64 4)), none⟩,
            ⟨some 15, .bin .neq (.t 14) (.k (.int .i64 0)), none⟩] [0, 15] [] [[], [12], [13]])
          (.cond (.t 15)
            (.seq
              (.region [
                ⟨some 2, .mv (.k (.str [])), none⟩,
                ⟨some 3, .mv (.k (.bool false)), none⟩] [2, 3] [] [])
              .ret)
            .skip))
        (.seq
          (.region [
            ⟨some 4, .mv (.k .nilS), none⟩] [0, 4] [] [])
          (.seq
            (.seq
              (.region [
                ⟨some 5, .mv (.k (.int .i64 0)), none⟩] [0, 4, 5] [] [])
              (.block 0
                (.loop [0, 4, 5]
                  b_spec_dBytes64_7)))
            t_spec_dBytes64_8)))),
  [.t 2, .t 3]⟩

def l_spec_dBytes64 : Lay := { rg := [(0, ([0], [])), (1, ([0, 15], [])), (2, ([2, 3], [])), (3, ([0, 4], [])), (4, ([0, 4, 5], [])), (5, ([0, 4, 5, 19], [])), (6, ([0, 4, 5], [])), (7, ([0, 4, 5, 6, 7], [])), (8, ([0, 4, 5, 6, 7, 8], [])), (9, ([0, 4, 5, 6, 7, 8, 23], [])), (10, ([0, 4, 5, 6, 7, 8], [])), (11, ([0, 4, 5, 6, 7, 8, 9, 10], [])), (12, ([0, 4, 5, 6, 7, 8, 9, 10, 11], [])), (13, ([0, 4, 5, 6, 7, 8, 9, 10, 11, 32], [])), (14, ([0, 4, 5, 6, 7, 8, 9, 10, 11], [])), (15, ([0, 4, 5, 6, 7, 8, 9, 10, 11, 38], [])), (16, ([0, 4, 5, 6, 7, 8, 9, 10, 11], [])), (17, ([0, 4, 5, 6, 7, 8, 10, 52], [])), (18, ([0, 4, 5, 6, 7, 8, 10], [])), (19, ([0, 4, 5, 6, 7, 8, 10, 60], [])), (20, ([2, 3], [78])), (21, ([0, 4, 5, 6, 7, 8], [])), (22, ([0, 4, 5], [74])), (23, ([2, 3], [78])), (1000005, ([0, 4, 5], [])), (1000009, ([0, 4, 5, 6, 7, 8], [])), (1000013, ([0, 4, 5, 6, 7, 8, 9, 10, 11], []))], dd := [(0, [[2]]), (1, [[], [12], [13]]), (5, [[], [], [17]]), (6, [[], [20]]), (10, [[], [24]]), (11, [[], [], [], [27, 28], [26, 29], [30]]), (14, [[], [33]]), (15, [[], [35]]), (17, [[9], [40], [41], [], [43], [42, 44], [45], [], [47], [], [49], [48, 50]]), (18, [[], [53], [54]]), (19, [[], [55], [56], [], [58]]), (21, [[], [61], [10], [62, 63]]), (22, [[], [], [66], [67], [], [69], [70], [6], [72], [68, 71, 73], [7], [75], [74, 76], [65, 77]]), (23, [[4], [79], [80]])] }

/- spec.dAmong -/
def b_spec_dAmong_1 : SCode :=
  (.seq
    (.seq
      (.region [
        ⟨some 6, .mv (.t 5), none⟩,
        ⟨some 7, .mv (.t 1), none⟩,
        ⟨some 8, .len 1 (.t 7), none⟩,
        ⟨some 9, .bin .lss (.t 6) (.t 8), none⟩] [0, 1, 5, 9] [] [[], [], [7]])
      (.cond (.t 9)
        .skip
        (.exit 0)))
    (.seq
      (.block 1
        (.seq
          (.region [
            ⟨some 12, .mv (.t 1), none⟩,
            ⟨some 13, .mv (.t 5), none⟩,
            ⟨some 14, .iAddr 1 (.t 12) (.t 13), none⟩,
            ⟨some 15, .load none (.t 14), none⟩,
            ⟨some 16, .mv (.t 0), none⟩,
            ⟨some 17, .bin .eql (.t 15) (.t 16), none⟩] [0, 1, 5, 17] [] [[], [], [12, 13], [14]])
          (.cond (.t 17)
            (.seq
              (.region [
                ⟨some 4, .mv (.k (.bool true)), none⟩] [4] [] [])
              .ret)
            .skip)))
      (.region [
        ⟨some 10, .mv (.t 5), none⟩,
        ⟨some 11, .bin .add (.t 10) (.k (.int .i64 1)), none⟩,
        ⟨some 5, .mv (.t 11), none⟩] [0, 1, 5] [] [[], [10]])))

def t_spec_dAmong_2 : SCode :=
  (.seq
    (.region [
      ⟨some 4, .mv (.k (.bool false)), none⟩] [4] [] [])
    .ret)

def c_spec_dAmong : SFn := ⟨2,
    (.seq
      (.region [
        ⟨some 4, .mv (.k (.bool false)), none⟩] [0, 1] [] [])
      (.seq
        (.seq
          (.region [
            ⟨some 5, .mv (.k (.int .i64 0)), none⟩] [0, 1, 5] [] [])
          (.block 0
            (.loop [0, 1, 5]
              b_spec_dAmong_1)))
        t_spec_dAmong_2)),
  [.t 4]⟩

def l_spec_dAmong : Lay := { rg := [(0, ([0, 1], [])), (1, ([0, 1, 5], [])), (2, ([0, 1, 5, 9], [])), (3, ([0, 1, 5], [])), (4, ([0, 1, 5, 17], [])), (5, ([4], [])), (6, ([4], [])), (1000002, ([0, 1, 5], []))], dd := [(2, [[], [], [7]]), (3, [[], [10]]), (4, [[], [], [12, 13], [14]])] }

end Wax

/- Functions as the abstract machine has them. -/
namespace Wax
open Go (IntKind)

/- slices.Clone[[]byte,byte] -/
def c_slices_Clone : SFn := ⟨1,
    (.seq
      (.region [
        ⟨some 2, .mv (.k .nilS), none⟩] [0] [] [])
      (.seq
        (.seq
          (.region [
            ⟨some 3, .mv (.t 0), none⟩,
            ⟨some 4, .isNil 1 false (.t 3), none⟩] [0, 4] [] [])
          (.cond (.t 4)
            (.seq
              (.region [
                ⟨some 2, .mv (.k .nilS), none⟩] [2] [] [])
              .ret)
            .skip))
        (.seq
          (.region [
            ⟨some 5, .mkSl 1 0 [(.int .u8 0)] [], none⟩,
            ⟨some 6, .mv (.t 0), none⟩,
            ⟨some 7, .app 1 1 (.t 5) (.t 6), none⟩,
            ⟨some 2, .mv (.t 7), none⟩] [2] [] [[], [0], [5, 6]])
          .ret))),
  [.t 2]⟩

def l_slices_Clone : Lay := { rg := [(0, ([0], [])), (1, ([0, 4], [])), (2, ([2], [])), (3, ([2], []))], dd := [(3, [[], [0], [5, 6]])] }

end Wax

/- Functions as the abstract machine has them. -/
namespace Wax
open Go (IntKind)

/- laws.zzFits10 -/
def c_laws_zzFits10 : SFn := ⟨1,
    (.seq
      (.region [
        ⟨some 1, .box (.t 0), none⟩,
        ⟨some 2, .mv (.k (.bool false)), none⟩] [1] [] [[0]])
      (.seq
        (.seq
          (.region [
            ⟨some 3, .fAddr 0 (.t 1), none⟩,
            ⟨some 4, .load none (.t 3), none⟩,
            ⟨some 5, .len 0 (.t 4), none⟩,
            ⟨some 6, .bin .gtr (.t 5) (.k (.int .i64 2147483647)), none⟩] [1, 6] [] [[], [3], [4]])
          (.cond (.t 6)
            (.seq
              (.region [
                ⟨some 2, .mv (.k (.bool false)), none⟩] [2] [1] [])
              .ret)
            .skip))
        (.seq
          (.seq
            (.region [
              ⟨some 7, .fAddr 1 (.t 1), none⟩,
              ⟨some 8, .load none (.t 7), none⟩,
              ⟨some 9, .len 0 (.t 8), none⟩,
              ⟨some 10, .bin .gtr (.t 9) (.k (.int .i64 2147483647)), none⟩] [1, 10] [] [[], [7], [8]])
            (.cond (.t 10)
              (.seq
                (.region [
                  ⟨some 2, .mv (.k (.bool false)), none⟩] [2] [1] [])
                .ret)
              .skip))
          (.seq
            (.seq
              (.region [
                ⟨some 11, .fAddr 2 (.t 1), none⟩,
                ⟨some 12, .load none (.t 11), none⟩,
                ⟨some 13, .len 0 (.t 12), none⟩,
                ⟨some 14, .bin .gtr (.t 13) (.k (.int .i64 2147483647)), none⟩] [1, 14] [] [[], [11], [12]])
              (.cond (.t 14)
                (.seq
                  (.region [
                    ⟨some 2, .mv (.k (.bool false)), none⟩] [2] [1] [])
                  .ret)
                .skip))
            (.seq
              (.seq
                (.region [
                  ⟨some 15, .fAddr 3 (.t 1), none⟩,
                  ⟨some 16, .load none (.t 15), none⟩,
                  ⟨some 17, .len 0 (.t 16), none⟩,
                  ⟨some 18, .bin .gtr (.t 17) (.k (.int .i64 2147483647)), none⟩] [1, 18] [] [[], [15], [16]])
                (.cond (.t 18)
                  (.seq
                    (.region [
                      ⟨some 2, .mv (.k (.bool false)), none⟩] [2] [1] [])
                    .ret)
                  .skip))
              (.seq
                (.seq
                  (.region [
                    ⟨some 19, .fAddr 4 (.t 1), none⟩,
                    ⟨some 20, .load none (.t 19), none⟩,
                    ⟨some 21, .len 1 (.t 20), none⟩,
                    ⟨some 22, .bin .gtr (.t 21) (.k (.int .i64 2147483647)), none⟩] [1, 22] [] [[], [19], [20]])
                  (.cond (.t 22)
                    (.seq
                      (.region [
                        ⟨some 2, .mv (.k (.bool false)), none⟩] [2] [1] [])
                      .ret)
                    .skip))
                (.seq
                  (.seq
                    (.region [
                      ⟨some 23, .fAddr 5 (.t 1), none⟩,
                      ⟨some 24, .load none (.t 23), none⟩,
                      ⟨some 25, .len 0 (.t 24), none⟩,
                      ⟨some 26, .bin .gtr (.t 25) (.k (.int .i64 2147483647)), none⟩] [1, 26] [] [[], [23], [24]])
                    (.cond (.t 26)
                      (.seq
                        (.region [
                          ⟨some 2, .mv (.k (.bool false)), none⟩] [2] [1] [])
                        .ret)
                      .skip))
                  (.seq
                    (.seq
                      (.region [
                        ⟨some 27, .fAddr 6 (.t 1), none⟩,
                        ⟨some 28, .load none (.t 27), none⟩,
                        ⟨some 29, .len 0 (.t 28), none⟩,
                        ⟨some 30, .bin .gtr (.t 29) (.k (.int .i64 2147483647)), none⟩] [1, 30] [] [[], [27], [28]])
                      (.cond (.t 30)
                        (.seq
                          (.region [
                            ⟨some 2, .mv (.k (.bool false)), none⟩] [2] [1] [])
                          .ret)
                        .skip))
                    (.seq
                      (.seq
                        (.region [
                          ⟨some 31, .fAddr 7 (.t 1), none⟩,
                          ⟨some 32, .load none (.t 31), none⟩,
                          ⟨some 33, .call 32 [(.t 32)], none⟩,
                          ⟨some 34, .un .not (.t 33), none⟩] [1, 34] [] [[], [31], [32]])
                        (.cond (.t 34)
                          (.seq
                            (.region [
                              ⟨some 2, .mv (.k (.bool false)), none⟩] [2] [1] [])
                            .ret)
                          .skip))
                      (.seq
                        (.seq
                          (.region [
                            ⟨some 35, .fAddr 11 (.t 1), none⟩,
                            ⟨some 36, .load none (.t 35), none⟩,
                            ⟨some 37, .call 32 [(.t 36)], none⟩,
                            ⟨some 38, .un .not (.t 37), none⟩] [38] [1] [[1], [35], [36]])
                          (.cond (.t 38)
                            (.seq
                              (.region [
                                ⟨some 2, .mv (.k (.bool false)), none⟩] [2] [] [])
                              .ret)
                            .skip))
                        (.seq
                          (.region [
                            ⟨some 2, .mv (.k (.bool true)), none⟩] [2] [] [])
                          .ret))))))))))),
  [.t 2]⟩

def l_laws_zzFits10 : Lay := { rg := [(0, ([1], [])), (1, ([1, 6], [])), (2, ([2], [1])), (3, ([1, 10], [])), (4, ([2], [1])), (5, ([1, 14], [])), (6, ([2], [1])), (7, ([1, 18], [])), (8, ([2], [1])), (9, ([1, 22], [])), (10, ([2], [1])), (11, ([1, 26], [])), (12, ([2], [1])), (13, ([1, 30], [])), (14, ([2], [1])), (15, ([1, 34], [])), (16, ([2], [1])), (17, ([38], [1])), (18, ([2], [])), (19, ([2], []))], dd := [(0, [[0]]), (1, [[], [3], [4]]), (3, [[], [7], [8]]), (5, [[], [11], [12]]), (7, [[], [15], [16]]), (9, [[], [19], [20]]), (11, [[], [23], [24]]), (13, [[], [27], [28]]), (15, [[], [31], [32]]), (17, [[1], [35], [36]])] }

/- laws.dOptions -/
def c_laws_dOptions : SFn := ⟨1,
    (.seq
      (.region [
        ⟨some 1, .box (.t 0), none⟩,
        ⟨some 2, .mv (.k (.bool false)), none⟩] [1] [] [[0]])
      (.seq
        (.region [
          ⟨some 3, .fAddr 0 (.t 1), none⟩,
          ⟨some 4, .load none (.t 3), none⟩,
          ⟨some 5, .fAddr 1 (.t 1), none⟩,
          ⟨some 6, .load none (.t 5), none⟩,
          ⟨some 7, .fAddr 2 (.t 1), none⟩,
          ⟨some 8, .load none (.t 7), none⟩,
          ⟨some 9, .fAddr 3 (.t 1), none⟩,
          ⟨some 10, .load none (.t 9), none⟩,
          ⟨some 11, .fAddr 5 (.t 1), none⟩,
          ⟨some 12, .load none (.t 11), none⟩,
          ⟨some 13, .fAddr 6 (.t 1), none⟩,
          ⟨some 14, .load none (.t 13), none⟩,
          ⟨some 15, .mkSl 1 6 [(.str [])] [(0, (.t 4)), (1, (.t 6)), (2, (.t 8)), (3, (.t 10)), (4, (.t 12)), (5, (.t 14))], none⟩,
          ⟨some 16, .call 10 [(.k (.int .i64 200)), (.t 15)], none⟩,
          ⟨some 17, .mv (.t 16), none⟩,
          ⟨some 18, .fAddr 7 (.t 1), some (17, true)⟩,
          ⟨some 19, .load none (.t 18), some (17, true)⟩,
          ⟨some 20, .call 10 [(.k (.int .i64 200)), (.t 19)], some (17, true)⟩,
          ⟨some 21, .pick (.t 17) (.t 20) (.k (.bool false)), none⟩,
          ⟨some 22, .mv (.t 21), none⟩,
          ⟨some 23, .fAddr 11 (.t 1), some (22, true)⟩,
          ⟨some 24, .load none (.t 23), some (22, true)⟩,
          ⟨some 25, .call 10 [(.k (.int .i64 200)), (.t 24)], some (22, true)⟩,
          ⟨some 26, .pick (.t 22) (.t 25) (.k (.bool false)), none⟩,
          ⟨some 27, .mv (.t 26), none⟩,
          ⟨some 28, .fAddr 7 (.t 1), some (27, true)⟩,
          ⟨some 29, .load none (.t 28), some (27, true)⟩,
          ⟨some 30, .len 1 (.t 29), some (27, true)⟩,
          ⟨some 31, .bin .leq (.t 30) (.k (.int .i64 20)), some (27, true)⟩,
          ⟨some 32, .pick (.t 27) (.t 31) (.k (.bool false)), none⟩,
          ⟨some 33, .mv (.t 32), none⟩,
          ⟨some 34, .fAddr 11 (.t 1), some (33, true)⟩,
          ⟨some 35, .load none (.t 34), some (33, true)⟩,
          ⟨some 36, .len 1 (.t 35), some (33, true)⟩,
          ⟨some 37, .bin .leq (.t 36) (.k (.int .i64 20)), some (33, true)⟩,
          ⟨some 38, .pick (.t 33) (.t 37) (.k (.bool false)), none⟩,
          ⟨some 39, .mv (.t 38), none⟩,
          ⟨some 40, .fAddr 4 (.t 1), some (39, true)⟩,
          ⟨some 41, .load none (.t 40), some (39, true)⟩,
          ⟨some 42, .len 1 (.t 41), some (39, true)⟩,
          ⟨some 43, .bin .leq (.t 42) (.k (.int .i64 1000)), some (39, true)⟩,
          ⟨some 44, .pick (.t 39) (.t 43) (.k (.bool false)), none⟩,
          ⟨some 45, .mv (.t 44), none⟩,
          ⟨some 46, .fAddr 10 (.t 1), some (45, true)⟩,
          ⟨some 47, .load none (.t 46), some (45, true)⟩,
          ⟨some 48, .bin .geq (.t 47) (.k (.int .i64 0)), some (45, true)⟩,
          ⟨some 49, .pick (.t 45) (.t 48) (.k (.bool false)), none⟩,
          ⟨some 50, .mv (.t 49), none⟩,
          ⟨some 51, .fAddr 10 (.t 1), some (50, true)⟩,
          ⟨some 52, .load none (.t 51), some (50, true)⟩,
          ⟨some 53, .bin .lss (.t 52) (.k (.int .i64 8589934592)), some (50, true)⟩,
          ⟨some 54, .pick (.t 50) (.t 53) (.k (.bool false)), none⟩,
          ⟨some 55, .mv (.t 54), none⟩,
          ⟨some 56, .fAddr 9 (.t 1), some (55, true)⟩,
          ⟨some 57, .load none (.t 56), some (55, true)⟩,
          ⟨some 58, .bin .gtr (.t 57) (.k (.int .i64 (-8589934592))), some (55, true)⟩,
          ⟨some 59, .pick (.t 55) (.t 58) (.k (.bool false)), none⟩,
          ⟨some 60, .mv (.t 59), none⟩,
          ⟨some 61, .fAddr 9 (.t 1), some (60, true)⟩,
          ⟨some 62, .load none (.t 61), some (60, true)⟩,
          ⟨some 63, .bin .lss (.t 62) (.k (.int .i64 8589934592)), some (60, true)⟩,
          ⟨some 64, .pick (.t 60) (.t 63) (.k (.bool false)), none⟩,
          ⟨some 2, .mv (.t 64), none⟩] [2] [1, 15] [[], [3], [], [5], [], [7], [], [9], [], [11], [], [13], [4, 6, 8, 10, 12, 14], [15], [16], [], [18], [19], [17, 20], [21], [], [23], [24], [22, 25], [26], [], [28], [29], [30], [27, 31], [32], [], [34], [35], [36], [33, 37], [38], [], [40], [41], [42], [39, 43], [44], [], [46], [47], [45, 48], [49], [], [51], [52], [50, 53], [54], [], [56], [57], [55, 58], [59], [1], [61], [62], [60, 63]])
        .ret)),
  [.t 2]⟩

def l_laws_dOptions : Lay := { rg := [(0, ([1], [])), (1, ([2], [1, 15]))], dd := [(0, [[0]]), (1, [[], [3], [], [5], [], [7], [], [9], [], [11], [], [13], [4, 6, 8, 10, 12, 14], [15], [16], [], [18], [19], [17, 20], [21], [], [23], [24], [22, 25], [26], [], [28], [29], [30], [27, 31], [32], [], [34], [35], [36], [33, 37], [38], [], [40], [41], [42], [39, 43], [44], [], [46], [47], [45, 48], [49], [], [51], [52], [50, 53], [54], [], [56], [57], [55, 58], [59], [1], [61], [62], [60, 63]])] }

/- laws.dKeyed -/
def c_laws_dKeyed : SFn := ⟨1,
    (.seq
      (.region [
        ⟨some 1, .box (.t 0), none⟩,
        ⟨some 2, .mv (.k (.bool false)), none⟩] [1] [] [[0]])
      (.seq
        (.region [
          ⟨some 3, .fAddr 3 (.t 1), none⟩,
          ⟨some 4, .load none (.t 3), none⟩,
          ⟨some 5, .bin .eql (.t 4) (.k (.str [101, 100, 50, 53, 53, 49, 57])), none⟩,
          ⟨some 6, .mv (.t 5), none⟩,
          ⟨some 7, .fAddr 4 (.t 1), some (6, true)⟩,
          ⟨some 8, .load none (.t 7), some (6, true)⟩,
          ⟨some 9, .len 1 (.t 8), some (6, true)⟩,
          ⟨some 10, .bin .eql (.t 9) (.k (.int .i64 32)), some (6, true)⟩,
          ⟨some 11, .pick (.t 6) (.t 10) (.k (.bool false)), none⟩,
          ⟨some 12, .mv (.t 11), none⟩,
          ⟨some 13, .fAddr 3 (.t 1), some (12, false)⟩,
          ⟨some 14, .load none (.t 13), some (12, false)⟩,
          ⟨some 15, .bin .eql (.t 14) (.k (.str [114, 115, 97])), some (12, false)⟩,
          ⟨some 16, .mv (.t 15), some (12, false)⟩,
          ⟨some 17, .fAddr 4 (.t 1), some (16, true)⟩,
          ⟨some 18, .load none (.t 17), some (16, true)⟩,
          ⟨some 19, .len 1 (.t 18), some (16, true)⟩,
          ⟨some 20, .bin .geq (.t 19) (.k (.int .i64 128)), some (16, true)⟩,
          ⟨some 21, .pick (.t 16) (.t 20) (.k (.bool false)), some (12, false)⟩,
          ⟨some 22, .pick (.t 12) (.k (.bool true)) (.t 21), none⟩,
          ⟨some 2, .mv (.t 22), none⟩] [2] [1] [[], [3], [4], [5], [], [7], [8], [9], [6, 10], [11], [], [13], [14], [15], [1], [17], [18], [19], [16, 20], [12, 21]])
        .ret)),
  [.t 2]⟩

def l_laws_dKeyed : Lay := { rg := [(0, ([1], [])), (1, ([2], [1]))], dd := [(0, [[0]]), (1, [[], [3], [4], [5], [], [7], [8], [9], [6, 10], [11], [], [13], [14], [15], [1], [17], [18], [19], [16, 20], [12, 21]])] }

/- laws.FnDRecordBack -/
def c_laws_FnDRecordBack : SFn := ⟨1,
    (.seq
      (.region [
        ⟨some 1, .box (.t 0), none⟩,
        ⟨some 2, .mv (.k (.bool false)), none⟩] [1] [] [[0]])
      (.seq
        (.seq
          (.region [
            ⟨some 5, .load (some 12) (.t 1), none⟩,
            ⟨some 6, .call 94 [(.t 5)], none⟩,
            ⟨some 7, .un .not (.t 6), none⟩] [1, 7] [] [[], [5]])
          (.cond (.t 7)
            (.seq
              (.region [
                ⟨some 2, .mv (.k (.bool true)), none⟩] [2] [1] [])
              .ret)
            .skip))
        (.seq
          (.seq
            (.region [
              ⟨some 8, .load (some 12) (.t 1), none⟩,
              ⟨some 9, .call 95 [(.t 8)], none⟩,
              ⟨some 10, .un .not (.t 9), none⟩,
              ⟨some 11, .mv (.t 10), none⟩,
              ⟨some 12, .load (some 12) (.t 1), some (11, false)⟩,
              ⟨some 13, .call 96 [(.t 12)], some (11, false)⟩,
              ⟨some 14, .un .not (.t 13), some (11, false)⟩,
              ⟨some 15, .pick (.t 11) (.k (.bool true)) (.t 14), none⟩] [1, 15] [] [[], [8], [9], [10], [], [12], [13]])
            (.cond (.t 15)
              (.seq
                (.region [
                  ⟨some 16, .call 11 [], none⟩,
                  ⟨some 2, .mv (.t 16), none⟩] [2] [1] [])
                .ret)
              .skip))
          (.seq
            (.region [
              ⟨some 18, .load (some 12) (.t 1), none⟩,
              ⟨some 19, .call 97 [(.t 18)], none⟩,
              ⟨some 20, .call 88 [(.t 19)], none⟩,
              ⟨some 17, .mv (.t 20), none⟩,
              ⟨some 21, .extr (.t 17) 0, none⟩,
              ⟨some 22, .extr (.t 17) 1, none⟩,
              ⟨some 3, .alloc [(.str []), .nilS, (.int .i64 0), .nilS, .nilS, .nilS, (.str []), (.bool false), (.bool false)], none⟩,
              ⟨none, .store 9 (.t 3) (.t 21), none⟩,
              ⟨some 4, .mv (.t 22), none⟩] [1, 3, 4] [] [[], [18], [19], [20], [], [17], [], [21]])
            (.seq
              (.region [
                ⟨some 23, .mv (.t 4), none⟩,
                ⟨some 24, .bin .eql (.t 23) (.k (.int .i64 0)), none⟩,
                ⟨some 25, .mv (.t 24), none⟩,
                ⟨some 26, .fAddr 0 (.t 3), some (25, true)⟩,
                ⟨some 27, .load none (.t 26), some (25, true)⟩,
                ⟨some 28, .fAddr 3 (.t 1), some (25, true)⟩,
                ⟨some 29, .load none (.t 28), some (25, true)⟩,
                ⟨some 30, .bin .eql (.t 27) (.t 29), some (25, true)⟩,
                ⟨some 31, .pick (.t 25) (.t 30) (.k (.bool false)), none⟩,
                ⟨some 32, .mv (.t 31), none⟩,
                ⟨some 33, .fAddr 1 (.t 3), some (32, true)⟩,
                ⟨some 34, .load none (.t 33), some (32, true)⟩,
                ⟨some 35, .cBytesStr (.t 34), some (32, true)⟩,
                ⟨some 36, .fAddr 4 (.t 1), some (32, true)⟩,
                ⟨some 37, .load none (.t 36), some (32, true)⟩,
                ⟨some 38, .cBytesStr (.t 37), some (32, true)⟩,
                ⟨some 39, .bin .eql (.t 35) (.t 38), some (32, true)⟩,
                ⟨some 40, .pick (.t 32) (.t 39) (.k (.bool false)), none⟩,
                ⟨some 41, .mv (.t 40), none⟩,
                ⟨some 42, .fAddr 7 (.t 3), some (41, true)⟩,
                ⟨some 43, .load none (.t 42), some (41, true)⟩,
                ⟨some 44, .pick (.t 41) (.t 43) (.k (.bool false)), none⟩,
                ⟨some 45, .mv (.t 44), none⟩,
                ⟨some 46, .fAddr 8 (.t 3), some (45, true)⟩,
                ⟨some 47, .load none (.t 46), some (45, true)⟩,
                ⟨some 48, .pick (.t 45) (.t 47) (.k (.bool false)), none⟩,
                ⟨some 2, .mv (.t 48), none⟩] [2] [1, 3] [[4], [23], [24], [], [26], [], [28], [27, 29], [25, 30], [31], [], [33], [34], [1], [36], [37], [35, 38], [32, 39], [40], [], [42], [41, 43], [44], [3], [46], [45, 47]])
              .ret))))),
  [.t 2]⟩

def l_laws_FnDRecordBack : Lay := { rg := [(0, ([1], [])), (1, ([1, 7], [])), (2, ([2], [1])), (3, ([1, 15], [])), (4, ([2], [1])), (5, ([1, 3, 4], [])), (6, ([2], [1, 3]))], dd := [(0, [[0]]), (1, [[], [5]]), (3, [[], [8], [9], [10], [], [12], [13]]), (5, [[], [18], [19], [20], [], [17], [], [21]]), (6, [[4], [23], [24], [], [26], [], [28], [27, 29], [25, 30], [31], [], [33], [34], [1], [36], [37], [35, 38], [32, 39], [40], [], [42], [41, 43], [44], [3], [46], [45, 47]])] }

/- impl.DPublic -/
def c_impl_DPublic : SFn := ⟨1,
    (.seq
      (.region [
        ⟨some 1, .box (.t 0), none⟩,
        ⟨some 2, .mv (.k (.str [])), none⟩] [1] [] [[0]])
      (.seq
        (.region [
          ⟨some 3, .fAddr 3 (.t 1), none⟩,
          ⟨some 4, .load none (.t 3), none⟩,
          ⟨some 5, .bin .add (.k (.str [118, 61, 68, 75, 73, 77, 49, 59, 32, 107, 61])) (.t 4), none⟩,
          ⟨some 6, .bin .add (.t 5) (.k (.str [59, 32, 112, 61])), none⟩,
          ⟨some 7, .fAddr 4 (.t 1), none⟩,
          ⟨some 8, .load none (.t 7), none⟩,
          ⟨some 9, .call 92 [(.t 8)], none⟩,
          ⟨some 10, .bin .add (.t 6) (.t 9), none⟩,
          ⟨some 2, .mv (.t 10), none⟩] [2] [1] [])
        .ret)),
  [.t 2]⟩

def l_impl_DPublic : Lay := { rg := [(0, ([1], [])), (1, ([2], [1]))], dd := [(0, [[0]])] }

/- dkim.Encode -/
def c_dkim_Encode : SFn := ⟨1,
    (.seq
      (.region [
        ⟨some 2, .mv (.k (.str [])), none⟩] [0] [] [])
      (.seq
        (.region [
          ⟨some 3, .mv (.t 0), none⟩,
          ⟨some 4, .call 93 [(.t 3)], none⟩,
          ⟨some 2, .mv (.t 4), none⟩] [2] [] [[0], [3]])
        .ret)),
  [.t 2]⟩

def l_dkim_Encode : Lay := { rg := [(0, ([0], [])), (1, ([2], []))], dd := [(1, [[0], [3]])] }

/- dkim.zzEncode -/
def b_dkim_zzEncode_1 : SCode :=
  (.seq
    (.seq
      (.region [
        ⟨some 7, .mv (.t 0), none⟩,
        ⟨some 8, .len 1 (.t 7), none⟩,
        ⟨some 9, .bin .geq (.t 8) (.k (.int .i64 3)), none⟩] [0, 3, 9] [] [[], [7]])
      (.cond (.t 9)
        .skip
        (.exit 0)))
    (.block 1
      (.seq
        (.region [
          ⟨some 10, .mv (.t 0), none⟩,
          ⟨some 11, .iAddr 1 (.t 10) (.k (.int .i64 0)), none⟩,
          ⟨some 12, .load none (.t 11), none⟩,
          ⟨some 13, .cInt .u64 (.t 12), none⟩,
          ⟨some 14, .bin .shl (.t 13) (.k (.int .u64 16)), none⟩,
          ⟨some 15, .mv (.t 0), none⟩,
          ⟨some 16, .iAddr 1 (.t 15) (.k (.int .i64 1)), none⟩,
          ⟨some 17, .load none (.t 16), none⟩,
          ⟨some 18, .cInt .u64 (.t 17), none⟩,
          ⟨some 19, .bin .shl (.t 18) (.k (.int .u64 8)), none⟩,
          ⟨some 20, .bin .or (.t 14) (.t 19), none⟩,
          ⟨some 21, .mv (.t 0), none⟩,
          ⟨some 22, .iAddr 1 (.t 21) (.k (.int .i64 2)), none⟩,
          ⟨some 23, .load none (.t 22), none⟩,
          ⟨some 24, .cInt .u64 (.t 23), none⟩,
          ⟨some 25, .bin .or (.t 20) (.t 24), none⟩,
          ⟨some 4, .mv (.t 25), none⟩] [0, 3, 4] [] [])
        (.seq
          (.region [
            ⟨some 26, .mv (.t 3), none⟩,
            ⟨some 27, .fl (.mv (.t 4)), none⟩,
            ⟨some 28, .fl (.bin .shr (.t 27) (.k (.int .u64 18))), none⟩,
            ⟨some 29, .fl (.iStr (.k (.str [65, 66, 67, 68, 69, 70, 71, 72, 73, 74, 75, 76, 77, 78, 79, 80, 81, 82, 83, 84, 85, 86, 87, 88, 89, 90, 97, 98, 99, 100, 101, 102, 103, 104, 105, 106, 107, 108, 109, 110, 111, 112, 113, 114, 115, 116, 117, 118, 119, 120, 121, 122, 48, 49, 50, 51, 52, 53, 54, 55, 56, 57, 43, 47])) (.t 28)), none⟩,
            ⟨some 30, .fl (.mv (.t 4)), none⟩,
            ⟨some 31, .fl (.bin .shr (.t 30) (.k (.int .u64 12))), none⟩,
            ⟨some 32, .fl (.bin .and (.t 31) (.k (.int .u64 63))), none⟩,
            ⟨some 33, .fl (.iStr (.k (.str [65, 66, 67, 68, 69, 70, 71, 72, 73, 74, 75, 76, 77, 78, 79, 80, 81, 82, 83, 84, 85, 86, 87, 88, 89, 90, 97, 98, 99, 100, 101, 102, 103, 104, 105, 106, 107, 108, 109, 110, 111, 112, 113, 114, 115, 116, 117, 118, 119, 120, 121, 122, 48, 49, 50, 51, 52, 53, 54, 55, 56, 57, 43, 47])) (.t 32)), none⟩,
            ⟨some 34, .fl (.mv (.t 4)), none⟩,
            ⟨some 35, .fl (.bin .shr (.t 34) (.k (.int .u64 6))), none⟩,
            ⟨some 36, .fl (.bin .and (.t 35) (.k (.int .u64 63))), none⟩,
            ⟨some 37, .fl (.iStr (.k (.str [65, 66, 67, 68, 69, 70, 71, 72, 73, 74, 75, 76, 77, 78, 79, 80, 81, 82, 83, 84, 85, 86, 87, 88, 89, 90, 97, 98, 99, 100, 101, 102, 103, 104, 105, 106, 107, 108, 109, 110, 111, 112, 113, 114, 115, 116, 117, 118, 119, 120, 121, 122, 48, 49, 50, 51, 52, 53, 54, 55, 56, 57, 43, 47])) (.t 36)), none⟩,
            ⟨some 38, .fl (.mv (.t 4)), none⟩,
            ⟨some 39, .fl (.bin .and (.t 38) (.k (.int .u64 63))), none⟩,
            ⟨some 40, .fl (.iStr (.k (.str [65, 66, 67, 68, 69, 70, 71, 72, 73, 74, 75, 76, 77, 78, 79, 80, 81, 82, 83, 84, 85, 86, 87, 88, 89, 90, 97, 98, 99, 100, 101, 102, 103, 104, 105, 106, 107, 108, 109, 110, 111, 112, 113, 114, 115, 116, 117, 118, 119, 120, 121, 122, 48, 49, 50, 51, 52, 53, 54, 55, 56, 57, 43, 47])) (.t 39)), none⟩,
            ⟨some 41, .mkSl 1 4 [(.int .u8 0)] [(0, (.t 29)), (1, (.t 33)), (2, (.t 37)), (3, (.t 40))], none⟩,
            ⟨some 42, .app 1 1 (.t 26) (.t 41), none⟩,
            ⟨some 3, .mv (.t 42), none⟩] [0, 3] [41] [])
          (.region [
            ⟨some 43, .mv (.t 0), none⟩,
            ⟨some 44, .slSl 1 (.t 43) (some (.k (.int .i64 3))) none, none⟩,
            ⟨some 0, .mv (.t 44), none⟩] [0, 3] [] [[], [43]])))))

def t_dkim_zzEncode_2 : SCode :=
  (.seq
    (.seq
      (.region [
        ⟨some 45, .mv (.t 0), none⟩,
        ⟨some 46, .len 1 (.t 45), none⟩] [0, 3, 46] [] [])
      (.block 2
        (.seq
          (.region [
            ⟨some 48, .bin .eql (.t 46) (.k (.int .i64 1)), none⟩,
            ⟨some 47, .mv (.t 48), none⟩] [0, 3, 46, 47] [] [])
          (.cond (.t 47)
            (.seq
              (.region [
                ⟨some 49, .mv (.t 0), none⟩,
                ⟨some 50, .iAddr 1 (.t 49) (.k (.int .i64 0)), none⟩,
                ⟨some 51, .load none (.t 50), none⟩,
                ⟨some 52, .cInt .u64 (.t 51), none⟩,
                ⟨some 53, .bin .shl (.t 52) (.k (.int .u64 16)), none⟩,
                ⟨some 5, .mv (.t 53), none⟩] [3, 5] [] [[0], [49], [50], [51], [52]])
              (.region [
                ⟨some 54, .mv (.t 3), none⟩,
                ⟨some 55, .fl (.mv (.t 5)), none⟩,
                ⟨some 56, .fl (.bin .shr (.t 55) (.k (.int .u64 18))), none⟩,
                ⟨some 57, .fl (.iStr (.k (.str [65, 66, 67, 68, 69, 70, 71, 72, 73, 74, 75, 76, 77, 78, 79, 80, 81, 82, 83, 84, 85, 86, 87, 88, 89, 90, 97, 98, 99, 100, 101, 102, 103, 104, 105, 106, 107, 108, 109, 110, 111, 112, 113, 114, 115, 116, 117, 118, 119, 120, 121, 122, 48, 49, 50, 51, 52, 53, 54, 55, 56, 57, 43, 47])) (.t 56)), none⟩,
                ⟨some 58, .fl (.mv (.t 5)), none⟩,
                ⟨some 59, .fl (.bin .shr (.t 58) (.k (.int .u64 12))), none⟩,
                ⟨some 60, .fl (.bin .and (.t 59) (.k (.int .u64 63))), none⟩,
                ⟨some 61, .fl (.iStr (.k (.str [65, 66, 67, 68, 69, 70, 71, 72, 73, 74, 75, 76, 77, 78, 79, 80, 81, 82, 83, 84, 85, 86, 87, 88, 89, 90, 97, 98, 99, 100, 101, 102, 103, 104, 105, 106, 107, 108, 109, 110, 111, 112, 113, 114, 115, 116, 117, 118, 119, 120, 121, 122, 48, 49, 50, 51, 52, 53, 54, 55, 56, 57, 43, 47])) (.t 60)), none⟩,
                ⟨some 62, .mkSl 1 4 [(.int .u8 0)] [(0, (.t 57)), (1, (.t 61)), (2, (.k (.int .u8 61))), (3, (.k (.int .u8 61)))], none⟩,
                ⟨some 63, .app 1 1 (.t 54) (.t 62), none⟩,
                ⟨some 3, .mv (.t 63), none⟩] [3] [62] []))
            (.seq
              (.region [
                ⟨some 65, .bin .eql (.t 46) (.k (.int .i64 2)), none⟩,
                ⟨some 64, .mv (.t 65), none⟩] [0, 3, 64] [] [[46]])
              (.cond (.t 64)
                (.seq
                  (.region [
                    ⟨some 66, .mv (.t 0), none⟩,
                    ⟨some 67, .iAddr 1 (.t 66) (.k (.int .i64 0)), none⟩,
                    ⟨some 68, .load none (.t 67), none⟩,
                    ⟨some 69, .cInt .u64 (.t 68), none⟩,
                    ⟨some 70, .bin .shl (.t 69) (.k (.int .u64 16)), none⟩,
                    ⟨some 71, .mv (.t 0), none⟩,
                    ⟨some 72, .iAddr 1 (.t 71) (.k (.int .i64 1)), none⟩,
                    ⟨some 73, .load none (.t 72), none⟩,
                    ⟨some 74, .cInt .u64 (.t 73), none⟩,
                    ⟨some 75, .bin .shl (.t 74) (.k (.int .u64 8)), none⟩,
                    ⟨some 76, .bin .or (.t 70) (.t 75), none⟩,
                    ⟨some 6, .mv (.t 76), none⟩] [3, 6] [] [])
                  (.region [
                    ⟨some 77, .mv (.t 3), none⟩,
                    ⟨some 78, .fl (.mv (.t 6)), none⟩,
                    ⟨some 79, .fl (.bin .shr (.t 78) (.k (.int .u64 18))), none⟩,
                    ⟨some 80, .fl (.iStr (.k (.str [65, 66, 67, 68, 69, 70, 71, 72, 73, 74, 75, 76, 77, 78, 79, 80, 81, 82, 83, 84, 85, 86, 87, 88, 89, 90, 97, 98, 99, 100, 101, 102, 103, 104, 105, 106, 107, 108, 109, 110, 111, 112, 113, 114, 115, 116, 117, 118, 119, 120, 121, 122, 48, 49, 50, 51, 52, 53, 54, 55, 56, 57, 43, 47])) (.t 79)), none⟩,
                    ⟨some 81, .fl (.mv (.t 6)), none⟩,
                    ⟨some 82, .fl (.bin .shr (.t 81) (.k (.int .u64 12))), none⟩,
                    ⟨some 83, .fl (.bin .and (.t 82) (.k (.int .u64 63))), none⟩,
                    ⟨some 84, .fl (.iStr (.k (.str [65, 66, 67, 68, 69, 70, 71, 72, 73, 74, 75, 76, 77, 78, 79, 80, 81, 82, 83, 84, 85, 86, 87, 88, 89, 90, 97, 98, 99, 100, 101, 102, 103, 104, 105, 106, 107, 108, 109, 110, 111, 112, 113, 114, 115, 116, 117, 118, 119, 120, 121, 122, 48, 49, 50, 51, 52, 53, 54, 55, 56, 57, 43, 47])) (.t 83)), none⟩,
                    ⟨some 85, .fl (.mv (.t 6)), none⟩,
                    ⟨some 86, .fl (.bin .shr (.t 85) (.k (.int .u64 6))), none⟩,
                    ⟨some 87, .fl (.bin .and (.t 86) (.k (.int .u64 63))), none⟩,
                    ⟨some 88, .fl (.iStr (.k (.str [65, 66, 67, 68, 69, 70, 71, 72, 73, 74, 75, 76, 77, 78, 79, 80, 81, 82, 83, 84, 85, 86, 87, 88, 89, 90, 97, 98, 99, 100, 101, 102, 103, 104, 105, 106, 107, 108, 109, 110, 111, 112, 113, 114, 115, 116, 117, 118, 119, 120, 121, 122, 48, 49, 50, 51, 52, 53, 54, 55, 56, 57, 43, 47])) (.t 87)), none⟩,
                    ⟨some 89, .mkSl 1 4 [(.int .u8 0)] [(0, (.t 80)), (1, (.t 84)), (2, (.t 88)), (3, (.k (.int .u8 61)))], none⟩,
                    ⟨some 90, .app 1 1 (.t 77) (.t 89), none⟩,
                    ⟨some 3, .mv (.t 90), none⟩] [3] [89] []))
                .skip))))))
    (.seq
      (.region [
        ⟨some 91, .mv (.t 3), none⟩,
        ⟨some 92, .cBytesStr (.t 91), none⟩,
        ⟨some 2, .mv (.t 92), none⟩] [2] [42, 63, 90] [[3], [91]])
      .ret))

def c_dkim_zzEncode : SFn := ⟨1,
    (.seq
      (.region [
        ⟨some 2, .mv (.k (.str [])), none⟩] [0] [] [])
      (.seq
        (.region [
          ⟨some 3, .mv (.k .nilS), none⟩] [0, 3] [] [])
        (.seq
          (.block 0
            (.loop [0, 3]
              b_dkim_zzEncode_1))
          t_dkim_zzEncode_2))),
  [.t 2]⟩

def l_dkim_zzEncode : Lay := { rg := [(0, ([0], [])), (1, ([0, 3], [])), (2, ([0, 3, 9], [])), (3, ([0, 3, 4], [])), (4, ([0, 3], [41])), (5, ([0, 3], [])), (6, ([0, 3, 46], [])), (7, ([0, 3, 46, 47], [])), (8, ([3, 5], [])), (9, ([3], [62])), (10, ([0, 3, 64], [])), (11, ([3, 6], [])), (12, ([3], [89])), (13, ([2], [42, 63, 90])), (1000002, ([0, 3], []))], dd := [(2, [[], [7]]), (5, [[], [43]]), (8, [[0], [49], [50], [51], [52]]), (10, [[46]]), (13, [[3], [91]])], fl := [27, 28, 29, 30, 31, 32, 33, 34, 35, 36, 37, 38, 39, 40, 55, 56, 57, 58, 59, 60, 61, 78, 79, 80, 81, 82, 83, 84, 85, 86, 87, 88] }

end Wax

/- Contracts, one behind the other. -/
namespace Wax
open Go Go.RowKit

/-- No contract; methods by a table. -/
def gam0 (ms : List (Nat × String × Nat)) : Gam := ⟨fun _ _ => none, fun t name => (ms.find? fun m => m.1 == t && m.2.1 == name).map (·.2.2), fun _ _ _ => none⟩

def Gam.add (Γ : Gam) (g : Nat) (c : List AV → Option AV) : Gam := ⟨fun h => if h = g then c else Γ.fn h, Γ.mth, Γ.st⟩

def Gam.addS (Γ : Gam) (g : Nat) (c : List AV → List (Nat × AObj) → Option (AV × List (Nat × AObj))) : Gam := ⟨Γ.fn, Γ.mth, fun h => if h = g then c else Γ.st h⟩

@[simp] theorem add_fn_same {Γ : Gam} {g : Nat} {c : List AV → Option AV} : (Γ.add g c).fn g = c := by simp [Gam.add]
theorem add_fn_other {Γ : Gam} {g h : Nat} {c : List AV → Option AV} (e : h ≠ g) : (Γ.add g c).fn h = Γ.fn h := by simp [Gam.add, e]
@[simp] theorem add_mth {Γ : Gam} {g : Nat} {c : List AV → Option AV} : (Γ.add g c).mth = Γ.mth := rfl

@[simp] theorem add_st {Γ : Gam} {g : Nat} {c : List AV → Option AV} : (Γ.add g c).st = Γ.st := rfl
@[simp] theorem addS_fn {Γ : Gam} {g : Nat} {c} : (Γ.addS g c).fn = Γ.fn := rfl
@[simp] theorem addS_mth {Γ : Gam} {g : Nat} {c} : (Γ.addS g c).mth = Γ.mth := rfl
@[simp] theorem addS_st_same {Γ : Gam} {g : Nat} {c} : (Γ.addS g c).st g = c := by simp [Gam.addS]
theorem addS_st_other {Γ : Gam} {g h : Nat} {c} (e : h ≠ g) : (Γ.addS g c).st h = Γ.st h := by simp [Gam.addS, e]

def injB (l : List (Nat × Nat)) : Bool := l.all fun p => l.all fun q => p.2 != q.2 || p.1 == q.1

theorem lkN_mem : ∀ {l : List (Nat × Nat)} {i v : Nat}, lkN l i = some v → (i, v) ∈ l
  | (j, u) :: r, i, v, h => by
    simp only [lkN] at h
    split at h
    · rename_i e; simp at e h; subst e; subst h; simp
    · exact List.mem_cons_of_mem _ (lkN_mem h)

theorem injB_spec {l : List (Nat × Nat)} (h : injB l = true) {i j v : Nat} (hi : lkN l i = some v) (hj : lkN l j = some v) : i = j := by
  simp only [injB, List.all_eq_true] at h
  have := h _ (lkN_mem hi) _ (lkN_mem hj)
  simpa using this

theorem tinj {T : Tab} (h : injB T.tys = true) : TInj T := fun _ _ _ ht hu => injB_spec h ht hu

/-- The method of this name, of values of this type, is this function: told by looking. -/
def mthB (P : Program) (t : TypeId) (name : String) (f : FuncId) : Bool :=
  match P.info? t with
  | none => false
  | some i => match i.methods.find? (·.name == name) with
    | none => false
    | some m => m.path.size == 0 && (match m.func with
      | some (g, pr) => g == f && (match P.underlying t with
        | some (.pointer _) => pr
        | some _ => !pr
        | none => false)
      | none => false)

theorem mthB_spec {P : Program} {t : TypeId} {name : String} {f : FuncId} (h : mthB P t name f = true) : MthOk P t name f := by
  intro v w
  simp only [mthB] at h
  cases hi : P.info? t with
  | none => simp [hi] at h
  | some i =>
    simp only [hi] at h
    cases hm : i.methods.find? (·.name == name) with
    | none => simp [hm] at h
    | some m =>
      simp only [hm, Bool.and_eq_true, beq_iff_eq] at h
      obtain ⟨hp, h⟩ := h
      cases hf : m.func with
      | none => simp [hf] at h
      | some gp =>
        obtain ⟨g, pr⟩ := gp
        simp only [hf, Bool.and_eq_true, beq_iff_eq] at h
        obtain ⟨rfl, h⟩ := h
        have hpl : m.path.toList = [] := by
          have : m.path.toList.length = 0 := by simpa using hp
          exact List.length_eq_zero_iff.1 this
        have hrec : ∀ wr, (receiverAt t (.val v) pr wr).run P w = .ok v w := by
          intro wr
          cases hu : P.underlying t with
          | none => simp [hu] at h
          | some d =>
            simp only [hu] at h
            simp only [receiverAt, Sem.run_bind, rUnder hu, Result.andThen_ok]
            cases d <;> cases pr <;> simp at h <;> simp [Place.get]
        have e : P.types.size + Made.depth = (P.types.size + 99) + 1 := rfl
        rw [e]
        generalize P.types.size + 99 = fuel
        simp only [method, Sem.run_bind, rInfo hi, Result.andThen_ok, hm, hpl, follow, Sem.run_pure, hf, hrec]

/-- The empty table of contracts. -/
theorem gam0_ok {P : Program} {T : Tab} {ms : List (Nat × String × Nat)} (h : ∀ t g name q, lkN T.tys t = some g → (gam0 ms).mth g name = some q → ∃ f, lkN T.fns f = some q ∧ MthOk P t name f) : GamOk P T (gam0 ms) :=
  ⟨fun f g args r _ h => by simp [gam0] at h, h, fun f g args hp q _ h => by simp [gam0] at h⟩

def mthsB (P : Program) (T : Tab) (ms : List (Nat × String × Nat)) : Bool :=
  T.tys.all fun tg => ms.all fun m => m.1 != tg.2 || T.fns.any fun fg => fg.2 == m.2.2 && lkN T.fns fg.1 == some m.2.2 && mthB P tg.1 m.2.1 fg.1

theorem mthsB_spec {P : Program} {T : Tab} {ms : List (Nat × String × Nat)} (h : mthsB P T ms = true) : GamOk P T (gam0 ms) := by
  refine gam0_ok ?_
  intro t g name q ht hm
  simp only [gam0, Option.map_eq_some_iff] at hm
  obtain ⟨m, hm, rfl⟩ := hm
  have h1 := List.mem_of_find?_eq_some hm
  have h2 := List.find?_some hm
  simp only [Bool.and_eq_true, beq_iff_eq] at h2
  simp only [mthsB, List.all_eq_true, List.any_eq_true] at h
  have h3 := h _ (lkN_mem ht) m h1
  simp only [Bool.or_eq_true, bne_iff_ne, ne_eq] at h3
  rcases h3 with h3 | h3
  · exact absurd h2.1 h3
  · simp only [List.any_eq_true, Bool.and_eq_true, beq_iff_eq] at h3
    obtain ⟨fg, _, ⟨_, h5⟩, h6⟩ := h3
    exact ⟨fg.1, h5, by rw [← h2.2]; exact mthB_spec h6⟩

/-- One contract more. -/
theorem GamOk.add {P : Program} {T : Tab} {Γ : Gam} (G : GamOk P T Γ) (hF : injB T.fns = true) {f g : Nat} (hf : lkN T.fns f = some g) (hb : hasBody P f = true) {c : List AV → Option AV} (h : ∀ args r, c args = some r → OkCall P T f args r) :
    GamOk P T (Γ.add g c) where
  fn := by
    intro f' g' args r hf' hc
    by_cases e : g' = g
    · subst e
      have := injB_spec hF hf' hf; subst this
      rw [add_fn_same] at hc
      exact ⟨hb, h args r hc⟩
    · rw [add_fn_other e] at hc
      exact G.fn f' g' args r hf' hc
  mth := G.mth
  st := G.st

theorem GamOk.addS {P : Program} {T : Tab} {Γ : Gam} (G : GamOk P T Γ) (hF : injB T.fns = true) {f g : Nat} (hf : lkN T.fns f = some g) (hb : hasBody P f = true) {c : List AV → List (Nat × AObj) → Option (AV × List (Nat × AObj))} (h : ∀ args hp q, c args hp = some q → OkS P T f args hp q.1 q.2) :
    GamOk P T (Γ.addS g c) where
  fn := G.fn
  mth := G.mth
  st := by
    intro f' g' args hp q hf' hc
    by_cases e : g' = g
    · subst e
      have := injB_spec hF hf' hf; subst this
      rw [addS_st_same] at hc
      exact ⟨hb, h args hp q hc⟩
    · rw [addS_st_other e] at hc
      exact G.st f' g' args hp q hf' hc

/-- One function more, walked. -/
theorem GamOk.walk {P : Program} {T : Tab} {Γ : Gam} (G : GamOk P T Γ) (hT : injB T.tys = true) (hF : injB T.fns = true) {f g : Nat} (hf : lkN T.fns f = some g) (hb : hasBody P f = true) {L : Lay} {fn : Func} {sfn : SFn}
    (hfn : P.funcs[f]? = some fn) (hc : compFn P T L fn = some sfn) {c : List AV → Option AV} (h : ∀ args r, c args = some r → runs Γ sfn args (fun v => v = r)) : GamOk P T (Γ.add g c) :=
  G.add hF hf hb fun args r hr => fn_sound (tinj hT) G hfn hc (h args r hr)

/-- One function more that sees objects, walked. -/
theorem GamOk.walkS {P : Program} {T : Tab} {Γ : Gam} (G : GamOk P T Γ) (hT : injB T.tys = true) (hF : injB T.fns = true) {f g : Nat} (hf : lkN T.fns f = some g) (hb : hasBody P f = true) {L : Lay} {fn : Func} {sfn : SFn}
    (hfn : P.funcs[f]? = some fn) (hc : compFn P T L fn = some sfn) {c : List AV → List (Nat × AObj) → Option (AV × List (Nat × AObj))} (h : ∀ args hp q, c args hp = some q → runsS Γ sfn args hp (fun v => v = some q)) : GamOk P T (Γ.addS g c) :=
  G.addS hF hf hb fun args hp q hr => fnS_sound (tinj hT) G hfn hc (h args hp q hr)
end Wax

/- Bytes as cells. -/
namespace Wax
open Go (IntKind)

section
theorem ite_some {α : Type} {p : Prop} [Decidable p] {a r : α} (h : (if p then some a else none) = some r) : p ∧ a = r := by
  by_cases e : p <;> simp [e] at h ⊢; exact h
@[simp] theorem bcA_nil : bcA [] = [] := rfl
@[simp] theorem bcA_cons {b : UInt8} {s : List UInt8} : bcA (b :: s) = .int .u8 (b.toNat : Int) :: bcA s := rfl
@[simp] theorem bcA_app {s t : List UInt8} : bcA (s ++ t) = bcA s ++ bcA t := by simp [bcA]
@[simp] theorem bcA_length {s : List UInt8} : (bcA s).length = s.length := by simp [bcA]
@[simp] theorem bcA_get {s : List UInt8} {i : Nat} : (bcA s)[i]? = s[i]?.map fun b => AV.int .u8 (b.toNat : Int) := by simp [bcA]
@[simp] theorem bcA_drop {s : List UInt8} {i : Nat} : (bcA s).drop i = bcA (s.drop i) := by simp [bcA, List.map_drop]
@[simp] theorem bcA_take {s : List UInt8} {i : Nat} : (bcA s).take i = bcA (s.take i) := by simp [bcA, List.map_take]
@[simp] theorem atoms_app {a b : List AV} : atoms (a ++ b) = (atoms a && atoms b) := by
  induction a with
  | nil => simp
  | cons x r ih => simp [ih, Bool.and_assoc]
@[simp] theorem atoms_bcA {s : List UInt8} : atoms (bcA s) = true := by induction s <;> simp_all
@[simp] theorem killL_app {d : Nat} {a b : List AV} : killL d (a ++ b) = killL d a ++ killL d b := by
  induction a with
  | nil => simp
  | cons x r ih => simp [ih]
@[simp] theorem killL_bcA {d : Nat} {s : List UInt8} : killL d (bcA s) = bcA s := by induction s <;> simp_all
@[simp] theorem killL_length {d : Nat} {s : List AV} : (killL d s).length = s.length := by induction s <;> simp_all
@[simp] theorem toBytes_bcA {s : List UInt8} : toBytes (bcA s) = some s := by
  induction s with
  | nil => rfl
  | cons b r ih => simp [toBytes, ih]
@[simp] theorem loadC_drop {cs : List AV} {i : Nat} : loadC none (cs.drop i) = cs[i]?.bind fun c => if atom c = true then some c else none := by
  cases h : cs[i]? with
  | none =>
    have : cs.drop i = [] := List.drop_eq_nil_of_le (by simpa using h)
    simp [this]
  | some c =>
    have hl : i < cs.length := by
      rcases Nat.lt_or_ge i cs.length with h' | h'
      · exact h'
      · rw [List.getElem?_eq_none h'] at h; simp at h
    rw [List.drop_eq_getElem_cons hl]
    have : cs[i] = c := by rw [List.getElem?_eq_getElem hl] at h; simpa using h
    simp [this]
@[simp] theorem spliceL_one {cs : List AV} {i : Nat} {x : AV} : spliceL cs i [x] = cs.set i x := rfl
@[simp] theorem spliceL_nil {cs : List AV} {i : Nat} : spliceL cs i [] = cs := rfl
@[simp] theorem toBytes_nil : toBytes [] = some [] := rfl
@[simp] theorem toBytes_byte {b : UInt8} {r : List AV} : toBytes (.int .u8 (b.toNat : Int) :: r) = (toBytes r).map (b :: ·) := by
  simp [toBytes]
@[simp] theorem made_o2 {hp : List (Nat × AObj)} {d : Nat} {o : AObj} {v : AV} : made hp d o v = some (o2 hp d v o) := rfl
/-- A slice of bytes that grows from nil: the value, the object behind it. -/
def outV (d : Nat) (out : List UInt8) : AV := match out with | [] => .nilS | _ => .msl d 1 0 out.length
def outH (d : Nat) (out : List UInt8) : List (Nat × AObj) := match out with | [] => [] | _ => [(d, .cells (bcA out))]
@[simp] theorem outV_nil {d : Nat} : outV d [] = .nilS := rfl
@[simp] theorem outH_nil {d : Nat} : outH d [] = [] := rfl
theorem outV_ne {d : Nat} {out : List UInt8} (h : out ≠ []) : outV d out = .msl d 1 0 out.length := by cases out <;> first | exact absurd rfl h | rfl
theorem outH_ne {d : Nat} {out : List UInt8} (h : out ≠ []) : outH d out = [(d, .cells (bcA out))] := by cases out <;> first | exact absurd rfl h | rfl
@[simp] theorem toNat_ofNat {n : Nat} : (n : Int).toNat = n := by simp
end
end Wax

/- The plain functions of the set's reference: what each answers. -/
namespace Wax
open Go (IntKind)

def big : Nat := 4611686018427387904

def isWs (n : Int) : Bool := decide (n = 32 ∨ n = 9 ∨ n = 13 ∨ n = 10)

def con_dBlank : List AV → Option AV
  | [.int .u8 n] => some (.bool (isWs n))
  | _ => none

theorem ok_dBlank (Γ : Gam) : ∀ args r, con_dBlank args = some r → runs Γ c_spec_dBlank args (fun v => v = r) := by
  intro args r h
  simp only [con_dBlank] at h
  split at h <;> simp at h
  rename_i b
  subst h
  simp [c_spec_dBlank, isWs]
  refine ⟨fun h => ⟨fun h2 => ⟨fun h3 => ?_, fun h3 => ?_⟩, fun h2 => ?_⟩, fun h => ?_⟩ <;> simp [*]

def cutAt (c : Int) : List UInt8 → Option (List UInt8 × List UInt8)
  | [] => none
  | x :: r => if (x.toNat : Int) = c then some ([], r) else (cutAt c r).map fun p => (x :: p.1, p.2)

def noB (c : Int) (s : List UInt8) : Prop := ∀ x ∈ s, (x.toNat : Int) ≠ c

theorem cutAt_app (c : Int) : ∀ (pre post : List UInt8), noB c pre → cutAt c (pre ++ post) = (cutAt c post).map fun p => (pre ++ p.1, p.2)
  | [], post, _ => by simp
  | x :: r, post, h => by
    have h1 : (x.toNat : Int) ≠ c := h x (by simp)
    have h2 : noB c r := fun y hy => h y (by simp [hy])
    simp only [List.cons_append, cutAt, if_neg h1, cutAt_app c r post h2, Option.map_map]
    rfl

def cutV (c : Int) (s : List UInt8) : AV :=
  match cutAt c s with
  | some p => .tup [.str p.1, .str p.2, .bool true]
  | none => .tup [.str s, .str [], .bool false]

def con_dCut : List AV → Option AV
  | [.str s, .int .u8 c] => if s.length < big then some (cutV c s) else none
  | _ => none

theorem ok_dCut (Γ : Gam) : ∀ args r, con_dCut args = some r → runs Γ c_spec_dCut args (fun v => v = r) := by
  intro args r h
  simp only [con_dCut] at h
  split at h <;> simp [big] at h
  rename_i s c
  obtain ⟨hs, rfl⟩ := ite_some h
  simp [c_spec_dCut]
  refine awp_loop (σ := List UInt8 × List UInt8) (fun p => ⟨[(0, .str s), (1, .int .u8 c), (7, .int .i64 p.1.length)], []⟩) (fun p => s = p.1 ++ p.2 ∧ noB c p.1) (fun p => p.2.length) ([], s) (by simp) (by simp [noB]) ?_
  rintro ⟨pre, post⟩ ⟨hs1, hs2⟩
  simp only at hs1 hs2
  subst hs1
  cases post with
  | nil =>
    have e : cutAt c pre = none := by have := cutAt_app c pre [] hs2; simpa [cutAt] using this
    simp [cutV, e]
  | cons x post =>
    simp at hs
    simp
    refine ⟨fun hlt => ?_, fun hge => by omega⟩
    simp (disch := omega) [wrap64]
    refine ⟨fun he => ?_, fun hne => ?_⟩
    · have e1 : (0 : Int) ≤ (pre.length : Int) + 1 ∧ (pre.length : Int) + 1 ≤ (pre.length : Int) + ((post.length : Int) + 1) := by omega
      have e2 : ((pre.length : Int) + 1).toNat = pre.length + 1 := by omega
      simp [cutV, cutAt_app _ _ _ hs2, cutAt, e1, e2, he]
      omega
    · refine ⟨(pre ++ [x], post), by simp, ⟨by simp, ?_⟩, by simp⟩
      intro y hy
      simp at hy
      rcases hy with hy | rfl
      · exact hs2 y hy
      · exact hne

def plainB (b : UInt8) : Bool := decide ((b.toNat : Int) < 128 ∧ (b.toNat : Int) ≠ 11 ∧ (b.toNat : Int) ≠ 12)
theorem plainB_true {b : UInt8} (h : (b.toNat : Int) < 128 ∧ ¬ (b.toNat : Int) = 11 ∧ ¬ (b.toNat : Int) = 12) : plainB b = true := decide_eq_true h
theorem plainB_false {b : UInt8} (h : ¬ ((b.toNat : Int) < 128 ∧ ¬ (b.toNat : Int) = 11 ∧ ¬ (b.toNat : Int) = 12)) : plainB b = false := decide_eq_false h
def dPlain (most : Int) (s : List UInt8) : Bool := s.all plainB && decide ((s.length : Int) ≤ most)

def con_DPlain : List AV → Option AV
  | [.str s, .int .i64 m] => if s.length < big then some (.bool (dPlain m s)) else none
  | _ => none

theorem ok_DPlain (Γ : Gam) : ∀ args r, con_DPlain args = some r → runs Γ c_spec_DPlain args (fun v => v = r) := by
  intro args r h
  simp only [con_DPlain] at h
  split at h <;> simp [big] at h
  rename_i s m
  obtain ⟨hs, rfl⟩ := ite_some h
  clear h
  simp [c_spec_DPlain]
  refine awp_loop (σ := List UInt8 × List UInt8) (fun p => ⟨[(0, .str s), (1, .int .i64 m), (5, .int .i64 p.1.length)], []⟩) (fun p => s = p.1 ++ p.2 ∧ p.1.all plainB = true) (fun p => p.2.length) ([], s) (by simp) (by simp) ?_
  rintro ⟨pre, post⟩ ⟨hs1, hs2⟩
  simp only at hs1 hs2
  subst hs1
  cases post with
  | nil => simp [dPlain, hs2]
  | cons x post =>
    simp at hs
    have bad : plainB x = false → dPlain m (pre ++ x :: post) = false := by intro h; simp [dPlain, h]
    have good : plainB x = true → loopQ [0, 1, 5] (fun p : List UInt8 × List UInt8 => ⟨[(0, .str (pre ++ x :: post)), (1, .int .i64 m), (5, .int .i64 p.1.length)], []⟩) (fun p => pre ++ x :: post = p.1 ++ p.2 ∧ p.1.all plainB = true) (fun p => p.2.length) (pre, x :: post)
        ⟨[(0, .str (pre ++ x :: post)), (1, .int .i64 m), (5, .int .i64 (IntKind.i64.wrap (pre.length + 1)))], []⟩ := by
      intro h
      exact ⟨(pre ++ [x], post), by simp (disch := omega) [wrap64], ⟨by simp, by simp only [List.all_append, hs2, List.all_cons, h]; rfl⟩, by simp⟩
    generalize hl : loopQ [0, 1, 5] (fun p : List UInt8 × List UInt8 => (⟨[(0, .str (pre ++ x :: post)), (1, .int .i64 m), (5, .int .i64 p.1.length)], []⟩ : St)) (fun p => pre ++ x :: post = p.1 ++ p.2 ∧ p.1.all plainB = true) (fun p => p.2.length) (pre, x :: post) = LQ at good ⊢
    simp
    refine ⟨fun hlt => ⟨fun h1 => ⟨fun h2 => ⟨fun h3 => ?_, fun h3 => ?_⟩, fun h2 => ?_⟩, fun h1 => ?_⟩, fun hge => by omega⟩
    · exact bad (plainB_false fun h => h.2.2 h3)
    · exact good (plainB_true ⟨h1, h2, h3⟩)
    · exact bad (plainB_false fun h => h.2.1 h2)
    · exact bad (plainB_false fun h => by omega)

def trimL (s : List UInt8) : List UInt8 := s.dropWhile fun b => isWs b.toNat
def trimR (s : List UInt8) : List UInt8 := (s.reverse.dropWhile fun b => isWs b.toNat).reverse
def trimS (s : List UInt8) : List UInt8 := trimR (trimL s)

def con_DTrim : List AV → Option AV
  | [.str s] => if s.length < big then some (.str (trimS s)) else none
  | _ => none

theorem ok_DTrim (Γ : Gam) (h1 : Γ.fn 1 = con_dBlank) : ∀ args r, con_DTrim args = some r → runs Γ c_spec_DTrim args (fun v => v = r) := by
  intro args r h
  simp only [con_DTrim] at h
  split at h <;> simp [big] at h
  rename_i s
  obtain ⟨hs, rfl⟩ := ite_some h
  clear h
  simp [c_spec_DTrim]
  refine awp_loop (σ := List UInt8) (fun p => ⟨[(0, .str p)], []⟩) (fun p => trimL p = trimL s ∧ p.length < 4611686018427387904) (fun p => p.length) s (by simp) (by simp [hs]) ?_
  rintro p ⟨hp, hlen⟩
  have second : ∀ v9, (trimL p = p) → awp Γ t_spec_DTrim_4 (finQ [.t 2] fun v => v = AV.str (trimS s)) ⟨[(0, .str p), (9, v9)], []⟩ := by
    intro v9 htl
    simp [t_spec_DTrim_4]
    refine awp_loop (σ := List UInt8) (fun q => ⟨[(0, .str q.reverse)], []⟩) (fun q => trimR q.reverse = trimR p ∧ q.length < 4611686018427387904) (fun q => q.length) p.reverse (by simp) (by simpa using hlen) ?_
    rintro q ⟨hq, hql⟩
    cases q with
    | nil =>
      simp [b_spec_DTrim_2, t_spec_DTrim_3]
      rw [trimS, ← hp, htl, ← hq]; rfl
    | cons x q =>
      simp at hql
      simp (disch := omega) [b_spec_DTrim_2, t_spec_DTrim_3, wrap64]
      refine gO_bind (b := x) (by rw [List.getElem?_append_right (by simp)]; simp) ?_
      simp (disch := omega) [acall, h1, con_dBlank, wrap64]
      refine ⟨fun hw => ⟨q, by simp, ⟨?_, by omega⟩, by simp⟩, fun hw => ?_⟩
      · rw [← hq]; simp [trimR, hw]
      · rw [trimS, ← hp, htl, ← hq]; simp [trimR, hw]
  cases p with
  | nil =>
    simp [b_spec_DTrim_1]
    exact second _ rfl
  | cons x p =>
    simp at hlen
    simp [b_spec_DTrim_1, acall, h1, con_dBlank]
    refine ⟨fun hw => ⟨by omega, p, by simp, ⟨?_, by omega⟩, by simp⟩, fun hw => second _ ?_⟩
    · rw [← hp]; simp [trimL, hw]
    · simp [trimL, hw]

def lowB (b : UInt8) : UInt8 := if 65 ≤ b.toNat ∧ b.toNat ≤ 90 then b + 32 else b

theorem lowB_toNat (b : UInt8) : ((lowB b).toNat : Int) = if 65 ≤ (b.toNat : Int) ∧ (b.toNat : Int) ≤ 90 then (b.toNat : Int) + 32 else (b.toNat : Int) := by
  unfold lowB
  by_cases h : 65 ≤ b.toNat ∧ b.toNat ≤ 90
  · rw [if_pos h, if_pos (by omega), UInt8.toNat_add]
    have : (32 : UInt8).toNat = 32 := rfl
    rw [this]; omega
  · rw [if_neg h, if_neg (by omega)]

def lowS (s : List UInt8) : List UInt8 := s.map lowB

@[simp] theorem lowS_length {s : List UInt8} : (lowS s).length = s.length := by simp [lowS]
@[simp] theorem lowS_nil : lowS [] = [] := rfl
@[simp] theorem lowS_app {s t : List UInt8} : lowS (s ++ t) = lowS s ++ lowS t := by simp [lowS]
@[simp] theorem lowS_cons {b : UInt8} {s : List UInt8} : lowS (b :: s) = lowB b :: lowS s := rfl

def con_DLower : List AV → Option AV
  | [.str s] => if s.length < big then some (.str (lowS s)) else none
  | _ => none

theorem ok_DLower (Γ : Gam) : ∀ args r, con_DLower args = some r → runs Γ c_spec_DLower args (fun v => v = r) := by
  intro args r h
  simp only [con_DLower] at h
  split at h <;> simp [big] at h
  rename_i s
  obtain ⟨hs, rfl⟩ := ite_some h
  clear h
  simp [c_spec_DLower, hs]
  refine awp_loop (σ := List UInt8 × List UInt8) (fun p => ⟨[(3, .msl 6 1 0 s.length), (4, .int .i64 p.1.length)], [(6, .cells (bcA (lowS p.1 ++ p.2)))]⟩) (fun p => s = p.1 ++ p.2) (fun p => p.2.length) ([], s) (by simp) (by simp) ?_
  rintro ⟨pre, post⟩ hs1
  simp only at hs1
  subst hs1
  cases post with
  | nil =>
    have e : List.take pre.length (lowS pre) = lowS pre := List.take_of_length_le (by simp)
    simp [e]
  | cons x post =>
    simp at hs
    have hx := lowB_toNat x
    have fin : ∀ n : Int, n = (lowB x).toNat → loopQ [3, 4] (fun p : List UInt8 × List UInt8 => ⟨[(3, .msl 6 1 0 (pre ++ x :: post).length), (4, .int .i64 p.1.length)], [(6, .cells (bcA (lowS p.1 ++ p.2)))]⟩) (fun p => pre ++ x :: post = p.1 ++ p.2) (fun p => p.2.length) (pre, x :: post)
        ⟨[(3, .msl 6 1 0 (pre ++ x :: post).length), (4, .int .i64 (IntKind.i64.wrap (pre.length + 1)))], [(6, .cells (bcA (lowS pre) ++ .int .u8 n :: bcA post))]⟩ := by
      intro n hn
      refine ⟨(pre ++ [x], post), ?_, by simp, by simp⟩
      subst hn
      simp (disch := omega) [wrap64]
    simp at fin
    simp
    refine ⟨fun hlt => ⟨fun h1 => ⟨fun h2 => ?_, fun h2 => ?_⟩, fun h1 => ?_⟩, fun hge => by omega⟩
    · rw [hx, if_pos ⟨h1, h2⟩, ← Go.IntWalk.u8_in ((x.toNat : Int) + 32) ⟨by omega, by omega⟩] at fin
      exact fin
    · rw [hx, if_neg (by omega)] at fin
      exact fin
    · rw [hx, if_neg (by omega)] at fin
      exact fin
end Wax

/- The plain functions of the set's reference (2). -/
namespace Wax
open Go (IntKind)

def mid : Nat := 1099511627776

def joinGo : List UInt8 → Bool → List UInt8 → List UInt8
  | out, _, [] => out
  | out, w, x :: r => if isWs x.toNat then joinGo out (decide (0 < out.length)) r else joinGo ((if w then out ++ [32] else out) ++ [x]) false r

def con_dJoined : List AV → Option AV
  | [.str s] => if s.length < mid then some (.str (joinGo [] false s)) else none
  | _ => none

theorem ok_dJoined (Γ : Gam) (h1 : Γ.fn 1 = con_dBlank) : ∀ args r, con_dJoined args = some r → runs Γ c_spec_dJoined args (fun v => v = r) := by
  intro args r h
  simp only [con_dJoined] at h
  split at h <;> simp [mid] at h
  rename_i s
  obtain ⟨hs, rfl⟩ := ite_some h
  clear h
  simp [c_spec_dJoined]
  refine awp_loop (σ := List UInt8 × List UInt8 × List UInt8 × Bool) (fun p => ⟨[(0, .str s), (3, outV 28 p.2.2.1), (4, .bool p.2.2.2), (5, .int .i64 p.1.length)], outH 28 p.2.2.1⟩)
    (fun p => s = p.1 ++ p.2.1 ∧ joinGo p.2.2.1 p.2.2.2 p.2.1 = joinGo [] false s ∧ p.2.2.1.length ≤ 2 * p.1.length ∧ (p.2.2.2 = true → p.2.2.1 ≠ [])) (fun p => p.2.1.length) ([], s, [], false) (by simp [outV, outH]) (by simp) ?_
  rintro ⟨pre, post, out, w⟩ ⟨hs1, hs2, hs3, hs4⟩
  simp only at hs1 hs2 hs3 hs4
  cases post with
  | nil =>
    simp [joinGo] at hs2 hs1
    subst hs1
    by_cases ho : out = []
    · subst ho; simp [← hs2]
    · simp [outV_ne ho, outH_ne ho, ← hs2]
  | cons x post =>
    subst hs1
    simp at hs
    have step : ∀ out' w', joinGo out' w' post = joinGo [] false (pre ++ x :: post) → out'.length ≤ 2 * pre.length + 2 → (w' = true → out' ≠ []) →
        loopQ [0, 3, 4, 5] (fun p : List UInt8 × List UInt8 × List UInt8 × Bool => ⟨[(0, .str (pre ++ x :: post)), (3, outV 28 p.2.2.1), (4, .bool p.2.2.2), (5, .int .i64 p.1.length)], outH 28 p.2.2.1⟩)
          (fun p => pre ++ x :: post = p.1 ++ p.2.1 ∧ joinGo p.2.2.1 p.2.2.2 p.2.1 = joinGo [] false (pre ++ x :: post) ∧ p.2.2.1.length ≤ 2 * p.1.length ∧ (p.2.2.2 = true → p.2.2.1 ≠ [])) (fun p => p.2.1.length) (pre, x :: post, out, w)
          ⟨[(0, .str (pre ++ x :: post)), (3, outV 28 out'), (4, .bool w'), (5, .int .i64 (IntKind.i64.wrap (pre.length + 1)))], outH 28 out'⟩ := by
      intro out' w' h1 h2 h3
      exact ⟨(pre ++ [x], post, out', w'), by simp (disch := omega) [wrap64], ⟨by simp, h1, by simp; omega, h3⟩, by simp⟩
    generalize hl : loopQ [0, 3, 4, 5] (fun p : List UInt8 × List UInt8 × List UInt8 × Bool => (⟨[(0, .str (pre ++ x :: post)), (3, outV 28 p.2.2.1), (4, .bool p.2.2.2), (5, .int .i64 p.1.length)], outH 28 p.2.2.1⟩ : St))
          (fun p => pre ++ x :: post = p.1 ++ p.2.1 ∧ joinGo p.2.2.1 p.2.2.2 p.2.1 = joinGo [] false (pre ++ x :: post) ∧ p.2.2.1.length ≤ 2 * p.1.length ∧ (p.2.2.2 = true → p.2.2.1 ≠ [])) (fun p => p.2.1.length) (pre, x :: post, out, w) = LQ at step ⊢
    clear hl
    simp only [joinGo] at hs2
    by_cases ho : out = []
    · subst ho
      have hw : w = false := by cases w <;> simp at hs4 ⊢
      subst hw
      simp [acall, h1, con_dBlank]
      refine ⟨fun hlt => ⟨fun hb => ?_, fun hb => ?_⟩, fun hge => by omega⟩
      · rw [if_pos hb] at hs2
        exact step [] false (by simpa using hs2) (by simp) (by simp)
      · rw [if_neg (by simp [hb])] at hs2
        exact step [x] false (by simpa using hs2) (by simp) (by simp)
    · have hol : 0 < out.length := List.length_pos_iff.2 ho
      simp [outV_ne ho, outH_ne ho, acall, h1, con_dBlank, List.take_of_length_le]
      refine ⟨fun hlt => ⟨fun hb => ?_, fun hb => ⟨fun hw => ⟨by omega, by omega, ?_⟩, fun hw => ⟨by omega, ?_⟩⟩⟩, fun hge => by omega⟩
      · rw [if_pos hb] at hs2
        have := step out (decide (0 < out.length)) hs2 (by omega) (fun _ => ho)
        rw [outV_ne ho, outH_ne ho] at this
        exact this
      · rw [if_neg (by simp [hb]), if_pos hw] at hs2
        have := step (out ++ [32] ++ [x]) false hs2 (by simp; omega) (by simp)
        rw [outV_ne (by simp), outH_ne (by simp)] at this
        simpa using this
      · rw [if_neg (by simp [hb]), if_neg (by simp [hw])] at hs2
        have := step (out ++ [x]) false hs2 (by simp; omega) (by simp)
        rw [outV_ne (by simp), outH_ne (by simp)] at this
        subst hw
        simpa using this
end Wax

/- The plain functions of the set's reference (3), and of the program's small ones. -/
namespace Wax
open Go (IntKind)

def simpleB : List UInt8 := [115, 105, 109, 112, 108, 101]
def relaxedB : List UInt8 := [114, 101, 108, 97, 120, 101, 100]

def con_dForm : List AV → Option AV
  | [.str s] => some (.bool (decide (s = simpleB ∨ s = relaxedB)))
  | _ => none

theorem ok_dForm (Γ : Gam) : ∀ args r, con_dForm args = some r → runs Γ c_laws_dForm args (fun v => v = r) := by
  intro args r h
  simp only [con_dForm] at h
  split at h <;> simp at h
  rename_i s
  subst h
  simp [c_laws_dForm, simpleB, relaxedB]
  refine ⟨fun h => ?_, fun h => by simp [h]⟩
  by_cases h2 : s = [114, 101, 108, 97, 120, 101, 100]
  · subst h2; rfl
  · simp [h, h2]

def strsA (l : List (List UInt8)) : List AV := l.map .str

def asStrs : List AV → Option (List (List UInt8))
  | [] => some []
  | .str s :: r => (asStrs r).map (s :: ·)
  | _ :: _ => none

theorem asStrs_spec : ∀ {xs : List AV} {l : List (List UInt8)}, asStrs xs = some l → xs = strsA l
  | [], l, h => by simp [asStrs] at h; subst h; rfl
  | .str s :: r, l, h => by
    simp only [asStrs] at h
    cases hr : asStrs r with
    | none => simp [hr] at h
    | some q => simp [hr] at h; subst h; rw [asStrs_spec hr]; rfl
  | .junk :: _, _, h => by simp [asStrs] at h
  | .bool _ :: _, _, h => by simp [asStrs] at h
  | .int _ _ :: _, _, h => by simp [asStrs] at h
  | .nilI :: _, _, h => by simp [asStrs] at h
  | .nilP :: _, _, h => by simp [asStrs] at h
  | .nilF :: _, _, h => by simp [asStrs] at h
  | .nilM :: _, _, h => by simp [asStrs] at h
  | .nilS :: _, _, h => by simp [asStrs] at h
  | .sl _ _ :: _, _, h => by simp [asStrs] at h
  | .ptr _ :: _, _, h => by simp [asStrs] at h
  | .agg _ :: _, _, h => by simp [asStrs] at h
  | .tup _ :: _, _, h => by simp [asStrs] at h
  | .ifc _ _ :: _, _, h => by simp [asStrs] at h
  | .fn _ _ :: _, _, h => by simp [asStrs] at h
  | .mp _ :: _, _, h => by simp [asStrs] at h
  | .ref _ _ :: _, _, h => by simp [asStrs] at h
  | .msl _ _ _ _ :: _, _, h => by simp [asStrs] at h
  | .mref _ :: _, _, h => by simp [asStrs] at h

@[simp] theorem strsA_length {l : List (List UInt8)} : (strsA l).length = l.length := by simp [strsA]
@[simp] theorem strsA_get {l : List (List UInt8)} {i : Nat} : (strsA l)[i]? = l[i]?.map .str := by simp [strsA]
@[simp] theorem asStrs_strsA {l : List (List UInt8)} : asStrs (strsA l) = some l := by induction l <;> simp_all [strsA, asStrs]

/-- A slice of texts, nil or not, as it comes in. -/
def slStrs : AV → Option (List (List UInt8))
  | .nilS => some []
  | .sl es xs => if es = 1 then asStrs xs else none
  | _ => none

def dShort (m : Int) (l : List (List UInt8)) : Bool := l.all (dPlain m) && decide ((l.length : Int) ≤ 200)

def con_dShort : List AV → Option AV
  | [.int .i64 m, v] => match slStrs v with
    | some l => if l.length < big ∧ ∀ s ∈ l, s.length < big then some (.bool (dShort m l)) else none
    | none => none
  | _ => none

theorem ok_dShort (Γ : Gam) (h6 : Γ.fn 6 = con_DPlain) : ∀ args r, con_dShort args = some r → runs Γ c_laws_dShort args (fun v => v = r) := by
  intro args r h
  simp only [con_dShort] at h
  split at h <;> (try simp at h; done)
  rename_i m v
  split at h <;> (try simp at h; done)
  rename_i l hl
  obtain ⟨⟨hlen, hall⟩, rfl⟩ := ite_some h
  clear h
  simp [big] at hlen hall
  have hv : (v = .nilS ∧ l = []) ∨ v = .sl 1 (strsA l) := by
    cases v <;> simp [slStrs] at hl
    · left; exact ⟨rfl, hl⟩
    · right; obtain ⟨e, hl⟩ := hl; rw [asStrs_spec hl, e]
  rcases hv with ⟨rfl, rfl⟩ | rfl
  · simp [c_laws_dShort]
    refine awp_loop (σ := Unit) (fun p => ⟨[(0, .int .i64 m), (1, .nilS), (5, .int .i64 0)], []⟩) (fun _ => True) (fun _ => 0) () (by simp) (by simp) ?_
    intro _ _
    simp [dShort]
  · simp [c_laws_dShort]
    refine awp_loop (σ := List (List UInt8) × List (List UInt8)) (fun p => ⟨[(0, .int .i64 m), (1, .sl 1 (strsA l)), (5, .int .i64 p.1.length)], []⟩) (fun p => l = p.1 ++ p.2 ∧ p.1.all (dPlain m) = true) (fun p => p.2.length) ([], l) (by simp) (by simp) ?_
    rintro ⟨pre, post⟩ ⟨hs1, hs2⟩
    simp only at hs1 hs2
    subst hs1
    cases post with
    | nil => simp [dShort, hs2]
    | cons x post =>
      simp at hlen
      have hx : x.length < 4611686018427387904 := hall x (by simp)
      have bad : dPlain m x = false → dShort m (pre ++ x :: post) = false := by intro h; simp [dShort, h]
      have good : dPlain m x = true → loopQ [0, 1, 5] (fun p : List (List UInt8) × List (List UInt8) => ⟨[(0, .int .i64 m), (1, .sl 1 (strsA (pre ++ x :: post))), (5, .int .i64 p.1.length)], []⟩) (fun p => pre ++ x :: post = p.1 ++ p.2 ∧ p.1.all (dPlain m) = true) (fun p => p.2.length) (pre, x :: post)
          ⟨[(0, .int .i64 m), (1, .sl 1 (strsA (pre ++ x :: post))), (5, .int .i64 (IntKind.i64.wrap (pre.length + 1)))], []⟩ := by
        intro h
        exact ⟨(pre ++ [x], post), by simp (disch := omega) [wrap64], ⟨by simp, by simp only [List.all_append, hs2, List.all_cons, h]; rfl⟩, by simp⟩
      generalize hl : loopQ [0, 1, 5] (fun p : List (List UInt8) × List (List UInt8) => (⟨[(0, .int .i64 m), (1, .sl 1 (strsA (pre ++ x :: post))), (5, .int .i64 p.1.length)], []⟩ : St)) (fun p => pre ++ x :: post = p.1 ++ p.2 ∧ p.1.all (dPlain m) = true) (fun p => p.2.length) (pre, x :: post) = LQ at good ⊢
      simp [acall, h6, con_DPlain, big, hx]
      exact ⟨fun _ => ⟨bad, good⟩, fun hge => by omega⟩

theorem trimL_length (s : List UInt8) : (trimL s).length ≤ s.length := by
  unfold trimL
  exact (List.dropWhile_sublist _).length_le
theorem trimR_length (s : List UInt8) : (trimR s).length ≤ s.length := by
  unfold trimR
  have := (List.dropWhile_sublist (fun b : UInt8 => isWs b.toNat) (l := s.reverse)).length_le
  simpa using this
theorem trimS_length (s : List UInt8) : (trimS s).length ≤ s.length := Nat.le_trans (trimR_length _) (trimL_length _)

theorem cutAt_length {c : Int} : ∀ {s a b : List UInt8}, cutAt c s = some (a, b) → s.length = a.length + b.length + 1
  | [], a, b, h => by simp [cutAt] at h
  | x :: r, a, b, h => by
    simp only [cutAt] at h
    split at h
    · simp at h; obtain ⟨rfl, rfl⟩ := h; simp
    · cases hr : cutAt c r with
      | none => simp [hr] at h
      | some p =>
        simp [hr] at h
        obtain ⟨rfl, rfl⟩ := h
        have := cutAt_length (a := p.1) (b := p.2) hr
        simp; omega

theorem joinGo_length : ∀ (s out : List UInt8) (w : Bool), (joinGo out w s).length ≤ out.length + 2 * s.length
  | [], out, w => by simp [joinGo]
  | x :: r, out, w => by
    simp only [joinGo]
    split
    · have := joinGo_length r out (decide (0 < out.length)); simp; omega
    · have := joinGo_length r ((if w then out ++ [32] else out) ++ [x]) false
      have h2 : ((if w then out ++ [32] else out) ++ [x]).length ≤ out.length + 2 := by split <;> simp
      simp only [List.length_cons]; omega

/-- A field in a canonical form. -/
def fieldOf (form field : List UInt8) : List UInt8 :=
  if form = simpleB then field else match cutAt 58 field with
    | none => trimS (lowS field) ++ [58, 13, 10]
    | some p => trimS (lowS p.1) ++ [58] ++ joinGo [] false p.2 ++ [13, 10]

def con_DFieldOf : List AV → Option AV
  | [.str form, .str field] => if field.length < mid then some (.str (fieldOf form field)) else none
  | _ => none

theorem ok_DFieldOf (Γ : Gam) (h2 : Γ.fn 2 = con_dCut) (h3 : Γ.fn 3 = con_DTrim) (h4 : Γ.fn 4 = con_DLower) (h5 : Γ.fn 5 = con_dJoined) : ∀ args r, con_DFieldOf args = some r → runs Γ c_spec_DFieldOf args (fun v => v = r) := by
  intro args r h
  simp only [con_DFieldOf] at h
  split at h <;> (try simp at h; done)
  rename_i form field
  obtain ⟨hlen, rfl⟩ := ite_some h
  clear h
  simp only [mid] at hlen
  have e1 : field.length < big := by unfold big; omega
  have t1 := trimS_length (lowS field)
  simp at t1
  simp [c_spec_DFieldOf]
  refine ⟨fun h => by simp [fieldOf, simpleB, h], fun h => ?_⟩
  simp [acall, h2, con_dCut, e1]
  cases hc : cutAt 58 field with
  | none =>
    simp [cutV, hc, acall, h4, con_DLower, e1, h3, con_DTrim]
    have : trimS (lowS field) ++ [58, 13, 10] = fieldOf form field := by simp [fieldOf, simpleB, h, hc]
    refine ⟨by omega, this⟩
  | some p =>
    obtain ⟨n, v⟩ := p
    have hl := cutAt_length hc
    have e2 : n.length < big := by unfold big; omega
    have e3 : v.length < mid := by unfold mid; omega
    have t2 := trimS_length (lowS n)
    simp at t2
    have t3 := joinGo_length v [] false
    simp at t3
    simp [cutV, hc, acall, h4, con_DLower, e2, h3, con_DTrim, h5, con_dJoined, e3]
    refine ⟨by omega, by omega, by omega, ?_⟩
    simp [fieldOf, simpleB, h, hc]
end Wax

/- Loops with a named end; growing slices; what a caller gets back. -/
namespace Wax
open Go (IntKind)

/-- A loop by a ghost; a round's end is a state of a smaller ghost. -/
theorem awp_loop2 {σ : Type} {Γ : Gam} {Q : APost} {st : St} {live : List Nat} {c : SCode} (f : σ → St) (ok : σ → Prop) (m : σ → Nat) (s0 : σ) (h0 : norm live st = f s0) (hok : ok s0)
    (hr : ∀ s, ok s → ∀ LQ : St → Prop, (∀ s', ok s' → m s' < m s → ∀ st, norm live st = f s' → LQ st) → awp Γ c (thenQ LQ Q) (f s)) : awp Γ (.loop live c) Q st := by
  refine awp_loop f ok m s0 h0 hok fun s hs => hr s hs _ ?_
  intro s' h1 h2 st h3
  exact ⟨s', h3, h1, h2⟩

@[simp] theorem reach_nil {hp : List (Nat × AObj)} {n : Nat} {acc : List Nat} : reach hp n [] acc = acc := by cases n <;> rfl
theorem reach_succ {hp : List (Nat × AObj)} {n i : Nat} {r acc : List Nat} : reach hp (n + 1) (i :: r) acc = if acc.contains i then reach hp n r acc else reach hp n (r ++ (match hlk hp i with | some o => refsO o | none => [])) (acc ++ [i]) := rfl

/-- A slice that grows from nil. -/
def grV (d es n : Nat) : AV := match n with | 0 => .nilS | n + 1 => .msl d es 0 (n + 1)
def grH (d n : Nat) (cs : List AV) : List (Nat × AObj) := match n with | 0 => [] | _ + 1 => [(d, .cells cs)]
@[simp] theorem grV_zero {d es : Nat} : grV d es 0 = .nilS := rfl
@[simp] theorem grH_zero {d : Nat} {cs : List AV} : grH d 0 cs = [] := rfl
@[simp] theorem grV_succ {d es n : Nat} : grV d es (n + 1) = .msl d es 0 (n + 1) := rfl
@[simp] theorem grH_succ {d n : Nat} {cs : List AV} : grH d (n + 1) cs = [(d, .cells cs)] := rfl

@[simp] theorem strsA_nil : strsA [] = [] := rfl
@[simp] theorem strsA_cons {x : List UInt8} {l : List (List UInt8)} : strsA (x :: l) = .str x :: strsA l := rfl
@[simp] theorem strsA_app {l m : List (List UInt8)} : strsA (l ++ m) = strsA l ++ strsA m := by simp [strsA]
@[simp] theorem atoms_strsA {l : List (List UInt8)} : atoms (strsA l) = true := by induction l <;> simp_all
@[simp] theorem killL_strsA {d : Nat} {l : List (List UInt8)} : killL d (strsA l) = strsA l := by induction l <;> simp_all
@[simp] theorem hasRefL_strsA {l : List (List UInt8)} : hasRefL (strsA l) = false := by induction l <;> simp_all
@[simp] theorem refsL_strsA {l : List (List UInt8)} : refsL (strsA l) = [] := by induction l <;> simp_all
@[simp] theorem mapIdL_strsA {g : Nat → Nat} {l : List (List UInt8)} : mapIdL g (strsA l) = strsA l := by induction l <;> simp_all
@[simp] theorem hasRefL_bcA {l : List UInt8} : hasRefL (bcA l) = false := by induction l <;> simp_all
@[simp] theorem refsL_bcA {l : List UInt8} : refsL (bcA l) = [] := by induction l <;> simp_all
@[simp] theorem mapIdL_bcA {g : Nat → Nat} {l : List UInt8} : mapIdL g (bcA l) = bcA l := by induction l <;> simp_all
@[simp] theorem strsA_drop {l : List (List UInt8)} {i : Nat} : (strsA l).drop i = strsA (l.drop i) := by simp [strsA, List.map_drop]
@[simp] theorem strsA_take {l : List (List UInt8)} {i : Nat} : (strsA l).take i = strsA (l.take i) := by simp [strsA, List.map_take]
@[simp] theorem strsA_set {l : List (List UInt8)} {i : Nat} {x : List UInt8} : (strsA l).set i (.str x) = strsA (l.set i x) := by simp [strsA, List.map_set]
@[simp] theorem snapWL_strsA {g : AV → AV} {l : List (List UInt8)} : snapWL g (strsA l) = strsA l := by induction l <;> simp_all
@[simp] theorem snapWL_bcA {g : AV → AV} {l : List UInt8} : snapWL g (bcA l) = bcA l := by induction l <;> simp_all
@[simp] theorem map_snap_strsA {n : Nat} {hp : List (Nat × AObj)} {l : List (List UInt8)} : (strsA l).map (snap (n + 1) hp) = strsA l := by induction l <;> simp_all [snap]
@[simp] theorem map_snap_bcA {n : Nat} {hp : List (Nat × AObj)} {l : List UInt8} : (bcA l).map (snap (n + 1) hp) = bcA l := by induction l <;> simp_all [snap]

@[simp] theorem refsL_app {a b : List AV} : refsL (a ++ b) = refsL a ++ refsL b := by induction a <;> simp_all
@[simp] theorem mapIdL_app {g : Nat → Nat} {a b : List AV} : mapIdL g (a ++ b) = mapIdL g a ++ mapIdL g b := by induction a <;> simp_all
@[simp] theorem hasRefL_appB {a b : List AV} : hasRefL (a ++ b) = (hasRefL a || hasRefL b) := by induction a <;> simp_all [Bool.or_assoc]
@[simp] theorem snapWL_app {g : AV → AV} {a b : List AV} : snapWL g (a ++ b) = snapWL g a ++ snapWL g b := by induction a <;> simp_all
@[simp] theorem map_snapW_strsA {g : AV → AV} {l : List (List UInt8)} : (strsA l).map (snapW g) = strsA l := by induction l <;> simp_all
@[simp] theorem map_snapW_bcA {g : AV → AV} {l : List UInt8} : (bcA l).map (snapW g) = bcA l := by induction l <;> simp_all
@[simp high] theorem aload_ref {hp : List (Nat × AObj)} {id off : Nat} : aload hp none (.ref id off) = (oCells (hlk hp id)).bind fun cs => cs[off]?.bind fun c => if atom c = true then some c else none := by
  simp only [aload]
  cases hlk hp id with
  | none => rfl
  | some o => cases o <;> simp only [oCells, Option.bind_some, loadC_drop] <;> rfl
theorem get_mid {α : Type} {a b : List α} {x : α} {n : Nat} (h : a.length = n) : (a ++ x :: b)[n]? = some x := by
  subst h; rw [List.getElem?_append_right (Nat.le_refl _)]; simp
theorem set_mid {α : Type} {a b : List α} {x y : α} {n : Nat} (h : a.length = n) : (a ++ x :: b).set n y = a ++ y :: b := by
  subst h; simp
@[simp] theorem spliceL_more {cs : List AV} {i : Nat} {x y : AV} {r : List AV} : spliceL cs i (x :: y :: r) = spliceL (cs.set i x) (i + 1) (y :: r) := rfl
@[simp] theorem killL_repl {d n : Nat} {v : AV} : killL d (List.replicate n v) = List.replicate n (kill d v) := by induction n <;> simp_all [List.replicate_succ]
@[simp] theorem refsL_repl {n : Nat} {v : AV} (h : refs v = []) : refsL (List.replicate n v) = [] := by induction n <;> simp_all [List.replicate_succ]
@[simp] theorem mapIdL_repl {g : Nat → Nat} {n : Nat} {v : AV} : mapIdL g (List.replicate n v) = List.replicate n (mapId g v) := by induction n <;> simp_all [List.replicate_succ]
@[simp] theorem atoms_repl {n : Nat} {v : AV} (h : atom v = true) : atoms (List.replicate n v) = true := by induction n <;> simp_all [List.replicate_succ]
theorem xor_neg1 (n : Int) : IntKind.i64.wrap ((BitVec.ofInt 64 (-1) ^^^ BitVec.ofInt 64 n).toNat : Int) = IntKind.i64.wrap (-n - 1) := by
  have e : BitVec.ofInt 64 (-1) ^^^ BitVec.ofInt 64 n = ~~~ BitVec.ofInt 64 n := by
    have : BitVec.ofInt 64 (-1) = BitVec.allOnes 64 := by decide
    rw [this, BitVec.allOnes_xor]
  rw [e, BitVec.toNat_not, BitVec.toNat_ofInt, IntKind.wrap_i64, IntKind.wrap_i64]
  omega
@[simp high] theorem aun_xor64 {n : Int} : aun .xor (.int .i64 n) = some (.int .i64 (IntKind.i64.wrap (-n - 1))) := by
  have := xor_neg1 n
  show some (AV.int .i64 (IntKind.i64.wrap ((BitVec.ofInt 64 (-1) ^^^ BitVec.ofInt 64 n).toNat : Int))) = _
  rw [this]
@[simp high] theorem aun_not {b : Bool} : aun .not (.bool b) = some (.bool (!b)) := rfl
@[simp high] theorem aun_neg {k : IntKind} {n : Int} : aun .neg (.int k n) = some (.int k (k.wrap (0 - n))) := rfl

section
variable {n : Nat} {hp : List (Nat × AObj)}
@[simp] theorem snap_junk : snap (n + 1) hp .junk = .junk := rfl
@[simp] theorem snap_bool {b} : snap (n + 1) hp (.bool b) = .bool b := rfl
@[simp] theorem snap_int {k m} : snap (n + 1) hp (.int k m) = .int k m := rfl
@[simp] theorem snap_str {s} : snap (n + 1) hp (.str s) = .str s := rfl
@[simp] theorem snap_nilI : snap (n + 1) hp .nilI = .nilI := rfl
@[simp] theorem snap_nilP : snap (n + 1) hp .nilP = .nilP := rfl
@[simp] theorem snap_nilF : snap (n + 1) hp .nilF = .nilF := rfl
@[simp] theorem snap_nilM : snap (n + 1) hp .nilM = .nilM := rfl
@[simp] theorem snap_nilS : snap (n + 1) hp .nilS = .nilS := rfl
@[simp] theorem snap_sl {e xs} : snap (n + 1) hp (.sl e xs) = .sl e xs := rfl
@[simp] theorem snap_ptr {cs} : snap (n + 1) hp (.ptr cs) = .ptr cs := rfl
@[simp] theorem snap_bx {cs} : snap (n + 1) hp (.bx cs) = .bx cs := rfl
@[simp] theorem snap_mp {es} : snap (n + 1) hp (.mp es) = .mp es := rfl
@[simp] theorem snap_ifc {t v} : snap (n + 1) hp (.ifc t v) = .ifc t (snap (n + 1) hp v) := rfl
theorem snapWL_map {g : AV → AV} : ∀ l : List AV, snapWL g l = l.map (snapW g)
  | [] => rfl
  | x :: r => by simp [snapWL, snapWL_map r]
@[simp] theorem snap_agg {cs} : snap (n + 1) hp (.agg cs) = .agg (cs.map (snap (n + 1) hp)) := by
  show AV.agg (snapWL _ cs) = _
  rw [snapWL_map]; rfl
@[simp] theorem snap_tup {cs} : snap (n + 1) hp (.tup cs) = .tup (cs.map (snap (n + 1) hp)) := by
  show AV.tup (snapWL _ cs) = _
  rw [snapWL_map]; rfl
@[simp] theorem snap_fn {f cs} : snap (n + 1) hp (.fn f cs) = .fn f (cs.map (snap (n + 1) hp)) := by
  show AV.fn f (snapWL _ cs) = _
  rw [snapWL_map]; rfl
@[simp] theorem snap_ref {id off} : snap (n + 1) hp (.ref id off) = match oCells (hlk hp id) with | some cs => .ptr ((cs.drop off).map (snap n hp)) | none => .junk := by
  show resolveA (snap n hp) hp (.ref id off) = _
  simp only [resolveA]
  cases hlk hp id with
  | none => rfl
  | some o => cases o <;> rfl
@[simp] theorem snap_msl {id es off m} : snap (n + 1) hp (.msl id es off m) = match oCells (hlk hp id) with | some cs => if off + m * es ≤ cs.length ∧ atoms cs = true ∧ 0 < es then .sl es (elems es m ((cs.drop off).map (snap n hp))) else .junk | none => .junk := by
  show resolveA (snap n hp) hp (.msl id es off m) = _
  simp only [resolveA]
  cases hlk hp id with
  | none => rfl
  | some o => cases o <;> rfl
@[simp] theorem snap_mref {id} : snap (n + 1) hp (.mref id) = match oMp (hlk hp id) with | some es => .mp es | none => .junk := by
  show resolveA (snap n hp) hp (.mref id) = _
  simp only [resolveA]
  cases hlk hp id with
  | none => rfl
  | some o => cases o <;> rfl
end
end Wax

/- The program's own functions: searching, cutting, letters, white space. -/
namespace Wax
open Go (IntKind)

/-- Where a text stands first in another. -/
def findAt (sub : List UInt8) : List UInt8 → Nat → Option Nat
  | [], n => if sub = [] then some n else none
  | x :: r, n => if sub.isPrefixOf (x :: r) then some n else findAt sub r (n + 1)

def idxV (sub s : List UInt8) : Int := match findAt sub s 0 with | some n => (n : Int) | none => -1

def con_zzIndex : List AV → Option AV
  | [.str s, .str sub] => if s.length < big ∧ sub.length < big then some (.int .i64 (idxV sub s)) else none
  | _ => none

theorem isPrefixOf_take (sub : List UInt8) (s : List UInt8) (h : sub.length ≤ s.length) : sub.isPrefixOf s = decide (s.take sub.length = sub) := by
  induction sub generalizing s with
  | nil => simp
  | cons a r ih =>
    cases s with
    | nil => simp at h
    | cons b s =>
      simp at h
      simp only [List.isPrefixOf, ih s h, List.length_cons, List.take_succ_cons]
      by_cases e : a = b
      · subst e; simp
      · have e' : ¬ b = a := fun x => e x.symm
        simp [e, e']

theorem isPrefixOf_long (sub : List UInt8) (s : List UInt8) (h : s.length < sub.length) : sub.isPrefixOf s = false := by
  induction sub generalizing s with
  | nil => simp at h
  | cons a r ih =>
    cases s with
    | nil => simp [List.isPrefixOf]
    | cons b s =>
      simp at h
      simp [List.isPrefixOf, ih s h]

theorem findAt_none (sub : List UInt8) : ∀ (s : List UInt8) (n : Nat), s.length < sub.length → findAt sub s n = none
  | [], n, h => by
    have : sub ≠ [] := by intro e; subst e; simp at h
    simp [findAt, this]
  | x :: r, n, h => by
    simp only [findAt, isPrefixOf_long sub (x :: r) h, Bool.false_eq_true, if_false]
    exact findAt_none sub r (n + 1) (by simp at h; omega)

theorem ok_zzIndex (Γ : Gam) : ∀ args r, con_zzIndex args = some r → runs Γ c_dkim_zzIndex args (fun v => v = r) := by
  intro args r h
  simp only [con_zzIndex] at h
  split at h <;> (try simp at h; done)
  rename_i s sub
  obtain ⟨⟨hs, hb⟩, rfl⟩ := ite_some h
  clear h
  simp only [big] at hs hb
  simp [c_dkim_zzIndex]
  refine awp_loop (σ := List UInt8 × List UInt8) (fun p => ⟨[(0, .str s), (1, .str sub), (5, .int .i64 p.1.length)], []⟩) (fun p => s = p.1 ++ p.2 ∧ findAt sub s 0 = findAt sub p.2 p.1.length) (fun p => p.2.length) ([], s) (by simp) (by simp) ?_
  rintro ⟨pre, post⟩ ⟨hs1, hs2⟩
  simp only at hs1 hs2
  subst hs1
  simp at hs
  simp (disch := omega) [wrap64]
  refine ⟨fun hle => ?_, fun hlt => ?_⟩
  · have et : ((pre.length : Int) + (sub.length : Int)).toNat = pre.length + sub.length := by omega
    have e : List.drop pre.length (List.take (pre.length + sub.length) (pre ++ post)) = post.take sub.length := by
      rw [List.take_length_add_append, List.drop_left]
    rw [et, e]
    refine ⟨⟨by omega, hle⟩, fun h => ?_, fun h => ?_⟩
    · rw [idxV, hs2]
      cases post with
      | nil =>
        have : sub = [] := by cases sub <;> simp at hle ⊢
        simp [findAt, this]
      | cons x post => simp only [findAt, isPrefixOf_take sub (x :: post) hle, h, decide_true, if_true]
    · cases post with
      | nil =>
        have : sub = [] := by cases sub <;> simp at hle ⊢
        subst this; simp at h
      | cons x post =>
        refine ⟨(pre ++ [x], post), by simp, ⟨by simp, ?_⟩, by simp⟩
        rw [hs2]
        simp only [findAt, isPrefixOf_take sub (x :: post) hle, h, decide_false, Bool.false_eq_true, if_false]
        simp
  · rw [idxV, hs2, findAt_none sub post _ (by omega)]

/-- Of a text of one byte. -/
theorem findAt_one (c : UInt8) : ∀ (s : List UInt8) (n : Nat), findAt [c] s n = (cutAt c.toNat s).map fun p => n + p.1.length
  | [], n => by simp [findAt, cutAt]
  | x :: r, n => by
    simp only [findAt, cutAt, List.isPrefixOf, Bool.and_true]
    by_cases e : x = c
    · subst e; simp
    · have e1 : ¬ (x.toNat : Int) = (c.toNat : Int) := fun h => e (UInt8.toNat_inj.1 (by omega))
      have e2 : (c == x) = false := by simp; exact fun h => e h.symm
      simp only [e2, Bool.false_eq_true, if_false, if_neg e1, findAt_one c r (n + 1), Option.map_map]
      congr 1; funext p; simp; omega

theorem cutAt_eq {c : Int} : ∀ {s a b : List UInt8}, cutAt c s = some (a, b) → ∃ x : UInt8, (x.toNat : Int) = c ∧ s = a ++ x :: b ∧ noB c a
  | [], a, b, h => by simp [cutAt] at h
  | x :: r, a, b, h => by
    simp only [cutAt] at h
    split at h
    · rename_i e; simp at h; obtain ⟨rfl, rfl⟩ := h; exact ⟨x, e, by simp, by simp [noB]⟩
    · rename_i e
      cases hr : cutAt c r with
      | none => simp [hr] at h
      | some p =>
        simp [hr] at h
        obtain ⟨rfl, rfl⟩ := h
        obtain ⟨y, h1, h2, h3⟩ := cutAt_eq (a := p.1) (b := p.2) hr
        refine ⟨y, h1, by rw [h2]; simp, ?_⟩
        intro z hz
        simp at hz
        rcases hz with rfl | hz
        · exact e
        · exact h3 z hz

/-- Cut at a text of one byte. -/
def con_zzCut : List AV → Option AV
  | [.str s, .str [c]] => if s.length < big then some (cutV c.toNat s) else none
  | _ => none

theorem ok_zzCut (Γ : Gam) (h22 : Γ.fn 22 = con_zzIndex) : ∀ args r, con_zzCut args = some r → runs Γ c_dkim_zzCut args (fun v => v = r) := by
  intro args r h
  simp only [con_zzCut] at h
  split at h <;> (try simp at h; done)
  rename_i s c
  obtain ⟨hs, rfl⟩ := ite_some h
  clear h
  simp [c_dkim_zzCut]
  have h1 : 1 < big := by decide
  simp [acall, h22, con_zzIndex, hs, h1]
  simp only [big] at hs
  simp only [idxV, findAt_one]
  cases hc : cutAt c.toNat s with
  | none => simp [cutV, hc]
  | some p =>
    obtain ⟨a, b⟩ := p
    obtain ⟨x, hx1, hx2, hx3⟩ := cutAt_eq hc
    subst hx2
    simp at hs
    simp (disch := omega) [cutV, hc, wrap64]
    have e2 : ((a.length : Int) + 1).toNat = a.length + 1 := by omega
    omega
end Wax

/- The program's own functions: splitting, lists of tags. -/
namespace Wax
open Go (IntKind)

/-- What stands between the places of a byte. -/
def splitB (b : UInt8) : List UInt8 → List (List UInt8)
  | [] => [[]]
  | x :: r => if x = b then [] :: splitB b r else match splitB b r with
    | [] => [[x]]
    | h :: t => (x :: h) :: t

theorem splitB_ne (b : UInt8) (s : List UInt8) : splitB b s ≠ [] := by
  cases s with
  | nil => simp [splitB]
  | cons x r => simp only [splitB]; split; simp; split <;> simp

theorem splitB_cut (b : UInt8) : ∀ (s : List UInt8), splitB b s = match cutAt b.toNat s with | none => [s] | some (a, c) => a :: splitB b c
  | [] => rfl
  | x :: r => by
    have ih := splitB_cut b r
    simp only [splitB, cutAt]
    by_cases e : x = b
    · subst e; simp
    · have e1 : ¬ (x.toNat : Int) = (b.toNat : Int) := fun h => e (UInt8.toNat_inj.1 (by omega))
      rw [if_neg e, if_neg e1, ih]
      cases cutAt b.toNat r with
      | none => rfl
      | some p => rfl

theorem splitB_length (b : UInt8) : ∀ (s : List UInt8), (splitB b s).length ≤ s.length + 1
  | [] => by simp [splitB]
  | x :: r => by
    have ih := splitB_length b r
    simp only [splitB]
    split
    · simp; omega
    · split
      · simp
      · rename_i h t e; rw [e] at ih; simp at ih ⊢; omega

theorem splitB_mem_length (b : UInt8) : ∀ (s p : List UInt8), p ∈ splitB b s → p.length ≤ s.length
  | [], p, h => by simp [splitB] at h; subst h; simp
  | x :: r, p, h => by
    have ih := splitB_mem_length b r
    simp only [splitB] at h
    split at h
    · rcases List.mem_cons.1 h with e | h
      · subst e; simp
      · have := ih p h; simp; omega
    · split at h
      · simp at h; subst h; simp
      · rename_i hd t e
        rcases List.mem_cons.1 h with e' | h
        · subst e'
          have := ih hd (by rw [e]; simp); simp; omega
        · have := ih p (by rw [e]; simp [h]); simp; omega

def con_zzSplit : List AV → List (Nat × AObj) → Option (AV × List (Nat × AObj))
  | [.str s, .str [b]], [] => if s.length < mid then some (.msl 0 1 0 (splitB b s).length, [(0, .cells (strsA (splitB b s)))]) else none
  | _, _ => none

theorem ok_zzSplit (Γ : Gam) (h22 : Γ.fn 22 = con_zzIndex) : ∀ args hp q, con_zzSplit args hp = some q → runsS Γ c_dkim_zzSplit args hp (fun v => v = some q) := by
  intro args hp q h
  simp only [con_zzSplit] at h
  split at h <;> (try simp at h; done)
  rename_i s b
  obtain ⟨hs, rfl⟩ := ite_some h
  clear h
  simp only [mid] at hs
  have h1 : 1 < big := by decide
  simp [c_dkim_zzSplit, t_dkim_zzSplit_4]
  refine awp_loop2 (σ := List (List UInt8) × List UInt8) (fun p => ⟨[(0, .str p.2), (1, .str [b]), (5, grV 51 1 p.1.length)], grH 51 p.1.length (strsA p.1)⟩)
    (fun p => splitB b s = p.1 ++ splitB b p.2 ∧ p.1.length + p.2.length ≤ s.length) (fun p => p.2.length) ([], s) (by simp) (by simp) ?_
  rintro ⟨done, cur⟩ ⟨hs1, hs2⟩ LQ hLQ
  simp only at hs1 hs2
  have hcb : cur.length < big := by simp only [big]; omega
  simp [b_dkim_zzSplit_3, acall, h22, con_zzIndex, hcb, h1]
  simp only [idxV, findAt_one]
  rw [splitB_cut b cur] at hs1
  cases hc : cutAt b.toNat cur with
  | none =>
    simp only [hc] at hs1
    rw [hs1]
    cases done with
    | nil => simp [reach_succ]
    | cons d0 dr =>
      simp [reach_succ]
      simp at hs2
      omega
  | some p =>
    obtain ⟨a, c⟩ := p
    simp only [hc] at hs1
    obtain ⟨x, hx1, hx2, hx3⟩ := cutAt_eq hc
    subst hx2
    simp at hs2
    have fin : ∀ st, norm [0, 1, 5] st = ⟨[(0, .str c), (1, .str [b]), (5, grV 51 1 (done ++ [a]).length)], grH 51 (done ++ [a]).length (strsA (done ++ [a]))⟩ → LQ st := by
      intro st hst
      exact hLQ (done ++ [a], c) ⟨by simpa using hs1, by simp; omega⟩ (by simp; omega) st hst
    have e2 : ((a.length : Int) + 1).toNat = a.length + 1 := by omega
    cases done with
    | nil =>
      simp (disch := omega) [wrap64]
      refine ⟨by omega, by omega, ⟨by omega, by omega⟩, fin _ ?_⟩
      simp
    | cons d0 dr =>
      simp at hs2
      simp (disch := omega) [wrap64]
      refine ⟨by omega, by omega, by omega, ⟨by omega, by omega⟩, fin _ ?_⟩
      simp
end Wax

/- The program's own functions (2): letters, white space, of texts of ASCII. -/
namespace Wax
open Go (IntKind)

def ascii (s : List UInt8) : Bool := s.all fun b => decide (b.toNat < 128)

theorem ascii_cons {x : UInt8} {s : List UInt8} : ascii (x :: s) = (decide (x.toNat < 128) && ascii s) := rfl
theorem ascii_app {s t : List UInt8} : ascii (s ++ t) = (ascii s && ascii t) := by simp [ascii]

def con_zzToLower : List AV → Option AV
  | [.str s] => if s.length < mid ∧ ascii s = true then some (.str (lowS s)) else none
  | _ => none

theorem ok_zzToLower (Γ : Gam) : ∀ args r, con_zzToLower args = some r → runs Γ c_dkim_zzToLower args (fun v => v = r) := by
  intro args r h
  simp only [con_zzToLower] at h
  split at h <;> (try simp at h; done)
  rename_i s
  obtain ⟨⟨hs, ha⟩, rfl⟩ := ite_some h
  clear h
  simp only [mid] at hs
  simp [c_dkim_zzToLower]
  refine awp_loop (σ := List UInt8 × List UInt8 × Nat) (fun p => ⟨[(0, .str s), (3, outV p.2.2 (lowS p.1)), (4, .int .i64 p.1.length)], outH p.2.2 (lowS p.1)⟩)
    (fun p => s = p.1 ++ p.2.1 ∧ (p.2.2 = 18 ∨ p.2.2 = 31)) (fun p => p.2.1.length) ([], s, 18) (by simp) (by simp) ?_
  rintro ⟨pre, post, d⟩ ⟨hs1, hd⟩
  simp only at hs1 hd
  subst hs1
  cases post with
  | nil =>
    by_cases ho : pre = []
    · subst ho; simp
    · have hne : lowS pre ≠ [] := by intro e; apply ho; simpa [lowS] using e
      have e : List.take pre.length (lowS pre) = lowS pre := List.take_of_length_le (by simp)
      simp [outV_ne hne, outH_ne hne, e]
  | cons x post =>
    simp at hs
    have hx : x.toNat < 128 := by
      have := (by simpa [ascii_app, ascii_cons] using ha : ascii pre = true ∧ x.toNat < 128 ∧ ascii post = true)
      exact this.2.1
    have hl := lowB_toNat x
    have step : ∀ (n : Int) d', n = (lowB x).toNat → (d' = 18 ∨ d' = 31) →
        loopQ [0, 3, 4] (fun p : List UInt8 × List UInt8 × Nat => ⟨[(0, .str (pre ++ x :: post)), (3, outV p.2.2 (lowS p.1)), (4, .int .i64 p.1.length)], outH p.2.2 (lowS p.1)⟩)
          (fun p => pre ++ x :: post = p.1 ++ p.2.1 ∧ (p.2.2 = 18 ∨ p.2.2 = 31)) (fun p => p.2.1.length) (pre, x :: post, d)
          ⟨[(0, .str (pre ++ x :: post)), (3, .msl d' 1 0 (pre.length + 1)), (4, .int .i64 (IntKind.i64.wrap (pre.length + 1)))], [(d', .cells (bcA (lowS pre) ++ [.int .u8 n]))]⟩ := by
      intro n d' hn h1
      subst hn
      refine ⟨(pre ++ [x], post, d'), ?_, ⟨by simp, h1⟩, by simp⟩
      have e1 : outV d' (lowS (pre ++ [x])) = .msl d' 1 0 (pre.length + 1) := by rw [outV_ne (by simp)]; simp
      have e2 : outH d' (lowS (pre ++ [x])) = [(d', .cells (bcA (lowS pre) ++ [.int .u8 (lowB x).toNat]))] := by rw [outH_ne (by simp)]; simp
      simp (disch := omega) only [e1, e2]
      simp (disch := omega) [wrap64]
    generalize hl2 : loopQ [0, 3, 4] (fun p : List UInt8 × List UInt8 × Nat => (⟨[(0, .str (pre ++ x :: post)), (3, outV p.2.2 (lowS p.1)), (4, .int .i64 p.1.length)], outH p.2.2 (lowS p.1)⟩ : St))
          (fun p => pre ++ x :: post = p.1 ++ p.2.1 ∧ (p.2.2 = 18 ∨ p.2.2 = 31)) (fun p => p.2.1.length) (pre, x :: post, d) = LQ at step ⊢
    clear hl2
    by_cases hlow : 65 ≤ (x.toNat : Int) ∧ (x.toNat : Int) ≤ 90
    · obtain ⟨l1, l2⟩ := hlow
      rw [if_pos ⟨l1, l2⟩] at hl
      have w1 : IntKind.u8.wrap ((x.toNat : Int) + 97) = (x.toNat : Int) + 97 := Go.IntWalk.u8_in _ ⟨by omega, by omega⟩
      have w2 : IntKind.u8.wrap ((x.toNat : Int) + 97 - 65) = (x.toNat : Int) + 97 - 65 := Go.IntWalk.u8_in _ ⟨by omega, by omega⟩
      have st := step ((x.toNat : Int) + 97 - 65) 31 (by omega) (.inr rfl)
      have tk : List.take pre.length (lowS pre) = lowS pre := List.take_of_length_le (by simp)
      by_cases ho : pre = []
      · subst ho
        simp [w1, w2, l1, l2]
        simpa using st
      · have hne : lowS pre ≠ [] := by intro e; apply ho; simpa [lowS] using e
        rcases hd with rfl | rfl
        · simp [outV_ne hne, outH_ne hne, w1, w2, l1, l2, tk]
          exact ⟨fun _ => ⟨by omega, st⟩, by omega⟩
        · simp [outV_ne hne, outH_ne hne, w1, w2, l1, l2, tk]
          exact ⟨fun _ => ⟨by omega, st⟩, by omega⟩
    · rw [if_neg hlow] at hl
      have st := step (x.toNat : Int) 18 (by omega) (.inl rfl)
      have tk : List.take pre.length (lowS pre) = lowS pre := List.take_of_length_le (by simp)
      have hx226 : ¬ x = 226 := by intro e; subst e; simp at hx
      have et : ((pre.length : Int) + 3).toNat = pre.length + 3 := by omega
      have e3 : List.drop pre.length (List.take (pre.length + 3) (pre ++ x :: post)) = x :: post.take 2 := by
        rw [List.take_length_add_append, List.drop_left]; rfl
      have ew : ((pre.length : Int) + ((post.length : Int) + 1) - (pre.length : Int)) = (post.length : Int) + 1 := by omega
      have hcase : (¬ 65 ≤ (x.toNat : Int)) ∨ ((65 ≤ (x.toNat : Int)) ∧ ¬ (x.toNat : Int) ≤ 90) := by omega
      have ewr : IntKind.i64.wrap ((pre.length : Int) + 1) = (pre.length : Int) + 1 := wrap64 (by omega) (by omega)
      rw [ewr] at st
      by_cases ho : pre = []
      · subst ho
        simp at st e3
        rcases hcase with l1 | ⟨l1, l2⟩
        · simp [l1]
          simp (disch := omega) [wrap64, l1, hx226, e3]
          exact ⟨fun h => ⟨h, st⟩, fun _ => st⟩
        · simp [l1, l2]
          simp (disch := omega) [wrap64, l1, l2, hx226, e3]
          exact ⟨fun h => ⟨h, st⟩, fun _ => st⟩
      · have hne : lowS pre ≠ [] := by intro e; apply ho; simpa [lowS] using e
        rcases hcase with l1 | ⟨l1, l2⟩
        · rcases hd with rfl | rfl
          · simp [outV_ne hne, outH_ne hne, l1]
            simp (disch := omega) [tk, wrap64, l1, hx226, et, e3, ew]
            exact ⟨fun _ => ⟨fun h => ⟨⟨by omega, h⟩, by omega, st⟩, fun _ => ⟨by omega, st⟩⟩, by omega⟩
          · simp [outV_ne hne, outH_ne hne, l1]
            simp (disch := omega) [tk, wrap64, l1, hx226, et, e3, ew]
            exact ⟨fun _ => ⟨fun h => ⟨⟨by omega, h⟩, by omega, st⟩, fun _ => ⟨by omega, st⟩⟩, by omega⟩
        · rcases hd with rfl | rfl
          · simp [outV_ne hne, outH_ne hne, l1, l2]
            simp (disch := omega) [tk, wrap64, l1, l2, hx226, et, e3, ew]
            exact ⟨fun _ => ⟨fun h => ⟨⟨by omega, h⟩, by omega, st⟩, fun _ => ⟨by omega, st⟩⟩, by omega⟩
          · simp [outV_ne hne, outH_ne hne, l1, l2]
            simp (disch := omega) [tk, wrap64, l1, l2, hx226, et, e3, ew]
            exact ⟨fun _ => ⟨fun h => ⟨⟨by omega, h⟩, by omega, st⟩, fun _ => ⟨by omega, st⟩⟩, by omega⟩
end Wax

/- The program's own functions (3): white space, of ASCII. -/
namespace Wax
open Go (IntKind)

def isSp (n : Int) : Bool := decide ((9 ≤ n ∧ n ≤ 13) ∨ n = 32)

def con_zzIsSpace : List AV → Option AV
  | [.int .i32 n] => if n < 128 then some (.bool (isSp n)) else none
  | _ => none

theorem ok_zzIsSpace (Γ : Gam) : ∀ args r, con_zzIsSpace args = some r → runs Γ c_dkim_zzIsSpace args (fun v => v = r) := by
  intro args r h
  simp only [con_zzIsSpace] at h
  split at h <;> (try simp at h; done)
  rename_i n
  obtain ⟨hn, rfl⟩ := ite_some h
  clear h
  have f1 : ¬ n = 133 := by omega
  have f2 : ¬ n = 160 := by omega
  have f3 : ¬ n = 5760 := by omega
  have f4 : ¬ 8192 ≤ n := by omega
  have f5 : ¬ n = 8232 := by omega
  have f6 : ¬ n = 8233 := by omega
  have f7 : ¬ n = 8239 := by omega
  have f8 : ¬ n = 8287 := by omega
  have f9 : ¬ n = 12288 := by omega
  have key : ∀ b : Bool, ((9 ≤ n ∧ n ≤ 13) ∨ n = 32 ↔ b = true) → b = isSp n := by
    intro b hb; unfold isSp; cases b <;> simp at hb ⊢ <;> omega
  by_cases h1 : 9 ≤ n <;> by_cases h2 : n ≤ 13 <;> by_cases h3 : n = 32 <;>
    simp [c_dkim_zzIsSpace, f1, f2, f3, f4, f5, f6, f7, f8, f9, h1, h2, h3] <;> first | rfl | exact decide_eq_true (by omega) | exact decide_eq_false (by omega)

def con_closure : List AV → Option AV
  | [.int .i32 n] => some (.bool (isWs n))
  | _ => none

theorem ok_closure (Γ : Gam) : ∀ args r, con_closure args = some r → runs Γ c_dkim_relaxedCanonicalizer_CanonicalizeHeader_1 args (fun v => v = r) := by
  intro args r h
  simp only [con_closure] at h
  split at h <;> simp at h
  rename_i b
  subst h
  simp [c_dkim_relaxedCanonicalizer_CanonicalizeHeader_1, isWs]
  refine ⟨fun h => ⟨fun h2 => ⟨fun h3 => ?_, fun h3 => ?_⟩, fun h2 => ?_⟩, fun h => ?_⟩ <;> simp [*]

def con_simpleCH : List AV → Option AV
  | [_, .str s] => some (.str s)
  | _ => none

theorem ok_simpleCH (Γ : Gam) : ∀ args r, con_simpleCH args = some r → runs Γ c_dkim_simpleCanonicalizer_CanonicalizeHeader args (fun v => v = r) := by
  intro args r h
  simp only [con_simpleCH] at h
  split at h <;> simp at h
  subst h
  simp [c_dkim_simpleCanonicalizer_CanonicalizeHeader]

def con_canonicalizers : List AV → Option AV
  | [.str s] => some (if s = simpleB then .tup [.ifc 1 (.ptr []), .bool true] else if s = relaxedB then .tup [.ifc 2 (.ptr []), .bool true] else .tup [.nilI, .bool false])
  | _ => none

theorem ok_canonicalizers (Γ : Gam) : ∀ args r, con_canonicalizers args = some r → runs Γ c_dkim_canonicalizers args (fun v => v = r) := by
  intro args r h
  simp only [con_canonicalizers] at h
  split at h <;> simp at h
  rename_i s
  subst h
  simp [c_dkim_canonicalizers, simpleB, relaxedB, snap, snapW, snapWL, resolveA]
  exact ⟨fun h => by simp [h], fun h => ⟨fun h2 => by simp [h2], fun h2 => by simp [h, h2]⟩⟩

/-- The parts of a text between white space. -/
def wordsGo : List UInt8 → List UInt8 → List (List UInt8)
  | cur, [] => if cur = [] then [] else [cur]
  | cur, x :: r => if isWs x.toNat then (if cur = [] then wordsGo [] r else cur :: wordsGo [] r) else wordsGo (cur ++ [x]) r
def wordsOf (s : List UInt8) : List (List UInt8) := wordsGo [] s

def joinB : List (List UInt8) → List UInt8
  | [] => []
  | [s] => s
  | s :: r => s ++ [32] ++ joinB r

theorem wordsGo_ne : ∀ (s cur : List UInt8), cur ≠ [] → wordsGo cur s ≠ []
  | [], cur, h => by simp [wordsGo, h]
  | x :: r, cur, h => by
    simp only [wordsGo]
    split
    · simp
    · exact wordsGo_ne r _ (by simp)

def J2 (ws : List (List UInt8)) : List UInt8 := if ws = [] then [] else 32 :: joinB ws

theorem joinB_cons (c : List UInt8) (ws : List (List UInt8)) : joinB (c :: ws) = c ++ J2 ws := by
  cases ws with
  | nil => simp [joinB, J2]
  | cons d r => simp [joinB, J2]

theorem J2_ne {ws : List (List UInt8)} (h : ws ≠ []) : J2 ws = 32 :: joinB ws := by simp [J2, h]

/-- The reference's joined text is that of the words. -/
theorem joinGo_words : ∀ (s : List UInt8),
    (∀ out : List UInt8, out ≠ [] → joinGo out true s = out ++ J2 (wordsOf s)) ∧
    (joinGo [] false s = joinB (wordsOf s)) ∧
    (∀ pre cur : List UInt8, cur ≠ [] → joinGo (pre ++ cur) false s = pre ++ joinB (wordsGo cur s))
  | [] => by
    refine ⟨fun out _ => by simp [joinGo, wordsOf, wordsGo, J2], by simp [joinGo, wordsOf, wordsGo, joinB], fun pre cur h => by simp [joinGo, wordsGo, h, joinB]⟩
  | x :: r => by
    obtain ⟨hA, hB, hC⟩ := joinGo_words r
    by_cases hw : isWs x.toNat = true
    · refine ⟨fun out ho => ?_, ?_, fun pre cur hc => ?_⟩
      · have : decide (0 < out.length) = true := decide_eq_true (List.length_pos_iff.2 ho)
        simp only [joinGo, if_pos hw, this, hA out ho, wordsOf, wordsGo]
        rfl
      · simp only [joinGo, if_pos hw, wordsOf, wordsGo]
        exact hB
      · have : decide (0 < (pre ++ cur).length) = true := decide_eq_true (List.length_pos_iff.2 (by simp [hc]))
        simp only [joinGo, if_pos hw, this, hA (pre ++ cur) (by simp [hc]), wordsGo, if_neg hc, joinB_cons]
        simp [wordsOf]
    · refine ⟨fun out ho => ?_, ?_, fun pre cur hc => ?_⟩
      · have h1 := hC (out ++ [32]) [x] (by simp)
        have h2 := wordsGo_ne r [x] (by simp)
        simp only [joinGo, if_neg hw, if_true, wordsOf, wordsGo, List.nil_append, h1, J2_ne h2]
        simp
      · have h1 := hC [] [x] (by simp)
        simp only [joinGo, if_neg hw, wordsOf, wordsGo, List.nil_append] at h1 ⊢
        exact h1
      · have h1 := hC pre (cur ++ [x]) (by simp)
        simp only [joinGo, if_neg hw, wordsGo, ← List.append_assoc] at h1 ⊢
        exact h1

theorem joinB_words (s : List UInt8) : joinB (wordsOf s) = joinGo [] false s := (joinGo_words s).2.1.symm

def relaxedOf (s : List UInt8) : List UInt8 :=
  match cutAt 58 s with
  | none => trimS (lowS s) ++ [58, 13, 10]
  | some p => trimS (lowS p.1) ++ [58] ++ joinB (wordsOf p.2) ++ [13, 10]

def con_FieldsFunc : List AV → Option AV
  | [.str s, .fn 20 []] => if s.length < mid ∧ ascii s = true then some (.sl 1 (strsA (wordsOf s))) else none
  | _ => none

def con_Join : List AV → Option AV
  | [v, .str [32]] => match slStrs v with
    | some l => if (joinB l).length < mid then some (.str (joinB l)) else none
    | none => none
  | _ => none

def plain (s : List UInt8) : Bool := s.all plainB

def con_zzTrimSpace : List AV → Option AV
  | [.str s] => if s.length < mid ∧ plain s = true then some (.str (trimS s)) else none
  | _ => none

def con_relaxedCH : List AV → Option AV
  | [_, .str s] => if s.length < mid ∧ plain s = true ∧ (∀ p, cutAt 58 s = some p → (joinB (wordsOf p.2)).length < mid) then some (.str (relaxedOf s)) else none
  | _ => none

theorem plain_ascii {s : List UInt8} (h : plain s = true) : ascii s = true := by
  simp only [plain, ascii, List.all_eq_true] at h ⊢
  intro b hb
  have := of_decide_eq_true (h b hb)
  exact decide_eq_true (by omega)

theorem plain_low {s : List UInt8} (h : plain s = true) : plain (lowS s) = true := by
  simp only [plain, lowS, List.all_eq_true, List.mem_map] at h ⊢
  rintro b ⟨a, ha, rfl⟩
  have h1 := of_decide_eq_true (h a ha)
  have h2 := lowB_toNat a
  apply plainB_true
  split at h2 <;> omega

theorem ok_relaxedCH (Γ : Gam) (h16 : Γ.fn 16 = con_zzCut) (h17 : Γ.fn 17 = con_zzToLower) (h18 : Γ.fn 18 = con_zzTrimSpace) (h19 : Γ.fn 19 = con_FieldsFunc) (h21 : Γ.fn 21 = con_Join) :
    ∀ args r, con_relaxedCH args = some r → runs Γ c_dkim_relaxedCanonicalizer_CanonicalizeHeader args (fun v => v = r) := by
  intro args r h
  simp only [con_relaxedCH] at h
  split at h <;> (try simp at h; done)
  rename_i v s
  obtain ⟨⟨hs, hp, hj⟩, rfl⟩ := ite_some h
  clear h
  have e1 : s.length < big := by simp only [mid, big] at *; omega
  simp [c_dkim_relaxedCanonicalizer_CanonicalizeHeader]
  simp [acall, h16, con_zzCut, e1]
  have t1 := trimS_length (lowS s)
  simp at t1
  cases hc : cutAt 58 s with
  | none =>
    simp [cutV, hc, acall, h17, con_zzToLower, hs, plain_ascii hp, h18, con_zzTrimSpace, plain_low hp]
    simp only [mid] at hs
    refine ⟨by omega, by omega, ?_⟩
    simp [relaxedOf, hc]
  | some p =>
    obtain ⟨n, w⟩ := p
    have hl := cutAt_length hc
    obtain ⟨x, hx1, hx2, hx3⟩ := cutAt_eq hc
    have hpn : plain n = true ∧ plain w = true := by
      have h2 := hp
      rw [hx2] at h2
      simp only [plain, List.all_append, List.all_cons, Bool.and_eq_true] at h2 ⊢
      exact ⟨h2.1, h2.2.2⟩
    have e2 : n.length < mid := by simp only [mid] at *; omega
    have e3 : w.length < mid := by simp only [mid] at *; omega
    have hj' := hj (n, w) hc
    simp only at hj'
    have t2 := trimS_length (lowS n)
    simp at t2
    have hsl : slStrs (.sl 1 (strsA (wordsOf w))) = some (wordsOf w) := by simp [slStrs]
    simp [cutV, hc, acall, h17, con_zzToLower, e2, plain_ascii hpn.1, h18, con_zzTrimSpace, plain_low hpn.1, h19, con_FieldsFunc, e3, plain_ascii hpn.2, h21, con_Join, hsl, hj']
    simp only [mid] at e2 e3 hj'
    refine ⟨by omega, by omega, by omega, ?_⟩
    simp [relaxedOf, hc]

/-- A field in a form, as the program gives it; false: there is no such form. -/
def canonV (form s : List UInt8) : AV :=
  if form = simpleB then .tup [.str s, .bool true] else if form = relaxedB then .tup [.str (relaxedOf s), .bool true] else .tup [.str [], .bool false]

abbrev relOk (s : List UInt8) : Prop := s.length < mid ∧ plain s = true ∧ (∀ p, cutAt 58 s = some p → (joinB (wordsOf p.2)).length < mid)

theorem rel_ne : ¬ relaxedB = simpleB := by decide

def con_CanonicalHeader : List AV → Option AV
  | [.str form, .str s] => if relOk s then some (canonV form s) else none
  | _ => none

theorem ok_CanonicalHeader (Γ : Gam) (h15 : Γ.fn 15 = con_canonicalizers) (h30 : Γ.fn 30 = con_simpleCH) (h31 : Γ.fn 31 = con_relaxedCH) (m1 : Γ.mth 1 "CanonicalizeHeader" = some 30) (m2 : Γ.mth 2 "CanonicalizeHeader" = some 31) :
    ∀ args r, con_CanonicalHeader args = some r → runs Γ c_dkim_CanonicalHeader args (fun v => v = r) := by
  intro args r h
  simp only [con_CanonicalHeader] at h
  split at h <;> (try simp at h; done)
  rename_i form s
  obtain ⟨hr, rfl⟩ := ite_some h
  clear h
  have e : con_relaxedCH [.ptr [], .str s] = some (.str (relaxedOf s)) := by
    simp only [con_relaxedCH]
    exact if_pos hr
  by_cases f1 : form = simpleB
  · simp [c_dkim_CanonicalHeader, acall, h15, con_canonicalizers, f1, m1, h30, con_simpleCH, canonV]
  · by_cases f2 : form = relaxedB
    · simp [c_dkim_CanonicalHeader, acall, h15, con_canonicalizers, f2, rel_ne, m2, h31, e, canonV]
    · simp [c_dkim_CanonicalHeader, acall, h15, con_canonicalizers, f1, f2, canonV]

def con_DCanonField : List AV → Option AV
  | [.str form, .str s] => if relOk s then some (.str (if form = simpleB then s else if form = relaxedB then relaxedOf s else [])) else none
  | _ => none

theorem con_CanonicalHeader_eq {form s : List UInt8} (hr : relOk s) : con_CanonicalHeader [.str form, .str s] = some (canonV form s) := if_pos hr

theorem ok_DCanonField (Γ : Gam) (h13 : Γ.fn 13 = con_CanonicalHeader) : ∀ args r, con_DCanonField args = some r → runs Γ c_impl_DCanonField args (fun v => v = r) := by
  intro args r h
  simp only [con_DCanonField] at h
  split at h <;> (try simp at h; done)
  rename_i form s
  obtain ⟨hr, rfl⟩ := ite_some h
  clear h
  have e := con_CanonicalHeader_eq (form := form) hr
  clear hr
  by_cases f1 : form = simpleB
  · subst f1; simp [c_impl_DCanonField, acall, h13, e, canonV]
  · by_cases f2 : form = relaxedB
    · subst f2; simp [c_impl_DCanonField, acall, h13, e, canonV, rel_ne]
    · simp [c_impl_DCanonField, acall, h13, e, canonV, f1, f2]

/-- What the statement asks of its own calls: that the list is cut, and a field written, as the set's own samples have it. -/
def con_dAwake : List AV → Option AV
  | [] => some (.bool true)
  | _ => none

def con_FnDCanonFields : List AV → Option AV
  | [.str form, .str field] => if form.length < 9223372036854775808 ∧ field.length < 9223372036854775808 then some (.bool true) else none
  | _ => none

/-- Both give the same field. -/
theorem relaxedOf_eq (s : List UInt8) : relaxedOf s = fieldOf relaxedB s := by
  simp only [relaxedOf, fieldOf, if_neg rel_ne]
  cases cutAt 58 s with
  | none => rfl
  | some p => simp only [joinB_words]

theorem relOk_of {s : List UInt8} (hs : s.length < 549755813888) (hp : plain s = true) : relOk s := by
  refine ⟨by simp only [mid]; omega, hp, ?_⟩
  rintro ⟨n, v⟩ hc
  have h1 := cutAt_length hc
  have h2 := joinGo_length v [] false
  rw [joinB_words]
  simp at h2
  simp only [mid]; omega
end Wax

/- The program's own functions: lists of tags; runes of plain texts. -/
namespace Wax
open Go (IntKind)

theorem decA {x : UInt8} {r : List UInt8} (h : x.toNat < 128) : decR (x :: r) = (x.toNat, 1) := by
  have e : (⟨(x :: r).toArray⟩ : ByteArray).get! 0 = x := by
    show (x :: r).toArray[0]! = x
    simp
  simp [decR, Go.Utf8.decode, e, h]

theorem hvA {x : UInt8} (h : x.toNat < 128) : Go.Utf8.valid (x.toNat : Int) = true := by
    unfold Go.Utf8.valid
    have h1 : decide ((0:Int) ≤ x.toNat) = true := decide_eq_true (Int.natCast_nonneg _)
    have h2 : decide ((x.toNat : Int) < 0xD800) = true := decide_eq_true (by omega)
    rw [h1, h2]; rfl
theorem encA1 {x : UInt8} (h : x.toNat < 128) : Go.Utf8.encode (x.toNat : Int) = ⟨#[x]⟩ := by
  have hv := hvA h
  have e : UInt8.ofNat x.toNat = x := by simp
  have e2 : (if Go.Utf8.valid (x.toNat : Int) = true then (x.toNat : Int).toNat else Go.Utf8.runeError) = x.toNat := by rw [if_pos hv]; simp
  simp only [Go.Utf8.encode, e2, e, h, if_true]
theorem encA {x : UInt8} (h : x.toNat < 128) : encR (x.toNat : Int) = [x] := by
  rw [encR, encA1 h]

theorem ascii_lt {x : UInt8} {s : List UInt8} (h : ascii (x :: s) = true) : x.toNat < 128 ∧ ascii s = true := by
  rw [ascii_cons] at h; simpa using h

/-- A text without white space. -/
def stripS (s : List UInt8) : List UInt8 := s.filter fun b => !isSp b.toNat

def con_stripWhitespace : List AV → Option AV
  | [.str s] => if s.length < mid ∧ ascii s = true then some (.str (stripS s)) else none
  | _ => none

set_option maxRecDepth 100000 in
theorem ok_stripWhitespace (Γ : Gam) (h23 : Γ.fn 23 = con_zzIsSpace) : ∀ args r, con_stripWhitespace args = some r → runs Γ c_dkim_stripWhitespace args (fun v => v = r) := by
  intro args r h
  simp only [con_stripWhitespace] at h
  split at h <;> (try simp at h; done)
  rename_i s
  obtain ⟨⟨hs, ha⟩, rfl⟩ := ite_some h
  clear h
  simp only [mid] at hs
  simp [c_dkim_stripWhitespace]
  refine awp_loop2 (σ := List UInt8 × List UInt8) (fun p => ⟨[(3, outV 17 (stripS p.1)), (7, .ref 7 0)], outH 17 (stripS p.1) ++ [(7, .sit s p.1.length)]⟩)
    (fun p => s = p.1 ++ p.2) (fun p => p.2.length) ([], s) (by simp [stripS]) (by simp) ?_
  rintro ⟨pre, post⟩ hs1 LQ hLQ
  simp only at hs1
  subst hs1
  have hlen : (stripS pre).length ≤ pre.length := List.length_filter_le _ _
  cases post with
  | nil =>
    simp at hs
    by_cases ho : stripS pre = []
    · simp [b_dkim_stripWhitespace_1, t_dkim_stripWhitespace_2, ho]
    · simp [b_dkim_stripWhitespace_1, t_dkim_stripWhitespace_2, outV_ne ho, outH_ne ho, List.take_of_length_le]
  | cons x post =>
    have hx := (ascii_lt (by rw [ascii_app] at ha; simp only [Bool.and_eq_true] at ha; exact ha.2 : ascii (x :: post) = true)).1
    simp at hs
    have fin : ∀ st, norm [3, 7] st = ⟨[(3, outV 17 (stripS (pre ++ [x]))), (7, .ref 7 0)], outH 17 (stripS (pre ++ [x])) ++ [(7, .sit (pre ++ x :: post) (pre.length + 1))]⟩ → LQ st := by
      intro st hst
      exact hLQ (pre ++ [x], post) (by simp) (by simp) st (by simpa using hst)
    have hk : con_zzIsSpace [.int .i32 (x.toNat : Int)] = some (.bool (isSp x.toNat)) := by
      simp only [con_zzIsSpace]; exact if_pos (by omega)
    have e1 : (x.toNat : Int) < 128 := by omega
    cases hsp : isSp x.toNat with
    | true =>
      have e : stripS (pre ++ [x]) = stripS pre := by simp [stripS, hsp]
      rw [e] at fin
      by_cases ho : stripS pre = []
      · rw [ho] at fin
        simp [b_dkim_stripWhitespace_1, ho, decA hx, acall, h23, hk, hsp]
        exact fin _ (by simp)
      · rw [outV_ne ho, outH_ne ho] at fin
        simp [b_dkim_stripWhitespace_1, outV_ne ho, outH_ne ho, decA hx, acall, h23, hk, hsp]
        exact fin _ (by simp)
    | false =>
      have e : stripS (pre ++ [x]) = stripS pre ++ [x] := by simp [stripS, hsp]
      rw [e, outV_ne (by simp), outH_ne (by simp)] at fin
      by_cases ho : stripS pre = []
      · rw [ho] at fin
        simp [b_dkim_stripWhitespace_1, ho, decA hx, acall, h23, hk, hsp, encA hx]
        exact fin _ (by simp)
      · simp [b_dkim_stripWhitespace_1, outV_ne ho, outH_ne ho, decA hx, acall, h23, hk, hsp, encA hx]
        refine ⟨by omega, fin _ (by simp)⟩

/-- Texts between colons, without white space. -/
def tagL (s : List UInt8) : List (List UInt8) := (splitB 58 s).map stripS

def con_parseTagList : List AV → Option AV
  | [.str s] => if s.length < mid ∧ ascii s = true then some (.sl 1 (strsA (tagL s))) else none
  | _ => none

theorem splitB_ascii (b : UInt8) : ∀ (s p : List UInt8), ascii s = true → p ∈ splitB b s → ascii p = true
  | [], p, _, h => by simp [splitB] at h; subst h; rfl
  | x :: r, p, ha, h => by
    obtain ⟨hx, ha⟩ := ascii_lt ha
    have ih := splitB_ascii b r
    simp only [splitB] at h
    split at h
    · rcases List.mem_cons.1 h with e | h
      · subst e; rfl
      · exact ih p ha h
    · split at h
      · simp at h; subst h; simp [ascii_cons, hx]; rfl
      · rename_i hd t e
        rcases List.mem_cons.1 h with e' | h
        · subst e'
          rw [ascii_cons, ih hd ha (by rw [e]; simp)]; simp [hx]
        · exact ih p ha (by rw [e]; simp [h])

theorem ok_parseTagList (Γ : Gam) (s25 : Γ.st 25 = con_zzSplit) (h26 : Γ.fn 26 = con_stripWhitespace) : ∀ args r, con_parseTagList args = some r → runs Γ c_dkim_parseTagList args (fun v => v = r) := by
  intro args r h
  simp only [con_parseTagList] at h
  split at h <;> (try simp at h; done)
  rename_i s
  obtain ⟨⟨hs, ha⟩, rfl⟩ := ite_some h
  clear h
  have hsp : con_zzSplit [.str s, .str [58]] [] = some (.msl 0 1 0 (splitB 58 s).length, [(0, .cells (strsA (splitB 58 s)))]) := if_pos hs
  simp only [mid] at hs
  have hl := splitB_length 58 s
  simp [c_dkim_parseTagList, acallS, s25, hsp]
  refine awp_loop2 (σ := List (List UInt8) × List (List UInt8)) (fun p => ⟨[(3, .msl 7 1 0 (splitB 58 s).length), (8, .msl 7 1 0 (splitB 58 s).length), (9, .int .i64 (splitB 58 s).length), (10, .int .i64 p.1.length)], [(7, .cells (strsA (p.1.map stripS ++ p.2)))]⟩)
    (fun p => splitB 58 s = p.1 ++ p.2) (fun p => p.2.length) ([], splitB 58 s) (by simp) (by simp) ?_
  rintro ⟨pre, post⟩ hs1 LQ hLQ
  simp only at hs1
  cases post with
  | nil =>
    simp at hs1
    simp [b_dkim_parseTagList_1, t_dkim_parseTagList_2, hs1, tagL, snap, resolveA, List.take_of_length_le]
  | cons x post =>
    have hxl : x.length < 1099511627776 := by
      have := splitB_mem_length 58 s x (by rw [hs1]; simp)
      omega
    have hxa : ascii x = true := splitB_ascii 58 s x ha (by rw [hs1]; simp)
    have hk : con_stripWhitespace [.str x] = some (.str (stripS x)) := if_pos ⟨hxl, hxa⟩
    have hlen : (splitB 58 s).length = pre.length + post.length + 1 := by rw [hs1]; simp; omega
    simp (disch := first | omega | simp) [b_dkim_parseTagList_1, hlen, acall, h26, hk, wrap64, get_mid, set_mid]
    refine ⟨fun _ => ⟨by omega, ?_⟩, fun _ => by omega⟩
    refine hLQ (pre ++ [x], post) (by simp [hs1]) (by simp) _ ?_
    simp [hlen]

def con_TagList : List AV → Option AV := con_parseTagList
theorem ok_TagList (Γ : Gam) (h24 : Γ.fn 24 = con_parseTagList) : ∀ args r, con_TagList args = some r → runs Γ c_dkim_TagList args (fun v => v = r) := by
  intro args r h
  simp only [con_TagList] at h
  have h' := h
  simp only [con_parseTagList] at h
  split at h <;> (try simp at h; done)
  obtain ⟨_, rfl⟩ := ite_some h
  simp [c_dkim_TagList, acall, h24, h']

theorem ok_DList (Γ : Gam) (h14 : Γ.fn 14 = con_TagList) : ∀ args r, con_TagList args = some r → runs Γ c_impl_DList args (fun v => v = r) := by
  intro args r h
  have h' := h
  simp only [con_TagList, con_parseTagList] at h
  split at h <;> (try simp at h; done)
  obtain ⟨_, rfl⟩ := ite_some h
  simp [c_impl_DList, acall, h14, h']

theorem ok_dAwake (Γ : Gam) (h7 : Γ.fn 7 = con_TagList) (h8 : Γ.fn 8 = con_DCanonField) : ∀ args r, con_dAwake args = some r → runs Γ c_laws_dAwake args (fun v => v = r) := by
  intro args r h
  simp only [con_dAwake] at h
  split at h <;> (try simp at h; done)
  injection h with h; subst h
  have k7 : con_TagList [.str [97, 58, 98]] = some (.sl 1 (strsA [[97], [98]])) := by
    simp only [con_TagList, con_parseTagList]
    rw [if_pos ⟨by decide, by decide⟩]
    rfl
  have k8 : con_DCanonField [.str [114, 101, 108, 97, 120, 101, 100], .str [65, 58, 32, 66, 13, 10]] = some (.str [97, 58, 66, 13, 10]) := by
    simp only [con_DCanonField]
    rw [if_pos (relOk_of (by decide) (by decide))]
    rfl
  simp [c_laws_dAwake, acall, h7, h8, k7, k8]
end Wax

/- strings.FieldsFunc, of plain texts and of the program's own test of white space. -/
namespace Wax
open Go (IntKind)

def spA (l : List (Nat × Nat)) : List AV := l.flatMap fun p => [.int .i64 (p.1 : Int), .int .i64 (p.2 : Int)]
@[simp] theorem spA_nil : spA [] = [] := rfl
@[simp] theorem spA_cons {p : Nat × Nat} {l : List (Nat × Nat)} : spA (p :: l) = .int .i64 (p.1 : Int) :: .int .i64 (p.2 : Int) :: spA l := rfl
@[simp] theorem spA_app {l m : List (Nat × Nat)} : spA (l ++ m) = spA l ++ spA m := by simp [spA]
@[simp] theorem spA_length {l : List (Nat × Nat)} : (spA l).length = 2 * l.length := by induction l <;> simp_all; omega
@[simp] theorem atoms_spA {l : List (Nat × Nat)} : atoms (spA l) = true := by induction l <;> simp_all
@[simp] theorem take_spA {a b : AV} {l : List (Nat × Nat)} : List.take ((l.length + 1) * 2) (a :: b :: spA l) = a :: b :: spA l := List.take_of_length_le (by simp; omega)
@[simp] theorem killL_spA {d : Nat} {l : List (Nat × Nat)} : killL d (spA l) = spA l := by induction l <;> simp_all

def cutS (s : List UInt8) (p : Nat × Nat) : List UInt8 := (s.take p.2).drop p.1

theorem ff_loop2 (Γ : Gam) (Q : APost) (s : List UInt8) (sp : List (Nat × Nat)) (d : Nat) (hd : d ≠ 46 ∧ d ≠ 11) (hs : s.length < 1099511627776) (hl : sp.length < 2199023255552) (hsp : ∀ p ∈ sp, p.1 ≤ p.2 ∧ p.2 ≤ s.length)
    (hQ : Q (.exit 2) ⟨[(0, .str s), (9, .msl 46 1 0 sp.length), (47, .msl d 2 0 sp.length), (48, .int .i64 sp.length), (49, .int .i64 sp.length), (50, .bool false)], [(46, .cells (strsA (sp.map (cutS s)))), (d, .cells (spA sp))]⟩) :
    awp Γ (.loop [0, 9, 47, 48, 49] b_strings_FieldsFunc_2) Q ⟨[(0, .str s), (9, .msl 46 1 0 sp.length), (47, .msl d 2 0 sp.length), (48, .int .i64 sp.length), (49, .int .i64 0)], [(46, .cells (List.replicate sp.length (.str []))), (d, .cells (spA sp))]⟩ := by
  have hd1 : ¬ 46 = d := fun h => hd.1 h.symm
  have hd2 : ¬ 11 = d := fun h => hd.2 h.symm
  refine awp_loop2 (σ := List (Nat × Nat) × List (Nat × Nat)) (fun p => ⟨[(0, .str s), (9, .msl 46 1 0 sp.length), (47, .msl d 2 0 sp.length), (48, .int .i64 sp.length), (49, .int .i64 p.1.length)], [(46, .cells (strsA (p.1.map (cutS s)) ++ List.replicate p.2.length (.str []))), (d, .cells (spA sp))]⟩)
    (fun p => sp = p.1 ++ p.2) (fun p => p.2.length) ([], sp) (by simp) (by simp) ?_
  rintro ⟨pre, post⟩ hs1 LQ hLQ
  simp only at hs1
  subst hs1
  cases post with
  | nil =>
    simp at hQ
    simp [b_strings_FieldsFunc_2, hQ]
  | cons x post =>
    have hx := hsp x (by simp)
    simp at hl
    have e1 : List.drop (pre.length * 2) (spA pre ++ (AV.int .i64 (x.1 : Int) :: .int .i64 (x.2 : Int) :: spA post)) = .int .i64 (x.1 : Int) :: .int .i64 (x.2 : Int) :: spA post := by
      rw [List.drop_append_of_le_length (by simp; omega)]
      rw [List.drop_eq_nil_of_le (by simp; omega)]; rfl
    simp (disch := first | omega | simp) [b_strings_FieldsFunc_2, hd1, hd2, hd.1, hd.2, e1, loadC, wrap64, List.replicate_succ]
    refine ⟨fun _ => ⟨by omega, ?_⟩, fun _ => by omega⟩
    refine hLQ (pre ++ [x], post) (by simp) (by simp) _ ?_
    simp [cutS]

/-- The slice of the words' places, as it stands: first the one that was made, then one that grew. -/
def ffD (sp : List (Nat × Nat)) : Nat := match sp with | [] => 12 | _ => 29
def ffH (sp : List (Nat × Nat)) (o : AObj) : List (Nat × AObj) := match sp with | [] => [(14, o), (12, .cells [])] | _ => [(29, .cells (spA sp)), (14, o)]

structure FF (s pre post : List UInt8) (sp : List (Nat × Nat)) (cur : List UInt8) (v : Int) : Prop where
  cut : s = pre ++ post
  words : wordsOf s = sp.map (cutS s) ++ wordsGo cur post
  none : cur = [] → v < 0 ∧ -1099511627777 < v
  some : cur ≠ [] → ∃ p, pre = p ++ cur ∧ v = p.length
  ok : ∀ p ∈ sp, p.1 ≤ p.2 ∧ p.2 ≤ s.length
  len : sp.length ≤ pre.length

theorem FF.out {s pre post : List UInt8} {sp : List (Nat × Nat)} {cur : List UInt8} {v : Int} {x : UInt8} (h : FF s pre (x :: post) sp cur v) (hw : isWs x.toNat = true) (hc : cur = []) : FF s (pre ++ [x]) post sp [] v := by
  subst hc
  refine ⟨by rw [h.cut]; simp, ?_, fun _ => h.none rfl, fun hn => absurd rfl hn, h.ok, by have := h.len; simp; omega⟩
  have := h.words
  simpa [wordsGo, hw] using this

theorem FF.close {s pre post : List UInt8} {sp : List (Nat × Nat)} {cur : List UInt8} {v : Int} {x : UInt8} (h : FF s pre (x :: post) sp cur v) (hw : isWs x.toNat = true) (hc : cur ≠ []) (hs : s.length < 1099511627776) : FF s (pre ++ [x]) post (sp ++ [(v.toNat, pre.length)]) [] (-v - 1) := by
  obtain ⟨p, hp, hv⟩ := h.some hc
  subst hv
  have hl := congrArg List.length h.cut
  have hl2 := congrArg List.length hp
  simp at hl hl2
  refine ⟨by rw [h.cut]; simp, ?_, fun _ => ⟨by omega, by omega⟩, fun hn => absurd rfl hn, ?_, by have := h.len; simp; omega⟩
  · have := h.words
    simp only [wordsGo, hw, if_true, if_neg hc] at this
    rw [this]
    have e : cutS s ((p.length : Int).toNat, pre.length) = cur := by
      rw [cutS, h.cut, hp]
      simp only [Int.toNat_natCast, List.append_assoc]
      rw [show (p ++ cur).length = (p ++ cur).length + 0 by omega, ← List.append_assoc, List.take_length_add_append]; simp
    simp only [List.map_append, List.map_cons, List.map_nil, e, List.append_assoc, List.cons_append, List.nil_append]
  · intro q hq
    rcases List.mem_append.1 hq with hq | hq
    · exact h.ok q hq
    · simp at hq; subst hq; simp; omega

theorem FF.into {s pre post : List UInt8} {sp : List (Nat × Nat)} {cur : List UInt8} {v : Int} {x : UInt8} (h : FF s pre (x :: post) sp cur v) (hw : isWs x.toNat = false) (hc : cur = []) : FF s (pre ++ [x]) post sp [x] pre.length := by
  subst hc
  refine ⟨by rw [h.cut]; simp, ?_, fun hn => by simp at hn, fun _ => ⟨pre, rfl, rfl⟩, h.ok, by have := h.len; simp; omega⟩
  have := h.words
  simpa [wordsGo, hw] using this

theorem FF.on {s pre post : List UInt8} {sp : List (Nat × Nat)} {cur : List UInt8} {v : Int} {x : UInt8} (h : FF s pre (x :: post) sp cur v) (hw : isWs x.toNat = false) (hc : cur ≠ []) : FF s (pre ++ [x]) post sp (cur ++ [x]) v := by
  refine ⟨by rw [h.cut]; simp, ?_, fun hn => by simp at hn, fun _ => ?_, h.ok, by have := h.len; simp; omega⟩
  · have := h.words
    simpa [wordsGo, hw] using this
  · obtain ⟨p, hp, hv⟩ := h.some hc
    exact ⟨p, by rw [hp]; simp, hv⟩

theorem ffD_ne {sp : List (Nat × Nat)} (h : sp ≠ []) : ffD sp = 29 := by cases sp <;> first | exact absurd rfl h | rfl
theorem ffH_ne {sp : List (Nat × Nat)} {o : AObj} (h : sp ≠ []) : ffH sp o = [(29, .cells (spA sp)), (14, o)] := by cases sp <;> first | exact absurd rfl h | rfl

theorem ok_FieldsFunc (Γ : Gam) (h20 : Γ.fn 20 = con_closure) : ∀ args r, con_FieldsFunc args = some r → runs Γ c_strings_FieldsFunc args (fun v => v = r) := by
  intro args r h
  simp only [con_FieldsFunc] at h
  split at h <;> (try simp at h; done)
  rename_i s
  obtain ⟨⟨hs, ha⟩, rfl⟩ := ite_some h
  clear h
  simp only [mid] at hs
  simp [c_strings_FieldsFunc]
  refine awp_loop2 (σ := List UInt8 × List UInt8 × List (Nat × Nat) × List UInt8 × Int) (fun p => ⟨[(0, .str s), (1, .fn 20 []), (5, .msl (ffD p.2.2.1) 2 0 p.2.2.1.length), (6, .int .i64 p.2.2.2.2), (14, .ref 14 0)], ffH p.2.2.1 (.sit s p.1.length)⟩)
    (fun p => FF s p.1 p.2.1 p.2.2.1 p.2.2.2.1 p.2.2.2.2) (fun p => p.2.1.length) ([], s, [], [], -1) (by simp [ffD, ffH]) ⟨by simp, by simp [wordsOf], fun _ => ⟨by simp, by simp⟩, fun h => absurd rfl h, by simp, by simp⟩ ?_
  rintro ⟨pre, post, sp, cur, v⟩ hF LQ hLQ
  simp only at hF
  cases post with
  | nil =>
    have hcut := hF.cut
    simp at hcut
    subst hcut
    have fin : ∀ (d : Nat) (sp' : List (Nat × Nat)), d ≠ 46 ∧ d ≠ 11 → d = 12 ∨ d = 29 ∨ d = 43 → sp'.length ≤ s.length + 1 → (∀ p ∈ sp', p.1 ≤ p.2 ∧ p.2 ≤ s.length) → wordsOf s = sp'.map (cutS s) →
        awp Γ (SCode.loop [0, 9, 47, 48, 49] b_strings_FieldsFunc_2)
        (blockQ 2
          (thenQ (awp Γ t_strings_FieldsFunc_3 (finQ [.t 4] fun v => v = AV.sl 1 (strsA (wordsOf s))))
            (finQ [.t 4] fun v => v = AV.sl 1 (strsA (wordsOf s)))))
         ⟨[(0, .str s), (9, .msl 46 1 0 sp'.length), (47, .msl d 2 0 sp'.length), (48, .int .i64 sp'.length), (49, .int .i64 0)], [(46, .cells (List.replicate sp'.length (.str []))), (d, .cells (spA sp'))]⟩ := by
      intro d sp' hd hd3 hl hok hw
      refine ff_loop2 Γ _ s sp' d hd hs (by omega) hok ?_
      have hd1 : ¬ 46 = d := fun h => hd.1 h.symm
      rcases hd3 with rfl | rfl | rfl <;> simp [t_strings_FieldsFunc_3, snap, resolveA, hw, List.take_of_length_le]
    have hwd := hF.words
    have hlen := hF.len
    cases sp with
    | nil =>
      simp [b_strings_FieldsFunc_1, ffD, ffH, t_strings_FieldsFunc_4]
      refine ⟨fun h => ?_, fun h => ?_⟩
      · have hc : cur ≠ [] := fun hc => by have := (hF.none hc).1; omega
        obtain ⟨p, hp, hv⟩ := hF.some hc
        subst hv
        have hpl := congrArg List.length hp
        simp at hpl
        have := fin 43 [(p.length, s.length)] (by decide) (by simp) (by simp) (by simp; omega) (by
          rw [hwd]; simp [wordsGo, hc, cutS]; rw [hp]; simp)
        simpa using this
      · have hc : cur = [] := by
          apply Classical.byContradiction; intro hc
          obtain ⟨p, hp, hv⟩ := hF.some hc; omega
        subst hc
        have := fin 12 [] (by decide) (by simp) (by simp) (by simp) (by rw [hwd]; simp [wordsGo])
        simpa using this
    | cons y sp =>
      simp at hlen
      have e1 : ((sp.length : Int) + 1).toNat = sp.length + 1 := by omega
      have e2 : ((sp.length : Int) + 1 + 1).toNat = sp.length + 1 + 1 := by omega
      simp [b_strings_FieldsFunc_1, ffD, ffH, t_strings_FieldsFunc_4, e1, e2]
      refine ⟨fun h => ⟨⟨by omega, by omega⟩, by omega, ⟨by omega, by omega⟩, ?_⟩, fun h => ⟨by omega, ⟨by omega, by omega⟩, ?_⟩⟩
      · have hc : cur ≠ [] := fun hc => by have := (hF.none hc).1; omega
        obtain ⟨p, hp, hv⟩ := hF.some hc
        subst hv
        have hpl := congrArg List.length hp
        simp at hpl
        have := fin 43 (y :: sp ++ [(p.length, s.length)]) (by decide) (by simp) (by simp; omega) (by
          intro q hq
          rcases List.mem_append.1 hq with hq | hq
          · exact hF.ok q hq
          · simp at hq; subst hq; simp; omega) (by
          rw [hwd]; simp [wordsGo, hc, cutS]; rw [hp]; simp)
        simpa using this
      · have hc : cur = [] := by
          apply Classical.byContradiction; intro hc
          obtain ⟨p, hp, hv⟩ := hF.some hc; omega
        subst hc
        have := fin 29 (y :: sp) (by decide) (by simp) (by simp; omega) hF.ok (by rw [hwd]; simp [wordsGo])
        simpa using this
  | cons x post =>
    have hcut := hF.cut
    subst hcut
    have hx := (ascii_lt (by rw [ascii_app] at ha; simp only [Bool.and_eq_true] at ha; exact ha.2 : ascii (x :: post) = true)).1
    simp at hs
    have hlen := hF.len
    have hk : con_closure [.int .i32 (x.toNat : Int)] = some (.bool (isWs x.toNat)) := rfl
    have fin : ∀ sp' cur' v', FF (pre ++ x :: post) (pre ++ [x]) post sp' cur' v' → ∀ st, norm [0, 1, 5, 6, 14] st = ⟨[(0, .str (pre ++ x :: post)), (1, .fn 20 []), (5, .msl (ffD sp') 2 0 sp'.length), (6, .int .i64 v'), (14, .ref 14 0)], ffH sp' (.sit (pre ++ x :: post) (pre.length + 1))⟩ → LQ st := by
      intro sp' cur' v' h st hst
      exact hLQ (pre ++ [x], post, sp', cur', v') h (by simp) st (by simpa using hst)
    cases hw : isWs x.toNat with
    | true =>
      by_cases hc : cur = []
      · have f := fin _ _ _ (hF.out hw hc)
        have hv := (hF.none hc).1
        have hv' : ¬ 0 ≤ v := by omega
        cases sp with
        | nil =>
          simp [b_strings_FieldsFunc_1, ffD, ffH, decA hx, acall, h20, hk, hw, hv']
          exact f _ (by simp [ffD, ffH])
        | cons y sp =>
          simp [b_strings_FieldsFunc_1, ffD, ffH, decA hx, acall, h20, hk, hw, hv']
          exact f _ (by simp [ffD, ffH])
      · have f := fin _ _ _ (hF.close hw hc (by simp; omega))
        obtain ⟨p, hp, hv⟩ := hF.some hc
        subst hv
        have hl2 := congrArg List.length hp
        simp at hl2
        have ew : IntKind.i64.wrap (-(p.length : Int) - 1) = -(p.length : Int) - 1 := wrap64 (by omega) (by omega)
        cases sp with
        | nil =>
          simp [-aun, b_strings_FieldsFunc_1, ffD, ffH, decA hx, acall, h20, hk, hw, ew]
          exact f _ (by simp [ffD, ffH])
        | cons y sp =>
          simp at hlen
          simp [-aun, b_strings_FieldsFunc_1, ffD, ffH, decA hx, acall, h20, hk, hw, ew]
          refine ⟨⟨by omega, by omega⟩, f _ (by simp [ffD, ffH])⟩
    | false =>
      by_cases hc : cur = []
      · have f := fin _ _ _ (hF.into hw hc)
        have hv := (hF.none hc).1
        cases sp with
        | nil =>
          simp [b_strings_FieldsFunc_1, ffD, ffH, decA hx, acall, h20, hk, hw, hv]
          exact f _ (by simp [ffD, ffH])
        | cons y sp =>
          simp [b_strings_FieldsFunc_1, ffD, ffH, decA hx, acall, h20, hk, hw, hv]
          exact f _ (by simp [ffD, ffH])
      · have f := fin _ _ _ (hF.on hw hc)
        obtain ⟨p, hp, hv⟩ := hF.some hc
        have hv' : ¬ v < 0 := by omega
        cases sp with
        | nil =>
          simp [b_strings_FieldsFunc_1, ffD, ffH, decA hx, acall, h20, hk, hw, hv']
          exact f _ (by simp [ffD, ffH])
        | cons y sp =>
          simp [b_strings_FieldsFunc_1, ffD, ffH, decA hx, acall, h20, hk, hw, hv']
          exact f _ (by simp [ffD, ffH])
end Wax

/- The reference's text without white space; lists that are not too long. -/
namespace Wax
open Go (IntKind)

def stripD (s : List UInt8) : List UInt8 := s.filter fun b => !isWs b.toNat

def con_DStrip : List AV → Option AV
  | [.str s] => if s.length < mid then some (.str (stripD s)) else none
  | _ => none

theorem ok_DStrip (Γ : Gam) (h1 : Γ.fn 1 = con_dBlank) : ∀ args r, con_DStrip args = some r → runs Γ c_spec_DStrip args (fun v => v = r) := by
  intro args r h
  simp only [con_DStrip] at h
  split at h <;> (try simp at h; done)
  rename_i s
  obtain ⟨hs, rfl⟩ := ite_some h
  clear h
  simp only [mid] at hs
  simp [c_spec_DStrip]
  refine awp_loop2 (σ := List UInt8 × List UInt8) (fun p => ⟨[(0, .str s), (3, outV 21 (stripD p.1)), (4, .int .i64 p.1.length)], outH 21 (stripD p.1)⟩)
    (fun p => s = p.1 ++ p.2) (fun p => p.2.length) ([], s) (by simp [stripD]) (by simp) ?_
  rintro ⟨pre, post⟩ hs1 LQ hLQ
  simp only at hs1
  subst hs1
  have hlen : (stripD pre).length ≤ pre.length := List.length_filter_le _ _
  cases post with
  | nil =>
    simp at hs
    by_cases ho : stripD pre = []
    · simp [ho]
    · simp [outV_ne ho, outH_ne ho, List.take_of_length_le]
  | cons x post =>
    simp at hs
    have ew : IntKind.i64.wrap ((pre.length : Int) + 1) = (pre.length : Int) + 1 := wrap64 (by omega) (by omega)
    have fin : ∀ st, norm [0, 3, 4] st = ⟨[(0, .str (pre ++ x :: post)), (3, outV 21 (stripD (pre ++ [x]))), (4, .int .i64 ((pre.length : Int) + 1))], outH 21 (stripD (pre ++ [x]))⟩ → LQ st := by
      intro st hst
      exact hLQ (pre ++ [x], post) (by simp) (by simp) st (by simpa using hst)
    have hk : con_dBlank [.int .u8 (x.toNat : Int)] = some (.bool (isWs x.toNat)) := rfl
    have hlt : (pre.length : Int) < (pre.length : Int) + ((post.length : Int) + 1) := by omega
    cases hsp : isWs x.toNat with
    | true =>
      have e : stripD (pre ++ [x]) = stripD pre := by simp [stripD, hsp]
      rw [e] at fin
      by_cases ho : stripD pre = []
      · rw [ho] at fin
        simp [ho, acall, h1, hk, hsp, ew]
        exact ⟨fun _ => fin _ (by simp), fun h => by omega⟩
      · rw [outV_ne ho, outH_ne ho] at fin
        simp [outV_ne ho, outH_ne ho, acall, h1, hk, hsp, ew]
        exact ⟨fun _ => fin _ (by simp), fun h => by omega⟩
    | false =>
      have e : stripD (pre ++ [x]) = stripD pre ++ [x] := by simp [stripD, hsp]
      rw [e, outV_ne (by simp), outH_ne (by simp)] at fin
      by_cases ho : stripD pre = []
      · rw [ho] at fin
        simp [ho, acall, h1, hk, hsp, ew]
        exact ⟨fun _ => fin _ (by simp), fun h => by omega⟩
      · simp [outV_ne ho, outH_ne ho, acall, h1, hk, hsp, ew]
        refine ⟨fun _ => ⟨by omega, fin _ (by simp)⟩, fun h => by omega⟩

def fitsB (l : List (List UInt8)) : Bool := decide (l.length ≤ 2147483647) && l.all fun s => decide (s.length ≤ 2147483647)

def con_zzFits7 : List AV → Option AV
  | [v] => match slStrs v with
    | some l => if l.length < 9223372036854775808 ∧ ∀ s ∈ l, s.length < 9223372036854775808 then some (.bool (fitsB l)) else none
    | none => none
  | _ => none

theorem slStrs_cases {v : AV} {l : List (List UInt8)} (h : slStrs v = some l) : (v = .nilS ∧ l = []) ∨ v = .sl 1 (strsA l) := by
  cases v <;> simp [slStrs] at h
  · left; exact ⟨rfl, h⟩
  · right; obtain ⟨e, h⟩ := h; rw [asStrs_spec h, e]

theorem ok_zzFits7 (Γ : Gam) : ∀ args r, con_zzFits7 args = some r → runs Γ c_laws_zzFits7 args (fun v => v = r) := by
  intro args r h
  simp only [con_zzFits7] at h
  split at h <;> (try simp at h; done)
  rename_i v
  split at h <;> (try simp at h; done)
  rename_i l hl
  obtain ⟨⟨hlen, hall⟩, rfl⟩ := ite_some h
  clear h
  rcases slStrs_cases hl with ⟨rfl, rfl⟩ | rfl
  · simp [c_laws_zzFits7]
    refine awp_loop2 (σ := Unit) (fun p => ⟨[(8, .nilS), (9, .int .i64 0), (10, .int .i64 0)], []⟩) (fun _ => True) (fun _ => 0) () (by simp) (by simp) ?_
    intro _ _ LQ _
    simp [b_laws_zzFits7_1, t_laws_zzFits7_2, fitsB]
  · by_cases hbig : l.length ≤ 2147483647
    · have hng : ¬ (2147483647 : Int) < (l.length : Int) := by omega
      simp [c_laws_zzFits7, hng]
      refine awp_loop2 (σ := List (List UInt8) × List (List UInt8)) (fun p => ⟨[(8, .sl 1 (strsA l)), (9, .int .i64 l.length), (10, .int .i64 p.1.length)], []⟩) (fun p => l = p.1 ++ p.2 ∧ (p.1.all fun s => decide (s.length ≤ 2147483647)) = true) (fun p => p.2.length) ([], l) (by simp) (by simp) ?_
      rintro ⟨pre, post⟩ ⟨hs1, hs2⟩ LQ hLQ
      simp only at hs1 hs2
      subst hs1
      cases post with
      | nil =>
        simp at hs2 hbig
        simp [b_laws_zzFits7_1, t_laws_zzFits7_2, fitsB, hbig]
        exact fun x hx => hs2 x hx
      | cons x post =>
        simp at hbig
        have ew : IntKind.i64.wrap ((pre.length : Int) + 1) = (pre.length : Int) + 1 := wrap64 (by omega) (by omega)
        have hlt : (pre.length : Int) < (pre.length : Int) + ((post.length : Int) + 1) := by omega
        by_cases hx : x.length ≤ 2147483647
        · have hxn : ¬ (2147483647 : Int) < (x.length : Int) := by omega
          simp [b_laws_zzFits7_1, ew, hxn]
          refine ⟨fun _ => ?_, fun h => by omega⟩
          exact hLQ (pre ++ [x], post) ⟨by simp, by simp only [List.all_append, hs2, List.all_cons, hx]; rfl⟩ (by simp) _ (by simp)
        · have hxn : (2147483647 : Int) < (x.length : Int) := by omega
          have hf : fitsB (pre ++ x :: post) = false := by
            have e : decide (x.length ≤ 2147483647) = false := decide_eq_false hx
            simp only [fitsB, List.all_append, List.all_cons, e, Bool.false_and, Bool.and_false]
          rw [hf]
          simp [b_laws_zzFits7_1, hxn]
          omega
    · have hg : (2147483647 : Int) < (l.length : Int) := by omega
      simp [c_laws_zzFits7, hg, fitsB, hbig]
end Wax

/- zzTrimSpace: the inner loop does nothing on ASCII. (A slow text: two minutes.) -/
namespace Wax
open Go (IntKind)
set_option maxHeartbeats 1000000 in
theorem trim_inner (Γ : Gam) (Q : APost) (S : List UInt8) (x : UInt8) (i n : Nat) (f t : Int) (hn : S.length = n) (hi : S[i]? = some x) (hx : x.toNat < 128) (hb : n < 1099511627776) (hib : i < 1099511627776)
    (h : Q (.exit 4) ⟨[(0, .str S), (3, .int .i64 f), (4, .int .i64 t), (7, .int .i64 i), (8, .int .i64 1), (54, .bool false)], []⟩) :
    awp Γ b_dkim_zzTrimSpace_2 Q ⟨[(0, .str S), (3, .int .i64 f), (4, .int .i64 t), (7, .int .i64 i), (8, .int .i64 1)], []⟩ := by
  have e192 : ¬ (192 : Int) ≤ (x.toNat : Int) := by omega
  have ew : IntKind.i64.wrap ((i : Int) + 1) = (i : Int) + 1 := wrap64 (by omega) (by omega)
  simp only [b_dkim_zzTrimSpace_2, awp_seq]
  refine awp_region_to ⟨[(0, .str S), (3, .int .i64 f), (4, .int .i64 t), (7, .int .i64 i), (8, .int .i64 1), (54, .bool false)], []⟩ ?_ ?_
  · by_cases hlast : (i : Int) + 1 < (n : Int)
    · have h1 : ((i : Int) + 1 < (n : Int)) = True := eq_true hlast
      simp (maxSteps := 1000000) [ew, hn, hi, e192, h1]
    · have h1 : ((i : Int) + 1 < (n : Int)) = False := eq_false hlast
      simp (maxSteps := 1000000) [ew, hn, h1]
  · simpa using h
end Wax

/- The program's own functions (4): white space around a text, of plain texts. -/
namespace Wax
open Go (IntKind)

theorem decR_ascii {x : UInt8} {r : List UInt8} (h : x.toNat < 128) : decR (x :: r) = (x.toNat, 1) := by
  have e : (⟨(x :: r).toArray⟩ : ByteArray).get! 0 = x := by
    show (x :: r).toArray[0]! = x
    simp
  simp [decR, Go.Utf8.decode, e, h]

theorem plainB_lt {x : UInt8} (h : plainB x = true) : x.toNat < 128 := by
  have := of_decide_eq_true h
  omega

theorem isSp_ws {x : UInt8} (h : plainB x = true) : isSp x.toNat = isWs x.toNat := by
  have := of_decide_eq_true h
  unfold isSp isWs
  apply decide_eq_decide.2
  omega

theorem plain_app {s t : List UInt8} : plain (s ++ t) = (plain s && plain t) := by simp [plain]

theorem trimR_ws {c : List UInt8} {x : UInt8} (h : isWs x.toNat = true) : trimR (c ++ [x]) = trimR c := by simp [trimR, h]
theorem trimR_nw {c : List UInt8} {x : UInt8} (h : isWs x.toNat = false) : trimR (c ++ [x]) = c ++ [x] := by simp [trimR, h]

theorem trimR_prefix (c : List UInt8) : ∃ t, c = trimR c ++ t := by
  obtain ⟨t, ht⟩ := List.dropWhile_suffix (fun b : UInt8 => isWs b.toNat) (l := c.reverse)
  refine ⟨t.reverse, ?_⟩
  have := congrArg List.reverse ht
  simpa [trimR] using this.symm

theorem trimL_app {a b : List UInt8} (ha : ∀ x ∈ a, isWs x.toNat = true) : trimL (a ++ b) = trimL b := by
  induction a with
  | nil => rfl
  | cons x r ih =>
    have h1 := ha x (by simp)
    simp only [trimL, List.cons_append, List.dropWhile_cons, h1, if_true]
    exact ih fun y hy => ha y (by simp [hy])

theorem trimL_nw {b : List UInt8} (hb : ∀ x r, b = x :: r → isWs x.toNat = false) : trimL b = b := by
  cases b with
  | nil => rfl
  | cons x r => simp [trimL, hb x r rfl]

def toV (n : Nat) (a c : List UInt8) : Int := if c = [] then (n : Int) else (a.length : Int) + ((trimR c).length : Int)

theorem trim_loop2 (Γ : Gam) (h23 : Γ.fn 23 = con_zzIsSpace) (a b : List UInt8) (hp : plain (a ++ b) = true) (hs : (a ++ b).length < 1099511627776) (ha : ∀ x ∈ a, isWs x.toNat = true) (hb : ∀ x r, b = x :: r → isWs x.toNat = false) :
    awp Γ (.loop [0, 3, 4, 7] b_dkim_zzTrimSpace_4) (blockQ 2 (thenQ (awp Γ t_dkim_zzTrimSpace_5 (finQ [.t 2] fun v => v = .str (trimS (a ++ b)))) (finQ [.t 2] fun v => v = .str (trimS (a ++ b)))))
      ⟨[(0, .str (a ++ b)), (3, .int .i64 a.length), (4, .int .i64 (a ++ b).length), (7, .int .i64 a.length)], []⟩ := by
  have htrim : trimS (a ++ b) = trimR b := by rw [trimS, trimL_app ha, trimL_nw hb]
  rw [htrim]
  refine awp_loop (σ := List UInt8 × List UInt8) (fun p => ⟨[(0, .str (a ++ b)), (3, .int .i64 a.length), (4, .int .i64 (toV (a ++ b).length a p.1)), (7, .int .i64 (a.length + p.1.length))], []⟩)
    (fun p => b = p.1 ++ p.2) (fun p => p.2.length) ([], b) (by simp [toV]) (by simp) ?_
  rintro ⟨c, d⟩ hcd
  simp only at hcd
  subst hcd
  simp at hs
  cases d with
  | nil =>
    simp [b_dkim_zzTrimSpace_4, t_dkim_zzTrimSpace_5]
    refine ⟨fun h => ?_, fun h => ?_⟩
    · have : c = [] := List.length_eq_zero_iff.1 (by omega)
      subst this; simp [trimR]
    · have hc : c ≠ [] := by intro e; subst e; simp at h
      obtain ⟨t, ht⟩ := trimR_prefix c
      have hl : (trimR c).length ≤ c.length := trimR_length c
      have e1 : toV (a.length + c.length) a c = (a.length : Int) + ((trimR c).length : Int) := if_neg hc
      have e2 : ((a.length : Int) + ((trimR c).length : Int)).toNat = a.length + (trimR c).length := by omega
      rw [e1, e2]
      refine ⟨⟨by omega, by omega⟩, ?_⟩
      rw [List.take_length_add_append, List.drop_left]
      generalize trimR c = q at ht ⊢
      subst ht; simp
  | cons x d =>
    have hpx : plainB x = true := by
      have h1 : (plain a && (plain c && plain (x :: d))) = true := by rw [← plain_app, ← plain_app]; exact hp
      simp only [Bool.and_eq_true, plain, List.all_cons] at h1
      exact h1.2.2.1
    have hx := plainB_lt hpx
    have hx2 : (x.toNat : Int) < 128 := by omega
    have step : ∀ v : Int, v = toV (a ++ (c ++ x :: d)).length a (c ++ [x]) → loopQ [0, 3, 4, 7] (fun p : List UInt8 × List UInt8 => ⟨[(0, .str (a ++ (c ++ x :: d))), (3, .int .i64 a.length), (4, .int .i64 (toV (a ++ (c ++ x :: d)).length a p.1)), (7, .int .i64 (a.length + p.1.length))], []⟩)
        (fun p => c ++ x :: d = p.1 ++ p.2) (fun p => p.2.length) (c, x :: d)
        ⟨[(0, .str (a ++ (c ++ x :: d))), (3, .int .i64 a.length), (4, .int .i64 v), (7, .int .i64 (a.length + c.length + 1))], []⟩ := by
      intro v hv
      subst hv
      refine ⟨(c ++ [x], d), ?_, by simp, by simp⟩
      have : ((a.length : Int) + c.length + 1) = (a.length : Int) + ((c ++ [x]).length : Int) := by simp; omega
      rw [this]
      simp
    generalize hl : loopQ [0, 3, 4, 7] (fun p : List UInt8 × List UInt8 => (⟨[(0, .str (a ++ (c ++ x :: d))), (3, .int .i64 a.length), (4, .int .i64 (toV (a ++ (c ++ x :: d)).length a p.1)), (7, .int .i64 (a.length + p.1.length))], []⟩ : St))
        (fun p => c ++ x :: d = p.1 ++ p.2) (fun p => p.2.length) (c, x :: d) = LQ at step ⊢
    clear hl
    simp at hs
    have hget : (a ++ (c ++ x :: d))[a.length + c.length]? = some x := by
      rw [← List.append_assoc, List.getElem?_append_right (by simp)]; simp
    simp [b_dkim_zzTrimSpace_4]
    refine ⟨fun _ => ?_, fun h => by omega⟩
    refine awp_loop (σ := Unit) (fun _ => ⟨[(0, .str (a ++ (c ++ x :: d))), (3, .int .i64 a.length), (4, .int .i64 (toV (a.length + (c.length + (d.length + 1))) a c)), (7, .int .i64 (a.length + c.length)), (8, .int .i64 1)], []⟩) (fun _ => True) (fun _ => 0) () (by simp) trivial ?_
    intro _ _
    have en : ((a.length : Int) + (c.length : Int)) = ((a.length + c.length : Nat) : Int) := by omega
    have ew : IntKind.i64.wrap ((a.length : Int) + c.length + 1) = (a.length : Int) + c.length + 1 := wrap64 (by omega) (by omega)
    rw [en]
    refine trim_inner Γ _ (a ++ (c ++ x :: d)) x (a.length + c.length) (a.length + (c.length + (d.length + 1))) _ _ (by simp) hget hx (by omega) (by omega) ?_
    rw [← en]
    have en2 : ((a.length : Int) + (c.length : Int)).toNat = a.length + c.length := by omega
    have en3 : ((a.length : Int) + (c.length : Int) + 1).toNat = a.length + c.length + 1 := by omega
    have esl : List.drop (a.length + c.length) (List.take (a.length + c.length + 1) (a ++ (c ++ x :: d))) = [x] := by
      rw [← List.append_assoc, show a.length + c.length = (a ++ c).length by simp, List.take_length_add_append, List.drop_left]; rfl
    have erun : runesF 1 [x] = [x.toNat] := by simp [runesF, decR_ascii hx]
    simp [t_dkim_zzTrimSpace_3, ew, en2, en3, esl, erun, rcA, acall, h23, con_zzIsSpace, hx2]
    refine ⟨⟨by omega, by omega, by omega⟩, fun hw => step _ ?_, fun hw => step _ ?_⟩
    · rw [isSp_ws hpx] at hw
      simp [toV, trimR_nw hw]
      try omega
    · rw [isSp_ws hpx] at hw
      have hc : c ≠ [] := by
        intro e; subst e
        rw [hb x d rfl] at hw; simp at hw
      simp [toV, hc, trimR_ws hw]

theorem ok_zzTrimSpace (Γ : Gam) (h23 : Γ.fn 23 = con_zzIsSpace) : ∀ args r, con_zzTrimSpace args = some r → runs Γ c_dkim_zzTrimSpace args (fun v => v = r) := by
  intro args r h
  simp only [con_zzTrimSpace] at h
  split at h <;> (try simp at h; done)
  rename_i s
  obtain ⟨⟨hs, hp⟩, rfl⟩ := ite_some h
  clear h
  simp only [mid] at hs
  simp [c_dkim_zzTrimSpace]
  refine awp_loop (σ := List UInt8 × List UInt8) (fun p => ⟨[(0, .str s), (3, .int .i64 s.length), (4, .int .i64 s.length), (16, .ref 16 0)], [(16, .sit s p.1.length)]⟩)
    (fun p => s = p.1 ++ p.2 ∧ ∀ x ∈ p.1, isWs x.toNat = true) (fun p => p.2.length) ([], s) (by simp) (by simp) ?_
  rintro ⟨a, b⟩ ⟨hs1, ha⟩
  simp only at hs1 ha
  cases b with
  | nil =>
    simp at hs1
    subst hs1
    simp [b_dkim_zzTrimSpace_1, t_dkim_zzTrimSpace_6]
    have := trim_loop2 Γ h23 s [] (by simpa using hp) (by simpa using hs) ha (by simp)
    simpa using this
  | cons x b =>
    subst hs1
    have hpx : plainB x = true ∧ plain b = true := by
      have : (plain a && plain (x :: b)) = true := by rw [← plain_app]; exact hp
      simp only [Bool.and_eq_true] at this
      have h2 := this.2
      simp only [plain, List.all_cons, Bool.and_eq_true] at h2
      exact h2
    have e1 : List.drop a.length (a ++ x :: b) = x :: b := by simp
    have hx := plainB_lt hpx.1
    have hx2 : (x.toNat : Int) < 128 := by omega
    simp [b_dkim_zzTrimSpace_1, t_dkim_zzTrimSpace_6, e1, decR_ascii hx, acall, h23, con_zzIsSpace, hx2]
    refine ⟨fun hw => ?_, fun hw => ?_⟩
    · have := trim_loop2 Γ h23 a (x :: b) hp hs ha (fun y r e => by injection e with e1 e2; subst e1; rw [← isSp_ws hpx.1]; exact hw)
      simpa using this
    · refine ⟨(a ++ [x], b), by simp, ⟨by simp, ?_⟩, by simp⟩
      intro y hy
      simp at hy
      rcases hy with hy | rfl
      · exact ha y hy
      · rw [← isSp_ws hpx.1]; exact hw
end Wax

/- FnDPicks (1): lists of texts that are the same; names of fields; texts that are the same but for letters' case. -/
namespace Wax
open Go (IntKind)

def con_dSameTexts : List AV → Option AV
  | [u, v] => match slStrs u, slStrs v with
    | some l, some m => if l.length < mid ∧ m.length < mid then some (.bool (decide (l = m))) else none
    | _, _ => none
  | _ => none

theorem ok_dSameTexts (Γ : Gam) : ∀ args r, con_dSameTexts args = some r → runs Γ c_laws_dSameTexts args (fun v => v = r) := by
  intro args r h
  simp only [con_dSameTexts] at h
  split at h <;> (try simp at h; done)
  rename_i u v
  split at h <;> (try simp at h; done)
  rename_i l m hl hm
  obtain ⟨⟨h1, h2⟩, rfl⟩ := ite_some h
  clear h
  simp only [mid] at h1 h2
  by_cases hlen : l.length = m.length
  · have key : awp Γ (.loop [0, 1, 5] b_laws_dSameTexts_1) (blockQ 0 (thenQ (awp Γ t_laws_dSameTexts_2 (finQ [.t 4] fun v => v = .bool (decide (l = m)))) (finQ [.t 4] fun v => v = .bool (decide (l = m))))) ⟨[(0, u), (1, v), (5, .int .i64 0)], []⟩ := by
      refine awp_loop2 (σ := List (List UInt8) × List (List UInt8) × List (List UInt8)) (fun p => ⟨[(0, u), (1, v), (5, .int .i64 p.1.length)], []⟩)
        (fun p => l = p.1 ++ p.2.1 ∧ m = p.1 ++ p.2.2) (fun p => p.2.1.length) ([], l, m) (by simp) (by simp) ?_
      rintro ⟨pre, a, b⟩ ⟨e1, e2⟩ LQ hLQ
      simp only at e1 e2
      subst e1 e2
      cases a with
      | nil =>
        have hb : b = [] := by simpa using hlen
        subst hb
        rcases slStrs_cases hl with ⟨rfl, hp⟩ | rfl
        · simp at hp; subst hp
          simp [b_laws_dSameTexts_1, t_laws_dSameTexts_2]
        · simp [b_laws_dSameTexts_1, t_laws_dSameTexts_2]
      | cons x a =>
        cases b with
        | nil => simp at hlen
        | cons y b =>
          simp at h1 h2 hlen
          rcases slStrs_cases hl with ⟨rfl, hp⟩ | rfl
          · simp at hp
          rcases slStrs_cases hm with ⟨rfl, hp⟩ | rfl
          · simp at hp
          have ew : IntKind.i64.wrap ((pre.length : Int) + 1) = (pre.length : Int) + 1 := wrap64 (by omega) (by omega)
          have hlt : (pre.length : Int) < (pre.length : Int) + ((a.length : Int) + 1) := by omega
          by_cases hxy : x = y
          · subst hxy
            simp [b_laws_dSameTexts_1, ew]
            refine ⟨fun _ => ?_, fun h => by omega⟩
            exact hLQ (pre ++ [x], a, b) (by simp) (by simp) _ (by simp)
          · have : ¬ pre ++ x :: a = pre ++ y :: b := by simp [hxy]
            simp [b_laws_dSameTexts_1, ew, hxy]
            omega
    rcases slStrs_cases hl with ⟨rfl, rfl⟩ | rfl <;> rcases slStrs_cases hm with ⟨rfl, rfl⟩ | rfl
    · simp [c_laws_dSameTexts]; simpa using key
    · obtain rfl : m = [] := List.eq_nil_of_length_eq_zero hlen.symm
      simp [c_laws_dSameTexts]; simpa using key
    · simp at hlen
      subst hlen
      simp [c_laws_dSameTexts]; simpa using key
    · simp [c_laws_dSameTexts, hlen]; exact key
  · have hne : ¬ l = m := fun e => hlen (by rw [e])
    have hlen2 : ¬ (l.length : Int) = (m.length : Int) := by omega
    rcases slStrs_cases hl with ⟨rfl, rfl⟩ | rfl <;> rcases slStrs_cases hm with ⟨rfl, rfl⟩ | rfl
    · simp at hlen
    · have : ¬ m.length = 0 := by simpa using fun e => hlen (by rw [e])
      have h0' : ¬ (0 : Int) = (m.length : Int) := by omega
      simp [c_laws_dSameTexts, h0', hne]
    · have : ¬ l.length = 0 := by simpa using fun e => hlen (by rw [e])
      have h0 : ¬ (l.length : Int) = 0 := by omega
      simp [c_laws_dSameTexts, h0, hne]
    · simp [c_laws_dSameTexts, hlen, hlen2, hne]

/-- A field's name. -/
def nameOf (s : List UInt8) : List UInt8 := trimS (match cutAt 58 s with | some p => p.1 | none => s)

def con_DName : List AV → Option AV
  | [.str s] => if s.length < mid then some (.str (nameOf s)) else none
  | _ => none

theorem cutAt_le {c : Int} {s : List UInt8} {p : List UInt8 × List UInt8} (h : cutAt c s = some p) : p.1.length + p.2.length < s.length ∧ ∃ x, s = p.1 ++ x :: p.2 := by
  obtain ⟨a, b⟩ := p
  obtain ⟨x, hx1, hx2, _⟩ := cutAt_eq h
  subst hx2
  simp

theorem ok_DName (Γ : Gam) (h2 : Γ.fn 2 = con_dCut) (h3 : Γ.fn 3 = con_DTrim) : ∀ args r, con_DName args = some r → runs Γ c_spec_DName args (fun v => v = r) := by
  intro args r h
  simp only [con_DName] at h
  split at h <;> (try simp at h; done)
  rename_i s
  obtain ⟨hs, rfl⟩ := ite_some h
  clear h
  have k2 : con_dCut [.str s, .int .u8 58] = some (cutV 58 s) := by
    simp only [con_dCut]; exact if_pos (by simp only [mid] at hs; simp only [big]; omega)
  have k3 : ∀ t : List UInt8, t.length ≤ s.length → con_DTrim [.str t] = some (.str (trimS t)) := by
    intro t ht
    simp only [con_DTrim]; exact if_pos (by simp only [mid] at hs; simp only [big]; omega)
  cases hc : cutAt 58 s with
  | none =>
    have k := k3 s (Nat.le_refl _)
    simp [c_spec_DName, acall, h2, h3, k2, cutV, hc, k, nameOf]
  | some p =>
    have k := k3 p.1 (by have := (cutAt_le hc).1; omega)
    simp [c_spec_DName, acall, h2, h3, k2, cutV, hc, k, nameOf]

def con_parseHeaderField : List AV → Option AV
  | [.str s] => if s.length < mid ∧ plain s = true then some (.tup [.str (nameOf s), .str (trimS (match cutAt 58 s with | some p => p.2 | none => []))]) else none
  | _ => none

theorem ok_parseHeaderField (Γ : Gam) (h16 : Γ.fn 16 = con_zzCut) (h18 : Γ.fn 18 = con_zzTrimSpace) : ∀ args r, con_parseHeaderField args = some r → runs Γ c_dkim_parseHeaderField args (fun v => v = r) := by
  intro args r h
  simp only [con_parseHeaderField] at h
  split at h <;> (try simp at h; done)
  rename_i s
  obtain ⟨⟨hs, hp⟩, rfl⟩ := ite_some h
  clear h
  have k16 : con_zzCut [.str s, .str [58]] = some (cutV 58 s) := by
    simp only [con_zzCut]; exact if_pos (by simp only [mid] at hs; simp only [big]; omega)
  have k18 : ∀ t : List UInt8, t.length ≤ s.length → plain t = true → con_zzTrimSpace [.str t] = some (.str (trimS t)) := by
    intro t ht hpt
    simp only [con_zzTrimSpace]; exact if_pos ⟨by omega, hpt⟩
  have e0 : con_zzTrimSpace [.str []] = some (.str (trimS [])) := k18 [] (by simp) rfl
  cases hc : cutAt 58 s with
  | none =>
    have k := k18 s (Nat.le_refl _) hp
    simp [c_dkim_parseHeaderField, acall, h16, h18, k16, cutV, hc, k, nameOf, e0]
  | some p =>
    obtain ⟨hl, x, hx⟩ := cutAt_le hc
    have hp' := hp
    rw [hx, plain_app] at hp'
    simp only [Bool.and_eq_true] at hp'
    have hp2 : plain p.2 = true := by
      have := hp'.2
      simp only [plain, List.all_cons, Bool.and_eq_true] at this
      exact this.2
    have k := k18 p.1 (by omega) hp'.1
    have kk := k18 p.2 (by omega) hp2
    simp [c_dkim_parseHeaderField, acall, h16, h18, k16, cutV, hc, k, kk, nameOf]

/-- Letters as runes. -/
def rA (s : List UInt8) : List AV := s.map fun b => AV.int .i32 (b.toNat : Int)
@[simp] theorem rA_nil : rA [] = [] := rfl
@[simp] theorem rA_cons {x : UInt8} {l : List UInt8} : rA (x :: l) = .int .i32 (x.toNat : Int) :: rA l := rfl
@[simp] theorem rA_app {l m : List UInt8} : rA (l ++ m) = rA l ++ rA m := by simp [rA]
@[simp] theorem rA_length {l : List UInt8} : (rA l).length = l.length := by simp [rA]
@[simp] theorem atoms_rA {l : List UInt8} : atoms (rA l) = true := by induction l <;> simp_all
@[simp] theorem killL_rA {d : Nat} {l : List UInt8} : killL d (rA l) = rA l := by induction l <;> simp_all
@[simp] theorem snapWL_rA {g : AV → AV} {l : List UInt8} : snapWL g (rA l) = rA l := by induction l <;> simp_all
@[simp] theorem map_snapW_rA {g : AV → AV} {l : List UInt8} : (rA l).map (snapW g) = rA l := by induction l <;> simp_all
@[simp] theorem map_snap_rA {n : Nat} {hp : List (Nat × AObj)} {l : List UInt8} : (rA l).map (snap (n + 1) hp) = rA l := by induction l <;> simp_all
attribute [local simp] lowS_cons lowS_nil lowS_app
@[simp] theorem take_rA {l : List UInt8} : List.take l.length (rA (lowS l)) = rA (lowS l) := List.take_of_length_le (by simp [lowS])
@[simp] theorem lowS_len {l : List UInt8} : (lowS l).length = l.length := by simp [lowS]

def rV (s : List UInt8) : AV := match s with | [] => .nilS | _ => .sl 1 (rA s)

def con_zzEqualFold1 : List AV → Option AV
  | [.str s] => if s.length < mid ∧ ascii s = true then some (rV (lowS s)) else none
  | _ => none

set_option maxRecDepth 100000 in
theorem ok_zzEqualFold1 (Γ : Gam) : ∀ args r, con_zzEqualFold1 args = some r → runs Γ c_dkim_zzEqualFold_1 args (fun v => v = r) := by
  intro args r h
  simp only [con_zzEqualFold1] at h
  split at h <;> (try simp at h; done)
  rename_i s
  obtain ⟨⟨hs, ha⟩, rfl⟩ := ite_some h
  clear h
  simp only [mid] at hs
  simp [c_dkim_zzEqualFold_1]
  refine awp_loop2 (σ := List UInt8 × List UInt8) (fun p => ⟨[(3, grV 29 1 p.1.length), (7, .ref 7 0)], grH 29 p.1.length (rA (lowS p.1)) ++ [(7, .sit s p.1.length)]⟩)
    (fun p => s = p.1 ++ p.2) (fun p => p.2.length) ([], s) (by simp) (by simp) ?_
  rintro ⟨pre, post⟩ hs1 LQ hLQ
  simp only at hs1
  subst hs1
  cases post with
  | nil =>
    simp at hs
    cases pre with
    | nil => simp [b_dkim_zzEqualFold_1_1, t_dkim_zzEqualFold_1_2, rV]
    | cons y pre => simp [b_dkim_zzEqualFold_1_1, t_dkim_zzEqualFold_1_2, rV, List.take_of_length_le]
  | cons x post =>
    have hx := (ascii_lt (by rw [ascii_app] at ha; simp only [Bool.and_eq_true] at ha; exact ha.2 : ascii (x :: post) = true)).1
    simp at hs
    have fin : ∀ st, norm [3, 7] st = ⟨[(3, .msl 29 1 0 (pre.length + 1)), (7, .ref 7 0)], [(29, .cells (rA (lowS pre) ++ [.int .i32 ((lowB x).toNat : Int)])), (7, .sit (pre ++ x :: post) (pre.length + 1))]⟩ → LQ st := by
      intro st hst
      refine hLQ (pre ++ [x], post) (by simp) (by simp) st ?_
      simpa using hst
    have n1 : ¬ (x.toNat : Int) = 383 := by omega
    have n2 : ¬ (x.toNat : Int) = 8490 := by omega
    have lb := lowB_toNat x
    by_cases hu : 65 ≤ x.toNat ∧ x.toNat ≤ 90
    · have hu1 : (65 : Int) ≤ (x.toNat : Int) := by omega
      have hu2 : (x.toNat : Int) ≤ 90 := by omega
      have ew : IntKind.i32.wrap ((x.toNat : Int) + 32) = ((lowB x).toNat : Int) := by
        rw [lb]
        have : (65 : Int) ≤ (x.toNat : Int) ∧ (x.toNat : Int) ≤ 90 := ⟨hu1, hu2⟩
        simp only [IntKind.wrap_i32]
        split <;> omega
      cases pre with
      | nil => 
        simp [b_dkim_zzEqualFold_1_1, decA hx, n1, n2, hu1, hu2, ew]
        exact fin _ (by simp)
      | cons y pre =>
        simp at hs
        simp [b_dkim_zzEqualFold_1_1, decA hx, n1, n2, hu1, hu2, ew]
        refine ⟨by omega, fin _ (by simp)⟩
    · have ew : ((lowB x).toNat : Int) = (x.toNat : Int) := by
        rw [lb]; split <;> omega
      have fin' := fin
      rw [ew] at fin'
      have hor : ¬ (65 : Int) ≤ (x.toNat : Int) ∨ ¬ (x.toNat : Int) ≤ 90 := by omega
      rcases hor with hu1 | hu2
      · cases pre with
        | nil => 
          simp [b_dkim_zzEqualFold_1_1, decA hx, n1, n2, hu1]
          exact fin' _ (by simp)
        | cons y pre =>
          simp at hs
          simp [b_dkim_zzEqualFold_1_1, decA hx, n1, n2, hu1]
          refine ⟨by omega, fin' _ (by simp)⟩
      · have hu1 : (65 : Int) ≤ (x.toNat : Int) := by omega
        cases pre with
        | nil => 
          simp [b_dkim_zzEqualFold_1_1, decA hx, n1, n2, hu1, hu2]
          exact fin' _ (by simp)
        | cons y pre =>
          simp at hs
          simp [b_dkim_zzEqualFold_1_1, decA hx, n1, n2, hu1, hu2]
          refine ⟨by omega, fin' _ (by simp)⟩

def con_zzEqualFold : List AV → Option AV
  | [.str s, .str t] => if s.length < mid ∧ t.length < mid ∧ ascii s = true ∧ ascii t = true then some (.bool (decide (lowS s = lowS t))) else none
  | _ => none

set_option maxRecDepth 100000 in
theorem ok_zzEqualFold (Γ : Gam) (h42 : Γ.fn 42 = con_zzEqualFold1) : ∀ args r, con_zzEqualFold args = some r → runs Γ c_dkim_zzEqualFold args (fun v => v = r) := by
  intro args r h
  simp only [con_zzEqualFold] at h
  split at h <;> (try simp at h; done)
  rename_i s t
  obtain ⟨⟨hs, ht, has, hat⟩, rfl⟩ := ite_some h
  clear h
  have ks : con_zzEqualFold1 [.str s] = some (rV (lowS s)) := if_pos ⟨hs, has⟩
  have kt : con_zzEqualFold1 [.str t] = some (rV (lowS t)) := if_pos ⟨ht, hat⟩
  simp only [mid] at hs ht
  have hls : (lowS s).length < 1099511627776 := by simpa using hs
  have hlt : (lowS t).length < 1099511627776 := by simpa using ht
  simp [c_dkim_zzEqualFold, acall, h42, ks, kt]
  clear ks kt hs ht has hat
  generalize lowS s = l at *
  generalize lowS t = m at *
  by_cases hlen : l.length = m.length
  · have key : awp Γ (.loop [6, 7, 21, 22] b_dkim_zzEqualFold_1) (blockQ 0 (thenQ (awp Γ t_dkim_zzEqualFold_2 (finQ [.t 4] fun v => v = .bool (decide (l = m)))) (finQ [.t 4] fun v => v = .bool (decide (l = m))))) ⟨[(6, rV l), (7, rV m), (21, .int .i64 l.length), (22, .int .i64 0)], []⟩ := by
      refine awp_loop2 (σ := List UInt8 × List UInt8 × List UInt8) (fun p => ⟨[(6, rV l), (7, rV m), (21, .int .i64 l.length), (22, .int .i64 p.1.length)], []⟩)
        (fun p => l = p.1 ++ p.2.1 ∧ m = p.1 ++ p.2.2) (fun p => p.2.1.length) ([], l, m) (by simp) (by simp) ?_
      rintro ⟨pre, a, b⟩ ⟨e1, e2⟩ LQ hLQ
      simp only at e1 e2
      subst e1 e2
      cases a with
      | nil =>
        have hb : b = [] := by simpa using hlen
        subst hb
        simp [b_dkim_zzEqualFold_1, t_dkim_zzEqualFold_2]
      | cons x a =>
        cases b with
        | nil => simp at hlen
        | cons y b =>
          simp at hls hlt hlen
          have er1 : rV (pre ++ x :: a) = .sl 1 (rA pre ++ .int .i32 (x.toNat : Int) :: rA a) := by
            cases pre <;> simp [rV]
          have er2 : rV (pre ++ y :: b) = .sl 1 (rA pre ++ .int .i32 (y.toNat : Int) :: rA b) := by
            cases pre <;> simp [rV]
          have ew : IntKind.i64.wrap ((pre.length : Int) + 1) = (pre.length : Int) + 1 := wrap64 (by omega) (by omega)
          have g : ∀ (q : List UInt8) (v : AV), (rA pre ++ v :: rA q)[pre.length]? = some v := fun q v => get_mid (by simp)
          by_cases hxy : x = y
          · subst hxy
            simp [b_dkim_zzEqualFold_1, ew, er1, er2, g]
            refine ⟨fun _ => ?_, fun h => by omega⟩
            exact hLQ (pre ++ [x], a, b) (by simp) (by simp) _ (by simp [er1, er2])
          · have hn : ¬ (x.toNat : Int) = (y.toNat : Int) := fun e => hxy (UInt8.toNat_inj.1 (by omega))
            simp [b_dkim_zzEqualFold_1, ew, er1, er2, g, hn, hxy]
            omega
    cases l with
    | nil =>
      cases m with
      | nil => simp [rV] at key ⊢; exact key
      | cons => simp at hlen
    | cons x l =>
      cases m with
      | nil => simp at hlen
      | cons y m => simp at hlen; simp [rV, hlen] at key ⊢; exact key
  · have hne : ¬ l = m := fun e => hlen (by rw [e])
    have hlen2 : ¬ (l.length : Int) = (m.length : Int) := by omega
    cases l with
    | nil =>
      cases m with
      | nil => simp at hlen
      | cons y m => simp [rV]; omega
    | cons x l =>
      cases m with
      | nil => simp [rV]; omega
      | cons y m => simp at hlen hlen2; simp [rV, hlen, hlen2]; simp at hne; omega
end Wax

