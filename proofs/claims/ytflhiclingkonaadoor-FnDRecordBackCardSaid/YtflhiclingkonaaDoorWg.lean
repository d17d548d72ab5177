/- The machine by which the functions are read, and what is proved of them (part 7): no premise. -/
import Derived.ChangeSlices
import Derived.ChangeArms
import Derived.Test.YtflhiclingkonaaDoorWf
set_option linter.all false
/- Functions as the abstract machine has them. -/
namespace Wax
open Go (IntKind)

/- dkim.zzCut2 -/
def b_dkim_zzCut2_1 : SCode :=
  (.seq
    (.seq
      (.region [
        ⟨some 6, .mv (.t 5), none⟩,
        ⟨some 7, .mv (.t 0), none⟩,
        ⟨some 8, .len 0 (.t 7), none⟩,
        ⟨some 9, .bin .lss (.t 6) (.t 8), none⟩] [0, 1, 5, 9] [] [[], [], [7]])
      (.cond (.t 9)
        .skip
        (.exit 0)))
    (.seq
      (.block 1
        (.seq
          (.region [
            ⟨some 12, .mv (.t 0), none⟩,
            ⟨some 13, .mv (.t 5), none⟩,
            ⟨some 14, .iStr (.t 12) (.t 13), none⟩,
            ⟨some 15, .mv (.t 1), none⟩,
            ⟨some 16, .bin .eql (.t 14) (.t 15), none⟩] [0, 1, 5, 16] [] [[], [], [12, 13]])
          (.cond (.t 16)
            (.seq
              (.region [
                ⟨some 17, .mv (.t 0), none⟩,
                ⟨some 18, .mv (.t 5), none⟩,
                ⟨some 19, .slStr (.t 17) none (some (.t 18)), none⟩,
                ⟨some 20, .mv (.t 0), none⟩,
                ⟨some 21, .mv (.t 5), none⟩,
                ⟨some 22, .bin .add (.t 21) (.k (.int .i64 1)), none⟩,
                ⟨some 23, .slStr (.t 20) (some (.t 22)) none, none⟩,
                ⟨some 24, .mkSl 1 2 [(.str [])] [(0, (.t 19)), (1, (.t 23))], none⟩,
                ⟨some 4, .mv (.t 24), none⟩] [4] [] [])
              .ret)
            .skip)))
      (.region [
        ⟨some 10, .mv (.t 5), none⟩,
        ⟨some 11, .bin .add (.t 10) (.k (.int .i64 1)), none⟩,
        ⟨some 5, .mv (.t 11), none⟩] [0, 1, 5] [] [[], [10]])))

def t_dkim_zzCut2_2 : SCode :=
  (.seq
    (.region [
      ⟨some 25, .mv (.t 0), none⟩,
      ⟨some 26, .mkSl 1 1 [(.str [])] [(0, (.t 25))], none⟩,
      ⟨some 4, .mv (.t 26), none⟩] [4] [] [[0], [25]])
    .ret)

def c_dkim_zzCut2 : SFn := ⟨2,
    (.seq
      (.region [
        ⟨some 4, .mv (.k .nilS), none⟩] [0, 1] [] [])
      (.seq
        (.seq
          (.region [
            ⟨some 5, .mv (.k (.int .i64 0)), none⟩] [0, 1, 5] [] [])
          (.block 0
            (.loop [0, 1, 5]
              b_dkim_zzCut2_1)))
        t_dkim_zzCut2_2)),
  [.t 4]⟩

def l_dkim_zzCut2 : Lay := { rg := [(0, ([0, 1], [])), (1, ([0, 1, 5], [])), (2, ([0, 1, 5, 9], [])), (3, ([0, 1, 5], [])), (4, ([0, 1, 5, 16], [])), (5, ([4], [])), (6, ([4], [])), (1000002, ([0, 1, 5], []))], dd := [(2, [[], [], [7]]), (3, [[], [10]]), (4, [[], [], [12, 13]]), (6, [[0], [25]])] }

/- dkim.parseCanonicalization -/
def c_dkim_parseCanonicalization : SFn := ⟨1,
    (.seq
      (.region [
        ⟨some 2, .mv (.k (.str [])), none⟩,
        ⟨some 3, .mv (.k (.str [])), none⟩] [0] [] [[2]])
      (.seq
        (.region [
          ⟨some 2, .mv (.k (.str [115, 105, 109, 112, 108, 101])), none⟩] [0, 2] [] [])
        (.seq
          (.region [
            ⟨some 3, .mv (.k (.str [115, 105, 109, 112, 108, 101])), none⟩] [0, 2, 3] [] [])
          (.seq
            (.region [
              ⟨some 5, .mv (.t 0), none⟩,
              ⟨some 6, .call 26 [(.t 5)], none⟩,
              ⟨some 7, .call 57 [(.t 6), (.k (.int .u8 47))], none⟩,
              ⟨some 4, .mv (.t 7), none⟩] [2, 3, 4] [] [[0], [5], [6]])
            (.seq
              (.seq
                (.region [
                  ⟨some 8, .mv (.t 4), none⟩,
                  ⟨some 9, .iAddr 1 (.t 8) (.k (.int .i64 0)), none⟩,
                  ⟨some 10, .load none (.t 9), none⟩,
                  ⟨some 11, .bin .neq (.t 10) (.k (.str [])), none⟩] [2, 3, 4, 11] [] [[], [8], [9]])
                (.cond (.t 11)
                  (.region [
                    ⟨some 12, .mv (.t 4), none⟩,
                    ⟨some 13, .iAddr 1 (.t 12) (.k (.int .i64 0)), none⟩,
                    ⟨some 14, .load none (.t 13), none⟩,
                    ⟨some 2, .mv (.t 14), none⟩] [2, 3, 4] [] [[], [12], [13]])
                  .skip))
              (.seq
                (.seq
                  (.region [
                    ⟨some 15, .mv (.t 4), none⟩,
                    ⟨some 16, .len 1 (.t 15), none⟩,
                    ⟨some 17, .bin .gtr (.t 16) (.k (.int .i64 1)), none⟩] [2, 3, 4, 17] [] [[], [15]])
                  (.cond (.t 17)
                    (.region [
                      ⟨some 18, .mv (.t 4), none⟩,
                      ⟨some 19, .iAddr 1 (.t 18) (.k (.int .i64 1)), none⟩,
                      ⟨some 20, .load none (.t 19), none⟩,
                      ⟨some 3, .mv (.t 20), none⟩] [2, 3] [] [[4], [18], [19]])
                    .skip))
                .ret)))))),
  [.t 2, .t 3]⟩

def l_dkim_parseCanonicalization : Lay := { rg := [(0, ([0], [])), (1, ([0, 2], [])), (2, ([0, 2, 3], [])), (3, ([2, 3, 4], [])), (4, ([2, 3, 4, 11], [])), (5, ([2, 3, 4], [])), (6, ([2, 3, 4, 17], [])), (7, ([2, 3], []))], dd := [(0, [[2]]), (3, [[0], [5], [6]]), (4, [[], [8], [9]]), (5, [[], [12], [13]]), (6, [[], [15]]), (7, [[4], [18], [19]])] }

/- dkim.Forms -/
def c_dkim_Forms : SFn := ⟨1,
    (.seq
      (.region [
        ⟨some 2, .mv (.k (.str [])), none⟩,
        ⟨some 3, .mv (.k (.str [])), none⟩] [0] [] [[2]])
      (.seq
        (.region [
          ⟨some 4, .mv (.t 0), none⟩,
          ⟨some 5, .call 58 [(.t 4)], none⟩,
          ⟨some 6, .extr (.t 5) 0, none⟩,
          ⟨some 7, .extr (.t 5) 1, none⟩,
          ⟨some 2, .mv (.t 6), none⟩,
          ⟨some 3, .mv (.t 7), none⟩] [2, 3] [] [[0], [4], [], [5], [6]])
        .ret)),
  [.t 2, .t 3]⟩

def l_dkim_Forms : Lay := { rg := [(0, ([0], [])), (1, ([2, 3], []))], dd := [(0, [[2]]), (1, [[0], [4], [], [5], [6]])] }

/- impl.DForms -/
def c_impl_DForms : SFn := ⟨1,
    (.seq
      (.region [
        ⟨some 2, .mv (.k (.str [])), none⟩,
        ⟨some 3, .mv (.k (.str [])), none⟩,
        ⟨some 4, .mv (.k (.bool false)), none⟩] [0] [] [[2], [3]])
      (.seq
        (.region [
          ⟨some 12, .mv (.t 0), none⟩,
          ⟨some 13, .call 59 [(.t 12)], none⟩,
          ⟨some 11, .mv (.t 13), none⟩,
          ⟨some 14, .extr (.t 11) 0, none⟩,
          ⟨some 15, .extr (.t 11) 1, none⟩,
          ⟨some 5, .mv (.t 14), none⟩,
          ⟨some 6, .mv (.t 15), none⟩] [5, 6] [] [[0], [12], [13], [], [11], [14]])
        (.seq
          (.region [
            ⟨some 17, .mv (.t 5), none⟩,
            ⟨some 18, .call 13 [(.t 17), (.k (.str []))], none⟩,
            ⟨some 16, .mv (.t 18), none⟩,
            ⟨some 19, .extr (.t 16) 0, none⟩,
            ⟨some 20, .extr (.t 16) 1, none⟩,
            ⟨some 7, .mv (.t 19), none⟩,
            ⟨some 8, .mv (.t 20), none⟩] [5, 6, 8] [] [[], [17], [18], [], [16], [7, 19]])
          (.seq
            (.region [
              ⟨some 22, .mv (.t 6), none⟩,
              ⟨some 23, .call 13 [(.t 22), (.k (.str []))], none⟩,
              ⟨some 21, .mv (.t 23), none⟩,
              ⟨some 24, .extr (.t 21) 0, none⟩,
              ⟨some 25, .extr (.t 21) 1, none⟩,
              ⟨some 9, .mv (.t 24), none⟩,
              ⟨some 10, .mv (.t 25), none⟩] [5, 6, 8, 10] [] [[], [22], [23], [], [21], [9, 24]])
            (.seq
              (.region [
                ⟨some 26, .mv (.t 5), none⟩,
                ⟨some 27, .mv (.t 6), none⟩,
                ⟨some 28, .mv (.t 8), none⟩,
                ⟨some 29, .mv (.t 28), none⟩,
                ⟨some 30, .mv (.t 10), some (29, true)⟩,
                ⟨some 31, .pick (.t 29) (.t 30) (.k (.bool false)), none⟩,
                ⟨some 2, .mv (.t 26), none⟩,
                ⟨some 3, .mv (.t 27), none⟩,
                ⟨some 4, .mv (.t 31), none⟩] [2, 3, 4] [] [[5], [6], [8], [28], [10], [29, 30], [26], [27]])
              .ret))))),
  [.t 2, .t 3, .t 4]⟩

def l_impl_DForms : Lay := { rg := [(0, ([0], [])), (1, ([5, 6], [])), (2, ([5, 6, 8], [])), (3, ([5, 6, 8, 10], [])), (4, ([2, 3, 4], []))], dd := [(0, [[2], [3]]), (1, [[0], [12], [13], [], [11], [14]]), (2, [[], [17], [18], [], [16], [7, 19]]), (3, [[], [22], [23], [], [21], [9, 24]]), (4, [[5], [6], [8], [28], [10], [29, 30], [26], [27]])] }

/- spec.DFormsOf$1 -/
def c_spec_DFormsOf_1 : SFn := ⟨1,
    (.seq
      (.region [
        ⟨some 2, .mv (.k (.bool false)), none⟩] [0] [] [])
      (.seq
        (.region [
          ⟨some 3, .mv (.t 0), none⟩,
          ⟨some 4, .bin .eql (.t 3) (.k (.str [115, 105, 109, 112, 108, 101])), none⟩,
          ⟨some 5, .mv (.t 4), none⟩,
          ⟨some 6, .mv (.t 0), some (5, false)⟩,
          ⟨some 7, .bin .eql (.t 6) (.k (.str [114, 101, 108, 97, 120, 101, 100])), some (5, false)⟩,
          ⟨some 8, .pick (.t 5) (.k (.bool true)) (.t 7), none⟩,
          ⟨some 2, .mv (.t 8), none⟩] [2] [] [[], [3], [4], [0], [6], [5, 7]])
        .ret)),
  [.t 2]⟩

def l_spec_DFormsOf_1 : Lay := { rg := [(0, ([0], [])), (1, ([2], []))], dd := [(1, [[], [3], [4], [0], [6], [5, 7]])] }

/- spec.DFormsOf -/
def c_spec_DFormsOf : SFn := ⟨1,
    (.seq
      (.region [
        ⟨some 2, .mv (.k (.str [])), none⟩,
        ⟨some 3, .mv (.k (.str [])), none⟩,
        ⟨some 4, .mv (.k (.bool false)), none⟩] [0] [] [[2], [3]])
      (.seq
        (.region [
          ⟨some 10, .mv (.t 0), none⟩,
          ⟨some 11, .call 27 [(.t 10)], none⟩,
          ⟨some 12, .call 2 [(.t 11), (.k (.int .u8 47))], none⟩,
          ⟨some 9, .mv (.t 12), none⟩,
          ⟨some 13, .extr (.t 9) 0, none⟩,
          ⟨some 14, .extr (.t 9) 1, none⟩,
          ⟨some 15, .extr (.t 9) 2, none⟩,
          ⟨some 5, .mv (.t 13), none⟩,
          ⟨some 6, .mv (.t 14), none⟩,
          ⟨some 7, .mv (.t 15), none⟩] [5, 6, 7] [] [[0], [10], [11], [12], [], [], [9], [13], [14]])
        (.seq
          (.seq
            (.region [
              ⟨some 16, .mv (.t 5), none⟩,
              ⟨some 17, .bin .eql (.t 16) (.k (.str [])), none⟩] [5, 6, 7, 17] [] [])
            (.cond (.t 17)
              (.region [
                ⟨some 5, .mv (.k (.str [115, 105, 109, 112, 108, 101])), none⟩] [5, 6, 7] [] [])
              .skip))
          (.seq
            (.seq
              (.region [
                ⟨some 18, .mv (.t 7), none⟩,
                ⟨some 19, .un .not (.t 18), none⟩] [5, 6, 19] [] [[7]])
              (.cond (.t 19)
                (.region [
                  ⟨some 6, .mv (.k (.str [115, 105, 109, 112, 108, 101])), none⟩] [5, 6] [] [])
                .skip))
            (.seq
              (.region [
                ⟨some 8, .mv (.k (.fn 60 [])), none⟩] [5, 6, 8] [] [])
              (.seq
                (.region [
                  ⟨some 20, .mv (.t 5), none⟩,
                  ⟨some 21, .mv (.t 6), none⟩,
                  ⟨some 22, .mv (.t 8), none⟩,
                  ⟨some 23, .mv (.t 5), none⟩,
                  ⟨some 24, .callV (.t 22) [(.t 23)], none⟩,
                  ⟨some 25, .mv (.t 24), none⟩,
                  ⟨some 26, .mv (.t 8), some (25, true)⟩,
                  ⟨some 27, .mv (.t 6), some (25, true)⟩,
                  ⟨some 28, .callV (.t 26) [(.t 27)], some (25, true)⟩,
                  ⟨some 29, .pick (.t 25) (.t 28) (.k (.bool false)), none⟩,
                  ⟨some 2, .mv (.t 20), none⟩,
                  ⟨some 3, .mv (.t 21), none⟩,
                  ⟨some 4, .mv (.t 29), none⟩] [2, 3, 4] [] [[], [], [], [5], [22, 23], [24], [8], [6], [26, 27], [25, 28], [20], [21]])
                .ret)))))),
  [.t 2, .t 3, .t 4]⟩

def l_spec_DFormsOf : Lay := { rg := [(0, ([0], [])), (1, ([5, 6, 7], [])), (2, ([5, 6, 7, 17], [])), (3, ([5, 6, 7], [])), (4, ([5, 6, 19], [])), (5, ([5, 6], [])), (6, ([5, 6, 8], [])), (7, ([2, 3, 4], []))], dd := [(0, [[2], [3]]), (1, [[0], [10], [11], [12], [], [], [9], [13], [14]]), (4, [[7]]), (7, [[], [], [], [5], [22, 23], [24], [8], [6], [26, 27], [25, 28], [20], [21]])] }

/- spec.DParts -/
def c_spec_DParts : SFn := ⟨1,
    (.seq
      (.region [
        ⟨some 2, .mv (.k .nilS), none⟩] [0] [] [])
      (.seq
        (.region [
          ⟨some 3, .mv (.t 0), none⟩,
          ⟨some 4, .call 27 [(.t 3)], none⟩,
          ⟨some 5, .call 54 [(.t 4), (.k (.int .u8 58))], none⟩,
          ⟨some 2, .mv (.t 5), none⟩] [2] [] [[0], [3], [4]])
        .ret)),
  [.t 2]⟩

def l_spec_DParts : Lay := { rg := [(0, ([0], [])), (1, ([2], []))], dd := [(1, [[0], [3], [4]])] }

/- dkim.Unix -/
def c_dkim_Unix : SFn := ⟨1,
    (.seq
      (.region [
        ⟨some 2, .alloc [(.int .i64 0), (.bool false)], none⟩] [0, 2] [] [])
      (.seq
        (.region [
          ⟨some 3, .mv (.t 0), none⟩,
          ⟨some 4, .agg [(.int .i64 0), (.bool false)] [(0, 1, (.t 3)), (1, 1, (.k (.bool true)))], none⟩,
          ⟨none, .store 2 (.t 2) (.t 4), none⟩] [2] [] [[0], [3]])
        .ret)),
  [.c (some 2) 2]⟩

def l_dkim_Unix : Lay := { rg := [(0, ([0, 2], [])), (1, ([2], []))], dd := [(1, [[0], [3]])] }

/- dkim.parseTime -/
def c_dkim_parseTime : SFn := ⟨1,
    (.seq
      (.region [
        ⟨some 2, .alloc [(.int .i64 0), (.bool false)], none⟩,
        ⟨some 3, .mv (.k .nilI), none⟩] [0, 2] [] [])
      (.seq
        (.region [
          ⟨some 7, .mv (.t 0), none⟩,
          ⟨some 8, .call 26 [(.t 7)], none⟩,
          ⟨some 9, .call 61 [(.t 8), (.k (.int .i64 10)), (.k (.int .i64 64))], none⟩,
          ⟨some 6, .mv (.t 9), none⟩,
          ⟨some 10, .extr (.t 6) 0, none⟩,
          ⟨some 11, .extr (.t 6) 1, none⟩,
          ⟨some 4, .mv (.t 10), none⟩,
          ⟨some 5, .mv (.t 11), none⟩] [2, 4, 5] [] [[0], [7], [8], [9], [], [6], [10]])
        (.seq
          (.seq
            (.region [
              ⟨some 12, .mv (.t 5), none⟩,
              ⟨some 13, .isNil 0 true (.t 12), none⟩] [2, 4, 5, 13] [] [])
            (.cond (.t 13)
              (.seq
                (.region [
                  ⟨some 14, .agg [(.int .i64 0), (.bool false)] [], none⟩,
                  ⟨some 15, .mv (.t 5), none⟩,
                  ⟨none, .store 2 (.t 2) (.t 14), none⟩,
                  ⟨some 3, .mv (.t 15), none⟩] [2, 3] [] [[], [5], [14]])
                .ret)
              .skip))
          (.seq
            (.region [
              ⟨some 16, .mv (.t 4), none⟩,
              ⟨some 17, .call 62 [(.t 16)], none⟩,
              ⟨none, .store 2 (.t 2) (.t 17), none⟩,
              ⟨some 3, .mv (.k .nilI), none⟩] [2, 3] [] [[4], [16], [17]])
            .ret)))),
  [.c (some 2) 2, .t 3]⟩

def l_dkim_parseTime : Lay := { rg := [(0, ([0, 2], [])), (1, ([2, 4, 5], [])), (2, ([2, 4, 5, 13], [])), (3, ([2, 3], [])), (4, ([2, 3], []))], dd := [(1, [[0], [7], [8], [9], [], [6], [10]]), (3, [[], [5], [14]]), (4, [[4], [16], [17]])] }

/- dkim.Number -/
def c_dkim_Number : SFn := ⟨1,
    (.seq
      (.region [
        ⟨some 2, .alloc [(.int .i64 0), (.bool false)], none⟩,
        ⟨some 3, .mv (.k .nilI), none⟩] [0, 2] [] [])
      (.seq
        (.region [
          ⟨some 4, .mv (.t 0), none⟩,
          ⟨some 5, .call 63 [(.t 4)], none⟩,
          ⟨some 6, .extr (.t 5) 0, none⟩,
          ⟨some 7, .extr (.t 5) 1, none⟩,
          ⟨none, .store 2 (.t 2) (.t 6), none⟩,
          ⟨some 3, .mv (.t 7), none⟩] [2, 3] [] [[0], [4], [], [5], [6]])
        .ret)),
  [.c (some 2) 2, .t 3]⟩

def l_dkim_Number : Lay := { rg := [(0, ([0, 2], [])), (1, ([2, 3], []))], dd := [(1, [[0], [4], [], [5], [6]])] }

/- dkim.Time).Unix -/
def c_dkim_Time_Unix : SFn := ⟨1,
    (.seq
      (.region [
        ⟨some 1, .box (.t 0), none⟩,
        ⟨some 2, .mv (.k (.int .i64 0)), none⟩] [1] [] [[0]])
      (.seq
        (.region [
          ⟨some 3, .fAddr 0 (.t 1), none⟩,
          ⟨some 4, .load none (.t 3), none⟩,
          ⟨some 2, .mv (.t 4), none⟩] [2] [1] [[1], [3]])
        .ret)),
  [.t 2]⟩

def l_dkim_Time_Unix : Lay := { rg := [(0, ([1], [])), (1, ([2], [1]))], dd := [(0, [[0]]), (1, [[1], [3]])] }

/- impl.DNumber -/
def c_impl_DNumber : SFn := ⟨1,
    (.seq
      (.region [
        ⟨some 2, .mv (.k (.int .i64 0)), none⟩,
        ⟨some 3, .mv (.k (.bool false)), none⟩] [0] [] [[2]])
      (.seq
        (.region [
          ⟨some 7, .mv (.t 0), none⟩,
          ⟨some 8, .call 64 [(.t 7)], none⟩,
          ⟨some 6, .mv (.t 8), none⟩,
          ⟨some 9, .extr (.t 6) 0, none⟩,
          ⟨some 10, .extr (.t 6) 1, none⟩,
          ⟨some 4, .alloc [(.int .i64 0), (.bool false)], none⟩,
          ⟨none, .store 2 (.t 4) (.t 9), none⟩,
          ⟨some 5, .mv (.t 10), none⟩] [4, 5] [] [[0], [7], [8], [], [6], [], [9]])
        (.seq
          (.seq
            (.region [
              ⟨some 11, .mv (.t 5), none⟩,
              ⟨some 12, .isNil 0 true (.t 11), none⟩] [4, 12] [] [[5]])
            (.cond (.t 12)
              (.seq
                (.region [
                  ⟨some 2, .mv (.k (.int .i64 0)), none⟩,
                  ⟨some 3, .mv (.k (.bool false)), none⟩] [2, 3] [4] [])
                .ret)
              .skip))
          (.seq
            (.region [
              ⟨some 13, .load (some 2) (.t 4), none⟩,
              ⟨some 14, .call 65 [(.t 13)], none⟩,
              ⟨some 2, .mv (.t 14), none⟩,
              ⟨some 3, .mv (.k (.bool true)), none⟩] [2, 3] [4] [[4], [13], [14]])
            .ret)))),
  [.t 2, .t 3]⟩

def l_impl_DNumber : Lay := { rg := [(0, ([0], [])), (1, ([4, 5], [])), (2, ([4, 12], [])), (3, ([2, 3], [4])), (4, ([2, 3], [4]))], dd := [(0, [[2]]), (1, [[0], [7], [8], [], [6], [], [9]]), (2, [[5]]), (4, [[4], [13], [14]])] }

/- spec.DWhole -/
def b_spec_DWhole_1 : SCode :=
  (.seq
    (.seq
      (.region [
        ⟨some 32, .mv (.t 7), none⟩,
        ⟨some 33, .mv (.t 4), none⟩,
        ⟨some 34, .len 0 (.t 33), none⟩,
        ⟨some 35, .bin .lss (.t 32) (.t 34), none⟩] [4, 5, 6, 7, 35] [] [[], [], [33]])
      (.cond (.t 35)
        .skip
        (.exit 0)))
    (.seq
      (.block 1
        (.seq
          (.region [
            ⟨some 38, .mv (.t 4), none⟩,
            ⟨some 39, .mv (.t 7), none⟩,
            ⟨some 40, .iStr (.t 38) (.t 39), none⟩,
            ⟨some 41, .cInt .u64 (.t 40), none⟩,
            ⟨some 42, .bin .sub (.t 41) (.k (.int .u64 48)), none⟩,
            ⟨some 8, .mv (.t 42), none⟩] [4, 5, 6, 7, 8] [] [[], [], [38, 39], [40], [41]])
          (.seq
            (.seq
              (.region [
                ⟨some 43, .mv (.t 4), none⟩,
                ⟨some 44, .mv (.t 7), none⟩,
                ⟨some 45, .iStr (.t 43) (.t 44), none⟩,
                ⟨some 46, .bin .lss (.t 45) (.k (.int .u8 48)), none⟩,
                ⟨some 47, .mv (.t 46), none⟩,
                ⟨some 48, .mv (.t 4), some (47, false)⟩,
                ⟨some 49, .mv (.t 7), some (47, false)⟩,
                ⟨some 50, .iStr (.t 48) (.t 49), some (47, false)⟩,
                ⟨some 51, .bin .gtr (.t 50) (.k (.int .u8 57)), some (47, false)⟩,
                ⟨some 52, .pick (.t 47) (.k (.bool true)) (.t 51), none⟩,
                ⟨some 53, .mv (.t 52), none⟩,
                ⟨some 54, .mv (.t 6), some (53, false)⟩,
                ⟨some 55, .mv (.t 8), some (53, false)⟩,
                ⟨some 56, .bin .sub (.k (.int .u64 9223372036854775808)) (.t 55), some (53, false)⟩,
                ⟨some 57, .bin .quo (.t 56) (.k (.int .u64 10)), some (53, false)⟩,
                ⟨some 58, .bin .gtr (.t 54) (.t 57), some (53, false)⟩,
                ⟨some 59, .pick (.t 53) (.k (.bool true)) (.t 58), none⟩] [4, 5, 6, 7, 8, 59] [] [[], [], [43, 44], [45], [46], [], [], [48, 49], [50], [47, 51], [52], [], [], [55], [56], [54, 57]])
              (.cond (.t 59)
                (.seq
                  (.region [
                    ⟨some 2, .mv (.k (.int .i64 0)), none⟩,
                    ⟨some 3, .mv (.k (.bool false)), none⟩] [2, 3] [] [])
                  .ret)
                .skip))
            (.region [
              ⟨some 60, .mv (.t 6), none⟩,
              ⟨some 61, .bin .mul (.t 60) (.k (.int .u64 10)), none⟩,
              ⟨some 62, .mv (.t 8), none⟩,
              ⟨some 63, .bin .add (.t 61) (.t 62), none⟩,
              ⟨some 6, .mv (.t 63), none⟩] [4, 5, 6, 7] [] [[], [60], [8], [61, 62]]))))
      (.region [
        ⟨some 36, .mv (.t 7), none⟩,
        ⟨some 37, .bin .add (.t 36) (.k (.int .i64 1)), none⟩,
        ⟨some 7, .mv (.t 37), none⟩] [4, 5, 6, 7] [] [[], [36]])))

def t_spec_DWhole_2 : SCode :=
  (.seq
    (.seq
      (.region [
        ⟨some 64, .mv (.t 4), none⟩,
        ⟨some 65, .bin .eql (.t 64) (.k (.str [])), none⟩,
        ⟨some 66, .mv (.t 65), none⟩,
        ⟨some 67, .mv (.t 5), some (66, false)⟩,
        ⟨some 68, .un .not (.t 67), some (66, false)⟩,
        ⟨some 69, .mv (.t 68), some (66, false)⟩,
        ⟨some 70, .mv (.t 6), some (69, true)⟩,
        ⟨some 71, .bin .eql (.t 70) (.k (.int .u64 9223372036854775808)), some (69, true)⟩,
        ⟨some 72, .pick (.t 69) (.t 71) (.k (.bool false)), some (66, false)⟩,
        ⟨some 73, .pick (.t 66) (.k (.bool true)) (.t 72), none⟩] [5, 6, 73] [] [[4], [64], [65], [], [67], [68], [], [70], [69, 71]])
      (.cond (.t 73)
        (.seq
          (.region [
            ⟨some 2, .mv (.k (.int .i64 0)), none⟩,
            ⟨some 3, .mv (.k (.bool false)), none⟩] [2, 3] [] [])
          .ret)
        .skip))
    (.seq
      (.seq
        (.region [
          ⟨some 74, .mv (.t 5), none⟩] [6, 74] [] [])
        (.cond (.t 74)
          (.seq
            (.region [
              ⟨some 75, .mv (.t 6), none⟩,
              ⟨some 76, .un .neg (.t 75), none⟩,
              ⟨some 77, .cInt .i64 (.t 76), none⟩,
              ⟨some 2, .mv (.t 77), none⟩,
              ⟨some 3, .mv (.k (.bool true)), none⟩] [2, 3] [] [[6], [75], [76], [77]])
            .ret)
          .skip))
      (.seq
        (.region [
          ⟨some 78, .mv (.t 6), none⟩,
          ⟨some 79, .cInt .i64 (.t 78), none⟩,
          ⟨some 2, .mv (.t 79), none⟩,
          ⟨some 3, .mv (.k (.bool true)), none⟩] [2, 3] [] [[6], [78], [79]])
        .ret)))

def c_spec_DWhole : SFn := ⟨1,
    (.seq
      (.region [
        ⟨some 2, .mv (.k (.int .i64 0)), none⟩,
        ⟨some 3, .mv (.k (.bool false)), none⟩] [0] [] [[2]])
      (.seq
        (.region [
          ⟨some 9, .mv (.t 0), none⟩,
          ⟨some 10, .call 27 [(.t 9)], none⟩,
          ⟨some 4, .mv (.t 10), none⟩] [4] [] [[0], [9]])
        (.seq
          (.region [
            ⟨some 11, .mv (.t 4), none⟩,
            ⟨some 12, .bin .neq (.t 11) (.k (.str [])), none⟩,
            ⟨some 13, .mv (.t 12), none⟩,
            ⟨some 14, .mv (.t 4), some (13, true)⟩,
            ⟨some 15, .iStr (.t 14) (.k (.int .i64 0)), some (13, true)⟩,
            ⟨some 16, .bin .eql (.t 15) (.k (.int .u8 45)), some (13, true)⟩,
            ⟨some 17, .pick (.t 13) (.t 16) (.k (.bool false)), none⟩,
            ⟨some 5, .mv (.t 17), none⟩] [4, 5] [] [[], [11], [12], [], [14], [15], [13, 16]])
          (.seq
            (.seq
              (.region [
                ⟨some 18, .mv (.t 4), none⟩,
                ⟨some 19, .bin .neq (.t 18) (.k (.str [])), none⟩,
                ⟨some 20, .mv (.t 19), none⟩,
                ⟨some 21, .mv (.t 4), some (20, true)⟩,
                ⟨some 22, .iStr (.t 21) (.k (.int .i64 0)), some (20, true)⟩,
                ⟨some 23, .bin .eql (.t 22) (.k (.int .u8 45)), some (20, true)⟩,
                ⟨some 24, .mv (.t 23), some (20, true)⟩,
                ⟨some 25, .mv (.t 4), some (24, false)⟩,
                ⟨some 26, .iStr (.t 25) (.k (.int .i64 0)), some (24, false)⟩,
                ⟨some 27, .bin .eql (.t 26) (.k (.int .u8 43)), some (24, false)⟩,
                ⟨some 28, .pick (.t 24) (.k (.bool true)) (.t 27), some (20, true)⟩,
                ⟨some 29, .pick (.t 20) (.t 28) (.k (.bool false)), none⟩] [4, 5, 29] [] [[], [18], [19], [], [21], [22], [23], [], [25], [26], [24, 27]])
              (.cond (.t 29)
                (.region [
                  ⟨some 30, .mv (.t 4), none⟩,
                  ⟨some 31, .slStr (.t 30) (some (.k (.int .i64 1))) none, none⟩,
                  ⟨some 4, .mv (.t 31), none⟩] [4, 5] [] [[], [30]])
                .skip))
            (.seq
              (.region [
                ⟨some 6, .mv (.k (.int .u64 0)), none⟩] [4, 5, 6] [] [])
              (.seq
                (.seq
                  (.region [
                    ⟨some 7, .mv (.k (.int .i64 0)), none⟩] [4, 5, 6, 7] [] [])
                  (.block 0
                    (.loop [4, 5, 6, 7]
                      b_spec_DWhole_1)))
                t_spec_DWhole_2)))))),
  [.t 2, .t 3]⟩

def l_spec_DWhole : Lay := { rg := [(0, ([0], [])), (1, ([4], [])), (2, ([4, 5], [])), (3, ([4, 5, 29], [])), (4, ([4, 5], [])), (5, ([4, 5, 6], [])), (6, ([4, 5, 6, 7], [])), (7, ([4, 5, 6, 7, 35], [])), (8, ([4, 5, 6, 7], [])), (9, ([4, 5, 6, 7, 8], [])), (10, ([4, 5, 6, 7, 8, 59], [])), (11, ([2, 3], [])), (12, ([4, 5, 6, 7], [])), (13, ([5, 6, 73], [])), (14, ([2, 3], [])), (15, ([6, 74], [])), (16, ([2, 3], [])), (17, ([2, 3], [])), (1000007, ([4, 5, 6, 7], []))], dd := [(0, [[2]]), (1, [[0], [9]]), (2, [[], [11], [12], [], [14], [15], [13, 16]]), (3, [[], [18], [19], [], [21], [22], [23], [], [25], [26], [24, 27]]), (4, [[], [30]]), (7, [[], [], [33]]), (8, [[], [36]]), (9, [[], [], [38, 39], [40], [41]]), (10, [[], [], [43, 44], [45], [46], [], [], [48, 49], [50], [47, 51], [52], [], [], [55], [56], [54, 57]]), (12, [[], [60], [8], [61, 62]]), (13, [[4], [64], [65], [], [67], [68], [], [70], [69, 71]]), (16, [[6], [75], [76], [77]]), (17, [[6], [78], [79]])] }

/- laws.FnDWords -/
def c_laws_FnDWords : SFn := ⟨1,
    (.seq
      (.region [
        ⟨some 2, .mv (.k (.bool false)), none⟩] [0] [] [])
      (.seq
        (.seq
          (.region [
            ⟨some 13, .mv (.t 0), none⟩,
            ⟨some 14, .len 0 (.t 13), none⟩,
            ⟨some 15, .bin .gtr (.t 14) (.k (.int .i64 2147483647)), none⟩] [0, 15] [] [[], [13]])
          (.cond (.t 15)
            (.seq
              (.region [
                ⟨some 2, .mv (.k (.bool true)), none⟩] [2] [] [])
              .ret)
            .skip))
        (.seq
          (.seq
            (.region [
              ⟨some 16, .mv (.t 0), none⟩,
              ⟨some 17, .mkSl 1 1 [(.str [])] [(0, (.t 16))], none⟩,
              ⟨some 18, .call 10 [(.k (.int .i64 500)), (.t 17)], none⟩,
              ⟨some 19, .un .not (.t 18), none⟩] [0, 19] [17] [[], [16], [17]])
            (.cond (.t 19)
              (.seq
                (.region [
                  ⟨some 20, .call 11 [], none⟩,
                  ⟨some 2, .mv (.t 20), none⟩] [2] [] [])
                .ret)
              .skip))
          (.seq
            (.region [
              ⟨some 22, .mv (.t 0), none⟩,
              ⟨some 23, .call 66 [(.t 22)], none⟩,
              ⟨some 21, .mv (.t 23), none⟩,
              ⟨some 24, .extr (.t 21) 0, none⟩,
              ⟨some 25, .extr (.t 21) 1, none⟩,
              ⟨some 26, .extr (.t 21) 2, none⟩,
              ⟨some 3, .mv (.t 24), none⟩,
              ⟨some 4, .mv (.t 25), none⟩,
              ⟨some 5, .mv (.t 26), none⟩] [0, 3, 4, 5] [] [[], [22], [23], [], [], [21], [24], [25]])
            (.seq
              (.region [
                ⟨some 28, .mv (.t 0), none⟩,
                ⟨some 29, .call 67 [(.t 28)], none⟩,
                ⟨some 27, .mv (.t 29), none⟩,
                ⟨some 30, .extr (.t 27) 0, none⟩,
                ⟨some 31, .extr (.t 27) 1, none⟩,
                ⟨some 32, .extr (.t 27) 2, none⟩,
                ⟨some 6, .mv (.t 30), none⟩,
                ⟨some 7, .mv (.t 31), none⟩,
                ⟨some 8, .mv (.t 32), none⟩] [0, 3, 4, 5, 6, 7, 8] [] [[], [28], [29], [], [], [27], [30], [31]])
              (.seq
                (.region [
                  ⟨some 34, .mv (.t 0), none⟩,
                  ⟨some 35, .call 68 [(.t 34)], none⟩,
                  ⟨some 33, .mv (.t 35), none⟩,
                  ⟨some 36, .extr (.t 33) 0, none⟩,
                  ⟨some 37, .extr (.t 33) 1, none⟩,
                  ⟨some 9, .mv (.t 36), none⟩,
                  ⟨some 10, .mv (.t 37), none⟩] [0, 3, 4, 5, 6, 7, 8, 9, 10] [] [[], [34], [35], [], [33], [36]])
                (.seq
                  (.region [
                    ⟨some 39, .mv (.t 0), none⟩,
                    ⟨some 40, .call 69 [(.t 39)], none⟩,
                    ⟨some 38, .mv (.t 40), none⟩,
                    ⟨some 41, .extr (.t 38) 0, none⟩,
                    ⟨some 42, .extr (.t 38) 1, none⟩,
                    ⟨some 11, .mv (.t 41), none⟩,
                    ⟨some 12, .mv (.t 42), none⟩] [0, 3, 4, 5, 6, 7, 8, 9, 10, 11, 12] [] [[], [39], [40], [], [38], [41]])
                  (.seq
                    (.region [
                      ⟨some 43, .mv (.t 0), none⟩,
                      ⟨some 44, .call 7 [(.t 43)], none⟩,
                      ⟨some 45, .mv (.t 0), none⟩,
                      ⟨some 46, .call 70 [(.t 45)], none⟩,
                      ⟨some 47, .call 35 [(.t 44), (.t 46)], none⟩,
                      ⟨some 48, .mv (.t 47), none⟩,
                      ⟨some 49, .mv (.t 5), some (48, true)⟩,
                      ⟨some 50, .mv (.t 8), some (48, true)⟩,
                      ⟨some 51, .eqB false (.t 49) (.t 50), some (48, true)⟩,
                      ⟨some 52, .pick (.t 48) (.t 51) (.k (.bool false)), none⟩,
                      ⟨some 53, .mv (.t 52), none⟩,
                      ⟨some 54, .mv (.t 5), some (53, true)⟩,
                      ⟨some 55, .un .not (.t 54), some (53, true)⟩,
                      ⟨some 56, .mv (.t 55), some (53, true)⟩,
                      ⟨some 57, .mv (.t 3), some (56, false)⟩,
                      ⟨some 58, .mv (.t 6), some (56, false)⟩,
                      ⟨some 59, .bin .eql (.t 57) (.t 58), some (56, false)⟩,
                      ⟨some 60, .mv (.t 59), some (56, false)⟩,
                      ⟨some 61, .mv (.t 4), some (60, true)⟩,
                      ⟨some 62, .mv (.t 7), some (60, true)⟩,
                      ⟨some 63, .bin .eql (.t 61) (.t 62), some (60, true)⟩,
                      ⟨some 64, .pick (.t 60) (.t 63) (.k (.bool false)), some (56, false)⟩,
                      ⟨some 65, .pick (.t 56) (.k (.bool true)) (.t 64), some (53, true)⟩,
                      ⟨some 66, .pick (.t 53) (.t 65) (.k (.bool false)), none⟩,
                      ⟨some 67, .mv (.t 66), none⟩,
                      ⟨some 68, .mv (.t 10), some (67, true)⟩,
                      ⟨some 69, .mv (.t 12), some (67, true)⟩,
                      ⟨some 70, .eqB false (.t 68) (.t 69), some (67, true)⟩,
                      ⟨some 71, .pick (.t 67) (.t 70) (.k (.bool false)), none⟩,
                      ⟨some 72, .mv (.t 71), none⟩,
                      ⟨some 73, .mv (.t 10), some (72, true)⟩,
                      ⟨some 74, .un .not (.t 73), some (72, true)⟩,
                      ⟨some 75, .mv (.t 74), some (72, true)⟩,
                      ⟨some 76, .mv (.t 9), some (75, false)⟩,
                      ⟨some 77, .mv (.t 11), some (75, false)⟩,
                      ⟨some 78, .bin .eql (.t 76) (.t 77), some (75, false)⟩,
                      ⟨some 79, .pick (.t 75) (.k (.bool true)) (.t 78), some (72, true)⟩,
                      ⟨some 80, .pick (.t 72) (.t 79) (.k (.bool false)), none⟩,
                      ⟨some 81, .mv (.t 80), none⟩,
                      ⟨some 82, .call 11 [], some (81, true)⟩,
                      ⟨some 83, .pick (.t 81) (.t 82) (.k (.bool false)), none⟩,
                      ⟨some 2, .mv (.t 83), none⟩] [2] [] [[], [43], [0], [45], [44, 46], [47], [], [8], [49, 50], [48, 51], [52], [5], [54], [55], [3], [6], [57, 58], [59], [4], [7], [61, 62], [60, 63], [56, 64], [53, 65], [66], [], [12], [68, 69], [67, 70], [71], [10], [73], [74], [9], [11], [76, 77], [75, 78], [72, 79], [80], [], [81, 82]])
                    .ret)))))))),
  [.t 2]⟩

def l_laws_FnDWords : Lay := { rg := [(0, ([0], [])), (1, ([0, 15], [])), (2, ([2], [])), (3, ([0, 19], [17])), (4, ([2], [])), (5, ([0, 3, 4, 5], [])), (6, ([0, 3, 4, 5, 6, 7, 8], [])), (7, ([0, 3, 4, 5, 6, 7, 8, 9, 10], [])), (8, ([0, 3, 4, 5, 6, 7, 8, 9, 10, 11, 12], [])), (9, ([2], []))], dd := [(1, [[], [13]]), (3, [[], [16], [17]]), (5, [[], [22], [23], [], [], [21], [24], [25]]), (6, [[], [28], [29], [], [], [27], [30], [31]]), (7, [[], [34], [35], [], [33], [36]]), (8, [[], [39], [40], [], [38], [41]]), (9, [[], [43], [0], [45], [44, 46], [47], [], [8], [49, 50], [48, 51], [52], [5], [54], [55], [3], [6], [57, 58], [59], [4], [7], [61, 62], [60, 63], [56, 64], [53, 65], [66], [], [12], [68, 69], [67, 70], [71], [10], [73], [74], [9], [11], [76, 77], [75, 78], [72, 79], [80], [], [81, 82]])] }

end Wax

/- FnDWords (1): forms and parts. -/
namespace Wax
open Go (IntKind)

def cut2 (c : Int) (s : List UInt8) : List (List UInt8) := match cutAt c s with | none => [s] | some p => [p.1, p.2]

def con_zzCut2 : List AV → Option AV
  | [.str s, .int .u8 c] => if s.length < mid then some (.sl 1 (strsA (cut2 c s))) else none
  | _ => none

theorem ok_zzCut2 (Γ : Gam) : ∀ args r, con_zzCut2 args = some r → runs Γ c_dkim_zzCut2 args (fun v => v = r) := by
  intro args r h
  simp only [con_zzCut2] at h
  split at h <;> (try simp at h; done)
  rename_i s c
  obtain ⟨hs, rfl⟩ := ite_some h
  clear h
  simp only [mid] at hs
  simp -implicitDefEqProofs [c_dkim_zzCut2]
  refine awp_loop2 (σ := List UInt8 × List UInt8) (fun p => ⟨[(0, .str s), (1, .int .u8 c), (5, .int .i64 p.1.length)], []⟩) (fun p => s = p.1 ++ p.2 ∧ noB c p.1) (fun p => p.2.length) ([], s) (by simp) (by simp [noB]) ?_
  rintro ⟨pre, post⟩ ⟨hs1, hs2⟩ LQ hLQ
  simp only at hs1 hs2
  subst hs1
  cases post with
  | nil =>
    have e : cutAt c pre = none := by have := cutAt_app c pre [] hs2; simpa [cutAt] using this
    simp -implicitDefEqProofs [b_dkim_zzCut2_1, t_dkim_zzCut2_2, cut2, e]
  | cons x post =>
    simp at hs
    have ew : IntKind.i64.wrap ((pre.length : Int) + 1) = (pre.length : Int) + 1 := wrap64 (by omega) (by omega)
    have hlt : (pre.length : Int) < (pre.length : Int) + ((post.length : Int) + 1) := by omega
    by_cases he : (x.toNat : Int) = c
    · have e1 : (0 : Int) ≤ (pre.length : Int) + 1 ∧ (pre.length : Int) + 1 ≤ (pre.length : Int) + ((post.length : Int) + 1) := by omega
      have e2 : ((pre.length : Int) + 1).toNat = pre.length + 1 := by omega
      simp -implicitDefEqProofs [b_dkim_zzCut2_1, ew, cut2, cutAt_app _ _ _ hs2, cutAt, e1, e2, he]
      omega
    · simp -implicitDefEqProofs [b_dkim_zzCut2_1, ew, he, hlt]
      refine hLQ (pre ++ [x], post) ⟨by simp, ?_⟩ (by simp) _ (by simp)
      intro y hy
      simp at hy
      rcases hy with hy | rfl
      · exact hs2 y hy
      · exact he

/-- What forms a value says. -/
def pcan (t : List UInt8) : List UInt8 × List UInt8 := match cutAt 47 t with
  | none => (if t = [] then simpleB else t, simpleB)
  | some p => (if p.1 = [] then simpleB else p.1, p.2)

def con_parseCan : List AV → Option AV
  | [.str s] => if s.length < mid ∧ ascii s = true then some (.tup [.str (pcan (stripS s)).1, .str (pcan (stripS s)).2]) else none
  | _ => none

theorem stripS_length (s : List UInt8) : (stripS s).length ≤ s.length := List.length_filter_le _ _
theorem stripD_length (s : List UInt8) : (stripD s).length ≤ s.length := List.length_filter_le _ _

theorem litS : ([115, 105, 109, 112, 108, 101] : List UInt8) = simpleB := rfl
theorem litR : ([114, 101, 108, 97, 120, 101, 100] : List UInt8) = relaxedB := rfl

theorem ok_parseCan (Γ : Gam) (h26 : Γ.fn 26 = con_stripWhitespace) (h57 : Γ.fn 57 = con_zzCut2) : ∀ args r, con_parseCan args = some r → runs Γ c_dkim_parseCanonicalization args (fun v => v = r) := by
  intro args r h
  simp only [con_parseCan] at h
  split at h <;> (try simp at h; done)
  rename_i s
  obtain ⟨⟨hs, ha⟩, rfl⟩ := ite_some h
  clear h
  have k26 : con_stripWhitespace [.str s] = some (.str (stripS s)) := if_pos ⟨hs, ha⟩
  have hl := stripS_length s
  have k57 : con_zzCut2 [.str (stripS s), .int .u8 47] = some (.sl 1 (strsA (cut2 47 (stripS s)))) := if_pos (by omega)
  generalize stripS s = t at *
  cases hc : cutAt 47 t with
  | none =>
    by_cases ht : t = []
    · subst ht
      simp -implicitDefEqProofs [c_dkim_parseCanonicalization, acall, h26, k26, h57, k57, cut2, hc, pcan, litS]
    · simp -implicitDefEqProofs [c_dkim_parseCanonicalization, acall, h26, k26, h57, k57, cut2, hc, pcan, ht, litS]
  | some p =>
    obtain ⟨a, b⟩ := p
    by_cases ht : a = []
    · subst ht
      simp -implicitDefEqProofs [c_dkim_parseCanonicalization, acall, h26, k26, h57, k57, cut2, hc, pcan, litS]
    · simp -implicitDefEqProofs [c_dkim_parseCanonicalization, acall, h26, k26, h57, k57, cut2, hc, pcan, ht, litS]

theorem ok_Forms (Γ : Gam) (h58 : Γ.fn 58 = con_parseCan) : ∀ args r, con_parseCan args = some r → runs Γ c_dkim_Forms args (fun v => v = r) := by
  intro args r h
  have h' := h
  simp only [con_parseCan] at h
  split at h <;> (try simp at h; done)
  obtain ⟨_, rfl⟩ := ite_some h
  simp -implicitDefEqProofs [c_dkim_Forms, acall, h58, h']

def known (x : List UInt8) : Bool := decide (x = simpleB) || decide (x = relaxedB)
def formsV (p : List UInt8 × List UInt8) : AV := .tup [.str p.1, .str p.2, .bool (known p.1 && known p.2)]

theorem canonV_nil (f : List UInt8) : ∃ t, canonV f [] = .tup [.str t, .bool (known f)] := by
  by_cases f1 : f = simpleB
  · subst f1; exact ⟨[], by simp [canonV, known]⟩
  · by_cases f2 : f = relaxedB
    · subst f2; exact ⟨relaxedOf [], by simp [canonV, known, rel_ne]⟩
    · exact ⟨[], by simp [canonV, known, f1, f2]⟩

def con_DForms : List AV → Option AV
  | [.str s] => if s.length < mid ∧ ascii s = true then some (formsV (pcan (stripS s))) else none
  | _ => none

theorem ok_DForms (Γ : Gam) (h13 : Γ.fn 13 = con_CanonicalHeader) (h59 : Γ.fn 59 = con_parseCan) : ∀ args r, con_DForms args = some r → runs Γ c_impl_DForms args (fun v => v = r) := by
  intro args r h
  simp only [con_DForms] at h
  split at h <;> (try simp at h; done)
  rename_i s
  obtain ⟨hh, rfl⟩ := ite_some h
  clear h
  have k59 : con_parseCan [.str s] = some (.tup [.str (pcan (stripS s)).1, .str (pcan (stripS s)).2]) := if_pos hh
  generalize pcan (stripS s) = p at *
  obtain ⟨a, b⟩ := p
  have kr : relOk [] := ⟨by simp [mid], by simp [plain], by simp [cutAt]⟩
  have ka := con_CanonicalHeader_eq (form := a) kr
  have kb := con_CanonicalHeader_eq (form := b) kr
  obtain ⟨ta, ea⟩ := canonV_nil a
  obtain ⟨tb, eb⟩ := canonV_nil b
  rw [ea] at ka
  rw [eb] at kb
  cases hka : known a <;> rw [hka] at ka <;> simp -implicitDefEqProofs [c_impl_DForms, acall, h59, k59, h13, ka, kb, formsV, hka]

def con_known : List AV → Option AV
  | [.str s] => some (.bool (known s))
  | _ => none

theorem ok_known (Γ : Gam) : ∀ args r, con_known args = some r → runs Γ c_spec_DFormsOf_1 args (fun v => v = r) := by
  intro args r h
  simp only [con_known] at h
  split at h <;> (try simp at h; done)
  rename_i s
  simp at h
  subst h
  by_cases h1 : s = simpleB
  · subst h1; simp -implicitDefEqProofs [c_spec_DFormsOf_1, known, litS, litR]
  · simp -implicitDefEqProofs [c_spec_DFormsOf_1, known, litS, litR, h1]

def con_DFormsOf : List AV → Option AV
  | [.str s] => if s.length < mid then some (formsV (pcan (stripD s))) else none
  | _ => none

theorem ok_DFormsOf (Γ : Gam) (h2 : Γ.fn 2 = con_dCut) (h27 : Γ.fn 27 = con_DStrip) (h60 : Γ.fn 60 = con_known) : ∀ args r, con_DFormsOf args = some r → runs Γ c_spec_DFormsOf args (fun v => v = r) := by
  intro args r h
  simp only [con_DFormsOf] at h
  split at h <;> (try simp at h; done)
  rename_i s
  obtain ⟨hs, rfl⟩ := ite_some h
  clear h
  have k27 : con_DStrip [.str s] = some (.str (stripD s)) := if_pos hs
  have hl := stripD_length s
  have k2 : con_dCut [.str (stripD s), .int .u8 47] = some (cutV 47 (stripD s)) := if_pos (by simp only [mid] at hs; simp only [big]; omega)
  generalize stripD s = t at *
  have k60 : ∀ x, con_known [.str x] = some (.bool (known x)) := fun x => rfl
  have ks : known simpleB = true := by simp [known]
  cases hc : cutAt 47 t with
  | none =>
    by_cases ht : t = []
    · subst ht
      simp -implicitDefEqProofs [c_spec_DFormsOf, acall, h27, k27, h2, k2, cutV, hc, pcan, formsV, h60, k60, ks, litS]
    · cases hk : known t <;> simp -implicitDefEqProofs [c_spec_DFormsOf, acall, h27, k27, h2, k2, cutV, hc, pcan, ht, formsV, h60, k60, ks, hk, litS]
  | some p =>
    obtain ⟨a, b⟩ := p
    by_cases ht : a = []
    · subst ht
      simp -implicitDefEqProofs [c_spec_DFormsOf, acall, h27, k27, h2, k2, cutV, hc, pcan, formsV, h60, k60, ks, litS]
    · cases hk : known a <;> simp -implicitDefEqProofs [c_spec_DFormsOf, acall, h27, k27, h2, k2, cutV, hc, pcan, ht, formsV, h60, k60, ks, hk, litS]

def con_DParts : List AV → Option AV
  | [.str s] => if s.length < mid then some (.sl 1 (strsA (splitB 58 (stripD s)))) else none
  | _ => none

theorem ok_DParts (Γ : Gam) (h27 : Γ.fn 27 = con_DStrip) (h54 : Γ.fn 54 = con_DSplit) : ∀ args r, con_DParts args = some r → runs Γ c_spec_DParts args (fun v => v = r) := by
  intro args r h
  simp only [con_DParts] at h
  split at h <;> (try simp at h; done)
  rename_i s
  obtain ⟨hs, rfl⟩ := ite_some h
  clear h
  have k27 : con_DStrip [.str s] = some (.str (stripD s)) := if_pos hs
  have hl := stripD_length s
  have k54 : con_DSplit [.str (stripD s), .int .u8 58] = some (.sl 1 (strsA (splitB 58 (stripD s)))) := if_pos ⟨by omega, by omega, by omega⟩
  simp -implicitDefEqProofs [c_spec_DParts, acall, h27, k27, h54, k54]
end Wax

/- FnDWords (2): numbers. -/
namespace Wax
open Go (IntKind)

def con_Unix : List AV → Option AV
  | [.int .i64 n] => some (.agg [.int .i64 n, .bool true])
  | _ => none

theorem ok_Unix (Γ : Gam) : ∀ args r, con_Unix args = some r → runs Γ c_dkim_Unix args (fun v => v = r) := by
  intro args r h
  simp only [con_Unix] at h
  split at h <;> (try simp at h; done)
  simp only [Option.some.injEq] at h
  subst h
  simp -implicitDefEqProofs [c_dkim_Unix]

def timeV : Go.Lib.NumEnd Int → AV
  | .ok v => .tup [.agg [.int .i64 v, .bool true], .nilI]
  | _ => .tup [.agg [.int .i64 0, .bool false], .ifc 4 .junk]

def con_parseTime : List AV → Option AV
  | [.str s] => if s.length < mid ∧ ascii s = true then some (timeV (Go.Lib.atoiAll (stripS s))) else none
  | _ => none

theorem ok_parseTime (Γ : Gam) (h26 : Γ.fn 26 = con_stripWhitespace) (h61 : Γ.fn 61 = con_ParseInt) (h62 : Γ.fn 62 = con_Unix) : ∀ args r, con_parseTime args = some r → runs Γ c_dkim_parseTime args (fun v => v = r) := by
  intro args r h
  simp only [con_parseTime] at h
  split at h <;> (try simp at h; done)
  rename_i s
  obtain ⟨⟨hs, ha⟩, rfl⟩ := ite_some h
  clear h
  have k26 : con_stripWhitespace [.str s] = some (.str (stripS s)) := if_pos ⟨hs, ha⟩
  have hl := stripS_length s
  have k61 : con_ParseInt [.str (stripS s), .int .i64 10, .int .i64 64] = some (numV (Go.Lib.atoiAll (stripS s))) := if_pos ⟨by omega, rfl, rfl⟩
  generalize Go.Lib.atoiAll (stripS s) = e at *
  cases e with
  | ok v => simp -implicitDefEqProofs [c_dkim_parseTime, acall, h26, k26, h61, k61, numV, timeV, h62, con_Unix]
  | _ => simp -implicitDefEqProofs [c_dkim_parseTime, acall, h26, k26, h61, k61, numV, timeV]

theorem ok_Number (Γ : Gam) (h63 : Γ.fn 63 = con_parseTime) : ∀ args r, con_parseTime args = some r → runs Γ c_dkim_Number args (fun v => v = r) := by
  intro args r h
  have h' := h
  simp only [con_parseTime] at h
  split at h <;> (try simp at h; done)
  rename_i s
  obtain ⟨_, rfl⟩ := ite_some h
  clear h
  generalize Go.Lib.atoiAll (stripS s) = e at *
  cases e <;> simp only [timeV] at h' <;> simp -implicitDefEqProofs [c_dkim_Number, acall, h63, h', timeV]

def con_TimeUnix : List AV → Option AV
  | [.agg [.int .i64 n, .bool b]] => some (.int .i64 n)
  | _ => none

theorem ok_TimeUnix (Γ : Gam) : ∀ args r, con_TimeUnix args = some r → runs Γ c_dkim_Time_Unix args (fun v => v = r) := by
  intro args r h
  simp only [con_TimeUnix] at h
  split at h <;> (try simp at h; done)
  simp only [Option.some.injEq] at h
  subst h
  simp -implicitDefEqProofs [c_dkim_Time_Unix]

def wholeV : Option Int → AV
  | some v => .tup [.int .i64 v, .bool true]
  | none => .tup [.int .i64 0, .bool false]

def endO : Go.Lib.NumEnd Int → Option Int
  | .ok v => some v
  | _ => none

def con_DNumber : List AV → Option AV
  | [.str s] => if s.length < mid ∧ ascii s = true then some (wholeV (endO (Go.Lib.atoiAll (stripS s)))) else none
  | _ => none

theorem ok_DNumber (Γ : Gam) (h64 : Γ.fn 64 = con_parseTime) (h65 : Γ.fn 65 = con_TimeUnix) : ∀ args r, con_DNumber args = some r → runs Γ c_impl_DNumber args (fun v => v = r) := by
  intro args r h
  simp only [con_DNumber] at h
  split at h <;> (try simp at h; done)
  rename_i s
  obtain ⟨hh, rfl⟩ := ite_some h
  clear h
  have k64 : con_parseTime [.str s] = some (timeV (Go.Lib.atoiAll (stripS s))) := if_pos hh
  generalize Go.Lib.atoiAll (stripS s) = e at *
  cases e <;> simp only [timeV] at k64 <;> simp -implicitDefEqProofs [c_impl_DNumber, acall, h64, k64, endO, wholeV, h65, con_TimeUnix]

/-! ### the reference's reading of a number -/

def wloop (n : Nat) : List UInt8 → Option Nat
  | [] => some n
  | c :: r => if 48 ≤ c.toNat ∧ c.toNat ≤ 57 ∧ n ≤ (9223372036854775808 - (c.toNat - 48)) / 10 then wloop (n * 10 + (c.toNat - 48)) r else none

def signOff (t : List UInt8) : List UInt8 := match t with
  | [] => []
  | c :: r => if c.toNat = 45 ∨ c.toNat = 43 then r else c :: r
def minusB (t : List UInt8) : Bool := match t with
  | [] => false
  | c :: _ => decide (c.toNat = 45)

def wholeS (t : List UInt8) : Option Int := match wloop 0 (signOff t) with
  | none => none
  | some n => if signOff t = [] ∨ (minusB t = false ∧ n = 9223372036854775808) then none else some (if minusB t = true then -(n : Int) else n)

theorem parse_ge : ∀ (l : List UInt8) (acc u : Nat), Go.Lib.parseUint10 acc l = .ok u → acc ≤ u
  | [], acc, u, h => by simp only [Go.Lib.parseUint10] at h; injection h with h; omega
  | c :: r, acc, u, h => by
    simp only [Go.Lib.parseUint10] at h
    split at h
    · split at h
      · cases h
      · split at h
        · cases h
        · have := parse_ge r _ u h; omega
    · cases h

theorem wloop_spec : ∀ (l : List UInt8) (acc : Nat), acc ≤ 9223372036854775808 → (∀ u, wloop acc l = some u ↔ (Go.Lib.parseUint10 acc l = .ok u ∧ u ≤ 9223372036854775808))
  | [], acc, ha, u => by
    simp only [wloop, Go.Lib.parseUint10, Option.some.injEq, Go.Lib.NumEnd.ok.injEq]
    constructor
    · rintro rfl; exact ⟨rfl, ha⟩
    · exact fun h => h.1
  | c :: r, acc, ha, u => by
    simp only [wloop, Go.Lib.parseUint10]
    by_cases hd : 48 ≤ c.toNat ∧ c.toNat ≤ 57
    · rw [if_pos hd]
      by_cases hn : acc ≤ (9223372036854775808 - (c.toNat - 48)) / 10
      · have h1 : acc * 10 + (c.toNat - 48) ≤ 9223372036854775808 := by omega
        rw [if_pos ⟨hd.1, hd.2, hn⟩, if_neg (by omega), if_neg (by omega)]
        exact wloop_spec r _ h1 u
      · rw [if_neg (fun h => hn h.2.2)]
        constructor
        · intro h; simp at h
        · rintro ⟨h, hu⟩
          split at h
          · cases h
          · split at h
            · cases h
            · have := parse_ge r _ u h; omega
    · rw [if_neg hd, if_neg (fun h => hd ⟨h.1, h.2.1⟩)]
      simp

theorem wloop_le {l : List UInt8} {u : Nat} (h : wloop 0 l = some u) : u ≤ 9223372036854775808 := ((wloop_spec l 0 (by omega) u).1 h).2

theorem whole_law (t : List UInt8) : wholeS t = endO (Go.Lib.atoiAll t) := by
  cases t with
  | nil => simp [wholeS, wloop, signOff, Go.Lib.atoiAll, endO]
  | cons c r =>
    simp only [wholeS, Go.Lib.atoiAll, Go.Lib.parseMag]
    have e : (if c.toNat = 43 ∨ c.toNat = 45 then r else c :: r) = signOff (c :: r) := by
      simp only [signOff]
      by_cases h : c.toNat = 43 ∨ c.toNat = 45
      · rw [if_pos h, if_pos h.symm]
      · rw [if_neg h, if_neg (fun g => h g.symm)]
    rw [e]
    have hm : minusB (c :: r) = decide (c.toNat = 45) := rfl
    rw [hm]
    generalize signOff (c :: r) = l
    have W := wloop_spec l 0 (by omega)
    by_cases hl : l = []
    · subst hl; simp [wloop, endO]
    · simp only [hl, if_false, false_or]
      cases hw : wloop 0 l with
      | none =>
        simp only
        cases hp : Go.Lib.parseUint10 0 l with
        | ok u =>
          have hu : ¬ u ≤ 9223372036854775808 := fun h => by rw [(W u).2 ⟨hp, h⟩] at hw; simp at hw
          simp only
          by_cases hc : c.toNat = 45
          · rw [if_neg (fun h => h.1 hc), if_pos ⟨hc, by omega⟩]; rfl
          · rw [if_pos ⟨hc, by omega⟩]; rfl
        | _ => rfl
      | some u =>
        obtain ⟨hp, hu⟩ := (W u).1 hw
        simp only [hp]
        by_cases hc : c.toNat = 45
        · have h1 : ¬ (9223372036854775808 < u) := by omega
          simp [hc, h1, endO]
        · by_cases h2 : u = 9223372036854775808
          · simp [hc, h2, endO]
          · have h3 : ¬ 9223372036854775808 ≤ u := by omega
            simp [hc, h2, h3, endO]
end Wax

/- FnDWords (3): the reference's number, walked. -/
namespace Wax
open Go (IntKind)

def con_DWhole : List AV → Option AV
  | [.str s] => if s.length < mid then some (wholeV (wholeS (stripD s))) else none
  | _ => none

theorem u64_in {x : Int} (h1 : 0 ≤ x) (h2 : x < 18446744073709551616) : IntKind.u64.wrap x = x := by
  simp [IntKind.wrap, IntKind.bits, IntKind.signed]
  omega

set_option maxRecDepth 100000 in
theorem ok_DWhole (Γ : Gam) (h27 : Γ.fn 27 = con_DStrip) : ∀ args r, con_DWhole args = some r → runs Γ c_spec_DWhole args (fun v => v = r) := by
  intro args r h
  simp only [con_DWhole] at h
  split at h <;> (try simp at h; done)
  rename_i s
  obtain ⟨hs, rfl⟩ := ite_some h
  clear h
  have k27 : con_DStrip [.str s] = some (.str (stripD s)) := if_pos hs
  have hl := stripD_length s
  generalize stripD s = t at *
  simp only [mid] at hs
  have loop : ∀ (l : List UInt8) (Q : APost), l.length < 1099511627776 → (wloop 0 l = none → Q .ret ⟨[(2, .int .i64 0), (3, .bool false)], []⟩) →
      (∀ n, wloop 0 l = some n → awp Γ t_spec_DWhole_2 Q ⟨[(4, .str l), (5, .bool (minusB t)), (6, .int .u64 n), (7, .int .i64 l.length), (35, .bool false)], []⟩) →
      awp Γ (.loop [4, 5, 6, 7] b_spec_DWhole_1) (blockQ 0 (thenQ (awp Γ t_spec_DWhole_2 Q) Q)) ⟨[(4, .str l), (5, .bool (minusB t)), (6, .int .u64 0), (7, .int .i64 0)], []⟩ := by
    intro l Q hll hno hyes
    refine awp_loop2 (σ := List UInt8 × List UInt8 × Nat) (fun p => ⟨[(4, .str l), (5, .bool (minusB t)), (6, .int .u64 p.2.2), (7, .int .i64 p.1.length)], []⟩)
      (fun p => l = p.1 ++ p.2.1 ∧ wloop 0 l = wloop p.2.2 p.2.1 ∧ p.2.2 ≤ 9223372036854775808) (fun p => p.2.1.length) ([], l, 0) (by simp) (by simp) ?_
    rintro ⟨pre, post, n⟩ ⟨e1, e2, e3⟩ LQ hLQ
    simp only at e1 e2 e3
    cases post with
    | nil =>
      have hy := hyes n (by rw [e2]; rfl)
      simp only [List.append_nil] at e1
      subst e1
      simp -implicitDefEqProofs [b_spec_DWhole_1]
      exact hy
    | cons c post =>
      have hlen : l.length = pre.length + (post.length + 1) := by rw [e1]; simp
      have hlt : (pre.length : Int) < l.length := by omega
      have g0 : l[pre.length]? = some c := by rw [e1]; exact get_mid rfl
      have ew : IntKind.i64.wrap ((pre.length : Int) + 1) = (pre.length : Int) + 1 := wrap64 (by omega) (by omega)
      have hcb : c.toNat < 256 := c.toNat_lt
      have ec : IntKind.u64.wrap (c.toNat : Int) = c.toNat := u64_in (by omega) (by omega)
      simp only [wloop] at e2
      by_cases h1 : 48 ≤ c.toNat
      · have ed : IntKind.u64.wrap ((c.toNat : Int) - 48) = (c.toNat : Int) - 48 := u64_in (by omega) (by omega)
        by_cases h2 : c.toNat ≤ 57
        · have ef : IntKind.u64.wrap (9223372036854775808 - ((c.toNat : Int) - 48)) = 9223372036854775808 - ((c.toNat : Int) - 48) := u64_in (by omega) (by omega)
          have eg : IntKind.u64.wrap ((9223372036854775808 - ((c.toNat : Int) - 48)).tdiv 10) = (((9223372036854775808 - (c.toNat - 48)) / 10 : Nat) : Int) := by
            have : (9223372036854775808 - ((c.toNat : Int) - 48)).tdiv 10 = (((9223372036854775808 - (c.toNat - 48)) / 10 : Nat) : Int) := by
              rw [Int.tdiv_eq_ediv_of_nonneg (by omega)]; omega
            rw [this]; exact u64_in (by omega) (by omega)
          have n1 : ¬ ((c.toNat : Int) < 48) := by omega
          have n2 : ¬ ((57 : Int) < c.toNat) := by omega
          by_cases h3 : n ≤ (9223372036854775808 - (c.toNat - 48)) / 10
          · rw [if_pos ⟨h1, h2, h3⟩] at e2
            have n3 : ¬ ((((9223372036854775808 - (c.toNat - 48)) / 10 : Nat) : Int) < (n : Int)) := by omega
            have eh : IntKind.u64.wrap ((n : Int) * 10) = (n : Int) * 10 := u64_in (by omega) (by omega)
            have ei : IntKind.u64.wrap ((n : Int) * 10 + ((c.toNat : Int) - 48)) = ((n * 10 + (c.toNat - 48) : Nat) : Int) := by
              rw [u64_in (by omega) (by omega)]; omega
            simp -implicitDefEqProofs [b_spec_DWhole_1, hlt, g0, ew, ec, ed, ef, eg, n1, n2, n3, eh, ei]
            exact ⟨fun hh => by omega, fun _ => hLQ (pre ++ [c], post, n * 10 + (c.toNat - 48)) ⟨by simp [e1], e2, by simp only; omega⟩ (by simp) _ (by simp)⟩
          · rw [if_neg (fun h => h3 h.2.2)] at e2
            have hn := hno e2
            have n3 : ((((9223372036854775808 - (c.toNat - 48)) / 10 : Nat) : Int) < (n : Int)) := by omega
            simp -implicitDefEqProofs [b_spec_DWhole_1, hlt, g0, ew, ec, ed, ef, eg, n1, n2, n3]
            exact ⟨fun _ => hn, fun hh => by omega⟩
        · rw [if_neg (fun h => h2 h.2.1)] at e2
          have hn := hno e2
          have n1 : ¬ ((c.toNat : Int) < 48) := by omega
          have n2 : ((57 : Int) < c.toNat) := by omega
          simp -implicitDefEqProofs [b_spec_DWhole_1, hlt, g0, ew, ec, ed, n1, n2]
          exact hn
      · rw [if_neg (fun h => h1 h.1)] at e2
        have hn := hno e2
        have n1 : ((c.toNat : Int) < 48) := by omega
        simp -implicitDefEqProofs [b_spec_DWhole_1, hlt, g0, ew, ec, n1]
        exact hn
  have fin : ∀ l : List UInt8, l = signOff t → l.length < 1099511627776 → awp Γ (.loop [4, 5, 6, 7] b_spec_DWhole_1) (blockQ 0 (thenQ (awp Γ t_spec_DWhole_2 (finQ [.t 2, .t 3] fun v => v = wholeV (wholeS t))) (finQ [.t 2, .t 3] fun v => v = wholeV (wholeS t)))) ⟨[(4, .str l), (5, .bool (minusB t)), (6, .int .u64 0), (7, .int .i64 0)], []⟩ := by
    intro l hl1 hl2
    refine loop l _ hl2 ?_ ?_
    · intro hn
      simp [wholeS, ← hl1, hn, wholeV]
    · intro n hn
      have hn2 := wloop_le hn
      have hw : wholeS t = if l = [] ∨ (minusB t = false ∧ n = 9223372036854775808) then none else some (if minusB t = true then -(n : Int) else n) := by
        simp only [wholeS, ← hl1, hn]
      rw [hw]
      by_cases h0 : l = []
      · subst h0
        simp -implicitDefEqProofs [t_spec_DWhole_2, wholeV]
      · cases hmb : minusB t with
        | true =>
          have e1 : IntKind.i64.wrap (IntKind.u64.wrap (0 - (n : Int))) = -(n : Int) := by
            simp [IntKind.wrap, IntKind.bits, IntKind.signed]
            omega
          have e2 : IntKind.i64.wrap (IntKind.u64.wrap (-(n : Int))) = -(n : Int) := by
            simp [IntKind.wrap, IntKind.bits, IntKind.signed]
            omega
          simp -implicitDefEqProofs [t_spec_DWhole_2, wholeV, h0, e1, e2]
        | false =>
          by_cases h9 : n = 9223372036854775808
          · subst h9
            simp -implicitDefEqProofs [t_spec_DWhole_2, wholeV, h0]
          · have h8 : ¬ ((n : Int) = 9223372036854775808) := by omega
            have e1 : IntKind.i64.wrap (n : Int) = n := wrap64 (by omega) (by omega)
            simp -implicitDefEqProofs [t_spec_DWhole_2, wholeV, h0, h8, h9, e1]
  cases t with
  | nil =>
    have f := fin [] rfl (by simp)
    simp only [minusB] at f
    simp -implicitDefEqProofs [c_spec_DWhole, acall, h27, k27]
    exact f
  | cons c r =>
    simp at hl
    by_cases c1 : c.toNat = 45
    · have f := fin r (by simp [signOff, c1]) (by omega)
      simp only [minusB, c1, decide_true] at f
      have c1' : (c.toNat : Int) = 45 := by omega
      simp -implicitDefEqProofs [c_spec_DWhole, acall, h27, k27, c1']
      first | exact f | (refine ⟨by omega, ?_⟩; exact f)
    · have c1' : ¬ (c.toNat : Int) = 45 := by omega
      by_cases c2 : c.toNat = 43
      · have f := fin r (by simp [signOff, c2]) (by omega)
        simp only [minusB, c1, decide_false] at f
        have c2' : (c.toNat : Int) = 43 := by omega
        simp -implicitDefEqProofs [c_spec_DWhole, acall, h27, k27, c1', c2']
        first | exact f | (refine ⟨by omega, ?_⟩; exact f)
      · have f := fin (c :: r) (by simp [signOff, c1, c2]) (by simp; omega)
        simp only [minusB, c1, decide_false] at f
        have c2' : ¬ (c.toNat : Int) = 43 := by omega
        simp -implicitDefEqProofs [c_spec_DWhole, acall, h27, k27, c1', c2']
        exact f
end Wax

/- FnDWords (4): the statement. -/
namespace Wax
open Go (IntKind)

def con_FnDWords : List AV → Option AV
  | [.str s] => if s.length < 9223372036854775808 then some (.bool true) else none
  | _ => none

theorem strip_plain {s : List UInt8} (h : plain s = true) : stripS s = stripD s := by
  refine List.filter_congr fun x hx => ?_
  simp only [plain, List.all_eq_true] at h
  rw [isSp_ws (h x hx)]

theorem stripD_cons (x : UInt8) (r : List UInt8) : stripD (x :: r) = if isWs x.toNat = true then stripD r else x :: stripD r := by
  simp only [stripD, List.filter_cons]
  cases isWs x.toNat <;> rfl

theorem split_strip : ∀ (s : List UInt8), (splitB 58 s).map stripD = splitB 58 (stripD s)
  | [] => rfl
  | x :: r => by
    have ih := split_strip r
    rw [stripD_cons]
    by_cases hx : x = 58
    · subst hx
      have : isWs (58 : UInt8).toNat = false := by decide
      rw [this]
      simp only [splitB, if_true, List.map_cons, ih]
      rfl
    · simp only [splitB, if_neg hx]
      cases hc : splitB 58 r with
      | nil => exact absurd hc (splitB_ne 58 r)
      | cons h t =>
        rw [hc] at ih
        simp only [List.map_cons] at ih
        cases hw : isWs x.toNat with
        | true =>
          simp only [if_true, List.map_cons, stripD_cons, hw]
          exact ih
        | false =>
          simp only [List.map_cons, stripD_cons, hw, Bool.false_eq_true, if_false, splitB, if_neg hx, ← ih]

theorem ok_FnDWords (Γ : Gam) (h10 : Γ.fn 10 = con_dShort) (h11 : Γ.fn 11 = con_dAwake) (h7 : Γ.fn 7 = con_TagList) (h35 : Γ.fn 35 = con_dSameTexts) (h66 : Γ.fn 66 = con_DForms) (h67 : Γ.fn 67 = con_DFormsOf) (h68 : Γ.fn 68 = con_DNumber) (h69 : Γ.fn 69 = con_DWhole) (h70 : Γ.fn 70 = con_DParts) :
    ∀ args r, con_FnDWords args = some r → runs Γ c_laws_FnDWords args (fun v => v = r) := by
  intro args r h
  simp only [con_FnDWords] at h
  split at h <;> (try simp at h; done)
  rename_i s
  obtain ⟨hs, rfl⟩ := ite_some h
  clear h
  by_cases hl : (2147483647 : Int) < (s.length : Int)
  · simp -implicitDefEqProofs [c_laws_FnDWords, hl]
  have ds : con_dShort [.int .i64 500, .sl 1 [.str s]] = some (.bool (dShort 500 [s])) := by
    have : slStrs (.sl 1 [.str s]) = some [s] := by simp [slStrs, asStrs]
    simp only [con_dShort, this]
    exact if_pos ⟨by simp [big], by simp [big]; omega⟩
  cases hA : dShort 500 [s] with
  | false =>
    rw [hA] at ds
    simp -implicitDefEqProofs [c_laws_FnDWords, hl, acall, h10, ds, h11, con_dAwake]
  | true =>
    rw [hA] at ds
    obtain ⟨a1, _⟩ := dShort_all hA
    obtain ⟨a2, a3⟩ := a1 s (by simp)
    have ha := plain_ascii a2
    have hm : s.length < mid := by simp only [mid]; omega
    have e := strip_plain a2
    have k66 : con_DForms [.str s] = some (formsV (pcan (stripD s))) := by rw [← e]; exact if_pos ⟨hm, ha⟩
    have k67 : con_DFormsOf [.str s] = some (formsV (pcan (stripD s))) := if_pos hm
    have k68 : con_DNumber [.str s] = some (wholeV (wholeS (stripD s))) := by rw [whole_law, ← e]; exact if_pos ⟨hm, ha⟩
    have k69 : con_DWhole [.str s] = some (wholeV (wholeS (stripD s))) := if_pos hm
    have k7 : con_TagList [.str s] = some (.sl 1 (strsA (splitB 58 (stripD s)))) := by
      have : tagL s = splitB 58 (stripD s) := by
        rw [← split_strip, tagL]
        refine List.map_congr_left fun p hp => ?_
        refine strip_plain ?_
        have := splitB_sub 58 s p hp
        simp only [plain, List.all_eq_true] at a2 ⊢
        exact fun y hy => a2 y (this y hy)
      simp only [con_TagList, con_parseTagList]
      rw [if_pos ⟨hm, ha⟩, this]
    have k70 : con_DParts [.str s] = some (.sl 1 (strsA (splitB 58 (stripD s)))) := if_pos hm
    have hsl := splitB_length 58 (stripD s)
    have hsd := stripD_length s
    have hst : slStrs (.sl 1 (strsA (splitB 58 (stripD s)))) = some (splitB 58 (stripD s)) := by simp [slStrs]
    have k35 : con_dSameTexts [.sl 1 (strsA (splitB 58 (stripD s))), .sl 1 (strsA (splitB 58 (stripD s)))] = some (.bool true) := by
      simp only [con_dSameTexts, hst]
      rw [if_pos ⟨by simp only [mid]; omega, by simp only [mid]; omega⟩]
      simp
    generalize splitB 58 (stripD s) = P at *
    generalize pcan (stripD s) = q at *
    generalize wholeS (stripD s) = n at *
    obtain ⟨a, b⟩ := q
    simp only [formsV] at k66 k67
    cases hk : (known a && known b) <;> rw [hk] at k66 k67 <;> cases n <;> simp only [wholeV] at k68 k69 <;>
      simp -implicitDefEqProofs [c_laws_FnDWords, hl, acall, h10, ds, h11, con_dAwake, h66, k66, h67, k67, h68, k68, h69, k69, h7, k7, h70, k70, h35, k35]
end Wax

/- Functions as the abstract machine has them. -/
namespace Wax
open Go (IntKind)

/- spec.DRead -/
def f_spec_DRead_1 : SCode :=
  (.seq
    (.region [
      ⟨some 148, .mv (.t 4), none⟩,
      ⟨some 149, .call 84 [(.t 148), (.k (.str [110]))], none⟩,
      ⟨some 147, .mv (.t 149), none⟩,
      ⟨some 150, .extr (.t 147) 0, none⟩,
      ⟨some 151, .extr (.t 147) 1, none⟩,
      ⟨some 152, .fAddr 6 (.t 15), none⟩,
      ⟨none, .store 1 (.t 152) (.t 150), none⟩] [2, 15] [] [[4], [148], [149], [], [147, 151]])
    (.seq
      (.region [
        ⟨some 153, .load (some 9) (.t 15), none⟩,
        ⟨none, .store 9 (.t 2) (.t 153), none⟩,
        ⟨some 3, .mv (.k (.int .i64 0)), none⟩] [2, 3] [15] [[15], [153]])
      .ret))

def f_spec_DRead_2 : SCode :=
  (.seq
    (.seq
      (.region [
        ⟨some 139, .mv (.t 4), none⟩,
        ⟨some 140, .call 84 [(.t 139), (.k (.str [116]))], none⟩,
        ⟨some 138, .mv (.t 140), none⟩,
        ⟨some 141, .extr (.t 138) 0, none⟩,
        ⟨some 142, .extr (.t 138) 1, none⟩,
        ⟨some 19, .mv (.t 141), none⟩,
        ⟨some 20, .mv (.t 142), none⟩] [2, 4, 15, 19, 20] [] [[], [139], [140], [], [138], [141]])
      (.seq
        (.region [
          ⟨some 143, .mv (.t 20), none⟩] [2, 4, 15, 19, 143] [] [])
        (.cond (.t 143)
          (.region [
            ⟨some 144, .mv (.t 19), none⟩,
            ⟨some 145, .call 70 [(.t 144)], none⟩,
            ⟨some 146, .fAddr 5 (.t 15), none⟩,
            ⟨none, .store 1 (.t 146) (.t 145), none⟩] [2, 4, 15] [] [[19], [144]])
          .skip)))
    f_spec_DRead_1)

def f_spec_DRead_3 : SCode :=
  (.seq
    (.region [
      ⟨some 122, .mv (.t 4), none⟩,
      ⟨some 123, .call 84 [(.t 122), (.k (.str [115]))], none⟩,
      ⟨some 121, .mv (.t 123), none⟩,
      ⟨some 124, .extr (.t 121) 0, none⟩,
      ⟨some 125, .extr (.t 121) 1, none⟩,
      ⟨some 18, .mv (.t 124), none⟩,
      ⟨some 17, .mv (.t 125), none⟩] [2, 4, 15, 17, 18] [] [[], [122], [123], [], [121], [124]])
    (.seq
      (.region [
        ⟨some 126, .mv (.t 17), none⟩,
        ⟨some 127, .un .not (.t 126), none⟩,
        ⟨some 128, .fAddr 8 (.t 15), none⟩,
        ⟨none, .store 1 (.t 128) (.t 127), none⟩] [2, 4, 15, 17, 18] [] [[], [126]])
      (.seq
        (.seq
          (.region [
            ⟨some 129, .mv (.t 17), none⟩] [2, 4, 15, 18, 129] [] [])
          (.cond (.t 129)
            (.seq
              (.region [
                ⟨some 130, .mv (.t 18), none⟩,
                ⟨some 131, .call 70 [(.t 130)], none⟩,
                ⟨some 132, .fAddr 4 (.t 15), none⟩,
                ⟨none, .store 1 (.t 132) (.t 131), none⟩] [2, 4, 15] [] [[18], [130]])
              (.seq
                (.region [
                  ⟨some 133, .fAddr 4 (.t 15), none⟩,
                  ⟨some 134, .load none (.t 133), none⟩,
                  ⟨some 135, .call 87 [(.k (.str [42])), (.t 134)], none⟩] [2, 4, 15, 135] [] [[], [133]])
                (.cond (.t 135)
                  (.region [
                    ⟨some 136, .fAddr 8 (.t 15), none⟩,
                    ⟨none, .store 1 (.t 136) (.k (.bool true)), none⟩,
                    ⟨some 137, .fAddr 4 (.t 15), none⟩,
                    ⟨none, .store 1 (.t 137) (.k .nilS), none⟩] [2, 4, 15] [] [[], [136]])
                  .skip)))
            .skip))
        f_spec_DRead_2)))

def f_spec_DRead_4 : SCode :=
  (.seq
    (.seq
    (.region [
      ⟨some 102, .mv (.t 12), none⟩,
      ⟨some 103, .mv (.t 10), none⟩,
      ⟨some 104, .cStrBytes (.t 103), none⟩,
      ⟨some 105, .mv (.t 10), none⟩,
      ⟨some 106, .len 0 (.t 105), none⟩,
      ⟨some 107, .bin .mul (.k (.int .i64 8)) (.t 106), none⟩,
      ⟨some 108, .agg [(.str []), .nilS, (.int .i64 0), .nilS, .nilS, .nilS, (.str []), (.bool false), (.bool false)] [(0, 1, (.t 102)), (1, 1, (.t 104)), (2, 1, (.t 107))], none⟩,
      ⟨some 15, .alloc [(.str []), .nilS, (.int .i64 0), .nilS, .nilS, .nilS, (.str []), (.bool false), (.bool false)], none⟩,
      ⟨none, .store 9 (.t 15) (.t 108), none⟩] [2, 4, 15] [] [[12], [], [103], [10], [105], [106], [102, 104, 107]])
    (.ghost [.frz 104]))
    (.seq
      (.region [
        ⟨some 110, .mv (.t 4), none⟩,
        ⟨some 111, .call 84 [(.t 110), (.k (.str [104]))], none⟩,
        ⟨some 109, .mv (.t 111), none⟩,
        ⟨some 112, .extr (.t 109) 0, none⟩,
        ⟨some 113, .extr (.t 109) 1, none⟩,
        ⟨some 16, .mv (.t 112), none⟩,
        ⟨some 17, .mv (.t 113), none⟩] [2, 4, 15, 16, 17] [] [[], [110], [111], [], [109], [112]])
      (.seq
        (.region [
          ⟨some 114, .mv (.t 17), none⟩,
          ⟨some 115, .un .not (.t 114), none⟩,
          ⟨some 116, .fAddr 7 (.t 15), none⟩,
          ⟨none, .store 1 (.t 116) (.t 115), none⟩] [2, 4, 15, 16, 17] [] [[], [114]])
        (.seq
          (.seq
            (.region [
              ⟨some 117, .mv (.t 17), none⟩] [2, 4, 15, 16, 117] [] [])
            (.cond (.t 117)
              (.region [
                ⟨some 118, .mv (.t 16), none⟩,
                ⟨some 119, .call 70 [(.t 118)], none⟩,
                ⟨some 120, .fAddr 3 (.t 15), none⟩,
                ⟨none, .store 1 (.t 120) (.t 119), none⟩] [2, 4, 15] [] [[16], [118]])
              .skip))
          f_spec_DRead_3))))

def f_spec_DRead_5 : SCode :=
  (.seq
    (.region [
      ⟨some 63, .mv (.t 12), none⟩,
      ⟨some 64, .bin .eql (.t 63) (.k (.str [114, 115, 97])), none⟩,
      ⟨some 65, .mv (.t 64), none⟩,
      ⟨some 66, .mv (.t 10), some (65, true)⟩,
      ⟨some 67, .len 0 (.t 66), some (65, true)⟩,
      ⟨some 68, .bin .mul (.k (.int .i64 8)) (.t 67), some (65, true)⟩,
      ⟨some 69, .bin .lss (.t 68) (.k (.int .i64 1024)), some (65, true)⟩,
      ⟨some 70, .pick (.t 65) (.t 69) (.k (.bool false)), none⟩,
      ⟨some 71, .mv (.t 70), none⟩,
      ⟨some 72, .mv (.t 12), some (71, false)⟩,
      ⟨some 73, .bin .eql (.t 72) (.k (.str [101, 100, 50, 53, 53, 49, 57])), some (71, false)⟩,
      ⟨some 74, .mv (.t 73), some (71, false)⟩,
      ⟨some 75, .mv (.t 10), some (74, true)⟩,
      ⟨some 76, .len 0 (.t 75), some (74, true)⟩,
      ⟨some 77, .bin .neq (.t 76) (.k (.int .i64 32)), some (74, true)⟩,
      ⟨some 78, .pick (.t 74) (.t 77) (.k (.bool false)), some (71, false)⟩,
      ⟨some 79, .pick (.t 71) (.k (.bool true)) (.t 78), none⟩,
      ⟨some 14, .mv (.t 79), none⟩] [2, 4, 8, 9, 10, 11, 12, 14] [] [[], [63], [64], [], [66], [67], [68], [65, 69], [70], [], [72], [73], [], [75], [76], [74, 77], [71, 78]])
    (.seq
      (.seq
        (.region [
          ⟨some 80, .mv (.t 9), none⟩,
          ⟨some 81, .un .not (.t 80), none⟩,
          ⟨some 82, .mv (.t 81), none⟩,
          ⟨some 83, .mv (.t 8), some (82, false)⟩,
          ⟨some 84, .bin .eql (.t 83) (.k (.str [])), some (82, false)⟩,
          ⟨some 85, .pick (.t 82) (.k (.bool true)) (.t 84), none⟩,
          ⟨some 86, .mv (.t 85), none⟩,
          ⟨some 87, .mv (.t 11), some (86, false)⟩,
          ⟨some 88, .un .not (.t 87), some (86, false)⟩,
          ⟨some 89, .pick (.t 86) (.k (.bool true)) (.t 88), none⟩,
          ⟨some 90, .mv (.t 89), none⟩,
          ⟨some 91, .mv (.t 12), some (90, false)⟩,
          ⟨some 92, .bin .neq (.t 91) (.k (.str [114, 115, 97])), some (90, false)⟩,
          ⟨some 93, .mv (.t 92), some (90, false)⟩,
          ⟨some 94, .mv (.t 12), some (93, true)⟩,
          ⟨some 95, .bin .neq (.t 94) (.k (.str [101, 100, 50, 53, 53, 49, 57])), some (93, true)⟩,
          ⟨some 96, .pick (.t 93) (.t 95) (.k (.bool false)), some (90, false)⟩,
          ⟨some 97, .pick (.t 90) (.k (.bool true)) (.t 96), none⟩,
          ⟨some 98, .mv (.t 97), none⟩,
          ⟨some 99, .mv (.t 14), some (98, false)⟩,
          ⟨some 100, .pick (.t 98) (.k (.bool true)) (.t 99), none⟩] [2, 4, 10, 12, 100] [] [[9], [80], [81], [8], [83], [82, 84], [85], [11], [87], [86, 88], [89], [], [91], [92], [], [94], [93, 95], [90, 96], [97], [14]])
        (.cond (.t 100)
          (.seq
            (.region [
              ⟨some 101, .agg [(.str []), .nilS, (.int .i64 0), .nilS, .nilS, .nilS, (.str []), (.bool false), (.bool false)] [], none⟩,
              ⟨none, .store 9 (.t 2) (.t 101), none⟩,
              ⟨some 3, .mv (.k (.int .i64 2)), none⟩] [2, 3] [] [[], [101]])
            .ret)
          .skip))
      f_spec_DRead_4))

def f_spec_DRead_6 : SCode :=
  (.seq
    (.region [
      ⟨some 42, .mv (.t 4), none⟩,
      ⟨some 43, .call 84 [(.t 42), (.k (.str [112]))], none⟩,
      ⟨some 41, .mv (.t 43), none⟩,
      ⟨some 44, .extr (.t 41) 0, none⟩,
      ⟨some 45, .extr (.t 41) 1, none⟩,
      ⟨some 8, .mv (.t 44), none⟩,
      ⟨some 9, .mv (.t 45), none⟩] [2, 4, 8, 9] [] [[], [42], [43], [], [41], [44]])
    (.seq
      (.region [
        ⟨some 47, .mv (.t 8), none⟩,
        ⟨some 48, .call 85 [(.t 47)], none⟩,
        ⟨some 49, .call 86 [(.t 48)], none⟩,
        ⟨some 46, .mv (.t 49), none⟩,
        ⟨some 50, .extr (.t 46) 0, none⟩,
        ⟨some 51, .extr (.t 46) 1, none⟩,
        ⟨some 10, .mv (.t 50), none⟩,
        ⟨some 11, .mv (.t 51), none⟩] [2, 4, 8, 9, 10, 11] [] [[], [47], [48], [49], [], [46], [50]])
      (.seq
        (.region [
          ⟨some 53, .mv (.t 4), none⟩,
          ⟨some 54, .call 84 [(.t 53), (.k (.str [107]))], none⟩,
          ⟨some 52, .mv (.t 54), none⟩,
          ⟨some 55, .extr (.t 52) 0, none⟩,
          ⟨some 56, .extr (.t 52) 1, none⟩,
          ⟨some 12, .mv (.t 55), none⟩,
          ⟨some 13, .mv (.t 56), none⟩] [2, 4, 8, 9, 10, 11, 12, 13] [] [[], [53], [54], [], [52], [55]])
        (.seq
          (.seq
            (.region [
              ⟨some 57, .mv (.t 13), none⟩,
              ⟨some 58, .un .not (.t 57), none⟩,
              ⟨some 59, .mv (.t 58), none⟩,
              ⟨some 60, .mv (.t 12), some (59, false)⟩,
              ⟨some 61, .bin .eql (.t 60) (.k (.str [])), some (59, false)⟩,
              ⟨some 62, .pick (.t 59) (.k (.bool true)) (.t 61), none⟩] [2, 4, 8, 9, 10, 11, 12, 62] [] [[13], [57], [58], [], [60]])
            (.cond (.t 62)
              (.region [
                ⟨some 12, .mv (.k (.str [114, 115, 97])), none⟩] [2, 4, 8, 9, 10, 11, 12] [] [])
              .skip))
          f_spec_DRead_5))))

def c_spec_DRead : SFn := ⟨1,
    (.seq
      (.region [
        ⟨some 2, .alloc [(.str []), .nilS, (.int .i64 0), .nilS, .nilS, .nilS, (.str []), (.bool false), (.bool false)], none⟩,
        ⟨some 3, .mv (.k (.int .i64 0)), none⟩] [0, 2] [] [])
      (.seq
        (.region [
          ⟨some 22, .mv (.t 0), none⟩,
          ⟨some 23, .call 52 [(.t 22)], none⟩,
          ⟨some 21, .mv (.t 23), none⟩,
          ⟨some 24, .extr (.t 21) 0, none⟩,
          ⟨some 25, .extr (.t 21) 1, none⟩,
          ⟨some 4, .mv (.t 24), none⟩,
          ⟨some 5, .mv (.t 25), none⟩] [2, 4, 5] [] [[0], [22], [23], [], [21], [24]])
        (.seq
          (.seq
            (.region [
              ⟨some 27, .mv (.t 4), none⟩,
              ⟨some 28, .call 84 [(.t 27), (.k (.str [118]))], none⟩,
              ⟨some 26, .mv (.t 28), none⟩,
              ⟨some 29, .extr (.t 26) 0, none⟩,
              ⟨some 30, .extr (.t 26) 1, none⟩,
              ⟨some 6, .mv (.t 29), none⟩,
              ⟨some 7, .mv (.t 30), none⟩] [2, 4, 5, 6, 7] [] [[], [27], [28], [], [26], [29]])
            (.seq
              (.region [
                ⟨some 31, .mv (.t 5), none⟩,
                ⟨some 32, .un .not (.t 31), none⟩,
                ⟨some 33, .mv (.t 32), none⟩,
                ⟨some 34, .mv (.t 7), some (33, false)⟩,
                ⟨some 35, .mv (.t 34), some (33, false)⟩,
                ⟨some 36, .mv (.t 6), some (35, true)⟩,
                ⟨some 37, .bin .neq (.t 36) (.k (.str [68, 75, 73, 77, 49])), some (35, true)⟩,
                ⟨some 38, .pick (.t 35) (.t 37) (.k (.bool false)), some (33, false)⟩,
                ⟨some 39, .pick (.t 33) (.k (.bool true)) (.t 38), none⟩] [2, 4, 39] [] [[5], [31], [32], [7], [34], [6], [36], [35, 37]])
              (.cond (.t 39)
                (.seq
                  (.region [
                    ⟨some 40, .agg [(.str []), .nilS, (.int .i64 0), .nilS, .nilS, .nilS, (.str []), (.bool false), (.bool false)] [], none⟩,
                    ⟨none, .store 9 (.t 2) (.t 40), none⟩,
                    ⟨some 3, .mv (.k (.int .i64 2)), none⟩] [2, 3] [] [[], [40]])
                  .ret)
                .skip)))
          f_spec_DRead_6))),
  [.c (some 9) 2, .t 3]⟩

def l_spec_DRead : Lay := { rg := [(0, ([0, 2], [])), (1, ([2, 4, 5], [])), (2, ([2, 4, 5, 6, 7], [])), (3, ([2, 4, 39], [])), (4, ([2, 3], [])), (5, ([2, 4, 8, 9], [])), (6, ([2, 4, 8, 9, 10, 11], [])), (7, ([2, 4, 8, 9, 10, 11, 12, 13], [])), (8, ([2, 4, 8, 9, 10, 11, 12, 62], [])), (9, ([2, 4, 8, 9, 10, 11, 12], [])), (10, ([2, 4, 8, 9, 10, 11, 12, 14], [])), (11, ([2, 4, 10, 12, 100], [])), (12, ([2, 3], [])), (13, ([2, 4, 15], [])), (14, ([2, 4, 15, 16, 17], [])), (15, ([2, 4, 15, 16, 17], [])), (16, ([2, 4, 15, 16, 117], [])), (17, ([2, 4, 15], [])), (18, ([2, 4, 15, 17, 18], [])), (19, ([2, 4, 15, 17, 18], [])), (20, ([2, 4, 15, 18, 129], [])), (21, ([2, 4, 15], [])), (22, ([2, 4, 15, 135], [])), (23, ([2, 4, 15], [])), (24, ([2, 4, 15, 19, 20], [])), (25, ([2, 4, 15, 19, 143], [])), (26, ([2, 4, 15], [])), (27, ([2, 15], [])), (28, ([2, 3], [15]))], dd := [(1, [[0], [22], [23], [], [21], [24]]), (2, [[], [27], [28], [], [26], [29]]), (3, [[5], [31], [32], [7], [34], [6], [36], [35, 37]]), (4, [[], [40]]), (5, [[], [42], [43], [], [41], [44]]), (6, [[], [47], [48], [49], [], [46], [50]]), (7, [[], [53], [54], [], [52], [55]]), (8, [[13], [57], [58], [], [60]]), (10, [[], [63], [64], [], [66], [67], [68], [65, 69], [70], [], [72], [73], [], [75], [76], [74, 77], [71, 78]]), (11, [[9], [80], [81], [8], [83], [82, 84], [85], [11], [87], [86, 88], [89], [], [91], [92], [], [94], [93, 95], [90, 96], [97], [14]]), (12, [[], [101]]), (13, [[12], [], [103], [10], [105], [106], [102, 104, 107]]), (14, [[], [110], [111], [], [109], [112]]), (15, [[], [114]]), (17, [[16], [118]]), (18, [[], [122], [123], [], [121], [124]]), (19, [[], [126]]), (21, [[18], [130]]), (22, [[], [133]]), (23, [[], [136]]), (24, [[], [139], [140], [], [138], [141]]), (26, [[19], [144]]), (27, [[4], [148], [149], [], [147, 151]]), (28, [[15], [153]])], gh := [(13, [.frz 104])] }

/- laws.FnDRecords -/
def c_laws_FnDRecords : SFn := ⟨1,
    (.seq
      (.region [
        ⟨some 2, .mv (.k (.bool false)), none⟩] [0] [] [])
      (.seq
        (.seq
          (.region [
            ⟨some 7, .mv (.t 0), none⟩,
            ⟨some 8, .len 0 (.t 7), none⟩,
            ⟨some 9, .bin .gtr (.t 8) (.k (.int .i64 2147483647)), none⟩] [0, 9] [] [[], [7]])
          (.cond (.t 9)
            (.seq
              (.region [
                ⟨some 2, .mv (.k (.bool true)), none⟩] [2] [] [])
              .ret)
            .skip))
        (.seq
          (.seq
            (.region [
              ⟨some 10, .mv (.t 0), none⟩,
              ⟨some 11, .mkSl 1 1 [(.str [])] [(0, (.t 10))], none⟩,
              ⟨some 12, .call 10 [(.k (.int .i64 2000)), (.t 11)], none⟩,
              ⟨some 13, .un .not (.t 12), none⟩] [0, 13] [11] [[], [10], [11]])
            (.cond (.t 13)
              (.seq
                (.region [
                  ⟨some 14, .call 11 [], none⟩,
                  ⟨some 2, .mv (.t 14), none⟩] [2] [] [])
                .ret)
              .skip))
          (.seq
            (.region [
              ⟨some 16, .mv (.t 0), none⟩,
              ⟨some 17, .call 88 [(.t 16)], none⟩,
              ⟨some 15, .mv (.t 17), none⟩,
              ⟨some 18, .extr (.t 15) 0, none⟩,
              ⟨some 19, .extr (.t 15) 1, none⟩,
              ⟨some 3, .alloc [(.str []), .nilS, (.int .i64 0), .nilS, .nilS, .nilS, (.str []), (.bool false), (.bool false)], none⟩,
              ⟨none, .store 9 (.t 3) (.t 18), none⟩,
              ⟨some 4, .mv (.t 19), none⟩] [0, 3, 4] [] [[], [16], [17], [], [15], [], [18]])
            (.seq
              (.region [
                ⟨some 21, .mv (.t 0), none⟩,
                ⟨some 22, .call 89 [(.t 21)], none⟩,
                ⟨some 20, .mv (.t 22), none⟩,
                ⟨some 23, .extr (.t 20) 0, none⟩,
                ⟨some 24, .extr (.t 20) 1, none⟩,
                ⟨some 5, .alloc [(.str []), .nilS, (.int .i64 0), .nilS, .nilS, .nilS, (.str []), (.bool false), (.bool false)], none⟩,
                ⟨none, .store 9 (.t 5) (.t 23), none⟩,
                ⟨some 6, .mv (.t 24), none⟩] [3, 4, 5, 6] [] [[0], [21], [22], [], [20], [], [23]])
              (.seq
                (.seq
                  (.region [
                    ⟨some 25, .mv (.t 4), none⟩,
                    ⟨some 26, .mv (.t 6), none⟩,
                    ⟨some 27, .bin .neq (.t 25) (.t 26), none⟩,
                    ⟨some 28, .mv (.t 27), none⟩,
                    ⟨some 29, .mv (.t 4), some (28, false)⟩,
                    ⟨some 30, .bin .neq (.t 29) (.k (.int .i64 0)), some (28, false)⟩,
                    ⟨some 31, .pick (.t 28) (.k (.bool true)) (.t 30), none⟩] [3, 4, 5, 6, 31] [] [[], [], [25, 26], [27], [], [29]])
                  (.cond (.t 31)
                    (.seq
                      (.region [
                        ⟨some 32, .mv (.t 4), none⟩,
                        ⟨some 33, .mv (.t 6), none⟩,
                        ⟨some 34, .bin .eql (.t 32) (.t 33), none⟩,
                        ⟨some 35, .mv (.t 34), none⟩,
                        ⟨some 36, .call 11 [], some (35, true)⟩,
                        ⟨some 37, .pick (.t 35) (.t 36) (.k (.bool false)), none⟩,
                        ⟨some 2, .mv (.t 37), none⟩] [2] [3, 5] [[4], [6], [32, 33], [34], [], [35, 36]])
                      .ret)
                    .skip))
                (.seq
                  (.region [
                    ⟨some 38, .fAddr 0 (.t 3), none⟩,
                    ⟨some 39, .load none (.t 38), none⟩,
                    ⟨some 40, .fAddr 0 (.t 5), none⟩,
                    ⟨some 41, .load none (.t 40), none⟩,
                    ⟨some 42, .bin .eql (.t 39) (.t 41), none⟩,
                    ⟨some 43, .mv (.t 42), none⟩,
                    ⟨some 44, .fAddr 1 (.t 3), some (43, true)⟩,
                    ⟨some 45, .load none (.t 44), some (43, true)⟩,
                    ⟨some 46, .cBytesStr (.t 45), some (43, true)⟩,
                    ⟨some 47, .fAddr 1 (.t 5), some (43, true)⟩,
                    ⟨some 48, .load none (.t 47), some (43, true)⟩,
                    ⟨some 49, .cBytesStr (.t 48), some (43, true)⟩,
                    ⟨some 50, .bin .eql (.t 46) (.t 49), some (43, true)⟩,
                    ⟨some 51, .pick (.t 43) (.t 50) (.k (.bool false)), none⟩,
                    ⟨some 52, .mv (.t 51), none⟩,
                    ⟨some 53, .fAddr 2 (.t 3), some (52, true)⟩,
                    ⟨some 54, .load none (.t 53), some (52, true)⟩,
                    ⟨some 55, .fAddr 2 (.t 5), some (52, true)⟩,
                    ⟨some 56, .load none (.t 55), some (52, true)⟩,
                    ⟨some 57, .bin .eql (.t 54) (.t 56), some (52, true)⟩,
                    ⟨some 58, .pick (.t 52) (.t 57) (.k (.bool false)), none⟩,
                    ⟨some 59, .mv (.t 58), none⟩,
                    ⟨some 60, .fAddr 7 (.t 3), some (59, true)⟩,
                    ⟨some 61, .load none (.t 60), some (59, true)⟩,
                    ⟨some 62, .fAddr 7 (.t 5), some (59, true)⟩,
                    ⟨some 63, .load none (.t 62), some (59, true)⟩,
                    ⟨some 64, .eqB false (.t 61) (.t 63), some (59, true)⟩,
                    ⟨some 65, .pick (.t 59) (.t 64) (.k (.bool false)), none⟩,
                    ⟨some 66, .mv (.t 65), none⟩,
                    ⟨some 67, .fAddr 8 (.t 3), some (66, true)⟩,
                    ⟨some 68, .load none (.t 67), some (66, true)⟩,
                    ⟨some 69, .fAddr 8 (.t 5), some (66, true)⟩,
                    ⟨some 70, .load none (.t 69), some (66, true)⟩,
                    ⟨some 71, .eqB false (.t 68) (.t 70), some (66, true)⟩,
                    ⟨some 72, .pick (.t 66) (.t 71) (.k (.bool false)), none⟩,
                    ⟨some 2, .mv (.t 72), none⟩] [2] [3, 5] [[], [38], [], [40], [39, 41], [42], [], [44], [45], [], [47], [48], [46, 49], [43, 50], [51], [], [53], [], [55], [54, 56], [52, 57], [58], [], [60], [], [62], [61, 63], [59, 64], [65], [3], [67], [5], [69], [68, 70], [66, 71]])
                  .ret))))))),
  [.t 2]⟩

def l_laws_FnDRecords : Lay := { rg := [(0, ([0], [])), (1, ([0, 9], [])), (2, ([2], [])), (3, ([0, 13], [11])), (4, ([2], [])), (5, ([0, 3, 4], [])), (6, ([3, 4, 5, 6], [])), (7, ([3, 4, 5, 6, 31], [])), (8, ([2], [3, 5])), (9, ([2], [3, 5]))], dd := [(1, [[], [7]]), (3, [[], [10], [11]]), (5, [[], [16], [17], [], [15], [], [18]]), (6, [[0], [21], [22], [], [20], [], [23]]), (7, [[], [], [25, 26], [27], [], [29]]), (8, [[4], [6], [32, 33], [34], [], [35, 36]]), (9, [[], [38], [], [40], [39, 41], [42], [], [44], [45], [], [47], [48], [46, 49], [43, 50], [51], [], [53], [], [55], [54, 56], [52, 57], [58], [], [60], [], [62], [61, 63], [59, 64], [65], [3], [67], [5], [69], [68, 70], [66, 71]])] }

end Wax

/- FnDRecords (13): spec.DRead. -/
namespace Wax
open Go (IntKind)

theorem slp_kill {u : AV} {l} (h : slPairs u = some l) (d : Nat) : kill d u = u := by
  rcases slPairs_cases h with ⟨rfl, rfl⟩ | rfl <;> simp

theorem slp_snapW {u : AV} {l} (h : slPairs u = some l) (g : AV → AV) : snapW g u = u := by
  rcases slPairs_cases h with ⟨rfl, rfl⟩ | rfl <;> simp

def partsV (x : Option (List UInt8)) : AV := match x with
  | none => .nilS
  | some s => .sl 1 (strsA (splitB 58 (stripD s)))
def servD (x : Option (List UInt8)) : AV := match x with
  | none => .nilS
  | some s => if [42] ∈ splitB 58 (stripD s) then .nilS else .sl 1 (strsA (splitB 58 (stripD s)))
def anyD (x : Option (List UInt8)) : Bool := match x with
  | none => true
  | some s => decide ([42] ∈ splitB 58 (stripD s))
theorem partsV_sl (x : Option (List UInt8)) : ∃ l, slStrs (partsV x) = some l := by
  cases x <;> simp [partsV, slStrs]
theorem servD_sl (x : Option (List UInt8)) : ∃ l, slStrs (servD x) = some l := by
  cases x with
  | none => exact ⟨[], rfl⟩
  | some v => by_cases h : [42] ∈ splitB 58 (stripD v) <;> simp [servD, slStrs, h]

def dcells (k b : List UInt8) (h s t : AV) (n : List UInt8) (x y : Bool) : List AV := [.str k, .sl 1 (bcA b), .int .i64 (8 * (b.length : Int)), h, s, t, .str n, .bool x, .bool y]
def dzero : List AV := [.str [], .nilS, .int .i64 0, .nilS, .nilS, .nilS, .str [], .bool false, .bool false]

def lenOk (x : Option (List UInt8)) : Prop := ∀ s, x = some s → s.length < mid

set_option maxHeartbeats 2000000 in
set_option maxRecDepth 10000 in
theorem dr_27 {Γ : Gam} {Q : APost} (h84 : Γ.fn 84 = con_DValue) {u : AV} {l : List (List UInt8 × List UInt8)} (hu : slPairs u = some l) (hl : l.length < mid) (k b : List UInt8) (h s t : AV) (x y : Bool) {l1 l2 l3} (t1 : slStrs h = some l1) (t2 : slStrs s = some l2) (t3 : slStrs t = some l3)
    (hQ : Q .ret ⟨[(2, .ref 2 0), (3, .int .i64 0)], [(2, .cells (dcells k b h s t ((findP l [110]).getD []) x y))]⟩) :
    ∀ ex, awp Γ f_spec_DRead_1 Q ⟨(2, .ref 2 0) :: (4, u) :: (15, .ref 15 0) :: ex, [(15, .cells (dcells k b h s t [] x y)), (2, .cells dzero)]⟩ := by
  intro ex
  have c1 := slf_cells t1
  have c2 := slf_cells t2
  have c3 := slf_cells t3
  simp only [cells] at c1 c2 c3
  have k84 : con_DValue [u, .str [110]] = some (valV (findP l [110])) := by simp only [con_DValue, hu, if_pos hl]
  cases hf : findP l [110] with
  | none =>
    rw [hf] at k84 hQ
    simp -implicitDefEqProofs [f_spec_DRead_1, acall, h84, k84, slp_ref hu, valV, dcells, dzero, c1, c2, c3, slf_kill t1, slf_kill t2, slf_kill t3, slf_ref t1, slf_ref t2, slf_ref t3, slf_atom t1, slf_atom t2, slf_atom t3, slp_snap hu]
    simpa [dcells] using hQ
  | some v =>
    rw [hf] at k84 hQ
    simp -implicitDefEqProofs [f_spec_DRead_1, acall, h84, k84, slp_ref hu, valV, dcells, dzero, c1, c2, c3, slf_kill t1, slf_kill t2, slf_kill t3, slf_ref t1, slf_ref t2, slf_ref t3, slf_atom t1, slf_atom t2, slf_atom t3, slp_snap hu]
    simpa [dcells] using hQ

set_option maxHeartbeats 2000000 in
set_option maxRecDepth 10000 in
theorem dr_24 {Γ : Gam} {Q : APost} (h84 : Γ.fn 84 = con_DValue) (h70 : Γ.fn 70 = con_DParts) {u : AV} {l : List (List UInt8 × List UInt8)} (hu : slPairs u = some l) (hl : l.length < mid) (hT : lenOk (findP l [116])) (k b : List UInt8) (h s : AV) (x y : Bool) {l1 l2} (t1 : slStrs h = some l1) (t2 : slStrs s = some l2)
    (hQ : Q .ret ⟨[(2, .ref 2 0), (3, .int .i64 0)], [(2, .cells (dcells k b h s (partsV (findP l [116])) ((findP l [110]).getD []) x y))]⟩) :
    ∀ ex, awp Γ f_spec_DRead_2 Q ⟨(2, .ref 2 0) :: (4, u) :: (15, .ref 15 0) :: ex, [(15, .cells (dcells k b h s .nilS [] x y)), (2, .cells dzero)]⟩ := by
  intro ex
  have k84 : con_DValue [u, .str [116]] = some (valV (findP l [116])) := by simp only [con_DValue, hu, if_pos hl]
  cases hf : findP l [116] with
  | none =>
    rw [hf] at k84 hQ
    simp -implicitDefEqProofs [f_spec_DRead_2, acall, h84, k84, valV, slp_ref hu, slp_snap hu]
    exact dr_27 h84 hu hl k b h s .nilS x y t1 t2 (l3 := []) rfl hQ _
  | some v =>
    rw [hf] at k84 hQ
    have k70 : con_DParts [.str v] = some (.sl 1 (strsA (splitB 58 (stripD v)))) := if_pos (hT v hf)
    simp -implicitDefEqProofs [f_spec_DRead_2, acall, h84, k84, valV, h70, k70, dcells, slp_ref hu, slp_snap hu]
    exact dr_27 h84 hu hl k b h s _ x y t1 t2 (l3 := splitB 58 (stripD v)) (by simp [slStrs, partsV]) hQ _

set_option maxHeartbeats 2000000 in
set_option maxRecDepth 10000 in
theorem dr_18 {Γ : Gam} {Q : APost} (h84 : Γ.fn 84 = con_DValue) (h70 : Γ.fn 70 = con_DParts) (h87 : Γ.fn 87 = con_dAmong) {u : AV} {l : List (List UInt8 × List UInt8)} (hu : slPairs u = some l) (hl : l.length < mid) (hT : lenOk (findP l [116])) (hS : ∀ s, findP l [115] = some s → s.length < half) (k b : List UInt8) (h : AV) (x : Bool) {l1} (t1 : slStrs h = some l1)
    (hQ : Q .ret ⟨[(2, .ref 2 0), (3, .int .i64 0)], [(2, .cells (dcells k b h (servD (findP l [115])) (partsV (findP l [116])) ((findP l [110]).getD []) x (anyD (findP l [115]))))]⟩) :
    ∀ ex, awp Γ f_spec_DRead_3 Q ⟨(2, .ref 2 0) :: (4, u) :: (15, .ref 15 0) :: ex, [(15, .cells (dcells k b h .nilS .nilS [] x false)), (2, .cells dzero)]⟩ := by
  intro ex
  have k84 : con_DValue [u, .str [115]] = some (valV (findP l [115])) := by simp only [con_DValue, hu, if_pos hl]
  cases hf : findP l [115] with
  | none =>
    rw [hf] at k84 hQ
    simp -implicitDefEqProofs [f_spec_DRead_3, acall, h84, k84, valV, dcells, slp_ref hu, slp_snap hu]
    exact dr_24 h84 h70 hu hl hT k b h .nilS x true t1 (l2 := []) rfl hQ _
  | some v =>
    rw [hf] at k84 hQ
    have hv := hS v hf
    have hvm : v.length < mid := by simp only [half, mid] at *; omega
    have k70 : con_DParts [.str v] = some (.sl 1 (strsA (splitB 58 (stripD v)))) := if_pos hvm
    have hsl := splitB_length 58 (stripD v)
    have hsd := stripD_length v
    have hst : slStrs (.sl 1 (strsA (splitB 58 (stripD v)))) = some (splitB 58 (stripD v)) := by simp [slStrs]
    have k87 : con_dAmong [.str [42], .sl 1 (strsA (splitB 58 (stripD v)))] = some (.bool (decide ([42] ∈ splitB 58 (stripD v)))) := by
      simp only [con_dAmong, hst]
      rw [if_pos (by simp only [half, mid] at *; omega)]
    simp only [servD, anyD] at hQ
    by_cases hm : [42] ∈ splitB 58 (stripD v)
    · simp only [if_pos hm, decide_eq_true hm] at hQ
      simp -implicitDefEqProofs [f_spec_DRead_3, acall, h84, k84, valV, h70, k70, h87, k87, hm, dcells, slp_ref hu, slp_snap hu]
      exact dr_24 h84 h70 hu hl hT k b h .nilS x true t1 (l2 := []) rfl hQ _
    · simp only [if_neg hm, decide_eq_false hm] at hQ
      simp -implicitDefEqProofs [f_spec_DRead_3, acall, h84, k84, valV, h70, k70, h87, k87, hm, dcells, slp_ref hu, slp_snap hu]
      exact dr_24 h84 h70 hu hl hT k b h _ x false t1 (l2 := splitB 58 (stripD v)) hst hQ _

set_option maxHeartbeats 2000000 in
set_option maxRecDepth 10000 in
theorem dr_13 {Γ : Gam} {Q : APost} (h84 : Γ.fn 84 = con_DValue) (h70 : Γ.fn 70 = con_DParts) (h87 : Γ.fn 87 = con_dAmong) {u : AV} {l : List (List UInt8 × List UInt8)} (hu : slPairs u = some l) (hl : l.length < mid) (hT : lenOk (findP l [116])) (hS : ∀ s, findP l [115] = some s → s.length < half) (hH : lenOk (findP l [104])) (k b : List UInt8) (hb : b.length < mid)
    (hQ : Q .ret ⟨[(2, .ref 2 0), (3, .int .i64 0)], [(2, .cells (dcells k b (partsV (findP l [104])) (servD (findP l [115])) (partsV (findP l [116])) ((findP l [110]).getD []) (findP l [104]).isNone (anyD (findP l [115]))))]⟩) :
    ∀ ex, awp Γ f_spec_DRead_4 Q ⟨(2, .ref 2 0) :: (4, u) :: (10, .str b) :: (12, .str k) :: ex, [(2, .cells dzero)]⟩ := by
  intro ex
  have k84 : con_DValue [u, .str [104]] = some (valV (findP l [104])) := by simp only [con_DValue, hu, if_pos hl]
  simp only [mid] at hb
  have ew : IntKind.i64.wrap (8 * (b.length : Int)) = 8 * (b.length : Int) := wrap64 (by omega) (by omega)
  cases hf : findP l [104] with
  | none =>
    rw [hf] at k84 hQ
    simp -implicitDefEqProofs [f_spec_DRead_4, acall, h84, k84, valV, ew, slp_kill hu, slp_snapW hu, slp_ref hu, slp_snap hu, dzero]
    exact ⟨by omega, dr_18 h84 h70 h87 hu hl hT hS k b .nilS true (l1 := []) rfl hQ _⟩
  | some v =>
    rw [hf] at k84 hQ
    have k70 : con_DParts [.str v] = some (.sl 1 (strsA (splitB 58 (stripD v)))) := if_pos (hH v hf)
    simp -implicitDefEqProofs [f_spec_DRead_4, acall, h84, k84, valV, ew, h70, k70, slp_kill hu, slp_snapW hu, slp_ref hu, slp_snap hu, dzero]
    exact ⟨by omega, dr_18 h84 h70 h87 hu hl hT hS k b _ false (l1 := splitB 58 (stripD v)) (by simp [slStrs, partsV]) hQ _⟩
/-- The kind that a record says. -/
def kindOf (l : List (List UInt8 × List UInt8)) : List UInt8 := match findP l [107] with
  | some k => if k = [] then rsaB else k
  | none => rsaB
def kb (k : List UInt8) (b : List UInt8) : Option (List UInt8 × List UInt8) :=
  if k = rsaB then if 8 * (b.length : Int) < 1024 then none else some (rsaB, b)
  else if k = edB then if b.length = 32 then some (edB, b) else none
  else none
def dr2 (l : List (List UInt8 × List UInt8)) : Option (List UInt8 × List UInt8) := match findP l [112] with
  | none => none
  | some p => if p = [] then none else match dec64 quadS (bareS p) with
    | none => none
    | some b => kb (kindOf l) b
def dr1 (l : List (List UInt8 × List UInt8)) : Option (List UInt8 × List UInt8) := match findP l [118] with
  | some v => if v = dk1 then dr2 l else none
  | none => dr2 l

def drQ (Q : APost) (l : List (List UInt8 × List UInt8)) : Option (List UInt8 × List UInt8) → Prop
  | none => Q .ret ⟨[(2, .ref 2 0), (3, .int .i64 2)], [(2, .cells dzero)]⟩
  | some (k, b) => Q .ret ⟨[(2, .ref 2 0), (3, .int .i64 0)], [(2, .cells (dcells k b (partsV (findP l [104])) (servD (findP l [115])) (partsV (findP l [116])) ((findP l [110]).getD []) (findP l [104]).isNone (anyD (findP l [115]))))]⟩

set_option maxHeartbeats 4000000 in
set_option maxRecDepth 10000 in
theorem dr_10 {Γ : Gam} {Q : APost} (h84 : Γ.fn 84 = con_DValue) (h70 : Γ.fn 70 = con_DParts) (h87 : Γ.fn 87 = con_dAmong) {u : AV} {l : List (List UInt8 × List UInt8)} (hu : slPairs u = some l) (hl : l.length < mid) (hT : lenOk (findP l [116])) (hS : ∀ s, findP l [115] = some s → s.length < half) (hH : lenOk (findP l [104])) (k b p : List UInt8) (hb : b.length < mid) (there fine : Bool)
    (hQ : drQ Q l (if there = true ∧ p ≠ [] ∧ fine = true then kb k b else none)) :
    ∀ ex, awp Γ f_spec_DRead_5 Q ⟨(2, .ref 2 0) :: (4, u) :: (8, .str p) :: (9, .bool there) :: (10, .str b) :: (11, .bool fine) :: (12, .str k) :: ex, [(2, .cells dzero)]⟩ := by
  intro ex
  have hb' := hb
  simp only [mid] at hb'
  have ew : IntKind.i64.wrap (8 * (b.length : Int)) = 8 * (b.length : Int) := wrap64 (by omega) (by omega)
  by_cases hc : there = true ∧ p ≠ [] ∧ fine = true
  · rw [if_pos hc] at hQ
    obtain ⟨rfl, hp, rfl⟩ := hc
    by_cases h1 : k = rsaB
    · subst h1
      simp only [kb, if_true] at hQ
      by_cases hs : 8 * (b.length : Int) < 1024
      · rw [if_pos hs] at hQ
        simp -implicitDefEqProofs [f_spec_DRead_5, rsaB, ew, hs, hp, dzero]
        simpa [drQ, dzero] using hQ
      · rw [if_neg hs] at hQ
        simp -implicitDefEqProofs [f_spec_DRead_5, rsaB, ew, hs, hp]
        exact dr_13 h84 h70 h87 hu hl hT hS hH rsaB b hb hQ _
    · by_cases h2 : k = edB
      · subst h2
        have hre : ¬ edB = rsaB := h1
        simp only [kb, if_neg hre, if_true] at hQ
        by_cases hs : b.length = 32
        · rw [if_pos hs] at hQ
          simp -implicitDefEqProofs [f_spec_DRead_5, edB, hs, hp]
          exact dr_13 h84 h70 h87 hu hl hT hS hH edB b hb hQ _
        · have hs' : ¬ (b.length : Int) = 32 := by omega
          rw [if_neg hs] at hQ
          simp -implicitDefEqProofs [f_spec_DRead_5, edB, hs', hp, dzero]
          simpa [drQ, dzero] using hQ
      · simp only [kb, if_neg h1, if_neg h2] at hQ
        simp only [rsaB, edB] at h1 h2
        simp -implicitDefEqProofs [f_spec_DRead_5, h1, h2, hp, dzero]
        simpa [drQ, dzero] using hQ
  · rw [if_neg hc] at hQ
    simp only [drQ, dzero] at hQ
    have why : there = false ∨ (there = true ∧ p = []) ∨ (there = true ∧ p ≠ [] ∧ fine = false) := by
      cases there <;> cases fine <;> by_cases hp : p = [] <;> simp_all
    by_cases h1 : k = rsaB
    · subst h1
      by_cases hs : 8 * (b.length : Int) < 1024
      · rcases why with rfl | ⟨rfl, rfl⟩ | ⟨rfl, hp, rfl⟩
        · simp -implicitDefEqProofs [f_spec_DRead_5, rsaB, ew, hs, dzero]; exact hQ
        · simp -implicitDefEqProofs [f_spec_DRead_5, rsaB, ew, hs, dzero]; exact hQ
        · simp -implicitDefEqProofs [f_spec_DRead_5, rsaB, ew, hs, hp, dzero]; exact hQ
      · rcases why with rfl | ⟨rfl, rfl⟩ | ⟨rfl, hp, rfl⟩
        · simp -implicitDefEqProofs [f_spec_DRead_5, rsaB, ew, hs, dzero]; exact hQ
        · simp -implicitDefEqProofs [f_spec_DRead_5, rsaB, ew, hs, dzero]; exact hQ
        · simp -implicitDefEqProofs [f_spec_DRead_5, rsaB, ew, hs, hp, dzero]; exact hQ
    · by_cases h2 : k = edB
      · subst h2
        by_cases hs : (b.length : Int) = 32
        · rcases why with rfl | ⟨rfl, rfl⟩ | ⟨rfl, hp, rfl⟩
          · simp -implicitDefEqProofs [f_spec_DRead_5, edB, hs, dzero]; exact hQ
          · simp -implicitDefEqProofs [f_spec_DRead_5, edB, hs, dzero]; exact hQ
          · simp -implicitDefEqProofs [f_spec_DRead_5, edB, hs, hp, dzero]; exact hQ
        · rcases why with rfl | ⟨rfl, rfl⟩ | ⟨rfl, hp, rfl⟩
          · simp -implicitDefEqProofs [f_spec_DRead_5, edB, hs, dzero]; exact hQ
          · simp -implicitDefEqProofs [f_spec_DRead_5, edB, hs, dzero]; exact hQ
          · simp -implicitDefEqProofs [f_spec_DRead_5, edB, hs, hp, dzero]; exact hQ
      · simp only [rsaB, edB] at h1 h2
        rcases why with rfl | ⟨rfl, rfl⟩ | ⟨rfl, hp, rfl⟩
        · simp -implicitDefEqProofs [f_spec_DRead_5, h1, h2, dzero]; exact hQ
        · simp -implicitDefEqProofs [f_spec_DRead_5, h1, h2, dzero]; exact hQ
        · simp -implicitDefEqProofs [f_spec_DRead_5, h1, h2, hp, dzero]; exact hQ
end Wax

/- FnDRecords (14): spec.DRead, its whole. -/
namespace Wax
open Go (IntKind)

theorem valV_def (x : Option (List UInt8)) : valV x = .tup [.str (x.getD []), .bool x.isSome] := by cases x <;> rfl
theorem decS_def (x : Option (List UInt8)) : decS x = .tup [.str (x.getD []), .bool x.isSome] := by cases x <;> rfl

theorem decS_len {s o : List UInt8} (h : dec64 quadS s = some o) : o.length ≤ s.length := dec64_len (fun l a b c d x hx => by
  simp only [quadS, Option.map_eq_some_iff] at hx
  obtain ⟨p, _, rfl⟩ := hx
  simp [bytes3]) h
theorem bareS_len (s : List UInt8) : (bareS s).length ≤ s.length := List.length_filter_le _ _

theorem dr2_eq (l : List (List UInt8 × List UInt8)) (p b : List UInt8) (there fine : Bool) (hp : p = (findP l [112]).getD []) (ht : there = (findP l [112]).isSome) (hb : b = (dec64 quadS (bareS p)).getD []) (hf : fine = (dec64 quadS (bareS p)).isSome) :
    (if there = true ∧ p ≠ [] ∧ fine = true then kb (kindOf l) b else none) = dr2 l := by
  subst ht hf hb
  cases h : findP l [112] with
  | none => simp [dr2, h]
  | some v =>
    have hpv : p = v := by rw [hp, h]; rfl
    subst hpv
    simp only [dr2, h]
    by_cases hv : p = []
    · simp [hv]
    · cases hd : dec64 quadS (bareS p) with
      | none => simp [hv]
      | some x => simp [hv]

set_option maxHeartbeats 4000000 in
set_option maxRecDepth 10000 in
theorem dr_5 {Γ : Gam} {Q : APost} (h84 : Γ.fn 84 = con_DValue) (h70 : Γ.fn 70 = con_DParts) (h87 : Γ.fn 87 = con_dAmong) (h85 : Γ.fn 85 = con_dBare) (h86 : Γ.fn 86 = con_dBytes64) {u : AV} {l : List (List UInt8 × List UInt8)} (hu : slPairs u = some l) (hl : l.length < mid)
    (hL : ∀ k s, findP l k = some s → s.length < half) (hQ : drQ Q l (dr2 l)) :
    ∀ ex, awp Γ f_spec_DRead_6 Q ⟨(2, .ref 2 0) :: (4, u) :: ex, [(2, .cells dzero)]⟩ := by
  intro ex
  have hLm : ∀ k, lenOk (findP l k) := fun k s hs => by have := hL k s hs; simp only [half, mid] at *; omega
  have k84 : ∀ k, con_DValue [u, .str k] = some (valV (findP l k)) := fun k => by simp only [con_DValue, hu, if_pos hl]
  obtain ⟨p, hp⟩ : ∃ p, p = (findP l [112]).getD [] := ⟨_, rfl⟩
  obtain ⟨there, ht⟩ : ∃ there, there = (findP l [112]).isSome := ⟨_, rfl⟩
  obtain ⟨b, hb⟩ : ∃ b, b = (dec64 quadS (bareS p)).getD [] := ⟨_, rfl⟩
  obtain ⟨fine, hf⟩ : ∃ fine, fine = (dec64 quadS (bareS p)).isSome := ⟨_, rfl⟩
  have hpl : p.length < mid := by
    subst hp
    cases h : findP l [112] with
    | none => simp [mid]
    | some v => simpa using hLm _ v h
  have hbl := bareS_len p
  have hbm : b.length < mid := by
    subst hb
    cases h : dec64 quadS (bareS p) with
    | none => simp [mid]
    | some v => have := decS_len h; simp only [Option.getD_some]; omega
  have k85 : con_dBare [.str p] = some (.str (bareS p)) := if_pos hpl
  have k86 : con_dBytes64 [.str (bareS p)] = some (.tup [.str b, .bool fine]) := by
    rw [hb, hf, ← decS_def]
    exact if_pos (by omega)
  have e := dr2_eq l p b there fine hp ht hb hf
  rw [← e] at hQ
  have kp := k84 [112]
  have kk := k84 [107]
  rw [valV_def, ← hp, ← ht] at kp
  cases hk : findP l [107] with
  | none =>
    have hko : kindOf l = rsaB := by simp [kindOf, hk]
    rw [hk] at kk
    rw [hko] at hQ
    simp -implicitDefEqProofs [f_spec_DRead_6, acall, h84, kp, kk, valV, h85, k85, h86, k86, slp_ref hu, slp_snap hu]
    exact dr_10 h84 h70 h87 hu hl (hLm _) (hL _) (hLm _) rsaB b p hbm there fine hQ _
  | some k =>
    rw [hk] at kk
    by_cases hk0 : k = []
    · have hko : kindOf l = rsaB := by simp [kindOf, hk, hk0]
      rw [hko] at hQ
      simp -implicitDefEqProofs [f_spec_DRead_6, acall, h84, kp, kk, valV, h85, k85, h86, k86, slp_ref hu, slp_snap hu, hk0]
      exact dr_10 h84 h70 h87 hu hl (hLm _) (hL _) (hLm _) rsaB b p hbm there fine hQ _
    · have hko : kindOf l = k := by simp [kindOf, hk, hk0]
      rw [hko] at hQ
      simp -implicitDefEqProofs [f_spec_DRead_6, acall, h84, kp, kk, valV, h85, k85, h86, k86, slp_ref hu, slp_snap hu, hk0]
      exact dr_10 h84 h70 h87 hu hl (hLm _) (hL _) (hLm _) k b p hbm there fine hQ _

theorem findP_map (f : List UInt8 → List UInt8) (k : List UInt8) : ∀ (L : List (List UInt8)), findP (L.map fun x => (x, f x)) k = if k ∈ L then some (f k) else none
  | [] => rfl
  | x :: r => by
    by_cases h : x = k
    · simp [findP, h]
    · have h' : ¬ k = x := fun e => h e.symm
      simp only [List.map_cons, findP, if_neg h, findP_map f k r, List.mem_cons, h', false_or]

theorem findP_some_iff (k : List UInt8) : ∀ (l : List (List UInt8 × List UInt8)), (findP l k).isSome = true ↔ k ∈ l.map (·.1)
  | [] => by simp [findP]
  | (i, v) :: r => by
    by_cases h : i = k
    · simp [findP, h]
    · have h' : ¬ k = i := fun e => h e.symm
      have ih := findP_some_iff k r
      simp only [findP, if_neg h, List.map_cons, List.mem_cons, h', false_or]
      exact ih

theorem findP_sortP (acc : List (List UInt8 × List UInt8)) (k : List UInt8) : findP (sortP acc) k = findP acc k := by
  simp only [sortP]
  rw [findP_map]
  have hm : k ∈ sortB (acc.map (·.1)) ↔ k ∈ acc.map (·.1) := by simp only [sortB]; exact List.mem_mergeSort
  have hi := findP_some_iff k acc
  rw [lookP_findP]
  cases h : findP acc k with
  | none =>
    rw [h] at hi
    have : ¬ k ∈ sortB (acc.map (·.1)) := fun hk => by have := hi.2 (hm.1 hk); simp at this
    rw [if_neg this]
  | some v =>
    rw [h] at hi
    rw [if_pos (hm.2 (hi.1 rfl))]
    rfl

def dreadV (s : List UInt8) : AV := match prm (splitB 59 s) [] with
  | (_, some _) => .tup [.agg dzero, .int .i64 2]
  | (acc, none) => match dr1 acc with
    | none => .tup [.agg dzero, .int .i64 2]
    | some (k, b) => .tup [.agg (dcells k b (partsV (findP acc [104])) (servD (findP acc [115])) (partsV (findP acc [116])) ((findP acc [110]).getD []) (findP acc [104]).isNone (anyD (findP acc [115]))), .int .i64 0]

def con_DRead : List AV → Option AV
  | [.str s] => if s.length + 1 < half ∧ plain s = true then some (dreadV s) else none
  | _ => none

theorem dr2_congr {l m : List (List UInt8 × List UInt8)} (h : ∀ k, findP l k = findP m k) : dr2 l = dr2 m := by simp only [dr2, kindOf, h]
theorem dr1_congr {l m : List (List UInt8 × List UInt8)} (h : ∀ k, findP l k = findP m k) : dr1 l = dr1 m := by simp only [dr1, h, dr2_congr h]

set_option maxHeartbeats 4000000 in
set_option maxRecDepth 10000 in
theorem ok_DRead (Γ : Gam) (h52 : Γ.fn 52 = con_DTags) (h84 : Γ.fn 84 = con_DValue) (h70 : Γ.fn 70 = con_DParts) (h87 : Γ.fn 87 = con_dAmong) (h85 : Γ.fn 85 = con_dBare) (h86 : Γ.fn 86 = con_dBytes64) :
    ∀ args r, con_DRead args = some r → runs Γ c_spec_DRead args (fun v => v = r) := by
  intro args r h
  simp only [con_DRead] at h
  split at h <;> (try simp at h; done)
  rename_i s
  obtain ⟨⟨hs, hpl⟩, rfl⟩ := ite_some h
  clear h
  have k52 : con_DTags [.str s] = some (match tgL (splitB 59 s) [] with | some o => .tup [pairV o, .bool true] | none => .tup [.nilS, .bool false]) := if_pos hs
  have law := params_law (splitB 59 s) [] [] (by simp [Asc]) (by simp)
  have hv := prm_vals s.length (splitB 59 s) [] (fun p h => ⟨splitB_mem_length 59 s p h, splitB_plain 59 s p hpl h⟩) (by simp)
  have hlen := prm_length (splitB 59 s) []
  have hsl := splitB_length 59 s
  simp only [dreadV]
  generalize prm (splitB 59 s) [] = x at *
  obtain ⟨acc, e⟩ := x
  cases e with
  | some m =>
    simp only at law
    rw [law] at k52
    have k84 : con_DValue [.nilS, .str [118]] = some (.tup [.str [], .bool false]) := by simp [con_DValue, slPairs, mid, findP, valV]
    simp -implicitDefEqProofs [c_spec_DRead, acall, h52, k52, h84, k84, dzero]
  | none =>
    simp only at law
    rw [law] at k52
    dsimp only at k52 ⊢
    have hsp : (sortP acc).length ≤ s.length + 1 := by
      have : (sortP acc).length = acc.length := by simp [sortP, sortB]
      simp only [List.length_nil, Nat.zero_add] at hlen
      omega
    have hf := findP_sortP acc
    have hu : slPairs (pairV (sortP acc)) = some (sortP acc) := slPairs_pairV
    have hl : (sortP acc).length < mid := by simp only [half, mid] at *; omega
    have k84 : con_DValue [pairV (sortP acc), .str [118]] = some (valV (findP acc [118])) := by
      simp only [con_DValue, hu, if_pos hl, hf]
    have hL : ∀ k v, findP (sortP acc) k = some v → v.length < half := by
      intro k v hv'
      rw [hf] at hv'
      have := (hv (k, v) (findP_mem hv')).1
      simp only at this
      omega
    have e1 : dr1 (sortP acc) = dr1 acc := dr1_congr hf
    have e2 : dr2 (sortP acc) = dr2 acc := dr2_congr hf
    have fin : ∀ {Q : APost}, drQ Q (sortP acc) (dr2 (sortP acc)) → ∀ ex, awp Γ f_spec_DRead_6 Q ⟨(2, .ref 2 0) :: (4, pairV (sortP acc)) :: ex, [(2, .cells dzero)]⟩ := fun hQ => dr_5 h84 h70 h87 h85 h86 hu hl hL hQ
    rw [e2] at fin
    have b1 := partsV_sl (findP acc [104])
    have b2 := servD_sl (findP acc [115])
    have b3 := partsV_sl (findP acc [116])
    have r0 := slp_ref hu
    have r1 := slp_snap hu
    have r2 := slp_kill hu
    generalize pairV (sortP acc) = u at *
    have post : drQ (finQ [.c (some 9) 2, .t 3] fun v => v = (match dr1 acc with
      | none => AV.tup [.agg dzero, .int .i64 2]
      | some (k, b) => .tup [.agg (dcells k b (partsV (findP acc [104])) (servD (findP acc [115])) (partsV (findP acc [116])) ((findP acc [110]).getD []) (findP acc [104]).isNone (anyD (findP acc [115]))), .int .i64 0])) (sortP acc) (dr1 acc) := by
      cases hd : dr1 acc with
      | none => simp [drQ, dzero]
      | some kb =>
        obtain ⟨k, b⟩ := kb
        obtain ⟨l1, b1⟩ := b1
        obtain ⟨l2, b2⟩ := b2
        obtain ⟨l3, b3⟩ := b3
        have c1 := slf_cells b1
        have c2 := slf_cells b2
        have c3 := slf_cells b3
        simp only [cells] at c1 c2 c3
        simp [drQ, hf, dcells, c1, c2, c3, slf_atom b1, slf_atom b2, slf_atom b3, slf_snap b1, slf_snap b2, slf_snap b3]
    cases hv : findP acc [118] with
    | none =>
      rw [hv] at k84
      have ed : dr1 acc = dr2 acc := by simp [dr1, hv]
      rw [ed] at post ⊢
      simp -implicitDefEqProofs [c_spec_DRead, acall, h52, k52, h84, k84, valV, r0, r1, r2]
      exact fin post _
    | some v =>
      rw [hv] at k84
      by_cases hd1 : v = dk1
      · subst hd1
        have ed : dr1 acc = dr2 acc := by simp [dr1, hv]
        rw [ed] at post ⊢
        simp -implicitDefEqProofs [c_spec_DRead, acall, h52, k52, h84, k84, valV, r0, r1, r2, dk1]
        exact fin post _
      · have ed : dr1 acc = none := by simp [dr1, hv, hd1]
        rw [ed]
        simp only [dk1] at hd1
        simp -implicitDefEqProofs [c_spec_DRead, acall, h52, k52, h84, k84, valV, r0, r1, r2, hd1, dzero]
end Wax

/- FnDRecords (15): what is read is what is to be read; the statement. -/
namespace Wax
open Go (IntKind)

theorem sw_kb (acc : List (List UInt8 × List UInt8)) (b : List UInt8) : (match swRes acc b with | .inl _ => none | .inr k => some (k, b)) = kb (kindOf acc) b := by
  have hl : lookP acc [107] = rsaB ∨ lookP acc [107] = [] ↔ kindOf acc = rsaB := by
    rw [lookP_findP]
    cases h : findP acc [107] with
    | none => simp [kindOf, h]
    | some k => by_cases hk : k = [] <;> simp [kindOf, h, hk]
  have hn : ¬ kindOf acc = rsaB → lookP acc [107] = kindOf acc := by
    rw [lookP_findP]
    cases h : findP acc [107] with
    | none => simp [kindOf, h]
    | some k => by_cases hk : k = [] <;> simp [kindOf, h, hk]
  simp only [swRes, hl, kb]
  by_cases h1 : kindOf acc = rsaB
  · simp only [if_pos h1]
    by_cases hs : 8 * (b.length : Int) < 1024 <;> simp [hs]
  · simp only [if_neg h1]
    rw [hn h1]
    by_cases h2 : kindOf acc = edB
    · simp only [if_pos h2]
      by_cases hs : b.length = 32 <;> simp [hs]
    · simp [if_neg h2]

theorem pk_dr2 (acc : List (List UInt8 × List UInt8)) : (match pk2 acc with | .inl _ => none | .inr x => some x) = dr2 acc := by
  simp only [pk2, dr2]
  cases findP acc [112] with
  | none => rfl
  | some p =>
    by_cases hp : p = []
    · simp [hp]
    · simp only [if_neg hp, pk3]
      rw [bare_clean, dec_law]
      cases dec64 quadS (bareS p) with
      | none => rfl
      | some b =>
        simp only
        rw [← sw_kb]
        cases swRes acc b with
        | inl x => rfl
        | inr k => rfl

theorem pk_dr1 (acc : List (List UInt8 × List UInt8)) : (match pk1 acc with | .inl _ => none | .inr x => some x) = dr1 acc := by
  simp only [pk1, dr1]
  cases findP acc [118] with
  | none => exact pk_dr2 acc
  | some v =>
    by_cases hv : v = dk1
    · simp only [if_pos hv]; exact pk_dr2 acc
    · simp [hv]

theorem kb_size {k k' b b' : List UInt8} (h : kb k b = some (k', b')) : szOf k' b' = 8 * (b'.length : Int) := by
  simp only [kb] at h
  split at h
  · split at h
    · simp at h
    · simp at h; obtain ⟨rfl, rfl⟩ := h; rfl
  · split at h
    · split at h
      · rename_i hs
        simp at h; obtain ⟨rfl, rfl⟩ := h
        show (256 : Int) = _
        omega
      · simp at h
    · simp at h

theorem dr1_size {acc : List (List UInt8 × List UInt8)} {k b : List UInt8} (h : dr1 acc = some (k, b)) : szOf k b = 8 * (b.length : Int) := by
  have h2 : dr2 acc = some (k, b) := by
    simp only [dr1] at h
    split at h
    · split at h
      · exact h
      · simp at h
    · exact h
  simp only [dr2] at h2
  split at h2
  · simp at h2
  · split at h2
    · simp at h2
    · split at h2
      · simp at h2
      · exact kb_size h2

theorem isNil_tag (x : Option (List UInt8)) : isNilS (tagVal x) = x.isNone := by cases x <;> rfl
theorem tagL_parts {v : List UInt8} (h : plain v = true) : tagL v = splitB 58 (stripD v) := by
  rw [← split_strip, tagL]
  refine List.map_congr_left fun p hp => ?_
  refine strip_plain ?_
  have := splitB_sub 58 v p hp
  simp only [plain, List.all_eq_true] at h ⊢
  exact fun y hy => h y (this y hy)
theorem isNil_serv (x : Option (List UInt8)) (h : ∀ v, x = some v → plain v = true) : isNilS (servVal x) = anyD x := by
  cases x with
  | none => rfl
  | some v =>
    simp only [servVal, anyD, tagL_parts (h v rfl)]
    by_cases hm : [42] ∈ splitB 58 (stripD v) <;> simp [hm, isNilS]

def con_FnDRecords : List AV → Option AV
  | [.str s] => if s.length < 9223372036854775808 then some (.bool true) else none
  | _ => none

set_option maxHeartbeats 4000000 in
set_option maxRecDepth 10000 in
theorem ok_FnDRecords (Γ : Gam) (h10 : Γ.fn 10 = con_dShort) (h11 : Γ.fn 11 = con_dAwake) (h88 : Γ.fn 88 = con_DRecord) (h89 : Γ.fn 89 = con_DRead) :
    ∀ args r, con_FnDRecords args = some r → runs Γ c_laws_FnDRecords args (fun v => v = r) := by
  intro args r h
  simp only [con_FnDRecords] at h
  split at h <;> (try simp at h; done)
  rename_i s
  obtain ⟨hs, rfl⟩ := ite_some h
  clear h
  by_cases hl : (2147483647 : Int) < (s.length : Int)
  · simp -implicitDefEqProofs [c_laws_FnDRecords, hl]
  have ds : con_dShort [.int .i64 2000, .sl 1 [.str s]] = some (.bool (dShort 2000 [s])) := by
    have : slStrs (.sl 1 [.str s]) = some [s] := by simp [slStrs, asStrs]
    simp only [con_dShort, this]
    exact if_pos ⟨by simp [big], by simp [big]; omega⟩
  cases hA : dShort 2000 [s] with
  | false =>
    rw [hA] at ds
    simp -implicitDefEqProofs [c_laws_FnDRecords, hl, acall, h10, ds, h11, con_dAwake]
  | true =>
    rw [hA] at ds
    obtain ⟨a1, _⟩ := dShort_all hA
    obtain ⟨a2, a3⟩ := a1 s (by simp)
    have hh : s.length + 1 < half := by simp only [half]; omega
    have k88 : con_DRecord [.str s] = some (drV s) := if_pos ⟨by omega, a2⟩
    have k89 : con_DRead [.str s] = some (dreadV s) := if_pos ⟨hh, a2⟩
    have hv := prm_vals s.length (splitB 59 s) [] (fun p h => ⟨splitB_mem_length 59 s p h, splitB_plain 59 s p a2 h⟩) (by simp)
    simp only [drV] at k88
    simp only [dreadV] at k89
    generalize prm (splitB 59 s) [] = x at *
    obtain ⟨acc, e⟩ := x
    cases e with
    | some m =>
      simp only [dkeyZ, dzero] at k88 k89
      simp -implicitDefEqProofs [c_laws_FnDRecords, hl, acall, h10, ds, h88, k88, h89, k89, h11, con_dAwake]
    | none =>
      dsimp only at k88 k89
      have hd := pk_dr1 acc
      cases hp : pk1 acc with
      | inl x =>
        rw [hp] at hd k88
        simp only at hd
        rw [← hd] at k89
        simp only [dkeyZ, dzero] at k88 k89
        simp -implicitDefEqProofs [c_laws_FnDRecords, hl, acall, h10, ds, h88, k88, h89, k89, h11, con_dAwake]
      | inr x =>
        obtain ⟨k, b⟩ := x
        rw [hp] at hd k88
        simp only at hd
        rw [← hd] at k89
        have hz := dr1_size hd.symm
        have i1 := isNil_tag (findP acc [104])
        have i2 := isNil_serv (findP acc [115]) (fun v h => (hv _ (findP_mem h)).2)
        simp only [dkey, hz, i1, i2, noteVal] at k88
        simp only [dcells] at k89
        have t1 := tagVal_sl (findP acc [104])
        obtain ⟨l2, t2⟩ := servVal_sl (findP acc [115])
        have t3 := tagVal_sl (findP acc [116])
        obtain ⟨l1, b1⟩ := partsV_sl (findP acc [104])
        obtain ⟨l2', b2⟩ := servD_sl (findP acc [115])
        obtain ⟨l3, b3⟩ := partsV_sl (findP acc [116])
        have c1 := slf_cells t1
        have c2 := slf_cells t2
        have c3 := slf_cells t3
        have d1 := slf_cells b1
        have d2 := slf_cells b2
        have d3 := slf_cells b3
        generalize tagVal (findP acc [104]) = T1 at *
        generalize servVal (findP acc [115]) = T2 at *
        generalize tagVal (findP acc [116]) = T3 at *
        generalize partsV (findP acc [104]) = U1 at *
        generalize servD (findP acc [115]) = U2 at *
        generalize partsV (findP acc [116]) = U3 at *
        simp only [cells] at c1 c2 c3 d1 d2 d3
        simp -implicitDefEqProofs [c_laws_FnDRecords, hl, acall, h10, ds, h88, k88, h89, k89, c1, c2, c3, d1, d2, d3, slf_ref t1, slf_ref t2, slf_ref t3, slf_ref b1, slf_ref b2, slf_ref b3, slf_kill t1, slf_kill t2, slf_kill t3, slf_kill b1, slf_kill b2, slf_kill b3, slf_atom t1, slf_atom t2, slf_atom t3, slf_atom b1, slf_atom b2, slf_atom b3, flat_bcA]
end Wax

/- FnDRecordBack (4): the record of a key is read as this key. -/
namespace Wax
open Go (IntKind)

def con_Encode : List AV → Option AV := con_zzEncode
theorem ok_Encode (Γ : Gam) (h93 : Γ.fn 93 = con_zzEncode) : ∀ args r, con_Encode args = some r → runs Γ c_dkim_Encode args (fun v => v = r) := by
  intro args r h
  simp only [con_Encode] at h
  have h' := h
  simp only [con_zzEncode] at h
  split at h <;> (try simp at h; done)
  split at h <;> (try simp at h; done)
  rename_i cs _ o ho
  have := bytesOf_eq ho
  subst this
  obtain ⟨_, rfl⟩ := ite_some h
  simp -implicitDefEqProofs [c_dkim_Encode, acall, h93, h']

def recT (k b : List UInt8) : List UInt8 := [118, 61, 68, 75, 73, 77, 49, 59, 32, 107, 61] ++ k ++ [59, 32, 112, 61] ++ enc64 b

def con_DPublic (args : List AV) : Option AV := match optsOf args with
  | some x => if x.a3.length < half ∧ x.key.length < half ∧ x.key ≠ [] then some (.str (recT x.a3 x.key)) else none
  | none => none

set_option maxHeartbeats 8000000 in
set_option maxRecDepth 10000 in
theorem ok_DPublic (Γ : Gam) (h92 : Γ.fn 92 = con_Encode) : ∀ args r, con_DPublic args = some r → runs Γ c_impl_DPublic args (fun v => v = r) := by
  intro args r h
  simp only [con_DPublic] at h
  split at h <;> (try simp at h; done)
  rename_i x hx
  obtain ⟨⟨f1, f2, f3⟩, rfl⟩ := ite_some h
  obtain ⟨kb, ks, q, rfl, h1, h2, h3⟩ := optsOf_eq hx
  clear h hx
  obtain ⟨a0, a1, a2, a3, o, a5, a6, kl, al, e, n, ql⟩ := x
  simp only at *
  have ck := slf_cells h2
  have cq := slf_cells h3
  simp only [cells] at ck cq
  rcases slBytes_cases h1 with ⟨_, he⟩ | rfl
  · exact absurd he f3
  simp only [half] at f1 f2
  have k92 : con_Encode [.sl 1 (bcA o)] = some (.str (enc64 o)) := by simp only [con_Encode, con_zzEncode, bytesOf_bcA]; exact if_pos (by simp only [mid]; omega)
  have hl := enc_len o
  simp -implicitDefEqProofs [ck, cq, slf_kill h2, slf_kill h3, slf_atom h2, slf_atom h3, c_impl_DPublic, acall, h92, k92]
  exact ⟨by omega, by omega, by omega, by simp [recT]⟩

theorem enc_noB {b : List UInt8} (c : Int) (hc : c < 43 ∨ c = 59) : noB c (enc64 b) := by
  intro x hx
  have := enc_ok b x hx
  simp only [SgOk] at this
  omega

theorem enc_trim {b : List UInt8} (h : b ≠ []) : trimS (enc64 b) = enc64 b := by
  have := trimS_word (n := enc64 b) (b := []) (fun x hx => by
    have := enc_ok b x hx
    simp only [SgOk] at this
    simp only [isWs, Bool.or_eq_false_iff, decide_eq_false_iff_not]
    omega) (enc_ne b h) (by intro x hx; simp at hx)
  simpa using this

theorem plainB_sg {x : UInt8} (h : SgOk x) : plainB x = true := by
  obtain ⟨h1, h2, _⟩ := h
  exact decide_eq_true ⟨by omega, by omega, by omega⟩

theorem enc_plain (b : List UInt8) : plain (enc64 b) = true := by
  simp only [plain, List.all_eq_true]
  exact fun x hx => plainB_sg (enc_ok b x hx)

theorem recT_prm {k b : List UInt8} (hk : k = rsaB ∨ k = edB) (hb : b ≠ []) : prm (splitB 59 (recT k b)) [] = ([([118], dk1), ([107], k), ([112], enc64 b)], none) := by
  have hk59 : noB 59 k := by rcases hk with rfl | rfl <;> (simp only [noB]; decide)
  have hkt : trimS k = k := by rcases hk with rfl | rfl <;> decide
  have e : recT k b = [118, 61, 68, 75, 73, 77, 49] ++ 59 :: (([32, 107, 61] ++ k) ++ 59 :: ([32, 112, 61] ++ enc64 b)) := by simp [recT]
  have c1 : cutAt ((59 : UInt8).toNat : Int) ([118, 61, 68, 75, 73, 77, 49] ++ 59 :: (([32, 107, 61] ++ k) ++ 59 :: ([32, 112, 61] ++ enc64 b))) = some (_, _) := cutAt_noB (by simp only [noB]; decide)
  have c2 : cutAt ((59 : UInt8).toNat : Int) (([32, 107, 61] ++ k) ++ 59 :: ([32, 112, 61] ++ enc64 b)) = some (_, _) := cutAt_noB (by
    intro x hx
    rcases List.mem_append.1 hx with hx | hx
    · simp at hx; rcases hx with rfl | rfl | rfl <;> decide
    · exact hk59 x hx)
  have c3 : cutAt ((59 : UInt8).toNat : Int) ([32, 112, 61] ++ enc64 b) = none := by
    have h : noB 59 ([32, 112, 61] ++ enc64 b) := by
      intro x hx
      rcases List.mem_append.1 hx with hx | hx
      · simp at hx; rcases hx with rfl | rfl | rfl <;> decide
      · exact enc_noB 59 (.inr rfl) x hx
    have := cutAt_app ((59 : UInt8).toNat : Int) ([32, 112, 61] ++ enc64 b) [] h
    simpa [cutAt] using this
  have d1 : cutAt 61 [118, 61, 68, 75, 73, 77, 49] = some ([118], [68, 75, 73, 77, 49]) := by decide
  have d2 : cutAt 61 ([32, 107, 61] ++ k) = some ([32, 107], k) := by simp [cutAt]
  have d3 : cutAt 61 ([32, 112, 61] ++ enc64 b) = some ([32, 112], enc64 b) := by simp [cutAt]
  have t1 : trimS [118] = [118] := by decide
  have t2 : trimS [32, 107] = [107] := by decide
  have t3 : trimS [32, 112] = [112] := by decide
  have t4 : trimS [68, 75, 73, 77, 49] = dk1 := by decide
  rw [e, splitB_cut, c1]
  simp only
  rw [splitB_cut, c2]
  simp only
  rw [splitB_cut, c3]
  simp only [prm, d1, d2, d3, t1, t2, t3, t4, hkt, enc_trim hb]
  simp [hasK]

theorem recT_pk {k b : List UInt8} (hk : k = edB ∧ b.length = 32 ∨ k = rsaB ∧ 128 ≤ b.length) : pk1 [([118], dk1), ([107], k), ([112], enc64 b)] = .inr (k, b) := by
  have hb : b ≠ [] := by rintro rfl; rcases hk with ⟨_, h⟩ | ⟨_, h⟩ <;> simp at h
  have h1 : noBlank (enc64 b) = enc64 b := noBlank_id (enc_noB 32 (.inl (by omega)))
  have h2 : cleanS (enc64 b) = enc64 b := by
    simp only [cleanS]
    apply List.filter_eq_self.2
    intro x hx
    have := enc_ok b x hx
    simp only [SgOk] at this
    simp
    omega
  have f1 : findP [([118], dk1), ([107], k), ([112], enc64 b)] [118] = some dk1 := by simp [findP]
  have f2 : findP [([118], dk1), ([107], k), ([112], enc64 b)] [112] = some (enc64 b) := by simp [findP]
  have f3 : lookP [([118], dk1), ([107], k), ([112], enc64 b)] [107] = k := by simp [lookP]
  simp only [pk1, f1, if_true, pk2, f2, if_neg (enc_ne b hb), pk3, h1, h2, dec_enc, swRes, f3]
  rcases hk with ⟨rfl, hl⟩ | ⟨rfl, hl⟩
  · have n1 : ¬ (edB = rsaB ∨ edB = []) := by decide
    rw [if_neg n1]
    simp [hl]
  · have n1 : ¬ (8 * (b.length : Int) < 1024) := by omega
    simp [n1]

theorem recT_drV {k b : List UInt8} (hk : k = edB ∧ b.length = 32 ∨ k = rsaB ∧ 128 ≤ b.length) : ∃ n, drV (recT k b) = .tup [.agg [.str k, .sl 1 (bcA b), .int .i64 n, .nilS, .nilS, .nilS, .str [], .bool true, .bool true], .int .i64 0] := by
  have hb : b ≠ [] := by rintro rfl; rcases hk with ⟨_, h⟩ | ⟨_, h⟩ <;> simp at h
  have h0 : k = rsaB ∨ k = edB := by rcases hk with ⟨h, _⟩ | ⟨h, _⟩ <;> simp [h]
  refine ⟨szOf k b, ?_⟩
  simp only [drV, recT_prm h0 hb, recT_pk hk, dkey]
  have f1 : findP [([118], dk1), ([107], k), ([112], enc64 b)] [104] = none := by simp [findP]
  have f2 : findP [([118], dk1), ([107], k), ([112], enc64 b)] [115] = none := by simp [findP]
  have f3 : findP [([118], dk1), ([107], k), ([112], enc64 b)] [116] = none := by simp [findP]
  have f4 : findP [([118], dk1), ([107], k), ([112], enc64 b)] [110] = none := by simp [findP]
  simp only [f1, f2, f3, f4, tagVal, servVal, noteVal, isNilS, Option.getD_none]
def con_FnDRecordBack (args : List AV) : Option AV := match optsOf args with
  | some x => if x.sane then some (.bool true) else none
  | none => none

set_option maxHeartbeats 8000000 in
set_option maxRecDepth 10000 in
theorem ok_FnDRecordBack (Γ : Gam) (h11 : Γ.fn 11 = con_dAwake) (h94 : Γ.fn 94 = con_zzFits10) (h95 : Γ.fn 95 = con_dOptions) (h96 : Γ.fn 96 = con_dKeyed) (h97 : Γ.fn 97 = con_DPublic) (h88 : Γ.fn 88 = con_DRecord) : ∀ args r, con_FnDRecordBack args = some r → runs Γ c_laws_FnDRecordBack args (fun v => v = r) := by
  intro args r h
  simp only [con_FnDRecordBack] at h
  split at h <;> (try simp at h; done)
  rename_i x hx
  obtain ⟨hs, rfl⟩ := ite_some h
  obtain ⟨kb, ks, q, rfl, h1, h2, h3⟩ := optsOf_eq hx
  clear h
  have k94 : con_zzFits10 [.agg [.str x.a0, .str x.a1, .str x.a2, .str x.a3, kb, .str x.a5, .str x.a6, ks, .bool x.al, .int .i64 x.ex, .int .i64 x.now, q]] = some (.bool x.fits) := by simp only [con_zzFits10, hx]; exact if_pos hs
  have k96 : con_dKeyed [.agg [.str x.a0, .str x.a1, .str x.a2, .str x.a3, kb, .str x.a5, .str x.a6, ks, .bool x.al, .int .i64 x.ex, .int .i64 x.now, q]] = some (.bool x.keyed) := by simp only [con_dKeyed, hx]; exact if_pos hs
  have cb := slb_cells h1
  have ck := slf_cells h2
  have cq := slf_cells h3
  simp only [cells] at cb ck cq
  cases hf : x.fits with
  | false =>
    rw [hf] at k94
    simp -implicitDefEqProofs [cb, ck, cq, slb_kill h1, slf_kill h2, slf_kill h3, slb_atom h1, slf_atom h2, slf_atom h3, slb_ref h1, slf_ref h2, slf_ref h3, slb_snap h1, slf_snap h2, slf_snap h3, c_laws_FnDRecordBack, acall, h94, k94]
  | true =>
    rw [hf] at k94
    have k95 : con_dOptions [.agg [.str x.a0, .str x.a1, .str x.a2, .str x.a3, kb, .str x.a5, .str x.a6, ks, .bool x.al, .int .i64 x.ex, .int .i64 x.now, q]] = some (.bool x.good) := by simp only [con_dOptions, hx]; exact if_pos hf
    cases hg : x.good with
    | false =>
      rw [hg] at k95
      simp -implicitDefEqProofs [cb, ck, cq, slb_kill h1, slf_kill h2, slf_kill h3, slb_atom h1, slf_atom h2, slf_atom h3, slb_ref h1, slf_ref h2, slf_ref h3, slb_snap h1, slf_snap h2, slf_snap h3, c_laws_FnDRecordBack, acall, h94, k94, h95, k95, h11, con_dAwake]
    | true =>
      rw [hg] at k95
      cases hk : x.keyed with
      | false =>
        rw [hk] at k96
        simp -implicitDefEqProofs [cb, ck, cq, slb_kill h1, slf_kill h2, slf_kill h3, slb_atom h1, slf_atom h2, slf_atom h3, slb_ref h1, slf_ref h2, slf_ref h3, slb_snap h1, slf_snap h2, slf_snap h3, c_laws_FnDRecordBack, acall, h94, k94, h95, k95, h96, k96, h11, con_dAwake]
      | true =>
        rw [hk] at k96
        have hkk : x.a3 = edB ∧ x.key.length = 32 ∨ x.a3 = rsaB ∧ 128 ≤ x.key.length := by
          simpa [Opts.keyed] using hk
        have h0 : x.a3 = rsaB ∨ x.a3 = edB := by rcases hkk with ⟨h, _⟩ | ⟨h, _⟩ <;> simp [h]
        have hne : x.key ≠ [] := by intro h; rw [h] at hkk; rcases hkk with ⟨_, h⟩ | ⟨_, h⟩ <;> simp at h
        have hlen : x.key.length ≤ 1000 := by
          simp only [Opts.good, Bool.and_eq_true, decide_eq_true_eq] at hg
          omega
        have hl3 : x.a3.length ≤ 7 := by rcases h0 with h | h <;> rw [h] <;> decide
        have k97 : con_DPublic [.agg [.str x.a0, .str x.a1, .str x.a2, .str x.a3, kb, .str x.a5, .str x.a6, ks, .bool x.al, .int .i64 x.ex, .int .i64 x.now, q]] = some (.str (recT x.a3 x.key)) := by
          simp only [con_DPublic, hx]
          exact if_pos ⟨by simp only [half]; omega, by simp only [half]; omega, hne⟩
        have hel := enc_len x.key
        have hpt : plain (recT x.a3 x.key) = true := by
          have hp3 : plain x.a3 = true := by rcases h0 with h | h <;> rw [h] <;> decide
          simp only [recT, plain_ap, hp3, enc_plain, Bool.and_true]
          decide
        obtain ⟨m, hd⟩ := recT_drV hkk
        have k88 : con_DRecord [.str (recT x.a3 x.key)] = some (drV (recT x.a3 x.key)) := by
          refine if_pos ⟨?_, hpt⟩
          simp only [recT, List.length_append, List.length_cons, List.length_nil, half]
          omega
        rw [hd] at k88
        rcases slBytes_cases h1 with ⟨_, he⟩ | rfl
        · exact absurd he hne
        simp -implicitDefEqProofs [cb, ck, cq, slf_kill h2, slf_kill h3, slf_atom h2, slf_atom h3, slf_ref h2, slf_ref h3, slf_snap h2, slf_snap h3, c_laws_FnDRecordBack, acall, h94, k94, h95, k95, h96, k96, h97, k97, h88, k88, flat_bcA]
end Wax

/- Arguments as the rows hand them in: bytes; options. -/
namespace Wax
open Go Go.ChangeShapes Go.WideShapes Go.RowKit

section
variable {P : Program} {T : Tab} {w : World} {H : Type} {enc : TypeId × Value → H}

theorem u8_has {n : Int} (h : (Lit.int .u8 n).wf = true) : 0 ≤ n ∧ n < 256 := by
  simp only [Lit.wf] at h
  have : 0 ≤ n ∧ n ≤ 255 := by simpa [IntKind.min, IntKind.max, IntKind.bits, IntKind.signed] using h
  omega

/-- Numbers of bytes as bytes. -/
def toB (zs : List Int) : List UInt8 := zs.map fun n => UInt8.ofNat n.toNat

theorem repSl_bytes {F : Frz} {b : Nat} (hF : F b) : ∀ (o : List UInt8) (k : Nat), (∀ (j : Nat) s, o[j]? = some s → w.cell? ⟨b, k + j, none⟩ = some (.int .u8 (s.toNat : Int))) → RepSl T w F 1 b k (bcA o)
  | [], _, _ => trivial
  | x :: r, k, h => by
    simp only [bcA_cons, RepSl]
    refine ⟨trivial, ⟨hF, _, by simpa using h 0 x rfl, by simp [Rep]⟩, ?_⟩
    exact repSl_bytes hF r (k + 1) fun j s hj => by
      rw [show k + 1 + j = k + (j + 1) by omega]
      exact h (j + 1) s (by simpa using hj)

theorem open_bytes {t e : TypeId} {base : Nat} {v : Value} {d : DataW H} {ps : List MemPlace} (ht : P.underlying t = some (.slice e)) (he : P.underlying e = some (.int .u8)) (hc : P.cellsOf e = 1)
    (hval : Value.okWide P w .any base t v) (h : DataW.Trod enc P w 0 (fun _ => true) true t v d ps) :
    ∃ (x : AV) (o : List UInt8), slBytes x = some o ∧ Rep T w (fun k => k < w.heap.size) noRho x v ∧ o.length < 9223372036854775808 := by
  obtain ⟨a0, len0, cap0, rfl⟩ := okWide_slice ht hval
  obtain ⟨fuel, hf⟩ := h
  rcases open_ints ht he hc hf with ⟨hcs, _⟩ | ⟨a, len, cap, zs, hcs, _, hl, hm, hsl, _, hcell, hwf⟩
  · simp [Value.cells] at hcs
    obtain ⟨rfl, rfl, rfl⟩ := hcs
    exact ⟨.nilS, [], rfl, by simp [Rep], by simp⟩
  · simp [Value.cells] at hcs
    obtain ⟨rfl, rfl, rfl⟩ := hcs
    obtain ⟨b, o, rfl, hb⟩ := okWide_place ht hval
    simp only [if_true] at hsl
    obtain ⟨l, hl'⟩ : ∃ l : List UInt8, l = toB (zs.take len0) := ⟨_, rfl⟩
    have hll : l.length = len0 := by rw [hl', toB, List.length_map, List.length_take]; omega
    have h1 : cap0 ≤ 9223372036854775807 := hm
    refine ⟨.sl 1 (bcA l), l, ?_, ?_, by omega⟩
    · simp [slBytes]
    · simp only [Rep]
      refine ⟨b, o, cap0, ?_, ?_, ?_⟩
      · simp [hll]
      · simp [hll]; exact hl
      · refine repSl_bytes (F := fun k => k < w.heap.size) hb l o ?_
        intro j s hj
        have hjl : j < l.length := by
          rcases Nat.lt_or_ge j l.length with h | h
          · exact h
          · simp [List.getElem?_eq_none h] at hj
        have hjs : j < zs.length := by omega
        have := hcell j hjs
        rw [addr_add] at this
        rw [this]
        rw [hl', toB, List.getElem?_map, List.getElem?_take_of_lt (by omega), List.getElem?_eq_getElem hjs] at hj
        simp at hj
        have hz := u8_has (hwf zs[j] (List.getElem_mem hjs))
        rw [List.getD_eq_getElem?_getD, List.getElem?_eq_getElem hjs, Option.getD_some, ← hj]
        have h2 : zs[j].toNat % 256 = zs[j].toNat := Nat.mod_eq_of_lt (by omega)
        simp [h2]
        omega

theorem array12 {α : Type} {cs : Array α} (h : cs.size = 12) : ∃ c0 c1 c2 c3 c4 c5 c6 c7 c8 c9 c10 c11, cs = #[c0, c1, c2, c3, c4, c5, c6, c7, c8, c9, c10, c11] := by
  obtain ⟨l⟩ := cs
  match l, h with
  | [c0, c1, c2, c3, c4, c5, c6, c7, c8, c9, c10, c11], _ => exact ⟨c0, c1, c2, c3, c4, c5, c6, c7, c8, c9, c10, c11, rfl⟩

theorem cell_str {u : TypeId} {c : Value} {base : Nat} (hu : P.underlying u = some .string) (h : Cell.okWide P w .any base u c) : ∃ s, c = .string s ∧ s.data.toList.length < mx := by
  unfold Cell.okWide at h
  rw [hu] at h
  cases c <;> simp [Cell.ok, hu] at h
  rename_i s
  refine ⟨s, rfl, ?_⟩
  have h2 : (s.size : Int) ≤ 9223372036854775807 := h
  simp only [Array.length_toList, mx]
  have : s.data.size = s.size := rfl
  omega
theorem cell_bool {u : TypeId} {c : Value} {base : Nat} (hu : P.underlying u = some .bool) (h : Cell.okWide P w .any base u c) : ∃ s, c = .bool s := by
  unfold Cell.okWide at h
  rw [hu] at h
  cases c <;> simp [Cell.ok, hu] at h
  exact ⟨_, rfl⟩
theorem cell_int {u : TypeId} {c : Value} {base : Nat} {k : IntKind} (hu : P.underlying u = some (.int k)) (h : Cell.okWide P w .any base u c) : ∃ n, c = .int k n := by
  unfold Cell.okWide at h
  rw [hu] at h
  cases c <;> simp [Cell.ok, hu] at h
  obtain ⟨rfl, _⟩ := h
  exact ⟨_, rfl⟩
theorem cell_slice {u e : TypeId} {c : Value} {base : Nat} (hu : P.underlying u = some (.slice e)) (h : Cell.okWide P w .any base u c) : Value.okWide P w .any base u c ∧ c.cells.toList = [c] := by
  have h1 : Value.okWide P w .any base u c := by unfold Value.okWide; rw [hu]; exact h
  obtain ⟨a, l, k, rfl⟩ := okWide_slice hu h1
  exact ⟨h1, rfl⟩

theorem open_opts {t ts tB tb tS tl ti : TypeId} {fs : Array Field} {base : Nat} {v : Value} {d : DataW H} {ps : List MemPlace}
    (ht : P.underlying t = some (.struct fs)) (hct : P.cellTypes P.depth t = some [ts, ts, ts, ts, tB, ts, ts, tS, tl, ti, ti, tS]) (hC : P.cellsOf t = 12)
    (us : P.underlying ts = some .string) (uB : P.underlying tB = some (.slice tb)) (ub : P.underlying tb = some (.int .u8)) (cb : P.cellsOf tb = 1) (uS : P.underlying tS = some (.slice ts)) (cs1 : P.cellsOf ts = 1) (ul : P.underlying tl = some .bool) (ui : P.underlying ti = some (.int .i64))
    (f4 : ∃ f, fs[4]? = some f ∧ f.type = tB ∧ f.offset = 4) (f7 : ∃ f, fs[7]? = some f ∧ f.type = tS ∧ f.offset = 7) (f11 : ∃ f, fs[11]? = some f ∧ f.type = tS ∧ f.offset = 11) (cB : P.cellsOf tB = 1) (cS : P.cellsOf tS = 1) (nf : fs.size = 12)
    (hval : Value.okWide P w .any base t v) (h : DataW.Trod enc P w 0 (fun _ => true) true t v d ps) :
    ∃ (x : AV) (o : Opts), optsOf [x] = some o ∧ Rep T w (fun k => k < w.heap.size) noRho x v ∧ o.sane := by
  unfold Value.okWide at hval
  rw [ht] at hval
  obtain ⟨cs, rfl, hsz, ts', hts, _, hcell⟩ := hval
  rw [hct] at hts
  injection hts with hts
  subst hts
  obtain ⟨c0, c1, c2, c3, c4, c5, c6, c7, c8, c9, c10, c11, rfl⟩ := array12 (hsz.trans hC)
  have g : ∀ i u c, ([ts, ts, ts, ts, tB, ts, ts, tS, tl, ti, ti, tS] : List TypeId)[i % 12]? = some u → (#[c0, c1, c2, c3, c4, c5, c6, c7, c8, c9, c10, c11] : Array Value)[i]? = some c → Cell.okWide P w .any base u c := by
    intro i u c hu hc
    obtain ⟨u', h1, h2⟩ := hcell i c hc
    simp only [List.length_cons, List.length_nil] at h1
    rw [hu] at h1
    injection h1 with h1
    subst h1
    exact h2
  obtain ⟨s0, rfl, b0⟩ := cell_str us (g 0 ts c0 rfl rfl)
  obtain ⟨s1, rfl, b1⟩ := cell_str us (g 1 ts c1 rfl rfl)
  obtain ⟨s2, rfl, b2⟩ := cell_str us (g 2 ts c2 rfl rfl)
  obtain ⟨s3, rfl, b3⟩ := cell_str us (g 3 ts c3 rfl rfl)
  obtain ⟨o4, q4⟩ := cell_slice uB (g 4 tB c4 rfl rfl)
  obtain ⟨s5, rfl, b5⟩ := cell_str us (g 5 ts c5 rfl rfl)
  obtain ⟨s6, rfl, b6⟩ := cell_str us (g 6 ts c6 rfl rfl)
  obtain ⟨o7, q7⟩ := cell_slice uS (g 7 tS c7 rfl rfl)
  obtain ⟨l8, rfl⟩ := cell_bool ul (g 8 tl c8 rfl rfl)
  obtain ⟨n9, rfl⟩ := cell_int ui (g 9 ti c9 rfl rfl)
  obtain ⟨n10, rfl⟩ := cell_int ui (g 10 ti c10 rfl rfl)
  obtain ⟨o11, q11⟩ := cell_slice uS (g 11 tS c11 rfl rfl)
  obtain ⟨fuel, hf⟩ := h
  obtain ⟨xs, n, _, _, _, hxs, hfs⟩ := DataW.trod_struct ht hf
  have field : ∀ (i : Nat) (u : TypeId) (c : Value), (∃ f, fs[i]? = some f ∧ f.type = u ∧ f.offset = i) → P.cellsOf u = 1 → i < 12 → ([Value.string s0, .string s1, .string s2, .string s3, c4, .string s5, .string s6, c7, .bool l8, .int .i64 n9, .int .i64 n10, c11].drop i).take 1 = [c] → c.cells.toList = [c] → ∃ d ps, DataW.Trod enc P w 0 (fun _ => true) true u c d ps := by
    rintro i u c ⟨f, e1, rfl, e3⟩ hc hi hd hcc
    have := hfs i f e1
    rw [e3, hc] at this
    have hi' : i < xs.length := by omega
    rw [List.getElem?_eq_getElem hi'] at this
    simp only [Value.cells] at this
    rw [hd] at this
    exact ⟨xs[i].1, xs[i].2, n, by rw [hcc]; exact this⟩
  obtain ⟨d4, p4, t4⟩ := field 4 tB c4 f4 cB (by omega) rfl q4
  obtain ⟨d7, p7, t7⟩ := field 7 tS c7 f7 cS (by omega) rfl q7
  obtain ⟨d11, p11, t11⟩ := field 11 tS c11 f11 cS (by omega) rfl q11
  obtain ⟨x4, k4, e4, r4, l4⟩ := open_bytes (T := T) uB ub cb o4 t4
  obtain ⟨x7, k7, e7, r7, l7⟩ := open_strs (T := T) uS us cs1 o7 t7
  obtain ⟨x11, k11, e11, r11, l11⟩ := open_strs (T := T) uS us cs1 o11 t11
  refine ⟨.agg [.str s0.data.toList, .str s1.data.toList, .str s2.data.toList, .str s3.data.toList, x4, .str s5.data.toList, .str s6.data.toList, x7, .bool l8, .int .i64 n9, .int .i64 n10, x11], ⟨s0.data.toList, s1.data.toList, s2.data.toList, s3.data.toList, k4, s5.data.toList, s6.data.toList, k7, l8, n9, n10, k11⟩, ?_, ?_, ?_⟩
  · simp only [optsOf, e4, e7, e11]
  · simp only [Rep]
    exact ⟨_, rfl, by simp [RepL, Rep, r4, r7, r11]⟩
  · exact ⟨b0, b1, b2, b3, l4, b5, b6, l7, l11⟩
end
end Wax

