/- The machine by which the functions are read, and what is proved of them (part 4): no premise. -/
import Derived.Lib.Join
import Derived.Laws.OwnMore
import Derived.Lib.ParseIntBTie
import Derived.Lib.ConvBytes
import Derived.Test.YtflhiclingkonaaDoorWc
/- Functions as the abstract machine has them. -/
namespace Wax
open Go (IntKind)

/- spec.DSplit -/
def b_spec_DSplit_1 : SCode :=
  (.block 1
    (.seq
      (.region [
        ⟨some 10, .mv (.t 0), none⟩,
        ⟨some 11, .mv (.t 1), none⟩,
        ⟨some 12, .call 2 [(.t 10), (.t 11)], none⟩,
        ⟨some 9, .mv (.t 12), none⟩,
        ⟨some 13, .extr (.t 9) 0, none⟩,
        ⟨some 14, .extr (.t 9) 1, none⟩,
        ⟨some 15, .extr (.t 9) 2, none⟩,
        ⟨some 6, .mv (.t 13), none⟩,
        ⟨some 7, .mv (.t 14), none⟩,
        ⟨some 8, .mv (.t 15), none⟩] [1, 5, 6, 7, 8] [] [[0], [], [10, 11], [12], [], [], [9], [13], [14]])
      (.seq
        (.region [
          ⟨some 16, .mv (.t 5), none⟩,
          ⟨some 17, .mv (.t 6), none⟩,
          ⟨some 18, .mkSl 1 1 [(.str [])] [(0, (.t 17))], none⟩,
          ⟨some 19, .app 1 16 (.t 16) (.t 18), none⟩,
          ⟨some 5, .mv (.t 19), none⟩] [1, 5, 7, 8] [18] [[], [6], [17], [16, 18]])
        (.seq
          (.seq
            (.region [
              ⟨some 20, .mv (.t 8), none⟩,
              ⟨some 21, .un .not (.t 20), none⟩] [1, 5, 7, 21] [] [[8]])
            (.cond (.t 21)
              (.seq
                (.region [
                  ⟨some 22, .mv (.t 5), none⟩,
                  ⟨some 4, .mv (.t 22), none⟩] [4] [] [[5]])
                .ret)
              .skip))
          (.region [
            ⟨some 23, .mv (.t 7), none⟩,
            ⟨some 0, .mv (.t 23), none⟩] [0, 1, 5] [] [[7]])))))

def c_spec_DSplit : SFn := ⟨2,
    (.seq
      (.region [
        ⟨some 4, .mv (.k .nilS), none⟩] [0, 1] [] [])
      (.seq
        (.region [
          ⟨some 5, .mv (.k .nilS), none⟩] [0, 1, 5] [] [])
        (.block 0
          (.loop [0, 1, 5]
            b_spec_DSplit_1)))),
  [.t 4]⟩

def l_spec_DSplit : Lay := { rg := [(0, ([0, 1], [])), (1, ([0, 1, 5], [])), (2, ([1, 5, 6, 7, 8], [])), (3, ([1, 5, 7, 8], [18])), (4, ([1, 5, 7, 21], [])), (5, ([4], [])), (6, ([0, 1, 5], [])), (1000002, ([0, 1, 5], []))], dd := [(2, [[0], [], [10, 11], [12], [], [], [9], [13], [14]]), (3, [[], [6], [17], [16, 18]]), (4, [[8]]), (5, [[5]]), (6, [[7]])] }

/- laws.dSamePairs -/
def b_laws_dSamePairs_1 : SCode :=
  (.seq
    (.seq
      (.region [
        ⟨some 11, .mv (.t 5), none⟩,
        ⟨some 12, .mv (.t 0), none⟩,
        ⟨some 13, .len 1 (.t 12), none⟩,
        ⟨some 14, .bin .lss (.t 11) (.t 13), none⟩] [0, 1, 5, 14] [] [[], [], [12]])
      (.cond (.t 14)
        .skip
        (.exit 0)))
    (.seq
      (.block 1
        (.seq
          (.region [
            ⟨some 17, .mv (.t 0), none⟩,
            ⟨some 18, .mv (.t 5), none⟩,
            ⟨some 19, .iAddr 2 (.t 17) (.t 18), none⟩,
            ⟨some 20, .load (some 2) (.t 19), none⟩,
            ⟨some 21, .mv (.t 1), none⟩,
            ⟨some 22, .mv (.t 5), none⟩,
            ⟨some 23, .iAddr 2 (.t 21) (.t 22), none⟩,
            ⟨some 24, .load (some 2) (.t 23), none⟩,
            ⟨some 25, .eqA true [2, 2] (.t 20) (.t 24), none⟩] [0, 1, 5, 25] [] [])
          (.cond (.t 25)
            (.seq
              (.region [
                ⟨some 4, .mv (.k (.bool false)), none⟩] [4] [] [])
              .ret)
            .skip)))
      (.region [
        ⟨some 15, .mv (.t 5), none⟩,
        ⟨some 16, .bin .add (.t 15) (.k (.int .i64 1)), none⟩,
        ⟨some 5, .mv (.t 16), none⟩] [0, 1, 5] [] [[], [15]])))

def t_laws_dSamePairs_2 : SCode :=
  (.seq
    (.region [
      ⟨some 4, .mv (.k (.bool true)), none⟩] [4] [] [])
    .ret)

def c_laws_dSamePairs : SFn := ⟨2,
    (.seq
      (.region [
        ⟨some 4, .mv (.k (.bool false)), none⟩] [0, 1] [] [])
      (.seq
        (.seq
          (.region [
            ⟨some 6, .mv (.t 0), none⟩,
            ⟨some 7, .len 1 (.t 6), none⟩,
            ⟨some 8, .mv (.t 1), none⟩,
            ⟨some 9, .len 1 (.t 8), none⟩,
            ⟨some 10, .bin .neq (.t 7) (.t 9), none⟩] [0, 1, 10] [] [[], [6], [], [8]])
          (.cond (.t 10)
            (.seq
              (.region [
                ⟨some 4, .mv (.k (.bool false)), none⟩] [4] [] [])
              .ret)
            .skip))
        (.seq
          (.seq
            (.region [
              ⟨some 5, .mv (.k (.int .i64 0)), none⟩] [0, 1, 5] [] [])
            (.block 0
              (.loop [0, 1, 5]
                b_laws_dSamePairs_1)))
          t_laws_dSamePairs_2))),
  [.t 4]⟩

def l_laws_dSamePairs : Lay := { rg := [(0, ([0, 1], [])), (1, ([0, 1, 10], [])), (2, ([4], [])), (3, ([0, 1, 5], [])), (4, ([0, 1, 5, 14], [])), (5, ([0, 1, 5], [])), (6, ([0, 1, 5, 25], [])), (7, ([4], [])), (8, ([4], [])), (1000004, ([0, 1, 5], []))], dd := [(1, [[], [6], [], [8]]), (4, [[], [], [12]]), (5, [[], [15]])] }

/- impl.DParams -/
def c_impl_DParams : SFn := ⟨1,
    (.seq
      (.region [
        ⟨some 2, .mv (.k .nilS), none⟩,
        ⟨some 3, .mv (.k (.bool false)), none⟩] [0] [] [[2]])
      (.seq
        (.region [
          ⟨some 7, .mv (.t 0), none⟩,
          ⟨some 8, .call 45 [(.t 7)], none⟩,
          ⟨some 6, .mv (.t 8), none⟩,
          ⟨some 9, .extr (.t 6) 0, none⟩,
          ⟨some 10, .extr (.t 6) 1, none⟩,
          ⟨some 4, .mv (.t 9), none⟩,
          ⟨some 5, .mv (.t 10), none⟩] [4, 5] [] [[0], [7], [8], [], [6], [9]])
        (.seq
          (.seq
            (.region [
              ⟨some 11, .mv (.t 5), none⟩,
              ⟨some 12, .isNil 0 true (.t 11), none⟩] [4, 12] [] [[5]])
            (.cond (.t 12)
              (.seq
                (.region [
                  ⟨some 2, .mv (.k .nilS), none⟩,
                  ⟨some 3, .mv (.k (.bool false)), none⟩] [2, 3] [] [])
                .ret)
              .skip))
          (.seq
            (.region [
              ⟨some 13, .mv (.t 4), none⟩,
              ⟨some 14, .call 46 [(.t 13)], none⟩,
              ⟨some 2, .mv (.t 14), none⟩,
              ⟨some 3, .mv (.k (.bool true)), none⟩] [2, 3] [] [[4], [13], [14]])
            .ret)))),
  [.t 2, .t 3]⟩

def l_impl_DParams : Lay := { rg := [(0, ([0], [])), (1, ([4, 5], [])), (2, ([4, 12], [])), (3, ([2, 3], [])), (4, ([2, 3], []))], dd := [(0, [[2]]), (1, [[0], [7], [8], [], [6], [9]]), (2, [[5]]), (4, [[4], [13], [14]])] }

/- impl.pairsOf -/
def b_impl_pairsOf_1 : SCode :=
  (.seq
    (.region [
      ⟨some 9, .bin .lss (.t 8) (.t 7), none⟩] [3, 6, 7, 8, 9] [] [])
    (.seq
      (.cond (.t 9)
        .skip
        (.exit 0))
      (.seq
        (.block 1
          (.seq
            (.region [
              ⟨some 10, .iAddr 2 (.t 6) (.t 8), none⟩,
              ⟨some 11, .load (some 2) (.t 10), none⟩,
              ⟨some 5, .alloc [(.str []), (.str [])], none⟩,
              ⟨none, .store 2 (.t 5) (.t 11), none⟩] [3, 5, 6, 7, 8] [] [[], [10]])
            (.region [
              ⟨some 12, .mv (.t 3), none⟩,
              ⟨some 13, .iAddrA 2 1 (.t 5) (.k (.int .i64 0)), none⟩,
              ⟨some 14, .load none (.t 13), none⟩,
              ⟨some 15, .iAddrA 2 1 (.t 5) (.k (.int .i64 1)), none⟩,
              ⟨some 16, .load none (.t 15), none⟩,
              ⟨some 17, .agg [(.str []), (.str [])] [(0, 1, (.t 14)), (1, 1, (.t 16))], none⟩,
              ⟨some 18, .mkSl 2 1 [(.str []), (.str [])] [(0, (.t 17))], none⟩,
              ⟨some 19, .app 2 32 (.t 12) (.t 18), none⟩,
              ⟨some 3, .mv (.t 19), none⟩] [3, 6, 7, 8] [5, 18] [[], [], [13], [5], [15], [14, 16], [17], [12, 18]])))
        (.region [
          ⟨some 20, .bin .add (.t 8) (.k (.int .i64 1)), none⟩,
          ⟨some 8, .mv (.t 20), none⟩] [3, 6, 7, 8] [] []))))

def t_impl_pairsOf_2 : SCode :=
  (.seq
    (.region [
      ⟨some 21, .mv (.t 3), none⟩,
      ⟨some 2, .mv (.t 21), none⟩] [2] [] [[3]])
    .ret)

def c_impl_pairsOf : SFn := ⟨1,
    (.seq
      (.region [
        ⟨some 2, .mv (.k .nilS), none⟩] [0] [] [])
      (.seq
        (.region [
          ⟨some 3, .mv (.k .nilS), none⟩] [0, 3] [] [])
        (.seq
          (.seq
            (.region [
              ⟨some 6, .mv (.t 0), none⟩,
              ⟨some 7, .len 1 (.t 6), none⟩,
              ⟨some 8, .mv (.k (.int .i64 0)), none⟩] [3, 6, 7, 8] [] [[0]])
            (.block 0
              (.loop [3, 6, 7, 8]
                b_impl_pairsOf_1)))
          t_impl_pairsOf_2))),
  [.t 2]⟩

def l_impl_pairsOf : Lay := { rg := [(0, ([0], [])), (1, ([0, 3], [])), (2, ([3, 6, 7, 8], [])), (3, ([3, 6, 7, 8, 9], [])), (4, ([3, 5, 6, 7, 8], [])), (5, ([3, 6, 7, 8], [5, 18])), (6, ([3, 6, 7, 8], [])), (7, ([2], [])), (1000003, ([3, 6, 7, 8], []))], dd := [(2, [[0]]), (4, [[], [10]]), (5, [[], [], [13], [5], [15], [14, 16], [17], [12, 18]]), (7, [[3]])] }

/- dkim.Params -/
def b_dkim_Params_1 : SCode :=
  (.seq
    (.region [
      ⟨some 22, .bin .lss (.t 21) (.t 20), none⟩] [4, 6, 19, 20, 21, 22] [] [])
    (.seq
      (.cond (.t 22)
        .skip
        (.exit 0))
      (.seq
        (.block 1
          (.seq
            (.region [
              ⟨some 23, .iAddr 1 (.t 19) (.t 21), none⟩,
              ⟨some 24, .load none (.t 23), none⟩,
              ⟨some 8, .mv (.t 24), none⟩] [4, 6, 8, 19, 20, 21] [] [[], [23]])
            (.region [
              ⟨some 25, .mv (.t 6), none⟩,
              ⟨some 26, .mv (.t 8), none⟩,
              ⟨some 27, .mv (.t 4), none⟩,
              ⟨some 28, .mv (.t 8), none⟩,
              ⟨some 29, .look (.str []) false (.t 27) (.t 28), none⟩,
              ⟨some 30, .agg [(.str []), (.str [])] [(0, 1, (.t 26)), (1, 1, (.t 29))], none⟩,
              ⟨some 31, .mkSl 2 1 [(.str []), (.str [])] [(0, (.t 30))], none⟩,
              ⟨some 32, .app 2 32 (.t 25) (.t 31), none⟩,
              ⟨some 6, .mv (.t 32), none⟩] [4, 6, 19, 20, 21] [31] [[], [], [], [8], [27, 28], [26, 29], [30], [25, 31]])))
        (.region [
          ⟨some 33, .bin .add (.t 21) (.k (.int .i64 1)), none⟩,
          ⟨some 21, .mv (.t 33), none⟩] [4, 6, 19, 20, 21] [] []))))

def t_dkim_Params_2 : SCode :=
  (.seq
    (.region [
      ⟨some 34, .mv (.t 6), none⟩,
      ⟨some 2, .mv (.t 34), none⟩,
      ⟨some 3, .mv (.k .nilI), none⟩] [2, 3] [] [[6], [34]])
    .ret)

def c_dkim_Params : SFn := ⟨1,
    (.seq
      (.region [
        ⟨some 2, .mv (.k .nilS), none⟩,
        ⟨some 3, .mv (.k .nilI), none⟩] [0] [] [[2]])
      (.seq
        (.region [
          ⟨some 10, .mv (.t 0), none⟩,
          ⟨some 11, .call 47 [(.t 10)], none⟩,
          ⟨some 9, .mv (.t 11), none⟩,
          ⟨some 12, .extr (.t 9) 0, none⟩,
          ⟨some 13, .extr (.t 9) 1, none⟩,
          ⟨some 4, .mv (.t 12), none⟩,
          ⟨some 5, .mv (.t 13), none⟩] [4, 5] [] [[0], [10], [11], [], [9], [12]])
        (.seq
          (.seq
            (.region [
              ⟨some 14, .mv (.t 5), none⟩,
              ⟨some 15, .isNil 0 true (.t 14), none⟩] [4, 5, 15] [] [])
            (.cond (.t 15)
              (.seq
                (.region [
                  ⟨some 16, .mv (.t 5), none⟩,
                  ⟨some 2, .mv (.k .nilS), none⟩,
                  ⟨some 3, .mv (.t 16), none⟩] [2, 3] [] [[5]])
                .ret)
              .skip))
          (.seq
            (.region [
              ⟨some 6, .mv (.k .nilS), none⟩] [4, 6] [] [])
            (.seq
              (.seq
                (.region [
                  ⟨some 17, .mv (.t 4), none⟩,
                  ⟨some 18, .call 48 [(.t 17)], none⟩,
                  ⟨some 19, .call 49 [(.t 18)], none⟩,
                  ⟨some 20, .len 1 (.t 19), none⟩,
                  ⟨some 21, .mv (.k (.int .i64 0)), none⟩] [4, 6, 19, 20, 21] [] [[], [17], [18]])
                (.block 0
                  (.loop [4, 6, 19, 20, 21]
                    b_dkim_Params_1)))
              t_dkim_Params_2))))),
  [.t 2, .t 3]⟩

def l_dkim_Params : Lay := { rg := [(0, ([0], [])), (1, ([4, 5], [])), (2, ([4, 5, 15], [])), (3, ([2, 3], [])), (4, ([4, 6], [])), (5, ([4, 6, 19, 20, 21], [])), (6, ([4, 6, 19, 20, 21, 22], [])), (7, ([4, 6, 8, 19, 20, 21], [])), (8, ([4, 6, 19, 20, 21], [31])), (9, ([4, 6, 19, 20, 21], [])), (10, ([2, 3], [])), (1000006, ([4, 6, 19, 20, 21], []))], dd := [(0, [[2]]), (1, [[0], [10], [11], [], [9], [12]]), (3, [[5]]), (5, [[], [17], [18]]), (7, [[], [23]]), (8, [[], [], [], [8], [27, 28], [26, 29], [30], [25, 31]]), (10, [[6], [34]])] }

/- dkim.parseHeaderParams -/
def b_dkim_parseHeaderParams_1 : SCode :=
  (.seq
    (.region [
      ⟨some 20, .bin .lss (.t 19) (.t 18), none⟩] [5, 17, 18, 19, 20] [] [])
    (.seq
      (.cond (.t 20)
        .skip
        (.exit 0))
      (.seq
        (.block 1
          (.seq
            (.region [
              ⟨some 21, .iAddr 1 (.t 17) (.t 19), none⟩,
              ⟨some 22, .load none (.t 21), none⟩,
              ⟨some 7, .mv (.t 22), none⟩] [5, 7, 17, 18, 19] [] [[], [21]])
            (.seq
              (.region [
                ⟨some 24, .mv (.t 7), none⟩,
                ⟨some 25, .call 16 [(.t 24), (.k (.str [61]))], none⟩,
                ⟨some 23, .mv (.t 25), none⟩,
                ⟨some 26, .extr (.t 23) 0, none⟩,
                ⟨some 27, .extr (.t 23) 1, none⟩,
                ⟨some 28, .extr (.t 23) 2, none⟩,
                ⟨some 8, .mv (.t 26), none⟩,
                ⟨some 9, .mv (.t 27), none⟩,
                ⟨some 10, .mv (.t 28), none⟩] [5, 7, 8, 9, 10, 17, 18, 19] [] [[], [24], [25], [], [], [23], [26], [27]])
              (.seq
                (.seq
                  (.region [
                    ⟨some 29, .mv (.t 10), none⟩,
                    ⟨some 30, .un .not (.t 29), none⟩] [5, 7, 8, 9, 17, 18, 19, 30] [] [[10]])
                  (.cond (.t 30)
                    (.seq
                      (.seq
                        (.region [
                          ⟨some 31, .mv (.t 7), none⟩,
                          ⟨some 32, .call 18 [(.t 31)], none⟩,
                          ⟨some 33, .bin .eql (.t 32) (.k (.str [])), none⟩] [5, 17, 18, 19, 33] [] [[7], [31]])
                        (.cond (.t 33)
                          (.exit 1)
                          .skip))
                      (.seq
                        (.region [
                          ⟨some 34, .mv (.t 5), none⟩,
                          ⟨some 35, .call 50 [(.k (.str [100, 107, 105, 109, 58, 32, 109, 97, 108, 102, 111, 114, 109, 101, 100, 32, 104, 101, 97, 100, 101, 114, 32, 112, 97, 114, 97, 109, 115]))], none⟩,
                          ⟨some 2, .mv (.t 34), none⟩,
                          ⟨some 3, .mv (.t 35), none⟩] [2, 3] [15, 100015] [[5], [], [34]])
                        .ret))
                    .skip))
                (.seq
                  (.region [
                    ⟨some 36, .mv (.t 8), none⟩,
                    ⟨some 37, .call 18 [(.t 36)], none⟩,
                    ⟨some 11, .mv (.t 37), none⟩] [5, 9, 11, 17, 18, 19] [] [[8], [36]])
                  (.seq
                    (.region [
                      ⟨some 39, .mv (.t 5), none⟩,
                      ⟨some 40, .mv (.t 11), none⟩,
                      ⟨some 41, .look (.str []) true (.t 39) (.t 40), none⟩,
                      ⟨some 38, .mv (.t 41), none⟩,
                      ⟨some 42, .extr (.t 38) 0, none⟩,
                      ⟨some 43, .extr (.t 38) 1, none⟩,
                      ⟨some 12, .mv (.t 42), none⟩,
                      ⟨some 13, .mv (.t 43), none⟩] [5, 9, 11, 13, 17, 18, 19] [] [[], [], [39, 40], [41], [], [38], [12, 42]])
                    (.seq
                      (.seq
                        (.region [
                          ⟨some 44, .mv (.t 13), none⟩] [5, 9, 11, 17, 18, 19, 44] [] [])
                        (.cond (.t 44)
                          (.seq
                            (.region [
                              ⟨some 45, .mv (.t 5), none⟩,
                              ⟨some 46, .call 50 [(.k (.str [100, 107, 105, 109, 58, 32, 100, 117, 112, 108, 105, 99, 97, 116, 101, 32, 116, 97, 103, 32, 110, 97, 109, 101]))], none⟩,
                              ⟨some 2, .mv (.t 45), none⟩,
                              ⟨some 3, .mv (.t 46), none⟩] [2, 3] [15, 100015] [[5], [], [45]])
                            .ret)
                          .skip))
                      (.region [
                        ⟨some 47, .mv (.t 5), none⟩,
                        ⟨some 48, .mv (.t 11), none⟩,
                        ⟨some 49, .mv (.t 9), none⟩,
                        ⟨some 50, .call 18 [(.t 49)], none⟩,
                        ⟨none, .mput (.t 47) (.t 48) (.t 50), none⟩] [5, 17, 18, 19] [] [[], [11], [9], [49]]))))))))
        (.region [
          ⟨some 51, .bin .add (.t 19) (.k (.int .i64 1)), none⟩,
          ⟨some 19, .mv (.t 51), none⟩] [5, 17, 18, 19] [] []))))

def t_dkim_parseHeaderParams_2 : SCode :=
  (.seq
    (.region [
      ⟨some 52, .mv (.t 5), none⟩,
      ⟨some 2, .mv (.t 52), none⟩,
      ⟨some 3, .mv (.k .nilI), none⟩] [2, 3] [15, 100015] [[5], [52]])
    .ret)

def c_dkim_parseHeaderParams : SFn := ⟨1,
    (.seq
      (.region [
        ⟨some 2, .mv (.k .nilM), none⟩,
        ⟨some 3, .mv (.k .nilI), none⟩] [0] [] [[2]])
      (.seq
        (.region [
          ⟨some 14, .mv (.t 0), none⟩,
          ⟨some 15, .callS 25 [(.t 14), (.k (.str [59]))], none⟩,
          ⟨some 4, .mv (.t 15), none⟩] [4] [] [[0], [14]])
        (.seq
          (.region [
            ⟨some 16, .mkMap, none⟩,
            ⟨some 5, .mv (.t 16), none⟩] [4, 5] [] [])
          (.seq
            (.seq
              (.region [
                ⟨some 17, .mv (.t 4), none⟩,
                ⟨some 18, .len 1 (.t 17), none⟩,
                ⟨some 19, .mv (.k (.int .i64 0)), none⟩] [5, 17, 18, 19] [] [[4]])
              (.block 0
                (.loop [5, 17, 18, 19]
                  b_dkim_parseHeaderParams_1)))
            t_dkim_parseHeaderParams_2)))),
  [.t 2, .t 3]⟩

def l_dkim_parseHeaderParams : Lay := { rg := [(0, ([0], [])), (1, ([4], [])), (2, ([4, 5], [])), (3, ([5, 17, 18, 19], [])), (4, ([5, 17, 18, 19, 20], [])), (5, ([5, 7, 17, 18, 19], [])), (6, ([5, 7, 8, 9, 10, 17, 18, 19], [])), (7, ([5, 7, 8, 9, 17, 18, 19, 30], [])), (8, ([5, 17, 18, 19, 33], [])), (9, ([2, 3], [15, 100015])), (10, ([5, 9, 11, 17, 18, 19], [])), (11, ([5, 9, 11, 13, 17, 18, 19], [])), (12, ([5, 9, 11, 17, 18, 19, 44], [])), (13, ([2, 3], [15, 100015])), (14, ([5, 17, 18, 19], [])), (15, ([5, 17, 18, 19], [])), (16, ([2, 3], [15, 100015])), (1000004, ([5, 17, 18, 19], []))], dd := [(0, [[2]]), (1, [[0], [14]]), (3, [[4]]), (5, [[], [21]]), (6, [[], [24], [25], [], [], [23], [26], [27]]), (7, [[10]]), (8, [[7], [31]]), (9, [[5], [], [34]]), (10, [[8], [36]]), (11, [[], [], [39, 40], [41], [], [38], [12, 42]]), (13, [[5], [], [45]]), (14, [[], [11], [9], [49]]), (16, [[5], [52]])], sf := [25] }

/- errors.New -/
def c_errors_New : SFn := ⟨1,
    (.seq
      (.region [
        ⟨some 2, .mv (.k .nilI), none⟩] [0] [] [])
      (.seq
        (.region [
          ⟨some 3, .mv (.t 0), none⟩,
          ⟨some 4, .agg [(.str [])] [(0, 1, (.t 3))], none⟩,
          ⟨some 5, .box (.t 4), none⟩,
          ⟨some 6, .mkIfc 3 (.t 5), none⟩,
          ⟨some 2, .mv (.t 6), none⟩] [2] [] [[0], [3], [4], [5]])
        .ret)),
  [.t 2]⟩

def l_errors_New : Lay := { rg := [(0, ([0], [])), (1, ([2], []))], dd := [(1, [[0], [3], [4], [5]])] }

/- laws.FnDParams -/
def c_laws_FnDParams : SFn := ⟨1,
    (.seq
      (.region [
        ⟨some 2, .mv (.k (.bool false)), none⟩] [0] [] [])
      (.seq
        (.seq
          (.region [
            ⟨some 9, .mv (.t 0), none⟩,
            ⟨some 10, .len 0 (.t 9), none⟩,
            ⟨some 11, .bin .gtr (.t 10) (.k (.int .i64 2147483647)), none⟩] [0, 11] [] [[], [9]])
          (.cond (.t 11)
            (.seq
              (.region [
                ⟨some 2, .mv (.k (.bool true)), none⟩] [2] [] [])
              .ret)
            .skip))
        (.seq
          (.seq
            (.region [
              ⟨some 12, .mv (.t 0), none⟩,
              ⟨some 13, .mkSl 1 1 [(.str [])] [(0, (.t 12))], none⟩,
              ⟨some 14, .call 10 [(.k (.int .i64 2000)), (.t 13)], none⟩,
              ⟨some 15, .un .not (.t 14), none⟩] [0, 15] [13] [[], [12], [13]])
            (.cond (.t 15)
              (.seq
                (.region [
                  ⟨some 16, .call 11 [], none⟩,
                  ⟨some 2, .mv (.t 16), none⟩] [2] [] [])
                .ret)
              .skip))
          (.seq
            (.region [
              ⟨some 18, .mv (.t 0), none⟩,
              ⟨some 19, .call 51 [(.t 18)], none⟩,
              ⟨some 17, .mv (.t 19), none⟩,
              ⟨some 20, .extr (.t 17) 0, none⟩,
              ⟨some 21, .extr (.t 17) 1, none⟩,
              ⟨some 3, .mv (.t 20), none⟩,
              ⟨some 4, .mv (.t 21), none⟩] [0, 3, 4] [] [[], [18], [19], [], [17], [20]])
            (.seq
              (.region [
                ⟨some 23, .mv (.t 0), none⟩,
                ⟨some 24, .call 52 [(.t 23)], none⟩,
                ⟨some 22, .mv (.t 24), none⟩,
                ⟨some 25, .extr (.t 22) 0, none⟩,
                ⟨some 26, .extr (.t 22) 1, none⟩,
                ⟨some 5, .mv (.t 25), none⟩,
                ⟨some 6, .mv (.t 26), none⟩] [3, 4, 5, 6] [] [[0], [23], [24], [], [22], [25]])
              (.seq
                (.region [
                  ⟨some 28, .call 51 [(.k (.str [97, 61, 98, 59, 32, 99, 61, 100, 59]))], none⟩,
                  ⟨some 27, .mv (.t 28), none⟩,
                  ⟨some 29, .extr (.t 27) 0, none⟩,
                  ⟨some 30, .extr (.t 27) 1, none⟩,
                  ⟨some 7, .mv (.t 29), none⟩,
                  ⟨some 8, .mv (.t 30), none⟩] [3, 4, 5, 6, 7, 8] [] [[], [28], [], [27], [29]])
                (.seq
                  (.region [
                    ⟨some 31, .mv (.t 4), none⟩,
                    ⟨some 32, .mv (.t 6), none⟩,
                    ⟨some 33, .eqB false (.t 31) (.t 32), none⟩,
                    ⟨some 34, .mv (.t 33), none⟩,
                    ⟨some 35, .mv (.t 4), some (34, true)⟩,
                    ⟨some 36, .un .not (.t 35), some (34, true)⟩,
                    ⟨some 37, .mv (.t 36), some (34, true)⟩,
                    ⟨some 38, .mv (.t 3), some (37, false)⟩,
                    ⟨some 39, .mv (.t 5), some (37, false)⟩,
                    ⟨some 40, .call 53 [(.t 38), (.t 39)], some (37, false)⟩,
                    ⟨some 41, .pick (.t 37) (.k (.bool true)) (.t 40), some (34, true)⟩,
                    ⟨some 42, .pick (.t 34) (.t 41) (.k (.bool false)), none⟩,
                    ⟨some 43, .mv (.t 42), none⟩,
                    ⟨some 44, .mv (.t 8), some (43, true)⟩,
                    ⟨some 45, .pick (.t 43) (.t 44) (.k (.bool false)), none⟩,
                    ⟨some 46, .mv (.t 45), none⟩,
                    ⟨some 47, .mv (.t 7), some (46, true)⟩,
                    ⟨some 48, .len 1 (.t 47), some (46, true)⟩,
                    ⟨some 49, .bin .eql (.t 48) (.k (.int .i64 2)), some (46, true)⟩,
                    ⟨some 50, .pick (.t 46) (.t 49) (.k (.bool false)), none⟩,
                    ⟨some 2, .mv (.t 50), none⟩] [2] [] [[], [6], [31, 32], [33], [4], [35], [36], [3], [5], [38, 39], [37, 40], [34, 41], [42], [8], [43, 44], [45], [7], [47], [48], [46, 49]])
                  .ret))))))),
  [.t 2]⟩

def l_laws_FnDParams : Lay := { rg := [(0, ([0], [])), (1, ([0, 11], [])), (2, ([2], [])), (3, ([0, 15], [13])), (4, ([2], [])), (5, ([0, 3, 4], [])), (6, ([3, 4, 5, 6], [])), (7, ([3, 4, 5, 6, 7, 8], [])), (8, ([2], []))], dd := [(1, [[], [9]]), (3, [[], [12], [13]]), (5, [[], [18], [19], [], [17], [20]]), (6, [[0], [23], [24], [], [22], [25]]), (7, [[], [28], [], [27], [29]]), (8, [[], [6], [31, 32], [33], [4], [35], [36], [3], [5], [38, 39], [37, 40], [34, 41], [42], [8], [43, 44], [45], [7], [47], [48], [46, 49]])] }

/- spec.DTags -/
def b_spec_DTags_1 : SCode :=
  (.seq
    (.seq
      (.region [
        ⟨some 35, .mv (.t 11), none⟩,
        ⟨some 36, .mv (.t 4), none⟩,
        ⟨some 37, .len 1 (.t 36), none⟩,
        ⟨some 38, .bin .lss (.t 35) (.t 37), none⟩,
        ⟨some 39, .mv (.t 38), none⟩,
        ⟨some 40, .mv (.t 4), some (39, true)⟩,
        ⟨some 41, .mv (.t 11), some (39, true)⟩,
        ⟨some 42, .iAddr 2 (.t 40) (.t 41), some (39, true)⟩,
        ⟨some 43, .fAddr 0 (.t 42), some (39, true)⟩,
        ⟨some 44, .load none (.t 43), some (39, true)⟩,
        ⟨some 45, .fAddr 0 (.t 10), some (39, true)⟩,
        ⟨some 46, .load none (.t 45), some (39, true)⟩,
        ⟨some 47, .bin .lss (.t 44) (.t 46), some (39, true)⟩,
        ⟨some 48, .pick (.t 39) (.t 47) (.k (.bool false)), none⟩] [4, 10, 11, 13, 14, 15, 48] [] [])
      (.cond (.t 48)
        .skip
        (.exit 2)))
    (.block 3
      (.region [
        ⟨some 49, .mv (.t 11), none⟩,
        ⟨some 50, .bin .add (.t 49) (.k (.int .i64 1)), none⟩,
        ⟨some 11, .mv (.t 50), none⟩] [4, 10, 11, 13, 14, 15] [] [[], [49]])))

def t_spec_DTags_2 : SCode :=
  (.seq
    (.seq
      (.region [
        ⟨some 51, .mv (.t 11), none⟩,
        ⟨some 52, .mv (.t 4), none⟩,
        ⟨some 53, .len 1 (.t 52), none⟩,
        ⟨some 54, .bin .lss (.t 51) (.t 53), none⟩,
        ⟨some 55, .mv (.t 54), none⟩,
        ⟨some 56, .mv (.t 4), some (55, true)⟩,
        ⟨some 57, .mv (.t 11), some (55, true)⟩,
        ⟨some 58, .iAddr 2 (.t 56) (.t 57), some (55, true)⟩,
        ⟨some 59, .fAddr 0 (.t 58), some (55, true)⟩,
        ⟨some 60, .load none (.t 59), some (55, true)⟩,
        ⟨some 61, .fAddr 0 (.t 10), some (55, true)⟩,
        ⟨some 62, .load none (.t 61), some (55, true)⟩,
        ⟨some 63, .bin .eql (.t 60) (.t 62), some (55, true)⟩,
        ⟨some 64, .pick (.t 55) (.t 63) (.k (.bool false)), none⟩] [4, 10, 11, 13, 14, 15, 64] [] [])
      (.cond (.t 64)
        (.seq
          (.region [
            ⟨some 2, .mv (.k .nilS), none⟩,
            ⟨some 3, .mv (.k (.bool false)), none⟩] [2, 3] [] [])
          .ret)
        .skip))
    (.seq
    (.region [
      ⟨some 65, .mkSl 2 0 [(.str []), (.str [])] [], none⟩,
      ⟨some 66, .fl (.mv (.t 4)), none⟩,
      ⟨some 67, .fl (.mv (.t 11)), none⟩,
      ⟨some 68, .fl (.slSl 2 (.t 66) none (some (.t 67))), none⟩,
      ⟨some 69, .app 2 32 (.t 65) (.t 68), none⟩,
      ⟨some 70, .fl (.load (some 2) (.t 10)), none⟩,
      ⟨some 71, .fl (.mkSlF 2 1 [(.str []), (.str [])] [(0, (.t 70))]), none⟩,
      ⟨some 72, .app 2 32 (.t 69) (.t 71), none⟩,
      ⟨some 73, .fl (.mv (.t 4)), none⟩,
      ⟨some 74, .fl (.mv (.t 11)), none⟩,
      ⟨some 75, .fl (.slSl 2 (.t 73) (some (.t 74)) none), none⟩,
      ⟨some 76, .app 2 32 (.t 72) (.t 75), none⟩,
      ⟨some 4, .mv (.t 76), none⟩] [4, 13, 14, 15] [] [])
    (.ghost [.frz 72, .frz 76])))

def t_spec_DTags_3 : SCode :=
  (.region [
    ⟨some 77, .bin .add (.t 15) (.k (.int .i64 1)), none⟩,
    ⟨some 15, .mv (.t 77), none⟩] [4, 13, 14, 15] [] [])

def b_spec_DTags_4 : SCode :=
  (.seq
    (.region [
      ⟨some 16, .bin .lss (.t 15) (.t 14), none⟩] [4, 13, 14, 15, 16] [] [])
    (.seq
      (.cond (.t 16)
        .skip
        (.exit 0))
      (.seq
        (.block 1
          (.seq
            (.region [
              ⟨some 17, .iAddr 1 (.t 13) (.t 15), none⟩,
              ⟨some 18, .load none (.t 17), none⟩,
              ⟨some 6, .mv (.t 18), none⟩] [4, 6, 13, 14, 15] [] [[], [17]])
            (.seq
              (.region [
                ⟨some 20, .mv (.t 6), none⟩,
                ⟨some 21, .call 2 [(.t 20), (.k (.int .u8 61))], none⟩,
                ⟨some 19, .mv (.t 21), none⟩,
                ⟨some 22, .extr (.t 19) 0, none⟩,
                ⟨some 23, .extr (.t 19) 1, none⟩,
                ⟨some 24, .extr (.t 19) 2, none⟩,
                ⟨some 7, .mv (.t 22), none⟩,
                ⟨some 8, .mv (.t 23), none⟩,
                ⟨some 9, .mv (.t 24), none⟩] [4, 6, 7, 8, 9, 13, 14, 15] [] [[], [20], [21], [], [], [19], [22], [23]])
              (.seq
                (.seq
                  (.region [
                    ⟨some 25, .mv (.t 9), none⟩,
                    ⟨some 26, .un .not (.t 25), none⟩] [4, 6, 7, 8, 13, 14, 15, 26] [] [[9]])
                  (.cond (.t 26)
                    (.seq
                      (.seq
                        (.region [
                          ⟨some 27, .mv (.t 6), none⟩,
                          ⟨some 28, .call 3 [(.t 27)], none⟩,
                          ⟨some 29, .bin .neq (.t 28) (.k (.str [])), none⟩] [4, 13, 14, 15, 29] [] [[6], [27]])
                        (.cond (.t 29)
                          (.seq
                            (.region [
                              ⟨some 2, .mv (.k .nilS), none⟩,
                              ⟨some 3, .mv (.k (.bool false)), none⟩] [2, 3] [] [])
                            .ret)
                          .skip))
                      (.exit 1))
                    .skip))
                (.seq
                  (.seq
                  (.region [
                    ⟨some 30, .mv (.t 7), none⟩,
                    ⟨some 31, .call 3 [(.t 30)], none⟩,
                    ⟨some 32, .mv (.t 8), none⟩,
                    ⟨some 33, .call 3 [(.t 32)], none⟩,
                    ⟨some 34, .agg [(.str []), (.str [])] [(0, 1, (.t 31)), (1, 1, (.t 33))], none⟩,
                    ⟨some 10, .alloc [(.str []), (.str [])], none⟩,
                    ⟨none, .store 2 (.t 10) (.t 34), none⟩] [4, 10, 13, 14, 15] [] [[7], [30], [8], [32], [31, 33]])
                  (.ghost [.frz 10]))
                  (.seq
                    (.region [
                      ⟨some 11, .mv (.k (.int .i64 0)), none⟩] [4, 10, 11, 13, 14, 15] [] [])
                    (.seq
                      (.block 2
                        (.loop [4, 10, 11, 13, 14, 15]
                          b_spec_DTags_1))
                      t_spec_DTags_2)))))))
        t_spec_DTags_3)))

def t_spec_DTags_5 : SCode :=
  (.seq
    (.region [
      ⟨some 78, .mv (.t 4), none⟩,
      ⟨some 2, .mv (.t 78), none⟩,
      ⟨some 3, .mv (.k (.bool true)), none⟩] [2, 3] [] [[4], [78]])
    .ret)

def c_spec_DTags : SFn := ⟨1,
    (.seq
      (.region [
        ⟨some 2, .mv (.k .nilS), none⟩,
        ⟨some 3, .mv (.k (.bool false)), none⟩] [0] [] [[2]])
      (.seq
        (.region [
          ⟨some 4, .mv (.k .nilS), none⟩] [0, 4] [] [])
        (.seq
          (.seq
            (.region [
              ⟨some 12, .mv (.t 0), none⟩,
              ⟨some 13, .call 54 [(.t 12), (.k (.int .u8 59))], none⟩,
              ⟨some 14, .len 1 (.t 13), none⟩,
              ⟨some 15, .mv (.k (.int .i64 0)), none⟩] [4, 13, 14, 15] [] [[0], [12]])
            (.block 0
              (.loop [4, 13, 14, 15]
                b_spec_DTags_4)))
          t_spec_DTags_5))),
  [.t 2, .t 3]⟩

def l_spec_DTags : Lay := { rg := [(0, ([0], [])), (1, ([0, 4], [])), (2, ([4, 13, 14, 15], [])), (3, ([4, 13, 14, 15, 16], [])), (4, ([4, 6, 13, 14, 15], [])), (5, ([4, 6, 7, 8, 9, 13, 14, 15], [])), (6, ([4, 6, 7, 8, 13, 14, 15, 26], [])), (7, ([4, 13, 14, 15, 29], [])), (8, ([2, 3], [])), (9, ([4, 10, 13, 14, 15], [])), (10, ([4, 10, 11, 13, 14, 15], [])), (11, ([4, 10, 11, 13, 14, 15, 48], [])), (12, ([4, 10, 11, 13, 14, 15], [])), (13, ([4, 10, 11, 13, 14, 15, 64], [])), (14, ([2, 3], [])), (15, ([4, 13, 14, 15], [])), (16, ([4, 13, 14, 15], [])), (17, ([2, 3], [])), (1000003, ([4, 13, 14, 15], [])), (1000011, ([4, 10, 11, 13, 14, 15], []))], dd := [(0, [[2]]), (2, [[0], [12]]), (4, [[], [17]]), (5, [[], [20], [21], [], [], [19], [22], [23]]), (6, [[9]]), (7, [[6], [27]]), (9, [[7], [30], [8], [32], [31, 33]]), (12, [[], [49]]), (17, [[4], [78]])], gh := [(9, [.frz 10]), (15, [.frz 72, .frz 76])], fz := [71], fl := [66, 67, 68, 70, 71, 73, 74, 75] }

end Wax

/- Functions as the abstract machine has them. -/
namespace Wax
open Go (IntKind)

/- dkim.zzCut2 -/
def b_dkim_zzCut2_1 : SCode :=
  (.seq
    (.seq
      (.region [
        ⟨some 6, .mv (.t 5), none⟩,
        ⟨some 7, .mv (.t 0), none⟩,
        ⟨some 8, .len 0 (.t 7), none⟩,
        ⟨some 9, .bin .lss (.t 6) (.t 8), none⟩] [0, 1, 5, 9] [] [[], [], [7]])
      (.cond (.t 9)
        .skip
        (.exit 0)))
    (.seq
      (.block 1
        (.seq
          (.region [
            ⟨some 12, .mv (.t 0), none⟩,
            ⟨some 13, .mv (.t 5), none⟩,
            ⟨some 14, .iStr (.t 12) (.t 13), none⟩,
            ⟨some 15, .mv (.t 1), none⟩,
            ⟨some 16, .bin .eql (.t 14) (.t 15), none⟩] [0, 1, 5, 16] [] [[], [], [12, 13]])
          (.cond (.t 16)
            (.seq
              (.region [
                ⟨some 17, .mv (.t 0), none⟩,
                ⟨some 18, .mv (.t 5), none⟩,
                ⟨some 19, .slStr (.t 17) none (some (.t 18)), none⟩,
                ⟨some 20, .mv (.t 0), none⟩,
                ⟨some 21, .mv (.t 5), none⟩,
                ⟨some 22, .bin .add (.t 21) (.k (.int .i64 1)), none⟩,
                ⟨some 23, .slStr (.t 20) (some (.t 22)) none, none⟩,
                ⟨some 24, .mkSl 1 2 [(.str [])] [(0, (.t 19)), (1, (.t 23))], none⟩,
                ⟨some 4, .mv (.t 24), none⟩] [4] [] [])
              .ret)
            .skip)))
      (.region [
        ⟨some 10, .mv (.t 5), none⟩,
        ⟨some 11, .bin .add (.t 10) (.k (.int .i64 1)), none⟩,
        ⟨some 5, .mv (.t 11), none⟩] [0, 1, 5] [] [[], [10]])))

def t_dkim_zzCut2_2 : SCode :=
  (.seq
    (.region [
      ⟨some 25, .mv (.t 0), none⟩,
      ⟨some 26, .mkSl 1 1 [(.str [])] [(0, (.t 25))], none⟩,
      ⟨some 4, .mv (.t 26), none⟩] [4] [] [[0], [25]])
    .ret)

def c_dkim_zzCut2 : SFn := ⟨2,
    (.seq
      (.region [
        ⟨some 4, .mv (.k .nilS), none⟩] [0, 1] [] [])
      (.seq
        (.seq
          (.region [
            ⟨some 5, .mv (.k (.int .i64 0)), none⟩] [0, 1, 5] [] [])
          (.block 0
            (.loop [0, 1, 5]
              b_dkim_zzCut2_1)))
        t_dkim_zzCut2_2)),
  [.t 4]⟩

def l_dkim_zzCut2 : Lay := { rg := [(0, ([0, 1], [])), (1, ([0, 1, 5], [])), (2, ([0, 1, 5, 9], [])), (3, ([0, 1, 5], [])), (4, ([0, 1, 5, 16], [])), (5, ([4], [])), (6, ([4], [])), (1000002, ([0, 1, 5], []))], dd := [(2, [[], [], [7]]), (3, [[], [10]]), (4, [[], [], [12, 13]]), (6, [[0], [25]])] }

/- dkim.parseCanonicalization -/
def c_dkim_parseCanonicalization : SFn := ⟨1,
    (.seq
      (.region [
        ⟨some 2, .mv (.k (.str [])), none⟩,
        ⟨some 3, .mv (.k (.str [])), none⟩] [0] [] [[2]])
      (.seq
        (.region [
          ⟨some 2, .mv (.k (.str [115, 105, 109, 112, 108, 101])), none⟩] [0, 2] [] [])
        (.seq
          (.region [
            ⟨some 3, .mv (.k (.str [115, 105, 109, 112, 108, 101])), none⟩] [0, 2, 3] [] [])
          (.seq
            (.region [
              ⟨some 5, .mv (.t 0), none⟩,
              ⟨some 6, .call 26 [(.t 5)], none⟩,
              ⟨some 7, .call 57 [(.t 6), (.k (.int .u8 47))], none⟩,
              ⟨some 4, .mv (.t 7), none⟩] [2, 3, 4] [] [[0], [5], [6]])
            (.seq
              (.seq
                (.region [
                  ⟨some 8, .mv (.t 4), none⟩,
                  ⟨some 9, .iAddr 1 (.t 8) (.k (.int .i64 0)), none⟩,
                  ⟨some 10, .load none (.t 9), none⟩,
                  ⟨some 11, .bin .neq (.t 10) (.k (.str [])), none⟩] [2, 3, 4, 11] [] [[], [8], [9]])
                (.cond (.t 11)
                  (.region [
                    ⟨some 12, .mv (.t 4), none⟩,
                    ⟨some 13, .iAddr 1 (.t 12) (.k (.int .i64 0)), none⟩,
                    ⟨some 14, .load none (.t 13), none⟩,
                    ⟨some 2, .mv (.t 14), none⟩] [2, 3, 4] [] [[], [12], [13]])
                  .skip))
              (.seq
                (.seq
                  (.region [
                    ⟨some 15, .mv (.t 4), none⟩,
                    ⟨some 16, .len 1 (.t 15), none⟩,
                    ⟨some 17, .bin .gtr (.t 16) (.k (.int .i64 1)), none⟩] [2, 3, 4, 17] [] [[], [15]])
                  (.cond (.t 17)
                    (.region [
                      ⟨some 18, .mv (.t 4), none⟩,
                      ⟨some 19, .iAddr 1 (.t 18) (.k (.int .i64 1)), none⟩,
                      ⟨some 20, .load none (.t 19), none⟩,
                      ⟨some 3, .mv (.t 20), none⟩] [2, 3] [] [[4], [18], [19]])
                    .skip))
                .ret)))))),
  [.t 2, .t 3]⟩

def l_dkim_parseCanonicalization : Lay := { rg := [(0, ([0], [])), (1, ([0, 2], [])), (2, ([0, 2, 3], [])), (3, ([2, 3, 4], [])), (4, ([2, 3, 4, 11], [])), (5, ([2, 3, 4], [])), (6, ([2, 3, 4, 17], [])), (7, ([2, 3], []))], dd := [(0, [[2]]), (3, [[0], [5], [6]]), (4, [[], [8], [9]]), (5, [[], [12], [13]]), (6, [[], [15]]), (7, [[4], [18], [19]])] }

/- dkim.Forms -/
def c_dkim_Forms : SFn := ⟨1,
    (.seq
      (.region [
        ⟨some 2, .mv (.k (.str [])), none⟩,
        ⟨some 3, .mv (.k (.str [])), none⟩] [0] [] [[2]])
      (.seq
        (.region [
          ⟨some 4, .mv (.t 0), none⟩,
          ⟨some 5, .call 58 [(.t 4)], none⟩,
          ⟨some 6, .extr (.t 5) 0, none⟩,
          ⟨some 7, .extr (.t 5) 1, none⟩,
          ⟨some 2, .mv (.t 6), none⟩,
          ⟨some 3, .mv (.t 7), none⟩] [2, 3] [] [[0], [4], [], [5], [6]])
        .ret)),
  [.t 2, .t 3]⟩

def l_dkim_Forms : Lay := { rg := [(0, ([0], [])), (1, ([2, 3], []))], dd := [(0, [[2]]), (1, [[0], [4], [], [5], [6]])] }

/- impl.DForms -/
def c_impl_DForms : SFn := ⟨1,
    (.seq
      (.region [
        ⟨some 2, .mv (.k (.str [])), none⟩,
        ⟨some 3, .mv (.k (.str [])), none⟩,
        ⟨some 4, .mv (.k (.bool false)), none⟩] [0] [] [[2], [3]])
      (.seq
        (.region [
          ⟨some 12, .mv (.t 0), none⟩,
          ⟨some 13, .call 59 [(.t 12)], none⟩,
          ⟨some 11, .mv (.t 13), none⟩,
          ⟨some 14, .extr (.t 11) 0, none⟩,
          ⟨some 15, .extr (.t 11) 1, none⟩,
          ⟨some 5, .mv (.t 14), none⟩,
          ⟨some 6, .mv (.t 15), none⟩] [5, 6] [] [[0], [12], [13], [], [11], [14]])
        (.seq
          (.region [
            ⟨some 17, .mv (.t 5), none⟩,
            ⟨some 18, .call 13 [(.t 17), (.k (.str []))], none⟩,
            ⟨some 16, .mv (.t 18), none⟩,
            ⟨some 19, .extr (.t 16) 0, none⟩,
            ⟨some 20, .extr (.t 16) 1, none⟩,
            ⟨some 7, .mv (.t 19), none⟩,
            ⟨some 8, .mv (.t 20), none⟩] [5, 6, 8] [] [[], [17], [18], [], [16], [7, 19]])
          (.seq
            (.region [
              ⟨some 22, .mv (.t 6), none⟩,
              ⟨some 23, .call 13 [(.t 22), (.k (.str []))], none⟩,
              ⟨some 21, .mv (.t 23), none⟩,
              ⟨some 24, .extr (.t 21) 0, none⟩,
              ⟨some 25, .extr (.t 21) 1, none⟩,
              ⟨some 9, .mv (.t 24), none⟩,
              ⟨some 10, .mv (.t 25), none⟩] [5, 6, 8, 10] [] [[], [22], [23], [], [21], [9, 24]])
            (.seq
              (.region [
                ⟨some 26, .mv (.t 5), none⟩,
                ⟨some 27, .mv (.t 6), none⟩,
                ⟨some 28, .mv (.t 8), none⟩,
                ⟨some 29, .mv (.t 28), none⟩,
                ⟨some 30, .mv (.t 10), some (29, true)⟩,
                ⟨some 31, .pick (.t 29) (.t 30) (.k (.bool false)), none⟩,
                ⟨some 2, .mv (.t 26), none⟩,
                ⟨some 3, .mv (.t 27), none⟩,
                ⟨some 4, .mv (.t 31), none⟩] [2, 3, 4] [] [[5], [6], [8], [28], [10], [29, 30], [26], [27]])
              .ret))))),
  [.t 2, .t 3, .t 4]⟩

def l_impl_DForms : Lay := { rg := [(0, ([0], [])), (1, ([5, 6], [])), (2, ([5, 6, 8], [])), (3, ([5, 6, 8, 10], [])), (4, ([2, 3, 4], []))], dd := [(0, [[2], [3]]), (1, [[0], [12], [13], [], [11], [14]]), (2, [[], [17], [18], [], [16], [7, 19]]), (3, [[], [22], [23], [], [21], [9, 24]]), (4, [[5], [6], [8], [28], [10], [29, 30], [26], [27]])] }

/- spec.DFormsOf$1 -/
def c_spec_DFormsOf_1 : SFn := ⟨1,
    (.seq
      (.region [
        ⟨some 2, .mv (.k (.bool false)), none⟩] [0] [] [])
      (.seq
        (.region [
          ⟨some 3, .mv (.t 0), none⟩,
          ⟨some 4, .bin .eql (.t 3) (.k (.str [115, 105, 109, 112, 108, 101])), none⟩,
          ⟨some 5, .mv (.t 4), none⟩,
          ⟨some 6, .mv (.t 0), some (5, false)⟩,
          ⟨some 7, .bin .eql (.t 6) (.k (.str [114, 101, 108, 97, 120, 101, 100])), some (5, false)⟩,
          ⟨some 8, .pick (.t 5) (.k (.bool true)) (.t 7), none⟩,
          ⟨some 2, .mv (.t 8), none⟩] [2] [] [[], [3], [4], [0], [6], [5, 7]])
        .ret)),
  [.t 2]⟩

def l_spec_DFormsOf_1 : Lay := { rg := [(0, ([0], [])), (1, ([2], []))], dd := [(1, [[], [3], [4], [0], [6], [5, 7]])] }

/- spec.DFormsOf -/
def c_spec_DFormsOf : SFn := ⟨1,
    (.seq
      (.region [
        ⟨some 2, .mv (.k (.str [])), none⟩,
        ⟨some 3, .mv (.k (.str [])), none⟩,
        ⟨some 4, .mv (.k (.bool false)), none⟩] [0] [] [[2], [3]])
      (.seq
        (.region [
          ⟨some 10, .mv (.t 0), none⟩,
          ⟨some 11, .call 27 [(.t 10)], none⟩,
          ⟨some 12, .call 2 [(.t 11), (.k (.int .u8 47))], none⟩,
          ⟨some 9, .mv (.t 12), none⟩,
          ⟨some 13, .extr (.t 9) 0, none⟩,
          ⟨some 14, .extr (.t 9) 1, none⟩,
          ⟨some 15, .extr (.t 9) 2, none⟩,
          ⟨some 5, .mv (.t 13), none⟩,
          ⟨some 6, .mv (.t 14), none⟩,
          ⟨some 7, .mv (.t 15), none⟩] [5, 6, 7] [] [[0], [10], [11], [12], [], [], [9], [13], [14]])
        (.seq
          (.seq
            (.region [
              ⟨some 16, .mv (.t 5), none⟩,
              ⟨some 17, .bin .eql (.t 16) (.k (.str [])), none⟩] [5, 6, 7, 17] [] [])
            (.cond (.t 17)
              (.region [
                ⟨some 5, .mv (.k (.str [115, 105, 109, 112, 108, 101])), none⟩] [5, 6, 7] [] [])
              .skip))
          (.seq
            (.seq
              (.region [
                ⟨some 18, .mv (.t 7), none⟩,
                ⟨some 19, .un .not (.t 18), none⟩] [5, 6, 19] [] [[7]])
              (.cond (.t 19)
                (.region [
                  ⟨some 6, .mv (.k (.str [115, 105, 109, 112, 108, 101])), none⟩] [5, 6] [] [])
                .skip))
            (.seq
              (.region [
                ⟨some 8, .mv (.k (.fn 60 [])), none⟩] [5, 6, 8] [] [])
              (.seq
                (.region [
                  ⟨some 20, .mv (.t 5), none⟩,
                  ⟨some 21, .mv (.t 6), none⟩,
                  ⟨some 22, .mv (.t 8), none⟩,
                  ⟨some 23, .mv (.t 5), none⟩,
                  ⟨some 24, .callV (.t 22) [(.t 23)], none⟩,
                  ⟨some 25, .mv (.t 24), none⟩,
                  ⟨some 26, .mv (.t 8), some (25, true)⟩,
                  ⟨some 27, .mv (.t 6), some (25, true)⟩,
                  ⟨some 28, .callV (.t 26) [(.t 27)], some (25, true)⟩,
                  ⟨some 29, .pick (.t 25) (.t 28) (.k (.bool false)), none⟩,
                  ⟨some 2, .mv (.t 20), none⟩,
                  ⟨some 3, .mv (.t 21), none⟩,
                  ⟨some 4, .mv (.t 29), none⟩] [2, 3, 4] [] [[], [], [], [5], [22, 23], [24], [8], [6], [26, 27], [25, 28], [20], [21]])
                .ret)))))),
  [.t 2, .t 3, .t 4]⟩

def l_spec_DFormsOf : Lay := { rg := [(0, ([0], [])), (1, ([5, 6, 7], [])), (2, ([5, 6, 7, 17], [])), (3, ([5, 6, 7], [])), (4, ([5, 6, 19], [])), (5, ([5, 6], [])), (6, ([5, 6, 8], [])), (7, ([2, 3, 4], []))], dd := [(0, [[2], [3]]), (1, [[0], [10], [11], [12], [], [], [9], [13], [14]]), (4, [[7]]), (7, [[], [], [], [5], [22, 23], [24], [8], [6], [26, 27], [25, 28], [20], [21]])] }

/- spec.DParts -/
def c_spec_DParts : SFn := ⟨1,
    (.seq
      (.region [
        ⟨some 2, .mv (.k .nilS), none⟩] [0] [] [])
      (.seq
        (.region [
          ⟨some 3, .mv (.t 0), none⟩,
          ⟨some 4, .call 27 [(.t 3)], none⟩,
          ⟨some 5, .call 54 [(.t 4), (.k (.int .u8 58))], none⟩,
          ⟨some 2, .mv (.t 5), none⟩] [2] [] [[0], [3], [4]])
        .ret)),
  [.t 2]⟩

def l_spec_DParts : Lay := { rg := [(0, ([0], [])), (1, ([2], []))], dd := [(1, [[0], [3], [4]])] }

/- dkim.Unix -/
def c_dkim_Unix : SFn := ⟨1,
    (.seq
      (.region [
        ⟨some 2, .alloc [(.int .i64 0), (.bool false)], none⟩] [0, 2] [] [])
      (.seq
        (.region [
          ⟨some 3, .mv (.t 0), none⟩,
          ⟨some 4, .agg [(.int .i64 0), (.bool false)] [(0, 1, (.t 3)), (1, 1, (.k (.bool true)))], none⟩,
          ⟨none, .store 2 (.t 2) (.t 4), none⟩] [2] [] [[0], [3]])
        .ret)),
  [.c (some 2) 2]⟩

def l_dkim_Unix : Lay := { rg := [(0, ([0, 2], [])), (1, ([2], []))], dd := [(1, [[0], [3]])] }

/- dkim.parseTime -/
def c_dkim_parseTime : SFn := ⟨1,
    (.seq
      (.region [
        ⟨some 2, .alloc [(.int .i64 0), (.bool false)], none⟩,
        ⟨some 3, .mv (.k .nilI), none⟩] [0, 2] [] [])
      (.seq
        (.region [
          ⟨some 7, .mv (.t 0), none⟩,
          ⟨some 8, .call 26 [(.t 7)], none⟩,
          ⟨some 9, .call 61 [(.t 8), (.k (.int .i64 10)), (.k (.int .i64 64))], none⟩,
          ⟨some 6, .mv (.t 9), none⟩,
          ⟨some 10, .extr (.t 6) 0, none⟩,
          ⟨some 11, .extr (.t 6) 1, none⟩,
          ⟨some 4, .mv (.t 10), none⟩,
          ⟨some 5, .mv (.t 11), none⟩] [2, 4, 5] [] [[0], [7], [8], [9], [], [6], [10]])
        (.seq
          (.seq
            (.region [
              ⟨some 12, .mv (.t 5), none⟩,
              ⟨some 13, .isNil 0 true (.t 12), none⟩] [2, 4, 5, 13] [] [])
            (.cond (.t 13)
              (.seq
                (.region [
                  ⟨some 14, .agg [(.int .i64 0), (.bool false)] [], none⟩,
                  ⟨some 15, .mv (.t 5), none⟩,
                  ⟨none, .store 2 (.t 2) (.t 14), none⟩,
                  ⟨some 3, .mv (.t 15), none⟩] [2, 3] [] [[], [5], [14]])
                .ret)
              .skip))
          (.seq
            (.region [
              ⟨some 16, .mv (.t 4), none⟩,
              ⟨some 17, .call 62 [(.t 16)], none⟩,
              ⟨none, .store 2 (.t 2) (.t 17), none⟩,
              ⟨some 3, .mv (.k .nilI), none⟩] [2, 3] [] [[4], [16], [17]])
            .ret)))),
  [.c (some 2) 2, .t 3]⟩

def l_dkim_parseTime : Lay := { rg := [(0, ([0, 2], [])), (1, ([2, 4, 5], [])), (2, ([2, 4, 5, 13], [])), (3, ([2, 3], [])), (4, ([2, 3], []))], dd := [(1, [[0], [7], [8], [9], [], [6], [10]]), (3, [[], [5], [14]]), (4, [[4], [16], [17]])] }

/- dkim.Number -/
def c_dkim_Number : SFn := ⟨1,
    (.seq
      (.region [
        ⟨some 2, .alloc [(.int .i64 0), (.bool false)], none⟩,
        ⟨some 3, .mv (.k .nilI), none⟩] [0, 2] [] [])
      (.seq
        (.region [
          ⟨some 4, .mv (.t 0), none⟩,
          ⟨some 5, .call 63 [(.t 4)], none⟩,
          ⟨some 6, .extr (.t 5) 0, none⟩,
          ⟨some 7, .extr (.t 5) 1, none⟩,
          ⟨none, .store 2 (.t 2) (.t 6), none⟩,
          ⟨some 3, .mv (.t 7), none⟩] [2, 3] [] [[0], [4], [], [5], [6]])
        .ret)),
  [.c (some 2) 2, .t 3]⟩

def l_dkim_Number : Lay := { rg := [(0, ([0, 2], [])), (1, ([2, 3], []))], dd := [(1, [[0], [4], [], [5], [6]])] }

/- dkim.Time).Unix -/
def c_dkim_Time_Unix : SFn := ⟨1,
    (.seq
      (.region [
        ⟨some 1, .box (.t 0), none⟩,
        ⟨some 2, .mv (.k (.int .i64 0)), none⟩] [1] [] [[0]])
      (.seq
        (.region [
          ⟨some 3, .fAddr 0 (.t 1), none⟩,
          ⟨some 4, .load none (.t 3), none⟩,
          ⟨some 2, .mv (.t 4), none⟩] [2] [1] [[1], [3]])
        .ret)),
  [.t 2]⟩

def l_dkim_Time_Unix : Lay := { rg := [(0, ([1], [])), (1, ([2], [1]))], dd := [(0, [[0]]), (1, [[1], [3]])] }

/- impl.DNumber -/
def c_impl_DNumber : SFn := ⟨1,
    (.seq
      (.region [
        ⟨some 2, .mv (.k (.int .i64 0)), none⟩,
        ⟨some 3, .mv (.k (.bool false)), none⟩] [0] [] [[2]])
      (.seq
        (.region [
          ⟨some 7, .mv (.t 0), none⟩,
          ⟨some 8, .call 64 [(.t 7)], none⟩,
          ⟨some 6, .mv (.t 8), none⟩,
          ⟨some 9, .extr (.t 6) 0, none⟩,
          ⟨some 10, .extr (.t 6) 1, none⟩,
          ⟨some 4, .alloc [(.int .i64 0), (.bool false)], none⟩,
          ⟨none, .store 2 (.t 4) (.t 9), none⟩,
          ⟨some 5, .mv (.t 10), none⟩] [4, 5] [] [[0], [7], [8], [], [6], [], [9]])
        (.seq
          (.seq
            (.region [
              ⟨some 11, .mv (.t 5), none⟩,
              ⟨some 12, .isNil 0 true (.t 11), none⟩] [4, 12] [] [[5]])
            (.cond (.t 12)
              (.seq
                (.region [
                  ⟨some 2, .mv (.k (.int .i64 0)), none⟩,
                  ⟨some 3, .mv (.k (.bool false)), none⟩] [2, 3] [4] [])
                .ret)
              .skip))
          (.seq
            (.region [
              ⟨some 13, .load (some 2) (.t 4), none⟩,
              ⟨some 14, .call 65 [(.t 13)], none⟩,
              ⟨some 2, .mv (.t 14), none⟩,
              ⟨some 3, .mv (.k (.bool true)), none⟩] [2, 3] [4] [[4], [13], [14]])
            .ret)))),
  [.t 2, .t 3]⟩

def l_impl_DNumber : Lay := { rg := [(0, ([0], [])), (1, ([4, 5], [])), (2, ([4, 12], [])), (3, ([2, 3], [4])), (4, ([2, 3], [4]))], dd := [(0, [[2]]), (1, [[0], [7], [8], [], [6], [], [9]]), (2, [[5]]), (4, [[4], [13], [14]])] }

/- spec.DWhole -/
def b_spec_DWhole_1 : SCode :=
  (.seq
    (.seq
      (.region [
        ⟨some 32, .mv (.t 7), none⟩,
        ⟨some 33, .mv (.t 4), none⟩,
        ⟨some 34, .len 0 (.t 33), none⟩,
        ⟨some 35, .bin .lss (.t 32) (.t 34), none⟩] [4, 5, 6, 7, 35] [] [[], [], [33]])
      (.cond (.t 35)
        .skip
        (.exit 0)))
    (.seq
      (.block 1
        (.seq
          (.region [
            ⟨some 38, .mv (.t 4), none⟩,
            ⟨some 39, .mv (.t 7), none⟩,
            ⟨some 40, .iStr (.t 38) (.t 39), none⟩,
            ⟨some 41, .cInt .u64 (.t 40), none⟩,
            ⟨some 42, .bin .sub (.t 41) (.k (.int .u64 48)), none⟩,
            ⟨some 8, .mv (.t 42), none⟩] [4, 5, 6, 7, 8] [] [[], [], [38, 39], [40], [41]])
          (.seq
            (.seq
              (.region [
                ⟨some 43, .mv (.t 4), none⟩,
                ⟨some 44, .mv (.t 7), none⟩,
                ⟨some 45, .iStr (.t 43) (.t 44), none⟩,
                ⟨some 46, .bin .lss (.t 45) (.k (.int .u8 48)), none⟩,
                ⟨some 47, .mv (.t 46), none⟩,
                ⟨some 48, .mv (.t 4), some (47, false)⟩,
                ⟨some 49, .mv (.t 7), some (47, false)⟩,
                ⟨some 50, .iStr (.t 48) (.t 49), some (47, false)⟩,
                ⟨some 51, .bin .gtr (.t 50) (.k (.int .u8 57)), some (47, false)⟩,
                ⟨some 52, .pick (.t 47) (.k (.bool true)) (.t 51), none⟩,
                ⟨some 53, .mv (.t 52), none⟩,
                ⟨some 54, .mv (.t 6), some (53, false)⟩,
                ⟨some 55, .mv (.t 8), some (53, false)⟩,
                ⟨some 56, .bin .sub (.k (.int .u64 9223372036854775808)) (.t 55), some (53, false)⟩,
                ⟨some 57, .bin .quo (.t 56) (.k (.int .u64 10)), some (53, false)⟩,
                ⟨some 58, .bin .gtr (.t 54) (.t 57), some (53, false)⟩,
                ⟨some 59, .pick (.t 53) (.k (.bool true)) (.t 58), none⟩] [4, 5, 6, 7, 8, 59] [] [[], [], [43, 44], [45], [46], [], [], [48, 49], [50], [47, 51], [52], [], [], [55], [56], [54, 57]])
              (.cond (.t 59)
                (.seq
                  (.region [
                    ⟨some 2, .mv (.k (.int .i64 0)), none⟩,
                    ⟨some 3, .mv (.k (.bool false)), none⟩] [2, 3] [] [])
                  .ret)
                .skip))
            (.region [
              ⟨some 60, .mv (.t 6), none⟩,
              ⟨some 61, .bin .mul (.t 60) (.k (.int .u64 10)), none⟩,
              ⟨some 62, .mv (.t 8), none⟩,
              ⟨some 63, .bin .add (.t 61) (.t 62), none⟩,
              ⟨some 6, .mv (.t 63), none⟩] [4, 5, 6, 7] [] [[], [60], [8], [61, 62]]))))
      (.region [
        ⟨some 36, .mv (.t 7), none⟩,
        ⟨some 37, .bin .add (.t 36) (.k (.int .i64 1)), none⟩,
        ⟨some 7, .mv (.t 37), none⟩] [4, 5, 6, 7] [] [[], [36]])))

def t_spec_DWhole_2 : SCode :=
  (.seq
    (.seq
      (.region [
        ⟨some 64, .mv (.t 4), none⟩,
        ⟨some 65, .bin .eql (.t 64) (.k (.str [])), none⟩,
        ⟨some 66, .mv (.t 65), none⟩,
        ⟨some 67, .mv (.t 5), some (66, false)⟩,
        ⟨some 68, .un .not (.t 67), some (66, false)⟩,
        ⟨some 69, .mv (.t 68), some (66, false)⟩,
        ⟨some 70, .mv (.t 6), some (69, true)⟩,
        ⟨some 71, .bin .eql (.t 70) (.k (.int .u64 9223372036854775808)), some (69, true)⟩,
        ⟨some 72, .pick (.t 69) (.t 71) (.k (.bool false)), some (66, false)⟩,
        ⟨some 73, .pick (.t 66) (.k (.bool true)) (.t 72), none⟩] [5, 6, 73] [] [[4], [64], [65], [], [67], [68], [], [70], [69, 71]])
      (.cond (.t 73)
        (.seq
          (.region [
            ⟨some 2, .mv (.k (.int .i64 0)), none⟩,
            ⟨some 3, .mv (.k (.bool false)), none⟩] [2, 3] [] [])
          .ret)
        .skip))
    (.seq
      (.seq
        (.region [
          ⟨some 74, .mv (.t 5), none⟩] [6, 74] [] [])
        (.cond (.t 74)
          (.seq
            (.region [
              ⟨some 75, .mv (.t 6), none⟩,
              ⟨some 76, .un .neg (.t 75), none⟩,
              ⟨some 77, .cInt .i64 (.t 76), none⟩,
              ⟨some 2, .mv (.t 77), none⟩,
              ⟨some 3, .mv (.k (.bool true)), none⟩] [2, 3] [] [[6], [75], [76], [77]])
            .ret)
          .skip))
      (.seq
        (.region [
          ⟨some 78, .mv (.t 6), none⟩,
          ⟨some 79, .cInt .i64 (.t 78), none⟩,
          ⟨some 2, .mv (.t 79), none⟩,
          ⟨some 3, .mv (.k (.bool true)), none⟩] [2, 3] [] [[6], [78], [79]])
        .ret)))

def c_spec_DWhole : SFn := ⟨1,
    (.seq
      (.region [
        ⟨some 2, .mv (.k (.int .i64 0)), none⟩,
        ⟨some 3, .mv (.k (.bool false)), none⟩] [0] [] [[2]])
      (.seq
        (.region [
          ⟨some 9, .mv (.t 0), none⟩,
          ⟨some 10, .call 27 [(.t 9)], none⟩,
          ⟨some 4, .mv (.t 10), none⟩] [4] [] [[0], [9]])
        (.seq
          (.region [
            ⟨some 11, .mv (.t 4), none⟩,
            ⟨some 12, .bin .neq (.t 11) (.k (.str [])), none⟩,
            ⟨some 13, .mv (.t 12), none⟩,
            ⟨some 14, .mv (.t 4), some (13, true)⟩,
            ⟨some 15, .iStr (.t 14) (.k (.int .i64 0)), some (13, true)⟩,
            ⟨some 16, .bin .eql (.t 15) (.k (.int .u8 45)), some (13, true)⟩,
            ⟨some 17, .pick (.t 13) (.t 16) (.k (.bool false)), none⟩,
            ⟨some 5, .mv (.t 17), none⟩] [4, 5] [] [[], [11], [12], [], [14], [15], [13, 16]])
          (.seq
            (.seq
              (.region [
                ⟨some 18, .mv (.t 4), none⟩,
                ⟨some 19, .bin .neq (.t 18) (.k (.str [])), none⟩,
                ⟨some 20, .mv (.t 19), none⟩,
                ⟨some 21, .mv (.t 4), some (20, true)⟩,
                ⟨some 22, .iStr (.t 21) (.k (.int .i64 0)), some (20, true)⟩,
                ⟨some 23, .bin .eql (.t 22) (.k (.int .u8 45)), some (20, true)⟩,
                ⟨some 24, .mv (.t 23), some (20, true)⟩,
                ⟨some 25, .mv (.t 4), some (24, false)⟩,
                ⟨some 26, .iStr (.t 25) (.k (.int .i64 0)), some (24, false)⟩,
                ⟨some 27, .bin .eql (.t 26) (.k (.int .u8 43)), some (24, false)⟩,
                ⟨some 28, .pick (.t 24) (.k (.bool true)) (.t 27), some (20, true)⟩,
                ⟨some 29, .pick (.t 20) (.t 28) (.k (.bool false)), none⟩] [4, 5, 29] [] [[], [18], [19], [], [21], [22], [23], [], [25], [26], [24, 27]])
              (.cond (.t 29)
                (.region [
                  ⟨some 30, .mv (.t 4), none⟩,
                  ⟨some 31, .slStr (.t 30) (some (.k (.int .i64 1))) none, none⟩,
                  ⟨some 4, .mv (.t 31), none⟩] [4, 5] [] [[], [30]])
                .skip))
            (.seq
              (.region [
                ⟨some 6, .mv (.k (.int .u64 0)), none⟩] [4, 5, 6] [] [])
              (.seq
                (.seq
                  (.region [
                    ⟨some 7, .mv (.k (.int .i64 0)), none⟩] [4, 5, 6, 7] [] [])
                  (.block 0
                    (.loop [4, 5, 6, 7]
                      b_spec_DWhole_1)))
                t_spec_DWhole_2)))))),
  [.t 2, .t 3]⟩

def l_spec_DWhole : Lay := { rg := [(0, ([0], [])), (1, ([4], [])), (2, ([4, 5], [])), (3, ([4, 5, 29], [])), (4, ([4, 5], [])), (5, ([4, 5, 6], [])), (6, ([4, 5, 6, 7], [])), (7, ([4, 5, 6, 7, 35], [])), (8, ([4, 5, 6, 7], [])), (9, ([4, 5, 6, 7, 8], [])), (10, ([4, 5, 6, 7, 8, 59], [])), (11, ([2, 3], [])), (12, ([4, 5, 6, 7], [])), (13, ([5, 6, 73], [])), (14, ([2, 3], [])), (15, ([6, 74], [])), (16, ([2, 3], [])), (17, ([2, 3], [])), (1000007, ([4, 5, 6, 7], []))], dd := [(0, [[2]]), (1, [[0], [9]]), (2, [[], [11], [12], [], [14], [15], [13, 16]]), (3, [[], [18], [19], [], [21], [22], [23], [], [25], [26], [24, 27]]), (4, [[], [30]]), (7, [[], [], [33]]), (8, [[], [36]]), (9, [[], [], [38, 39], [40], [41]]), (10, [[], [], [43, 44], [45], [46], [], [], [48, 49], [50], [47, 51], [52], [], [], [55], [56], [54, 57]]), (12, [[], [60], [8], [61, 62]]), (13, [[4], [64], [65], [], [67], [68], [], [70], [69, 71]]), (16, [[6], [75], [76], [77]]), (17, [[6], [78], [79]])] }

/- laws.FnDWords -/
def c_laws_FnDWords : SFn := ⟨1,
    (.seq
      (.region [
        ⟨some 2, .mv (.k (.bool false)), none⟩] [0] [] [])
      (.seq
        (.seq
          (.region [
            ⟨some 13, .mv (.t 0), none⟩,
            ⟨some 14, .len 0 (.t 13), none⟩,
            ⟨some 15, .bin .gtr (.t 14) (.k (.int .i64 2147483647)), none⟩] [0, 15] [] [[], [13]])
          (.cond (.t 15)
            (.seq
              (.region [
                ⟨some 2, .mv (.k (.bool true)), none⟩] [2] [] [])
              .ret)
            .skip))
        (.seq
          (.seq
            (.region [
              ⟨some 16, .mv (.t 0), none⟩,
              ⟨some 17, .mkSl 1 1 [(.str [])] [(0, (.t 16))], none⟩,
              ⟨some 18, .call 10 [(.k (.int .i64 500)), (.t 17)], none⟩,
              ⟨some 19, .un .not (.t 18), none⟩] [0, 19] [17] [[], [16], [17]])
            (.cond (.t 19)
              (.seq
                (.region [
                  ⟨some 20, .call 11 [], none⟩,
                  ⟨some 2, .mv (.t 20), none⟩] [2] [] [])
                .ret)
              .skip))
          (.seq
            (.region [
              ⟨some 22, .mv (.t 0), none⟩,
              ⟨some 23, .call 66 [(.t 22)], none⟩,
              ⟨some 21, .mv (.t 23), none⟩,
              ⟨some 24, .extr (.t 21) 0, none⟩,
              ⟨some 25, .extr (.t 21) 1, none⟩,
              ⟨some 26, .extr (.t 21) 2, none⟩,
              ⟨some 3, .mv (.t 24), none⟩,
              ⟨some 4, .mv (.t 25), none⟩,
              ⟨some 5, .mv (.t 26), none⟩] [0, 3, 4, 5] [] [[], [22], [23], [], [], [21], [24], [25]])
            (.seq
              (.region [
                ⟨some 28, .mv (.t 0), none⟩,
                ⟨some 29, .call 67 [(.t 28)], none⟩,
                ⟨some 27, .mv (.t 29), none⟩,
                ⟨some 30, .extr (.t 27) 0, none⟩,
                ⟨some 31, .extr (.t 27) 1, none⟩,
                ⟨some 32, .extr (.t 27) 2, none⟩,
                ⟨some 6, .mv (.t 30), none⟩,
                ⟨some 7, .mv (.t 31), none⟩,
                ⟨some 8, .mv (.t 32), none⟩] [0, 3, 4, 5, 6, 7, 8] [] [[], [28], [29], [], [], [27], [30], [31]])
              (.seq
                (.region [
                  ⟨some 34, .mv (.t 0), none⟩,
                  ⟨some 35, .call 68 [(.t 34)], none⟩,
                  ⟨some 33, .mv (.t 35), none⟩,
                  ⟨some 36, .extr (.t 33) 0, none⟩,
                  ⟨some 37, .extr (.t 33) 1, none⟩,
                  ⟨some 9, .mv (.t 36), none⟩,
                  ⟨some 10, .mv (.t 37), none⟩] [0, 3, 4, 5, 6, 7, 8, 9, 10] [] [[], [34], [35], [], [33], [36]])
                (.seq
                  (.region [
                    ⟨some 39, .mv (.t 0), none⟩,
                    ⟨some 40, .call 69 [(.t 39)], none⟩,
                    ⟨some 38, .mv (.t 40), none⟩,
                    ⟨some 41, .extr (.t 38) 0, none⟩,
                    ⟨some 42, .extr (.t 38) 1, none⟩,
                    ⟨some 11, .mv (.t 41), none⟩,
                    ⟨some 12, .mv (.t 42), none⟩] [0, 3, 4, 5, 6, 7, 8, 9, 10, 11, 12] [] [[], [39], [40], [], [38], [41]])
                  (.seq
                    (.region [
                      ⟨some 43, .mv (.t 0), none⟩,
                      ⟨some 44, .call 7 [(.t 43)], none⟩,
                      ⟨some 45, .mv (.t 0), none⟩,
                      ⟨some 46, .call 70 [(.t 45)], none⟩,
                      ⟨some 47, .call 35 [(.t 44), (.t 46)], none⟩,
                      ⟨some 48, .mv (.t 47), none⟩,
                      ⟨some 49, .mv (.t 5), some (48, true)⟩,
                      ⟨some 50, .mv (.t 8), some (48, true)⟩,
                      ⟨some 51, .eqB false (.t 49) (.t 50), some (48, true)⟩,
                      ⟨some 52, .pick (.t 48) (.t 51) (.k (.bool false)), none⟩,
                      ⟨some 53, .mv (.t 52), none⟩,
                      ⟨some 54, .mv (.t 5), some (53, true)⟩,
                      ⟨some 55, .un .not (.t 54), some (53, true)⟩,
                      ⟨some 56, .mv (.t 55), some (53, true)⟩,
                      ⟨some 57, .mv (.t 3), some (56, false)⟩,
                      ⟨some 58, .mv (.t 6), some (56, false)⟩,
                      ⟨some 59, .bin .eql (.t 57) (.t 58), some (56, false)⟩,
                      ⟨some 60, .mv (.t 59), some (56, false)⟩,
                      ⟨some 61, .mv (.t 4), some (60, true)⟩,
                      ⟨some 62, .mv (.t 7), some (60, true)⟩,
                      ⟨some 63, .bin .eql (.t 61) (.t 62), some (60, true)⟩,
                      ⟨some 64, .pick (.t 60) (.t 63) (.k (.bool false)), some (56, false)⟩,
                      ⟨some 65, .pick (.t 56) (.k (.bool true)) (.t 64), some (53, true)⟩,
                      ⟨some 66, .pick (.t 53) (.t 65) (.k (.bool false)), none⟩,
                      ⟨some 67, .mv (.t 66), none⟩,
                      ⟨some 68, .mv (.t 10), some (67, true)⟩,
                      ⟨some 69, .mv (.t 12), some (67, true)⟩,
                      ⟨some 70, .eqB false (.t 68) (.t 69), some (67, true)⟩,
                      ⟨some 71, .pick (.t 67) (.t 70) (.k (.bool false)), none⟩,
                      ⟨some 72, .mv (.t 71), none⟩,
                      ⟨some 73, .mv (.t 10), some (72, true)⟩,
                      ⟨some 74, .un .not (.t 73), some (72, true)⟩,
                      ⟨some 75, .mv (.t 74), some (72, true)⟩,
                      ⟨some 76, .mv (.t 9), some (75, false)⟩,
                      ⟨some 77, .mv (.t 11), some (75, false)⟩,
                      ⟨some 78, .bin .eql (.t 76) (.t 77), some (75, false)⟩,
                      ⟨some 79, .pick (.t 75) (.k (.bool true)) (.t 78), some (72, true)⟩,
                      ⟨some 80, .pick (.t 72) (.t 79) (.k (.bool false)), none⟩,
                      ⟨some 81, .mv (.t 80), none⟩,
                      ⟨some 82, .call 11 [], some (81, true)⟩,
                      ⟨some 83, .pick (.t 81) (.t 82) (.k (.bool false)), none⟩,
                      ⟨some 2, .mv (.t 83), none⟩] [2] [] [[], [43], [0], [45], [44, 46], [47], [], [8], [49, 50], [48, 51], [52], [5], [54], [55], [3], [6], [57, 58], [59], [4], [7], [61, 62], [60, 63], [56, 64], [53, 65], [66], [], [12], [68, 69], [67, 70], [71], [10], [73], [74], [9], [11], [76, 77], [75, 78], [72, 79], [80], [], [81, 82]])
                    .ret)))))))),
  [.t 2]⟩

def l_laws_FnDWords : Lay := { rg := [(0, ([0], [])), (1, ([0, 15], [])), (2, ([2], [])), (3, ([0, 19], [17])), (4, ([2], [])), (5, ([0, 3, 4, 5], [])), (6, ([0, 3, 4, 5, 6, 7, 8], [])), (7, ([0, 3, 4, 5, 6, 7, 8, 9, 10], [])), (8, ([0, 3, 4, 5, 6, 7, 8, 9, 10, 11, 12], [])), (9, ([2], []))], dd := [(1, [[], [13]]), (3, [[], [16], [17]]), (5, [[], [22], [23], [], [], [21], [24], [25]]), (6, [[], [28], [29], [], [], [27], [30], [31]]), (7, [[], [34], [35], [], [33], [36]]), (8, [[], [39], [40], [], [38], [41]]), (9, [[], [43], [0], [45], [44, 46], [47], [], [8], [49, 50], [48, 51], [52], [5], [54], [55], [3], [6], [57, 58], [59], [4], [7], [61, 62], [60, 63], [56, 64], [53, 65], [66], [], [12], [68, 69], [67, 70], [71], [10], [73], [74], [9], [11], [76, 77], [75, 78], [72, 79], [80], [], [81, 82]])] }

end Wax

/- Contracts, one behind the other. -/
namespace Wax
open Go Go.RowKit

/-- No contract; methods by a table. -/
def gam0 (ms : List (Nat × String × Nat)) : Gam := ⟨fun _ _ => none, fun t name => (ms.find? fun m => m.1 == t && m.2.1 == name).map (·.2.2), fun _ _ _ => none⟩

def Gam.add (Γ : Gam) (g : Nat) (c : List AV → Option AV) : Gam := ⟨fun h => if h = g then c else Γ.fn h, Γ.mth, Γ.st⟩

def Gam.addS (Γ : Gam) (g : Nat) (c : List AV → List (Nat × AObj) → Option (AV × List (Nat × AObj))) : Gam := ⟨Γ.fn, Γ.mth, fun h => if h = g then c else Γ.st h⟩

@[simp] theorem add_fn_same {Γ : Gam} {g : Nat} {c : List AV → Option AV} : (Γ.add g c).fn g = c := by simp [Gam.add]
theorem add_fn_other {Γ : Gam} {g h : Nat} {c : List AV → Option AV} (e : h ≠ g) : (Γ.add g c).fn h = Γ.fn h := by simp [Gam.add, e]
@[simp] theorem add_mth {Γ : Gam} {g : Nat} {c : List AV → Option AV} : (Γ.add g c).mth = Γ.mth := rfl

@[simp] theorem add_st {Γ : Gam} {g : Nat} {c : List AV → Option AV} : (Γ.add g c).st = Γ.st := rfl
@[simp] theorem addS_fn {Γ : Gam} {g : Nat} {c} : (Γ.addS g c).fn = Γ.fn := rfl
@[simp] theorem addS_mth {Γ : Gam} {g : Nat} {c} : (Γ.addS g c).mth = Γ.mth := rfl
@[simp] theorem addS_st_same {Γ : Gam} {g : Nat} {c} : (Γ.addS g c).st g = c := by simp [Gam.addS]
theorem addS_st_other {Γ : Gam} {g h : Nat} {c} (e : h ≠ g) : (Γ.addS g c).st h = Γ.st h := by simp [Gam.addS, e]

def injB (l : List (Nat × Nat)) : Bool := l.all fun p => l.all fun q => p.2 != q.2 || p.1 == q.1

theorem lkN_mem : ∀ {l : List (Nat × Nat)} {i v : Nat}, lkN l i = some v → (i, v) ∈ l
  | (j, u) :: r, i, v, h => by
    simp only [lkN] at h
    split at h
    · rename_i e; simp at e h; subst e; subst h; simp
    · exact List.mem_cons_of_mem _ (lkN_mem h)

theorem injB_spec {l : List (Nat × Nat)} (h : injB l = true) {i j v : Nat} (hi : lkN l i = some v) (hj : lkN l j = some v) : i = j := by
  simp only [injB, List.all_eq_true] at h
  have := h _ (lkN_mem hi) _ (lkN_mem hj)
  simpa using this

theorem tinj {T : Tab} (h : injB T.tys = true) : TInj T := fun _ _ _ ht hu => injB_spec h ht hu

/-- The method of this name, of values of this type, is this function: told by looking. -/
def mthB (P : Program) (t : TypeId) (name : String) (f : FuncId) : Bool :=
  match P.info? t with
  | none => false
  | some i => match i.methods.find? (·.name == name) with
    | none => false
    | some m => m.path.size == 0 && (match m.func with
      | some (g, pr) => g == f && (match P.underlying t with
        | some (.pointer _) => pr
        | some _ => !pr
        | none => false)
      | none => false)

theorem mthB_spec {P : Program} {t : TypeId} {name : String} {f : FuncId} (h : mthB P t name f = true) : MthOk P t name f := by
  intro v w
  simp only [mthB] at h
  cases hi : P.info? t with
  | none => simp [hi] at h
  | some i =>
    simp only [hi] at h
    cases hm : i.methods.find? (·.name == name) with
    | none => simp [hm] at h
    | some m =>
      simp only [hm, Bool.and_eq_true, beq_iff_eq] at h
      obtain ⟨hp, h⟩ := h
      cases hf : m.func with
      | none => simp [hf] at h
      | some gp =>
        obtain ⟨g, pr⟩ := gp
        simp only [hf, Bool.and_eq_true, beq_iff_eq] at h
        obtain ⟨rfl, h⟩ := h
        have hpl : m.path.toList = [] := by
          have : m.path.toList.length = 0 := by simpa using hp
          exact List.length_eq_zero_iff.1 this
        have hrec : ∀ wr, (receiverAt t (.val v) pr wr).run P w = .ok v w := by
          intro wr
          cases hu : P.underlying t with
          | none => simp [hu] at h
          | some d =>
            simp only [hu] at h
            simp only [receiverAt, Sem.run_bind, rUnder hu, Result.andThen_ok]
            cases d <;> cases pr <;> simp at h <;> simp [Place.get]
        have e : P.types.size + Made.depth = (P.types.size + 99) + 1 := rfl
        rw [e]
        generalize P.types.size + 99 = fuel
        simp only [method, Sem.run_bind, rInfo hi, Result.andThen_ok, hm, hpl, follow, Sem.run_pure, hf, hrec]

/-- The empty table of contracts. -/
theorem gam0_ok {P : Program} {T : Tab} {ms : List (Nat × String × Nat)} (h : ∀ t g name q, lkN T.tys t = some g → (gam0 ms).mth g name = some q → ∃ f, lkN T.fns f = some q ∧ MthOk P t name f) : GamOk P T (gam0 ms) :=
  ⟨fun f g args r _ h => by simp [gam0] at h, h, fun f g args hp q _ h => by simp [gam0] at h⟩

def mthsB (P : Program) (T : Tab) (ms : List (Nat × String × Nat)) : Bool :=
  T.tys.all fun tg => ms.all fun m => m.1 != tg.2 || T.fns.any fun fg => fg.2 == m.2.2 && lkN T.fns fg.1 == some m.2.2 && mthB P tg.1 m.2.1 fg.1

theorem mthsB_spec {P : Program} {T : Tab} {ms : List (Nat × String × Nat)} (h : mthsB P T ms = true) : GamOk P T (gam0 ms) := by
  refine gam0_ok ?_
  intro t g name q ht hm
  simp only [gam0, Option.map_eq_some_iff] at hm
  obtain ⟨m, hm, rfl⟩ := hm
  have h1 := List.mem_of_find?_eq_some hm
  have h2 := List.find?_some hm
  simp only [Bool.and_eq_true, beq_iff_eq] at h2
  simp only [mthsB, List.all_eq_true, List.any_eq_true] at h
  have h3 := h _ (lkN_mem ht) m h1
  simp only [Bool.or_eq_true, bne_iff_ne, ne_eq] at h3
  rcases h3 with h3 | h3
  · exact absurd h2.1 h3
  · simp only [List.any_eq_true, Bool.and_eq_true, beq_iff_eq] at h3
    obtain ⟨fg, _, ⟨_, h5⟩, h6⟩ := h3
    exact ⟨fg.1, h5, by rw [← h2.2]; exact mthB_spec h6⟩

/-- One contract more. -/
theorem GamOk.add {P : Program} {T : Tab} {Γ : Gam} (G : GamOk P T Γ) (hF : injB T.fns = true) {f g : Nat} (hf : lkN T.fns f = some g) (hb : hasBody P f = true) {c : List AV → Option AV} (h : ∀ args r, c args = some r → OkCall P T f args r) :
    GamOk P T (Γ.add g c) where
  fn := by
    intro f' g' args r hf' hc
    by_cases e : g' = g
    · subst e
      have := injB_spec hF hf' hf; subst this
      rw [add_fn_same] at hc
      exact ⟨hb, h args r hc⟩
    · rw [add_fn_other e] at hc
      exact G.fn f' g' args r hf' hc
  mth := G.mth
  st := G.st

theorem GamOk.addS {P : Program} {T : Tab} {Γ : Gam} (G : GamOk P T Γ) (hF : injB T.fns = true) {f g : Nat} (hf : lkN T.fns f = some g) (hb : hasBody P f = true) {c : List AV → List (Nat × AObj) → Option (AV × List (Nat × AObj))} (h : ∀ args hp q, c args hp = some q → OkS P T f args hp q.1 q.2) :
    GamOk P T (Γ.addS g c) where
  fn := G.fn
  mth := G.mth
  st := by
    intro f' g' args hp q hf' hc
    by_cases e : g' = g
    · subst e
      have := injB_spec hF hf' hf; subst this
      rw [addS_st_same] at hc
      exact ⟨hb, h args hp q hc⟩
    · rw [addS_st_other e] at hc
      exact G.st f' g' args hp q hf' hc

/-- One function more, walked. -/
theorem GamOk.walk {P : Program} {T : Tab} {Γ : Gam} (G : GamOk P T Γ) (hT : injB T.tys = true) (hF : injB T.fns = true) {f g : Nat} (hf : lkN T.fns f = some g) (hb : hasBody P f = true) {L : Lay} {fn : Func} {sfn : SFn}
    (hfn : P.funcs[f]? = some fn) (hc : compFn P T L fn = some sfn) {c : List AV → Option AV} (h : ∀ args r, c args = some r → runs Γ sfn args (fun v => v = r)) : GamOk P T (Γ.add g c) :=
  G.add hF hf hb fun args r hr => fn_sound (tinj hT) G hfn hc (h args r hr)

/-- One function more that sees objects, walked. -/
theorem GamOk.walkS {P : Program} {T : Tab} {Γ : Gam} (G : GamOk P T Γ) (hT : injB T.tys = true) (hF : injB T.fns = true) {f g : Nat} (hf : lkN T.fns f = some g) (hb : hasBody P f = true) {L : Lay} {fn : Func} {sfn : SFn}
    (hfn : P.funcs[f]? = some fn) (hc : compFn P T L fn = some sfn) {c : List AV → List (Nat × AObj) → Option (AV × List (Nat × AObj))} (h : ∀ args hp q, c args hp = some q → runsS Γ sfn args hp (fun v => v = some q)) : GamOk P T (Γ.addS g c) :=
  G.addS hF hf hb fun args hp q hr => fnS_sound (tinj hT) G hfn hc (h args hp q hr)
end Wax

/- Bytes as cells. -/
namespace Wax
open Go (IntKind)

section
theorem ite_some {α : Type} {p : Prop} [Decidable p] {a r : α} (h : (if p then some a else none) = some r) : p ∧ a = r := by
  by_cases e : p <;> simp [e] at h ⊢; exact h
@[simp] theorem bcA_nil : bcA [] = [] := rfl
@[simp] theorem bcA_cons {b : UInt8} {s : List UInt8} : bcA (b :: s) = .int .u8 (b.toNat : Int) :: bcA s := rfl
@[simp] theorem bcA_app {s t : List UInt8} : bcA (s ++ t) = bcA s ++ bcA t := by simp [bcA]
@[simp] theorem bcA_length {s : List UInt8} : (bcA s).length = s.length := by simp [bcA]
@[simp] theorem bcA_get {s : List UInt8} {i : Nat} : (bcA s)[i]? = s[i]?.map fun b => AV.int .u8 (b.toNat : Int) := by simp [bcA]
@[simp] theorem bcA_drop {s : List UInt8} {i : Nat} : (bcA s).drop i = bcA (s.drop i) := by simp [bcA, List.map_drop]
@[simp] theorem bcA_take {s : List UInt8} {i : Nat} : (bcA s).take i = bcA (s.take i) := by simp [bcA, List.map_take]
@[simp] theorem atoms_app {a b : List AV} : atoms (a ++ b) = (atoms a && atoms b) := by
  induction a with
  | nil => simp
  | cons x r ih => simp [ih, Bool.and_assoc]
@[simp] theorem atoms_bcA {s : List UInt8} : atoms (bcA s) = true := by induction s <;> simp_all
@[simp] theorem killL_app {d : Nat} {a b : List AV} : killL d (a ++ b) = killL d a ++ killL d b := by
  induction a with
  | nil => simp
  | cons x r ih => simp [ih]
@[simp] theorem killL_bcA {d : Nat} {s : List UInt8} : killL d (bcA s) = bcA s := by induction s <;> simp_all
@[simp] theorem killL_length {d : Nat} {s : List AV} : (killL d s).length = s.length := by induction s <;> simp_all
@[simp] theorem toBytes_bcA {s : List UInt8} : toBytes (bcA s) = some s := by
  induction s with
  | nil => rfl
  | cons b r ih => simp [toBytes, ih]
@[simp] theorem loadC_drop {cs : List AV} {i : Nat} : loadC none (cs.drop i) = cs[i]?.bind fun c => if atom c = true then some c else none := by
  cases h : cs[i]? with
  | none =>
    have : cs.drop i = [] := List.drop_eq_nil_of_le (by simpa using h)
    simp [this]
  | some c =>
    have hl : i < cs.length := by
      rcases Nat.lt_or_ge i cs.length with h' | h'
      · exact h'
      · rw [List.getElem?_eq_none h'] at h; simp at h
    rw [List.drop_eq_getElem_cons hl]
    have : cs[i] = c := by rw [List.getElem?_eq_getElem hl] at h; simpa using h
    simp [this]
@[simp] theorem spliceL_one {cs : List AV} {i : Nat} {x : AV} : spliceL cs i [x] = cs.set i x := rfl
@[simp] theorem spliceL_nil {cs : List AV} {i : Nat} : spliceL cs i [] = cs := rfl
@[simp] theorem toBytes_nil : toBytes [] = some [] := rfl
@[simp] theorem toBytes_byte {b : UInt8} {r : List AV} : toBytes (.int .u8 (b.toNat : Int) :: r) = (toBytes r).map (b :: ·) := by
  simp [toBytes]
@[simp] theorem made_o2 {hp : List (Nat × AObj)} {d : Nat} {o : AObj} {v : AV} : made hp d o v = some (o2 hp d v o) := rfl
/-- A slice of bytes that grows from nil: the value, the object behind it. -/
def outV (d : Nat) (out : List UInt8) : AV := match out with | [] => .nilS | _ => .msl d 1 0 out.length
def outH (d : Nat) (out : List UInt8) : List (Nat × AObj) := match out with | [] => [] | _ => [(d, .cells (bcA out))]
@[simp] theorem outV_nil {d : Nat} : outV d [] = .nilS := rfl
@[simp] theorem outH_nil {d : Nat} : outH d [] = [] := rfl
theorem outV_ne {d : Nat} {out : List UInt8} (h : out ≠ []) : outV d out = .msl d 1 0 out.length := by cases out <;> first | exact absurd rfl h | rfl
theorem outH_ne {d : Nat} {out : List UInt8} (h : out ≠ []) : outH d out = [(d, .cells (bcA out))] := by cases out <;> first | exact absurd rfl h | rfl
@[simp] theorem toNat_ofNat {n : Nat} : (n : Int).toNat = n := by simp
end
end Wax

/- The plain functions of the set's reference: what each answers. -/
namespace Wax
open Go (IntKind)

def big : Nat := 4611686018427387904

def isWs (n : Int) : Bool := decide (n = 32 ∨ n = 9 ∨ n = 13 ∨ n = 10)

def con_dBlank : List AV → Option AV
  | [.int .u8 n] => some (.bool (isWs n))
  | _ => none

theorem ok_dBlank (Γ : Gam) : ∀ args r, con_dBlank args = some r → runs Γ c_spec_dBlank args (fun v => v = r) := by
  intro args r h
  simp only [con_dBlank] at h
  split at h <;> simp at h
  rename_i b
  subst h
  simp [c_spec_dBlank, isWs]
  refine ⟨fun h => ⟨fun h2 => ⟨fun h3 => ?_, fun h3 => ?_⟩, fun h2 => ?_⟩, fun h => ?_⟩ <;> simp [*]

def cutAt (c : Int) : List UInt8 → Option (List UInt8 × List UInt8)
  | [] => none
  | x :: r => if (x.toNat : Int) = c then some ([], r) else (cutAt c r).map fun p => (x :: p.1, p.2)

def noB (c : Int) (s : List UInt8) : Prop := ∀ x ∈ s, (x.toNat : Int) ≠ c

theorem cutAt_app (c : Int) : ∀ (pre post : List UInt8), noB c pre → cutAt c (pre ++ post) = (cutAt c post).map fun p => (pre ++ p.1, p.2)
  | [], post, _ => by simp
  | x :: r, post, h => by
    have h1 : (x.toNat : Int) ≠ c := h x (by simp)
    have h2 : noB c r := fun y hy => h y (by simp [hy])
    simp only [List.cons_append, cutAt, if_neg h1, cutAt_app c r post h2, Option.map_map]
    rfl

def cutV (c : Int) (s : List UInt8) : AV :=
  match cutAt c s with
  | some p => .tup [.str p.1, .str p.2, .bool true]
  | none => .tup [.str s, .str [], .bool false]

def con_dCut : List AV → Option AV
  | [.str s, .int .u8 c] => if s.length < big then some (cutV c s) else none
  | _ => none

theorem ok_dCut (Γ : Gam) : ∀ args r, con_dCut args = some r → runs Γ c_spec_dCut args (fun v => v = r) := by
  intro args r h
  simp only [con_dCut] at h
  split at h <;> simp [big] at h
  rename_i s c
  obtain ⟨hs, rfl⟩ := ite_some h
  simp [c_spec_dCut]
  refine awp_loop (σ := List UInt8 × List UInt8) (fun p => ⟨[(0, .str s), (1, .int .u8 c), (7, .int .i64 p.1.length)], []⟩) (fun p => s = p.1 ++ p.2 ∧ noB c p.1) (fun p => p.2.length) ([], s) (by simp) (by simp [noB]) ?_
  rintro ⟨pre, post⟩ ⟨hs1, hs2⟩
  simp only at hs1 hs2
  subst hs1
  cases post with
  | nil =>
    have e : cutAt c pre = none := by have := cutAt_app c pre [] hs2; simpa [cutAt] using this
    simp [cutV, e]
  | cons x post =>
    simp at hs
    simp
    refine ⟨fun hlt => ?_, fun hge => by omega⟩
    simp (disch := omega) [wrap64]
    refine ⟨fun he => ?_, fun hne => ?_⟩
    · have e1 : (0 : Int) ≤ (pre.length : Int) + 1 ∧ (pre.length : Int) + 1 ≤ (pre.length : Int) + ((post.length : Int) + 1) := by omega
      have e2 : ((pre.length : Int) + 1).toNat = pre.length + 1 := by omega
      simp [cutV, cutAt_app _ _ _ hs2, cutAt, e1, e2, he]
      omega
    · refine ⟨(pre ++ [x], post), by simp, ⟨by simp, ?_⟩, by simp⟩
      intro y hy
      simp at hy
      rcases hy with hy | rfl
      · exact hs2 y hy
      · exact hne

def plainB (b : UInt8) : Bool := decide ((b.toNat : Int) < 128 ∧ (b.toNat : Int) ≠ 11 ∧ (b.toNat : Int) ≠ 12)
theorem plainB_true {b : UInt8} (h : (b.toNat : Int) < 128 ∧ ¬ (b.toNat : Int) = 11 ∧ ¬ (b.toNat : Int) = 12) : plainB b = true := decide_eq_true h
theorem plainB_false {b : UInt8} (h : ¬ ((b.toNat : Int) < 128 ∧ ¬ (b.toNat : Int) = 11 ∧ ¬ (b.toNat : Int) = 12)) : plainB b = false := decide_eq_false h
def dPlain (most : Int) (s : List UInt8) : Bool := s.all plainB && decide ((s.length : Int) ≤ most)

def con_DPlain : List AV → Option AV
  | [.str s, .int .i64 m] => if s.length < big then some (.bool (dPlain m s)) else none
  | _ => none

theorem ok_DPlain (Γ : Gam) : ∀ args r, con_DPlain args = some r → runs Γ c_spec_DPlain args (fun v => v = r) := by
  intro args r h
  simp only [con_DPlain] at h
  split at h <;> simp [big] at h
  rename_i s m
  obtain ⟨hs, rfl⟩ := ite_some h
  clear h
  simp [c_spec_DPlain]
  refine awp_loop (σ := List UInt8 × List UInt8) (fun p => ⟨[(0, .str s), (1, .int .i64 m), (5, .int .i64 p.1.length)], []⟩) (fun p => s = p.1 ++ p.2 ∧ p.1.all plainB = true) (fun p => p.2.length) ([], s) (by simp) (by simp) ?_
  rintro ⟨pre, post⟩ ⟨hs1, hs2⟩
  simp only at hs1 hs2
  subst hs1
  cases post with
  | nil => simp [dPlain, hs2]
  | cons x post =>
    simp at hs
    have bad : plainB x = false → dPlain m (pre ++ x :: post) = false := by intro h; simp [dPlain, h]
    have good : plainB x = true → loopQ [0, 1, 5] (fun p : List UInt8 × List UInt8 => ⟨[(0, .str (pre ++ x :: post)), (1, .int .i64 m), (5, .int .i64 p.1.length)], []⟩) (fun p => pre ++ x :: post = p.1 ++ p.2 ∧ p.1.all plainB = true) (fun p => p.2.length) (pre, x :: post)
        ⟨[(0, .str (pre ++ x :: post)), (1, .int .i64 m), (5, .int .i64 (IntKind.i64.wrap (pre.length + 1)))], []⟩ := by
      intro h
      exact ⟨(pre ++ [x], post), by simp (disch := omega) [wrap64], ⟨by simp, by simp only [List.all_append, hs2, List.all_cons, h]; rfl⟩, by simp⟩
    generalize hl : loopQ [0, 1, 5] (fun p : List UInt8 × List UInt8 => (⟨[(0, .str (pre ++ x :: post)), (1, .int .i64 m), (5, .int .i64 p.1.length)], []⟩ : St)) (fun p => pre ++ x :: post = p.1 ++ p.2 ∧ p.1.all plainB = true) (fun p => p.2.length) (pre, x :: post) = LQ at good ⊢
    simp
    refine ⟨fun hlt => ⟨fun h1 => ⟨fun h2 => ⟨fun h3 => ?_, fun h3 => ?_⟩, fun h2 => ?_⟩, fun h1 => ?_⟩, fun hge => by omega⟩
    · exact bad (plainB_false fun h => h.2.2 h3)
    · exact good (plainB_true ⟨h1, h2, h3⟩)
    · exact bad (plainB_false fun h => h.2.1 h2)
    · exact bad (plainB_false fun h => by omega)

def trimL (s : List UInt8) : List UInt8 := s.dropWhile fun b => isWs b.toNat
def trimR (s : List UInt8) : List UInt8 := (s.reverse.dropWhile fun b => isWs b.toNat).reverse
def trimS (s : List UInt8) : List UInt8 := trimR (trimL s)

def con_DTrim : List AV → Option AV
  | [.str s] => if s.length < big then some (.str (trimS s)) else none
  | _ => none

theorem ok_DTrim (Γ : Gam) (h1 : Γ.fn 1 = con_dBlank) : ∀ args r, con_DTrim args = some r → runs Γ c_spec_DTrim args (fun v => v = r) := by
  intro args r h
  simp only [con_DTrim] at h
  split at h <;> simp [big] at h
  rename_i s
  obtain ⟨hs, rfl⟩ := ite_some h
  clear h
  simp [c_spec_DTrim]
  refine awp_loop (σ := List UInt8) (fun p => ⟨[(0, .str p)], []⟩) (fun p => trimL p = trimL s ∧ p.length < 4611686018427387904) (fun p => p.length) s (by simp) (by simp [hs]) ?_
  rintro p ⟨hp, hlen⟩
  have second : ∀ v9, (trimL p = p) → awp Γ t_spec_DTrim_4 (finQ [.t 2] fun v => v = AV.str (trimS s)) ⟨[(0, .str p), (9, v9)], []⟩ := by
    intro v9 htl
    simp [t_spec_DTrim_4]
    refine awp_loop (σ := List UInt8) (fun q => ⟨[(0, .str q.reverse)], []⟩) (fun q => trimR q.reverse = trimR p ∧ q.length < 4611686018427387904) (fun q => q.length) p.reverse (by simp) (by simpa using hlen) ?_
    rintro q ⟨hq, hql⟩
    cases q with
    | nil =>
      simp [b_spec_DTrim_2, t_spec_DTrim_3]
      rw [trimS, ← hp, htl, ← hq]; rfl
    | cons x q =>
      simp at hql
      simp (disch := omega) [b_spec_DTrim_2, t_spec_DTrim_3, wrap64]
      refine gO_bind (b := x) (by rw [List.getElem?_append_right (by simp)]; simp) ?_
      simp (disch := omega) [acall, h1, con_dBlank, wrap64]
      refine ⟨fun hw => ⟨q, by simp, ⟨?_, by omega⟩, by simp⟩, fun hw => ?_⟩
      · rw [← hq]; simp [trimR, hw]
      · rw [trimS, ← hp, htl, ← hq]; simp [trimR, hw]
  cases p with
  | nil =>
    simp [b_spec_DTrim_1]
    exact second _ rfl
  | cons x p =>
    simp at hlen
    simp [b_spec_DTrim_1, acall, h1, con_dBlank]
    refine ⟨fun hw => ⟨by omega, p, by simp, ⟨?_, by omega⟩, by simp⟩, fun hw => second _ ?_⟩
    · rw [← hp]; simp [trimL, hw]
    · simp [trimL, hw]

def lowB (b : UInt8) : UInt8 := if 65 ≤ b.toNat ∧ b.toNat ≤ 90 then b + 32 else b

theorem lowB_toNat (b : UInt8) : ((lowB b).toNat : Int) = if 65 ≤ (b.toNat : Int) ∧ (b.toNat : Int) ≤ 90 then (b.toNat : Int) + 32 else (b.toNat : Int) := by
  unfold lowB
  by_cases h : 65 ≤ b.toNat ∧ b.toNat ≤ 90
  · rw [if_pos h, if_pos (by omega), UInt8.toNat_add]
    have : (32 : UInt8).toNat = 32 := rfl
    rw [this]; omega
  · rw [if_neg h, if_neg (by omega)]

def lowS (s : List UInt8) : List UInt8 := s.map lowB

@[simp] theorem lowS_length {s : List UInt8} : (lowS s).length = s.length := by simp [lowS]
@[simp] theorem lowS_nil : lowS [] = [] := rfl
@[simp] theorem lowS_app {s t : List UInt8} : lowS (s ++ t) = lowS s ++ lowS t := by simp [lowS]
@[simp] theorem lowS_cons {b : UInt8} {s : List UInt8} : lowS (b :: s) = lowB b :: lowS s := rfl

def con_DLower : List AV → Option AV
  | [.str s] => if s.length < big then some (.str (lowS s)) else none
  | _ => none

theorem ok_DLower (Γ : Gam) : ∀ args r, con_DLower args = some r → runs Γ c_spec_DLower args (fun v => v = r) := by
  intro args r h
  simp only [con_DLower] at h
  split at h <;> simp [big] at h
  rename_i s
  obtain ⟨hs, rfl⟩ := ite_some h
  clear h
  simp [c_spec_DLower, hs]
  refine awp_loop (σ := List UInt8 × List UInt8) (fun p => ⟨[(3, .msl 6 1 0 s.length), (4, .int .i64 p.1.length)], [(6, .cells (bcA (lowS p.1 ++ p.2)))]⟩) (fun p => s = p.1 ++ p.2) (fun p => p.2.length) ([], s) (by simp) (by simp) ?_
  rintro ⟨pre, post⟩ hs1
  simp only at hs1
  subst hs1
  cases post with
  | nil =>
    have e : List.take pre.length (lowS pre) = lowS pre := List.take_of_length_le (by simp)
    simp [e]
  | cons x post =>
    simp at hs
    have hx := lowB_toNat x
    have fin : ∀ n : Int, n = (lowB x).toNat → loopQ [3, 4] (fun p : List UInt8 × List UInt8 => ⟨[(3, .msl 6 1 0 (pre ++ x :: post).length), (4, .int .i64 p.1.length)], [(6, .cells (bcA (lowS p.1 ++ p.2)))]⟩) (fun p => pre ++ x :: post = p.1 ++ p.2) (fun p => p.2.length) (pre, x :: post)
        ⟨[(3, .msl 6 1 0 (pre ++ x :: post).length), (4, .int .i64 (IntKind.i64.wrap (pre.length + 1)))], [(6, .cells (bcA (lowS pre) ++ .int .u8 n :: bcA post))]⟩ := by
      intro n hn
      refine ⟨(pre ++ [x], post), ?_, by simp, by simp⟩
      subst hn
      simp (disch := omega) [wrap64]
    simp at fin
    simp
    refine ⟨fun hlt => ⟨fun h1 => ⟨fun h2 => ?_, fun h2 => ?_⟩, fun h1 => ?_⟩, fun hge => by omega⟩
    · rw [hx, if_pos ⟨h1, h2⟩, ← Go.IntWalk.u8_in ((x.toNat : Int) + 32) ⟨by omega, by omega⟩] at fin
      exact fin
    · rw [hx, if_neg (by omega)] at fin
      exact fin
    · rw [hx, if_neg (by omega)] at fin
      exact fin
end Wax

/- The plain functions of the set's reference (2). -/
namespace Wax
open Go (IntKind)

def mid : Nat := 1099511627776

def joinGo : List UInt8 → Bool → List UInt8 → List UInt8
  | out, _, [] => out
  | out, w, x :: r => if isWs x.toNat then joinGo out (decide (0 < out.length)) r else joinGo ((if w then out ++ [32] else out) ++ [x]) false r

def con_dJoined : List AV → Option AV
  | [.str s] => if s.length < mid then some (.str (joinGo [] false s)) else none
  | _ => none

theorem ok_dJoined (Γ : Gam) (h1 : Γ.fn 1 = con_dBlank) : ∀ args r, con_dJoined args = some r → runs Γ c_spec_dJoined args (fun v => v = r) := by
  intro args r h
  simp only [con_dJoined] at h
  split at h <;> simp [mid] at h
  rename_i s
  obtain ⟨hs, rfl⟩ := ite_some h
  clear h
  simp [c_spec_dJoined]
  refine awp_loop (σ := List UInt8 × List UInt8 × List UInt8 × Bool) (fun p => ⟨[(0, .str s), (3, outV 28 p.2.2.1), (4, .bool p.2.2.2), (5, .int .i64 p.1.length)], outH 28 p.2.2.1⟩)
    (fun p => s = p.1 ++ p.2.1 ∧ joinGo p.2.2.1 p.2.2.2 p.2.1 = joinGo [] false s ∧ p.2.2.1.length ≤ 2 * p.1.length ∧ (p.2.2.2 = true → p.2.2.1 ≠ [])) (fun p => p.2.1.length) ([], s, [], false) (by simp [outV, outH]) (by simp) ?_
  rintro ⟨pre, post, out, w⟩ ⟨hs1, hs2, hs3, hs4⟩
  simp only at hs1 hs2 hs3 hs4
  cases post with
  | nil =>
    simp [joinGo] at hs2 hs1
    subst hs1
    by_cases ho : out = []
    · subst ho; simp [← hs2]
    · simp [outV_ne ho, outH_ne ho, ← hs2]
  | cons x post =>
    subst hs1
    simp at hs
    have step : ∀ out' w', joinGo out' w' post = joinGo [] false (pre ++ x :: post) → out'.length ≤ 2 * pre.length + 2 → (w' = true → out' ≠ []) →
        loopQ [0, 3, 4, 5] (fun p : List UInt8 × List UInt8 × List UInt8 × Bool => ⟨[(0, .str (pre ++ x :: post)), (3, outV 28 p.2.2.1), (4, .bool p.2.2.2), (5, .int .i64 p.1.length)], outH 28 p.2.2.1⟩)
          (fun p => pre ++ x :: post = p.1 ++ p.2.1 ∧ joinGo p.2.2.1 p.2.2.2 p.2.1 = joinGo [] false (pre ++ x :: post) ∧ p.2.2.1.length ≤ 2 * p.1.length ∧ (p.2.2.2 = true → p.2.2.1 ≠ [])) (fun p => p.2.1.length) (pre, x :: post, out, w)
          ⟨[(0, .str (pre ++ x :: post)), (3, outV 28 out'), (4, .bool w'), (5, .int .i64 (IntKind.i64.wrap (pre.length + 1)))], outH 28 out'⟩ := by
      intro out' w' h1 h2 h3
      exact ⟨(pre ++ [x], post, out', w'), by simp (disch := omega) [wrap64], ⟨by simp, h1, by simp; omega, h3⟩, by simp⟩
    generalize hl : loopQ [0, 3, 4, 5] (fun p : List UInt8 × List UInt8 × List UInt8 × Bool => (⟨[(0, .str (pre ++ x :: post)), (3, outV 28 p.2.2.1), (4, .bool p.2.2.2), (5, .int .i64 p.1.length)], outH 28 p.2.2.1⟩ : St))
          (fun p => pre ++ x :: post = p.1 ++ p.2.1 ∧ joinGo p.2.2.1 p.2.2.2 p.2.1 = joinGo [] false (pre ++ x :: post) ∧ p.2.2.1.length ≤ 2 * p.1.length ∧ (p.2.2.2 = true → p.2.2.1 ≠ [])) (fun p => p.2.1.length) (pre, x :: post, out, w) = LQ at step ⊢
    clear hl
    simp only [joinGo] at hs2
    by_cases ho : out = []
    · subst ho
      have hw : w = false := by cases w <;> simp at hs4 ⊢
      subst hw
      simp [acall, h1, con_dBlank]
      refine ⟨fun hlt => ⟨fun hb => ?_, fun hb => ?_⟩, fun hge => by omega⟩
      · rw [if_pos hb] at hs2
        exact step [] false (by simpa using hs2) (by simp) (by simp)
      · rw [if_neg (by simp [hb])] at hs2
        exact step [x] false (by simpa using hs2) (by simp) (by simp)
    · have hol : 0 < out.length := List.length_pos_iff.2 ho
      simp [outV_ne ho, outH_ne ho, acall, h1, con_dBlank, List.take_of_length_le]
      refine ⟨fun hlt => ⟨fun hb => ?_, fun hb => ⟨fun hw => ⟨by omega, by omega, ?_⟩, fun hw => ⟨by omega, ?_⟩⟩⟩, fun hge => by omega⟩
      · rw [if_pos hb] at hs2
        have := step out (decide (0 < out.length)) hs2 (by omega) (fun _ => ho)
        rw [outV_ne ho, outH_ne ho] at this
        exact this
      · rw [if_neg (by simp [hb]), if_pos hw] at hs2
        have := step (out ++ [32] ++ [x]) false hs2 (by simp; omega) (by simp)
        rw [outV_ne (by simp), outH_ne (by simp)] at this
        simpa using this
      · rw [if_neg (by simp [hb]), if_neg (by simp [hw])] at hs2
        have := step (out ++ [x]) false hs2 (by simp; omega) (by simp)
        rw [outV_ne (by simp), outH_ne (by simp)] at this
        subst hw
        simpa using this
end Wax

/- The plain functions of the set's reference (3), and of the program's small ones. -/
namespace Wax
open Go (IntKind)

def simpleB : List UInt8 := [115, 105, 109, 112, 108, 101]
def relaxedB : List UInt8 := [114, 101, 108, 97, 120, 101, 100]

def con_dForm : List AV → Option AV
  | [.str s] => some (.bool (decide (s = simpleB ∨ s = relaxedB)))
  | _ => none

theorem ok_dForm (Γ : Gam) : ∀ args r, con_dForm args = some r → runs Γ c_laws_dForm args (fun v => v = r) := by
  intro args r h
  simp only [con_dForm] at h
  split at h <;> simp at h
  rename_i s
  subst h
  simp [c_laws_dForm, simpleB, relaxedB]
  refine ⟨fun h => ?_, fun h => by simp [h]⟩
  by_cases h2 : s = [114, 101, 108, 97, 120, 101, 100]
  · subst h2; rfl
  · simp [h, h2]

def strsA (l : List (List UInt8)) : List AV := l.map .str

def asStrs : List AV → Option (List (List UInt8))
  | [] => some []
  | .str s :: r => (asStrs r).map (s :: ·)
  | _ :: _ => none

theorem asStrs_spec : ∀ {xs : List AV} {l : List (List UInt8)}, asStrs xs = some l → xs = strsA l
  | [], l, h => by simp [asStrs] at h; subst h; rfl
  | .str s :: r, l, h => by
    simp only [asStrs] at h
    cases hr : asStrs r with
    | none => simp [hr] at h
    | some q => simp [hr] at h; subst h; rw [asStrs_spec hr]; rfl
  | .junk :: _, _, h => by simp [asStrs] at h
  | .bool _ :: _, _, h => by simp [asStrs] at h
  | .int _ _ :: _, _, h => by simp [asStrs] at h
  | .nilI :: _, _, h => by simp [asStrs] at h
  | .nilP :: _, _, h => by simp [asStrs] at h
  | .nilF :: _, _, h => by simp [asStrs] at h
  | .nilM :: _, _, h => by simp [asStrs] at h
  | .nilS :: _, _, h => by simp [asStrs] at h
  | .sl _ _ :: _, _, h => by simp [asStrs] at h
  | .ptr _ :: _, _, h => by simp [asStrs] at h
  | .agg _ :: _, _, h => by simp [asStrs] at h
  | .tup _ :: _, _, h => by simp [asStrs] at h
  | .ifc _ _ :: _, _, h => by simp [asStrs] at h
  | .fn _ _ :: _, _, h => by simp [asStrs] at h
  | .mp _ :: _, _, h => by simp [asStrs] at h
  | .ref _ _ :: _, _, h => by simp [asStrs] at h
  | .msl _ _ _ _ :: _, _, h => by simp [asStrs] at h
  | .mref _ :: _, _, h => by simp [asStrs] at h

@[simp] theorem strsA_length {l : List (List UInt8)} : (strsA l).length = l.length := by simp [strsA]
@[simp] theorem strsA_get {l : List (List UInt8)} {i : Nat} : (strsA l)[i]? = l[i]?.map .str := by simp [strsA]
@[simp] theorem asStrs_strsA {l : List (List UInt8)} : asStrs (strsA l) = some l := by induction l <;> simp_all [strsA, asStrs]

/-- A slice of texts, nil or not, as it comes in. -/
def slStrs : AV → Option (List (List UInt8))
  | .nilS => some []
  | .sl es xs => if es = 1 then asStrs xs else none
  | _ => none

def dShort (m : Int) (l : List (List UInt8)) : Bool := l.all (dPlain m) && decide ((l.length : Int) ≤ 200)

def con_dShort : List AV → Option AV
  | [.int .i64 m, v] => match slStrs v with
    | some l => if l.length < big ∧ ∀ s ∈ l, s.length < big then some (.bool (dShort m l)) else none
    | none => none
  | _ => none

theorem ok_dShort (Γ : Gam) (h6 : Γ.fn 6 = con_DPlain) : ∀ args r, con_dShort args = some r → runs Γ c_laws_dShort args (fun v => v = r) := by
  intro args r h
  simp only [con_dShort] at h
  split at h <;> (try simp at h; done)
  rename_i m v
  split at h <;> (try simp at h; done)
  rename_i l hl
  obtain ⟨⟨hlen, hall⟩, rfl⟩ := ite_some h
  clear h
  simp [big] at hlen hall
  have hv : (v = .nilS ∧ l = []) ∨ v = .sl 1 (strsA l) := by
    cases v <;> simp [slStrs] at hl
    · left; exact ⟨rfl, hl⟩
    · right; obtain ⟨e, hl⟩ := hl; rw [asStrs_spec hl, e]
  rcases hv with ⟨rfl, rfl⟩ | rfl
  · simp [c_laws_dShort]
    refine awp_loop (σ := Unit) (fun p => ⟨[(0, .int .i64 m), (1, .nilS), (5, .int .i64 0)], []⟩) (fun _ => True) (fun _ => 0) () (by simp) (by simp) ?_
    intro _ _
    simp [dShort]
  · simp [c_laws_dShort]
    refine awp_loop (σ := List (List UInt8) × List (List UInt8)) (fun p => ⟨[(0, .int .i64 m), (1, .sl 1 (strsA l)), (5, .int .i64 p.1.length)], []⟩) (fun p => l = p.1 ++ p.2 ∧ p.1.all (dPlain m) = true) (fun p => p.2.length) ([], l) (by simp) (by simp) ?_
    rintro ⟨pre, post⟩ ⟨hs1, hs2⟩
    simp only at hs1 hs2
    subst hs1
    cases post with
    | nil => simp [dShort, hs2]
    | cons x post =>
      simp at hlen
      have hx : x.length < 4611686018427387904 := hall x (by simp)
      have bad : dPlain m x = false → dShort m (pre ++ x :: post) = false := by intro h; simp [dShort, h]
      have good : dPlain m x = true → loopQ [0, 1, 5] (fun p : List (List UInt8) × List (List UInt8) => ⟨[(0, .int .i64 m), (1, .sl 1 (strsA (pre ++ x :: post))), (5, .int .i64 p.1.length)], []⟩) (fun p => pre ++ x :: post = p.1 ++ p.2 ∧ p.1.all (dPlain m) = true) (fun p => p.2.length) (pre, x :: post)
          ⟨[(0, .int .i64 m), (1, .sl 1 (strsA (pre ++ x :: post))), (5, .int .i64 (IntKind.i64.wrap (pre.length + 1)))], []⟩ := by
        intro h
        exact ⟨(pre ++ [x], post), by simp (disch := omega) [wrap64], ⟨by simp, by simp only [List.all_append, hs2, List.all_cons, h]; rfl⟩, by simp⟩
      generalize hl : loopQ [0, 1, 5] (fun p : List (List UInt8) × List (List UInt8) => (⟨[(0, .int .i64 m), (1, .sl 1 (strsA (pre ++ x :: post))), (5, .int .i64 p.1.length)], []⟩ : St)) (fun p => pre ++ x :: post = p.1 ++ p.2 ∧ p.1.all (dPlain m) = true) (fun p => p.2.length) (pre, x :: post) = LQ at good ⊢
      simp [acall, h6, con_DPlain, big, hx]
      exact ⟨fun _ => ⟨bad, good⟩, fun hge => by omega⟩

theorem trimL_length (s : List UInt8) : (trimL s).length ≤ s.length := by
  unfold trimL
  exact (List.dropWhile_sublist _).length_le
theorem trimR_length (s : List UInt8) : (trimR s).length ≤ s.length := by
  unfold trimR
  have := (List.dropWhile_sublist (fun b : UInt8 => isWs b.toNat) (l := s.reverse)).length_le
  simpa using this
theorem trimS_length (s : List UInt8) : (trimS s).length ≤ s.length := Nat.le_trans (trimR_length _) (trimL_length _)

theorem cutAt_length {c : Int} : ∀ {s a b : List UInt8}, cutAt c s = some (a, b) → s.length = a.length + b.length + 1
  | [], a, b, h => by simp [cutAt] at h
  | x :: r, a, b, h => by
    simp only [cutAt] at h
    split at h
    · simp at h; obtain ⟨rfl, rfl⟩ := h; simp
    · cases hr : cutAt c r with
      | none => simp [hr] at h
      | some p =>
        simp [hr] at h
        obtain ⟨rfl, rfl⟩ := h
        have := cutAt_length (a := p.1) (b := p.2) hr
        simp; omega

theorem joinGo_length : ∀ (s out : List UInt8) (w : Bool), (joinGo out w s).length ≤ out.length + 2 * s.length
  | [], out, w => by simp [joinGo]
  | x :: r, out, w => by
    simp only [joinGo]
    split
    · have := joinGo_length r out (decide (0 < out.length)); simp; omega
    · have := joinGo_length r ((if w then out ++ [32] else out) ++ [x]) false
      have h2 : ((if w then out ++ [32] else out) ++ [x]).length ≤ out.length + 2 := by split <;> simp
      simp only [List.length_cons]; omega

/-- A field in a canonical form. -/
def fieldOf (form field : List UInt8) : List UInt8 :=
  if form = simpleB then field else match cutAt 58 field with
    | none => trimS (lowS field) ++ [58, 13, 10]
    | some p => trimS (lowS p.1) ++ [58] ++ joinGo [] false p.2 ++ [13, 10]

def con_DFieldOf : List AV → Option AV
  | [.str form, .str field] => if field.length < mid then some (.str (fieldOf form field)) else none
  | _ => none

theorem ok_DFieldOf (Γ : Gam) (h2 : Γ.fn 2 = con_dCut) (h3 : Γ.fn 3 = con_DTrim) (h4 : Γ.fn 4 = con_DLower) (h5 : Γ.fn 5 = con_dJoined) : ∀ args r, con_DFieldOf args = some r → runs Γ c_spec_DFieldOf args (fun v => v = r) := by
  intro args r h
  simp only [con_DFieldOf] at h
  split at h <;> (try simp at h; done)
  rename_i form field
  obtain ⟨hlen, rfl⟩ := ite_some h
  clear h
  simp only [mid] at hlen
  have e1 : field.length < big := by unfold big; omega
  have t1 := trimS_length (lowS field)
  simp at t1
  simp [c_spec_DFieldOf]
  refine ⟨fun h => by simp [fieldOf, simpleB, h], fun h => ?_⟩
  simp [acall, h2, con_dCut, e1]
  cases hc : cutAt 58 field with
  | none =>
    simp [cutV, hc, acall, h4, con_DLower, e1, h3, con_DTrim]
    have : trimS (lowS field) ++ [58, 13, 10] = fieldOf form field := by simp [fieldOf, simpleB, h, hc]
    refine ⟨by omega, this⟩
  | some p =>
    obtain ⟨n, v⟩ := p
    have hl := cutAt_length hc
    have e2 : n.length < big := by unfold big; omega
    have e3 : v.length < mid := by unfold mid; omega
    have t2 := trimS_length (lowS n)
    simp at t2
    have t3 := joinGo_length v [] false
    simp at t3
    simp [cutV, hc, acall, h4, con_DLower, e2, h3, con_DTrim, h5, con_dJoined, e3]
    refine ⟨by omega, by omega, by omega, ?_⟩
    simp [fieldOf, simpleB, h, hc]
end Wax

/- The program's own functions: searching, cutting, letters, white space. -/
namespace Wax
open Go (IntKind)

/-- Where a text stands first in another. -/
def findAt (sub : List UInt8) : List UInt8 → Nat → Option Nat
  | [], n => if sub = [] then some n else none
  | x :: r, n => if sub.isPrefixOf (x :: r) then some n else findAt sub r (n + 1)

def idxV (sub s : List UInt8) : Int := match findAt sub s 0 with | some n => (n : Int) | none => -1

def con_zzIndex : List AV → Option AV
  | [.str s, .str sub] => if s.length < big ∧ sub.length < big then some (.int .i64 (idxV sub s)) else none
  | _ => none

theorem isPrefixOf_take (sub : List UInt8) (s : List UInt8) (h : sub.length ≤ s.length) : sub.isPrefixOf s = decide (s.take sub.length = sub) := by
  induction sub generalizing s with
  | nil => simp
  | cons a r ih =>
    cases s with
    | nil => simp at h
    | cons b s =>
      simp at h
      simp only [List.isPrefixOf, ih s h, List.length_cons, List.take_succ_cons]
      by_cases e : a = b
      · subst e; simp
      · have e' : ¬ b = a := fun x => e x.symm
        simp [e, e']

theorem isPrefixOf_long (sub : List UInt8) (s : List UInt8) (h : s.length < sub.length) : sub.isPrefixOf s = false := by
  induction sub generalizing s with
  | nil => simp at h
  | cons a r ih =>
    cases s with
    | nil => simp [List.isPrefixOf]
    | cons b s =>
      simp at h
      simp [List.isPrefixOf, ih s h]

theorem findAt_none (sub : List UInt8) : ∀ (s : List UInt8) (n : Nat), s.length < sub.length → findAt sub s n = none
  | [], n, h => by
    have : sub ≠ [] := by intro e; subst e; simp at h
    simp [findAt, this]
  | x :: r, n, h => by
    simp only [findAt, isPrefixOf_long sub (x :: r) h, Bool.false_eq_true, if_false]
    exact findAt_none sub r (n + 1) (by simp at h; omega)

theorem ok_zzIndex (Γ : Gam) : ∀ args r, con_zzIndex args = some r → runs Γ c_dkim_zzIndex args (fun v => v = r) := by
  intro args r h
  simp only [con_zzIndex] at h
  split at h <;> (try simp at h; done)
  rename_i s sub
  obtain ⟨⟨hs, hb⟩, rfl⟩ := ite_some h
  clear h
  simp only [big] at hs hb
  simp [c_dkim_zzIndex]
  refine awp_loop (σ := List UInt8 × List UInt8) (fun p => ⟨[(0, .str s), (1, .str sub), (5, .int .i64 p.1.length)], []⟩) (fun p => s = p.1 ++ p.2 ∧ findAt sub s 0 = findAt sub p.2 p.1.length) (fun p => p.2.length) ([], s) (by simp) (by simp) ?_
  rintro ⟨pre, post⟩ ⟨hs1, hs2⟩
  simp only at hs1 hs2
  subst hs1
  simp at hs
  simp (disch := omega) [wrap64]
  refine ⟨fun hle => ?_, fun hlt => ?_⟩
  · have et : ((pre.length : Int) + (sub.length : Int)).toNat = pre.length + sub.length := by omega
    have e : List.drop pre.length (List.take (pre.length + sub.length) (pre ++ post)) = post.take sub.length := by
      rw [List.take_length_add_append, List.drop_left]
    rw [et, e]
    refine ⟨⟨by omega, hle⟩, fun h => ?_, fun h => ?_⟩
    · rw [idxV, hs2]
      cases post with
      | nil =>
        have : sub = [] := by cases sub <;> simp at hle ⊢
        simp [findAt, this]
      | cons x post => simp only [findAt, isPrefixOf_take sub (x :: post) hle, h, decide_true, if_true]
    · cases post with
      | nil =>
        have : sub = [] := by cases sub <;> simp at hle ⊢
        subst this; simp at h
      | cons x post =>
        refine ⟨(pre ++ [x], post), by simp, ⟨by simp, ?_⟩, by simp⟩
        rw [hs2]
        simp only [findAt, isPrefixOf_take sub (x :: post) hle, h, decide_false, Bool.false_eq_true, if_false]
        simp
  · rw [idxV, hs2, findAt_none sub post _ (by omega)]

/-- Of a text of one byte. -/
theorem findAt_one (c : UInt8) : ∀ (s : List UInt8) (n : Nat), findAt [c] s n = (cutAt c.toNat s).map fun p => n + p.1.length
  | [], n => by simp [findAt, cutAt]
  | x :: r, n => by
    simp only [findAt, cutAt, List.isPrefixOf, Bool.and_true]
    by_cases e : x = c
    · subst e; simp
    · have e1 : ¬ (x.toNat : Int) = (c.toNat : Int) := fun h => e (UInt8.toNat_inj.1 (by omega))
      have e2 : (c == x) = false := by simp; exact fun h => e h.symm
      simp only [e2, Bool.false_eq_true, if_false, if_neg e1, findAt_one c r (n + 1), Option.map_map]
      congr 1; funext p; simp; omega

theorem cutAt_eq {c : Int} : ∀ {s a b : List UInt8}, cutAt c s = some (a, b) → ∃ x : UInt8, (x.toNat : Int) = c ∧ s = a ++ x :: b ∧ noB c a
  | [], a, b, h => by simp [cutAt] at h
  | x :: r, a, b, h => by
    simp only [cutAt] at h
    split at h
    · rename_i e; simp at h; obtain ⟨rfl, rfl⟩ := h; exact ⟨x, e, by simp, by simp [noB]⟩
    · rename_i e
      cases hr : cutAt c r with
      | none => simp [hr] at h
      | some p =>
        simp [hr] at h
        obtain ⟨rfl, rfl⟩ := h
        obtain ⟨y, h1, h2, h3⟩ := cutAt_eq (a := p.1) (b := p.2) hr
        refine ⟨y, h1, by rw [h2]; simp, ?_⟩
        intro z hz
        simp at hz
        rcases hz with rfl | hz
        · exact e
        · exact h3 z hz

/-- Cut at a text of one byte. -/
def con_zzCut : List AV → Option AV
  | [.str s, .str [c]] => if s.length < big then some (cutV c.toNat s) else none
  | _ => none

theorem ok_zzCut (Γ : Gam) (h22 : Γ.fn 22 = con_zzIndex) : ∀ args r, con_zzCut args = some r → runs Γ c_dkim_zzCut args (fun v => v = r) := by
  intro args r h
  simp only [con_zzCut] at h
  split at h <;> (try simp at h; done)
  rename_i s c
  obtain ⟨hs, rfl⟩ := ite_some h
  clear h
  simp [c_dkim_zzCut]
  have h1 : 1 < big := by decide
  simp [acall, h22, con_zzIndex, hs, h1]
  simp only [big] at hs
  simp only [idxV, findAt_one]
  cases hc : cutAt c.toNat s with
  | none => simp [cutV, hc]
  | some p =>
    obtain ⟨a, b⟩ := p
    obtain ⟨x, hx1, hx2, hx3⟩ := cutAt_eq hc
    subst hx2
    simp at hs
    simp (disch := omega) [cutV, hc, wrap64]
    have e2 : ((a.length : Int) + 1).toNat = a.length + 1 := by omega
    omega
end Wax

/- The program's own functions (2): letters, white space, of texts of ASCII. -/
namespace Wax
open Go (IntKind)

def ascii (s : List UInt8) : Bool := s.all fun b => decide (b.toNat < 128)

theorem ascii_cons {x : UInt8} {s : List UInt8} : ascii (x :: s) = (decide (x.toNat < 128) && ascii s) := rfl
theorem ascii_app {s t : List UInt8} : ascii (s ++ t) = (ascii s && ascii t) := by simp [ascii]

def con_zzToLower : List AV → Option AV
  | [.str s] => if s.length < mid ∧ ascii s = true then some (.str (lowS s)) else none
  | _ => none

theorem ok_zzToLower (Γ : Gam) : ∀ args r, con_zzToLower args = some r → runs Γ c_dkim_zzToLower args (fun v => v = r) := by
  intro args r h
  simp only [con_zzToLower] at h
  split at h <;> (try simp at h; done)
  rename_i s
  obtain ⟨⟨hs, ha⟩, rfl⟩ := ite_some h
  clear h
  simp only [mid] at hs
  simp [c_dkim_zzToLower]
  refine awp_loop (σ := List UInt8 × List UInt8 × Nat) (fun p => ⟨[(0, .str s), (3, outV p.2.2 (lowS p.1)), (4, .int .i64 p.1.length)], outH p.2.2 (lowS p.1)⟩)
    (fun p => s = p.1 ++ p.2.1 ∧ (p.2.2 = 18 ∨ p.2.2 = 31)) (fun p => p.2.1.length) ([], s, 18) (by simp) (by simp) ?_
  rintro ⟨pre, post, d⟩ ⟨hs1, hd⟩
  simp only at hs1 hd
  subst hs1
  cases post with
  | nil =>
    by_cases ho : pre = []
    · subst ho; simp
    · have hne : lowS pre ≠ [] := by intro e; apply ho; simpa [lowS] using e
      have e : List.take pre.length (lowS pre) = lowS pre := List.take_of_length_le (by simp)
      simp [outV_ne hne, outH_ne hne, e]
  | cons x post =>
    simp at hs
    have hx : x.toNat < 128 := by
      have := (by simpa [ascii_app, ascii_cons] using ha : ascii pre = true ∧ x.toNat < 128 ∧ ascii post = true)
      exact this.2.1
    have hl := lowB_toNat x
    have step : ∀ (n : Int) d', n = (lowB x).toNat → (d' = 18 ∨ d' = 31) →
        loopQ [0, 3, 4] (fun p : List UInt8 × List UInt8 × Nat => ⟨[(0, .str (pre ++ x :: post)), (3, outV p.2.2 (lowS p.1)), (4, .int .i64 p.1.length)], outH p.2.2 (lowS p.1)⟩)
          (fun p => pre ++ x :: post = p.1 ++ p.2.1 ∧ (p.2.2 = 18 ∨ p.2.2 = 31)) (fun p => p.2.1.length) (pre, x :: post, d)
          ⟨[(0, .str (pre ++ x :: post)), (3, .msl d' 1 0 (pre.length + 1)), (4, .int .i64 (IntKind.i64.wrap (pre.length + 1)))], [(d', .cells (bcA (lowS pre) ++ [.int .u8 n]))]⟩ := by
      intro n d' hn h1
      subst hn
      refine ⟨(pre ++ [x], post, d'), ?_, ⟨by simp, h1⟩, by simp⟩
      have e1 : outV d' (lowS (pre ++ [x])) = .msl d' 1 0 (pre.length + 1) := by rw [outV_ne (by simp)]; simp
      have e2 : outH d' (lowS (pre ++ [x])) = [(d', .cells (bcA (lowS pre) ++ [.int .u8 (lowB x).toNat]))] := by rw [outH_ne (by simp)]; simp
      simp (disch := omega) only [e1, e2]
      simp (disch := omega) [wrap64]
    generalize hl2 : loopQ [0, 3, 4] (fun p : List UInt8 × List UInt8 × Nat => (⟨[(0, .str (pre ++ x :: post)), (3, outV p.2.2 (lowS p.1)), (4, .int .i64 p.1.length)], outH p.2.2 (lowS p.1)⟩ : St))
          (fun p => pre ++ x :: post = p.1 ++ p.2.1 ∧ (p.2.2 = 18 ∨ p.2.2 = 31)) (fun p => p.2.1.length) (pre, x :: post, d) = LQ at step ⊢
    clear hl2
    by_cases hlow : 65 ≤ (x.toNat : Int) ∧ (x.toNat : Int) ≤ 90
    · obtain ⟨l1, l2⟩ := hlow
      rw [if_pos ⟨l1, l2⟩] at hl
      have w1 : IntKind.u8.wrap ((x.toNat : Int) + 97) = (x.toNat : Int) + 97 := Go.IntWalk.u8_in _ ⟨by omega, by omega⟩
      have w2 : IntKind.u8.wrap ((x.toNat : Int) + 97 - 65) = (x.toNat : Int) + 97 - 65 := Go.IntWalk.u8_in _ ⟨by omega, by omega⟩
      have st := step ((x.toNat : Int) + 97 - 65) 31 (by omega) (.inr rfl)
      have tk : List.take pre.length (lowS pre) = lowS pre := List.take_of_length_le (by simp)
      by_cases ho : pre = []
      · subst ho
        simp [w1, w2, l1, l2]
        simpa using st
      · have hne : lowS pre ≠ [] := by intro e; apply ho; simpa [lowS] using e
        rcases hd with rfl | rfl
        · simp [outV_ne hne, outH_ne hne, w1, w2, l1, l2, tk]
          exact ⟨fun _ => ⟨by omega, st⟩, by omega⟩
        · simp [outV_ne hne, outH_ne hne, w1, w2, l1, l2, tk]
          exact ⟨fun _ => ⟨by omega, st⟩, by omega⟩
    · rw [if_neg hlow] at hl
      have st := step (x.toNat : Int) 18 (by omega) (.inl rfl)
      have tk : List.take pre.length (lowS pre) = lowS pre := List.take_of_length_le (by simp)
      have hx226 : ¬ x = 226 := by intro e; subst e; simp at hx
      have et : ((pre.length : Int) + 3).toNat = pre.length + 3 := by omega
      have e3 : List.drop pre.length (List.take (pre.length + 3) (pre ++ x :: post)) = x :: post.take 2 := by
        rw [List.take_length_add_append, List.drop_left]; rfl
      have ew : ((pre.length : Int) + ((post.length : Int) + 1) - (pre.length : Int)) = (post.length : Int) + 1 := by omega
      have hcase : (¬ 65 ≤ (x.toNat : Int)) ∨ ((65 ≤ (x.toNat : Int)) ∧ ¬ (x.toNat : Int) ≤ 90) := by omega
      have ewr : IntKind.i64.wrap ((pre.length : Int) + 1) = (pre.length : Int) + 1 := wrap64 (by omega) (by omega)
      rw [ewr] at st
      by_cases ho : pre = []
      · subst ho
        simp at st e3
        rcases hcase with l1 | ⟨l1, l2⟩
        · simp [l1]
          simp (disch := omega) [wrap64, l1, hx226, e3]
          exact ⟨fun h => ⟨h, st⟩, fun _ => st⟩
        · simp [l1, l2]
          simp (disch := omega) [wrap64, l1, l2, hx226, e3]
          exact ⟨fun h => ⟨h, st⟩, fun _ => st⟩
      · have hne : lowS pre ≠ [] := by intro e; apply ho; simpa [lowS] using e
        rcases hcase with l1 | ⟨l1, l2⟩
        · rcases hd with rfl | rfl
          · simp [outV_ne hne, outH_ne hne, l1]
            simp (disch := omega) [tk, wrap64, l1, hx226, et, e3, ew]
            exact ⟨fun _ => ⟨fun h => ⟨⟨by omega, h⟩, by omega, st⟩, fun _ => ⟨by omega, st⟩⟩, by omega⟩
          · simp [outV_ne hne, outH_ne hne, l1]
            simp (disch := omega) [tk, wrap64, l1, hx226, et, e3, ew]
            exact ⟨fun _ => ⟨fun h => ⟨⟨by omega, h⟩, by omega, st⟩, fun _ => ⟨by omega, st⟩⟩, by omega⟩
        · rcases hd with rfl | rfl
          · simp [outV_ne hne, outH_ne hne, l1, l2]
            simp (disch := omega) [tk, wrap64, l1, l2, hx226, et, e3, ew]
            exact ⟨fun _ => ⟨fun h => ⟨⟨by omega, h⟩, by omega, st⟩, fun _ => ⟨by omega, st⟩⟩, by omega⟩
          · simp [outV_ne hne, outH_ne hne, l1, l2]
            simp (disch := omega) [tk, wrap64, l1, l2, hx226, et, e3, ew]
            exact ⟨fun _ => ⟨fun h => ⟨⟨by omega, h⟩, by omega, st⟩, fun _ => ⟨by omega, st⟩⟩, by omega⟩
end Wax

/- The program's own functions (3): white space, of ASCII. -/
namespace Wax
open Go (IntKind)

def isSp (n : Int) : Bool := decide ((9 ≤ n ∧ n ≤ 13) ∨ n = 32)

def con_zzIsSpace : List AV → Option AV
  | [.int .i32 n] => if n < 128 then some (.bool (isSp n)) else none
  | _ => none

theorem ok_zzIsSpace (Γ : Gam) : ∀ args r, con_zzIsSpace args = some r → runs Γ c_dkim_zzIsSpace args (fun v => v = r) := by
  intro args r h
  simp only [con_zzIsSpace] at h
  split at h <;> (try simp at h; done)
  rename_i n
  obtain ⟨hn, rfl⟩ := ite_some h
  clear h
  have f1 : ¬ n = 133 := by omega
  have f2 : ¬ n = 160 := by omega
  have f3 : ¬ n = 5760 := by omega
  have f4 : ¬ 8192 ≤ n := by omega
  have f5 : ¬ n = 8232 := by omega
  have f6 : ¬ n = 8233 := by omega
  have f7 : ¬ n = 8239 := by omega
  have f8 : ¬ n = 8287 := by omega
  have f9 : ¬ n = 12288 := by omega
  have key : ∀ b : Bool, ((9 ≤ n ∧ n ≤ 13) ∨ n = 32 ↔ b = true) → b = isSp n := by
    intro b hb; unfold isSp; cases b <;> simp at hb ⊢ <;> omega
  by_cases h1 : 9 ≤ n <;> by_cases h2 : n ≤ 13 <;> by_cases h3 : n = 32 <;>
    simp [c_dkim_zzIsSpace, f1, f2, f3, f4, f5, f6, f7, f8, f9, h1, h2, h3] <;> first | rfl | exact decide_eq_true (by omega) | exact decide_eq_false (by omega)

def con_closure : List AV → Option AV
  | [.int .i32 n] => some (.bool (isWs n))
  | _ => none

theorem ok_closure (Γ : Gam) : ∀ args r, con_closure args = some r → runs Γ c_dkim_relaxedCanonicalizer_CanonicalizeHeader_1 args (fun v => v = r) := by
  intro args r h
  simp only [con_closure] at h
  split at h <;> simp at h
  rename_i b
  subst h
  simp [c_dkim_relaxedCanonicalizer_CanonicalizeHeader_1, isWs]
  refine ⟨fun h => ⟨fun h2 => ⟨fun h3 => ?_, fun h3 => ?_⟩, fun h2 => ?_⟩, fun h => ?_⟩ <;> simp [*]

def con_simpleCH : List AV → Option AV
  | [_, .str s] => some (.str s)
  | _ => none

theorem ok_simpleCH (Γ : Gam) : ∀ args r, con_simpleCH args = some r → runs Γ c_dkim_simpleCanonicalizer_CanonicalizeHeader args (fun v => v = r) := by
  intro args r h
  simp only [con_simpleCH] at h
  split at h <;> simp at h
  subst h
  simp [c_dkim_simpleCanonicalizer_CanonicalizeHeader]

def con_canonicalizers : List AV → Option AV
  | [.str s] => some (if s = simpleB then .tup [.ifc 1 (.ptr []), .bool true] else if s = relaxedB then .tup [.ifc 2 (.ptr []), .bool true] else .tup [.nilI, .bool false])
  | _ => none

theorem ok_canonicalizers (Γ : Gam) : ∀ args r, con_canonicalizers args = some r → runs Γ c_dkim_canonicalizers args (fun v => v = r) := by
  intro args r h
  simp only [con_canonicalizers] at h
  split at h <;> simp at h
  rename_i s
  subst h
  simp [c_dkim_canonicalizers, simpleB, relaxedB, snap, snapW, snapWL, resolveA]
  exact ⟨fun h => by simp [h], fun h => ⟨fun h2 => by simp [h2], fun h2 => by simp [h, h2]⟩⟩

/-- The parts of a text between white space. -/
def wordsGo : List UInt8 → List UInt8 → List (List UInt8)
  | cur, [] => if cur = [] then [] else [cur]
  | cur, x :: r => if isWs x.toNat then (if cur = [] then wordsGo [] r else cur :: wordsGo [] r) else wordsGo (cur ++ [x]) r
def wordsOf (s : List UInt8) : List (List UInt8) := wordsGo [] s

def joinB : List (List UInt8) → List UInt8
  | [] => []
  | [s] => s
  | s :: r => s ++ [32] ++ joinB r

theorem wordsGo_ne : ∀ (s cur : List UInt8), cur ≠ [] → wordsGo cur s ≠ []
  | [], cur, h => by simp [wordsGo, h]
  | x :: r, cur, h => by
    simp only [wordsGo]
    split
    · simp
    · exact wordsGo_ne r _ (by simp)

def J2 (ws : List (List UInt8)) : List UInt8 := if ws = [] then [] else 32 :: joinB ws

theorem joinB_cons (c : List UInt8) (ws : List (List UInt8)) : joinB (c :: ws) = c ++ J2 ws := by
  cases ws with
  | nil => simp [joinB, J2]
  | cons d r => simp [joinB, J2]

theorem J2_ne {ws : List (List UInt8)} (h : ws ≠ []) : J2 ws = 32 :: joinB ws := by simp [J2, h]

/-- The reference's joined text is that of the words. -/
theorem joinGo_words : ∀ (s : List UInt8),
    (∀ out : List UInt8, out ≠ [] → joinGo out true s = out ++ J2 (wordsOf s)) ∧
    (joinGo [] false s = joinB (wordsOf s)) ∧
    (∀ pre cur : List UInt8, cur ≠ [] → joinGo (pre ++ cur) false s = pre ++ joinB (wordsGo cur s))
  | [] => by
    refine ⟨fun out _ => by simp [joinGo, wordsOf, wordsGo, J2], by simp [joinGo, wordsOf, wordsGo, joinB], fun pre cur h => by simp [joinGo, wordsGo, h, joinB]⟩
  | x :: r => by
    obtain ⟨hA, hB, hC⟩ := joinGo_words r
    by_cases hw : isWs x.toNat = true
    · refine ⟨fun out ho => ?_, ?_, fun pre cur hc => ?_⟩
      · have : decide (0 < out.length) = true := decide_eq_true (List.length_pos_iff.2 ho)
        simp only [joinGo, if_pos hw, this, hA out ho, wordsOf, wordsGo]
        rfl
      · simp only [joinGo, if_pos hw, wordsOf, wordsGo]
        exact hB
      · have : decide (0 < (pre ++ cur).length) = true := decide_eq_true (List.length_pos_iff.2 (by simp [hc]))
        simp only [joinGo, if_pos hw, this, hA (pre ++ cur) (by simp [hc]), wordsGo, if_neg hc, joinB_cons]
        simp [wordsOf]
    · refine ⟨fun out ho => ?_, ?_, fun pre cur hc => ?_⟩
      · have h1 := hC (out ++ [32]) [x] (by simp)
        have h2 := wordsGo_ne r [x] (by simp)
        simp only [joinGo, if_neg hw, if_true, wordsOf, wordsGo, List.nil_append, h1, J2_ne h2]
        simp
      · have h1 := hC [] [x] (by simp)
        simp only [joinGo, if_neg hw, wordsOf, wordsGo, List.nil_append] at h1 ⊢
        exact h1
      · have h1 := hC pre (cur ++ [x]) (by simp)
        simp only [joinGo, if_neg hw, wordsGo, ← List.append_assoc] at h1 ⊢
        exact h1

theorem joinB_words (s : List UInt8) : joinB (wordsOf s) = joinGo [] false s := (joinGo_words s).2.1.symm

def relaxedOf (s : List UInt8) : List UInt8 :=
  match cutAt 58 s with
  | none => trimS (lowS s) ++ [58, 13, 10]
  | some p => trimS (lowS p.1) ++ [58] ++ joinB (wordsOf p.2) ++ [13, 10]

def con_FieldsFunc : List AV → Option AV
  | [.str s, .fn 20 []] => if s.length < mid ∧ ascii s = true then some (.sl 1 (strsA (wordsOf s))) else none
  | _ => none

def con_Join : List AV → Option AV
  | [v, .str [32]] => match slStrs v with
    | some l => if (joinB l).length < mid then some (.str (joinB l)) else none
    | none => none
  | _ => none

def plain (s : List UInt8) : Bool := s.all plainB

def con_zzTrimSpace : List AV → Option AV
  | [.str s] => if s.length < mid ∧ plain s = true then some (.str (trimS s)) else none
  | _ => none

def con_relaxedCH : List AV → Option AV
  | [_, .str s] => if s.length < mid ∧ plain s = true ∧ (∀ p, cutAt 58 s = some p → (joinB (wordsOf p.2)).length < mid) then some (.str (relaxedOf s)) else none
  | _ => none

theorem plain_ascii {s : List UInt8} (h : plain s = true) : ascii s = true := by
  simp only [plain, ascii, List.all_eq_true] at h ⊢
  intro b hb
  have := of_decide_eq_true (h b hb)
  exact decide_eq_true (by omega)

theorem plain_low {s : List UInt8} (h : plain s = true) : plain (lowS s) = true := by
  simp only [plain, lowS, List.all_eq_true, List.mem_map] at h ⊢
  rintro b ⟨a, ha, rfl⟩
  have h1 := of_decide_eq_true (h a ha)
  have h2 := lowB_toNat a
  apply plainB_true
  split at h2 <;> omega

theorem ok_relaxedCH (Γ : Gam) (h16 : Γ.fn 16 = con_zzCut) (h17 : Γ.fn 17 = con_zzToLower) (h18 : Γ.fn 18 = con_zzTrimSpace) (h19 : Γ.fn 19 = con_FieldsFunc) (h21 : Γ.fn 21 = con_Join) :
    ∀ args r, con_relaxedCH args = some r → runs Γ c_dkim_relaxedCanonicalizer_CanonicalizeHeader args (fun v => v = r) := by
  intro args r h
  simp only [con_relaxedCH] at h
  split at h <;> (try simp at h; done)
  rename_i v s
  obtain ⟨⟨hs, hp, hj⟩, rfl⟩ := ite_some h
  clear h
  have e1 : s.length < big := by simp only [mid, big] at *; omega
  simp [c_dkim_relaxedCanonicalizer_CanonicalizeHeader]
  simp [acall, h16, con_zzCut, e1]
  have t1 := trimS_length (lowS s)
  simp at t1
  cases hc : cutAt 58 s with
  | none =>
    simp [cutV, hc, acall, h17, con_zzToLower, hs, plain_ascii hp, h18, con_zzTrimSpace, plain_low hp]
    simp only [mid] at hs
    refine ⟨by omega, by omega, ?_⟩
    simp [relaxedOf, hc]
  | some p =>
    obtain ⟨n, w⟩ := p
    have hl := cutAt_length hc
    obtain ⟨x, hx1, hx2, hx3⟩ := cutAt_eq hc
    have hpn : plain n = true ∧ plain w = true := by
      have h2 := hp
      rw [hx2] at h2
      simp only [plain, List.all_append, List.all_cons, Bool.and_eq_true] at h2 ⊢
      exact ⟨h2.1, h2.2.2⟩
    have e2 : n.length < mid := by simp only [mid] at *; omega
    have e3 : w.length < mid := by simp only [mid] at *; omega
    have hj' := hj (n, w) hc
    simp only at hj'
    have t2 := trimS_length (lowS n)
    simp at t2
    have hsl : slStrs (.sl 1 (strsA (wordsOf w))) = some (wordsOf w) := by simp [slStrs]
    simp [cutV, hc, acall, h17, con_zzToLower, e2, plain_ascii hpn.1, h18, con_zzTrimSpace, plain_low hpn.1, h19, con_FieldsFunc, e3, plain_ascii hpn.2, h21, con_Join, hsl, hj']
    simp only [mid] at e2 e3 hj'
    refine ⟨by omega, by omega, by omega, ?_⟩
    simp [relaxedOf, hc]

/-- A field in a form, as the program gives it; false: there is no such form. -/
def canonV (form s : List UInt8) : AV :=
  if form = simpleB then .tup [.str s, .bool true] else if form = relaxedB then .tup [.str (relaxedOf s), .bool true] else .tup [.str [], .bool false]

abbrev relOk (s : List UInt8) : Prop := s.length < mid ∧ plain s = true ∧ (∀ p, cutAt 58 s = some p → (joinB (wordsOf p.2)).length < mid)

theorem rel_ne : ¬ relaxedB = simpleB := by decide

def con_CanonicalHeader : List AV → Option AV
  | [.str form, .str s] => if relOk s then some (canonV form s) else none
  | _ => none

theorem ok_CanonicalHeader (Γ : Gam) (h15 : Γ.fn 15 = con_canonicalizers) (h30 : Γ.fn 30 = con_simpleCH) (h31 : Γ.fn 31 = con_relaxedCH) (m1 : Γ.mth 1 "CanonicalizeHeader" = some 30) (m2 : Γ.mth 2 "CanonicalizeHeader" = some 31) :
    ∀ args r, con_CanonicalHeader args = some r → runs Γ c_dkim_CanonicalHeader args (fun v => v = r) := by
  intro args r h
  simp only [con_CanonicalHeader] at h
  split at h <;> (try simp at h; done)
  rename_i form s
  obtain ⟨hr, rfl⟩ := ite_some h
  clear h
  have e : con_relaxedCH [.ptr [], .str s] = some (.str (relaxedOf s)) := by
    simp only [con_relaxedCH]
    exact if_pos hr
  by_cases f1 : form = simpleB
  · simp [c_dkim_CanonicalHeader, acall, h15, con_canonicalizers, f1, m1, h30, con_simpleCH, canonV]
  · by_cases f2 : form = relaxedB
    · simp [c_dkim_CanonicalHeader, acall, h15, con_canonicalizers, f2, rel_ne, m2, h31, e, canonV]
    · simp [c_dkim_CanonicalHeader, acall, h15, con_canonicalizers, f1, f2, canonV]

def con_DCanonField : List AV → Option AV
  | [.str form, .str s] => if relOk s then some (.str (if form = simpleB then s else if form = relaxedB then relaxedOf s else [])) else none
  | _ => none

theorem con_CanonicalHeader_eq {form s : List UInt8} (hr : relOk s) : con_CanonicalHeader [.str form, .str s] = some (canonV form s) := if_pos hr

theorem ok_DCanonField (Γ : Gam) (h13 : Γ.fn 13 = con_CanonicalHeader) : ∀ args r, con_DCanonField args = some r → runs Γ c_impl_DCanonField args (fun v => v = r) := by
  intro args r h
  simp only [con_DCanonField] at h
  split at h <;> (try simp at h; done)
  rename_i form s
  obtain ⟨hr, rfl⟩ := ite_some h
  clear h
  have e := con_CanonicalHeader_eq (form := form) hr
  clear hr
  by_cases f1 : form = simpleB
  · subst f1; simp [c_impl_DCanonField, acall, h13, e, canonV]
  · by_cases f2 : form = relaxedB
    · subst f2; simp [c_impl_DCanonField, acall, h13, e, canonV, rel_ne]
    · simp [c_impl_DCanonField, acall, h13, e, canonV, f1, f2]

/-- What the statement asks of its own calls: that the list is cut, and a field written, as the set's own samples have it. -/
def con_dAwake : List AV → Option AV
  | [] => some (.bool true)
  | _ => none

def con_FnDCanonFields : List AV → Option AV
  | [.str form, .str field] => if form.length < 9223372036854775808 ∧ field.length < 9223372036854775808 then some (.bool true) else none
  | _ => none

/-- Both give the same field. -/
theorem relaxedOf_eq (s : List UInt8) : relaxedOf s = fieldOf relaxedB s := by
  simp only [relaxedOf, fieldOf, if_neg rel_ne]
  cases cutAt 58 s with
  | none => rfl
  | some p => simp only [joinB_words]

theorem relOk_of {s : List UInt8} (hs : s.length < 549755813888) (hp : plain s = true) : relOk s := by
  refine ⟨by simp only [mid]; omega, hp, ?_⟩
  rintro ⟨n, v⟩ hc
  have h1 := cutAt_length hc
  have h2 := joinGo_length v [] false
  rw [joinB_words]
  simp at h2
  simp only [mid]; omega
end Wax

/- strings.Join, as the kit's shelf has it, for the engine. -/
namespace Wax
open Go Go.RowKit

theorem repSl_strs {T : Tab} {w : World} {F : Frz} {b : Nat} : ∀ (l : List (List UInt8)) (o : Nat), RepSl T w F 1 b o (strsA l) → ∀ (j : Nat) (s : List UInt8), l[j]? = some s → F b ∧ w.cell? ⟨b, o + j, none⟩ = some (.string ⟨s.toArray⟩)
  | [], _, _, j, s, h => by simp at h
  | x :: r, o, h, j, s, hj => by
    simp only [strsA, List.map_cons, RepSl] at h
    cases j with
    | zero =>
      simp at hj; subst hj
      obtain ⟨_, ⟨hF, v, hv, hr⟩, _⟩ := h
      simp only [Rep] at hr
      subst hr
      exact ⟨hF, by simpa using hv⟩
    | succ j =>
      have := repSl_strs r (o + 1) h.2.2 j s (by simpa using hj)
      rw [show o + (j + 1) = o + 1 + j by omega]
      exact this

theorem joinB_lib : ∀ (l : List (List UInt8)), joinB l = Go.Lib.join l [32]
  | [] => rfl
  | x :: r => by
    rw [joinB_cons, Go.Lib.join_cons]
    congr 1
    cases r with
    | nil => rfl
    | cons y r =>
      have := joinB_lib (y :: r)
      rw [Go.Lib.join_cons] at this
      simp only [J2, Go.Lib.joinTail, List.map_cons, List.flatten_cons] at this ⊢
      simp [this]

/-- What the shelf says of strings.Join, in one piece. -/
def JoinSays (P : Program) (f : FuncId) : Prop :=
  (∀ (a : Option Addr) (c : Nat) (sep : ByteArray) (w : World), Calls P f #[.slice a 0 c, .string sep] w fun e w' => e = .returned (.string ⟨#[]⟩) ∧ w' = w) ∧
  ∀ (bk o c : Nat) (xs : List ByteArray) (sep : ByteArray) (w : World), (∀ (j : Nat) x, xs[j]? = some x → w.cell? ⟨bk, o + j, none⟩ = some (.string x)) → bk < w.heap.size → xs.length ≤ 140737488355328 → xs.length ≤ c →
    (Go.Lib.join (xs.map (·.data.toList)) sep.data.toList).length ≤ 140737488355328 →
    Calls P f #[.slice (some ⟨bk, o, none⟩) xs.length c, .string sep] w fun e w' => e = .returned (.string ⟨(Go.Lib.join (xs.map (·.data.toList)) sep.data.toList).toArray⟩) ∧ Below w.heap.size w w'

theorem joinTail_length (r : List (List UInt8)) : r.length ≤ (Go.Lib.joinTail [32] r).length := by
  induction r with
  | nil => simp [Go.Lib.joinTail]
  | cons x r ih => simp only [Go.Lib.joinTail, List.map_cons, List.flatten_cons, List.length_append, List.length_cons] at ih ⊢; omega

theorem ok_Join {P : Program} {T : Tab} {f : FuncId} (H : JoinSays P f) : ∀ args r, con_Join args = some r → OkCall P T f args r := by
  intro args r h w F vs hF _ hx
  simp only [con_Join] at h
  split at h <;> (try simp at h; done)
  rename_i v
  split at h <;> (try simp at h; done)
  rename_i l hl
  obtain ⟨hlen, rfl⟩ := ite_some h
  clear h
  match vs, hx with
  | [u, u'], hx =>
    simp only [RepL, and_true] at hx
    obtain ⟨h1, h2⟩ := hx
    simp only [Rep] at h2
    subst h2
    cases v <;> simp [slStrs] at hl
    · subst hl
      simp only [Rep] at h1
      subst h1
      refine (H.1 none 0 _ w).mono ?_
      rintro e w' ⟨rfl, rfl⟩
      exact ⟨_, rfl, Below.refl _ _, by simp [Rep, joinB]⟩
    · rename_i es xs
      obtain ⟨rfl, hl⟩ := hl
      have := asStrs_spec hl
      subst this
      simp only [Rep] at h1
      obtain ⟨b, o, cap, rfl, hcap, hsl⟩ := h1
      cases l with
      | nil =>
        refine (H.1 _ cap _ w).mono ?_
        rintro e w' ⟨rfl, rfl⟩
        exact ⟨_, rfl, Below.refl _ _, by simp [Rep, joinB]⟩
      | cons x0 l =>
        have hc := repSl_strs (x0 :: l) o hsl
        have hb : b < w.heap.size := hF b (hc 0 x0 rfl).1
        have hn : (x0 :: l).length ≤ (joinB (x0 :: l)).length + 1 := by
          rw [joinB_lib, Go.Lib.join_cons]
          have := joinTail_length l
          simp; omega
        simp only [mid] at hlen
        have e1 : ((x0 :: l).map fun s => (⟨s.toArray⟩ : ByteArray)).map (·.data.toList) = x0 :: l := by
          have : ((fun x : ByteArray => x.data.toList) ∘ fun s : List UInt8 => (⟨s.toArray⟩ : ByteArray)) = id := by funext s; simp
          rw [List.map_map, this, List.map_id]
        have := H.2 b o cap ((x0 :: l).map fun s => (⟨s.toArray⟩ : ByteArray)) ⟨#[32]⟩ w (fun j x hj => by
          rw [List.getElem?_map] at hj
          cases hq : (x0 :: l)[j]? with
          | none => rw [hq] at hj; simp at hj
          | some s => rw [hq] at hj; simp at hj; subst hj; exact (hc j s hq).2) hb (by simp only [List.length_map]; omega) (by simpa using hcap) (by rw [e1]; show (Go.Lib.join (x0 :: l) [32]).length ≤ _; rw [← joinB_lib]; omega)
        rw [e1] at this
        have e2 : ((x0 :: l).map fun s => (⟨s.toArray⟩ : ByteArray)).length = (strsA (x0 :: l)).length := by simp
        rw [e2] at this
        refine this.mono ?_
        rintro e w' ⟨rfl, hbl⟩
        refine ⟨_, rfl, hbl, ?_⟩
        simp only [Rep]
        rw [joinB_lib]
end Wax

/- Loops with a named end; growing slices; what a caller gets back. -/
namespace Wax
open Go (IntKind)

/-- A loop by a ghost; a round's end is a state of a smaller ghost. -/
theorem awp_loop2 {σ : Type} {Γ : Gam} {Q : APost} {st : St} {live : List Nat} {c : SCode} (f : σ → St) (ok : σ → Prop) (m : σ → Nat) (s0 : σ) (h0 : norm live st = f s0) (hok : ok s0)
    (hr : ∀ s, ok s → ∀ LQ : St → Prop, (∀ s', ok s' → m s' < m s → ∀ st, norm live st = f s' → LQ st) → awp Γ c (thenQ LQ Q) (f s)) : awp Γ (.loop live c) Q st := by
  refine awp_loop f ok m s0 h0 hok fun s hs => hr s hs _ ?_
  intro s' h1 h2 st h3
  exact ⟨s', h3, h1, h2⟩

@[simp] theorem reach_nil {hp : List (Nat × AObj)} {n : Nat} {acc : List Nat} : reach hp n [] acc = acc := by cases n <;> rfl
theorem reach_succ {hp : List (Nat × AObj)} {n i : Nat} {r acc : List Nat} : reach hp (n + 1) (i :: r) acc = if acc.contains i then reach hp n r acc else reach hp n (r ++ (match hlk hp i with | some o => refsO o | none => [])) (acc ++ [i]) := rfl

/-- A slice that grows from nil. -/
def grV (d es n : Nat) : AV := match n with | 0 => .nilS | n + 1 => .msl d es 0 (n + 1)
def grH (d n : Nat) (cs : List AV) : List (Nat × AObj) := match n with | 0 => [] | _ + 1 => [(d, .cells cs)]
@[simp] theorem grV_zero {d es : Nat} : grV d es 0 = .nilS := rfl
@[simp] theorem grH_zero {d : Nat} {cs : List AV} : grH d 0 cs = [] := rfl
@[simp] theorem grV_succ {d es n : Nat} : grV d es (n + 1) = .msl d es 0 (n + 1) := rfl
@[simp] theorem grH_succ {d n : Nat} {cs : List AV} : grH d (n + 1) cs = [(d, .cells cs)] := rfl

@[simp] theorem strsA_nil : strsA [] = [] := rfl
@[simp] theorem strsA_cons {x : List UInt8} {l : List (List UInt8)} : strsA (x :: l) = .str x :: strsA l := rfl
@[simp] theorem strsA_app {l m : List (List UInt8)} : strsA (l ++ m) = strsA l ++ strsA m := by simp [strsA]
@[simp] theorem atoms_strsA {l : List (List UInt8)} : atoms (strsA l) = true := by induction l <;> simp_all
@[simp] theorem killL_strsA {d : Nat} {l : List (List UInt8)} : killL d (strsA l) = strsA l := by induction l <;> simp_all
@[simp] theorem hasRefL_strsA {l : List (List UInt8)} : hasRefL (strsA l) = false := by induction l <;> simp_all
@[simp] theorem refsL_strsA {l : List (List UInt8)} : refsL (strsA l) = [] := by induction l <;> simp_all
@[simp] theorem mapIdL_strsA {g : Nat → Nat} {l : List (List UInt8)} : mapIdL g (strsA l) = strsA l := by induction l <;> simp_all
@[simp] theorem hasRefL_bcA {l : List UInt8} : hasRefL (bcA l) = false := by induction l <;> simp_all
@[simp] theorem refsL_bcA {l : List UInt8} : refsL (bcA l) = [] := by induction l <;> simp_all
@[simp] theorem mapIdL_bcA {g : Nat → Nat} {l : List UInt8} : mapIdL g (bcA l) = bcA l := by induction l <;> simp_all
@[simp] theorem strsA_drop {l : List (List UInt8)} {i : Nat} : (strsA l).drop i = strsA (l.drop i) := by simp [strsA, List.map_drop]
@[simp] theorem strsA_take {l : List (List UInt8)} {i : Nat} : (strsA l).take i = strsA (l.take i) := by simp [strsA, List.map_take]
@[simp] theorem strsA_set {l : List (List UInt8)} {i : Nat} {x : List UInt8} : (strsA l).set i (.str x) = strsA (l.set i x) := by simp [strsA, List.map_set]
@[simp] theorem snapWL_strsA {g : AV → AV} {l : List (List UInt8)} : snapWL g (strsA l) = strsA l := by induction l <;> simp_all
@[simp] theorem snapWL_bcA {g : AV → AV} {l : List UInt8} : snapWL g (bcA l) = bcA l := by induction l <;> simp_all
@[simp] theorem map_snap_strsA {n : Nat} {hp : List (Nat × AObj)} {l : List (List UInt8)} : (strsA l).map (snap (n + 1) hp) = strsA l := by induction l <;> simp_all [snap]
@[simp] theorem map_snap_bcA {n : Nat} {hp : List (Nat × AObj)} {l : List UInt8} : (bcA l).map (snap (n + 1) hp) = bcA l := by induction l <;> simp_all [snap]

@[simp] theorem refsL_app {a b : List AV} : refsL (a ++ b) = refsL a ++ refsL b := by induction a <;> simp_all
@[simp] theorem mapIdL_app {g : Nat → Nat} {a b : List AV} : mapIdL g (a ++ b) = mapIdL g a ++ mapIdL g b := by induction a <;> simp_all
@[simp] theorem hasRefL_appB {a b : List AV} : hasRefL (a ++ b) = (hasRefL a || hasRefL b) := by induction a <;> simp_all [Bool.or_assoc]
@[simp] theorem snapWL_app {g : AV → AV} {a b : List AV} : snapWL g (a ++ b) = snapWL g a ++ snapWL g b := by induction a <;> simp_all
@[simp] theorem map_snapW_strsA {g : AV → AV} {l : List (List UInt8)} : (strsA l).map (snapW g) = strsA l := by induction l <;> simp_all
@[simp] theorem map_snapW_bcA {g : AV → AV} {l : List UInt8} : (bcA l).map (snapW g) = bcA l := by induction l <;> simp_all
@[simp high] theorem aload_ref {hp : List (Nat × AObj)} {id off : Nat} : aload hp none (.ref id off) = (oCells (hlk hp id)).bind fun cs => cs[off]?.bind fun c => if atom c = true then some c else none := by
  simp only [aload]
  cases hlk hp id with
  | none => rfl
  | some o => cases o <;> simp only [oCells, Option.bind_some, loadC_drop] <;> rfl
theorem get_mid {α : Type} {a b : List α} {x : α} {n : Nat} (h : a.length = n) : (a ++ x :: b)[n]? = some x := by
  subst h; rw [List.getElem?_append_right (Nat.le_refl _)]; simp
theorem set_mid {α : Type} {a b : List α} {x y : α} {n : Nat} (h : a.length = n) : (a ++ x :: b).set n y = a ++ y :: b := by
  subst h; simp
@[simp] theorem spliceL_more {cs : List AV} {i : Nat} {x y : AV} {r : List AV} : spliceL cs i (x :: y :: r) = spliceL (cs.set i x) (i + 1) (y :: r) := rfl
@[simp] theorem killL_repl {d n : Nat} {v : AV} : killL d (List.replicate n v) = List.replicate n (kill d v) := by induction n <;> simp_all [List.replicate_succ]
@[simp] theorem refsL_repl {n : Nat} {v : AV} (h : refs v = []) : refsL (List.replicate n v) = [] := by induction n <;> simp_all [List.replicate_succ]
@[simp] theorem mapIdL_repl {g : Nat → Nat} {n : Nat} {v : AV} : mapIdL g (List.replicate n v) = List.replicate n (mapId g v) := by induction n <;> simp_all [List.replicate_succ]
@[simp] theorem atoms_repl {n : Nat} {v : AV} (h : atom v = true) : atoms (List.replicate n v) = true := by induction n <;> simp_all [List.replicate_succ]
theorem xor_neg1 (n : Int) : IntKind.i64.wrap ((BitVec.ofInt 64 (-1) ^^^ BitVec.ofInt 64 n).toNat : Int) = IntKind.i64.wrap (-n - 1) := by
  have e : BitVec.ofInt 64 (-1) ^^^ BitVec.ofInt 64 n = ~~~ BitVec.ofInt 64 n := by
    have : BitVec.ofInt 64 (-1) = BitVec.allOnes 64 := by decide
    rw [this, BitVec.allOnes_xor]
  rw [e, BitVec.toNat_not, BitVec.toNat_ofInt, IntKind.wrap_i64, IntKind.wrap_i64]
  omega
@[simp high] theorem aun_xor64 {n : Int} : aun .xor (.int .i64 n) = some (.int .i64 (IntKind.i64.wrap (-n - 1))) := by
  have := xor_neg1 n
  show some (AV.int .i64 (IntKind.i64.wrap ((BitVec.ofInt 64 (-1) ^^^ BitVec.ofInt 64 n).toNat : Int))) = _
  rw [this]
@[simp high] theorem aun_not {b : Bool} : aun .not (.bool b) = some (.bool (!b)) := rfl
@[simp high] theorem aun_neg {k : IntKind} {n : Int} : aun .neg (.int k n) = some (.int k (k.wrap (0 - n))) := rfl

section
variable {n : Nat} {hp : List (Nat × AObj)}
@[simp] theorem snap_junk : snap (n + 1) hp .junk = .junk := rfl
@[simp] theorem snap_bool {b} : snap (n + 1) hp (.bool b) = .bool b := rfl
@[simp] theorem snap_int {k m} : snap (n + 1) hp (.int k m) = .int k m := rfl
@[simp] theorem snap_str {s} : snap (n + 1) hp (.str s) = .str s := rfl
@[simp] theorem snap_nilI : snap (n + 1) hp .nilI = .nilI := rfl
@[simp] theorem snap_nilP : snap (n + 1) hp .nilP = .nilP := rfl
@[simp] theorem snap_nilF : snap (n + 1) hp .nilF = .nilF := rfl
@[simp] theorem snap_nilM : snap (n + 1) hp .nilM = .nilM := rfl
@[simp] theorem snap_nilS : snap (n + 1) hp .nilS = .nilS := rfl
@[simp] theorem snap_sl {e xs} : snap (n + 1) hp (.sl e xs) = .sl e xs := rfl
@[simp] theorem snap_ptr {cs} : snap (n + 1) hp (.ptr cs) = .ptr cs := rfl
@[simp] theorem snap_bx {cs} : snap (n + 1) hp (.bx cs) = .bx cs := rfl
@[simp] theorem snap_mp {es} : snap (n + 1) hp (.mp es) = .mp es := rfl
@[simp] theorem snap_ifc {t v} : snap (n + 1) hp (.ifc t v) = .ifc t (snap (n + 1) hp v) := rfl
theorem snapWL_map {g : AV → AV} : ∀ l : List AV, snapWL g l = l.map (snapW g)
  | [] => rfl
  | x :: r => by simp [snapWL, snapWL_map r]
@[simp] theorem snap_agg {cs} : snap (n + 1) hp (.agg cs) = .agg (cs.map (snap (n + 1) hp)) := by
  show AV.agg (snapWL _ cs) = _
  rw [snapWL_map]; rfl
@[simp] theorem snap_tup {cs} : snap (n + 1) hp (.tup cs) = .tup (cs.map (snap (n + 1) hp)) := by
  show AV.tup (snapWL _ cs) = _
  rw [snapWL_map]; rfl
@[simp] theorem snap_fn {f cs} : snap (n + 1) hp (.fn f cs) = .fn f (cs.map (snap (n + 1) hp)) := by
  show AV.fn f (snapWL _ cs) = _
  rw [snapWL_map]; rfl
@[simp] theorem snap_ref {id off} : snap (n + 1) hp (.ref id off) = match oCells (hlk hp id) with | some cs => .ptr ((cs.drop off).map (snap n hp)) | none => .junk := by
  show resolveA (snap n hp) hp (.ref id off) = _
  simp only [resolveA]
  cases hlk hp id with
  | none => rfl
  | some o => cases o <;> rfl
@[simp] theorem snap_msl {id es off m} : snap (n + 1) hp (.msl id es off m) = match oCells (hlk hp id) with | some cs => if off + m * es ≤ cs.length ∧ atoms cs = true ∧ 0 < es then .sl es (elems es m ((cs.drop off).map (snap n hp))) else .junk | none => .junk := by
  show resolveA (snap n hp) hp (.msl id es off m) = _
  simp only [resolveA]
  cases hlk hp id with
  | none => rfl
  | some o => cases o <;> rfl
@[simp] theorem snap_mref {id} : snap (n + 1) hp (.mref id) = match oMp (hlk hp id) with | some es => .mp es | none => .junk := by
  show resolveA (snap n hp) hp (.mref id) = _
  simp only [resolveA]
  cases hlk hp id with
  | none => rfl
  | some o => cases o <;> rfl
end
end Wax

/- The reference's text without white space; lists that are not too long. -/
namespace Wax
open Go (IntKind)

def stripD (s : List UInt8) : List UInt8 := s.filter fun b => !isWs b.toNat

def con_DStrip : List AV → Option AV
  | [.str s] => if s.length < mid then some (.str (stripD s)) else none
  | _ => none

theorem ok_DStrip (Γ : Gam) (h1 : Γ.fn 1 = con_dBlank) : ∀ args r, con_DStrip args = some r → runs Γ c_spec_DStrip args (fun v => v = r) := by
  intro args r h
  simp only [con_DStrip] at h
  split at h <;> (try simp at h; done)
  rename_i s
  obtain ⟨hs, rfl⟩ := ite_some h
  clear h
  simp only [mid] at hs
  simp [c_spec_DStrip]
  refine awp_loop2 (σ := List UInt8 × List UInt8) (fun p => ⟨[(0, .str s), (3, outV 21 (stripD p.1)), (4, .int .i64 p.1.length)], outH 21 (stripD p.1)⟩)
    (fun p => s = p.1 ++ p.2) (fun p => p.2.length) ([], s) (by simp [stripD]) (by simp) ?_
  rintro ⟨pre, post⟩ hs1 LQ hLQ
  simp only at hs1
  subst hs1
  have hlen : (stripD pre).length ≤ pre.length := List.length_filter_le _ _
  cases post with
  | nil =>
    simp at hs
    by_cases ho : stripD pre = []
    · simp [ho]
    · simp [outV_ne ho, outH_ne ho, List.take_of_length_le]
  | cons x post =>
    simp at hs
    have ew : IntKind.i64.wrap ((pre.length : Int) + 1) = (pre.length : Int) + 1 := wrap64 (by omega) (by omega)
    have fin : ∀ st, norm [0, 3, 4] st = ⟨[(0, .str (pre ++ x :: post)), (3, outV 21 (stripD (pre ++ [x]))), (4, .int .i64 ((pre.length : Int) + 1))], outH 21 (stripD (pre ++ [x]))⟩ → LQ st := by
      intro st hst
      exact hLQ (pre ++ [x], post) (by simp) (by simp) st (by simpa using hst)
    have hk : con_dBlank [.int .u8 (x.toNat : Int)] = some (.bool (isWs x.toNat)) := rfl
    have hlt : (pre.length : Int) < (pre.length : Int) + ((post.length : Int) + 1) := by omega
    cases hsp : isWs x.toNat with
    | true =>
      have e : stripD (pre ++ [x]) = stripD pre := by simp [stripD, hsp]
      rw [e] at fin
      by_cases ho : stripD pre = []
      · rw [ho] at fin
        simp [ho, acall, h1, hk, hsp, ew]
        exact ⟨fun _ => fin _ (by simp), fun h => by omega⟩
      · rw [outV_ne ho, outH_ne ho] at fin
        simp [outV_ne ho, outH_ne ho, acall, h1, hk, hsp, ew]
        exact ⟨fun _ => fin _ (by simp), fun h => by omega⟩
    | false =>
      have e : stripD (pre ++ [x]) = stripD pre ++ [x] := by simp [stripD, hsp]
      rw [e, outV_ne (by simp), outH_ne (by simp)] at fin
      by_cases ho : stripD pre = []
      · rw [ho] at fin
        simp [ho, acall, h1, hk, hsp, ew]
        exact ⟨fun _ => fin _ (by simp), fun h => by omega⟩
      · simp [outV_ne ho, outH_ne ho, acall, h1, hk, hsp, ew]
        refine ⟨fun _ => ⟨by omega, fin _ (by simp)⟩, fun h => by omega⟩

def fitsB (l : List (List UInt8)) : Bool := decide (l.length ≤ 2147483647) && l.all fun s => decide (s.length ≤ 2147483647)

def con_zzFits7 : List AV → Option AV
  | [v] => match slStrs v with
    | some l => if l.length < 9223372036854775808 ∧ ∀ s ∈ l, s.length < 9223372036854775808 then some (.bool (fitsB l)) else none
    | none => none
  | _ => none

theorem slStrs_cases {v : AV} {l : List (List UInt8)} (h : slStrs v = some l) : (v = .nilS ∧ l = []) ∨ v = .sl 1 (strsA l) := by
  cases v <;> simp [slStrs] at h
  · left; exact ⟨rfl, h⟩
  · right; obtain ⟨e, h⟩ := h; rw [asStrs_spec h, e]

theorem ok_zzFits7 (Γ : Gam) : ∀ args r, con_zzFits7 args = some r → runs Γ c_laws_zzFits7 args (fun v => v = r) := by
  intro args r h
  simp only [con_zzFits7] at h
  split at h <;> (try simp at h; done)
  rename_i v
  split at h <;> (try simp at h; done)
  rename_i l hl
  obtain ⟨⟨hlen, hall⟩, rfl⟩ := ite_some h
  clear h
  rcases slStrs_cases hl with ⟨rfl, rfl⟩ | rfl
  · simp [c_laws_zzFits7]
    refine awp_loop2 (σ := Unit) (fun p => ⟨[(8, .nilS), (9, .int .i64 0), (10, .int .i64 0)], []⟩) (fun _ => True) (fun _ => 0) () (by simp) (by simp) ?_
    intro _ _ LQ _
    simp [b_laws_zzFits7_1, t_laws_zzFits7_2, fitsB]
  · by_cases hbig : l.length ≤ 2147483647
    · have hng : ¬ (2147483647 : Int) < (l.length : Int) := by omega
      simp [c_laws_zzFits7, hng]
      refine awp_loop2 (σ := List (List UInt8) × List (List UInt8)) (fun p => ⟨[(8, .sl 1 (strsA l)), (9, .int .i64 l.length), (10, .int .i64 p.1.length)], []⟩) (fun p => l = p.1 ++ p.2 ∧ (p.1.all fun s => decide (s.length ≤ 2147483647)) = true) (fun p => p.2.length) ([], l) (by simp) (by simp) ?_
      rintro ⟨pre, post⟩ ⟨hs1, hs2⟩ LQ hLQ
      simp only at hs1 hs2
      subst hs1
      cases post with
      | nil =>
        simp at hs2 hbig
        simp [b_laws_zzFits7_1, t_laws_zzFits7_2, fitsB, hbig]
        exact fun x hx => hs2 x hx
      | cons x post =>
        simp at hbig
        have ew : IntKind.i64.wrap ((pre.length : Int) + 1) = (pre.length : Int) + 1 := wrap64 (by omega) (by omega)
        have hlt : (pre.length : Int) < (pre.length : Int) + ((post.length : Int) + 1) := by omega
        by_cases hx : x.length ≤ 2147483647
        · have hxn : ¬ (2147483647 : Int) < (x.length : Int) := by omega
          simp [b_laws_zzFits7_1, ew, hxn]
          refine ⟨fun _ => ?_, fun h => by omega⟩
          exact hLQ (pre ++ [x], post) ⟨by simp, by simp only [List.all_append, hs2, List.all_cons, hx]; rfl⟩ (by simp) _ (by simp)
        · have hxn : (2147483647 : Int) < (x.length : Int) := by omega
          have hf : fitsB (pre ++ x :: post) = false := by
            have e : decide (x.length ≤ 2147483647) = false := decide_eq_false hx
            simp only [fitsB, List.all_append, List.all_cons, e, Bool.false_and, Bool.and_false]
          rw [hf]
          simp [b_laws_zzFits7_1, hxn]
          omega
    · have hg : (2147483647 : Int) < (l.length : Int) := by omega
      simp [c_laws_zzFits7, hg, fitsB, hbig]
end Wax

/- slices.Clone of texts, as the kit's shelf has it, for the engine. -/
namespace Wax
open Go Go.RowKit

/-- What the shelf says of slices.Clone at []string, in one piece. -/
def CloneSays (P : Program) (f : FuncId) : Prop :=
  ∃ e9 : TypeId,
  (∀ (n c : Nat) (w : World), Calls P f #[.slice none n c] w fun e w' => e = .returned (.slice none 0 0) ∧ w' = w) ∧
  (∀ (a : Addr) (c : Nat) (w : World), Calls P f #[.slice (some a) 0 c] w fun e w' => ∃ v', e = .returned v' ∧ w'.ownsRow w.heap.size e9 1 v' 0 [] ∧ v' ≠ .slice none 0 0 ∧ Below w.heap.size w w') ∧
  ∀ (b off n c : Nat) (zs : List ByteArray) (w : World), n ≤ zs.length → n * 16 ≤ 140737488355328 → (∀ j, j < zs.length → w.cell? ⟨b, off + j, none⟩ = some (.string (zs.getD j ByteArray.empty))) →
    Calls P f #[.slice (some ⟨b, off, none⟩) n c] w fun e w' => ∃ v', e = .returned v' ∧ w'.ownsRow w.heap.size e9 1 v' n ((zs.take n).map (Value.string)) ∧ v' ≠ .slice none 0 0 ∧ Below w.heap.size w w'

def con_Clone : List AV → Option AV
  | [u] => match slStrs u with
    | some l => if l.length < mid then some u else none
    | none => none
  | _ => none

theorem repSl_mk {T : Tab} {w : World} {F : Frz} {b : Nat} (hF : F b) : ∀ (l : List (List UInt8)) (o : Nat), (∀ (j : Nat) s, l[j]? = some s → w.cell? ⟨b, o + j, none⟩ = some (.string ⟨s.toArray⟩)) → RepSl T w F 1 b o (strsA l)
  | [], _, _ => trivial
  | x :: r, o, h => by
    simp only [strsA, List.map_cons, RepSl]
    refine ⟨trivial, ⟨hF, _, by simpa using h 0 x rfl, by simp [Rep]⟩, ?_⟩
    exact repSl_mk hF r (o + 1) fun j s hj => by
      rw [show o + 1 + j = o + (j + 1) by omega]
      exact h (j + 1) s (by simpa using hj)

theorem owned_strs {T : Tab} {w w' : World} {F : Frz} {e9 : TypeId} {v' : Value} {l : List (List UInt8)} (ho : w'.ownsRow w.heap.size e9 1 v' l.length (l.map fun s => Value.string ⟨s.toArray⟩)) (hn : v' ≠ .slice none 0 0) :
    Rep T w' (fun b => F b ∨ (w.heap.size ≤ b ∧ b < w'.heap.size)) noRho (.sl 1 (strsA l)) v' := by
  have ho' := ho
  obtain ⟨_, hx⟩ := ho
  rcases hx with ⟨he, _⟩ | ⟨g, cap, cur, rfl, hg, hh, hcap, _, _, _⟩
  · exact absurd he hn
  · simp only [Rep]
    refine ⟨g, 0, cap, by simp, by simpa using hcap, ?_⟩
    have hgl : g < w'.heap.size := by
      rcases Nat.lt_or_ge g w'.heap.size with h | h
      · exact h
      · rw [Array.getElem?_eq_none h] at hh; simp at hh
    refine repSl_mk (.inr ⟨hg, hgl⟩) l 0 fun j s hj => ?_
    have := ho'.cells (g := g) rfl j (.string ⟨s.toArray⟩) (by rw [List.getElem?_map, hj]; rfl)
    have e : ((⟨g, 0, none⟩ : Addr).add j) = ⟨g, 0 + j, none⟩ := by
      cases j <;> simp [Addr.add]
    rw [e] at this
    exact this

theorem ok_Clone {P : Program} {T : Tab} {f : FuncId} (H : CloneSays P f) : ∀ args r, con_Clone args = some r → OkCall P T f args r := by
  intro args r h w F vs hF _ hx
  obtain ⟨e9, H1, H2, H3⟩ := H
  simp only [con_Clone] at h
  split at h <;> (try simp at h; done)
  rename_i u
  split at h <;> (try simp at h; done)
  rename_i l hl
  obtain ⟨hlen, rfl⟩ := ite_some h
  clear h
  simp only [mid] at hlen
  match vs, hx with
  | [v], hx =>
    simp only [RepL, and_true] at hx
    rcases slStrs_cases hl with ⟨rfl, rfl⟩ | rfl
    · simp only [Rep] at hx
      subst hx
      refine (H1 0 0 w).mono ?_
      rintro e w' ⟨rfl, rfl⟩
      exact ⟨_, rfl, Below.refl _ _, by simp [Rep]⟩
    · simp only [Rep] at hx
      obtain ⟨b, o, cap, rfl, hcap, hsl⟩ := hx
      cases l with
      | nil =>
        refine (H2 _ cap w).mono ?_
        rintro e w' ⟨v', rfl, ho, hn, hbl⟩
        exact ⟨_, rfl, hbl, owned_strs (e9 := e9) (l := []) (by simpa using ho) hn⟩
      | cons x0 l =>
        have hc := repSl_strs (x0 :: l) o hsl
        have hH := H3 b o (x0 :: l).length cap ((x0 :: l).map fun s => (⟨s.toArray⟩ : ByteArray)) w (by simp) (by omega) (fun j hj => by
          have hj' : j < (x0 :: l).length := by simpa using hj
          have := (hc j _ (List.getElem?_eq_getElem hj')).2
          rw [this, List.getD_eq_getElem?_getD, List.getElem?_map, List.getElem?_eq_getElem hj']; rfl)
        have e2 : (strsA (x0 :: l)).length = (x0 :: l).length := by simp
        rw [e2]
        refine hH.mono ?_
        rintro e w' ⟨v', rfl, ho, hn, hbl⟩
        refine ⟨_, rfl, hbl, owned_strs (e9 := e9) (l := x0 :: l) ?_ hn⟩
        have e3 : ((x0 :: l).map fun s => (⟨s.toArray⟩ : ByteArray)).take (x0 :: l).length = (x0 :: l).map fun s => (⟨s.toArray⟩ : ByteArray) := List.take_of_length_le (by simp)
        rw [e3, List.map_map] at ho
        exact ho
end Wax

/- strconv.ParseInt, as the kit's shelf has it, for the engine. -/
namespace Wax
open Go Go.RowKit

/-- Neither a number nor one that is too great. -/
def badEnd (x : Lib.NumEnd Int) : Prop := (∀ v, x ≠ .ok v) ∧ x ≠ .range

/-- What the shelf says of strconv.ParseInt(s, 10, 64), in one piece; the two package variables that it reads bear interface values. -/
def ParseIntSays (P : Program) (T : Tab) (f : FuncId) : Prop :=
  ∃ (e5 tE : TypeId) (gS gR : Nat), lkN T.tys tE = some 4 ∧ lkGl T.gl gS = some [.ifc 3 .junk] ∧ lkGl T.gl gR = some [.ifc 3 .junk] ∧
  (∀ (s : ByteArray) (_ : s.size ≤ 9223372036854775806) (v : Int) (_ : Lib.parseIntB 64 s.data.toList = .ok v) (w : World),
    Calls P f #[.string s, .int .i64 10, .int .i64 64] w fun e w' => e = .returned (.tuple #[.int .i64 v, .nilIface]) ∧ (w' = w ∨ ∃ t, w' = Lib.bytesWorld w e5 t)) ∧
  (∀ (s : ByteArray) (_ : s.size ≤ 281474976710656) (_ : badEnd (Lib.parseIntB 64 s.data.toList)) (ev : Value) (w : World) (_ : w.cell? ⟨gS, 0, none⟩ = some ev) (_ : ev = .nilIface ∨ ∃ te pe, ev = .iface te pe),
    Calls P f #[.string s, .int .i64 10, .int .i64 64] w fun e w' => ∃ x y, e = .returned (.tuple #[x, .iface tE y]) ∧ Below w.heap.size w w') ∧
  (∀ (s : ByteArray) (_ : s.size ≤ 281474976710656) (_ : Lib.parseIntB 64 s.data.toList = .range) (ev : Value) (w : World) (_ : w.cell? ⟨gR, 0, none⟩ = some ev) (_ : ev = .nilIface ∨ ∃ te pe, ev = .iface te pe),
    Calls P f #[.string s, .int .i64 10, .int .i64 64] w fun e w' => ∃ x y, e = .returned (.tuple #[x, .iface tE y]) ∧ Below w.heap.size w w')

def numV : Lib.NumEnd Int → AV
  | .ok v => .tup [.int .i64 v, .nilI]
  | _ => .tup [.junk, .ifc 4 .junk]

def con_ParseInt : List AV → Option AV
  | [.str s, .int .i64 n, .int .i64 m] => if s.length < mid ∧ n = 10 ∧ m = 64 then some (numV (Lib.atoiAll s)) else none
  | _ => none

theorem globErr {T : Tab} {w : World} {F : Frz} {g : Nat} (hgl : GlobOk T w F) (hg : lkGl T.gl g = some [.ifc 3 .junk]) : ∃ ev, w.cell? ⟨g, 0, none⟩ = some ev ∧ (ev = .nilIface ∨ ∃ te pe, ev = .iface te pe) := by
  have h := hgl g _ hg
  simp only [RepAt, Rep, and_true] at h
  obtain ⟨_, x, hx, t, y, rfl, _⟩ := h
  exact ⟨_, hx, .inr ⟨t, y, rfl⟩⟩

theorem below_bytesW (w : World) (e : TypeId) (s : ByteArray) : Below w.heap.size w (Lib.bytesWorld w e s) :=
  ⟨rfl, rfl, rfl, by rw [Lib.bytesWorld_size]; omega, fun j hj => Lib.bytesWorld_at_old w e s j hj⟩

theorem ok_ParseInt {P : Program} {T : Tab} {f : FuncId} (H : ParseIntSays P T f) : ∀ args r, con_ParseInt args = some r → OkCall P T f args r := by
  intro args r h w F vs hF hgl hx
  obtain ⟨e5, tE, gS, gR, ht, hgS, hgR, H1, H2, H3⟩ := H
  simp only [con_ParseInt] at h
  split at h <;> (try simp at h; done)
  rename_i s n m
  obtain ⟨⟨hlen, rfl, rfl⟩, rfl⟩ := ite_some h
  clear h
  simp only [mid] at hlen
  match vs, hx with
  | [v1, v2, v3], hx =>
    simp only [RepL, and_true, Rep] at hx
    obtain ⟨rfl, rfl, rfl⟩ := hx
    have hsz : (⟨s.toArray⟩ : ByteArray).size = s.length := by show s.toArray.size = _; simp
    have he : Lib.parseIntB 64 (⟨s.toArray⟩ : ByteArray).data.toList = Lib.atoiAll s := by rw [Lib.parseIntB_64]
    have bad : ∀ e w', (∃ x y, e = Ending.returned (.tuple #[x, .iface tE y]) ∧ Below w.heap.size w w') → ∃ v, e = .returned v ∧ Below w.heap.size w w' ∧ Rep T w' (fun b => F b ∨ (w.heap.size ≤ b ∧ b < w'.heap.size)) noRho (.tup [.junk, .ifc 4 .junk]) v := by
      rintro e w' ⟨x, y, rfl, hb⟩
      refine ⟨_, rfl, hb, _, rfl, ?_⟩
      simp only [RepL, Rep, and_true, true_and]
      exact ⟨tE, y, rfl, ht⟩
    cases hq : Lib.atoiAll s with
    | ok v =>
      refine (H1 _ (by omega) v (by rw [he, hq]) w).mono ?_
      rintro e w' ⟨rfl, hw⟩
      refine ⟨_, rfl, ?_, ?_⟩
      · rcases hw with rfl | ⟨t, rfl⟩
        · exact Below.refl _ _
        · exact below_bytesW _ _ _
      · exact ⟨_, rfl, by simp [RepL, Rep]⟩
    | range =>
      obtain ⟨ev, h1, h2⟩ := globErr hgl hgR
      exact (H3 _ (by omega) (by rw [he, hq]) ev w h1 h2).mono (bad · ·)
    | _ =>
      obtain ⟨ev, h1, h2⟩ := globErr hgl hgS
      exact (H2 _ (by omega) (by rw [he, hq]; exact ⟨fun v h => (by cases h), fun h => (by cases h)⟩) ev w h1 h2).mono (bad ·  ·)
/-- .. is the third one. -/
theorem badEnd_eq {x y : Lib.NumEnd Int} (h : badEnd x) (hy : badEnd y := by exact ⟨fun v h => (by cases h), fun h => (by cases h)⟩) : x = y := by
  cases x <;> cases y <;> first | rfl | exact absurd rfl (h.1 _) | exact absurd rfl h.2 | exact absurd rfl (hy.1 _) | exact absurd rfl hy.2
end Wax

/- The program's own functions: splitting, lists of tags. -/
namespace Wax
open Go (IntKind)

/-- What stands between the places of a byte. -/
def splitB (b : UInt8) : List UInt8 → List (List UInt8)
  | [] => [[]]
  | x :: r => if x = b then [] :: splitB b r else match splitB b r with
    | [] => [[x]]
    | h :: t => (x :: h) :: t

theorem splitB_ne (b : UInt8) (s : List UInt8) : splitB b s ≠ [] := by
  cases s with
  | nil => simp [splitB]
  | cons x r => simp only [splitB]; split; simp; split <;> simp

theorem splitB_cut (b : UInt8) : ∀ (s : List UInt8), splitB b s = match cutAt b.toNat s with | none => [s] | some (a, c) => a :: splitB b c
  | [] => rfl
  | x :: r => by
    have ih := splitB_cut b r
    simp only [splitB, cutAt]
    by_cases e : x = b
    · subst e; simp
    · have e1 : ¬ (x.toNat : Int) = (b.toNat : Int) := fun h => e (UInt8.toNat_inj.1 (by omega))
      rw [if_neg e, if_neg e1, ih]
      cases cutAt b.toNat r with
      | none => rfl
      | some p => rfl

theorem splitB_length (b : UInt8) : ∀ (s : List UInt8), (splitB b s).length ≤ s.length + 1
  | [] => by simp [splitB]
  | x :: r => by
    have ih := splitB_length b r
    simp only [splitB]
    split
    · simp; omega
    · split
      · simp
      · rename_i h t e; rw [e] at ih; simp at ih ⊢; omega

theorem splitB_mem_length (b : UInt8) : ∀ (s p : List UInt8), p ∈ splitB b s → p.length ≤ s.length
  | [], p, h => by simp [splitB] at h; subst h; simp
  | x :: r, p, h => by
    have ih := splitB_mem_length b r
    simp only [splitB] at h
    split at h
    · rcases List.mem_cons.1 h with e | h
      · subst e; simp
      · have := ih p h; simp; omega
    · split at h
      · simp at h; subst h; simp
      · rename_i hd t e
        rcases List.mem_cons.1 h with e' | h
        · subst e'
          have := ih hd (by rw [e]; simp); simp; omega
        · have := ih p (by rw [e]; simp [h]); simp; omega

def con_zzSplit : List AV → List (Nat × AObj) → Option (AV × List (Nat × AObj))
  | [.str s, .str [b]], [] => if s.length < mid then some (.msl 0 1 0 (splitB b s).length, [(0, .cells (strsA (splitB b s)))]) else none
  | _, _ => none

theorem ok_zzSplit (Γ : Gam) (h22 : Γ.fn 22 = con_zzIndex) : ∀ args hp q, con_zzSplit args hp = some q → runsS Γ c_dkim_zzSplit args hp (fun v => v = some q) := by
  intro args hp q h
  simp only [con_zzSplit] at h
  split at h <;> (try simp at h; done)
  rename_i s b
  obtain ⟨hs, rfl⟩ := ite_some h
  clear h
  simp only [mid] at hs
  have h1 : 1 < big := by decide
  simp [c_dkim_zzSplit, t_dkim_zzSplit_4]
  refine awp_loop2 (σ := List (List UInt8) × List UInt8) (fun p => ⟨[(0, .str p.2), (1, .str [b]), (5, grV 51 1 p.1.length)], grH 51 p.1.length (strsA p.1)⟩)
    (fun p => splitB b s = p.1 ++ splitB b p.2 ∧ p.1.length + p.2.length ≤ s.length) (fun p => p.2.length) ([], s) (by simp) (by simp) ?_
  rintro ⟨done, cur⟩ ⟨hs1, hs2⟩ LQ hLQ
  simp only at hs1 hs2
  have hcb : cur.length < big := by simp only [big]; omega
  simp [b_dkim_zzSplit_3, acall, h22, con_zzIndex, hcb, h1]
  simp only [idxV, findAt_one]
  rw [splitB_cut b cur] at hs1
  cases hc : cutAt b.toNat cur with
  | none =>
    simp only [hc] at hs1
    rw [hs1]
    cases done with
    | nil => simp [reach_succ]
    | cons d0 dr =>
      simp [reach_succ]
      simp at hs2
      omega
  | some p =>
    obtain ⟨a, c⟩ := p
    simp only [hc] at hs1
    obtain ⟨x, hx1, hx2, hx3⟩ := cutAt_eq hc
    subst hx2
    simp at hs2
    have fin : ∀ st, norm [0, 1, 5] st = ⟨[(0, .str c), (1, .str [b]), (5, grV 51 1 (done ++ [a]).length)], grH 51 (done ++ [a]).length (strsA (done ++ [a]))⟩ → LQ st := by
      intro st hst
      exact hLQ (done ++ [a], c) ⟨by simpa using hs1, by simp; omega⟩ (by simp; omega) st hst
    have e2 : ((a.length : Int) + 1).toNat = a.length + 1 := by omega
    cases done with
    | nil =>
      simp (disch := omega) [wrap64]
      refine ⟨by omega, by omega, ⟨by omega, by omega⟩, fin _ ?_⟩
      simp
    | cons d0 dr =>
      simp at hs2
      simp (disch := omega) [wrap64]
      refine ⟨by omega, by omega, by omega, ⟨by omega, by omega⟩, fin _ ?_⟩
      simp
end Wax

/- The program's own functions: lists of tags; runes of plain texts. -/
namespace Wax
open Go (IntKind)

theorem decA {x : UInt8} {r : List UInt8} (h : x.toNat < 128) : decR (x :: r) = (x.toNat, 1) := by
  have e : (⟨(x :: r).toArray⟩ : ByteArray).get! 0 = x := by
    show (x :: r).toArray[0]! = x
    simp
  simp [decR, Go.Utf8.decode, e, h]

theorem hvA {x : UInt8} (h : x.toNat < 128) : Go.Utf8.valid (x.toNat : Int) = true := by
    unfold Go.Utf8.valid
    have h1 : decide ((0:Int) ≤ x.toNat) = true := decide_eq_true (Int.natCast_nonneg _)
    have h2 : decide ((x.toNat : Int) < 0xD800) = true := decide_eq_true (by omega)
    rw [h1, h2]; rfl
theorem encA1 {x : UInt8} (h : x.toNat < 128) : Go.Utf8.encode (x.toNat : Int) = ⟨#[x]⟩ := by
  have hv := hvA h
  have e : UInt8.ofNat x.toNat = x := by simp
  have e2 : (if Go.Utf8.valid (x.toNat : Int) = true then (x.toNat : Int).toNat else Go.Utf8.runeError) = x.toNat := by rw [if_pos hv]; simp
  simp only [Go.Utf8.encode, e2, e, h, if_true]
theorem encA {x : UInt8} (h : x.toNat < 128) : encR (x.toNat : Int) = [x] := by
  rw [encR, encA1 h]

theorem ascii_lt {x : UInt8} {s : List UInt8} (h : ascii (x :: s) = true) : x.toNat < 128 ∧ ascii s = true := by
  rw [ascii_cons] at h; simpa using h

/-- A text without white space. -/
def stripS (s : List UInt8) : List UInt8 := s.filter fun b => !isSp b.toNat

def con_stripWhitespace : List AV → Option AV
  | [.str s] => if s.length < mid ∧ ascii s = true then some (.str (stripS s)) else none
  | _ => none

set_option maxRecDepth 100000 in
theorem ok_stripWhitespace (Γ : Gam) (h23 : Γ.fn 23 = con_zzIsSpace) : ∀ args r, con_stripWhitespace args = some r → runs Γ c_dkim_stripWhitespace args (fun v => v = r) := by
  intro args r h
  simp only [con_stripWhitespace] at h
  split at h <;> (try simp at h; done)
  rename_i s
  obtain ⟨⟨hs, ha⟩, rfl⟩ := ite_some h
  clear h
  simp only [mid] at hs
  simp [c_dkim_stripWhitespace]
  refine awp_loop2 (σ := List UInt8 × List UInt8) (fun p => ⟨[(3, outV 17 (stripS p.1)), (7, .ref 7 0)], outH 17 (stripS p.1) ++ [(7, .sit s p.1.length)]⟩)
    (fun p => s = p.1 ++ p.2) (fun p => p.2.length) ([], s) (by simp [stripS]) (by simp) ?_
  rintro ⟨pre, post⟩ hs1 LQ hLQ
  simp only at hs1
  subst hs1
  have hlen : (stripS pre).length ≤ pre.length := List.length_filter_le _ _
  cases post with
  | nil =>
    simp at hs
    by_cases ho : stripS pre = []
    · simp [b_dkim_stripWhitespace_1, t_dkim_stripWhitespace_2, ho]
    · simp [b_dkim_stripWhitespace_1, t_dkim_stripWhitespace_2, outV_ne ho, outH_ne ho, List.take_of_length_le]
  | cons x post =>
    have hx := (ascii_lt (by rw [ascii_app] at ha; simp only [Bool.and_eq_true] at ha; exact ha.2 : ascii (x :: post) = true)).1
    simp at hs
    have fin : ∀ st, norm [3, 7] st = ⟨[(3, outV 17 (stripS (pre ++ [x]))), (7, .ref 7 0)], outH 17 (stripS (pre ++ [x])) ++ [(7, .sit (pre ++ x :: post) (pre.length + 1))]⟩ → LQ st := by
      intro st hst
      exact hLQ (pre ++ [x], post) (by simp) (by simp) st (by simpa using hst)
    have hk : con_zzIsSpace [.int .i32 (x.toNat : Int)] = some (.bool (isSp x.toNat)) := by
      simp only [con_zzIsSpace]; exact if_pos (by omega)
    have e1 : (x.toNat : Int) < 128 := by omega
    cases hsp : isSp x.toNat with
    | true =>
      have e : stripS (pre ++ [x]) = stripS pre := by simp [stripS, hsp]
      rw [e] at fin
      by_cases ho : stripS pre = []
      · rw [ho] at fin
        simp [b_dkim_stripWhitespace_1, ho, decA hx, acall, h23, hk, hsp]
        exact fin _ (by simp)
      · rw [outV_ne ho, outH_ne ho] at fin
        simp [b_dkim_stripWhitespace_1, outV_ne ho, outH_ne ho, decA hx, acall, h23, hk, hsp]
        exact fin _ (by simp)
    | false =>
      have e : stripS (pre ++ [x]) = stripS pre ++ [x] := by simp [stripS, hsp]
      rw [e, outV_ne (by simp), outH_ne (by simp)] at fin
      by_cases ho : stripS pre = []
      · rw [ho] at fin
        simp [b_dkim_stripWhitespace_1, ho, decA hx, acall, h23, hk, hsp, encA hx]
        exact fin _ (by simp)
      · simp [b_dkim_stripWhitespace_1, outV_ne ho, outH_ne ho, decA hx, acall, h23, hk, hsp, encA hx]
        refine ⟨by omega, fin _ (by simp)⟩

/-- Texts between colons, without white space. -/
def tagL (s : List UInt8) : List (List UInt8) := (splitB 58 s).map stripS

def con_parseTagList : List AV → Option AV
  | [.str s] => if s.length < mid ∧ ascii s = true then some (.sl 1 (strsA (tagL s))) else none
  | _ => none

theorem splitB_ascii (b : UInt8) : ∀ (s p : List UInt8), ascii s = true → p ∈ splitB b s → ascii p = true
  | [], p, _, h => by simp [splitB] at h; subst h; rfl
  | x :: r, p, ha, h => by
    obtain ⟨hx, ha⟩ := ascii_lt ha
    have ih := splitB_ascii b r
    simp only [splitB] at h
    split at h
    · rcases List.mem_cons.1 h with e | h
      · subst e; rfl
      · exact ih p ha h
    · split at h
      · simp at h; subst h; simp [ascii_cons, hx]; rfl
      · rename_i hd t e
        rcases List.mem_cons.1 h with e' | h
        · subst e'
          rw [ascii_cons, ih hd ha (by rw [e]; simp)]; simp [hx]
        · exact ih p ha (by rw [e]; simp [h])

theorem ok_parseTagList (Γ : Gam) (s25 : Γ.st 25 = con_zzSplit) (h26 : Γ.fn 26 = con_stripWhitespace) : ∀ args r, con_parseTagList args = some r → runs Γ c_dkim_parseTagList args (fun v => v = r) := by
  intro args r h
  simp only [con_parseTagList] at h
  split at h <;> (try simp at h; done)
  rename_i s
  obtain ⟨⟨hs, ha⟩, rfl⟩ := ite_some h
  clear h
  have hsp : con_zzSplit [.str s, .str [58]] [] = some (.msl 0 1 0 (splitB 58 s).length, [(0, .cells (strsA (splitB 58 s)))]) := if_pos hs
  simp only [mid] at hs
  have hl := splitB_length 58 s
  simp [c_dkim_parseTagList, acallS, s25, hsp]
  refine awp_loop2 (σ := List (List UInt8) × List (List UInt8)) (fun p => ⟨[(3, .msl 7 1 0 (splitB 58 s).length), (8, .msl 7 1 0 (splitB 58 s).length), (9, .int .i64 (splitB 58 s).length), (10, .int .i64 p.1.length)], [(7, .cells (strsA (p.1.map stripS ++ p.2)))]⟩)
    (fun p => splitB 58 s = p.1 ++ p.2) (fun p => p.2.length) ([], splitB 58 s) (by simp) (by simp) ?_
  rintro ⟨pre, post⟩ hs1 LQ hLQ
  simp only at hs1
  cases post with
  | nil =>
    simp at hs1
    simp [b_dkim_parseTagList_1, t_dkim_parseTagList_2, hs1, tagL, snap, resolveA, List.take_of_length_le]
  | cons x post =>
    have hxl : x.length < 1099511627776 := by
      have := splitB_mem_length 58 s x (by rw [hs1]; simp)
      omega
    have hxa : ascii x = true := splitB_ascii 58 s x ha (by rw [hs1]; simp)
    have hk : con_stripWhitespace [.str x] = some (.str (stripS x)) := if_pos ⟨hxl, hxa⟩
    have hlen : (splitB 58 s).length = pre.length + post.length + 1 := by rw [hs1]; simp; omega
    simp (disch := first | omega | simp) [b_dkim_parseTagList_1, hlen, acall, h26, hk, wrap64, get_mid, set_mid]
    refine ⟨fun _ => ⟨by omega, ?_⟩, fun _ => by omega⟩
    refine hLQ (pre ++ [x], post) (by simp [hs1]) (by simp) _ ?_
    simp [hlen]

def con_TagList : List AV → Option AV := con_parseTagList
theorem ok_TagList (Γ : Gam) (h24 : Γ.fn 24 = con_parseTagList) : ∀ args r, con_TagList args = some r → runs Γ c_dkim_TagList args (fun v => v = r) := by
  intro args r h
  simp only [con_TagList] at h
  have h' := h
  simp only [con_parseTagList] at h
  split at h <;> (try simp at h; done)
  obtain ⟨_, rfl⟩ := ite_some h
  simp [c_dkim_TagList, acall, h24, h']

theorem ok_DList (Γ : Gam) (h14 : Γ.fn 14 = con_TagList) : ∀ args r, con_TagList args = some r → runs Γ c_impl_DList args (fun v => v = r) := by
  intro args r h
  have h' := h
  simp only [con_TagList, con_parseTagList] at h
  split at h <;> (try simp at h; done)
  obtain ⟨_, rfl⟩ := ite_some h
  simp [c_impl_DList, acall, h14, h']

theorem ok_dAwake (Γ : Gam) (h7 : Γ.fn 7 = con_TagList) (h8 : Γ.fn 8 = con_DCanonField) : ∀ args r, con_dAwake args = some r → runs Γ c_laws_dAwake args (fun v => v = r) := by
  intro args r h
  simp only [con_dAwake] at h
  split at h <;> (try simp at h; done)
  injection h with h; subst h
  have k7 : con_TagList [.str [97, 58, 98]] = some (.sl 1 (strsA [[97], [98]])) := by
    simp only [con_TagList, con_parseTagList]
    rw [if_pos ⟨by decide, by decide⟩]
    rfl
  have k8 : con_DCanonField [.str [114, 101, 108, 97, 120, 101, 100], .str [65, 58, 32, 66, 13, 10]] = some (.str [97, 58, 66, 13, 10]) := by
    simp only [con_DCanonField]
    rw [if_pos (relOk_of (by decide) (by decide))]
    rfl
  simp [c_laws_dAwake, acall, h7, h8, k7, k8]
end Wax

/- strings.FieldsFunc, of plain texts and of the program's own test of white space. -/
namespace Wax
open Go (IntKind)

def spA (l : List (Nat × Nat)) : List AV := l.flatMap fun p => [.int .i64 (p.1 : Int), .int .i64 (p.2 : Int)]
@[simp] theorem spA_nil : spA [] = [] := rfl
@[simp] theorem spA_cons {p : Nat × Nat} {l : List (Nat × Nat)} : spA (p :: l) = .int .i64 (p.1 : Int) :: .int .i64 (p.2 : Int) :: spA l := rfl
@[simp] theorem spA_app {l m : List (Nat × Nat)} : spA (l ++ m) = spA l ++ spA m := by simp [spA]
@[simp] theorem spA_length {l : List (Nat × Nat)} : (spA l).length = 2 * l.length := by induction l <;> simp_all; omega
@[simp] theorem atoms_spA {l : List (Nat × Nat)} : atoms (spA l) = true := by induction l <;> simp_all
@[simp] theorem take_spA {a b : AV} {l : List (Nat × Nat)} : List.take ((l.length + 1) * 2) (a :: b :: spA l) = a :: b :: spA l := List.take_of_length_le (by simp; omega)
@[simp] theorem killL_spA {d : Nat} {l : List (Nat × Nat)} : killL d (spA l) = spA l := by induction l <;> simp_all

def cutS (s : List UInt8) (p : Nat × Nat) : List UInt8 := (s.take p.2).drop p.1

theorem ff_loop2 (Γ : Gam) (Q : APost) (s : List UInt8) (sp : List (Nat × Nat)) (d : Nat) (hd : d ≠ 46 ∧ d ≠ 11) (hs : s.length < 1099511627776) (hl : sp.length < 2199023255552) (hsp : ∀ p ∈ sp, p.1 ≤ p.2 ∧ p.2 ≤ s.length)
    (hQ : Q (.exit 2) ⟨[(0, .str s), (9, .msl 46 1 0 sp.length), (47, .msl d 2 0 sp.length), (48, .int .i64 sp.length), (49, .int .i64 sp.length), (50, .bool false)], [(46, .cells (strsA (sp.map (cutS s)))), (d, .cells (spA sp))]⟩) :
    awp Γ (.loop [0, 9, 47, 48, 49] b_strings_FieldsFunc_2) Q ⟨[(0, .str s), (9, .msl 46 1 0 sp.length), (47, .msl d 2 0 sp.length), (48, .int .i64 sp.length), (49, .int .i64 0)], [(46, .cells (List.replicate sp.length (.str []))), (d, .cells (spA sp))]⟩ := by
  have hd1 : ¬ 46 = d := fun h => hd.1 h.symm
  have hd2 : ¬ 11 = d := fun h => hd.2 h.symm
  refine awp_loop2 (σ := List (Nat × Nat) × List (Nat × Nat)) (fun p => ⟨[(0, .str s), (9, .msl 46 1 0 sp.length), (47, .msl d 2 0 sp.length), (48, .int .i64 sp.length), (49, .int .i64 p.1.length)], [(46, .cells (strsA (p.1.map (cutS s)) ++ List.replicate p.2.length (.str []))), (d, .cells (spA sp))]⟩)
    (fun p => sp = p.1 ++ p.2) (fun p => p.2.length) ([], sp) (by simp) (by simp) ?_
  rintro ⟨pre, post⟩ hs1 LQ hLQ
  simp only at hs1
  subst hs1
  cases post with
  | nil =>
    simp at hQ
    simp [b_strings_FieldsFunc_2, hQ]
  | cons x post =>
    have hx := hsp x (by simp)
    simp at hl
    have e1 : List.drop (pre.length * 2) (spA pre ++ (AV.int .i64 (x.1 : Int) :: .int .i64 (x.2 : Int) :: spA post)) = .int .i64 (x.1 : Int) :: .int .i64 (x.2 : Int) :: spA post := by
      rw [List.drop_append_of_le_length (by simp; omega)]
      rw [List.drop_eq_nil_of_le (by simp; omega)]; rfl
    simp (disch := first | omega | simp) [b_strings_FieldsFunc_2, hd1, hd2, hd.1, hd.2, e1, loadC, wrap64, List.replicate_succ]
    refine ⟨fun _ => ⟨by omega, ?_⟩, fun _ => by omega⟩
    refine hLQ (pre ++ [x], post) (by simp) (by simp) _ ?_
    simp [cutS]

/-- The slice of the words' places, as it stands: first the one that was made, then one that grew. -/
def ffD (sp : List (Nat × Nat)) : Nat := match sp with | [] => 12 | _ => 29
def ffH (sp : List (Nat × Nat)) (o : AObj) : List (Nat × AObj) := match sp with | [] => [(14, o), (12, .cells [])] | _ => [(29, .cells (spA sp)), (14, o)]

structure FF (s pre post : List UInt8) (sp : List (Nat × Nat)) (cur : List UInt8) (v : Int) : Prop where
  cut : s = pre ++ post
  words : wordsOf s = sp.map (cutS s) ++ wordsGo cur post
  none : cur = [] → v < 0 ∧ -1099511627777 < v
  some : cur ≠ [] → ∃ p, pre = p ++ cur ∧ v = p.length
  ok : ∀ p ∈ sp, p.1 ≤ p.2 ∧ p.2 ≤ s.length
  len : sp.length ≤ pre.length

theorem FF.out {s pre post : List UInt8} {sp : List (Nat × Nat)} {cur : List UInt8} {v : Int} {x : UInt8} (h : FF s pre (x :: post) sp cur v) (hw : isWs x.toNat = true) (hc : cur = []) : FF s (pre ++ [x]) post sp [] v := by
  subst hc
  refine ⟨by rw [h.cut]; simp, ?_, fun _ => h.none rfl, fun hn => absurd rfl hn, h.ok, by have := h.len; simp; omega⟩
  have := h.words
  simpa [wordsGo, hw] using this

theorem FF.close {s pre post : List UInt8} {sp : List (Nat × Nat)} {cur : List UInt8} {v : Int} {x : UInt8} (h : FF s pre (x :: post) sp cur v) (hw : isWs x.toNat = true) (hc : cur ≠ []) (hs : s.length < 1099511627776) : FF s (pre ++ [x]) post (sp ++ [(v.toNat, pre.length)]) [] (-v - 1) := by
  obtain ⟨p, hp, hv⟩ := h.some hc
  subst hv
  have hl := congrArg List.length h.cut
  have hl2 := congrArg List.length hp
  simp at hl hl2
  refine ⟨by rw [h.cut]; simp, ?_, fun _ => ⟨by omega, by omega⟩, fun hn => absurd rfl hn, ?_, by have := h.len; simp; omega⟩
  · have := h.words
    simp only [wordsGo, hw, if_true, if_neg hc] at this
    rw [this]
    have e : cutS s ((p.length : Int).toNat, pre.length) = cur := by
      rw [cutS, h.cut, hp]
      simp only [Int.toNat_natCast, List.append_assoc]
      rw [show (p ++ cur).length = (p ++ cur).length + 0 by omega, ← List.append_assoc, List.take_length_add_append]; simp
    simp only [List.map_append, List.map_cons, List.map_nil, e, List.append_assoc, List.cons_append, List.nil_append]
  · intro q hq
    rcases List.mem_append.1 hq with hq | hq
    · exact h.ok q hq
    · simp at hq; subst hq; simp; omega

theorem FF.into {s pre post : List UInt8} {sp : List (Nat × Nat)} {cur : List UInt8} {v : Int} {x : UInt8} (h : FF s pre (x :: post) sp cur v) (hw : isWs x.toNat = false) (hc : cur = []) : FF s (pre ++ [x]) post sp [x] pre.length := by
  subst hc
  refine ⟨by rw [h.cut]; simp, ?_, fun hn => by simp at hn, fun _ => ⟨pre, rfl, rfl⟩, h.ok, by have := h.len; simp; omega⟩
  have := h.words
  simpa [wordsGo, hw] using this

theorem FF.on {s pre post : List UInt8} {sp : List (Nat × Nat)} {cur : List UInt8} {v : Int} {x : UInt8} (h : FF s pre (x :: post) sp cur v) (hw : isWs x.toNat = false) (hc : cur ≠ []) : FF s (pre ++ [x]) post sp (cur ++ [x]) v := by
  refine ⟨by rw [h.cut]; simp, ?_, fun hn => by simp at hn, fun _ => ?_, h.ok, by have := h.len; simp; omega⟩
  · have := h.words
    simpa [wordsGo, hw] using this
  · obtain ⟨p, hp, hv⟩ := h.some hc
    exact ⟨p, by rw [hp]; simp, hv⟩

theorem ffD_ne {sp : List (Nat × Nat)} (h : sp ≠ []) : ffD sp = 29 := by cases sp <;> first | exact absurd rfl h | rfl
theorem ffH_ne {sp : List (Nat × Nat)} {o : AObj} (h : sp ≠ []) : ffH sp o = [(29, .cells (spA sp)), (14, o)] := by cases sp <;> first | exact absurd rfl h | rfl

theorem ok_FieldsFunc (Γ : Gam) (h20 : Γ.fn 20 = con_closure) : ∀ args r, con_FieldsFunc args = some r → runs Γ c_strings_FieldsFunc args (fun v => v = r) := by
  intro args r h
  simp only [con_FieldsFunc] at h
  split at h <;> (try simp at h; done)
  rename_i s
  obtain ⟨⟨hs, ha⟩, rfl⟩ := ite_some h
  clear h
  simp only [mid] at hs
  simp [c_strings_FieldsFunc]
  refine awp_loop2 (σ := List UInt8 × List UInt8 × List (Nat × Nat) × List UInt8 × Int) (fun p => ⟨[(0, .str s), (1, .fn 20 []), (5, .msl (ffD p.2.2.1) 2 0 p.2.2.1.length), (6, .int .i64 p.2.2.2.2), (14, .ref 14 0)], ffH p.2.2.1 (.sit s p.1.length)⟩)
    (fun p => FF s p.1 p.2.1 p.2.2.1 p.2.2.2.1 p.2.2.2.2) (fun p => p.2.1.length) ([], s, [], [], -1) (by simp [ffD, ffH]) ⟨by simp, by simp [wordsOf], fun _ => ⟨by simp, by simp⟩, fun h => absurd rfl h, by simp, by simp⟩ ?_
  rintro ⟨pre, post, sp, cur, v⟩ hF LQ hLQ
  simp only at hF
  cases post with
  | nil =>
    have hcut := hF.cut
    simp at hcut
    subst hcut
    have fin : ∀ (d : Nat) (sp' : List (Nat × Nat)), d ≠ 46 ∧ d ≠ 11 → d = 12 ∨ d = 29 ∨ d = 43 → sp'.length ≤ s.length + 1 → (∀ p ∈ sp', p.1 ≤ p.2 ∧ p.2 ≤ s.length) → wordsOf s = sp'.map (cutS s) →
        awp Γ (SCode.loop [0, 9, 47, 48, 49] b_strings_FieldsFunc_2)
        (blockQ 2
          (thenQ (awp Γ t_strings_FieldsFunc_3 (finQ [.t 4] fun v => v = AV.sl 1 (strsA (wordsOf s))))
            (finQ [.t 4] fun v => v = AV.sl 1 (strsA (wordsOf s)))))
         ⟨[(0, .str s), (9, .msl 46 1 0 sp'.length), (47, .msl d 2 0 sp'.length), (48, .int .i64 sp'.length), (49, .int .i64 0)], [(46, .cells (List.replicate sp'.length (.str []))), (d, .cells (spA sp'))]⟩ := by
      intro d sp' hd hd3 hl hok hw
      refine ff_loop2 Γ _ s sp' d hd hs (by omega) hok ?_
      have hd1 : ¬ 46 = d := fun h => hd.1 h.symm
      rcases hd3 with rfl | rfl | rfl <;> simp [t_strings_FieldsFunc_3, snap, resolveA, hw, List.take_of_length_le]
    have hwd := hF.words
    have hlen := hF.len
    cases sp with
    | nil =>
      simp [b_strings_FieldsFunc_1, ffD, ffH, t_strings_FieldsFunc_4]
      refine ⟨fun h => ?_, fun h => ?_⟩
      · have hc : cur ≠ [] := fun hc => by have := (hF.none hc).1; omega
        obtain ⟨p, hp, hv⟩ := hF.some hc
        subst hv
        have hpl := congrArg List.length hp
        simp at hpl
        have := fin 43 [(p.length, s.length)] (by decide) (by simp) (by simp) (by simp; omega) (by
          rw [hwd]; simp [wordsGo, hc, cutS]; rw [hp]; simp)
        simpa using this
      · have hc : cur = [] := by
          apply Classical.byContradiction; intro hc
          obtain ⟨p, hp, hv⟩ := hF.some hc; omega
        subst hc
        have := fin 12 [] (by decide) (by simp) (by simp) (by simp) (by rw [hwd]; simp [wordsGo])
        simpa using this
    | cons y sp =>
      simp at hlen
      have e1 : ((sp.length : Int) + 1).toNat = sp.length + 1 := by omega
      have e2 : ((sp.length : Int) + 1 + 1).toNat = sp.length + 1 + 1 := by omega
      simp [b_strings_FieldsFunc_1, ffD, ffH, t_strings_FieldsFunc_4, e1, e2]
      refine ⟨fun h => ⟨⟨by omega, by omega⟩, by omega, ⟨by omega, by omega⟩, ?_⟩, fun h => ⟨by omega, ⟨by omega, by omega⟩, ?_⟩⟩
      · have hc : cur ≠ [] := fun hc => by have := (hF.none hc).1; omega
        obtain ⟨p, hp, hv⟩ := hF.some hc
        subst hv
        have hpl := congrArg List.length hp
        simp at hpl
        have := fin 43 (y :: sp ++ [(p.length, s.length)]) (by decide) (by simp) (by simp; omega) (by
          intro q hq
          rcases List.mem_append.1 hq with hq | hq
          · exact hF.ok q hq
          · simp at hq; subst hq; simp; omega) (by
          rw [hwd]; simp [wordsGo, hc, cutS]; rw [hp]; simp)
        simpa using this
      · have hc : cur = [] := by
          apply Classical.byContradiction; intro hc
          obtain ⟨p, hp, hv⟩ := hF.some hc; omega
        subst hc
        have := fin 29 (y :: sp) (by decide) (by simp) (by simp; omega) hF.ok (by rw [hwd]; simp [wordsGo])
        simpa using this
  | cons x post =>
    have hcut := hF.cut
    subst hcut
    have hx := (ascii_lt (by rw [ascii_app] at ha; simp only [Bool.and_eq_true] at ha; exact ha.2 : ascii (x :: post) = true)).1
    simp at hs
    have hlen := hF.len
    have hk : con_closure [.int .i32 (x.toNat : Int)] = some (.bool (isWs x.toNat)) := rfl
    have fin : ∀ sp' cur' v', FF (pre ++ x :: post) (pre ++ [x]) post sp' cur' v' → ∀ st, norm [0, 1, 5, 6, 14] st = ⟨[(0, .str (pre ++ x :: post)), (1, .fn 20 []), (5, .msl (ffD sp') 2 0 sp'.length), (6, .int .i64 v'), (14, .ref 14 0)], ffH sp' (.sit (pre ++ x :: post) (pre.length + 1))⟩ → LQ st := by
      intro sp' cur' v' h st hst
      exact hLQ (pre ++ [x], post, sp', cur', v') h (by simp) st (by simpa using hst)
    cases hw : isWs x.toNat with
    | true =>
      by_cases hc : cur = []
      · have f := fin _ _ _ (hF.out hw hc)
        have hv := (hF.none hc).1
        have hv' : ¬ 0 ≤ v := by omega
        cases sp with
        | nil =>
          simp [b_strings_FieldsFunc_1, ffD, ffH, decA hx, acall, h20, hk, hw, hv']
          exact f _ (by simp [ffD, ffH])
        | cons y sp =>
          simp [b_strings_FieldsFunc_1, ffD, ffH, decA hx, acall, h20, hk, hw, hv']
          exact f _ (by simp [ffD, ffH])
      · have f := fin _ _ _ (hF.close hw hc (by simp; omega))
        obtain ⟨p, hp, hv⟩ := hF.some hc
        subst hv
        have hl2 := congrArg List.length hp
        simp at hl2
        have ew : IntKind.i64.wrap (-(p.length : Int) - 1) = -(p.length : Int) - 1 := wrap64 (by omega) (by omega)
        cases sp with
        | nil =>
          simp [-aun, b_strings_FieldsFunc_1, ffD, ffH, decA hx, acall, h20, hk, hw, ew]
          exact f _ (by simp [ffD, ffH])
        | cons y sp =>
          simp at hlen
          simp [-aun, b_strings_FieldsFunc_1, ffD, ffH, decA hx, acall, h20, hk, hw, ew]
          refine ⟨⟨by omega, by omega⟩, f _ (by simp [ffD, ffH])⟩
    | false =>
      by_cases hc : cur = []
      · have f := fin _ _ _ (hF.into hw hc)
        have hv := (hF.none hc).1
        cases sp with
        | nil =>
          simp [b_strings_FieldsFunc_1, ffD, ffH, decA hx, acall, h20, hk, hw, hv]
          exact f _ (by simp [ffD, ffH])
        | cons y sp =>
          simp [b_strings_FieldsFunc_1, ffD, ffH, decA hx, acall, h20, hk, hw, hv]
          exact f _ (by simp [ffD, ffH])
      · have f := fin _ _ _ (hF.on hw hc)
        obtain ⟨p, hp, hv⟩ := hF.some hc
        have hv' : ¬ v < 0 := by omega
        cases sp with
        | nil =>
          simp [b_strings_FieldsFunc_1, ffD, ffH, decA hx, acall, h20, hk, hw, hv']
          exact f _ (by simp [ffD, ffH])
        | cons y sp =>
          simp [b_strings_FieldsFunc_1, ffD, ffH, decA hx, acall, h20, hk, hw, hv']
          exact f _ (by simp [ffD, ffH])
end Wax

/- zzTrimSpace: the inner loop does nothing on ASCII. (A slow text: two minutes.) -/
namespace Wax
open Go (IntKind)
set_option maxHeartbeats 1000000 in
theorem trim_inner (Γ : Gam) (Q : APost) (S : List UInt8) (x : UInt8) (i n : Nat) (f t : Int) (hn : S.length = n) (hi : S[i]? = some x) (hx : x.toNat < 128) (hb : n < 1099511627776) (hib : i < 1099511627776)
    (h : Q (.exit 4) ⟨[(0, .str S), (3, .int .i64 f), (4, .int .i64 t), (7, .int .i64 i), (8, .int .i64 1), (54, .bool false)], []⟩) :
    awp Γ b_dkim_zzTrimSpace_2 Q ⟨[(0, .str S), (3, .int .i64 f), (4, .int .i64 t), (7, .int .i64 i), (8, .int .i64 1)], []⟩ := by
  have e192 : ¬ (192 : Int) ≤ (x.toNat : Int) := by omega
  have ew : IntKind.i64.wrap ((i : Int) + 1) = (i : Int) + 1 := wrap64 (by omega) (by omega)
  simp only [b_dkim_zzTrimSpace_2, awp_seq]
  refine awp_region_to ⟨[(0, .str S), (3, .int .i64 f), (4, .int .i64 t), (7, .int .i64 i), (8, .int .i64 1), (54, .bool false)], []⟩ ?_ ?_
  · by_cases hlast : (i : Int) + 1 < (n : Int)
    · have h1 : ((i : Int) + 1 < (n : Int)) = True := eq_true hlast
      simp (maxSteps := 1000000) [ew, hn, hi, e192, h1]
    · have h1 : ((i : Int) + 1 < (n : Int)) = False := eq_false hlast
      simp (maxSteps := 1000000) [ew, hn, h1]
  · simpa using h
end Wax

/- The program's own functions (4): white space around a text, of plain texts. -/
namespace Wax
open Go (IntKind)

theorem decR_ascii {x : UInt8} {r : List UInt8} (h : x.toNat < 128) : decR (x :: r) = (x.toNat, 1) := by
  have e : (⟨(x :: r).toArray⟩ : ByteArray).get! 0 = x := by
    show (x :: r).toArray[0]! = x
    simp
  simp [decR, Go.Utf8.decode, e, h]

theorem plainB_lt {x : UInt8} (h : plainB x = true) : x.toNat < 128 := by
  have := of_decide_eq_true h
  omega

theorem isSp_ws {x : UInt8} (h : plainB x = true) : isSp x.toNat = isWs x.toNat := by
  have := of_decide_eq_true h
  unfold isSp isWs
  apply decide_eq_decide.2
  omega

theorem plain_app {s t : List UInt8} : plain (s ++ t) = (plain s && plain t) := by simp [plain]

theorem trimR_ws {c : List UInt8} {x : UInt8} (h : isWs x.toNat = true) : trimR (c ++ [x]) = trimR c := by simp [trimR, h]
theorem trimR_nw {c : List UInt8} {x : UInt8} (h : isWs x.toNat = false) : trimR (c ++ [x]) = c ++ [x] := by simp [trimR, h]

theorem trimR_prefix (c : List UInt8) : ∃ t, c = trimR c ++ t := by
  obtain ⟨t, ht⟩ := List.dropWhile_suffix (fun b : UInt8 => isWs b.toNat) (l := c.reverse)
  refine ⟨t.reverse, ?_⟩
  have := congrArg List.reverse ht
  simpa [trimR] using this.symm

theorem trimL_app {a b : List UInt8} (ha : ∀ x ∈ a, isWs x.toNat = true) : trimL (a ++ b) = trimL b := by
  induction a with
  | nil => rfl
  | cons x r ih =>
    have h1 := ha x (by simp)
    simp only [trimL, List.cons_append, List.dropWhile_cons, h1, if_true]
    exact ih fun y hy => ha y (by simp [hy])

theorem trimL_nw {b : List UInt8} (hb : ∀ x r, b = x :: r → isWs x.toNat = false) : trimL b = b := by
  cases b with
  | nil => rfl
  | cons x r => simp [trimL, hb x r rfl]

def toV (n : Nat) (a c : List UInt8) : Int := if c = [] then (n : Int) else (a.length : Int) + ((trimR c).length : Int)

theorem trim_loop2 (Γ : Gam) (h23 : Γ.fn 23 = con_zzIsSpace) (a b : List UInt8) (hp : plain (a ++ b) = true) (hs : (a ++ b).length < 1099511627776) (ha : ∀ x ∈ a, isWs x.toNat = true) (hb : ∀ x r, b = x :: r → isWs x.toNat = false) :
    awp Γ (.loop [0, 3, 4, 7] b_dkim_zzTrimSpace_4) (blockQ 2 (thenQ (awp Γ t_dkim_zzTrimSpace_5 (finQ [.t 2] fun v => v = .str (trimS (a ++ b)))) (finQ [.t 2] fun v => v = .str (trimS (a ++ b)))))
      ⟨[(0, .str (a ++ b)), (3, .int .i64 a.length), (4, .int .i64 (a ++ b).length), (7, .int .i64 a.length)], []⟩ := by
  have htrim : trimS (a ++ b) = trimR b := by rw [trimS, trimL_app ha, trimL_nw hb]
  rw [htrim]
  refine awp_loop (σ := List UInt8 × List UInt8) (fun p => ⟨[(0, .str (a ++ b)), (3, .int .i64 a.length), (4, .int .i64 (toV (a ++ b).length a p.1)), (7, .int .i64 (a.length + p.1.length))], []⟩)
    (fun p => b = p.1 ++ p.2) (fun p => p.2.length) ([], b) (by simp [toV]) (by simp) ?_
  rintro ⟨c, d⟩ hcd
  simp only at hcd
  subst hcd
  simp at hs
  cases d with
  | nil =>
    simp [b_dkim_zzTrimSpace_4, t_dkim_zzTrimSpace_5]
    refine ⟨fun h => ?_, fun h => ?_⟩
    · have : c = [] := List.length_eq_zero_iff.1 (by omega)
      subst this; simp [trimR]
    · have hc : c ≠ [] := by intro e; subst e; simp at h
      obtain ⟨t, ht⟩ := trimR_prefix c
      have hl : (trimR c).length ≤ c.length := trimR_length c
      have e1 : toV (a.length + c.length) a c = (a.length : Int) + ((trimR c).length : Int) := if_neg hc
      have e2 : ((a.length : Int) + ((trimR c).length : Int)).toNat = a.length + (trimR c).length := by omega
      rw [e1, e2]
      refine ⟨⟨by omega, by omega⟩, ?_⟩
      rw [List.take_length_add_append, List.drop_left]
      generalize trimR c = q at ht ⊢
      subst ht; simp
  | cons x d =>
    have hpx : plainB x = true := by
      have h1 : (plain a && (plain c && plain (x :: d))) = true := by rw [← plain_app, ← plain_app]; exact hp
      simp only [Bool.and_eq_true, plain, List.all_cons] at h1
      exact h1.2.2.1
    have hx := plainB_lt hpx
    have hx2 : (x.toNat : Int) < 128 := by omega
    have step : ∀ v : Int, v = toV (a ++ (c ++ x :: d)).length a (c ++ [x]) → loopQ [0, 3, 4, 7] (fun p : List UInt8 × List UInt8 => ⟨[(0, .str (a ++ (c ++ x :: d))), (3, .int .i64 a.length), (4, .int .i64 (toV (a ++ (c ++ x :: d)).length a p.1)), (7, .int .i64 (a.length + p.1.length))], []⟩)
        (fun p => c ++ x :: d = p.1 ++ p.2) (fun p => p.2.length) (c, x :: d)
        ⟨[(0, .str (a ++ (c ++ x :: d))), (3, .int .i64 a.length), (4, .int .i64 v), (7, .int .i64 (a.length + c.length + 1))], []⟩ := by
      intro v hv
      subst hv
      refine ⟨(c ++ [x], d), ?_, by simp, by simp⟩
      have : ((a.length : Int) + c.length + 1) = (a.length : Int) + ((c ++ [x]).length : Int) := by simp; omega
      rw [this]
      simp
    generalize hl : loopQ [0, 3, 4, 7] (fun p : List UInt8 × List UInt8 => (⟨[(0, .str (a ++ (c ++ x :: d))), (3, .int .i64 a.length), (4, .int .i64 (toV (a ++ (c ++ x :: d)).length a p.1)), (7, .int .i64 (a.length + p.1.length))], []⟩ : St))
        (fun p => c ++ x :: d = p.1 ++ p.2) (fun p => p.2.length) (c, x :: d) = LQ at step ⊢
    clear hl
    simp at hs
    have hget : (a ++ (c ++ x :: d))[a.length + c.length]? = some x := by
      rw [← List.append_assoc, List.getElem?_append_right (by simp)]; simp
    simp [b_dkim_zzTrimSpace_4]
    refine ⟨fun _ => ?_, fun h => by omega⟩
    refine awp_loop (σ := Unit) (fun _ => ⟨[(0, .str (a ++ (c ++ x :: d))), (3, .int .i64 a.length), (4, .int .i64 (toV (a.length + (c.length + (d.length + 1))) a c)), (7, .int .i64 (a.length + c.length)), (8, .int .i64 1)], []⟩) (fun _ => True) (fun _ => 0) () (by simp) trivial ?_
    intro _ _
    have en : ((a.length : Int) + (c.length : Int)) = ((a.length + c.length : Nat) : Int) := by omega
    have ew : IntKind.i64.wrap ((a.length : Int) + c.length + 1) = (a.length : Int) + c.length + 1 := wrap64 (by omega) (by omega)
    rw [en]
    refine trim_inner Γ _ (a ++ (c ++ x :: d)) x (a.length + c.length) (a.length + (c.length + (d.length + 1))) _ _ (by simp) hget hx (by omega) (by omega) ?_
    rw [← en]
    have en2 : ((a.length : Int) + (c.length : Int)).toNat = a.length + c.length := by omega
    have en3 : ((a.length : Int) + (c.length : Int) + 1).toNat = a.length + c.length + 1 := by omega
    have esl : List.drop (a.length + c.length) (List.take (a.length + c.length + 1) (a ++ (c ++ x :: d))) = [x] := by
      rw [← List.append_assoc, show a.length + c.length = (a ++ c).length by simp, List.take_length_add_append, List.drop_left]; rfl
    have erun : runesF 1 [x] = [x.toNat] := by simp [runesF, decR_ascii hx]
    simp [t_dkim_zzTrimSpace_3, ew, en2, en3, esl, erun, rcA, acall, h23, con_zzIsSpace, hx2]
    refine ⟨⟨by omega, by omega, by omega⟩, fun hw => step _ ?_, fun hw => step _ ?_⟩
    · rw [isSp_ws hpx] at hw
      simp [toV, trimR_nw hw]
      try omega
    · rw [isSp_ws hpx] at hw
      have hc : c ≠ [] := by
        intro e; subst e
        rw [hb x d rfl] at hw; simp at hw
      simp [toV, hc, trimR_ws hw]

theorem ok_zzTrimSpace (Γ : Gam) (h23 : Γ.fn 23 = con_zzIsSpace) : ∀ args r, con_zzTrimSpace args = some r → runs Γ c_dkim_zzTrimSpace args (fun v => v = r) := by
  intro args r h
  simp only [con_zzTrimSpace] at h
  split at h <;> (try simp at h; done)
  rename_i s
  obtain ⟨⟨hs, hp⟩, rfl⟩ := ite_some h
  clear h
  simp only [mid] at hs
  simp [c_dkim_zzTrimSpace]
  refine awp_loop (σ := List UInt8 × List UInt8) (fun p => ⟨[(0, .str s), (3, .int .i64 s.length), (4, .int .i64 s.length), (16, .ref 16 0)], [(16, .sit s p.1.length)]⟩)
    (fun p => s = p.1 ++ p.2 ∧ ∀ x ∈ p.1, isWs x.toNat = true) (fun p => p.2.length) ([], s) (by simp) (by simp) ?_
  rintro ⟨a, b⟩ ⟨hs1, ha⟩
  simp only at hs1 ha
  cases b with
  | nil =>
    simp at hs1
    subst hs1
    simp [b_dkim_zzTrimSpace_1, t_dkim_zzTrimSpace_6]
    have := trim_loop2 Γ h23 s [] (by simpa using hp) (by simpa using hs) ha (by simp)
    simpa using this
  | cons x b =>
    subst hs1
    have hpx : plainB x = true ∧ plain b = true := by
      have : (plain a && plain (x :: b)) = true := by rw [← plain_app]; exact hp
      simp only [Bool.and_eq_true] at this
      have h2 := this.2
      simp only [plain, List.all_cons, Bool.and_eq_true] at h2
      exact h2
    have e1 : List.drop a.length (a ++ x :: b) = x :: b := by simp
    have hx := plainB_lt hpx.1
    have hx2 : (x.toNat : Int) < 128 := by omega
    simp [b_dkim_zzTrimSpace_1, t_dkim_zzTrimSpace_6, e1, decR_ascii hx, acall, h23, con_zzIsSpace, hx2]
    refine ⟨fun hw => ?_, fun hw => ?_⟩
    · have := trim_loop2 Γ h23 a (x :: b) hp hs ha (fun y r e => by injection e with e1 e2; subst e1; rw [← isSp_ws hpx.1]; exact hw)
      simpa using this
    · refine ⟨(a ++ [x], b), by simp, ⟨by simp, ?_⟩, by simp⟩
      intro y hy
      simp at hy
      rcases hy with hy | rfl
      · exact ha y hy
      · rw [← isSp_ws hpx.1]; exact hw
end Wax

/- FnDPicks (1): lists of texts that are the same; names of fields; texts that are the same but for letters' case. -/
namespace Wax
open Go (IntKind)

def con_dSameTexts : List AV → Option AV
  | [u, v] => match slStrs u, slStrs v with
    | some l, some m => if l.length < mid ∧ m.length < mid then some (.bool (decide (l = m))) else none
    | _, _ => none
  | _ => none

theorem ok_dSameTexts (Γ : Gam) : ∀ args r, con_dSameTexts args = some r → runs Γ c_laws_dSameTexts args (fun v => v = r) := by
  intro args r h
  simp only [con_dSameTexts] at h
  split at h <;> (try simp at h; done)
  rename_i u v
  split at h <;> (try simp at h; done)
  rename_i l m hl hm
  obtain ⟨⟨h1, h2⟩, rfl⟩ := ite_some h
  clear h
  simp only [mid] at h1 h2
  by_cases hlen : l.length = m.length
  · have key : awp Γ (.loop [0, 1, 5] b_laws_dSameTexts_1) (blockQ 0 (thenQ (awp Γ t_laws_dSameTexts_2 (finQ [.t 4] fun v => v = .bool (decide (l = m)))) (finQ [.t 4] fun v => v = .bool (decide (l = m))))) ⟨[(0, u), (1, v), (5, .int .i64 0)], []⟩ := by
      refine awp_loop2 (σ := List (List UInt8) × List (List UInt8) × List (List UInt8)) (fun p => ⟨[(0, u), (1, v), (5, .int .i64 p.1.length)], []⟩)
        (fun p => l = p.1 ++ p.2.1 ∧ m = p.1 ++ p.2.2) (fun p => p.2.1.length) ([], l, m) (by simp) (by simp) ?_
      rintro ⟨pre, a, b⟩ ⟨e1, e2⟩ LQ hLQ
      simp only at e1 e2
      subst e1 e2
      cases a with
      | nil =>
        have hb : b = [] := by simpa using hlen
        subst hb
        rcases slStrs_cases hl with ⟨rfl, hp⟩ | rfl
        · simp at hp; subst hp
          simp [b_laws_dSameTexts_1, t_laws_dSameTexts_2]
        · simp [b_laws_dSameTexts_1, t_laws_dSameTexts_2]
      | cons x a =>
        cases b with
        | nil => simp at hlen
        | cons y b =>
          simp at h1 h2 hlen
          rcases slStrs_cases hl with ⟨rfl, hp⟩ | rfl
          · simp at hp
          rcases slStrs_cases hm with ⟨rfl, hp⟩ | rfl
          · simp at hp
          have ew : IntKind.i64.wrap ((pre.length : Int) + 1) = (pre.length : Int) + 1 := wrap64 (by omega) (by omega)
          have hlt : (pre.length : Int) < (pre.length : Int) + ((a.length : Int) + 1) := by omega
          by_cases hxy : x = y
          · subst hxy
            simp [b_laws_dSameTexts_1, ew]
            refine ⟨fun _ => ?_, fun h => by omega⟩
            exact hLQ (pre ++ [x], a, b) (by simp) (by simp) _ (by simp)
          · have : ¬ pre ++ x :: a = pre ++ y :: b := by simp [hxy]
            simp [b_laws_dSameTexts_1, ew, hxy]
            omega
    rcases slStrs_cases hl with ⟨rfl, rfl⟩ | rfl <;> rcases slStrs_cases hm with ⟨rfl, rfl⟩ | rfl
    · simp [c_laws_dSameTexts]; simpa using key
    · obtain rfl : m = [] := List.eq_nil_of_length_eq_zero hlen.symm
      simp [c_laws_dSameTexts]; simpa using key
    · simp at hlen
      subst hlen
      simp [c_laws_dSameTexts]; simpa using key
    · simp [c_laws_dSameTexts, hlen]; exact key
  · have hne : ¬ l = m := fun e => hlen (by rw [e])
    have hlen2 : ¬ (l.length : Int) = (m.length : Int) := by omega
    rcases slStrs_cases hl with ⟨rfl, rfl⟩ | rfl <;> rcases slStrs_cases hm with ⟨rfl, rfl⟩ | rfl
    · simp at hlen
    · have : ¬ m.length = 0 := by simpa using fun e => hlen (by rw [e])
      have h0' : ¬ (0 : Int) = (m.length : Int) := by omega
      simp [c_laws_dSameTexts, h0', hne]
    · have : ¬ l.length = 0 := by simpa using fun e => hlen (by rw [e])
      have h0 : ¬ (l.length : Int) = 0 := by omega
      simp [c_laws_dSameTexts, h0, hne]
    · simp [c_laws_dSameTexts, hlen, hlen2, hne]

/-- A field's name. -/
def nameOf (s : List UInt8) : List UInt8 := trimS (match cutAt 58 s with | some p => p.1 | none => s)

def con_DName : List AV → Option AV
  | [.str s] => if s.length < mid then some (.str (nameOf s)) else none
  | _ => none

theorem cutAt_le {c : Int} {s : List UInt8} {p : List UInt8 × List UInt8} (h : cutAt c s = some p) : p.1.length + p.2.length < s.length ∧ ∃ x, s = p.1 ++ x :: p.2 := by
  obtain ⟨a, b⟩ := p
  obtain ⟨x, hx1, hx2, _⟩ := cutAt_eq h
  subst hx2
  simp

theorem ok_DName (Γ : Gam) (h2 : Γ.fn 2 = con_dCut) (h3 : Γ.fn 3 = con_DTrim) : ∀ args r, con_DName args = some r → runs Γ c_spec_DName args (fun v => v = r) := by
  intro args r h
  simp only [con_DName] at h
  split at h <;> (try simp at h; done)
  rename_i s
  obtain ⟨hs, rfl⟩ := ite_some h
  clear h
  have k2 : con_dCut [.str s, .int .u8 58] = some (cutV 58 s) := by
    simp only [con_dCut]; exact if_pos (by simp only [mid] at hs; simp only [big]; omega)
  have k3 : ∀ t : List UInt8, t.length ≤ s.length → con_DTrim [.str t] = some (.str (trimS t)) := by
    intro t ht
    simp only [con_DTrim]; exact if_pos (by simp only [mid] at hs; simp only [big]; omega)
  cases hc : cutAt 58 s with
  | none =>
    have k := k3 s (Nat.le_refl _)
    simp [c_spec_DName, acall, h2, h3, k2, cutV, hc, k, nameOf]
  | some p =>
    have k := k3 p.1 (by have := (cutAt_le hc).1; omega)
    simp [c_spec_DName, acall, h2, h3, k2, cutV, hc, k, nameOf]

def con_parseHeaderField : List AV → Option AV
  | [.str s] => if s.length < mid ∧ plain s = true then some (.tup [.str (nameOf s), .str (trimS (match cutAt 58 s with | some p => p.2 | none => []))]) else none
  | _ => none

theorem ok_parseHeaderField (Γ : Gam) (h16 : Γ.fn 16 = con_zzCut) (h18 : Γ.fn 18 = con_zzTrimSpace) : ∀ args r, con_parseHeaderField args = some r → runs Γ c_dkim_parseHeaderField args (fun v => v = r) := by
  intro args r h
  simp only [con_parseHeaderField] at h
  split at h <;> (try simp at h; done)
  rename_i s
  obtain ⟨⟨hs, hp⟩, rfl⟩ := ite_some h
  clear h
  have k16 : con_zzCut [.str s, .str [58]] = some (cutV 58 s) := by
    simp only [con_zzCut]; exact if_pos (by simp only [mid] at hs; simp only [big]; omega)
  have k18 : ∀ t : List UInt8, t.length ≤ s.length → plain t = true → con_zzTrimSpace [.str t] = some (.str (trimS t)) := by
    intro t ht hpt
    simp only [con_zzTrimSpace]; exact if_pos ⟨by omega, hpt⟩
  have e0 : con_zzTrimSpace [.str []] = some (.str (trimS [])) := k18 [] (by simp) rfl
  cases hc : cutAt 58 s with
  | none =>
    have k := k18 s (Nat.le_refl _) hp
    simp [c_dkim_parseHeaderField, acall, h16, h18, k16, cutV, hc, k, nameOf, e0]
  | some p =>
    obtain ⟨hl, x, hx⟩ := cutAt_le hc
    have hp' := hp
    rw [hx, plain_app] at hp'
    simp only [Bool.and_eq_true] at hp'
    have hp2 : plain p.2 = true := by
      have := hp'.2
      simp only [plain, List.all_cons, Bool.and_eq_true] at this
      exact this.2
    have k := k18 p.1 (by omega) hp'.1
    have kk := k18 p.2 (by omega) hp2
    simp [c_dkim_parseHeaderField, acall, h16, h18, k16, cutV, hc, k, kk, nameOf]

/-- Letters as runes. -/
def rA (s : List UInt8) : List AV := s.map fun b => AV.int .i32 (b.toNat : Int)
@[simp] theorem rA_nil : rA [] = [] := rfl
@[simp] theorem rA_cons {x : UInt8} {l : List UInt8} : rA (x :: l) = .int .i32 (x.toNat : Int) :: rA l := rfl
@[simp] theorem rA_app {l m : List UInt8} : rA (l ++ m) = rA l ++ rA m := by simp [rA]
@[simp] theorem rA_length {l : List UInt8} : (rA l).length = l.length := by simp [rA]
@[simp] theorem atoms_rA {l : List UInt8} : atoms (rA l) = true := by induction l <;> simp_all
@[simp] theorem killL_rA {d : Nat} {l : List UInt8} : killL d (rA l) = rA l := by induction l <;> simp_all
@[simp] theorem snapWL_rA {g : AV → AV} {l : List UInt8} : snapWL g (rA l) = rA l := by induction l <;> simp_all
@[simp] theorem map_snapW_rA {g : AV → AV} {l : List UInt8} : (rA l).map (snapW g) = rA l := by induction l <;> simp_all
@[simp] theorem map_snap_rA {n : Nat} {hp : List (Nat × AObj)} {l : List UInt8} : (rA l).map (snap (n + 1) hp) = rA l := by induction l <;> simp_all
attribute [local simp] lowS_cons lowS_nil lowS_app
@[simp] theorem take_rA {l : List UInt8} : List.take l.length (rA (lowS l)) = rA (lowS l) := List.take_of_length_le (by simp [lowS])
@[simp] theorem lowS_len {l : List UInt8} : (lowS l).length = l.length := by simp [lowS]

def rV (s : List UInt8) : AV := match s with | [] => .nilS | _ => .sl 1 (rA s)

def con_zzEqualFold1 : List AV → Option AV
  | [.str s] => if s.length < mid ∧ ascii s = true then some (rV (lowS s)) else none
  | _ => none

set_option maxRecDepth 100000 in
theorem ok_zzEqualFold1 (Γ : Gam) : ∀ args r, con_zzEqualFold1 args = some r → runs Γ c_dkim_zzEqualFold_1 args (fun v => v = r) := by
  intro args r h
  simp only [con_zzEqualFold1] at h
  split at h <;> (try simp at h; done)
  rename_i s
  obtain ⟨⟨hs, ha⟩, rfl⟩ := ite_some h
  clear h
  simp only [mid] at hs
  simp [c_dkim_zzEqualFold_1]
  refine awp_loop2 (σ := List UInt8 × List UInt8) (fun p => ⟨[(3, grV 29 1 p.1.length), (7, .ref 7 0)], grH 29 p.1.length (rA (lowS p.1)) ++ [(7, .sit s p.1.length)]⟩)
    (fun p => s = p.1 ++ p.2) (fun p => p.2.length) ([], s) (by simp) (by simp) ?_
  rintro ⟨pre, post⟩ hs1 LQ hLQ
  simp only at hs1
  subst hs1
  cases post with
  | nil =>
    simp at hs
    cases pre with
    | nil => simp [b_dkim_zzEqualFold_1_1, t_dkim_zzEqualFold_1_2, rV]
    | cons y pre => simp [b_dkim_zzEqualFold_1_1, t_dkim_zzEqualFold_1_2, rV, List.take_of_length_le]
  | cons x post =>
    have hx := (ascii_lt (by rw [ascii_app] at ha; simp only [Bool.and_eq_true] at ha; exact ha.2 : ascii (x :: post) = true)).1
    simp at hs
    have fin : ∀ st, norm [3, 7] st = ⟨[(3, .msl 29 1 0 (pre.length + 1)), (7, .ref 7 0)], [(29, .cells (rA (lowS pre) ++ [.int .i32 ((lowB x).toNat : Int)])), (7, .sit (pre ++ x :: post) (pre.length + 1))]⟩ → LQ st := by
      intro st hst
      refine hLQ (pre ++ [x], post) (by simp) (by simp) st ?_
      simpa using hst
    have n1 : ¬ (x.toNat : Int) = 383 := by omega
    have n2 : ¬ (x.toNat : Int) = 8490 := by omega
    have lb := lowB_toNat x
    by_cases hu : 65 ≤ x.toNat ∧ x.toNat ≤ 90
    · have hu1 : (65 : Int) ≤ (x.toNat : Int) := by omega
      have hu2 : (x.toNat : Int) ≤ 90 := by omega
      have ew : IntKind.i32.wrap ((x.toNat : Int) + 32) = ((lowB x).toNat : Int) := by
        rw [lb]
        have : (65 : Int) ≤ (x.toNat : Int) ∧ (x.toNat : Int) ≤ 90 := ⟨hu1, hu2⟩
        simp only [IntKind.wrap_i32]
        split <;> omega
      cases pre with
      | nil => 
        simp [b_dkim_zzEqualFold_1_1, decA hx, n1, n2, hu1, hu2, ew]
        exact fin _ (by simp)
      | cons y pre =>
        simp at hs
        simp [b_dkim_zzEqualFold_1_1, decA hx, n1, n2, hu1, hu2, ew]
        refine ⟨by omega, fin _ (by simp)⟩
    · have ew : ((lowB x).toNat : Int) = (x.toNat : Int) := by
        rw [lb]; split <;> omega
      have fin' := fin
      rw [ew] at fin'
      have hor : ¬ (65 : Int) ≤ (x.toNat : Int) ∨ ¬ (x.toNat : Int) ≤ 90 := by omega
      rcases hor with hu1 | hu2
      · cases pre with
        | nil => 
          simp [b_dkim_zzEqualFold_1_1, decA hx, n1, n2, hu1]
          exact fin' _ (by simp)
        | cons y pre =>
          simp at hs
          simp [b_dkim_zzEqualFold_1_1, decA hx, n1, n2, hu1]
          refine ⟨by omega, fin' _ (by simp)⟩
      · have hu1 : (65 : Int) ≤ (x.toNat : Int) := by omega
        cases pre with
        | nil => 
          simp [b_dkim_zzEqualFold_1_1, decA hx, n1, n2, hu1, hu2]
          exact fin' _ (by simp)
        | cons y pre =>
          simp at hs
          simp [b_dkim_zzEqualFold_1_1, decA hx, n1, n2, hu1, hu2]
          refine ⟨by omega, fin' _ (by simp)⟩

def con_zzEqualFold : List AV → Option AV
  | [.str s, .str t] => if s.length < mid ∧ t.length < mid ∧ ascii s = true ∧ ascii t = true then some (.bool (decide (lowS s = lowS t))) else none
  | _ => none

set_option maxRecDepth 100000 in
theorem ok_zzEqualFold (Γ : Gam) (h42 : Γ.fn 42 = con_zzEqualFold1) : ∀ args r, con_zzEqualFold args = some r → runs Γ c_dkim_zzEqualFold args (fun v => v = r) := by
  intro args r h
  simp only [con_zzEqualFold] at h
  split at h <;> (try simp at h; done)
  rename_i s t
  obtain ⟨⟨hs, ht, has, hat⟩, rfl⟩ := ite_some h
  clear h
  have ks : con_zzEqualFold1 [.str s] = some (rV (lowS s)) := if_pos ⟨hs, has⟩
  have kt : con_zzEqualFold1 [.str t] = some (rV (lowS t)) := if_pos ⟨ht, hat⟩
  simp only [mid] at hs ht
  have hls : (lowS s).length < 1099511627776 := by simpa using hs
  have hlt : (lowS t).length < 1099511627776 := by simpa using ht
  simp [c_dkim_zzEqualFold, acall, h42, ks, kt]
  clear ks kt hs ht has hat
  generalize lowS s = l at *
  generalize lowS t = m at *
  by_cases hlen : l.length = m.length
  · have key : awp Γ (.loop [6, 7, 21, 22] b_dkim_zzEqualFold_1) (blockQ 0 (thenQ (awp Γ t_dkim_zzEqualFold_2 (finQ [.t 4] fun v => v = .bool (decide (l = m)))) (finQ [.t 4] fun v => v = .bool (decide (l = m))))) ⟨[(6, rV l), (7, rV m), (21, .int .i64 l.length), (22, .int .i64 0)], []⟩ := by
      refine awp_loop2 (σ := List UInt8 × List UInt8 × List UInt8) (fun p => ⟨[(6, rV l), (7, rV m), (21, .int .i64 l.length), (22, .int .i64 p.1.length)], []⟩)
        (fun p => l = p.1 ++ p.2.1 ∧ m = p.1 ++ p.2.2) (fun p => p.2.1.length) ([], l, m) (by simp) (by simp) ?_
      rintro ⟨pre, a, b⟩ ⟨e1, e2⟩ LQ hLQ
      simp only at e1 e2
      subst e1 e2
      cases a with
      | nil =>
        have hb : b = [] := by simpa using hlen
        subst hb
        simp [b_dkim_zzEqualFold_1, t_dkim_zzEqualFold_2]
      | cons x a =>
        cases b with
        | nil => simp at hlen
        | cons y b =>
          simp at hls hlt hlen
          have er1 : rV (pre ++ x :: a) = .sl 1 (rA pre ++ .int .i32 (x.toNat : Int) :: rA a) := by
            cases pre <;> simp [rV]
          have er2 : rV (pre ++ y :: b) = .sl 1 (rA pre ++ .int .i32 (y.toNat : Int) :: rA b) := by
            cases pre <;> simp [rV]
          have ew : IntKind.i64.wrap ((pre.length : Int) + 1) = (pre.length : Int) + 1 := wrap64 (by omega) (by omega)
          have g : ∀ (q : List UInt8) (v : AV), (rA pre ++ v :: rA q)[pre.length]? = some v := fun q v => get_mid (by simp)
          by_cases hxy : x = y
          · subst hxy
            simp [b_dkim_zzEqualFold_1, ew, er1, er2, g]
            refine ⟨fun _ => ?_, fun h => by omega⟩
            exact hLQ (pre ++ [x], a, b) (by simp) (by simp) _ (by simp [er1, er2])
          · have hn : ¬ (x.toNat : Int) = (y.toNat : Int) := fun e => hxy (UInt8.toNat_inj.1 (by omega))
            simp [b_dkim_zzEqualFold_1, ew, er1, er2, g, hn, hxy]
            omega
    cases l with
    | nil =>
      cases m with
      | nil => simp [rV] at key ⊢; exact key
      | cons => simp at hlen
    | cons x l =>
      cases m with
      | nil => simp at hlen
      | cons y m => simp at hlen; simp [rV, hlen] at key ⊢; exact key
  · have hne : ¬ l = m := fun e => hlen (by rw [e])
    have hlen2 : ¬ (l.length : Int) = (m.length : Int) := by omega
    cases l with
    | nil =>
      cases m with
      | nil => simp at hlen
      | cons y m => simp [rV]; omega
    | cons x l =>
      cases m with
      | nil => simp [rV]; omega
      | cons y m => simp at hlen hlen2; simp [rV, hlen, hlen2]; simp at hne; omega
end Wax

/- FnDPicks (2): the picker of header fields. -/
namespace Wax
open Go (IntKind)

/-- What an evaluation asks of a slice of texts. -/
theorem slf_alen {u : AV} {l : List (List UInt8)} (h : slStrs u = some l) (hp : List (Nat × AObj)) : alen hp 1 u = some l.length := by
  rcases slStrs_cases h with ⟨rfl, rfl⟩ | rfl <;> simp
theorem slf_kill {u : AV} {l : List (List UInt8)} (h : slStrs u = some l) (d : Nat) : kill d u = u := by
  rcases slStrs_cases h with ⟨rfl, rfl⟩ | rfl <;> simp
theorem slf_ref {u : AV} {l : List (List UInt8)} (h : slStrs u = some l) : hasRef u = false := by
  rcases slStrs_cases h with ⟨rfl, rfl⟩ | rfl <;> simp
theorem slf_refs {u : AV} {l : List (List UInt8)} (h : slStrs u = some l) : refs u = [] := by
  rcases slStrs_cases h with ⟨rfl, rfl⟩ | rfl <;> simp
theorem slf_map {u : AV} {l : List (List UInt8)} (h : slStrs u = some l) (g : Nat → Nat) : mapId g u = u := by
  rcases slStrs_cases h with ⟨rfl, rfl⟩ | rfl <;> simp
theorem slf_snap {u : AV} {l : List (List UInt8)} (h : slStrs u = some l) (n : Nat) (hp : List (Nat × AObj)) : snap (n + 1) hp u = u := by
  rcases slStrs_cases h with ⟨rfl, rfl⟩ | rfl <;> simp
theorem slf_snapW {u : AV} {l : List (List UInt8)} (h : slStrs u = some l) (g : AV → AV) : snapW g u = u := by
  rcases slStrs_cases h with ⟨rfl, rfl⟩ | rfl <;> simp
theorem slf_atom {u : AV} {l : List (List UInt8)} (h : slStrs u = some l) : atom u = true := by
  rcases slStrs_cases h with ⟨rfl, rfl⟩ | rfl <;> simp
theorem slf_cells {u : AV} {l : List (List UInt8)} (h : slStrs u = some l) : cells u = [u] := by
  rcases slStrs_cases h with ⟨rfl, rfl⟩ | rfl <;> simp
theorem slf_ne {u : AV} {l : List (List UInt8)} (h : slStrs u = some l) (hl : l ≠ []) : u = .sl 1 (strsA l) := by
  rcases slStrs_cases h with ⟨rfl, rfl⟩ | rfl
  · exact absurd rfl hl
  · rfl

def con_newHeaderPicker : List AV → List (Nat × AObj) → Option (AV × List (Nat × AObj))
  | [u], [] => match slStrs u with
    | some _ => some (.ref 0 0, [(0, .cells [u, .mref 1]), (1, .mp [])])
    | none => none
  | _, _ => none

theorem ok_newHeaderPicker (Γ : Gam) : ∀ args hp q, con_newHeaderPicker args hp = some q → runsS Γ c_dkim_newHeaderPicker args hp (fun v => v = some q) := by
  intro args hp q h
  simp only [con_newHeaderPicker] at h
  split at h <;> (try simp at h; done)
  rename_i u
  split at h <;> (try simp at h; done)
  rename_i l hl
  injection h with h; subst h
  rcases slStrs_cases hl with ⟨rfl, rfl⟩ | rfl <;> simp [c_dkim_newHeaderPicker, reach_succ]

def mpA (c : List (List UInt8 × Nat)) : List (List UInt8 × AV) := c.map fun p => (p.1, .int .i64 (p.2 : Int))
def asCnt : List (List UInt8 × AV) → Option (List (List UInt8 × Nat))
  | [] => some []
  | (k, .int .i64 n) :: r => if 0 ≤ n then (asCnt r).map ((k, n.toNat) :: ·) else none
  | _ :: _ => none
theorem asCnt_mpA : ∀ c, asCnt (mpA c) = some c
  | [] => rfl
  | (k, n) :: r => by
    have := asCnt_mpA r
    simp only [mpA, List.map_cons, asCnt] at this ⊢
    rw [this, if_pos (by omega)]; simp
theorem asCnt_spec : ∀ {es c}, asCnt es = some c → es = mpA c
  | [], c, h => by simp [asCnt] at h; subst h; rfl
  | (k, v) :: r, c, h => by
    cases v <;> (try (simp [asCnt] at h; done))
    rename_i t n
    cases t <;> (try (simp [asCnt] at h; done))
    simp only [asCnt] at h
    split at h
    · rename_i hn
      cases hr : asCnt r with
      | none => rw [hr] at h; simp at h
      | some c' =>
        rw [hr] at h; simp at h; subst h
        rw [asCnt_spec hr]
        simp [mpA]; omega
    · simp at h

def getC : List (List UInt8 × Nat) → List UInt8 → Nat
  | [], _ => 0
  | (i, n) :: r, k => if k = i then n else getC r k
def setC : List (List UInt8 × Nat) → List UInt8 → Nat → List (List UInt8 × Nat)
  | [], k, v => [(k, v)]
  | (i, n) :: r, k, v => if k = i then (k, v) :: r else (i, n) :: setC r k v
theorem look_mpA : ∀ (c : List (List UInt8 × Nat)) (k : List UInt8), lookA (mpA c) k (.int .i64 0) false = .int .i64 (getC c k : Int)
  | [], k => rfl
  | (i, n) :: r, k => by
    have := look_mpA r k
    by_cases h : k = i <;> simp [mpA, lookA, mfind, getC, h] at this ⊢
    exact this
theorem mset_mpA : ∀ (c : List (List UInt8 × Nat)) (k : List UInt8) (n : Nat), mset (mpA c) k (.int .i64 (n : Int)) = mpA (setC c k n)
  | [], k, n => rfl
  | (i, m) :: r, k, n => by
    have := mset_mpA r k n
    by_cases h : k = i <;> simp [mpA, mset, setC, h] at this ⊢
    exact this
theorem getC_setC : ∀ (c : List (List UInt8 × Nat)) (k : List UInt8) (n : Nat) (j : List UInt8), getC (setC c k n) j = if j = k then n else getC c j
  | [], k, n, j => rfl
  | (i, m) :: r, k, n, j => by
    have := getC_setC r k n j
    by_cases h : k = i
    · subst h; by_cases h2 : j = k <;> simp [setC, getC, h2]
    · by_cases h2 : j = i
      · subst h2; have : ¬ j = k := fun e => h e.symm
        simp [setC, getC, h, this]
      · simp [setC, getC, h, h2, this]

/-- The field of that name, so many times passed over. -/
def pk (key : List UInt8) : List (List UInt8) → Nat → Option (List UInt8)
  | [], _ => none
  | f :: r, n => if lowS (nameOf f) = key then (match n with | 0 => some f | n + 1 => pk key r n) else pk key r n

def pkRes (u : AV) (c : List (List UInt8 × Nat)) (key : List UInt8) : Option (List UInt8) → AV × List (Nat × AObj)
  | some f => (.str f, [(0, .cells [u, .mref 1]), (1, .mp (mpA (setC c key (getC c key + 1))))])
  | none => (.str [], [(0, .cells [u, .mref 1]), (1, .mp (mpA c))])

def con_hpPick : List AV → List (Nat × AObj) → Option (AV × List (Nat × AObj))
  | [.ref 0 0, .str k], [(0, .cells [u, .mref 1]), (1, .mp es)] => match slStrs u, asCnt es with
    | some fs, some c => if fs.length < mid ∧ (∀ s ∈ fs, s.length < mid ∧ plain s = true) ∧ k.length < mid ∧ plain k = true ∧ getC c (lowS k) < mid then
        some (pkRes u c (lowS k) (pk (lowS k) fs.reverse (getC c (lowS k))))
      else none
    | _, _ => none
  | _, _ => none

theorem nameOf_len (s : List UInt8) : (nameOf s).length ≤ s.length := by
  have ht : ∀ t : List UInt8, (trimS t).length ≤ t.length := by
    intro t
    have h1 : (trimL t).length ≤ t.length := (List.dropWhile_suffix _).length_le
    have h2 : (trimR (trimL t)).length ≤ (trimL t).length := by
      simp only [trimR, List.length_reverse]
      have := (List.dropWhile_suffix (fun b : UInt8 => isWs b.toNat) (l := (trimL t).reverse)).length_le
      simpa using this
    exact Nat.le_trans h2 h1
  simp only [nameOf]
  cases hc : cutAt 58 s with
  | none => exact ht s
  | some p => have := (cutAt_le hc).1; have := ht p.1; simp only; omega

theorem plain_sub {s t : List UInt8} (h : ∀ x ∈ t, x ∈ s) (hs : plain s = true) : plain t = true := by
  simp only [plain, List.all_eq_true] at hs ⊢
  exact fun x hx => hs x (h x hx)

theorem trimS_sub {t : List UInt8} : ∀ x ∈ trimS t, x ∈ t := by
  intro x hx
  simp only [trimS, trimR, trimL, List.mem_reverse] at hx
  have := (List.dropWhile_suffix _).mem hx
  rw [List.mem_reverse] at this
  exact (List.dropWhile_suffix _).mem this

theorem nameOf_plain {s : List UInt8} (h : plain s = true) : plain (nameOf s) = true := by
  simp only [nameOf]
  refine plain_sub (fun x hx => trimS_sub x hx) ?_
  cases hc : cutAt 58 s with
  | none => exact h
  | some p =>
    obtain ⟨_, y, hy⟩ := cutAt_le hc
    refine plain_sub (fun x hx => ?_) h
    rw [hy]; simp [show x ∈ p.1 from hx]
theorem plain_lowS {s : List UInt8} (h : plain s = true) : ascii (lowS s) = true := by
  have := plain_ascii h
  simp only [ascii, lowS, List.all_map, List.all_eq_true] at this ⊢
  intro x hx
  have h1 := of_decide_eq_true (this x hx)
  have lb := lowB_toNat x
  refine decide_eq_true ?_
  split at lb <;> omega
end Wax

/- FnDParams (1): splitting at a byte; pairs. -/
namespace Wax
open Go (IntKind)

def con_DSplit : List AV → Option AV
  | [.str s, .int .u8 n] => if s.length < mid ∧ 0 ≤ n ∧ n < 256 then some (.sl 1 (strsA (splitB (UInt8.ofNat n.toNat) s))) else none
  | _ => none

theorem ok_DSplit (Γ : Gam) (h2 : Γ.fn 2 = con_dCut) : ∀ args r, con_DSplit args = some r → runs Γ c_spec_DSplit args (fun v => v = r) := by
  intro args r h
  simp only [con_DSplit] at h
  split at h <;> (try simp at h; done)
  rename_i s n
  obtain ⟨⟨hs, hn0, hn⟩, rfl⟩ := ite_some h
  clear h
  obtain ⟨b, rfl⟩ : ∃ b : UInt8, n = (b.toNat : Int) := ⟨UInt8.ofNat n.toNat, by
    have : (UInt8.ofNat n.toNat).toNat = n.toNat := by simp; omega
    rw [this]; omega⟩
  have eb : UInt8.ofNat (b.toNat : Int).toNat = b := by simp
  rw [eb]
  have k2 : ∀ t : List UInt8, t.length ≤ s.length → con_dCut [.str t, .int .u8 b.toNat] = some (cutV b.toNat t) := by
    intro t ht
    simp only [con_dCut]; exact if_pos (by simp only [mid] at hs; simp only [big]; omega)
  simp only [mid] at hs
  simp [c_spec_DSplit]
  refine awp_loop2 (σ := List (List UInt8) × List UInt8) (fun p => ⟨[(0, .str p.2), (1, .int .u8 b.toNat), (5, grV 19 1 p.1.length)], grH 19 p.1.length (strsA p.1)⟩)
    (fun p => splitB b s = p.1 ++ splitB b p.2 ∧ p.2.length + p.1.length ≤ s.length) (fun p => p.2.length) ([], s) (by simp) (by simp) ?_
  rintro ⟨outs, t⟩ ⟨hsp, htl⟩ LQ hLQ
  simp only at hsp htl
  have k := k2 t (by omega)
  rw [splitB_cut b t] at hsp
  cases hc : cutAt b.toNat t with
  | none =>
    simp only [hc] at hsp
    rw [hsp]
    cases outs with
    | nil => simp [b_spec_DSplit_1, acall, h2, k, cutV, hc]
    | cons o outs =>
      simp at htl
      simp [b_spec_DSplit_1, acall, h2, k, cutV, hc, List.take_of_length_le]
      omega
  | some p =>
    simp only [hc] at hsp
    obtain ⟨hpl, _⟩ := cutAt_le hc
    have fin : ∀ st, norm [0, 1, 5] st = ⟨[(0, .str p.2), (1, .int .u8 b.toNat), (5, .msl 19 1 0 (outs.length + 1))], [(19, .cells (strsA outs ++ [.str p.1]))]⟩ → LQ st := by
      intro st hst
      refine hLQ (outs ++ [p.1], p.2) ⟨by rw [hsp]; simp, by simp; omega⟩ (by simp only; omega) st (by simpa using hst)
    cases outs with
    | nil =>
      simp [b_spec_DSplit_1, acall, h2, k, cutV, hc]
      exact fin _ (by simp)
    | cons o outs =>
      simp at htl
      simp [b_spec_DSplit_1, acall, h2, k, cutV, hc]
      exact ⟨by omega, fin _ (by simp)⟩

/-- Pairs of texts, as elements of two cells. -/
def pr2 (l : List (List UInt8 × List UInt8)) : List AV := l.map fun p => .agg [.str p.1, .str p.2]
/-- .. as cells. -/
def pc2 (l : List (List UInt8 × List UInt8)) : List AV := l.flatMap fun p => [.str p.1, .str p.2]
@[simp] theorem pr2_nil : pr2 [] = [] := rfl
@[simp] theorem pr2_cons {x l} : pr2 (x :: l) = .agg [.str x.1, .str x.2] :: pr2 l := rfl
@[simp] theorem pr2_app {l m} : pr2 (l ++ m) = pr2 l ++ pr2 m := by simp [pr2]
@[simp] theorem pr2_length {l} : (pr2 l).length = l.length := by simp [pr2]
@[simp] theorem pc2_nil : pc2 [] = [] := rfl
@[simp] theorem pc2_cons {x : List UInt8 × List UInt8} {l} : pc2 (x :: l) = .str x.1 :: .str x.2 :: pc2 l := rfl
@[simp] theorem pc2_app {l m} : pc2 (l ++ m) = pc2 l ++ pc2 m := by simp [pc2]
@[simp] theorem pc2_length {l : List (List UInt8 × List UInt8)} : (pc2 l).length = l.length * 2 := by induction l <;> simp_all; omega
@[simp] theorem atoms_pc2 {l} : atoms (pc2 l) = true := by induction l <;> simp_all
@[simp] theorem killL_pc2 {d l} : killL d (pc2 l) = pc2 l := by induction l <;> simp_all
@[simp] theorem map_snap_pc2 {n : Nat} {hp : List (Nat × AObj)} {l} : (pc2 l).map (snap (n + 1) hp) = pc2 l := by induction l <;> simp_all
@[simp] theorem snapWL_pc2 {g : AV → AV} {l} : snapWL g (pc2 l) = pc2 l := by induction l <;> simp_all
@[simp] theorem group_pc2 : ∀ {l : List (List UInt8 × List UInt8)}, group 2 l.length (pc2 l) = pr2 l
  | [] => rfl
  | x :: l => by simp [group, group_pc2 (l := l)]

def pairV (l : List (List UInt8 × List UInt8)) : AV := match l with | [] => .nilS | _ => .sl 2 (pr2 l)
def asPairs : List AV → Option (List (List UInt8 × List UInt8))
  | [] => some []
  | .agg [.str a, .str b] :: r => (asPairs r).map ((a, b) :: ·)
  | _ :: _ => none
def slPairs : AV → Option (List (List UInt8 × List UInt8))
  | .nilS => some []
  | .sl es xs => if es = 2 then asPairs xs else none
  | _ => none
theorem asPairs_pr2 : ∀ l, asPairs (pr2 l) = some l
  | [] => rfl
  | x :: l => by simp [asPairs, asPairs_pr2 l]
theorem asPairs_spec : ∀ {xs l}, asPairs xs = some l → xs = pr2 l
  | [], l, h => by simp [asPairs] at h; subst h; rfl
  | v :: r, l, h => by
    unfold asPairs at h
    split at h
    · simp at h; rename_i e; simp at e
    · rename_i a b r' e
      simp at e; obtain ⟨rfl, rfl⟩ := e
      cases hr : asPairs r with
      | none => rw [hr] at h; simp at h
      | some l' => rw [hr] at h; simp at h; subst h; rw [asPairs_spec hr]; rfl
    · simp at h
theorem slPairs_cases {v : AV} {l} (h : slPairs v = some l) : (v = .nilS ∧ l = []) ∨ v = .sl 2 (pr2 l) := by
  cases v <;> simp [slPairs] at h
  · left; exact ⟨rfl, h⟩
  · right; obtain ⟨e, h⟩ := h; rw [asPairs_spec h, e]
theorem slPairs_pairV {l} : slPairs (pairV l) = some l := by
  cases l <;> simp [pairV, slPairs, ← pr2_cons, asPairs_pr2, -pr2_cons]
end Wax

/- FnDWords (1): forms and parts. -/
namespace Wax
open Go (IntKind)

def cut2 (c : Int) (s : List UInt8) : List (List UInt8) := match cutAt c s with | none => [s] | some p => [p.1, p.2]

def con_zzCut2 : List AV → Option AV
  | [.str s, .int .u8 c] => if s.length < mid then some (.sl 1 (strsA (cut2 c s))) else none
  | _ => none

theorem ok_zzCut2 (Γ : Gam) : ∀ args r, con_zzCut2 args = some r → runs Γ c_dkim_zzCut2 args (fun v => v = r) := by
  intro args r h
  simp only [con_zzCut2] at h
  split at h <;> (try simp at h; done)
  rename_i s c
  obtain ⟨hs, rfl⟩ := ite_some h
  clear h
  simp only [mid] at hs
  simp -implicitDefEqProofs [c_dkim_zzCut2]
  refine awp_loop2 (σ := List UInt8 × List UInt8) (fun p => ⟨[(0, .str s), (1, .int .u8 c), (5, .int .i64 p.1.length)], []⟩) (fun p => s = p.1 ++ p.2 ∧ noB c p.1) (fun p => p.2.length) ([], s) (by simp) (by simp [noB]) ?_
  rintro ⟨pre, post⟩ ⟨hs1, hs2⟩ LQ hLQ
  simp only at hs1 hs2
  subst hs1
  cases post with
  | nil =>
    have e : cutAt c pre = none := by have := cutAt_app c pre [] hs2; simpa [cutAt] using this
    simp -implicitDefEqProofs [b_dkim_zzCut2_1, t_dkim_zzCut2_2, cut2, e]
  | cons x post =>
    simp at hs
    have ew : IntKind.i64.wrap ((pre.length : Int) + 1) = (pre.length : Int) + 1 := wrap64 (by omega) (by omega)
    have hlt : (pre.length : Int) < (pre.length : Int) + ((post.length : Int) + 1) := by omega
    by_cases he : (x.toNat : Int) = c
    · have e1 : (0 : Int) ≤ (pre.length : Int) + 1 ∧ (pre.length : Int) + 1 ≤ (pre.length : Int) + ((post.length : Int) + 1) := by omega
      have e2 : ((pre.length : Int) + 1).toNat = pre.length + 1 := by omega
      simp -implicitDefEqProofs [b_dkim_zzCut2_1, ew, cut2, cutAt_app _ _ _ hs2, cutAt, e1, e2, he]
      omega
    · simp -implicitDefEqProofs [b_dkim_zzCut2_1, ew, he, hlt]
      refine hLQ (pre ++ [x], post) ⟨by simp, ?_⟩ (by simp) _ (by simp)
      intro y hy
      simp at hy
      rcases hy with hy | rfl
      · exact hs2 y hy
      · exact he

/-- What forms a value says. -/
def pcan (t : List UInt8) : List UInt8 × List UInt8 := match cutAt 47 t with
  | none => (if t = [] then simpleB else t, simpleB)
  | some p => (if p.1 = [] then simpleB else p.1, p.2)

def con_parseCan : List AV → Option AV
  | [.str s] => if s.length < mid ∧ ascii s = true then some (.tup [.str (pcan (stripS s)).1, .str (pcan (stripS s)).2]) else none
  | _ => none

theorem stripS_length (s : List UInt8) : (stripS s).length ≤ s.length := List.length_filter_le _ _
theorem stripD_length (s : List UInt8) : (stripD s).length ≤ s.length := List.length_filter_le _ _

theorem litS : ([115, 105, 109, 112, 108, 101] : List UInt8) = simpleB := rfl
theorem litR : ([114, 101, 108, 97, 120, 101, 100] : List UInt8) = relaxedB := rfl

theorem ok_parseCan (Γ : Gam) (h26 : Γ.fn 26 = con_stripWhitespace) (h57 : Γ.fn 57 = con_zzCut2) : ∀ args r, con_parseCan args = some r → runs Γ c_dkim_parseCanonicalization args (fun v => v = r) := by
  intro args r h
  simp only [con_parseCan] at h
  split at h <;> (try simp at h; done)
  rename_i s
  obtain ⟨⟨hs, ha⟩, rfl⟩ := ite_some h
  clear h
  have k26 : con_stripWhitespace [.str s] = some (.str (stripS s)) := if_pos ⟨hs, ha⟩
  have hl := stripS_length s
  have k57 : con_zzCut2 [.str (stripS s), .int .u8 47] = some (.sl 1 (strsA (cut2 47 (stripS s)))) := if_pos (by omega)
  generalize stripS s = t at *
  cases hc : cutAt 47 t with
  | none =>
    by_cases ht : t = []
    · subst ht
      simp -implicitDefEqProofs [c_dkim_parseCanonicalization, acall, h26, k26, h57, k57, cut2, hc, pcan, litS]
    · simp -implicitDefEqProofs [c_dkim_parseCanonicalization, acall, h26, k26, h57, k57, cut2, hc, pcan, ht, litS]
  | some p =>
    obtain ⟨a, b⟩ := p
    by_cases ht : a = []
    · subst ht
      simp -implicitDefEqProofs [c_dkim_parseCanonicalization, acall, h26, k26, h57, k57, cut2, hc, pcan, litS]
    · simp -implicitDefEqProofs [c_dkim_parseCanonicalization, acall, h26, k26, h57, k57, cut2, hc, pcan, ht, litS]

theorem ok_Forms (Γ : Gam) (h58 : Γ.fn 58 = con_parseCan) : ∀ args r, con_parseCan args = some r → runs Γ c_dkim_Forms args (fun v => v = r) := by
  intro args r h
  have h' := h
  simp only [con_parseCan] at h
  split at h <;> (try simp at h; done)
  obtain ⟨_, rfl⟩ := ite_some h
  simp -implicitDefEqProofs [c_dkim_Forms, acall, h58, h']

def known (x : List UInt8) : Bool := decide (x = simpleB) || decide (x = relaxedB)
def formsV (p : List UInt8 × List UInt8) : AV := .tup [.str p.1, .str p.2, .bool (known p.1 && known p.2)]

theorem canonV_nil (f : List UInt8) : ∃ t, canonV f [] = .tup [.str t, .bool (known f)] := by
  by_cases f1 : f = simpleB
  · subst f1; exact ⟨[], by simp [canonV, known]⟩
  · by_cases f2 : f = relaxedB
    · subst f2; exact ⟨relaxedOf [], by simp [canonV, known, rel_ne]⟩
    · exact ⟨[], by simp [canonV, known, f1, f2]⟩

def con_DForms : List AV → Option AV
  | [.str s] => if s.length < mid ∧ ascii s = true then some (formsV (pcan (stripS s))) else none
  | _ => none

theorem ok_DForms (Γ : Gam) (h13 : Γ.fn 13 = con_CanonicalHeader) (h59 : Γ.fn 59 = con_parseCan) : ∀ args r, con_DForms args = some r → runs Γ c_impl_DForms args (fun v => v = r) := by
  intro args r h
  simp only [con_DForms] at h
  split at h <;> (try simp at h; done)
  rename_i s
  obtain ⟨hh, rfl⟩ := ite_some h
  clear h
  have k59 : con_parseCan [.str s] = some (.tup [.str (pcan (stripS s)).1, .str (pcan (stripS s)).2]) := if_pos hh
  generalize pcan (stripS s) = p at *
  obtain ⟨a, b⟩ := p
  have kr : relOk [] := ⟨by simp [mid], by simp [plain], by simp [cutAt]⟩
  have ka := con_CanonicalHeader_eq (form := a) kr
  have kb := con_CanonicalHeader_eq (form := b) kr
  obtain ⟨ta, ea⟩ := canonV_nil a
  obtain ⟨tb, eb⟩ := canonV_nil b
  rw [ea] at ka
  rw [eb] at kb
  cases hka : known a <;> rw [hka] at ka <;> simp -implicitDefEqProofs [c_impl_DForms, acall, h59, k59, h13, ka, kb, formsV, hka]

def con_known : List AV → Option AV
  | [.str s] => some (.bool (known s))
  | _ => none

theorem ok_known (Γ : Gam) : ∀ args r, con_known args = some r → runs Γ c_spec_DFormsOf_1 args (fun v => v = r) := by
  intro args r h
  simp only [con_known] at h
  split at h <;> (try simp at h; done)
  rename_i s
  simp at h
  subst h
  by_cases h1 : s = simpleB
  · subst h1; simp -implicitDefEqProofs [c_spec_DFormsOf_1, known, litS, litR]
  · simp -implicitDefEqProofs [c_spec_DFormsOf_1, known, litS, litR, h1]

def con_DFormsOf : List AV → Option AV
  | [.str s] => if s.length < mid then some (formsV (pcan (stripD s))) else none
  | _ => none

theorem ok_DFormsOf (Γ : Gam) (h2 : Γ.fn 2 = con_dCut) (h27 : Γ.fn 27 = con_DStrip) (h60 : Γ.fn 60 = con_known) : ∀ args r, con_DFormsOf args = some r → runs Γ c_spec_DFormsOf args (fun v => v = r) := by
  intro args r h
  simp only [con_DFormsOf] at h
  split at h <;> (try simp at h; done)
  rename_i s
  obtain ⟨hs, rfl⟩ := ite_some h
  clear h
  have k27 : con_DStrip [.str s] = some (.str (stripD s)) := if_pos hs
  have hl := stripD_length s
  have k2 : con_dCut [.str (stripD s), .int .u8 47] = some (cutV 47 (stripD s)) := if_pos (by simp only [mid] at hs; simp only [big]; omega)
  generalize stripD s = t at *
  have k60 : ∀ x, con_known [.str x] = some (.bool (known x)) := fun x => rfl
  have ks : known simpleB = true := by simp [known]
  cases hc : cutAt 47 t with
  | none =>
    by_cases ht : t = []
    · subst ht
      simp -implicitDefEqProofs [c_spec_DFormsOf, acall, h27, k27, h2, k2, cutV, hc, pcan, formsV, h60, k60, ks, litS]
    · cases hk : known t <;> simp -implicitDefEqProofs [c_spec_DFormsOf, acall, h27, k27, h2, k2, cutV, hc, pcan, ht, formsV, h60, k60, ks, hk, litS]
  | some p =>
    obtain ⟨a, b⟩ := p
    by_cases ht : a = []
    · subst ht
      simp -implicitDefEqProofs [c_spec_DFormsOf, acall, h27, k27, h2, k2, cutV, hc, pcan, formsV, h60, k60, ks, litS]
    · cases hk : known a <;> simp -implicitDefEqProofs [c_spec_DFormsOf, acall, h27, k27, h2, k2, cutV, hc, pcan, ht, formsV, h60, k60, ks, hk, litS]

def con_DParts : List AV → Option AV
  | [.str s] => if s.length < mid then some (.sl 1 (strsA (splitB 58 (stripD s)))) else none
  | _ => none

theorem ok_DParts (Γ : Gam) (h27 : Γ.fn 27 = con_DStrip) (h54 : Γ.fn 54 = con_DSplit) : ∀ args r, con_DParts args = some r → runs Γ c_spec_DParts args (fun v => v = r) := by
  intro args r h
  simp only [con_DParts] at h
  split at h <;> (try simp at h; done)
  rename_i s
  obtain ⟨hs, rfl⟩ := ite_some h
  clear h
  have k27 : con_DStrip [.str s] = some (.str (stripD s)) := if_pos hs
  have hl := stripD_length s
  have k54 : con_DSplit [.str (stripD s), .int .u8 58] = some (.sl 1 (strsA (splitB 58 (stripD s)))) := if_pos ⟨by omega, by omega, by omega⟩
  simp -implicitDefEqProofs [c_spec_DParts, acall, h27, k27, h54, k54]
end Wax

/- FnDWords (2): numbers. -/
namespace Wax
open Go (IntKind)

def con_Unix : List AV → Option AV
  | [.int .i64 n] => some (.agg [.int .i64 n, .bool true])
  | _ => none

theorem ok_Unix (Γ : Gam) : ∀ args r, con_Unix args = some r → runs Γ c_dkim_Unix args (fun v => v = r) := by
  intro args r h
  simp only [con_Unix] at h
  split at h <;> (try simp at h; done)
  simp only [Option.some.injEq] at h
  subst h
  simp -implicitDefEqProofs [c_dkim_Unix]

def timeV : Go.Lib.NumEnd Int → AV
  | .ok v => .tup [.agg [.int .i64 v, .bool true], .nilI]
  | _ => .tup [.agg [.int .i64 0, .bool false], .ifc 4 .junk]

def con_parseTime : List AV → Option AV
  | [.str s] => if s.length < mid ∧ ascii s = true then some (timeV (Go.Lib.atoiAll (stripS s))) else none
  | _ => none

theorem ok_parseTime (Γ : Gam) (h26 : Γ.fn 26 = con_stripWhitespace) (h61 : Γ.fn 61 = con_ParseInt) (h62 : Γ.fn 62 = con_Unix) : ∀ args r, con_parseTime args = some r → runs Γ c_dkim_parseTime args (fun v => v = r) := by
  intro args r h
  simp only [con_parseTime] at h
  split at h <;> (try simp at h; done)
  rename_i s
  obtain ⟨⟨hs, ha⟩, rfl⟩ := ite_some h
  clear h
  have k26 : con_stripWhitespace [.str s] = some (.str (stripS s)) := if_pos ⟨hs, ha⟩
  have hl := stripS_length s
  have k61 : con_ParseInt [.str (stripS s), .int .i64 10, .int .i64 64] = some (numV (Go.Lib.atoiAll (stripS s))) := if_pos ⟨by omega, rfl, rfl⟩
  generalize Go.Lib.atoiAll (stripS s) = e at *
  cases e with
  | ok v => simp -implicitDefEqProofs [c_dkim_parseTime, acall, h26, k26, h61, k61, numV, timeV, h62, con_Unix]
  | _ => simp -implicitDefEqProofs [c_dkim_parseTime, acall, h26, k26, h61, k61, numV, timeV]

theorem ok_Number (Γ : Gam) (h63 : Γ.fn 63 = con_parseTime) : ∀ args r, con_parseTime args = some r → runs Γ c_dkim_Number args (fun v => v = r) := by
  intro args r h
  have h' := h
  simp only [con_parseTime] at h
  split at h <;> (try simp at h; done)
  rename_i s
  obtain ⟨_, rfl⟩ := ite_some h
  clear h
  generalize Go.Lib.atoiAll (stripS s) = e at *
  cases e <;> simp only [timeV] at h' <;> simp -implicitDefEqProofs [c_dkim_Number, acall, h63, h', timeV]

def con_TimeUnix : List AV → Option AV
  | [.agg [.int .i64 n, .bool b]] => some (.int .i64 n)
  | _ => none

theorem ok_TimeUnix (Γ : Gam) : ∀ args r, con_TimeUnix args = some r → runs Γ c_dkim_Time_Unix args (fun v => v = r) := by
  intro args r h
  simp only [con_TimeUnix] at h
  split at h <;> (try simp at h; done)
  simp only [Option.some.injEq] at h
  subst h
  simp -implicitDefEqProofs [c_dkim_Time_Unix]

def wholeV : Option Int → AV
  | some v => .tup [.int .i64 v, .bool true]
  | none => .tup [.int .i64 0, .bool false]

def endO : Go.Lib.NumEnd Int → Option Int
  | .ok v => some v
  | _ => none

def con_DNumber : List AV → Option AV
  | [.str s] => if s.length < mid ∧ ascii s = true then some (wholeV (endO (Go.Lib.atoiAll (stripS s)))) else none
  | _ => none

theorem ok_DNumber (Γ : Gam) (h64 : Γ.fn 64 = con_parseTime) (h65 : Γ.fn 65 = con_TimeUnix) : ∀ args r, con_DNumber args = some r → runs Γ c_impl_DNumber args (fun v => v = r) := by
  intro args r h
  simp only [con_DNumber] at h
  split at h <;> (try simp at h; done)
  rename_i s
  obtain ⟨hh, rfl⟩ := ite_some h
  clear h
  have k64 : con_parseTime [.str s] = some (timeV (Go.Lib.atoiAll (stripS s))) := if_pos hh
  generalize Go.Lib.atoiAll (stripS s) = e at *
  cases e <;> simp only [timeV] at k64 <;> simp -implicitDefEqProofs [c_impl_DNumber, acall, h64, k64, endO, wholeV, h65, con_TimeUnix]

/-! ### the reference's reading of a number -/

def wloop (n : Nat) : List UInt8 → Option Nat
  | [] => some n
  | c :: r => if 48 ≤ c.toNat ∧ c.toNat ≤ 57 ∧ n ≤ (9223372036854775808 - (c.toNat - 48)) / 10 then wloop (n * 10 + (c.toNat - 48)) r else none

def signOff (t : List UInt8) : List UInt8 := match t with
  | [] => []
  | c :: r => if c.toNat = 45 ∨ c.toNat = 43 then r else c :: r
def minusB (t : List UInt8) : Bool := match t with
  | [] => false
  | c :: _ => decide (c.toNat = 45)

def wholeS (t : List UInt8) : Option Int := match wloop 0 (signOff t) with
  | none => none
  | some n => if signOff t = [] ∨ (minusB t = false ∧ n = 9223372036854775808) then none else some (if minusB t = true then -(n : Int) else n)

theorem parse_ge : ∀ (l : List UInt8) (acc u : Nat), Go.Lib.parseUint10 acc l = .ok u → acc ≤ u
  | [], acc, u, h => by simp only [Go.Lib.parseUint10] at h; injection h with h; omega
  | c :: r, acc, u, h => by
    simp only [Go.Lib.parseUint10] at h
    split at h
    · split at h
      · cases h
      · split at h
        · cases h
        · have := parse_ge r _ u h; omega
    · cases h

theorem wloop_spec : ∀ (l : List UInt8) (acc : Nat), acc ≤ 9223372036854775808 → (∀ u, wloop acc l = some u ↔ (Go.Lib.parseUint10 acc l = .ok u ∧ u ≤ 9223372036854775808))
  | [], acc, ha, u => by
    simp only [wloop, Go.Lib.parseUint10, Option.some.injEq, Go.Lib.NumEnd.ok.injEq]
    constructor
    · rintro rfl; exact ⟨rfl, ha⟩
    · exact fun h => h.1
  | c :: r, acc, ha, u => by
    simp only [wloop, Go.Lib.parseUint10]
    by_cases hd : 48 ≤ c.toNat ∧ c.toNat ≤ 57
    · rw [if_pos hd]
      by_cases hn : acc ≤ (9223372036854775808 - (c.toNat - 48)) / 10
      · have h1 : acc * 10 + (c.toNat - 48) ≤ 9223372036854775808 := by omega
        rw [if_pos ⟨hd.1, hd.2, hn⟩, if_neg (by omega), if_neg (by omega)]
        exact wloop_spec r _ h1 u
      · rw [if_neg (fun h => hn h.2.2)]
        constructor
        · intro h; simp at h
        · rintro ⟨h, hu⟩
          split at h
          · cases h
          · split at h
            · cases h
            · have := parse_ge r _ u h; omega
    · rw [if_neg hd, if_neg (fun h => hd ⟨h.1, h.2.1⟩)]
      simp

theorem wloop_le {l : List UInt8} {u : Nat} (h : wloop 0 l = some u) : u ≤ 9223372036854775808 := ((wloop_spec l 0 (by omega) u).1 h).2

theorem whole_law (t : List UInt8) : wholeS t = endO (Go.Lib.atoiAll t) := by
  cases t with
  | nil => simp [wholeS, wloop, signOff, Go.Lib.atoiAll, endO]
  | cons c r =>
    simp only [wholeS, Go.Lib.atoiAll, Go.Lib.parseMag]
    have e : (if c.toNat = 43 ∨ c.toNat = 45 then r else c :: r) = signOff (c :: r) := by
      simp only [signOff]
      by_cases h : c.toNat = 43 ∨ c.toNat = 45
      · rw [if_pos h, if_pos h.symm]
      · rw [if_neg h, if_neg (fun g => h g.symm)]
    rw [e]
    have hm : minusB (c :: r) = decide (c.toNat = 45) := rfl
    rw [hm]
    generalize signOff (c :: r) = l
    have W := wloop_spec l 0 (by omega)
    by_cases hl : l = []
    · subst hl; simp [wloop, endO]
    · simp only [hl, if_false, false_or]
      cases hw : wloop 0 l with
      | none =>
        simp only
        cases hp : Go.Lib.parseUint10 0 l with
        | ok u =>
          have hu : ¬ u ≤ 9223372036854775808 := fun h => by rw [(W u).2 ⟨hp, h⟩] at hw; simp at hw
          simp only
          by_cases hc : c.toNat = 45
          · rw [if_neg (fun h => h.1 hc), if_pos ⟨hc, by omega⟩]; rfl
          · rw [if_pos ⟨hc, by omega⟩]; rfl
        | _ => rfl
      | some u =>
        obtain ⟨hp, hu⟩ := (W u).1 hw
        simp only [hp]
        by_cases hc : c.toNat = 45
        · have h1 : ¬ (9223372036854775808 < u) := by omega
          simp [hc, h1, endO]
        · by_cases h2 : u = 9223372036854775808
          · simp [hc, h2, endO]
          · have h3 : ¬ 9223372036854775808 ≤ u := by omega
            simp [hc, h2, h3, endO]
end Wax

