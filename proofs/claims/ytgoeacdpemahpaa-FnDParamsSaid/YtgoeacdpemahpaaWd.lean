/- The machine by which the functions are read, and what is proved of them (part 4): no premise. -/
import Derived.Test.YtgoeacdpemahpaaWc
/- Functions as the abstract machine has them. -/
namespace Wax
open Go (IntKind)

/- spec.DSplit -/
def b_spec_DSplit_1 : SCode :=
  (.block 1
    (.seq
      (.region [
        ⟨some 10, .mv (.t 0), none⟩,
        ⟨some 11, .mv (.t 1), none⟩,
        ⟨some 12, .call 2 [(.t 10), (.t 11)], none⟩,
        ⟨some 9, .mv (.t 12), none⟩,
        ⟨some 13, .extr (.t 9) 0, none⟩,
        ⟨some 14, .extr (.t 9) 1, none⟩,
        ⟨some 15, .extr (.t 9) 2, none⟩,
        ⟨some 6, .mv (.t 13), none⟩,
        ⟨some 7, .mv (.t 14), none⟩,
        ⟨some 8, .mv (.t 15), none⟩] [1, 5, 6, 7, 8] [] [[0], [], [10, 11], [12], [], [], [9], [13], [14]])
      (.seq
        (.region [
          ⟨some 16, .mv (.t 5), none⟩,
          ⟨some 17, .mv (.t 6), none⟩,
          ⟨some 18, .mkSl 1 1 [(.str [])] [(0, (.t 17))], none⟩,
          ⟨some 19, .app 1 16 (.t 16) (.t 18), none⟩,
          ⟨some 5, .mv (.t 19), none⟩] [1, 5, 7, 8] [18] [[], [6], [17], [16, 18]])
        (.seq
          (.seq
            (.region [
              ⟨some 20, .mv (.t 8), none⟩,
              ⟨some 21, .un .not (.t 20), none⟩] [1, 5, 7, 21] [] [[8]])
            (.cond (.t 21)
              (.seq
                (.region [
                  ⟨some 22, .mv (.t 5), none⟩,
                  ⟨some 4, .mv (.t 22), none⟩] [4] [] [[5]])
                .ret)
              .skip))
          (.region [
            ⟨some 23, .mv (.t 7), none⟩,
            ⟨some 0, .mv (.t 23), none⟩] [0, 1, 5] [] [[7]])))))

def c_spec_DSplit : SFn := ⟨2,
    (.seq
      (.region [
        ⟨some 4, .mv (.k .nilS), none⟩] [0, 1] [] [])
      (.seq
        (.region [
          ⟨some 5, .mv (.k .nilS), none⟩] [0, 1, 5] [] [])
        (.block 0
          (.loop [0, 1, 5]
            b_spec_DSplit_1)))),
  [.t 4]⟩

def l_spec_DSplit : Lay := { rg := [(0, ([0, 1], [])), (1, ([0, 1, 5], [])), (2, ([1, 5, 6, 7, 8], [])), (3, ([1, 5, 7, 8], [18])), (4, ([1, 5, 7, 21], [])), (5, ([4], [])), (6, ([0, 1, 5], [])), (1000002, ([0, 1, 5], []))], dd := [(2, [[0], [], [10, 11], [12], [], [], [9], [13], [14]]), (3, [[], [6], [17], [16, 18]]), (4, [[8]]), (5, [[5]]), (6, [[7]])] }

/- laws.dSamePairs -/
def b_laws_dSamePairs_1 : SCode :=
  (.seq
    (.seq
      (.region [
        ⟨some 11, .mv (.t 5), none⟩,
        ⟨some 12, .mv (.t 0), none⟩,
        ⟨some 13, .len 1 (.t 12), none⟩,
        ⟨some 14, .bin .lss (.t 11) (.t 13), none⟩] [0, 1, 5, 14] [] [[], [], [12]])
      (.cond (.t 14)
        .skip
        (.exit 0)))
    (.seq
      (.block 1
        (.seq
          (.region [
            ⟨some 17, .mv (.t 0), none⟩,
            ⟨some 18, .mv (.t 5), none⟩,
            ⟨some 19, .iAddr 2 (.t 17) (.t 18), none⟩,
            ⟨some 20, .load (some 2) (.t 19), none⟩,
            ⟨some 21, .mv (.t 1), none⟩,
            ⟨some 22, .mv (.t 5), none⟩,
            ⟨some 23, .iAddr 2 (.t 21) (.t 22), none⟩,
            ⟨some 24, .load (some 2) (.t 23), none⟩,
            ⟨some 25, .eqA true [2, 2] (.t 20) (.t 24), none⟩] [0, 1, 5, 25] [] [])
          (.cond (.t 25)
            (.seq
              (.region [
                ⟨some 4, .mv (.k (.bool false)), none⟩] [4] [] [])
              .ret)
            .skip)))
      (.region [
        ⟨some 15, .mv (.t 5), none⟩,
        ⟨some 16, .bin .add (.t 15) (.k (.int .i64 1)), none⟩,
        ⟨some 5, .mv (.t 16), none⟩] [0, 1, 5] [] [[], [15]])))

def t_laws_dSamePairs_2 : SCode :=
  (.seq
    (.region [
      ⟨some 4, .mv (.k (.bool true)), none⟩] [4] [] [])
    .ret)

def c_laws_dSamePairs : SFn := ⟨2,
    (.seq
      (.region [
        ⟨some 4, .mv (.k (.bool false)), none⟩] [0, 1] [] [])
      (.seq
        (.seq
          (.region [
            ⟨some 6, .mv (.t 0), none⟩,
            ⟨some 7, .len 1 (.t 6), none⟩,
            ⟨some 8, .mv (.t 1), none⟩,
            ⟨some 9, .len 1 (.t 8), none⟩,
            ⟨some 10, .bin .neq (.t 7) (.t 9), none⟩] [0, 1, 10] [] [[], [6], [], [8]])
          (.cond (.t 10)
            (.seq
              (.region [
                ⟨some 4, .mv (.k (.bool false)), none⟩] [4] [] [])
              .ret)
            .skip))
        (.seq
          (.seq
            (.region [
              ⟨some 5, .mv (.k (.int .i64 0)), none⟩] [0, 1, 5] [] [])
            (.block 0
              (.loop [0, 1, 5]
                b_laws_dSamePairs_1)))
          t_laws_dSamePairs_2))),
  [.t 4]⟩

def l_laws_dSamePairs : Lay := { rg := [(0, ([0, 1], [])), (1, ([0, 1, 10], [])), (2, ([4], [])), (3, ([0, 1, 5], [])), (4, ([0, 1, 5, 14], [])), (5, ([0, 1, 5], [])), (6, ([0, 1, 5, 25], [])), (7, ([4], [])), (8, ([4], [])), (1000004, ([0, 1, 5], []))], dd := [(1, [[], [6], [], [8]]), (4, [[], [], [12]]), (5, [[], [15]])] }

/- impl.DParams -/
def c_impl_DParams : SFn := ⟨1,
    (.seq
      (.region [
        ⟨some 2, .mv (.k .nilS), none⟩,
        ⟨some 3, .mv (.k (.bool false)), none⟩] [0] [] [[2]])
      (.seq
        (.region [
          ⟨some 7, .mv (.t 0), none⟩,
          ⟨some 8, .call 45 [(.t 7)], none⟩,
          ⟨some 6, .mv (.t 8), none⟩,
          ⟨some 9, .extr (.t 6) 0, none⟩,
          ⟨some 10, .extr (.t 6) 1, none⟩,
          ⟨some 4, .mv (.t 9), none⟩,
          ⟨some 5, .mv (.t 10), none⟩] [4, 5] [] [[0], [7], [8], [], [6], [9]])
        (.seq
          (.seq
            (.region [
              ⟨some 11, .mv (.t 5), none⟩,
              ⟨some 12, .isNil 0 true (.t 11), none⟩] [4, 12] [] [[5]])
            (.cond (.t 12)
              (.seq
                (.region [
                  ⟨some 2, .mv (.k .nilS), none⟩,
                  ⟨some 3, .mv (.k (.bool false)), none⟩] [2, 3] [] [])
                .ret)
              .skip))
          (.seq
            (.region [
              ⟨some 13, .mv (.t 4), none⟩,
              ⟨some 14, .call 46 [(.t 13)], none⟩,
              ⟨some 2, .mv (.t 14), none⟩,
              ⟨some 3, .mv (.k (.bool true)), none⟩] [2, 3] [] [[4], [13], [14]])
            .ret)))),
  [.t 2, .t 3]⟩

def l_impl_DParams : Lay := { rg := [(0, ([0], [])), (1, ([4, 5], [])), (2, ([4, 12], [])), (3, ([2, 3], [])), (4, ([2, 3], []))], dd := [(0, [[2]]), (1, [[0], [7], [8], [], [6], [9]]), (2, [[5]]), (4, [[4], [13], [14]])] }

/- impl.pairsOf -/
def b_impl_pairsOf_1 : SCode :=
  (.seq
    (.region [
      ⟨some 9, .bin .lss (.t 8) (.t 7), none⟩] [3, 6, 7, 8, 9] [] [])
    (.seq
      (.cond (.t 9)
        .skip
        (.exit 0))
      (.seq
        (.block 1
          (.seq
            (.region [
              ⟨some 10, .iAddr 2 (.t 6) (.t 8), none⟩,
              ⟨some 11, .load (some 2) (.t 10), none⟩,
              ⟨some 5, .alloc [(.str []), (.str [])], none⟩,
              ⟨none, .store 2 (.t 5) (.t 11), none⟩] [3, 5, 6, 7, 8] [] [[], [10]])
            (.region [
              ⟨some 12, .mv (.t 3), none⟩,
              ⟨some 13, .iAddrA 2 1 (.t 5) (.k (.int .i64 0)), none⟩,
              ⟨some 14, .load none (.t 13), none⟩,
              ⟨some 15, .iAddrA 2 1 (.t 5) (.k (.int .i64 1)), none⟩,
              ⟨some 16, .load none (.t 15), none⟩,
              ⟨some 17, .agg [(.str []), (.str [])] [(0, 1, (.t 14)), (1, 1, (.t 16))], none⟩,
              ⟨some 18, .mkSl 2 1 [(.str []), (.str [])] [(0, (.t 17))], none⟩,
              ⟨some 19, .app 2 32 (.t 12) (.t 18), none⟩,
              ⟨some 3, .mv (.t 19), none⟩] [3, 6, 7, 8] [5, 18] [[], [], [13], [5], [15], [14, 16], [17], [12, 18]])))
        (.region [
          ⟨some 20, .bin .add (.t 8) (.k (.int .i64 1)), none⟩,
          ⟨some 8, .mv (.t 20), none⟩] [3, 6, 7, 8] [] []))))

def t_impl_pairsOf_2 : SCode :=
  (.seq
    (.region [
      ⟨some 21, .mv (.t 3), none⟩,
      ⟨some 2, .mv (.t 21), none⟩] [2] [] [[3]])
    .ret)

def c_impl_pairsOf : SFn := ⟨1,
    (.seq
      (.region [
        ⟨some 2, .mv (.k .nilS), none⟩] [0] [] [])
      (.seq
        (.region [
          ⟨some 3, .mv (.k .nilS), none⟩] [0, 3] [] [])
        (.seq
          (.seq
            (.region [
              ⟨some 6, .mv (.t 0), none⟩,
              ⟨some 7, .len 1 (.t 6), none⟩,
              ⟨some 8, .mv (.k (.int .i64 0)), none⟩] [3, 6, 7, 8] [] [[0]])
            (.block 0
              (.loop [3, 6, 7, 8]
                b_impl_pairsOf_1)))
          t_impl_pairsOf_2))),
  [.t 2]⟩

def l_impl_pairsOf : Lay := { rg := [(0, ([0], [])), (1, ([0, 3], [])), (2, ([3, 6, 7, 8], [])), (3, ([3, 6, 7, 8, 9], [])), (4, ([3, 5, 6, 7, 8], [])), (5, ([3, 6, 7, 8], [5, 18])), (6, ([3, 6, 7, 8], [])), (7, ([2], [])), (1000003, ([3, 6, 7, 8], []))], dd := [(2, [[0]]), (4, [[], [10]]), (5, [[], [], [13], [5], [15], [14, 16], [17], [12, 18]]), (7, [[3]])] }

/- dkim.Params -/
def b_dkim_Params_1 : SCode :=
  (.seq
    (.region [
      ⟨some 22, .bin .lss (.t 21) (.t 20), none⟩] [4, 6, 19, 20, 21, 22] [] [])
    (.seq
      (.cond (.t 22)
        .skip
        (.exit 0))
      (.seq
        (.block 1
          (.seq
            (.region [
              ⟨some 23, .iAddr 1 (.t 19) (.t 21), none⟩,
              ⟨some 24, .load none (.t 23), none⟩,
              ⟨some 8, .mv (.t 24), none⟩] [4, 6, 8, 19, 20, 21] [] [[], [23]])
            (.region [
              ⟨some 25, .mv (.t 6), none⟩,
              ⟨some 26, .mv (.t 8), none⟩,
              ⟨some 27, .mv (.t 4), none⟩,
              ⟨some 28, .mv (.t 8), none⟩,
              ⟨some 29, .look (.str []) false (.t 27) (.t 28), none⟩,
              ⟨some 30, .agg [(.str []), (.str [])] [(0, 1, (.t 26)), (1, 1, (.t 29))], none⟩,
              ⟨some 31, .mkSl 2 1 [(.str []), (.str [])] [(0, (.t 30))], none⟩,
              ⟨some 32, .app 2 32 (.t 25) (.t 31), none⟩,
              ⟨some 6, .mv (.t 32), none⟩] [4, 6, 19, 20, 21] [31] [[], [], [], [8], [27, 28], [26, 29], [30], [25, 31]])))
        (.region [
          ⟨some 33, .bin .add (.t 21) (.k (.int .i64 1)), none⟩,
          ⟨some 21, .mv (.t 33), none⟩] [4, 6, 19, 20, 21] [] []))))

def t_dkim_Params_2 : SCode :=
  (.seq
    (.region [
      ⟨some 34, .mv (.t 6), none⟩,
      ⟨some 2, .mv (.t 34), none⟩,
      ⟨some 3, .mv (.k .nilI), none⟩] [2, 3] [] [[6], [34]])
    .ret)

def c_dkim_Params : SFn := ⟨1,
    (.seq
      (.region [
        ⟨some 2, .mv (.k .nilS), none⟩,
        ⟨some 3, .mv (.k .nilI), none⟩] [0] [] [[2]])
      (.seq
        (.region [
          ⟨some 10, .mv (.t 0), none⟩,
          ⟨some 11, .call 47 [(.t 10)], none⟩,
          ⟨some 9, .mv (.t 11), none⟩,
          ⟨some 12, .extr (.t 9) 0, none⟩,
          ⟨some 13, .extr (.t 9) 1, none⟩,
          ⟨some 4, .mv (.t 12), none⟩,
          ⟨some 5, .mv (.t 13), none⟩] [4, 5] [] [[0], [10], [11], [], [9], [12]])
        (.seq
          (.seq
            (.region [
              ⟨some 14, .mv (.t 5), none⟩,
              ⟨some 15, .isNil 0 true (.t 14), none⟩] [4, 5, 15] [] [])
            (.cond (.t 15)
              (.seq
                (.region [
                  ⟨some 16, .mv (.t 5), none⟩,
                  ⟨some 2, .mv (.k .nilS), none⟩,
                  ⟨some 3, .mv (.t 16), none⟩] [2, 3] [] [[5]])
                .ret)
              .skip))
          (.seq
            (.region [
              ⟨some 6, .mv (.k .nilS), none⟩] [4, 6] [] [])
            (.seq
              (.seq
                (.region [
                  ⟨some 17, .mv (.t 4), none⟩,
                  ⟨some 18, .call 48 [(.t 17)], none⟩,
                  ⟨some 19, .call 49 [(.t 18)], none⟩,
                  ⟨some 20, .len 1 (.t 19), none⟩,
                  ⟨some 21, .mv (.k (.int .i64 0)), none⟩] [4, 6, 19, 20, 21] [] [[], [17], [18]])
                (.block 0
                  (.loop [4, 6, 19, 20, 21]
                    b_dkim_Params_1)))
              t_dkim_Params_2))))),
  [.t 2, .t 3]⟩

def l_dkim_Params : Lay := { rg := [(0, ([0], [])), (1, ([4, 5], [])), (2, ([4, 5, 15], [])), (3, ([2, 3], [])), (4, ([4, 6], [])), (5, ([4, 6, 19, 20, 21], [])), (6, ([4, 6, 19, 20, 21, 22], [])), (7, ([4, 6, 8, 19, 20, 21], [])), (8, ([4, 6, 19, 20, 21], [31])), (9, ([4, 6, 19, 20, 21], [])), (10, ([2, 3], [])), (1000006, ([4, 6, 19, 20, 21], []))], dd := [(0, [[2]]), (1, [[0], [10], [11], [], [9], [12]]), (3, [[5]]), (5, [[], [17], [18]]), (7, [[], [23]]), (8, [[], [], [], [8], [27, 28], [26, 29], [30], [25, 31]]), (10, [[6], [34]])] }

/- dkim.parseHeaderParams -/
def b_dkim_parseHeaderParams_1 : SCode :=
  (.seq
    (.region [
      ⟨some 20, .bin .lss (.t 19) (.t 18), none⟩] [5, 17, 18, 19, 20] [] [])
    (.seq
      (.cond (.t 20)
        .skip
        (.exit 0))
      (.seq
        (.block 1
          (.seq
            (.region [
              ⟨some 21, .iAddr 1 (.t 17) (.t 19), none⟩,
              ⟨some 22, .load none (.t 21), none⟩,
              ⟨some 7, .mv (.t 22), none⟩] [5, 7, 17, 18, 19] [] [[], [21]])
            (.seq
              (.region [
                ⟨some 24, .mv (.t 7), none⟩,
                ⟨some 25, .call 16 [(.t 24), (.k (.str [61]))], none⟩,
                ⟨some 23, .mv (.t 25), none⟩,
                ⟨some 26, .extr (.t 23) 0, none⟩,
                ⟨some 27, .extr (.t 23) 1, none⟩,
                ⟨some 28, .extr (.t 23) 2, none⟩,
                ⟨some 8, .mv (.t 26), none⟩,
                ⟨some 9, .mv (.t 27), none⟩,
                ⟨some 10, .mv (.t 28), none⟩] [5, 7, 8, 9, 10, 17, 18, 19] [] [[], [24], [25], [], [], [23], [26], [27]])
              (.seq
                (.seq
                  (.region [
                    ⟨some 29, .mv (.t 10), none⟩,
                    ⟨some 30, .un .not (.t 29), none⟩] [5, 7, 8, 9, 17, 18, 19, 30] [] [[10]])
                  (.cond (.t 30)
                    (.seq
                      (.seq
                        (.region [
                          ⟨some 31, .mv (.t 7), none⟩,
                          ⟨some 32, .call 18 [(.t 31)], none⟩,
                          ⟨some 33, .bin .eql (.t 32) (.k (.str [])), none⟩] [5, 17, 18, 19, 33] [] [[7], [31]])
                        (.cond (.t 33)
                          (.exit 1)
                          .skip))
                      (.seq
                        (.region [
                          ⟨some 34, .mv (.t 5), none⟩,
                          ⟨some 35, .call 50 [(.k (.str [100, 107, 105, 109, 58, 32, 109, 97, 108, 102, 111, 114, 109, 101, 100, 32, 104, 101, 97, 100, 101, 114, 32, 112, 97, 114, 97, 109, 115]))], none⟩,
                          ⟨some 2, .mv (.t 34), none⟩,
                          ⟨some 3, .mv (.t 35), none⟩] [2, 3] [15, 100015] [[5], [], [34]])
                        .ret))
                    .skip))
                (.seq
                  (.region [
                    ⟨some 36, .mv (.t 8), none⟩,
                    ⟨some 37, .call 18 [(.t 36)], none⟩,
                    ⟨some 11, .mv (.t 37), none⟩] [5, 9, 11, 17, 18, 19] [] [[8], [36]])
                  (.seq
                    (.region [
                      ⟨some 39, .mv (.t 5), none⟩,
                      ⟨some 40, .mv (.t 11), none⟩,
                      ⟨some 41, .look (.str []) true (.t 39) (.t 40), none⟩,
                      ⟨some 38, .mv (.t 41), none⟩,
                      ⟨some 42, .extr (.t 38) 0, none⟩,
                      ⟨some 43, .extr (.t 38) 1, none⟩,
                      ⟨some 12, .mv (.t 42), none⟩,
                      ⟨some 13, .mv (.t 43), none⟩] [5, 9, 11, 13, 17, 18, 19] [] [[], [], [39, 40], [41], [], [38], [12, 42]])
                    (.seq
                      (.seq
                        (.region [
                          ⟨some 44, .mv (.t 13), none⟩] [5, 9, 11, 17, 18, 19, 44] [] [])
                        (.cond (.t 44)
                          (.seq
                            (.region [
                              ⟨some 45, .mv (.t 5), none⟩,
                              ⟨some 46, .call 50 [(.k (.str [100, 107, 105, 109, 58, 32, 100, 117, 112, 108, 105, 99, 97, 116, 101, 32, 116, 97, 103, 32, 110, 97, 109, 101]))], none⟩,
                              ⟨some 2, .mv (.t 45), none⟩,
                              ⟨some 3, .mv (.t 46), none⟩] [2, 3] [15, 100015] [[5], [], [45]])
                            .ret)
                          .skip))
                      (.region [
                        ⟨some 47, .mv (.t 5), none⟩,
                        ⟨some 48, .mv (.t 11), none⟩,
                        ⟨some 49, .mv (.t 9), none⟩,
                        ⟨some 50, .call 18 [(.t 49)], none⟩,
                        ⟨none, .mput (.t 47) (.t 48) (.t 50), none⟩] [5, 17, 18, 19] [] [[], [11], [9], [49]]))))))))
        (.region [
          ⟨some 51, .bin .add (.t 19) (.k (.int .i64 1)), none⟩,
          ⟨some 19, .mv (.t 51), none⟩] [5, 17, 18, 19] [] []))))

def t_dkim_parseHeaderParams_2 : SCode :=
  (.seq
    (.region [
      ⟨some 52, .mv (.t 5), none⟩,
      ⟨some 2, .mv (.t 52), none⟩,
      ⟨some 3, .mv (.k .nilI), none⟩] [2, 3] [15, 100015] [[5], [52]])
    .ret)

def c_dkim_parseHeaderParams : SFn := ⟨1,
    (.seq
      (.region [
        ⟨some 2, .mv (.k .nilM), none⟩,
        ⟨some 3, .mv (.k .nilI), none⟩] [0] [] [[2]])
      (.seq
        (.region [
          ⟨some 14, .mv (.t 0), none⟩,
          ⟨some 15, .callS 25 [(.t 14), (.k (.str [59]))], none⟩,
          ⟨some 4, .mv (.t 15), none⟩] [4] [] [[0], [14]])
        (.seq
          (.region [
            ⟨some 16, .mkMap, none⟩,
            ⟨some 5, .mv (.t 16), none⟩] [4, 5] [] [])
          (.seq
            (.seq
              (.region [
                ⟨some 17, .mv (.t 4), none⟩,
                ⟨some 18, .len 1 (.t 17), none⟩,
                ⟨some 19, .mv (.k (.int .i64 0)), none⟩] [5, 17, 18, 19] [] [[4]])
              (.block 0
                (.loop [5, 17, 18, 19]
                  b_dkim_parseHeaderParams_1)))
            t_dkim_parseHeaderParams_2)))),
  [.t 2, .t 3]⟩

def l_dkim_parseHeaderParams : Lay := { rg := [(0, ([0], [])), (1, ([4], [])), (2, ([4, 5], [])), (3, ([5, 17, 18, 19], [])), (4, ([5, 17, 18, 19, 20], [])), (5, ([5, 7, 17, 18, 19], [])), (6, ([5, 7, 8, 9, 10, 17, 18, 19], [])), (7, ([5, 7, 8, 9, 17, 18, 19, 30], [])), (8, ([5, 17, 18, 19, 33], [])), (9, ([2, 3], [15, 100015])), (10, ([5, 9, 11, 17, 18, 19], [])), (11, ([5, 9, 11, 13, 17, 18, 19], [])), (12, ([5, 9, 11, 17, 18, 19, 44], [])), (13, ([2, 3], [15, 100015])), (14, ([5, 17, 18, 19], [])), (15, ([5, 17, 18, 19], [])), (16, ([2, 3], [15, 100015])), (1000004, ([5, 17, 18, 19], []))], dd := [(0, [[2]]), (1, [[0], [14]]), (3, [[4]]), (5, [[], [21]]), (6, [[], [24], [25], [], [], [23], [26], [27]]), (7, [[10]]), (8, [[7], [31]]), (9, [[5], [], [34]]), (10, [[8], [36]]), (11, [[], [], [39, 40], [41], [], [38], [12, 42]]), (13, [[5], [], [45]]), (14, [[], [11], [9], [49]]), (16, [[5], [52]])], sf := [25] }

/- errors.New -/
def c_errors_New : SFn := ⟨1,
    (.seq
      (.region [
        ⟨some 2, .mv (.k .nilI), none⟩] [0] [] [])
      (.seq
        (.region [
          ⟨some 3, .mv (.t 0), none⟩,
          ⟨some 4, .agg [(.str [])] [(0, 1, (.t 3))], none⟩,
          ⟨some 5, .box (.t 4), none⟩,
          ⟨some 6, .mkIfc 3 (.t 5), none⟩,
          ⟨some 2, .mv (.t 6), none⟩] [2] [] [[0], [3], [4], [5]])
        .ret)),
  [.t 2]⟩

def l_errors_New : Lay := { rg := [(0, ([0], [])), (1, ([2], []))], dd := [(1, [[0], [3], [4], [5]])] }

/- laws.FnDParams -/
def c_laws_FnDParams : SFn := ⟨1,
    (.seq
      (.region [
        ⟨some 2, .mv (.k (.bool false)), none⟩] [0] [] [])
      (.seq
        (.seq
          (.region [
            ⟨some 9, .mv (.t 0), none⟩,
            ⟨some 10, .len 0 (.t 9), none⟩,
            ⟨some 11, .bin .gtr (.t 10) (.k (.int .i64 2147483647)), none⟩] [0, 11] [] [[], [9]])
          (.cond (.t 11)
            (.seq
              (.region [
                ⟨some 2, .mv (.k (.bool true)), none⟩] [2] [] [])
              .ret)
            .skip))
        (.seq
          (.seq
            (.region [
              ⟨some 12, .mv (.t 0), none⟩,
              ⟨some 13, .mkSl 1 1 [(.str [])] [(0, (.t 12))], none⟩,
              ⟨some 14, .call 10 [(.k (.int .i64 2000)), (.t 13)], none⟩,
              ⟨some 15, .un .not (.t 14), none⟩] [0, 15] [13] [[], [12], [13]])
            (.cond (.t 15)
              (.seq
                (.region [
                  ⟨some 16, .call 11 [], none⟩,
                  ⟨some 2, .mv (.t 16), none⟩] [2] [] [])
                .ret)
              .skip))
          (.seq
            (.region [
              ⟨some 18, .mv (.t 0), none⟩,
              ⟨some 19, .call 51 [(.t 18)], none⟩,
              ⟨some 17, .mv (.t 19), none⟩,
              ⟨some 20, .extr (.t 17) 0, none⟩,
              ⟨some 21, .extr (.t 17) 1, none⟩,
              ⟨some 3, .mv (.t 20), none⟩,
              ⟨some 4, .mv (.t 21), none⟩] [0, 3, 4] [] [[], [18], [19], [], [17], [20]])
            (.seq
              (.region [
                ⟨some 23, .mv (.t 0), none⟩,
                ⟨some 24, .call 52 [(.t 23)], none⟩,
                ⟨some 22, .mv (.t 24), none⟩,
                ⟨some 25, .extr (.t 22) 0, none⟩,
                ⟨some 26, .extr (.t 22) 1, none⟩,
                ⟨some 5, .mv (.t 25), none⟩,
                ⟨some 6, .mv (.t 26), none⟩] [3, 4, 5, 6] [] [[0], [23], [24], [], [22], [25]])
              (.seq
                (.region [
                  ⟨some 28, .call 51 [(.k (.str [97, 61, 98, 59, 32, 99, 61, 100, 59]))], none⟩,
                  ⟨some 27, .mv (.t 28), none⟩,
                  ⟨some 29, .extr (.t 27) 0, none⟩,
                  ⟨some 30, .extr (.t 27) 1, none⟩,
                  ⟨some 7, .mv (.t 29), none⟩,
                  ⟨some 8, .mv (.t 30), none⟩] [3, 4, 5, 6, 7, 8] [] [[], [28], [], [27], [29]])
                (.seq
                  (.region [
                    ⟨some 31, .mv (.t 4), none⟩,
                    ⟨some 32, .mv (.t 6), none⟩,
                    ⟨some 33, .eqB false (.t 31) (.t 32), none⟩,
                    ⟨some 34, .mv (.t 33), none⟩,
                    ⟨some 35, .mv (.t 4), some (34, true)⟩,
                    ⟨some 36, .un .not (.t 35), some (34, true)⟩,
                    ⟨some 37, .mv (.t 36), some (34, true)⟩,
                    ⟨some 38, .mv (.t 3), some (37, false)⟩,
                    ⟨some 39, .mv (.t 5), some (37, false)⟩,
                    ⟨some 40, .call 53 [(.t 38), (.t 39)], some (37, false)⟩,
                    ⟨some 41, .pick (.t 37) (.k (.bool true)) (.t 40), some (34, true)⟩,
                    ⟨some 42, .pick (.t 34) (.t 41) (.k (.bool false)), none⟩,
                    ⟨some 43, .mv (.t 42), none⟩,
                    ⟨some 44, .mv (.t 8), some (43, true)⟩,
                    ⟨some 45, .pick (.t 43) (.t 44) (.k (.bool false)), none⟩,
                    ⟨some 46, .mv (.t 45), none⟩,
                    ⟨some 47, .mv (.t 7), some (46, true)⟩,
                    ⟨some 48, .len 1 (.t 47), some (46, true)⟩,
                    ⟨some 49, .bin .eql (.t 48) (.k (.int .i64 2)), some (46, true)⟩,
                    ⟨some 50, .pick (.t 46) (.t 49) (.k (.bool false)), none⟩,
                    ⟨some 2, .mv (.t 50), none⟩] [2] [] [[], [6], [31, 32], [33], [4], [35], [36], [3], [5], [38, 39], [37, 40], [34, 41], [42], [8], [43, 44], [45], [7], [47], [48], [46, 49]])
                  .ret))))))),
  [.t 2]⟩

def l_laws_FnDParams : Lay := { rg := [(0, ([0], [])), (1, ([0, 11], [])), (2, ([2], [])), (3, ([0, 15], [13])), (4, ([2], [])), (5, ([0, 3, 4], [])), (6, ([3, 4, 5, 6], [])), (7, ([3, 4, 5, 6, 7, 8], [])), (8, ([2], []))], dd := [(1, [[], [9]]), (3, [[], [12], [13]]), (5, [[], [18], [19], [], [17], [20]]), (6, [[0], [23], [24], [], [22], [25]]), (7, [[], [28], [], [27], [29]]), (8, [[], [6], [31, 32], [33], [4], [35], [36], [3], [5], [38, 39], [37, 40], [34, 41], [42], [8], [43, 44], [45], [7], [47], [48], [46, 49]])] }

/- spec.DTags -/
def b_spec_DTags_1 : SCode :=
  (.seq
    (.seq
      (.region [
        ⟨some 35, .mv (.t 11), none⟩,
        ⟨some 36, .mv (.t 4), none⟩,
        ⟨some 37, .len 1 (.t 36), none⟩,
        ⟨some 38, .bin .lss (.t 35) (.t 37), none⟩,
        ⟨some 39, .mv (.t 38), none⟩,
        ⟨some 40, .mv (.t 4), some (39, true)⟩,
        ⟨some 41, .mv (.t 11), some (39, true)⟩,
        ⟨some 42, .iAddr 2 (.t 40) (.t 41), some (39, true)⟩,
        ⟨some 43, .fAddr 0 (.t 42), some (39, true)⟩,
        ⟨some 44, .load none (.t 43), some (39, true)⟩,
        ⟨some 45, .fAddr 0 (.t 10), some (39, true)⟩,
        ⟨some 46, .load none (.t 45), some (39, true)⟩,
        ⟨some 47, .bin .lss (.t 44) (.t 46), some (39, true)⟩,
        ⟨some 48, .pick (.t 39) (.t 47) (.k (.bool false)), none⟩] [4, 10, 11, 13, 14, 15, 48] [] [])
      (.cond (.t 48)
        .skip
        (.exit 2)))
    (.block 3
      (.region [
        ⟨some 49, .mv (.t 11), none⟩,
        ⟨some 50, .bin .add (.t 49) (.k (.int .i64 1)), none⟩,
        ⟨some 11, .mv (.t 50), none⟩] [4, 10, 11, 13, 14, 15] [] [[], [49]])))

def t_spec_DTags_2 : SCode :=
  (.seq
    (.seq
      (.region [
        ⟨some 51, .mv (.t 11), none⟩,
        ⟨some 52, .mv (.t 4), none⟩,
        ⟨some 53, .len 1 (.t 52), none⟩,
        ⟨some 54, .bin .lss (.t 51) (.t 53), none⟩,
        ⟨some 55, .mv (.t 54), none⟩,
        ⟨some 56, .mv (.t 4), some (55, true)⟩,
        ⟨some 57, .mv (.t 11), some (55, true)⟩,
        ⟨some 58, .iAddr 2 (.t 56) (.t 57), some (55, true)⟩,
        ⟨some 59, .fAddr 0 (.t 58), some (55, true)⟩,
        ⟨some 60, .load none (.t 59), some (55, true)⟩,
        ⟨some 61, .fAddr 0 (.t 10), some (55, true)⟩,
        ⟨some 62, .load none (.t 61), some (55, true)⟩,
        ⟨some 63, .bin .eql (.t 60) (.t 62), some (55, true)⟩,
        ⟨some 64, .pick (.t 55) (.t 63) (.k (.bool false)), none⟩] [4, 10, 11, 13, 14, 15, 64] [] [])
      (.cond (.t 64)
        (.seq
          (.region [
            ⟨some 2, .mv (.k .nilS), none⟩,
            ⟨some 3, .mv (.k (.bool false)), none⟩] [2, 3] [] [])
          .ret)
        .skip))
    (.seq
    (.region [
      ⟨some 65, .mkSl 2 0 [(.str []), (.str [])] [], none⟩,
      ⟨some 66, .fl (.mv (.t 4)), none⟩,
      ⟨some 67, .fl (.mv (.t 11)), none⟩,
      ⟨some 68, .fl (.slSl 2 (.t 66) none (some (.t 67))), none⟩,
      ⟨some 69, .app 2 32 (.t 65) (.t 68), none⟩,
      ⟨some 70, .fl (.load (some 2) (.t 10)), none⟩,
      ⟨some 71, .fl (.mkSlF 2 1 [(.str []), (.str [])] [(0, (.t 70))]), none⟩,
      ⟨some 72, .app 2 32 (.t 69) (.t 71), none⟩,
      ⟨some 73, .fl (.mv (.t 4)), none⟩,
      ⟨some 74, .fl (.mv (.t 11)), none⟩,
      ⟨some 75, .fl (.slSl 2 (.t 73) (some (.t 74)) none), none⟩,
      ⟨some 76, .app 2 32 (.t 72) (.t 75), none⟩,
      ⟨some 4, .mv (.t 76), none⟩] [4, 13, 14, 15] [] [])
    (.ghost [.frz 72, .frz 76])))

def t_spec_DTags_3 : SCode :=
  (.region [
    ⟨some 77, .bin .add (.t 15) (.k (.int .i64 1)), none⟩,
    ⟨some 15, .mv (.t 77), none⟩] [4, 13, 14, 15] [] [])

def b_spec_DTags_4 : SCode :=
  (.seq
    (.region [
      ⟨some 16, .bin .lss (.t 15) (.t 14), none⟩] [4, 13, 14, 15, 16] [] [])
    (.seq
      (.cond (.t 16)
        .skip
        (.exit 0))
      (.seq
        (.block 1
          (.seq
            (.region [
              ⟨some 17, .iAddr 1 (.t 13) (.t 15), none⟩,
              ⟨some 18, .load none (.t 17), none⟩,
              ⟨some 6, .mv (.t 18), none⟩] [4, 6, 13, 14, 15] [] [[], [17]])
            (.seq
              (.region [
                ⟨some 20, .mv (.t 6), none⟩,
                ⟨some 21, .call 2 [(.t 20), (.k (.int .u8 61))], none⟩,
                ⟨some 19, .mv (.t 21), none⟩,
                ⟨some 22, .extr (.t 19) 0, none⟩,
                ⟨some 23, .extr (.t 19) 1, none⟩,
                ⟨some 24, .extr (.t 19) 2, none⟩,
                ⟨some 7, .mv (.t 22), none⟩,
                ⟨some 8, .mv (.t 23), none⟩,
                ⟨some 9, .mv (.t 24), none⟩] [4, 6, 7, 8, 9, 13, 14, 15] [] [[], [20], [21], [], [], [19], [22], [23]])
              (.seq
                (.seq
                  (.region [
                    ⟨some 25, .mv (.t 9), none⟩,
                    ⟨some 26, .un .not (.t 25), none⟩] [4, 6, 7, 8, 13, 14, 15, 26] [] [[9]])
                  (.cond (.t 26)
                    (.seq
                      (.seq
                        (.region [
                          ⟨some 27, .mv (.t 6), none⟩,
                          ⟨some 28, .call 3 [(.t 27)], none⟩,
                          ⟨some 29, .bin .neq (.t 28) (.k (.str [])), none⟩] [4, 13, 14, 15, 29] [] [[6], [27]])
                        (.cond (.t 29)
                          (.seq
                            (.region [
                              ⟨some 2, .mv (.k .nilS), none⟩,
                              ⟨some 3, .mv (.k (.bool false)), none⟩] [2, 3] [] [])
                            .ret)
                          .skip))
                      (.exit 1))
                    .skip))
                (.seq
                  (.seq
                  (.region [
                    ⟨some 30, .mv (.t 7), none⟩,
                    ⟨some 31, .call 3 [(.t 30)], none⟩,
                    ⟨some 32, .mv (.t 8), none⟩,
                    ⟨some 33, .call 3 [(.t 32)], none⟩,
                    ⟨some 34, .agg [(.str []), (.str [])] [(0, 1, (.t 31)), (1, 1, (.t 33))], none⟩,
                    ⟨some 10, .alloc [(.str []), (.str [])], none⟩,
                    ⟨none, .store 2 (.t 10) (.t 34), none⟩] [4, 10, 13, 14, 15] [] [[7], [30], [8], [32], [31, 33]])
                  (.ghost [.frz 10]))
                  (.seq
                    (.region [
                      ⟨some 11, .mv (.k (.int .i64 0)), none⟩] [4, 10, 11, 13, 14, 15] [] [])
                    (.seq
                      (.block 2
                        (.loop [4, 10, 11, 13, 14, 15]
                          b_spec_DTags_1))
                      t_spec_DTags_2)))))))
        t_spec_DTags_3)))

def t_spec_DTags_5 : SCode :=
  (.seq
    (.region [
      ⟨some 78, .mv (.t 4), none⟩,
      ⟨some 2, .mv (.t 78), none⟩,
      ⟨some 3, .mv (.k (.bool true)), none⟩] [2, 3] [] [[4], [78]])
    .ret)

def c_spec_DTags : SFn := ⟨1,
    (.seq
      (.region [
        ⟨some 2, .mv (.k .nilS), none⟩,
        ⟨some 3, .mv (.k (.bool false)), none⟩] [0] [] [[2]])
      (.seq
        (.region [
          ⟨some 4, .mv (.k .nilS), none⟩] [0, 4] [] [])
        (.seq
          (.seq
            (.region [
              ⟨some 12, .mv (.t 0), none⟩,
              ⟨some 13, .call 54 [(.t 12), (.k (.int .u8 59))], none⟩,
              ⟨some 14, .len 1 (.t 13), none⟩,
              ⟨some 15, .mv (.k (.int .i64 0)), none⟩] [4, 13, 14, 15] [] [[0], [12]])
            (.block 0
              (.loop [4, 13, 14, 15]
                b_spec_DTags_4)))
          t_spec_DTags_5))),
  [.t 2, .t 3]⟩

def l_spec_DTags : Lay := { rg := [(0, ([0], [])), (1, ([0, 4], [])), (2, ([4, 13, 14, 15], [])), (3, ([4, 13, 14, 15, 16], [])), (4, ([4, 6, 13, 14, 15], [])), (5, ([4, 6, 7, 8, 9, 13, 14, 15], [])), (6, ([4, 6, 7, 8, 13, 14, 15, 26], [])), (7, ([4, 13, 14, 15, 29], [])), (8, ([2, 3], [])), (9, ([4, 10, 13, 14, 15], [])), (10, ([4, 10, 11, 13, 14, 15], [])), (11, ([4, 10, 11, 13, 14, 15, 48], [])), (12, ([4, 10, 11, 13, 14, 15], [])), (13, ([4, 10, 11, 13, 14, 15, 64], [])), (14, ([2, 3], [])), (15, ([4, 13, 14, 15], [])), (16, ([4, 13, 14, 15], [])), (17, ([2, 3], [])), (1000003, ([4, 13, 14, 15], [])), (1000011, ([4, 10, 11, 13, 14, 15], []))], dd := [(0, [[2]]), (2, [[0], [12]]), (4, [[], [17]]), (5, [[], [20], [21], [], [], [19], [22], [23]]), (6, [[9]]), (7, [[6], [27]]), (9, [[7], [30], [8], [32], [31, 33]]), (12, [[], [49]]), (17, [[4], [78]])], gh := [(9, [.frz 10]), (15, [.frz 72, .frz 76])], fz := [71], fl := [66, 67, 68, 70, 71, 73, 74, 75] }

end Wax

/- Functions as the abstract machine has them. -/
namespace Wax
open Go (IntKind)

/- maps.Keys[map[string]string,string,string] -/
def c_maps_Keys : SFn := ⟨1,
    (.seq
      (.region [
        ⟨some 1, .boxF (.t 0), none⟩,
        ⟨some 2, .mv (.k .nilF), none⟩] [1] [] [[0]])
      (.seq
        (.region [
          ⟨some 3, .mkFn 55 [(.t 1)], none⟩,
          ⟨some 2, .mv (.t 3), none⟩] [2] [] [[1]])
        .ret)),
  [.t 2]⟩

def l_maps_Keys : Lay := { rg := [(0, ([1], [])), (1, ([2], []))], dd := [(0, [[0]]), (1, [[1]])], fz := [1] }

end Wax

/- Contracts, one behind the other. -/
namespace Wax
open Go Go.RowKit

/-- No contract; methods by a table. -/
def gam0 (ms : List (Nat × String × Nat)) : Gam := ⟨fun _ _ => none, fun t name => (ms.find? fun m => m.1 == t && m.2.1 == name).map (·.2.2), fun _ _ _ => none⟩

def Gam.add (Γ : Gam) (g : Nat) (c : List AV → Option AV) : Gam := ⟨fun h => if h = g then c else Γ.fn h, Γ.mth, Γ.st⟩

def Gam.addS (Γ : Gam) (g : Nat) (c : List AV → List (Nat × AObj) → Option (AV × List (Nat × AObj))) : Gam := ⟨Γ.fn, Γ.mth, fun h => if h = g then c else Γ.st h⟩

@[simp] theorem add_fn_same {Γ : Gam} {g : Nat} {c : List AV → Option AV} : (Γ.add g c).fn g = c := by simp [Gam.add]
theorem add_fn_other {Γ : Gam} {g h : Nat} {c : List AV → Option AV} (e : h ≠ g) : (Γ.add g c).fn h = Γ.fn h := by simp [Gam.add, e]
@[simp] theorem add_mth {Γ : Gam} {g : Nat} {c : List AV → Option AV} : (Γ.add g c).mth = Γ.mth := rfl

@[simp] theorem add_st {Γ : Gam} {g : Nat} {c : List AV → Option AV} : (Γ.add g c).st = Γ.st := rfl
@[simp] theorem addS_fn {Γ : Gam} {g : Nat} {c} : (Γ.addS g c).fn = Γ.fn := rfl
@[simp] theorem addS_mth {Γ : Gam} {g : Nat} {c} : (Γ.addS g c).mth = Γ.mth := rfl
@[simp] theorem addS_st_same {Γ : Gam} {g : Nat} {c} : (Γ.addS g c).st g = c := by simp [Gam.addS]
theorem addS_st_other {Γ : Gam} {g h : Nat} {c} (e : h ≠ g) : (Γ.addS g c).st h = Γ.st h := by simp [Gam.addS, e]

def injB (l : List (Nat × Nat)) : Bool := l.all fun p => l.all fun q => p.2 != q.2 || p.1 == q.1

theorem lkN_mem : ∀ {l : List (Nat × Nat)} {i v : Nat}, lkN l i = some v → (i, v) ∈ l
  | (j, u) :: r, i, v, h => by
    simp only [lkN] at h
    split at h
    · rename_i e; simp at e h; subst e; subst h; simp
    · exact List.mem_cons_of_mem _ (lkN_mem h)

theorem injB_spec {l : List (Nat × Nat)} (h : injB l = true) {i j v : Nat} (hi : lkN l i = some v) (hj : lkN l j = some v) : i = j := by
  simp only [injB, List.all_eq_true] at h
  have := h _ (lkN_mem hi) _ (lkN_mem hj)
  simpa using this

theorem tinj {T : Tab} (h : injB T.tys = true) : TInj T := fun _ _ _ ht hu => injB_spec h ht hu

/-- The method of this name, of values of this type, is this function: told by looking. -/
def mthB (P : Program) (t : TypeId) (name : String) (f : FuncId) : Bool :=
  match P.info? t with
  | none => false
  | some i => match i.methods.find? (·.name == name) with
    | none => false
    | some m => m.path.size == 0 && (match m.func with
      | some (g, pr) => g == f && (match P.underlying t with
        | some (.pointer _) => pr
        | some _ => !pr
        | none => false)
      | none => false)

theorem mthB_spec {P : Program} {t : TypeId} {name : String} {f : FuncId} (h : mthB P t name f = true) : MthOk P t name f := by
  intro v w
  simp only [mthB] at h
  cases hi : P.info? t with
  | none => simp [hi] at h
  | some i =>
    simp only [hi] at h
    cases hm : i.methods.find? (·.name == name) with
    | none => simp [hm] at h
    | some m =>
      simp only [hm, Bool.and_eq_true, beq_iff_eq] at h
      obtain ⟨hp, h⟩ := h
      cases hf : m.func with
      | none => simp [hf] at h
      | some gp =>
        obtain ⟨g, pr⟩ := gp
        simp only [hf, Bool.and_eq_true, beq_iff_eq] at h
        obtain ⟨rfl, h⟩ := h
        have hpl : m.path.toList = [] := by
          have : m.path.toList.length = 0 := by simpa using hp
          exact List.length_eq_zero_iff.1 this
        have hrec : ∀ wr, (receiverAt t (.val v) pr wr).run P w = .ok v w := by
          intro wr
          cases hu : P.underlying t with
          | none => simp [hu] at h
          | some d =>
            simp only [hu] at h
            simp only [receiverAt, Sem.run_bind, rUnder hu, Result.andThen_ok]
            cases d <;> cases pr <;> simp at h <;> simp [Place.get]
        have e : P.types.size + Made.depth = (P.types.size + 99) + 1 := rfl
        rw [e]
        generalize P.types.size + 99 = fuel
        simp only [method, Sem.run_bind, rInfo hi, Result.andThen_ok, hm, hpl, follow, Sem.run_pure, hf, hrec]

/-- The empty table of contracts. -/
theorem gam0_ok {P : Program} {T : Tab} {ms : List (Nat × String × Nat)} (h : ∀ t g name q, lkN T.tys t = some g → (gam0 ms).mth g name = some q → ∃ f, lkN T.fns f = some q ∧ MthOk P t name f) : GamOk P T (gam0 ms) :=
  ⟨fun f g args r _ h => by simp [gam0] at h, h, fun f g args hp q _ h => by simp [gam0] at h⟩

def mthsB (P : Program) (T : Tab) (ms : List (Nat × String × Nat)) : Bool :=
  T.tys.all fun tg => ms.all fun m => m.1 != tg.2 || T.fns.any fun fg => fg.2 == m.2.2 && lkN T.fns fg.1 == some m.2.2 && mthB P tg.1 m.2.1 fg.1

theorem mthsB_spec {P : Program} {T : Tab} {ms : List (Nat × String × Nat)} (h : mthsB P T ms = true) : GamOk P T (gam0 ms) := by
  refine gam0_ok ?_
  intro t g name q ht hm
  simp only [gam0, Option.map_eq_some_iff] at hm
  obtain ⟨m, hm, rfl⟩ := hm
  have h1 := List.mem_of_find?_eq_some hm
  have h2 := List.find?_some hm
  simp only [Bool.and_eq_true, beq_iff_eq] at h2
  simp only [mthsB, List.all_eq_true, List.any_eq_true] at h
  have h3 := h _ (lkN_mem ht) m h1
  simp only [Bool.or_eq_true, bne_iff_ne, ne_eq] at h3
  rcases h3 with h3 | h3
  · exact absurd h2.1 h3
  · simp only [List.any_eq_true, Bool.and_eq_true, beq_iff_eq] at h3
    obtain ⟨fg, _, ⟨_, h5⟩, h6⟩ := h3
    exact ⟨fg.1, h5, by rw [← h2.2]; exact mthB_spec h6⟩

/-- One contract more. -/
theorem GamOk.add {P : Program} {T : Tab} {Γ : Gam} (G : GamOk P T Γ) (hF : injB T.fns = true) {f g : Nat} (hf : lkN T.fns f = some g) (hb : hasBody P f = true) {c : List AV → Option AV} (h : ∀ args r, c args = some r → OkCall P T f args r) :
    GamOk P T (Γ.add g c) where
  fn := by
    intro f' g' args r hf' hc
    by_cases e : g' = g
    · subst e
      have := injB_spec hF hf' hf; subst this
      rw [add_fn_same] at hc
      exact ⟨hb, h args r hc⟩
    · rw [add_fn_other e] at hc
      exact G.fn f' g' args r hf' hc
  mth := G.mth
  st := G.st

theorem GamOk.addS {P : Program} {T : Tab} {Γ : Gam} (G : GamOk P T Γ) (hF : injB T.fns = true) {f g : Nat} (hf : lkN T.fns f = some g) (hb : hasBody P f = true) {c : List AV → List (Nat × AObj) → Option (AV × List (Nat × AObj))} (h : ∀ args hp q, c args hp = some q → OkS P T f args hp q.1 q.2) :
    GamOk P T (Γ.addS g c) where
  fn := G.fn
  mth := G.mth
  st := by
    intro f' g' args hp q hf' hc
    by_cases e : g' = g
    · subst e
      have := injB_spec hF hf' hf; subst this
      rw [addS_st_same] at hc
      exact ⟨hb, h args hp q hc⟩
    · rw [addS_st_other e] at hc
      exact G.st f' g' args hp q hf' hc

/-- One function more, walked. -/
theorem GamOk.walk {P : Program} {T : Tab} {Γ : Gam} (G : GamOk P T Γ) (hT : injB T.tys = true) (hF : injB T.fns = true) {f g : Nat} (hf : lkN T.fns f = some g) (hb : hasBody P f = true) {L : Lay} {fn : Func} {sfn : SFn}
    (hfn : P.funcs[f]? = some fn) (hc : compFn P T L fn = some sfn) {c : List AV → Option AV} (h : ∀ args r, c args = some r → runs Γ sfn args (fun v => v = r)) : GamOk P T (Γ.add g c) :=
  G.add hF hf hb fun args r hr => fn_sound (tinj hT) G hfn hc (h args r hr)

/-- One function more that sees objects, walked. -/
theorem GamOk.walkS {P : Program} {T : Tab} {Γ : Gam} (G : GamOk P T Γ) (hT : injB T.tys = true) (hF : injB T.fns = true) {f g : Nat} (hf : lkN T.fns f = some g) (hb : hasBody P f = true) {L : Lay} {fn : Func} {sfn : SFn}
    (hfn : P.funcs[f]? = some fn) (hc : compFn P T L fn = some sfn) {c : List AV → List (Nat × AObj) → Option (AV × List (Nat × AObj))} (h : ∀ args hp q, c args hp = some q → runsS Γ sfn args hp (fun v => v = some q)) : GamOk P T (Γ.addS g c) :=
  G.addS hF hf hb fun args hp q hr => fnS_sound (tinj hT) G hfn hc (h args hp q hr)
end Wax

/- Bytes as cells. -/
namespace Wax
open Go (IntKind)

section
theorem ite_some {α : Type} {p : Prop} [Decidable p] {a r : α} (h : (if p then some a else none) = some r) : p ∧ a = r := by
  by_cases e : p <;> simp [e] at h ⊢; exact h
@[simp] theorem bcA_nil : bcA [] = [] := rfl
@[simp] theorem bcA_cons {b : UInt8} {s : List UInt8} : bcA (b :: s) = .int .u8 (b.toNat : Int) :: bcA s := rfl
@[simp] theorem bcA_app {s t : List UInt8} : bcA (s ++ t) = bcA s ++ bcA t := by simp [bcA]
@[simp] theorem bcA_length {s : List UInt8} : (bcA s).length = s.length := by simp [bcA]
@[simp] theorem bcA_get {s : List UInt8} {i : Nat} : (bcA s)[i]? = s[i]?.map fun b => AV.int .u8 (b.toNat : Int) := by simp [bcA]
@[simp] theorem bcA_drop {s : List UInt8} {i : Nat} : (bcA s).drop i = bcA (s.drop i) := by simp [bcA, List.map_drop]
@[simp] theorem bcA_take {s : List UInt8} {i : Nat} : (bcA s).take i = bcA (s.take i) := by simp [bcA, List.map_take]
@[simp] theorem atoms_app {a b : List AV} : atoms (a ++ b) = (atoms a && atoms b) := by
  induction a with
  | nil => simp
  | cons x r ih => simp [ih, Bool.and_assoc]
@[simp] theorem atoms_bcA {s : List UInt8} : atoms (bcA s) = true := by induction s <;> simp_all
@[simp] theorem killL_app {d : Nat} {a b : List AV} : killL d (a ++ b) = killL d a ++ killL d b := by
  induction a with
  | nil => simp
  | cons x r ih => simp [ih]
@[simp] theorem killL_bcA {d : Nat} {s : List UInt8} : killL d (bcA s) = bcA s := by induction s <;> simp_all
@[simp] theorem killL_length {d : Nat} {s : List AV} : (killL d s).length = s.length := by induction s <;> simp_all
@[simp] theorem toBytes_bcA {s : List UInt8} : toBytes (bcA s) = some s := by
  induction s with
  | nil => rfl
  | cons b r ih => simp [toBytes, ih]
@[simp] theorem loadC_drop {cs : List AV} {i : Nat} : loadC none (cs.drop i) = cs[i]?.bind fun c => if atom c = true then some c else none := by
  cases h : cs[i]? with
  | none =>
    have : cs.drop i = [] := List.drop_eq_nil_of_le (by simpa using h)
    simp [this]
  | some c =>
    have hl : i < cs.length := by
      rcases Nat.lt_or_ge i cs.length with h' | h'
      · exact h'
      · rw [List.getElem?_eq_none h'] at h; simp at h
    rw [List.drop_eq_getElem_cons hl]
    have : cs[i] = c := by rw [List.getElem?_eq_getElem hl] at h; simpa using h
    simp [this]
@[simp] theorem spliceL_one {cs : List AV} {i : Nat} {x : AV} : spliceL cs i [x] = cs.set i x := rfl
@[simp] theorem spliceL_nil {cs : List AV} {i : Nat} : spliceL cs i [] = cs := rfl
@[simp] theorem toBytes_nil : toBytes [] = some [] := rfl
@[simp] theorem toBytes_byte {b : UInt8} {r : List AV} : toBytes (.int .u8 (b.toNat : Int) :: r) = (toBytes r).map (b :: ·) := by
  simp [toBytes]
@[simp] theorem made_o2 {hp : List (Nat × AObj)} {d : Nat} {o : AObj} {v : AV} : made hp d o v = some (o2 hp d v o) := rfl
/-- A slice of bytes that grows from nil: the value, the object behind it. -/
def outV (d : Nat) (out : List UInt8) : AV := match out with | [] => .nilS | _ => .msl d 1 0 out.length
def outH (d : Nat) (out : List UInt8) : List (Nat × AObj) := match out with | [] => [] | _ => [(d, .cells (bcA out))]
@[simp] theorem outV_nil {d : Nat} : outV d [] = .nilS := rfl
@[simp] theorem outH_nil {d : Nat} : outH d [] = [] := rfl
theorem outV_ne {d : Nat} {out : List UInt8} (h : out ≠ []) : outV d out = .msl d 1 0 out.length := by cases out <;> first | exact absurd rfl h | rfl
theorem outH_ne {d : Nat} {out : List UInt8} (h : out ≠ []) : outH d out = [(d, .cells (bcA out))] := by cases out <;> first | exact absurd rfl h | rfl
@[simp] theorem toNat_ofNat {n : Nat} : (n : Int).toNat = n := by simp
end
end Wax

/- The plain functions of the set's reference: what each answers. -/
namespace Wax
open Go (IntKind)

def big : Nat := 4611686018427387904

def isWs (n : Int) : Bool := decide (n = 32 ∨ n = 9 ∨ n = 13 ∨ n = 10)

def con_dBlank : List AV → Option AV
  | [.int .u8 n] => some (.bool (isWs n))
  | _ => none

theorem ok_dBlank (Γ : Gam) : ∀ args r, con_dBlank args = some r → runs Γ c_spec_dBlank args (fun v => v = r) := by
  intro args r h
  simp only [con_dBlank] at h
  split at h <;> simp at h
  rename_i b
  subst h
  simp [c_spec_dBlank, isWs]
  refine ⟨fun h => ⟨fun h2 => ⟨fun h3 => ?_, fun h3 => ?_⟩, fun h2 => ?_⟩, fun h => ?_⟩ <;> simp [*]

def cutAt (c : Int) : List UInt8 → Option (List UInt8 × List UInt8)
  | [] => none
  | x :: r => if (x.toNat : Int) = c then some ([], r) else (cutAt c r).map fun p => (x :: p.1, p.2)

def noB (c : Int) (s : List UInt8) : Prop := ∀ x ∈ s, (x.toNat : Int) ≠ c

theorem cutAt_app (c : Int) : ∀ (pre post : List UInt8), noB c pre → cutAt c (pre ++ post) = (cutAt c post).map fun p => (pre ++ p.1, p.2)
  | [], post, _ => by simp
  | x :: r, post, h => by
    have h1 : (x.toNat : Int) ≠ c := h x (by simp)
    have h2 : noB c r := fun y hy => h y (by simp [hy])
    simp only [List.cons_append, cutAt, if_neg h1, cutAt_app c r post h2, Option.map_map]
    rfl

def cutV (c : Int) (s : List UInt8) : AV :=
  match cutAt c s with
  | some p => .tup [.str p.1, .str p.2, .bool true]
  | none => .tup [.str s, .str [], .bool false]

def con_dCut : List AV → Option AV
  | [.str s, .int .u8 c] => if s.length < big then some (cutV c s) else none
  | _ => none

theorem ok_dCut (Γ : Gam) : ∀ args r, con_dCut args = some r → runs Γ c_spec_dCut args (fun v => v = r) := by
  intro args r h
  simp only [con_dCut] at h
  split at h <;> simp [big] at h
  rename_i s c
  obtain ⟨hs, rfl⟩ := ite_some h
  simp [c_spec_dCut]
  refine awp_loop (σ := List UInt8 × List UInt8) (fun p => ⟨[(0, .str s), (1, .int .u8 c), (7, .int .i64 p.1.length)], []⟩) (fun p => s = p.1 ++ p.2 ∧ noB c p.1) (fun p => p.2.length) ([], s) (by simp) (by simp [noB]) ?_
  rintro ⟨pre, post⟩ ⟨hs1, hs2⟩
  simp only at hs1 hs2
  subst hs1
  cases post with
  | nil =>
    have e : cutAt c pre = none := by have := cutAt_app c pre [] hs2; simpa [cutAt] using this
    simp [cutV, e]
  | cons x post =>
    simp at hs
    simp
    refine ⟨fun hlt => ?_, fun hge => by omega⟩
    simp (disch := omega) [wrap64]
    refine ⟨fun he => ?_, fun hne => ?_⟩
    · have e1 : (0 : Int) ≤ (pre.length : Int) + 1 ∧ (pre.length : Int) + 1 ≤ (pre.length : Int) + ((post.length : Int) + 1) := by omega
      have e2 : ((pre.length : Int) + 1).toNat = pre.length + 1 := by omega
      simp [cutV, cutAt_app _ _ _ hs2, cutAt, e1, e2, he]
      omega
    · refine ⟨(pre ++ [x], post), by simp, ⟨by simp, ?_⟩, by simp⟩
      intro y hy
      simp at hy
      rcases hy with hy | rfl
      · exact hs2 y hy
      · exact hne

def plainB (b : UInt8) : Bool := decide ((b.toNat : Int) < 128 ∧ (b.toNat : Int) ≠ 11 ∧ (b.toNat : Int) ≠ 12)
theorem plainB_true {b : UInt8} (h : (b.toNat : Int) < 128 ∧ ¬ (b.toNat : Int) = 11 ∧ ¬ (b.toNat : Int) = 12) : plainB b = true := decide_eq_true h
theorem plainB_false {b : UInt8} (h : ¬ ((b.toNat : Int) < 128 ∧ ¬ (b.toNat : Int) = 11 ∧ ¬ (b.toNat : Int) = 12)) : plainB b = false := decide_eq_false h
def dPlain (most : Int) (s : List UInt8) : Bool := s.all plainB && decide ((s.length : Int) ≤ most)

def con_DPlain : List AV → Option AV
  | [.str s, .int .i64 m] => if s.length < big then some (.bool (dPlain m s)) else none
  | _ => none

theorem ok_DPlain (Γ : Gam) : ∀ args r, con_DPlain args = some r → runs Γ c_spec_DPlain args (fun v => v = r) := by
  intro args r h
  simp only [con_DPlain] at h
  split at h <;> simp [big] at h
  rename_i s m
  obtain ⟨hs, rfl⟩ := ite_some h
  clear h
  simp [c_spec_DPlain]
  refine awp_loop (σ := List UInt8 × List UInt8) (fun p => ⟨[(0, .str s), (1, .int .i64 m), (5, .int .i64 p.1.length)], []⟩) (fun p => s = p.1 ++ p.2 ∧ p.1.all plainB = true) (fun p => p.2.length) ([], s) (by simp) (by simp) ?_
  rintro ⟨pre, post⟩ ⟨hs1, hs2⟩
  simp only at hs1 hs2
  subst hs1
  cases post with
  | nil => simp [dPlain, hs2]
  | cons x post =>
    simp at hs
    have bad : plainB x = false → dPlain m (pre ++ x :: post) = false := by intro h; simp [dPlain, h]
    have good : plainB x = true → loopQ [0, 1, 5] (fun p : List UInt8 × List UInt8 => ⟨[(0, .str (pre ++ x :: post)), (1, .int .i64 m), (5, .int .i64 p.1.length)], []⟩) (fun p => pre ++ x :: post = p.1 ++ p.2 ∧ p.1.all plainB = true) (fun p => p.2.length) (pre, x :: post)
        ⟨[(0, .str (pre ++ x :: post)), (1, .int .i64 m), (5, .int .i64 (IntKind.i64.wrap (pre.length + 1)))], []⟩ := by
      intro h
      exact ⟨(pre ++ [x], post), by simp (disch := omega) [wrap64], ⟨by simp, by simp only [List.all_append, hs2, List.all_cons, h]; rfl⟩, by simp⟩
    generalize hl : loopQ [0, 1, 5] (fun p : List UInt8 × List UInt8 => (⟨[(0, .str (pre ++ x :: post)), (1, .int .i64 m), (5, .int .i64 p.1.length)], []⟩ : St)) (fun p => pre ++ x :: post = p.1 ++ p.2 ∧ p.1.all plainB = true) (fun p => p.2.length) (pre, x :: post) = LQ at good ⊢
    simp
    refine ⟨fun hlt => ⟨fun h1 => ⟨fun h2 => ⟨fun h3 => ?_, fun h3 => ?_⟩, fun h2 => ?_⟩, fun h1 => ?_⟩, fun hge => by omega⟩
    · exact bad (plainB_false fun h => h.2.2 h3)
    · exact good (plainB_true ⟨h1, h2, h3⟩)
    · exact bad (plainB_false fun h => h.2.1 h2)
    · exact bad (plainB_false fun h => by omega)

def trimL (s : List UInt8) : List UInt8 := s.dropWhile fun b => isWs b.toNat
def trimR (s : List UInt8) : List UInt8 := (s.reverse.dropWhile fun b => isWs b.toNat).reverse
def trimS (s : List UInt8) : List UInt8 := trimR (trimL s)

def con_DTrim : List AV → Option AV
  | [.str s] => if s.length < big then some (.str (trimS s)) else none
  | _ => none

theorem ok_DTrim (Γ : Gam) (h1 : Γ.fn 1 = con_dBlank) : ∀ args r, con_DTrim args = some r → runs Γ c_spec_DTrim args (fun v => v = r) := by
  intro args r h
  simp only [con_DTrim] at h
  split at h <;> simp [big] at h
  rename_i s
  obtain ⟨hs, rfl⟩ := ite_some h
  clear h
  simp [c_spec_DTrim]
  refine awp_loop (σ := List UInt8) (fun p => ⟨[(0, .str p)], []⟩) (fun p => trimL p = trimL s ∧ p.length < 4611686018427387904) (fun p => p.length) s (by simp) (by simp [hs]) ?_
  rintro p ⟨hp, hlen⟩
  have second : ∀ v9, (trimL p = p) → awp Γ t_spec_DTrim_4 (finQ [.t 2] fun v => v = AV.str (trimS s)) ⟨[(0, .str p), (9, v9)], []⟩ := by
    intro v9 htl
    simp [t_spec_DTrim_4]
    refine awp_loop (σ := List UInt8) (fun q => ⟨[(0, .str q.reverse)], []⟩) (fun q => trimR q.reverse = trimR p ∧ q.length < 4611686018427387904) (fun q => q.length) p.reverse (by simp) (by simpa using hlen) ?_
    rintro q ⟨hq, hql⟩
    cases q with
    | nil =>
      simp [b_spec_DTrim_2, t_spec_DTrim_3]
      rw [trimS, ← hp, htl, ← hq]; rfl
    | cons x q =>
      simp at hql
      simp (disch := omega) [b_spec_DTrim_2, t_spec_DTrim_3, wrap64]
      refine gO_bind (b := x) (by rw [List.getElem?_append_right (by simp)]; simp) ?_
      simp (disch := omega) [acall, h1, con_dBlank, wrap64]
      refine ⟨fun hw => ⟨q, by simp, ⟨?_, by omega⟩, by simp⟩, fun hw => ?_⟩
      · rw [← hq]; simp [trimR, hw]
      · rw [trimS, ← hp, htl, ← hq]; simp [trimR, hw]
  cases p with
  | nil =>
    simp [b_spec_DTrim_1]
    exact second _ rfl
  | cons x p =>
    simp at hlen
    simp [b_spec_DTrim_1, acall, h1, con_dBlank]
    refine ⟨fun hw => ⟨by omega, p, by simp, ⟨?_, by omega⟩, by simp⟩, fun hw => second _ ?_⟩
    · rw [← hp]; simp [trimL, hw]
    · simp [trimL, hw]

def lowB (b : UInt8) : UInt8 := if 65 ≤ b.toNat ∧ b.toNat ≤ 90 then b + 32 else b

theorem lowB_toNat (b : UInt8) : ((lowB b).toNat : Int) = if 65 ≤ (b.toNat : Int) ∧ (b.toNat : Int) ≤ 90 then (b.toNat : Int) + 32 else (b.toNat : Int) := by
  unfold lowB
  by_cases h : 65 ≤ b.toNat ∧ b.toNat ≤ 90
  · rw [if_pos h, if_pos (by omega), UInt8.toNat_add]
    have : (32 : UInt8).toNat = 32 := rfl
    rw [this]; omega
  · rw [if_neg h, if_neg (by omega)]

def lowS (s : List UInt8) : List UInt8 := s.map lowB

@[simp] theorem lowS_length {s : List UInt8} : (lowS s).length = s.length := by simp [lowS]
@[simp] theorem lowS_nil : lowS [] = [] := rfl
@[simp] theorem lowS_app {s t : List UInt8} : lowS (s ++ t) = lowS s ++ lowS t := by simp [lowS]
@[simp] theorem lowS_cons {b : UInt8} {s : List UInt8} : lowS (b :: s) = lowB b :: lowS s := rfl

def con_DLower : List AV → Option AV
  | [.str s] => if s.length < big then some (.str (lowS s)) else none
  | _ => none

theorem ok_DLower (Γ : Gam) : ∀ args r, con_DLower args = some r → runs Γ c_spec_DLower args (fun v => v = r) := by
  intro args r h
  simp only [con_DLower] at h
  split at h <;> simp [big] at h
  rename_i s
  obtain ⟨hs, rfl⟩ := ite_some h
  clear h
  simp [c_spec_DLower, hs]
  refine awp_loop (σ := List UInt8 × List UInt8) (fun p => ⟨[(3, .msl 6 1 0 s.length), (4, .int .i64 p.1.length)], [(6, .cells (bcA (lowS p.1 ++ p.2)))]⟩) (fun p => s = p.1 ++ p.2) (fun p => p.2.length) ([], s) (by simp) (by simp) ?_
  rintro ⟨pre, post⟩ hs1
  simp only at hs1
  subst hs1
  cases post with
  | nil =>
    have e : List.take pre.length (lowS pre) = lowS pre := List.take_of_length_le (by simp)
    simp [e]
  | cons x post =>
    simp at hs
    have hx := lowB_toNat x
    have fin : ∀ n : Int, n = (lowB x).toNat → loopQ [3, 4] (fun p : List UInt8 × List UInt8 => ⟨[(3, .msl 6 1 0 (pre ++ x :: post).length), (4, .int .i64 p.1.length)], [(6, .cells (bcA (lowS p.1 ++ p.2)))]⟩) (fun p => pre ++ x :: post = p.1 ++ p.2) (fun p => p.2.length) (pre, x :: post)
        ⟨[(3, .msl 6 1 0 (pre ++ x :: post).length), (4, .int .i64 (IntKind.i64.wrap (pre.length + 1)))], [(6, .cells (bcA (lowS pre) ++ .int .u8 n :: bcA post))]⟩ := by
      intro n hn
      refine ⟨(pre ++ [x], post), ?_, by simp, by simp⟩
      subst hn
      simp (disch := omega) [wrap64]
    simp at fin
    simp
    refine ⟨fun hlt => ⟨fun h1 => ⟨fun h2 => ?_, fun h2 => ?_⟩, fun h1 => ?_⟩, fun hge => by omega⟩
    · rw [hx, if_pos ⟨h1, h2⟩, ← Go.IntWalk.u8_in ((x.toNat : Int) + 32) ⟨by omega, by omega⟩] at fin
      exact fin
    · rw [hx, if_neg (by omega)] at fin
      exact fin
    · rw [hx, if_neg (by omega)] at fin
      exact fin
end Wax

/- The plain functions of the set's reference (2). -/
namespace Wax
open Go (IntKind)

def mid : Nat := 1099511627776

def joinGo : List UInt8 → Bool → List UInt8 → List UInt8
  | out, _, [] => out
  | out, w, x :: r => if isWs x.toNat then joinGo out (decide (0 < out.length)) r else joinGo ((if w then out ++ [32] else out) ++ [x]) false r

def con_dJoined : List AV → Option AV
  | [.str s] => if s.length < mid then some (.str (joinGo [] false s)) else none
  | _ => none

theorem ok_dJoined (Γ : Gam) (h1 : Γ.fn 1 = con_dBlank) : ∀ args r, con_dJoined args = some r → runs Γ c_spec_dJoined args (fun v => v = r) := by
  intro args r h
  simp only [con_dJoined] at h
  split at h <;> simp [mid] at h
  rename_i s
  obtain ⟨hs, rfl⟩ := ite_some h
  clear h
  simp [c_spec_dJoined]
  refine awp_loop (σ := List UInt8 × List UInt8 × List UInt8 × Bool) (fun p => ⟨[(0, .str s), (3, outV 28 p.2.2.1), (4, .bool p.2.2.2), (5, .int .i64 p.1.length)], outH 28 p.2.2.1⟩)
    (fun p => s = p.1 ++ p.2.1 ∧ joinGo p.2.2.1 p.2.2.2 p.2.1 = joinGo [] false s ∧ p.2.2.1.length ≤ 2 * p.1.length ∧ (p.2.2.2 = true → p.2.2.1 ≠ [])) (fun p => p.2.1.length) ([], s, [], false) (by simp [outV, outH]) (by simp) ?_
  rintro ⟨pre, post, out, w⟩ ⟨hs1, hs2, hs3, hs4⟩
  simp only at hs1 hs2 hs3 hs4
  cases post with
  | nil =>
    simp [joinGo] at hs2 hs1
    subst hs1
    by_cases ho : out = []
    · subst ho; simp [← hs2]
    · simp [outV_ne ho, outH_ne ho, ← hs2]
  | cons x post =>
    subst hs1
    simp at hs
    have step : ∀ out' w', joinGo out' w' post = joinGo [] false (pre ++ x :: post) → out'.length ≤ 2 * pre.length + 2 → (w' = true → out' ≠ []) →
        loopQ [0, 3, 4, 5] (fun p : List UInt8 × List UInt8 × List UInt8 × Bool => ⟨[(0, .str (pre ++ x :: post)), (3, outV 28 p.2.2.1), (4, .bool p.2.2.2), (5, .int .i64 p.1.length)], outH 28 p.2.2.1⟩)
          (fun p => pre ++ x :: post = p.1 ++ p.2.1 ∧ joinGo p.2.2.1 p.2.2.2 p.2.1 = joinGo [] false (pre ++ x :: post) ∧ p.2.2.1.length ≤ 2 * p.1.length ∧ (p.2.2.2 = true → p.2.2.1 ≠ [])) (fun p => p.2.1.length) (pre, x :: post, out, w)
          ⟨[(0, .str (pre ++ x :: post)), (3, outV 28 out'), (4, .bool w'), (5, .int .i64 (IntKind.i64.wrap (pre.length + 1)))], outH 28 out'⟩ := by
      intro out' w' h1 h2 h3
      exact ⟨(pre ++ [x], post, out', w'), by simp (disch := omega) [wrap64], ⟨by simp, h1, by simp; omega, h3⟩, by simp⟩
    generalize hl : loopQ [0, 3, 4, 5] (fun p : List UInt8 × List UInt8 × List UInt8 × Bool => (⟨[(0, .str (pre ++ x :: post)), (3, outV 28 p.2.2.1), (4, .bool p.2.2.2), (5, .int .i64 p.1.length)], outH 28 p.2.2.1⟩ : St))
          (fun p => pre ++ x :: post = p.1 ++ p.2.1 ∧ joinGo p.2.2.1 p.2.2.2 p.2.1 = joinGo [] false (pre ++ x :: post) ∧ p.2.2.1.length ≤ 2 * p.1.length ∧ (p.2.2.2 = true → p.2.2.1 ≠ [])) (fun p => p.2.1.length) (pre, x :: post, out, w) = LQ at step ⊢
    clear hl
    simp only [joinGo] at hs2
    by_cases ho : out = []
    · subst ho
      have hw : w = false := by cases w <;> simp at hs4 ⊢
      subst hw
      simp [acall, h1, con_dBlank]
      refine ⟨fun hlt => ⟨fun hb => ?_, fun hb => ?_⟩, fun hge => by omega⟩
      · rw [if_pos hb] at hs2
        exact step [] false (by simpa using hs2) (by simp) (by simp)
      · rw [if_neg (by simp [hb])] at hs2
        exact step [x] false (by simpa using hs2) (by simp) (by simp)
    · have hol : 0 < out.length := List.length_pos_iff.2 ho
      simp [outV_ne ho, outH_ne ho, acall, h1, con_dBlank, List.take_of_length_le]
      refine ⟨fun hlt => ⟨fun hb => ?_, fun hb => ⟨fun hw => ⟨by omega, by omega, ?_⟩, fun hw => ⟨by omega, ?_⟩⟩⟩, fun hge => by omega⟩
      · rw [if_pos hb] at hs2
        have := step out (decide (0 < out.length)) hs2 (by omega) (fun _ => ho)
        rw [outV_ne ho, outH_ne ho] at this
        exact this
      · rw [if_neg (by simp [hb]), if_pos hw] at hs2
        have := step (out ++ [32] ++ [x]) false hs2 (by simp; omega) (by simp)
        rw [outV_ne (by simp), outH_ne (by simp)] at this
        simpa using this
      · rw [if_neg (by simp [hb]), if_neg (by simp [hw])] at hs2
        have := step (out ++ [x]) false hs2 (by simp; omega) (by simp)
        rw [outV_ne (by simp), outH_ne (by simp)] at this
        subst hw
        simpa using this
end Wax

/- The plain functions of the set's reference (3), and of the program's small ones. -/
namespace Wax
open Go (IntKind)

def simpleB : List UInt8 := [115, 105, 109, 112, 108, 101]
def relaxedB : List UInt8 := [114, 101, 108, 97, 120, 101, 100]

def con_dForm : List AV → Option AV
  | [.str s] => some (.bool (decide (s = simpleB ∨ s = relaxedB)))
  | _ => none

theorem ok_dForm (Γ : Gam) : ∀ args r, con_dForm args = some r → runs Γ c_laws_dForm args (fun v => v = r) := by
  intro args r h
  simp only [con_dForm] at h
  split at h <;> simp at h
  rename_i s
  subst h
  simp [c_laws_dForm, simpleB, relaxedB]
  refine ⟨fun h => ?_, fun h => by simp [h]⟩
  by_cases h2 : s = [114, 101, 108, 97, 120, 101, 100]
  · subst h2; rfl
  · simp [h, h2]

def strsA (l : List (List UInt8)) : List AV := l.map .str

def asStrs : List AV → Option (List (List UInt8))
  | [] => some []
  | .str s :: r => (asStrs r).map (s :: ·)
  | _ :: _ => none

theorem asStrs_spec : ∀ {xs : List AV} {l : List (List UInt8)}, asStrs xs = some l → xs = strsA l
  | [], l, h => by simp [asStrs] at h; subst h; rfl
  | .str s :: r, l, h => by
    simp only [asStrs] at h
    cases hr : asStrs r with
    | none => simp [hr] at h
    | some q => simp [hr] at h; subst h; rw [asStrs_spec hr]; rfl
  | .junk :: _, _, h => by simp [asStrs] at h
  | .bool _ :: _, _, h => by simp [asStrs] at h
  | .int _ _ :: _, _, h => by simp [asStrs] at h
  | .nilI :: _, _, h => by simp [asStrs] at h
  | .nilP :: _, _, h => by simp [asStrs] at h
  | .nilF :: _, _, h => by simp [asStrs] at h
  | .nilM :: _, _, h => by simp [asStrs] at h
  | .nilS :: _, _, h => by simp [asStrs] at h
  | .sl _ _ :: _, _, h => by simp [asStrs] at h
  | .ptr _ :: _, _, h => by simp [asStrs] at h
  | .agg _ :: _, _, h => by simp [asStrs] at h
  | .tup _ :: _, _, h => by simp [asStrs] at h
  | .ifc _ _ :: _, _, h => by simp [asStrs] at h
  | .fn _ _ :: _, _, h => by simp [asStrs] at h
  | .mp _ :: _, _, h => by simp [asStrs] at h
  | .ref _ _ :: _, _, h => by simp [asStrs] at h
  | .msl _ _ _ _ :: _, _, h => by simp [asStrs] at h
  | .mref _ :: _, _, h => by simp [asStrs] at h

@[simp] theorem strsA_length {l : List (List UInt8)} : (strsA l).length = l.length := by simp [strsA]
@[simp] theorem strsA_get {l : List (List UInt8)} {i : Nat} : (strsA l)[i]? = l[i]?.map .str := by simp [strsA]
@[simp] theorem asStrs_strsA {l : List (List UInt8)} : asStrs (strsA l) = some l := by induction l <;> simp_all [strsA, asStrs]

/-- A slice of texts, nil or not, as it comes in. -/
def slStrs : AV → Option (List (List UInt8))
  | .nilS => some []
  | .sl es xs => if es = 1 then asStrs xs else none
  | _ => none

def dShort (m : Int) (l : List (List UInt8)) : Bool := l.all (dPlain m) && decide ((l.length : Int) ≤ 200)

def con_dShort : List AV → Option AV
  | [.int .i64 m, v] => match slStrs v with
    | some l => if l.length < big ∧ ∀ s ∈ l, s.length < big then some (.bool (dShort m l)) else none
    | none => none
  | _ => none

theorem ok_dShort (Γ : Gam) (h6 : Γ.fn 6 = con_DPlain) : ∀ args r, con_dShort args = some r → runs Γ c_laws_dShort args (fun v => v = r) := by
  intro args r h
  simp only [con_dShort] at h
  split at h <;> (try simp at h; done)
  rename_i m v
  split at h <;> (try simp at h; done)
  rename_i l hl
  obtain ⟨⟨hlen, hall⟩, rfl⟩ := ite_some h
  clear h
  simp [big] at hlen hall
  have hv : (v = .nilS ∧ l = []) ∨ v = .sl 1 (strsA l) := by
    cases v <;> simp [slStrs] at hl
    · left; exact ⟨rfl, hl⟩
    · right; obtain ⟨e, hl⟩ := hl; rw [asStrs_spec hl, e]
  rcases hv with ⟨rfl, rfl⟩ | rfl
  · simp [c_laws_dShort]
    refine awp_loop (σ := Unit) (fun p => ⟨[(0, .int .i64 m), (1, .nilS), (5, .int .i64 0)], []⟩) (fun _ => True) (fun _ => 0) () (by simp) (by simp) ?_
    intro _ _
    simp [dShort]
  · simp [c_laws_dShort]
    refine awp_loop (σ := List (List UInt8) × List (List UInt8)) (fun p => ⟨[(0, .int .i64 m), (1, .sl 1 (strsA l)), (5, .int .i64 p.1.length)], []⟩) (fun p => l = p.1 ++ p.2 ∧ p.1.all (dPlain m) = true) (fun p => p.2.length) ([], l) (by simp) (by simp) ?_
    rintro ⟨pre, post⟩ ⟨hs1, hs2⟩
    simp only at hs1 hs2
    subst hs1
    cases post with
    | nil => simp [dShort, hs2]
    | cons x post =>
      simp at hlen
      have hx : x.length < 4611686018427387904 := hall x (by simp)
      have bad : dPlain m x = false → dShort m (pre ++ x :: post) = false := by intro h; simp [dShort, h]
      have good : dPlain m x = true → loopQ [0, 1, 5] (fun p : List (List UInt8) × List (List UInt8) => ⟨[(0, .int .i64 m), (1, .sl 1 (strsA (pre ++ x :: post))), (5, .int .i64 p.1.length)], []⟩) (fun p => pre ++ x :: post = p.1 ++ p.2 ∧ p.1.all (dPlain m) = true) (fun p => p.2.length) (pre, x :: post)
          ⟨[(0, .int .i64 m), (1, .sl 1 (strsA (pre ++ x :: post))), (5, .int .i64 (IntKind.i64.wrap (pre.length + 1)))], []⟩ := by
        intro h
        exact ⟨(pre ++ [x], post), by simp (disch := omega) [wrap64], ⟨by simp, by simp only [List.all_append, hs2, List.all_cons, h]; rfl⟩, by simp⟩
      generalize hl : loopQ [0, 1, 5] (fun p : List (List UInt8) × List (List UInt8) => (⟨[(0, .int .i64 m), (1, .sl 1 (strsA (pre ++ x :: post))), (5, .int .i64 p.1.length)], []⟩ : St)) (fun p => pre ++ x :: post = p.1 ++ p.2 ∧ p.1.all (dPlain m) = true) (fun p => p.2.length) (pre, x :: post) = LQ at good ⊢
      simp [acall, h6, con_DPlain, big, hx]
      exact ⟨fun _ => ⟨bad, good⟩, fun hge => by omega⟩

theorem trimL_length (s : List UInt8) : (trimL s).length ≤ s.length := by
  unfold trimL
  exact (List.dropWhile_sublist _).length_le
theorem trimR_length (s : List UInt8) : (trimR s).length ≤ s.length := by
  unfold trimR
  have := (List.dropWhile_sublist (fun b : UInt8 => isWs b.toNat) (l := s.reverse)).length_le
  simpa using this
theorem trimS_length (s : List UInt8) : (trimS s).length ≤ s.length := Nat.le_trans (trimR_length _) (trimL_length _)

theorem cutAt_length {c : Int} : ∀ {s a b : List UInt8}, cutAt c s = some (a, b) → s.length = a.length + b.length + 1
  | [], a, b, h => by simp [cutAt] at h
  | x :: r, a, b, h => by
    simp only [cutAt] at h
    split at h
    · simp at h; obtain ⟨rfl, rfl⟩ := h; simp
    · cases hr : cutAt c r with
      | none => simp [hr] at h
      | some p =>
        simp [hr] at h
        obtain ⟨rfl, rfl⟩ := h
        have := cutAt_length (a := p.1) (b := p.2) hr
        simp; omega

theorem joinGo_length : ∀ (s out : List UInt8) (w : Bool), (joinGo out w s).length ≤ out.length + 2 * s.length
  | [], out, w => by simp [joinGo]
  | x :: r, out, w => by
    simp only [joinGo]
    split
    · have := joinGo_length r out (decide (0 < out.length)); simp; omega
    · have := joinGo_length r ((if w then out ++ [32] else out) ++ [x]) false
      have h2 : ((if w then out ++ [32] else out) ++ [x]).length ≤ out.length + 2 := by split <;> simp
      simp only [List.length_cons]; omega

/-- A field in a canonical form. -/
def fieldOf (form field : List UInt8) : List UInt8 :=
  if form = simpleB then field else match cutAt 58 field with
    | none => trimS (lowS field) ++ [58, 13, 10]
    | some p => trimS (lowS p.1) ++ [58] ++ joinGo [] false p.2 ++ [13, 10]

def con_DFieldOf : List AV → Option AV
  | [.str form, .str field] => if field.length < mid then some (.str (fieldOf form field)) else none
  | _ => none

theorem ok_DFieldOf (Γ : Gam) (h2 : Γ.fn 2 = con_dCut) (h3 : Γ.fn 3 = con_DTrim) (h4 : Γ.fn 4 = con_DLower) (h5 : Γ.fn 5 = con_dJoined) : ∀ args r, con_DFieldOf args = some r → runs Γ c_spec_DFieldOf args (fun v => v = r) := by
  intro args r h
  simp only [con_DFieldOf] at h
  split at h <;> (try simp at h; done)
  rename_i form field
  obtain ⟨hlen, rfl⟩ := ite_some h
  clear h
  simp only [mid] at hlen
  have e1 : field.length < big := by unfold big; omega
  have t1 := trimS_length (lowS field)
  simp at t1
  simp [c_spec_DFieldOf]
  refine ⟨fun h => by simp [fieldOf, simpleB, h], fun h => ?_⟩
  simp [acall, h2, con_dCut, e1]
  cases hc : cutAt 58 field with
  | none =>
    simp [cutV, hc, acall, h4, con_DLower, e1, h3, con_DTrim]
    have : trimS (lowS field) ++ [58, 13, 10] = fieldOf form field := by simp [fieldOf, simpleB, h, hc]
    refine ⟨by omega, this⟩
  | some p =>
    obtain ⟨n, v⟩ := p
    have hl := cutAt_length hc
    have e2 : n.length < big := by unfold big; omega
    have e3 : v.length < mid := by unfold mid; omega
    have t2 := trimS_length (lowS n)
    simp at t2
    have t3 := joinGo_length v [] false
    simp at t3
    simp [cutV, hc, acall, h4, con_DLower, e2, h3, con_DTrim, h5, con_dJoined, e3]
    refine ⟨by omega, by omega, by omega, ?_⟩
    simp [fieldOf, simpleB, h, hc]
end Wax

/- Loops with a named end; growing slices; what a caller gets back. -/
namespace Wax
open Go (IntKind)

/-- A loop by a ghost; a round's end is a state of a smaller ghost. -/
theorem awp_loop2 {σ : Type} {Γ : Gam} {Q : APost} {st : St} {live : List Nat} {c : SCode} (f : σ → St) (ok : σ → Prop) (m : σ → Nat) (s0 : σ) (h0 : norm live st = f s0) (hok : ok s0)
    (hr : ∀ s, ok s → ∀ LQ : St → Prop, (∀ s', ok s' → m s' < m s → ∀ st, norm live st = f s' → LQ st) → awp Γ c (thenQ LQ Q) (f s)) : awp Γ (.loop live c) Q st := by
  refine awp_loop f ok m s0 h0 hok fun s hs => hr s hs _ ?_
  intro s' h1 h2 st h3
  exact ⟨s', h3, h1, h2⟩

@[simp] theorem reach_nil {hp : List (Nat × AObj)} {n : Nat} {acc : List Nat} : reach hp n [] acc = acc := by cases n <;> rfl
theorem reach_succ {hp : List (Nat × AObj)} {n i : Nat} {r acc : List Nat} : reach hp (n + 1) (i :: r) acc = if acc.contains i then reach hp n r acc else reach hp n (r ++ (match hlk hp i with | some o => refsO o | none => [])) (acc ++ [i]) := rfl

/-- A slice that grows from nil. -/
def grV (d es n : Nat) : AV := match n with | 0 => .nilS | n + 1 => .msl d es 0 (n + 1)
def grH (d n : Nat) (cs : List AV) : List (Nat × AObj) := match n with | 0 => [] | _ + 1 => [(d, .cells cs)]
@[simp] theorem grV_zero {d es : Nat} : grV d es 0 = .nilS := rfl
@[simp] theorem grH_zero {d : Nat} {cs : List AV} : grH d 0 cs = [] := rfl
@[simp] theorem grV_succ {d es n : Nat} : grV d es (n + 1) = .msl d es 0 (n + 1) := rfl
@[simp] theorem grH_succ {d n : Nat} {cs : List AV} : grH d (n + 1) cs = [(d, .cells cs)] := rfl

@[simp] theorem strsA_nil : strsA [] = [] := rfl
@[simp] theorem strsA_cons {x : List UInt8} {l : List (List UInt8)} : strsA (x :: l) = .str x :: strsA l := rfl
@[simp] theorem strsA_app {l m : List (List UInt8)} : strsA (l ++ m) = strsA l ++ strsA m := by simp [strsA]
@[simp] theorem atoms_strsA {l : List (List UInt8)} : atoms (strsA l) = true := by induction l <;> simp_all
@[simp] theorem killL_strsA {d : Nat} {l : List (List UInt8)} : killL d (strsA l) = strsA l := by induction l <;> simp_all
@[simp] theorem hasRefL_strsA {l : List (List UInt8)} : hasRefL (strsA l) = false := by induction l <;> simp_all
@[simp] theorem refsL_strsA {l : List (List UInt8)} : refsL (strsA l) = [] := by induction l <;> simp_all
@[simp] theorem mapIdL_strsA {g : Nat → Nat} {l : List (List UInt8)} : mapIdL g (strsA l) = strsA l := by induction l <;> simp_all
@[simp] theorem hasRefL_bcA {l : List UInt8} : hasRefL (bcA l) = false := by induction l <;> simp_all
@[simp] theorem refsL_bcA {l : List UInt8} : refsL (bcA l) = [] := by induction l <;> simp_all
@[simp] theorem mapIdL_bcA {g : Nat → Nat} {l : List UInt8} : mapIdL g (bcA l) = bcA l := by induction l <;> simp_all
@[simp] theorem strsA_drop {l : List (List UInt8)} {i : Nat} : (strsA l).drop i = strsA (l.drop i) := by simp [strsA, List.map_drop]
@[simp] theorem strsA_take {l : List (List UInt8)} {i : Nat} : (strsA l).take i = strsA (l.take i) := by simp [strsA, List.map_take]
@[simp] theorem strsA_set {l : List (List UInt8)} {i : Nat} {x : List UInt8} : (strsA l).set i (.str x) = strsA (l.set i x) := by simp [strsA, List.map_set]
@[simp] theorem snapWL_strsA {g : AV → AV} {l : List (List UInt8)} : snapWL g (strsA l) = strsA l := by induction l <;> simp_all
@[simp] theorem snapWL_bcA {g : AV → AV} {l : List UInt8} : snapWL g (bcA l) = bcA l := by induction l <;> simp_all
@[simp] theorem map_snap_strsA {n : Nat} {hp : List (Nat × AObj)} {l : List (List UInt8)} : (strsA l).map (snap (n + 1) hp) = strsA l := by induction l <;> simp_all [snap]
@[simp] theorem map_snap_bcA {n : Nat} {hp : List (Nat × AObj)} {l : List UInt8} : (bcA l).map (snap (n + 1) hp) = bcA l := by induction l <;> simp_all [snap]

@[simp] theorem refsL_app {a b : List AV} : refsL (a ++ b) = refsL a ++ refsL b := by induction a <;> simp_all
@[simp] theorem mapIdL_app {g : Nat → Nat} {a b : List AV} : mapIdL g (a ++ b) = mapIdL g a ++ mapIdL g b := by induction a <;> simp_all
@[simp] theorem hasRefL_appB {a b : List AV} : hasRefL (a ++ b) = (hasRefL a || hasRefL b) := by induction a <;> simp_all [Bool.or_assoc]
@[simp] theorem snapWL_app {g : AV → AV} {a b : List AV} : snapWL g (a ++ b) = snapWL g a ++ snapWL g b := by induction a <;> simp_all
@[simp] theorem map_snapW_strsA {g : AV → AV} {l : List (List UInt8)} : (strsA l).map (snapW g) = strsA l := by induction l <;> simp_all
@[simp] theorem map_snapW_bcA {g : AV → AV} {l : List UInt8} : (bcA l).map (snapW g) = bcA l := by induction l <;> simp_all
@[simp high] theorem aload_ref {hp : List (Nat × AObj)} {id off : Nat} : aload hp none (.ref id off) = (oCells (hlk hp id)).bind fun cs => cs[off]?.bind fun c => if atom c = true then some c else none := by
  simp only [aload]
  cases hlk hp id with
  | none => rfl
  | some o => cases o <;> simp only [oCells, Option.bind_some, loadC_drop] <;> rfl
theorem get_mid {α : Type} {a b : List α} {x : α} {n : Nat} (h : a.length = n) : (a ++ x :: b)[n]? = some x := by
  subst h; rw [List.getElem?_append_right (Nat.le_refl _)]; simp
theorem set_mid {α : Type} {a b : List α} {x y : α} {n : Nat} (h : a.length = n) : (a ++ x :: b).set n y = a ++ y :: b := by
  subst h; simp
@[simp] theorem spliceL_more {cs : List AV} {i : Nat} {x y : AV} {r : List AV} : spliceL cs i (x :: y :: r) = spliceL (cs.set i x) (i + 1) (y :: r) := rfl
@[simp] theorem killL_repl {d n : Nat} {v : AV} : killL d (List.replicate n v) = List.replicate n (kill d v) := by induction n <;> simp_all [List.replicate_succ]
@[simp] theorem refsL_repl {n : Nat} {v : AV} (h : refs v = []) : refsL (List.replicate n v) = [] := by induction n <;> simp_all [List.replicate_succ]
@[simp] theorem mapIdL_repl {g : Nat → Nat} {n : Nat} {v : AV} : mapIdL g (List.replicate n v) = List.replicate n (mapId g v) := by induction n <;> simp_all [List.replicate_succ]
@[simp] theorem atoms_repl {n : Nat} {v : AV} (h : atom v = true) : atoms (List.replicate n v) = true := by induction n <;> simp_all [List.replicate_succ]
theorem xor_neg1 (n : Int) : IntKind.i64.wrap ((BitVec.ofInt 64 (-1) ^^^ BitVec.ofInt 64 n).toNat : Int) = IntKind.i64.wrap (-n - 1) := by
  have e : BitVec.ofInt 64 (-1) ^^^ BitVec.ofInt 64 n = ~~~ BitVec.ofInt 64 n := by
    have : BitVec.ofInt 64 (-1) = BitVec.allOnes 64 := by decide
    rw [this, BitVec.allOnes_xor]
  rw [e, BitVec.toNat_not, BitVec.toNat_ofInt, IntKind.wrap_i64, IntKind.wrap_i64]
  omega
@[simp high] theorem aun_xor64 {n : Int} : aun .xor (.int .i64 n) = some (.int .i64 (IntKind.i64.wrap (-n - 1))) := by
  have := xor_neg1 n
  show some (AV.int .i64 (IntKind.i64.wrap ((BitVec.ofInt 64 (-1) ^^^ BitVec.ofInt 64 n).toNat : Int))) = _
  rw [this]
@[simp high] theorem aun_not {b : Bool} : aun .not (.bool b) = some (.bool (!b)) := rfl
@[simp high] theorem aun_neg {k : IntKind} {n : Int} : aun .neg (.int k n) = some (.int k (k.wrap (0 - n))) := rfl

section
variable {n : Nat} {hp : List (Nat × AObj)}
@[simp] theorem snap_junk : snap (n + 1) hp .junk = .junk := rfl
@[simp] theorem snap_bool {b} : snap (n + 1) hp (.bool b) = .bool b := rfl
@[simp] theorem snap_int {k m} : snap (n + 1) hp (.int k m) = .int k m := rfl
@[simp] theorem snap_str {s} : snap (n + 1) hp (.str s) = .str s := rfl
@[simp] theorem snap_nilI : snap (n + 1) hp .nilI = .nilI := rfl
@[simp] theorem snap_nilP : snap (n + 1) hp .nilP = .nilP := rfl
@[simp] theorem snap_nilF : snap (n + 1) hp .nilF = .nilF := rfl
@[simp] theorem snap_nilM : snap (n + 1) hp .nilM = .nilM := rfl
@[simp] theorem snap_nilS : snap (n + 1) hp .nilS = .nilS := rfl
@[simp] theorem snap_sl {e xs} : snap (n + 1) hp (.sl e xs) = .sl e xs := rfl
@[simp] theorem snap_ptr {cs} : snap (n + 1) hp (.ptr cs) = .ptr cs := rfl
@[simp] theorem snap_bx {cs} : snap (n + 1) hp (.bx cs) = .bx cs := rfl
@[simp] theorem snap_mp {es} : snap (n + 1) hp (.mp es) = .mp es := rfl
@[simp] theorem snap_ifc {t v} : snap (n + 1) hp (.ifc t v) = .ifc t (snap (n + 1) hp v) := rfl
theorem snapWL_map {g : AV → AV} : ∀ l : List AV, snapWL g l = l.map (snapW g)
  | [] => rfl
  | x :: r => by simp [snapWL, snapWL_map r]
@[simp] theorem snap_agg {cs} : snap (n + 1) hp (.agg cs) = .agg (cs.map (snap (n + 1) hp)) := by
  show AV.agg (snapWL _ cs) = _
  rw [snapWL_map]; rfl
@[simp] theorem snap_tup {cs} : snap (n + 1) hp (.tup cs) = .tup (cs.map (snap (n + 1) hp)) := by
  show AV.tup (snapWL _ cs) = _
  rw [snapWL_map]; rfl
@[simp] theorem snap_fn {f cs} : snap (n + 1) hp (.fn f cs) = .fn f (cs.map (snap (n + 1) hp)) := by
  show AV.fn f (snapWL _ cs) = _
  rw [snapWL_map]; rfl
@[simp] theorem snap_ref {id off} : snap (n + 1) hp (.ref id off) = match oCells (hlk hp id) with | some cs => .ptr ((cs.drop off).map (snap n hp)) | none => .junk := by
  show resolveA (snap n hp) hp (.ref id off) = _
  simp only [resolveA]
  cases hlk hp id with
  | none => rfl
  | some o => cases o <;> rfl
@[simp] theorem snap_msl {id es off m} : snap (n + 1) hp (.msl id es off m) = match oCells (hlk hp id) with | some cs => if off + m * es ≤ cs.length ∧ atoms cs = true ∧ 0 < es then .sl es (elems es m ((cs.drop off).map (snap n hp))) else .junk | none => .junk := by
  show resolveA (snap n hp) hp (.msl id es off m) = _
  simp only [resolveA]
  cases hlk hp id with
  | none => rfl
  | some o => cases o <;> rfl
@[simp] theorem snap_mref {id} : snap (n + 1) hp (.mref id) = match oMp (hlk hp id) with | some es => .mp es | none => .junk := by
  show resolveA (snap n hp) hp (.mref id) = _
  simp only [resolveA]
  cases hlk hp id with
  | none => rfl
  | some o => cases o <;> rfl
end
end Wax

/- The program's own functions: searching, cutting, letters, white space. -/
namespace Wax
open Go (IntKind)

/-- Where a text stands first in another. -/
def findAt (sub : List UInt8) : List UInt8 → Nat → Option Nat
  | [], n => if sub = [] then some n else none
  | x :: r, n => if sub.isPrefixOf (x :: r) then some n else findAt sub r (n + 1)

def idxV (sub s : List UInt8) : Int := match findAt sub s 0 with | some n => (n : Int) | none => -1

def con_zzIndex : List AV → Option AV
  | [.str s, .str sub] => if s.length < big ∧ sub.length < big then some (.int .i64 (idxV sub s)) else none
  | _ => none

theorem isPrefixOf_take (sub : List UInt8) (s : List UInt8) (h : sub.length ≤ s.length) : sub.isPrefixOf s = decide (s.take sub.length = sub) := by
  induction sub generalizing s with
  | nil => simp
  | cons a r ih =>
    cases s with
    | nil => simp at h
    | cons b s =>
      simp at h
      simp only [List.isPrefixOf, ih s h, List.length_cons, List.take_succ_cons]
      by_cases e : a = b
      · subst e; simp
      · have e' : ¬ b = a := fun x => e x.symm
        simp [e, e']

theorem isPrefixOf_long (sub : List UInt8) (s : List UInt8) (h : s.length < sub.length) : sub.isPrefixOf s = false := by
  induction sub generalizing s with
  | nil => simp at h
  | cons a r ih =>
    cases s with
    | nil => simp [List.isPrefixOf]
    | cons b s =>
      simp at h
      simp [List.isPrefixOf, ih s h]

theorem findAt_none (sub : List UInt8) : ∀ (s : List UInt8) (n : Nat), s.length < sub.length → findAt sub s n = none
  | [], n, h => by
    have : sub ≠ [] := by intro e; subst e; simp at h
    simp [findAt, this]
  | x :: r, n, h => by
    simp only [findAt, isPrefixOf_long sub (x :: r) h, Bool.false_eq_true, if_false]
    exact findAt_none sub r (n + 1) (by simp at h; omega)

theorem ok_zzIndex (Γ : Gam) : ∀ args r, con_zzIndex args = some r → runs Γ c_dkim_zzIndex args (fun v => v = r) := by
  intro args r h
  simp only [con_zzIndex] at h
  split at h <;> (try simp at h; done)
  rename_i s sub
  obtain ⟨⟨hs, hb⟩, rfl⟩ := ite_some h
  clear h
  simp only [big] at hs hb
  simp [c_dkim_zzIndex]
  refine awp_loop (σ := List UInt8 × List UInt8) (fun p => ⟨[(0, .str s), (1, .str sub), (5, .int .i64 p.1.length)], []⟩) (fun p => s = p.1 ++ p.2 ∧ findAt sub s 0 = findAt sub p.2 p.1.length) (fun p => p.2.length) ([], s) (by simp) (by simp) ?_
  rintro ⟨pre, post⟩ ⟨hs1, hs2⟩
  simp only at hs1 hs2
  subst hs1
  simp at hs
  simp (disch := omega) [wrap64]
  refine ⟨fun hle => ?_, fun hlt => ?_⟩
  · have et : ((pre.length : Int) + (sub.length : Int)).toNat = pre.length + sub.length := by omega
    have e : List.drop pre.length (List.take (pre.length + sub.length) (pre ++ post)) = post.take sub.length := by
      rw [List.take_length_add_append, List.drop_left]
    rw [et, e]
    refine ⟨⟨by omega, hle⟩, fun h => ?_, fun h => ?_⟩
    · rw [idxV, hs2]
      cases post with
      | nil =>
        have : sub = [] := by cases sub <;> simp at hle ⊢
        simp [findAt, this]
      | cons x post => simp only [findAt, isPrefixOf_take sub (x :: post) hle, h, decide_true, if_true]
    · cases post with
      | nil =>
        have : sub = [] := by cases sub <;> simp at hle ⊢
        subst this; simp at h
      | cons x post =>
        refine ⟨(pre ++ [x], post), by simp, ⟨by simp, ?_⟩, by simp⟩
        rw [hs2]
        simp only [findAt, isPrefixOf_take sub (x :: post) hle, h, decide_false, Bool.false_eq_true, if_false]
        simp
  · rw [idxV, hs2, findAt_none sub post _ (by omega)]

/-- Of a text of one byte. -/
theorem findAt_one (c : UInt8) : ∀ (s : List UInt8) (n : Nat), findAt [c] s n = (cutAt c.toNat s).map fun p => n + p.1.length
  | [], n => by simp [findAt, cutAt]
  | x :: r, n => by
    simp only [findAt, cutAt, List.isPrefixOf, Bool.and_true]
    by_cases e : x = c
    · subst e; simp
    · have e1 : ¬ (x.toNat : Int) = (c.toNat : Int) := fun h => e (UInt8.toNat_inj.1 (by omega))
      have e2 : (c == x) = false := by simp; exact fun h => e h.symm
      simp only [e2, Bool.false_eq_true, if_false, if_neg e1, findAt_one c r (n + 1), Option.map_map]
      congr 1; funext p; simp; omega

theorem cutAt_eq {c : Int} : ∀ {s a b : List UInt8}, cutAt c s = some (a, b) → ∃ x : UInt8, (x.toNat : Int) = c ∧ s = a ++ x :: b ∧ noB c a
  | [], a, b, h => by simp [cutAt] at h
  | x :: r, a, b, h => by
    simp only [cutAt] at h
    split at h
    · rename_i e; simp at h; obtain ⟨rfl, rfl⟩ := h; exact ⟨x, e, by simp, by simp [noB]⟩
    · rename_i e
      cases hr : cutAt c r with
      | none => simp [hr] at h
      | some p =>
        simp [hr] at h
        obtain ⟨rfl, rfl⟩ := h
        obtain ⟨y, h1, h2, h3⟩ := cutAt_eq (a := p.1) (b := p.2) hr
        refine ⟨y, h1, by rw [h2]; simp, ?_⟩
        intro z hz
        simp at hz
        rcases hz with rfl | hz
        · exact e
        · exact h3 z hz

/-- Cut at a text of one byte. -/
def con_zzCut : List AV → Option AV
  | [.str s, .str [c]] => if s.length < big then some (cutV c.toNat s) else none
  | _ => none

theorem ok_zzCut (Γ : Gam) (h22 : Γ.fn 22 = con_zzIndex) : ∀ args r, con_zzCut args = some r → runs Γ c_dkim_zzCut args (fun v => v = r) := by
  intro args r h
  simp only [con_zzCut] at h
  split at h <;> (try simp at h; done)
  rename_i s c
  obtain ⟨hs, rfl⟩ := ite_some h
  clear h
  simp [c_dkim_zzCut]
  have h1 : 1 < big := by decide
  simp [acall, h22, con_zzIndex, hs, h1]
  simp only [big] at hs
  simp only [idxV, findAt_one]
  cases hc : cutAt c.toNat s with
  | none => simp [cutV, hc]
  | some p =>
    obtain ⟨a, b⟩ := p
    obtain ⟨x, hx1, hx2, hx3⟩ := cutAt_eq hc
    subst hx2
    simp at hs
    simp (disch := omega) [cutV, hc, wrap64]
    have e2 : ((a.length : Int) + 1).toNat = a.length + 1 := by omega
    omega
end Wax

/- The program's own functions: splitting, lists of tags. -/
namespace Wax
open Go (IntKind)

/-- What stands between the places of a byte. -/
def splitB (b : UInt8) : List UInt8 → List (List UInt8)
  | [] => [[]]
  | x :: r => if x = b then [] :: splitB b r else match splitB b r with
    | [] => [[x]]
    | h :: t => (x :: h) :: t

theorem splitB_ne (b : UInt8) (s : List UInt8) : splitB b s ≠ [] := by
  cases s with
  | nil => simp [splitB]
  | cons x r => simp only [splitB]; split; simp; split <;> simp

theorem splitB_cut (b : UInt8) : ∀ (s : List UInt8), splitB b s = match cutAt b.toNat s with | none => [s] | some (a, c) => a :: splitB b c
  | [] => rfl
  | x :: r => by
    have ih := splitB_cut b r
    simp only [splitB, cutAt]
    by_cases e : x = b
    · subst e; simp
    · have e1 : ¬ (x.toNat : Int) = (b.toNat : Int) := fun h => e (UInt8.toNat_inj.1 (by omega))
      rw [if_neg e, if_neg e1, ih]
      cases cutAt b.toNat r with
      | none => rfl
      | some p => rfl

theorem splitB_length (b : UInt8) : ∀ (s : List UInt8), (splitB b s).length ≤ s.length + 1
  | [] => by simp [splitB]
  | x :: r => by
    have ih := splitB_length b r
    simp only [splitB]
    split
    · simp; omega
    · split
      · simp
      · rename_i h t e; rw [e] at ih; simp at ih ⊢; omega

theorem splitB_mem_length (b : UInt8) : ∀ (s p : List UInt8), p ∈ splitB b s → p.length ≤ s.length
  | [], p, h => by simp [splitB] at h; subst h; simp
  | x :: r, p, h => by
    have ih := splitB_mem_length b r
    simp only [splitB] at h
    split at h
    · rcases List.mem_cons.1 h with e | h
      · subst e; simp
      · have := ih p h; simp; omega
    · split at h
      · simp at h; subst h; simp
      · rename_i hd t e
        rcases List.mem_cons.1 h with e' | h
        · subst e'
          have := ih hd (by rw [e]; simp); simp; omega
        · have := ih p (by rw [e]; simp [h]); simp; omega

def con_zzSplit : List AV → List (Nat × AObj) → Option (AV × List (Nat × AObj))
  | [.str s, .str [b]], [] => if s.length < mid then some (.msl 0 1 0 (splitB b s).length, [(0, .cells (strsA (splitB b s)))]) else none
  | _, _ => none

theorem ok_zzSplit (Γ : Gam) (h22 : Γ.fn 22 = con_zzIndex) : ∀ args hp q, con_zzSplit args hp = some q → runsS Γ c_dkim_zzSplit args hp (fun v => v = some q) := by
  intro args hp q h
  simp only [con_zzSplit] at h
  split at h <;> (try simp at h; done)
  rename_i s b
  obtain ⟨hs, rfl⟩ := ite_some h
  clear h
  simp only [mid] at hs
  have h1 : 1 < big := by decide
  simp [c_dkim_zzSplit, t_dkim_zzSplit_4]
  refine awp_loop2 (σ := List (List UInt8) × List UInt8) (fun p => ⟨[(0, .str p.2), (1, .str [b]), (5, grV 51 1 p.1.length)], grH 51 p.1.length (strsA p.1)⟩)
    (fun p => splitB b s = p.1 ++ splitB b p.2 ∧ p.1.length + p.2.length ≤ s.length) (fun p => p.2.length) ([], s) (by simp) (by simp) ?_
  rintro ⟨done, cur⟩ ⟨hs1, hs2⟩ LQ hLQ
  simp only at hs1 hs2
  have hcb : cur.length < big := by simp only [big]; omega
  simp [b_dkim_zzSplit_3, acall, h22, con_zzIndex, hcb, h1]
  simp only [idxV, findAt_one]
  rw [splitB_cut b cur] at hs1
  cases hc : cutAt b.toNat cur with
  | none =>
    simp only [hc] at hs1
    rw [hs1]
    cases done with
    | nil => simp [reach_succ]
    | cons d0 dr =>
      simp [reach_succ]
      simp at hs2
      omega
  | some p =>
    obtain ⟨a, c⟩ := p
    simp only [hc] at hs1
    obtain ⟨x, hx1, hx2, hx3⟩ := cutAt_eq hc
    subst hx2
    simp at hs2
    have fin : ∀ st, norm [0, 1, 5] st = ⟨[(0, .str c), (1, .str [b]), (5, grV 51 1 (done ++ [a]).length)], grH 51 (done ++ [a]).length (strsA (done ++ [a]))⟩ → LQ st := by
      intro st hst
      exact hLQ (done ++ [a], c) ⟨by simpa using hs1, by simp; omega⟩ (by simp; omega) st hst
    have e2 : ((a.length : Int) + 1).toNat = a.length + 1 := by omega
    cases done with
    | nil =>
      simp (disch := omega) [wrap64]
      refine ⟨by omega, by omega, ⟨by omega, by omega⟩, fin _ ?_⟩
      simp
    | cons d0 dr =>
      simp at hs2
      simp (disch := omega) [wrap64]
      refine ⟨by omega, by omega, by omega, ⟨by omega, by omega⟩, fin _ ?_⟩
      simp
end Wax

/- The program's own functions (2): letters, white space, of texts of ASCII. -/
namespace Wax
open Go (IntKind)

def ascii (s : List UInt8) : Bool := s.all fun b => decide (b.toNat < 128)

theorem ascii_cons {x : UInt8} {s : List UInt8} : ascii (x :: s) = (decide (x.toNat < 128) && ascii s) := rfl
theorem ascii_app {s t : List UInt8} : ascii (s ++ t) = (ascii s && ascii t) := by simp [ascii]

def con_zzToLower : List AV → Option AV
  | [.str s] => if s.length < mid ∧ ascii s = true then some (.str (lowS s)) else none
  | _ => none

theorem ok_zzToLower (Γ : Gam) : ∀ args r, con_zzToLower args = some r → runs Γ c_dkim_zzToLower args (fun v => v = r) := by
  intro args r h
  simp only [con_zzToLower] at h
  split at h <;> (try simp at h; done)
  rename_i s
  obtain ⟨⟨hs, ha⟩, rfl⟩ := ite_some h
  clear h
  simp only [mid] at hs
  simp [c_dkim_zzToLower]
  refine awp_loop (σ := List UInt8 × List UInt8 × Nat) (fun p => ⟨[(0, .str s), (3, outV p.2.2 (lowS p.1)), (4, .int .i64 p.1.length)], outH p.2.2 (lowS p.1)⟩)
    (fun p => s = p.1 ++ p.2.1 ∧ (p.2.2 = 18 ∨ p.2.2 = 31)) (fun p => p.2.1.length) ([], s, 18) (by simp) (by simp) ?_
  rintro ⟨pre, post, d⟩ ⟨hs1, hd⟩
  simp only at hs1 hd
  subst hs1
  cases post with
  | nil =>
    by_cases ho : pre = []
    · subst ho; simp
    · have hne : lowS pre ≠ [] := by intro e; apply ho; simpa [lowS] using e
      have e : List.take pre.length (lowS pre) = lowS pre := List.take_of_length_le (by simp)
      simp [outV_ne hne, outH_ne hne, e]
  | cons x post =>
    simp at hs
    have hx : x.toNat < 128 := by
      have := (by simpa [ascii_app, ascii_cons] using ha : ascii pre = true ∧ x.toNat < 128 ∧ ascii post = true)
      exact this.2.1
    have hl := lowB_toNat x
    have step : ∀ (n : Int) d', n = (lowB x).toNat → (d' = 18 ∨ d' = 31) →
        loopQ [0, 3, 4] (fun p : List UInt8 × List UInt8 × Nat => ⟨[(0, .str (pre ++ x :: post)), (3, outV p.2.2 (lowS p.1)), (4, .int .i64 p.1.length)], outH p.2.2 (lowS p.1)⟩)
          (fun p => pre ++ x :: post = p.1 ++ p.2.1 ∧ (p.2.2 = 18 ∨ p.2.2 = 31)) (fun p => p.2.1.length) (pre, x :: post, d)
          ⟨[(0, .str (pre ++ x :: post)), (3, .msl d' 1 0 (pre.length + 1)), (4, .int .i64 (IntKind.i64.wrap (pre.length + 1)))], [(d', .cells (bcA (lowS pre) ++ [.int .u8 n]))]⟩ := by
      intro n d' hn h1
      subst hn
      refine ⟨(pre ++ [x], post, d'), ?_, ⟨by simp, h1⟩, by simp⟩
      have e1 : outV d' (lowS (pre ++ [x])) = .msl d' 1 0 (pre.length + 1) := by rw [outV_ne (by simp)]; simp
      have e2 : outH d' (lowS (pre ++ [x])) = [(d', .cells (bcA (lowS pre) ++ [.int .u8 (lowB x).toNat]))] := by rw [outH_ne (by simp)]; simp
      simp (disch := omega) only [e1, e2]
      simp (disch := omega) [wrap64]
    generalize hl2 : loopQ [0, 3, 4] (fun p : List UInt8 × List UInt8 × Nat => (⟨[(0, .str (pre ++ x :: post)), (3, outV p.2.2 (lowS p.1)), (4, .int .i64 p.1.length)], outH p.2.2 (lowS p.1)⟩ : St))
          (fun p => pre ++ x :: post = p.1 ++ p.2.1 ∧ (p.2.2 = 18 ∨ p.2.2 = 31)) (fun p => p.2.1.length) (pre, x :: post, d) = LQ at step ⊢
    clear hl2
    by_cases hlow : 65 ≤ (x.toNat : Int) ∧ (x.toNat : Int) ≤ 90
    · obtain ⟨l1, l2⟩ := hlow
      rw [if_pos ⟨l1, l2⟩] at hl
      have w1 : IntKind.u8.wrap ((x.toNat : Int) + 97) = (x.toNat : Int) + 97 := Go.IntWalk.u8_in _ ⟨by omega, by omega⟩
      have w2 : IntKind.u8.wrap ((x.toNat : Int) + 97 - 65) = (x.toNat : Int) + 97 - 65 := Go.IntWalk.u8_in _ ⟨by omega, by omega⟩
      have st := step ((x.toNat : Int) + 97 - 65) 31 (by omega) (.inr rfl)
      have tk : List.take pre.length (lowS pre) = lowS pre := List.take_of_length_le (by simp)
      by_cases ho : pre = []
      · subst ho
        simp [w1, w2, l1, l2]
        simpa using st
      · have hne : lowS pre ≠ [] := by intro e; apply ho; simpa [lowS] using e
        rcases hd with rfl | rfl
        · simp [outV_ne hne, outH_ne hne, w1, w2, l1, l2, tk]
          exact ⟨fun _ => ⟨by omega, st⟩, by omega⟩
        · simp [outV_ne hne, outH_ne hne, w1, w2, l1, l2, tk]
          exact ⟨fun _ => ⟨by omega, st⟩, by omega⟩
    · rw [if_neg hlow] at hl
      have st := step (x.toNat : Int) 18 (by omega) (.inl rfl)
      have tk : List.take pre.length (lowS pre) = lowS pre := List.take_of_length_le (by simp)
      have hx226 : ¬ x = 226 := by intro e; subst e; simp at hx
      have et : ((pre.length : Int) + 3).toNat = pre.length + 3 := by omega
      have e3 : List.drop pre.length (List.take (pre.length + 3) (pre ++ x :: post)) = x :: post.take 2 := by
        rw [List.take_length_add_append, List.drop_left]; rfl
      have ew : ((pre.length : Int) + ((post.length : Int) + 1) - (pre.length : Int)) = (post.length : Int) + 1 := by omega
      have hcase : (¬ 65 ≤ (x.toNat : Int)) ∨ ((65 ≤ (x.toNat : Int)) ∧ ¬ (x.toNat : Int) ≤ 90) := by omega
      have ewr : IntKind.i64.wrap ((pre.length : Int) + 1) = (pre.length : Int) + 1 := wrap64 (by omega) (by omega)
      rw [ewr] at st
      by_cases ho : pre = []
      · subst ho
        simp at st e3
        rcases hcase with l1 | ⟨l1, l2⟩
        · simp [l1]
          simp (disch := omega) [wrap64, l1, hx226, e3]
          exact ⟨fun h => ⟨h, st⟩, fun _ => st⟩
        · simp [l1, l2]
          simp (disch := omega) [wrap64, l1, l2, hx226, e3]
          exact ⟨fun h => ⟨h, st⟩, fun _ => st⟩
      · have hne : lowS pre ≠ [] := by intro e; apply ho; simpa [lowS] using e
        rcases hcase with l1 | ⟨l1, l2⟩
        · rcases hd with rfl | rfl
          · simp [outV_ne hne, outH_ne hne, l1]
            simp (disch := omega) [tk, wrap64, l1, hx226, et, e3, ew]
            exact ⟨fun _ => ⟨fun h => ⟨⟨by omega, h⟩, by omega, st⟩, fun _ => ⟨by omega, st⟩⟩, by omega⟩
          · simp [outV_ne hne, outH_ne hne, l1]
            simp (disch := omega) [tk, wrap64, l1, hx226, et, e3, ew]
            exact ⟨fun _ => ⟨fun h => ⟨⟨by omega, h⟩, by omega, st⟩, fun _ => ⟨by omega, st⟩⟩, by omega⟩
        · rcases hd with rfl | rfl
          · simp [outV_ne hne, outH_ne hne, l1, l2]
            simp (disch := omega) [tk, wrap64, l1, l2, hx226, et, e3, ew]
            exact ⟨fun _ => ⟨fun h => ⟨⟨by omega, h⟩, by omega, st⟩, fun _ => ⟨by omega, st⟩⟩, by omega⟩
          · simp [outV_ne hne, outH_ne hne, l1, l2]
            simp (disch := omega) [tk, wrap64, l1, l2, hx226, et, e3, ew]
            exact ⟨fun _ => ⟨fun h => ⟨⟨by omega, h⟩, by omega, st⟩, fun _ => ⟨by omega, st⟩⟩, by omega⟩
end Wax

/- The program's own functions (3): white space, of ASCII. -/
namespace Wax
open Go (IntKind)

def isSp (n : Int) : Bool := decide ((9 ≤ n ∧ n ≤ 13) ∨ n = 32)

def con_zzIsSpace : List AV → Option AV
  | [.int .i32 n] => if n < 128 then some (.bool (isSp n)) else none
  | _ => none

theorem ok_zzIsSpace (Γ : Gam) : ∀ args r, con_zzIsSpace args = some r → runs Γ c_dkim_zzIsSpace args (fun v => v = r) := by
  intro args r h
  simp only [con_zzIsSpace] at h
  split at h <;> (try simp at h; done)
  rename_i n
  obtain ⟨hn, rfl⟩ := ite_some h
  clear h
  have f1 : ¬ n = 133 := by omega
  have f2 : ¬ n = 160 := by omega
  have f3 : ¬ n = 5760 := by omega
  have f4 : ¬ 8192 ≤ n := by omega
  have f5 : ¬ n = 8232 := by omega
  have f6 : ¬ n = 8233 := by omega
  have f7 : ¬ n = 8239 := by omega
  have f8 : ¬ n = 8287 := by omega
  have f9 : ¬ n = 12288 := by omega
  have key : ∀ b : Bool, ((9 ≤ n ∧ n ≤ 13) ∨ n = 32 ↔ b = true) → b = isSp n := by
    intro b hb; unfold isSp; cases b <;> simp at hb ⊢ <;> omega
  by_cases h1 : 9 ≤ n <;> by_cases h2 : n ≤ 13 <;> by_cases h3 : n = 32 <;>
    simp [c_dkim_zzIsSpace, f1, f2, f3, f4, f5, f6, f7, f8, f9, h1, h2, h3] <;> first | rfl | exact decide_eq_true (by omega) | exact decide_eq_false (by omega)

def con_closure : List AV → Option AV
  | [.int .i32 n] => some (.bool (isWs n))
  | _ => none

theorem ok_closure (Γ : Gam) : ∀ args r, con_closure args = some r → runs Γ c_dkim_relaxedCanonicalizer_CanonicalizeHeader_1 args (fun v => v = r) := by
  intro args r h
  simp only [con_closure] at h
  split at h <;> simp at h
  rename_i b
  subst h
  simp [c_dkim_relaxedCanonicalizer_CanonicalizeHeader_1, isWs]
  refine ⟨fun h => ⟨fun h2 => ⟨fun h3 => ?_, fun h3 => ?_⟩, fun h2 => ?_⟩, fun h => ?_⟩ <;> simp [*]

def con_simpleCH : List AV → Option AV
  | [_, .str s] => some (.str s)
  | _ => none

theorem ok_simpleCH (Γ : Gam) : ∀ args r, con_simpleCH args = some r → runs Γ c_dkim_simpleCanonicalizer_CanonicalizeHeader args (fun v => v = r) := by
  intro args r h
  simp only [con_simpleCH] at h
  split at h <;> simp at h
  subst h
  simp [c_dkim_simpleCanonicalizer_CanonicalizeHeader]

def con_canonicalizers : List AV → Option AV
  | [.str s] => some (if s = simpleB then .tup [.ifc 1 (.ptr []), .bool true] else if s = relaxedB then .tup [.ifc 2 (.ptr []), .bool true] else .tup [.nilI, .bool false])
  | _ => none

theorem ok_canonicalizers (Γ : Gam) : ∀ args r, con_canonicalizers args = some r → runs Γ c_dkim_canonicalizers args (fun v => v = r) := by
  intro args r h
  simp only [con_canonicalizers] at h
  split at h <;> simp at h
  rename_i s
  subst h
  simp [c_dkim_canonicalizers, simpleB, relaxedB, snap, snapW, snapWL, resolveA]
  exact ⟨fun h => by simp [h], fun h => ⟨fun h2 => by simp [h2], fun h2 => by simp [h, h2]⟩⟩

/-- The parts of a text between white space. -/
def wordsGo : List UInt8 → List UInt8 → List (List UInt8)
  | cur, [] => if cur = [] then [] else [cur]
  | cur, x :: r => if isWs x.toNat then (if cur = [] then wordsGo [] r else cur :: wordsGo [] r) else wordsGo (cur ++ [x]) r
def wordsOf (s : List UInt8) : List (List UInt8) := wordsGo [] s

def joinB : List (List UInt8) → List UInt8
  | [] => []
  | [s] => s
  | s :: r => s ++ [32] ++ joinB r

theorem wordsGo_ne : ∀ (s cur : List UInt8), cur ≠ [] → wordsGo cur s ≠ []
  | [], cur, h => by simp [wordsGo, h]
  | x :: r, cur, h => by
    simp only [wordsGo]
    split
    · simp
    · exact wordsGo_ne r _ (by simp)

def J2 (ws : List (List UInt8)) : List UInt8 := if ws = [] then [] else 32 :: joinB ws

theorem joinB_cons (c : List UInt8) (ws : List (List UInt8)) : joinB (c :: ws) = c ++ J2 ws := by
  cases ws with
  | nil => simp [joinB, J2]
  | cons d r => simp [joinB, J2]

theorem J2_ne {ws : List (List UInt8)} (h : ws ≠ []) : J2 ws = 32 :: joinB ws := by simp [J2, h]

/-- The reference's joined text is that of the words. -/
theorem joinGo_words : ∀ (s : List UInt8),
    (∀ out : List UInt8, out ≠ [] → joinGo out true s = out ++ J2 (wordsOf s)) ∧
    (joinGo [] false s = joinB (wordsOf s)) ∧
    (∀ pre cur : List UInt8, cur ≠ [] → joinGo (pre ++ cur) false s = pre ++ joinB (wordsGo cur s))
  | [] => by
    refine ⟨fun out _ => by simp [joinGo, wordsOf, wordsGo, J2], by simp [joinGo, wordsOf, wordsGo, joinB], fun pre cur h => by simp [joinGo, wordsGo, h, joinB]⟩
  | x :: r => by
    obtain ⟨hA, hB, hC⟩ := joinGo_words r
    by_cases hw : isWs x.toNat = true
    · refine ⟨fun out ho => ?_, ?_, fun pre cur hc => ?_⟩
      · have : decide (0 < out.length) = true := decide_eq_true (List.length_pos_iff.2 ho)
        simp only [joinGo, if_pos hw, this, hA out ho, wordsOf, wordsGo]
        rfl
      · simp only [joinGo, if_pos hw, wordsOf, wordsGo]
        exact hB
      · have : decide (0 < (pre ++ cur).length) = true := decide_eq_true (List.length_pos_iff.2 (by simp [hc]))
        simp only [joinGo, if_pos hw, this, hA (pre ++ cur) (by simp [hc]), wordsGo, if_neg hc, joinB_cons]
        simp [wordsOf]
    · refine ⟨fun out ho => ?_, ?_, fun pre cur hc => ?_⟩
      · have h1 := hC (out ++ [32]) [x] (by simp)
        have h2 := wordsGo_ne r [x] (by simp)
        simp only [joinGo, if_neg hw, if_true, wordsOf, wordsGo, List.nil_append, h1, J2_ne h2]
        simp
      · have h1 := hC [] [x] (by simp)
        simp only [joinGo, if_neg hw, wordsOf, wordsGo, List.nil_append] at h1 ⊢
        exact h1
      · have h1 := hC pre (cur ++ [x]) (by simp)
        simp only [joinGo, if_neg hw, wordsGo, ← List.append_assoc] at h1 ⊢
        exact h1

theorem joinB_words (s : List UInt8) : joinB (wordsOf s) = joinGo [] false s := (joinGo_words s).2.1.symm

def relaxedOf (s : List UInt8) : List UInt8 :=
  match cutAt 58 s with
  | none => trimS (lowS s) ++ [58, 13, 10]
  | some p => trimS (lowS p.1) ++ [58] ++ joinB (wordsOf p.2) ++ [13, 10]

def con_FieldsFunc : List AV → Option AV
  | [.str s, .fn 20 []] => if s.length < mid ∧ ascii s = true then some (.sl 1 (strsA (wordsOf s))) else none
  | _ => none

def con_Join : List AV → Option AV
  | [v, .str [32]] => match slStrs v with
    | some l => if (joinB l).length < mid then some (.str (joinB l)) else none
    | none => none
  | _ => none

def plain (s : List UInt8) : Bool := s.all plainB

def con_zzTrimSpace : List AV → Option AV
  | [.str s] => if s.length < mid ∧ plain s = true then some (.str (trimS s)) else none
  | _ => none

def con_relaxedCH : List AV → Option AV
  | [_, .str s] => if s.length < mid ∧ plain s = true ∧ (∀ p, cutAt 58 s = some p → (joinB (wordsOf p.2)).length < mid) then some (.str (relaxedOf s)) else none
  | _ => none

theorem plain_ascii {s : List UInt8} (h : plain s = true) : ascii s = true := by
  simp only [plain, ascii, List.all_eq_true] at h ⊢
  intro b hb
  have := of_decide_eq_true (h b hb)
  exact decide_eq_true (by omega)

theorem plain_low {s : List UInt8} (h : plain s = true) : plain (lowS s) = true := by
  simp only [plain, lowS, List.all_eq_true, List.mem_map] at h ⊢
  rintro b ⟨a, ha, rfl⟩
  have h1 := of_decide_eq_true (h a ha)
  have h2 := lowB_toNat a
  apply plainB_true
  split at h2 <;> omega

theorem ok_relaxedCH (Γ : Gam) (h16 : Γ.fn 16 = con_zzCut) (h17 : Γ.fn 17 = con_zzToLower) (h18 : Γ.fn 18 = con_zzTrimSpace) (h19 : Γ.fn 19 = con_FieldsFunc) (h21 : Γ.fn 21 = con_Join) :
    ∀ args r, con_relaxedCH args = some r → runs Γ c_dkim_relaxedCanonicalizer_CanonicalizeHeader args (fun v => v = r) := by
  intro args r h
  simp only [con_relaxedCH] at h
  split at h <;> (try simp at h; done)
  rename_i v s
  obtain ⟨⟨hs, hp, hj⟩, rfl⟩ := ite_some h
  clear h
  have e1 : s.length < big := by simp only [mid, big] at *; omega
  simp [c_dkim_relaxedCanonicalizer_CanonicalizeHeader]
  simp [acall, h16, con_zzCut, e1]
  have t1 := trimS_length (lowS s)
  simp at t1
  cases hc : cutAt 58 s with
  | none =>
    simp [cutV, hc, acall, h17, con_zzToLower, hs, plain_ascii hp, h18, con_zzTrimSpace, plain_low hp]
    simp only [mid] at hs
    refine ⟨by omega, by omega, ?_⟩
    simp [relaxedOf, hc]
  | some p =>
    obtain ⟨n, w⟩ := p
    have hl := cutAt_length hc
    obtain ⟨x, hx1, hx2, hx3⟩ := cutAt_eq hc
    have hpn : plain n = true ∧ plain w = true := by
      have h2 := hp
      rw [hx2] at h2
      simp only [plain, List.all_append, List.all_cons, Bool.and_eq_true] at h2 ⊢
      exact ⟨h2.1, h2.2.2⟩
    have e2 : n.length < mid := by simp only [mid] at *; omega
    have e3 : w.length < mid := by simp only [mid] at *; omega
    have hj' := hj (n, w) hc
    simp only at hj'
    have t2 := trimS_length (lowS n)
    simp at t2
    have hsl : slStrs (.sl 1 (strsA (wordsOf w))) = some (wordsOf w) := by simp [slStrs]
    simp [cutV, hc, acall, h17, con_zzToLower, e2, plain_ascii hpn.1, h18, con_zzTrimSpace, plain_low hpn.1, h19, con_FieldsFunc, e3, plain_ascii hpn.2, h21, con_Join, hsl, hj']
    simp only [mid] at e2 e3 hj'
    refine ⟨by omega, by omega, by omega, ?_⟩
    simp [relaxedOf, hc]

/-- A field in a form, as the program gives it; false: there is no such form. -/
def canonV (form s : List UInt8) : AV :=
  if form = simpleB then .tup [.str s, .bool true] else if form = relaxedB then .tup [.str (relaxedOf s), .bool true] else .tup [.str [], .bool false]

abbrev relOk (s : List UInt8) : Prop := s.length < mid ∧ plain s = true ∧ (∀ p, cutAt 58 s = some p → (joinB (wordsOf p.2)).length < mid)

theorem rel_ne : ¬ relaxedB = simpleB := by decide

def con_CanonicalHeader : List AV → Option AV
  | [.str form, .str s] => if relOk s then some (canonV form s) else none
  | _ => none

theorem ok_CanonicalHeader (Γ : Gam) (h15 : Γ.fn 15 = con_canonicalizers) (h30 : Γ.fn 30 = con_simpleCH) (h31 : Γ.fn 31 = con_relaxedCH) (m1 : Γ.mth 1 "CanonicalizeHeader" = some 30) (m2 : Γ.mth 2 "CanonicalizeHeader" = some 31) :
    ∀ args r, con_CanonicalHeader args = some r → runs Γ c_dkim_CanonicalHeader args (fun v => v = r) := by
  intro args r h
  simp only [con_CanonicalHeader] at h
  split at h <;> (try simp at h; done)
  rename_i form s
  obtain ⟨hr, rfl⟩ := ite_some h
  clear h
  have e : con_relaxedCH [.ptr [], .str s] = some (.str (relaxedOf s)) := by
    simp only [con_relaxedCH]
    exact if_pos hr
  by_cases f1 : form = simpleB
  · simp [c_dkim_CanonicalHeader, acall, h15, con_canonicalizers, f1, m1, h30, con_simpleCH, canonV]
  · by_cases f2 : form = relaxedB
    · simp [c_dkim_CanonicalHeader, acall, h15, con_canonicalizers, f2, rel_ne, m2, h31, e, canonV]
    · simp [c_dkim_CanonicalHeader, acall, h15, con_canonicalizers, f1, f2, canonV]

def con_DCanonField : List AV → Option AV
  | [.str form, .str s] => if relOk s then some (.str (if form = simpleB then s else if form = relaxedB then relaxedOf s else [])) else none
  | _ => none

theorem con_CanonicalHeader_eq {form s : List UInt8} (hr : relOk s) : con_CanonicalHeader [.str form, .str s] = some (canonV form s) := if_pos hr

theorem ok_DCanonField (Γ : Gam) (h13 : Γ.fn 13 = con_CanonicalHeader) : ∀ args r, con_DCanonField args = some r → runs Γ c_impl_DCanonField args (fun v => v = r) := by
  intro args r h
  simp only [con_DCanonField] at h
  split at h <;> (try simp at h; done)
  rename_i form s
  obtain ⟨hr, rfl⟩ := ite_some h
  clear h
  have e := con_CanonicalHeader_eq (form := form) hr
  clear hr
  by_cases f1 : form = simpleB
  · subst f1; simp [c_impl_DCanonField, acall, h13, e, canonV]
  · by_cases f2 : form = relaxedB
    · subst f2; simp [c_impl_DCanonField, acall, h13, e, canonV, rel_ne]
    · simp [c_impl_DCanonField, acall, h13, e, canonV, f1, f2]

/-- What the statement asks of its own calls: that the list is cut, and a field written, as the set's own samples have it. -/
def con_dAwake : List AV → Option AV
  | [] => some (.bool true)
  | _ => none

def con_FnDCanonFields : List AV → Option AV
  | [.str form, .str field] => if form.length < 9223372036854775808 ∧ field.length < 9223372036854775808 then some (.bool true) else none
  | _ => none

/-- Both give the same field. -/
theorem relaxedOf_eq (s : List UInt8) : relaxedOf s = fieldOf relaxedB s := by
  simp only [relaxedOf, fieldOf, if_neg rel_ne]
  cases cutAt 58 s with
  | none => rfl
  | some p => simp only [joinB_words]

theorem relOk_of {s : List UInt8} (hs : s.length < 549755813888) (hp : plain s = true) : relOk s := by
  refine ⟨by simp only [mid]; omega, hp, ?_⟩
  rintro ⟨n, v⟩ hc
  have h1 := cutAt_length hc
  have h2 := joinGo_length v [] false
  rw [joinB_words]
  simp at h2
  simp only [mid]; omega
end Wax

/- The program's own functions: lists of tags; runes of plain texts. -/
namespace Wax
open Go (IntKind)

theorem decA {x : UInt8} {r : List UInt8} (h : x.toNat < 128) : decR (x :: r) = (x.toNat, 1) := by
  have e : (⟨(x :: r).toArray⟩ : ByteArray).get! 0 = x := by
    show (x :: r).toArray[0]! = x
    simp
  simp [decR, Go.Utf8.decode, e, h]

theorem hvA {x : UInt8} (h : x.toNat < 128) : Go.Utf8.valid (x.toNat : Int) = true := by
    unfold Go.Utf8.valid
    have h1 : decide ((0:Int) ≤ x.toNat) = true := decide_eq_true (Int.natCast_nonneg _)
    have h2 : decide ((x.toNat : Int) < 0xD800) = true := decide_eq_true (by omega)
    rw [h1, h2]; rfl
theorem encA1 {x : UInt8} (h : x.toNat < 128) : Go.Utf8.encode (x.toNat : Int) = ⟨#[x]⟩ := by
  have hv := hvA h
  have e : UInt8.ofNat x.toNat = x := by simp
  have e2 : (if Go.Utf8.valid (x.toNat : Int) = true then (x.toNat : Int).toNat else Go.Utf8.runeError) = x.toNat := by rw [if_pos hv]; simp
  simp only [Go.Utf8.encode, e2, e, h, if_true]
theorem encA {x : UInt8} (h : x.toNat < 128) : encR (x.toNat : Int) = [x] := by
  rw [encR, encA1 h]

theorem ascii_lt {x : UInt8} {s : List UInt8} (h : ascii (x :: s) = true) : x.toNat < 128 ∧ ascii s = true := by
  rw [ascii_cons] at h; simpa using h

/-- A text without white space. -/
def stripS (s : List UInt8) : List UInt8 := s.filter fun b => !isSp b.toNat

def con_stripWhitespace : List AV → Option AV
  | [.str s] => if s.length < mid ∧ ascii s = true then some (.str (stripS s)) else none
  | _ => none

set_option maxRecDepth 100000 in
theorem ok_stripWhitespace (Γ : Gam) (h23 : Γ.fn 23 = con_zzIsSpace) : ∀ args r, con_stripWhitespace args = some r → runs Γ c_dkim_stripWhitespace args (fun v => v = r) := by
  intro args r h
  simp only [con_stripWhitespace] at h
  split at h <;> (try simp at h; done)
  rename_i s
  obtain ⟨⟨hs, ha⟩, rfl⟩ := ite_some h
  clear h
  simp only [mid] at hs
  simp [c_dkim_stripWhitespace]
  refine awp_loop2 (σ := List UInt8 × List UInt8) (fun p => ⟨[(3, outV 17 (stripS p.1)), (7, .ref 7 0)], outH 17 (stripS p.1) ++ [(7, .sit s p.1.length)]⟩)
    (fun p => s = p.1 ++ p.2) (fun p => p.2.length) ([], s) (by simp [stripS]) (by simp) ?_
  rintro ⟨pre, post⟩ hs1 LQ hLQ
  simp only at hs1
  subst hs1
  have hlen : (stripS pre).length ≤ pre.length := List.length_filter_le _ _
  cases post with
  | nil =>
    simp at hs
    by_cases ho : stripS pre = []
    · simp [b_dkim_stripWhitespace_1, t_dkim_stripWhitespace_2, ho]
    · simp [b_dkim_stripWhitespace_1, t_dkim_stripWhitespace_2, outV_ne ho, outH_ne ho, List.take_of_length_le]
  | cons x post =>
    have hx := (ascii_lt (by rw [ascii_app] at ha; simp only [Bool.and_eq_true] at ha; exact ha.2 : ascii (x :: post) = true)).1
    simp at hs
    have fin : ∀ st, norm [3, 7] st = ⟨[(3, outV 17 (stripS (pre ++ [x]))), (7, .ref 7 0)], outH 17 (stripS (pre ++ [x])) ++ [(7, .sit (pre ++ x :: post) (pre.length + 1))]⟩ → LQ st := by
      intro st hst
      exact hLQ (pre ++ [x], post) (by simp) (by simp) st (by simpa using hst)
    have hk : con_zzIsSpace [.int .i32 (x.toNat : Int)] = some (.bool (isSp x.toNat)) := by
      simp only [con_zzIsSpace]; exact if_pos (by omega)
    have e1 : (x.toNat : Int) < 128 := by omega
    cases hsp : isSp x.toNat with
    | true =>
      have e : stripS (pre ++ [x]) = stripS pre := by simp [stripS, hsp]
      rw [e] at fin
      by_cases ho : stripS pre = []
      · rw [ho] at fin
        simp [b_dkim_stripWhitespace_1, ho, decA hx, acall, h23, hk, hsp]
        exact fin _ (by simp)
      · rw [outV_ne ho, outH_ne ho] at fin
        simp [b_dkim_stripWhitespace_1, outV_ne ho, outH_ne ho, decA hx, acall, h23, hk, hsp]
        exact fin _ (by simp)
    | false =>
      have e : stripS (pre ++ [x]) = stripS pre ++ [x] := by simp [stripS, hsp]
      rw [e, outV_ne (by simp), outH_ne (by simp)] at fin
      by_cases ho : stripS pre = []
      · rw [ho] at fin
        simp [b_dkim_stripWhitespace_1, ho, decA hx, acall, h23, hk, hsp, encA hx]
        exact fin _ (by simp)
      · simp [b_dkim_stripWhitespace_1, outV_ne ho, outH_ne ho, decA hx, acall, h23, hk, hsp, encA hx]
        refine ⟨by omega, fin _ (by simp)⟩

/-- Texts between colons, without white space. -/
def tagL (s : List UInt8) : List (List UInt8) := (splitB 58 s).map stripS

def con_parseTagList : List AV → Option AV
  | [.str s] => if s.length < mid ∧ ascii s = true then some (.sl 1 (strsA (tagL s))) else none
  | _ => none

theorem splitB_ascii (b : UInt8) : ∀ (s p : List UInt8), ascii s = true → p ∈ splitB b s → ascii p = true
  | [], p, _, h => by simp [splitB] at h; subst h; rfl
  | x :: r, p, ha, h => by
    obtain ⟨hx, ha⟩ := ascii_lt ha
    have ih := splitB_ascii b r
    simp only [splitB] at h
    split at h
    · rcases List.mem_cons.1 h with e | h
      · subst e; rfl
      · exact ih p ha h
    · split at h
      · simp at h; subst h; simp [ascii_cons, hx]; rfl
      · rename_i hd t e
        rcases List.mem_cons.1 h with e' | h
        · subst e'
          rw [ascii_cons, ih hd ha (by rw [e]; simp)]; simp [hx]
        · exact ih p ha (by rw [e]; simp [h])

theorem ok_parseTagList (Γ : Gam) (s25 : Γ.st 25 = con_zzSplit) (h26 : Γ.fn 26 = con_stripWhitespace) : ∀ args r, con_parseTagList args = some r → runs Γ c_dkim_parseTagList args (fun v => v = r) := by
  intro args r h
  simp only [con_parseTagList] at h
  split at h <;> (try simp at h; done)
  rename_i s
  obtain ⟨⟨hs, ha⟩, rfl⟩ := ite_some h
  clear h
  have hsp : con_zzSplit [.str s, .str [58]] [] = some (.msl 0 1 0 (splitB 58 s).length, [(0, .cells (strsA (splitB 58 s)))]) := if_pos hs
  simp only [mid] at hs
  have hl := splitB_length 58 s
  simp [c_dkim_parseTagList, acallS, s25, hsp]
  refine awp_loop2 (σ := List (List UInt8) × List (List UInt8)) (fun p => ⟨[(3, .msl 7 1 0 (splitB 58 s).length), (8, .msl 7 1 0 (splitB 58 s).length), (9, .int .i64 (splitB 58 s).length), (10, .int .i64 p.1.length)], [(7, .cells (strsA (p.1.map stripS ++ p.2)))]⟩)
    (fun p => splitB 58 s = p.1 ++ p.2) (fun p => p.2.length) ([], splitB 58 s) (by simp) (by simp) ?_
  rintro ⟨pre, post⟩ hs1 LQ hLQ
  simp only at hs1
  cases post with
  | nil =>
    simp at hs1
    simp [b_dkim_parseTagList_1, t_dkim_parseTagList_2, hs1, tagL, snap, resolveA, List.take_of_length_le]
  | cons x post =>
    have hxl : x.length < 1099511627776 := by
      have := splitB_mem_length 58 s x (by rw [hs1]; simp)
      omega
    have hxa : ascii x = true := splitB_ascii 58 s x ha (by rw [hs1]; simp)
    have hk : con_stripWhitespace [.str x] = some (.str (stripS x)) := if_pos ⟨hxl, hxa⟩
    have hlen : (splitB 58 s).length = pre.length + post.length + 1 := by rw [hs1]; simp; omega
    simp (disch := first | omega | simp) [b_dkim_parseTagList_1, hlen, acall, h26, hk, wrap64, get_mid, set_mid]
    refine ⟨fun _ => ⟨by omega, ?_⟩, fun _ => by omega⟩
    refine hLQ (pre ++ [x], post) (by simp [hs1]) (by simp) _ ?_
    simp [hlen]

def con_TagList : List AV → Option AV := con_parseTagList
theorem ok_TagList (Γ : Gam) (h24 : Γ.fn 24 = con_parseTagList) : ∀ args r, con_TagList args = some r → runs Γ c_dkim_TagList args (fun v => v = r) := by
  intro args r h
  simp only [con_TagList] at h
  have h' := h
  simp only [con_parseTagList] at h
  split at h <;> (try simp at h; done)
  obtain ⟨_, rfl⟩ := ite_some h
  simp [c_dkim_TagList, acall, h24, h']

theorem ok_DList (Γ : Gam) (h14 : Γ.fn 14 = con_TagList) : ∀ args r, con_TagList args = some r → runs Γ c_impl_DList args (fun v => v = r) := by
  intro args r h
  have h' := h
  simp only [con_TagList, con_parseTagList] at h
  split at h <;> (try simp at h; done)
  obtain ⟨_, rfl⟩ := ite_some h
  simp [c_impl_DList, acall, h14, h']

theorem ok_dAwake (Γ : Gam) (h7 : Γ.fn 7 = con_TagList) (h8 : Γ.fn 8 = con_DCanonField) : ∀ args r, con_dAwake args = some r → runs Γ c_laws_dAwake args (fun v => v = r) := by
  intro args r h
  simp only [con_dAwake] at h
  split at h <;> (try simp at h; done)
  injection h with h; subst h
  have k7 : con_TagList [.str [97, 58, 98]] = some (.sl 1 (strsA [[97], [98]])) := by
    simp only [con_TagList, con_parseTagList]
    rw [if_pos ⟨by decide, by decide⟩]
    rfl
  have k8 : con_DCanonField [.str [114, 101, 108, 97, 120, 101, 100], .str [65, 58, 32, 66, 13, 10]] = some (.str [97, 58, 66, 13, 10]) := by
    simp only [con_DCanonField]
    rw [if_pos (relOk_of (by decide) (by decide))]
    rfl
  simp [c_laws_dAwake, acall, h7, h8, k7, k8]
end Wax

/- strings.FieldsFunc, of plain texts and of the program's own test of white space. -/
namespace Wax
open Go (IntKind)

def spA (l : List (Nat × Nat)) : List AV := l.flatMap fun p => [.int .i64 (p.1 : Int), .int .i64 (p.2 : Int)]
@[simp] theorem spA_nil : spA [] = [] := rfl
@[simp] theorem spA_cons {p : Nat × Nat} {l : List (Nat × Nat)} : spA (p :: l) = .int .i64 (p.1 : Int) :: .int .i64 (p.2 : Int) :: spA l := rfl
@[simp] theorem spA_app {l m : List (Nat × Nat)} : spA (l ++ m) = spA l ++ spA m := by simp [spA]
@[simp] theorem spA_length {l : List (Nat × Nat)} : (spA l).length = 2 * l.length := by induction l <;> simp_all; omega
@[simp] theorem atoms_spA {l : List (Nat × Nat)} : atoms (spA l) = true := by induction l <;> simp_all
@[simp] theorem take_spA {a b : AV} {l : List (Nat × Nat)} : List.take ((l.length + 1) * 2) (a :: b :: spA l) = a :: b :: spA l := List.take_of_length_le (by simp; omega)
@[simp] theorem killL_spA {d : Nat} {l : List (Nat × Nat)} : killL d (spA l) = spA l := by induction l <;> simp_all

def cutS (s : List UInt8) (p : Nat × Nat) : List UInt8 := (s.take p.2).drop p.1

theorem ff_loop2 (Γ : Gam) (Q : APost) (s : List UInt8) (sp : List (Nat × Nat)) (d : Nat) (hd : d ≠ 46 ∧ d ≠ 11) (hs : s.length < 1099511627776) (hl : sp.length < 2199023255552) (hsp : ∀ p ∈ sp, p.1 ≤ p.2 ∧ p.2 ≤ s.length)
    (hQ : Q (.exit 2) ⟨[(0, .str s), (9, .msl 46 1 0 sp.length), (47, .msl d 2 0 sp.length), (48, .int .i64 sp.length), (49, .int .i64 sp.length), (50, .bool false)], [(46, .cells (strsA (sp.map (cutS s)))), (d, .cells (spA sp))]⟩) :
    awp Γ (.loop [0, 9, 47, 48, 49] b_strings_FieldsFunc_2) Q ⟨[(0, .str s), (9, .msl 46 1 0 sp.length), (47, .msl d 2 0 sp.length), (48, .int .i64 sp.length), (49, .int .i64 0)], [(46, .cells (List.replicate sp.length (.str []))), (d, .cells (spA sp))]⟩ := by
  have hd1 : ¬ 46 = d := fun h => hd.1 h.symm
  have hd2 : ¬ 11 = d := fun h => hd.2 h.symm
  refine awp_loop2 (σ := List (Nat × Nat) × List (Nat × Nat)) (fun p => ⟨[(0, .str s), (9, .msl 46 1 0 sp.length), (47, .msl d 2 0 sp.length), (48, .int .i64 sp.length), (49, .int .i64 p.1.length)], [(46, .cells (strsA (p.1.map (cutS s)) ++ List.replicate p.2.length (.str []))), (d, .cells (spA sp))]⟩)
    (fun p => sp = p.1 ++ p.2) (fun p => p.2.length) ([], sp) (by simp) (by simp) ?_
  rintro ⟨pre, post⟩ hs1 LQ hLQ
  simp only at hs1
  subst hs1
  cases post with
  | nil =>
    simp at hQ
    simp [b_strings_FieldsFunc_2, hQ]
  | cons x post =>
    have hx := hsp x (by simp)
    simp at hl
    have e1 : List.drop (pre.length * 2) (spA pre ++ (AV.int .i64 (x.1 : Int) :: .int .i64 (x.2 : Int) :: spA post)) = .int .i64 (x.1 : Int) :: .int .i64 (x.2 : Int) :: spA post := by
      rw [List.drop_append_of_le_length (by simp; omega)]
      rw [List.drop_eq_nil_of_le (by simp; omega)]; rfl
    simp (disch := first | omega | simp) [b_strings_FieldsFunc_2, hd1, hd2, hd.1, hd.2, e1, loadC, wrap64, List.replicate_succ]
    refine ⟨fun _ => ⟨by omega, ?_⟩, fun _ => by omega⟩
    refine hLQ (pre ++ [x], post) (by simp) (by simp) _ ?_
    simp [cutS]

/-- The slice of the words' places, as it stands: first the one that was made, then one that grew. -/
def ffD (sp : List (Nat × Nat)) : Nat := match sp with | [] => 12 | _ => 29
def ffH (sp : List (Nat × Nat)) (o : AObj) : List (Nat × AObj) := match sp with | [] => [(14, o), (12, .cells [])] | _ => [(29, .cells (spA sp)), (14, o)]

structure FF (s pre post : List UInt8) (sp : List (Nat × Nat)) (cur : List UInt8) (v : Int) : Prop where
  cut : s = pre ++ post
  words : wordsOf s = sp.map (cutS s) ++ wordsGo cur post
  none : cur = [] → v < 0 ∧ -1099511627777 < v
  some : cur ≠ [] → ∃ p, pre = p ++ cur ∧ v = p.length
  ok : ∀ p ∈ sp, p.1 ≤ p.2 ∧ p.2 ≤ s.length
  len : sp.length ≤ pre.length

theorem FF.out {s pre post : List UInt8} {sp : List (Nat × Nat)} {cur : List UInt8} {v : Int} {x : UInt8} (h : FF s pre (x :: post) sp cur v) (hw : isWs x.toNat = true) (hc : cur = []) : FF s (pre ++ [x]) post sp [] v := by
  subst hc
  refine ⟨by rw [h.cut]; simp, ?_, fun _ => h.none rfl, fun hn => absurd rfl hn, h.ok, by have := h.len; simp; omega⟩
  have := h.words
  simpa [wordsGo, hw] using this

theorem FF.close {s pre post : List UInt8} {sp : List (Nat × Nat)} {cur : List UInt8} {v : Int} {x : UInt8} (h : FF s pre (x :: post) sp cur v) (hw : isWs x.toNat = true) (hc : cur ≠ []) (hs : s.length < 1099511627776) : FF s (pre ++ [x]) post (sp ++ [(v.toNat, pre.length)]) [] (-v - 1) := by
  obtain ⟨p, hp, hv⟩ := h.some hc
  subst hv
  have hl := congrArg List.length h.cut
  have hl2 := congrArg List.length hp
  simp at hl hl2
  refine ⟨by rw [h.cut]; simp, ?_, fun _ => ⟨by omega, by omega⟩, fun hn => absurd rfl hn, ?_, by have := h.len; simp; omega⟩
  · have := h.words
    simp only [wordsGo, hw, if_true, if_neg hc] at this
    rw [this]
    have e : cutS s ((p.length : Int).toNat, pre.length) = cur := by
      rw [cutS, h.cut, hp]
      simp only [Int.toNat_natCast, List.append_assoc]
      rw [show (p ++ cur).length = (p ++ cur).length + 0 by omega, ← List.append_assoc, List.take_length_add_append]; simp
    simp only [List.map_append, List.map_cons, List.map_nil, e, List.append_assoc, List.cons_append, List.nil_append]
  · intro q hq
    rcases List.mem_append.1 hq with hq | hq
    · exact h.ok q hq
    · simp at hq; subst hq; simp; omega

theorem FF.into {s pre post : List UInt8} {sp : List (Nat × Nat)} {cur : List UInt8} {v : Int} {x : UInt8} (h : FF s pre (x :: post) sp cur v) (hw : isWs x.toNat = false) (hc : cur = []) : FF s (pre ++ [x]) post sp [x] pre.length := by
  subst hc
  refine ⟨by rw [h.cut]; simp, ?_, fun hn => by simp at hn, fun _ => ⟨pre, rfl, rfl⟩, h.ok, by have := h.len; simp; omega⟩
  have := h.words
  simpa [wordsGo, hw] using this

theorem FF.on {s pre post : List UInt8} {sp : List (Nat × Nat)} {cur : List UInt8} {v : Int} {x : UInt8} (h : FF s pre (x :: post) sp cur v) (hw : isWs x.toNat = false) (hc : cur ≠ []) : FF s (pre ++ [x]) post sp (cur ++ [x]) v := by
  refine ⟨by rw [h.cut]; simp, ?_, fun hn => by simp at hn, fun _ => ?_, h.ok, by have := h.len; simp; omega⟩
  · have := h.words
    simpa [wordsGo, hw] using this
  · obtain ⟨p, hp, hv⟩ := h.some hc
    exact ⟨p, by rw [hp]; simp, hv⟩

theorem ffD_ne {sp : List (Nat × Nat)} (h : sp ≠ []) : ffD sp = 29 := by cases sp <;> first | exact absurd rfl h | rfl
theorem ffH_ne {sp : List (Nat × Nat)} {o : AObj} (h : sp ≠ []) : ffH sp o = [(29, .cells (spA sp)), (14, o)] := by cases sp <;> first | exact absurd rfl h | rfl

theorem ok_FieldsFunc (Γ : Gam) (h20 : Γ.fn 20 = con_closure) : ∀ args r, con_FieldsFunc args = some r → runs Γ c_strings_FieldsFunc args (fun v => v = r) := by
  intro args r h
  simp only [con_FieldsFunc] at h
  split at h <;> (try simp at h; done)
  rename_i s
  obtain ⟨⟨hs, ha⟩, rfl⟩ := ite_some h
  clear h
  simp only [mid] at hs
  simp [c_strings_FieldsFunc]
  refine awp_loop2 (σ := List UInt8 × List UInt8 × List (Nat × Nat) × List UInt8 × Int) (fun p => ⟨[(0, .str s), (1, .fn 20 []), (5, .msl (ffD p.2.2.1) 2 0 p.2.2.1.length), (6, .int .i64 p.2.2.2.2), (14, .ref 14 0)], ffH p.2.2.1 (.sit s p.1.length)⟩)
    (fun p => FF s p.1 p.2.1 p.2.2.1 p.2.2.2.1 p.2.2.2.2) (fun p => p.2.1.length) ([], s, [], [], -1) (by simp [ffD, ffH]) ⟨by simp, by simp [wordsOf], fun _ => ⟨by simp, by simp⟩, fun h => absurd rfl h, by simp, by simp⟩ ?_
  rintro ⟨pre, post, sp, cur, v⟩ hF LQ hLQ
  simp only at hF
  cases post with
  | nil =>
    have hcut := hF.cut
    simp at hcut
    subst hcut
    have fin : ∀ (d : Nat) (sp' : List (Nat × Nat)), d ≠ 46 ∧ d ≠ 11 → d = 12 ∨ d = 29 ∨ d = 43 → sp'.length ≤ s.length + 1 → (∀ p ∈ sp', p.1 ≤ p.2 ∧ p.2 ≤ s.length) → wordsOf s = sp'.map (cutS s) →
        awp Γ (SCode.loop [0, 9, 47, 48, 49] b_strings_FieldsFunc_2)
        (blockQ 2
          (thenQ (awp Γ t_strings_FieldsFunc_3 (finQ [.t 4] fun v => v = AV.sl 1 (strsA (wordsOf s))))
            (finQ [.t 4] fun v => v = AV.sl 1 (strsA (wordsOf s)))))
         ⟨[(0, .str s), (9, .msl 46 1 0 sp'.length), (47, .msl d 2 0 sp'.length), (48, .int .i64 sp'.length), (49, .int .i64 0)], [(46, .cells (List.replicate sp'.length (.str []))), (d, .cells (spA sp'))]⟩ := by
      intro d sp' hd hd3 hl hok hw
      refine ff_loop2 Γ _ s sp' d hd hs (by omega) hok ?_
      have hd1 : ¬ 46 = d := fun h => hd.1 h.symm
      rcases hd3 with rfl | rfl | rfl <;> simp [t_strings_FieldsFunc_3, snap, resolveA, hw, List.take_of_length_le]
    have hwd := hF.words
    have hlen := hF.len
    cases sp with
    | nil =>
      simp [b_strings_FieldsFunc_1, ffD, ffH, t_strings_FieldsFunc_4]
      refine ⟨fun h => ?_, fun h => ?_⟩
      · have hc : cur ≠ [] := fun hc => by have := (hF.none hc).1; omega
        obtain ⟨p, hp, hv⟩ := hF.some hc
        subst hv
        have hpl := congrArg List.length hp
        simp at hpl
        have := fin 43 [(p.length, s.length)] (by decide) (by simp) (by simp) (by simp; omega) (by
          rw [hwd]; simp [wordsGo, hc, cutS]; rw [hp]; simp)
        simpa using this
      · have hc : cur = [] := by
          apply Classical.byContradiction; intro hc
          obtain ⟨p, hp, hv⟩ := hF.some hc; omega
        subst hc
        have := fin 12 [] (by decide) (by simp) (by simp) (by simp) (by rw [hwd]; simp [wordsGo])
        simpa using this
    | cons y sp =>
      simp at hlen
      have e1 : ((sp.length : Int) + 1).toNat = sp.length + 1 := by omega
      have e2 : ((sp.length : Int) + 1 + 1).toNat = sp.length + 1 + 1 := by omega
      simp [b_strings_FieldsFunc_1, ffD, ffH, t_strings_FieldsFunc_4, e1, e2]
      refine ⟨fun h => ⟨⟨by omega, by omega⟩, by omega, ⟨by omega, by omega⟩, ?_⟩, fun h => ⟨by omega, ⟨by omega, by omega⟩, ?_⟩⟩
      · have hc : cur ≠ [] := fun hc => by have := (hF.none hc).1; omega
        obtain ⟨p, hp, hv⟩ := hF.some hc
        subst hv
        have hpl := congrArg List.length hp
        simp at hpl
        have := fin 43 (y :: sp ++ [(p.length, s.length)]) (by decide) (by simp) (by simp; omega) (by
          intro q hq
          rcases List.mem_append.1 hq with hq | hq
          · exact hF.ok q hq
          · simp at hq; subst hq; simp; omega) (by
          rw [hwd]; simp [wordsGo, hc, cutS]; rw [hp]; simp)
        simpa using this
      · have hc : cur = [] := by
          apply Classical.byContradiction; intro hc
          obtain ⟨p, hp, hv⟩ := hF.some hc; omega
        subst hc
        have := fin 29 (y :: sp) (by decide) (by simp) (by simp; omega) hF.ok (by rw [hwd]; simp [wordsGo])
        simpa using this
  | cons x post =>
    have hcut := hF.cut
    subst hcut
    have hx := (ascii_lt (by rw [ascii_app] at ha; simp only [Bool.and_eq_true] at ha; exact ha.2 : ascii (x :: post) = true)).1
    simp at hs
    have hlen := hF.len
    have hk : con_closure [.int .i32 (x.toNat : Int)] = some (.bool (isWs x.toNat)) := rfl
    have fin : ∀ sp' cur' v', FF (pre ++ x :: post) (pre ++ [x]) post sp' cur' v' → ∀ st, norm [0, 1, 5, 6, 14] st = ⟨[(0, .str (pre ++ x :: post)), (1, .fn 20 []), (5, .msl (ffD sp') 2 0 sp'.length), (6, .int .i64 v'), (14, .ref 14 0)], ffH sp' (.sit (pre ++ x :: post) (pre.length + 1))⟩ → LQ st := by
      intro sp' cur' v' h st hst
      exact hLQ (pre ++ [x], post, sp', cur', v') h (by simp) st (by simpa using hst)
    cases hw : isWs x.toNat with
    | true =>
      by_cases hc : cur = []
      · have f := fin _ _ _ (hF.out hw hc)
        have hv := (hF.none hc).1
        have hv' : ¬ 0 ≤ v := by omega
        cases sp with
        | nil =>
          simp [b_strings_FieldsFunc_1, ffD, ffH, decA hx, acall, h20, hk, hw, hv']
          exact f _ (by simp [ffD, ffH])
        | cons y sp =>
          simp [b_strings_FieldsFunc_1, ffD, ffH, decA hx, acall, h20, hk, hw, hv']
          exact f _ (by simp [ffD, ffH])
      · have f := fin _ _ _ (hF.close hw hc (by simp; omega))
        obtain ⟨p, hp, hv⟩ := hF.some hc
        subst hv
        have hl2 := congrArg List.length hp
        simp at hl2
        have ew : IntKind.i64.wrap (-(p.length : Int) - 1) = -(p.length : Int) - 1 := wrap64 (by omega) (by omega)
        cases sp with
        | nil =>
          simp [-aun, b_strings_FieldsFunc_1, ffD, ffH, decA hx, acall, h20, hk, hw, ew]
          exact f _ (by simp [ffD, ffH])
        | cons y sp =>
          simp at hlen
          simp [-aun, b_strings_FieldsFunc_1, ffD, ffH, decA hx, acall, h20, hk, hw, ew]
          refine ⟨⟨by omega, by omega⟩, f _ (by simp [ffD, ffH])⟩
    | false =>
      by_cases hc : cur = []
      · have f := fin _ _ _ (hF.into hw hc)
        have hv := (hF.none hc).1
        cases sp with
        | nil =>
          simp [b_strings_FieldsFunc_1, ffD, ffH, decA hx, acall, h20, hk, hw, hv]
          exact f _ (by simp [ffD, ffH])
        | cons y sp =>
          simp [b_strings_FieldsFunc_1, ffD, ffH, decA hx, acall, h20, hk, hw, hv]
          exact f _ (by simp [ffD, ffH])
      · have f := fin _ _ _ (hF.on hw hc)
        obtain ⟨p, hp, hv⟩ := hF.some hc
        have hv' : ¬ v < 0 := by omega
        cases sp with
        | nil =>
          simp [b_strings_FieldsFunc_1, ffD, ffH, decA hx, acall, h20, hk, hw, hv']
          exact f _ (by simp [ffD, ffH])
        | cons y sp =>
          simp [b_strings_FieldsFunc_1, ffD, ffH, decA hx, acall, h20, hk, hw, hv']
          exact f _ (by simp [ffD, ffH])
end Wax

/- The reference's text without white space; lists that are not too long. -/
namespace Wax
open Go (IntKind)

def stripD (s : List UInt8) : List UInt8 := s.filter fun b => !isWs b.toNat

def con_DStrip : List AV → Option AV
  | [.str s] => if s.length < mid then some (.str (stripD s)) else none
  | _ => none

theorem ok_DStrip (Γ : Gam) (h1 : Γ.fn 1 = con_dBlank) : ∀ args r, con_DStrip args = some r → runs Γ c_spec_DStrip args (fun v => v = r) := by
  intro args r h
  simp only [con_DStrip] at h
  split at h <;> (try simp at h; done)
  rename_i s
  obtain ⟨hs, rfl⟩ := ite_some h
  clear h
  simp only [mid] at hs
  simp [c_spec_DStrip]
  refine awp_loop2 (σ := List UInt8 × List UInt8) (fun p => ⟨[(0, .str s), (3, outV 21 (stripD p.1)), (4, .int .i64 p.1.length)], outH 21 (stripD p.1)⟩)
    (fun p => s = p.1 ++ p.2) (fun p => p.2.length) ([], s) (by simp [stripD]) (by simp) ?_
  rintro ⟨pre, post⟩ hs1 LQ hLQ
  simp only at hs1
  subst hs1
  have hlen : (stripD pre).length ≤ pre.length := List.length_filter_le _ _
  cases post with
  | nil =>
    simp at hs
    by_cases ho : stripD pre = []
    · simp [ho]
    · simp [outV_ne ho, outH_ne ho, List.take_of_length_le]
  | cons x post =>
    simp at hs
    have ew : IntKind.i64.wrap ((pre.length : Int) + 1) = (pre.length : Int) + 1 := wrap64 (by omega) (by omega)
    have fin : ∀ st, norm [0, 3, 4] st = ⟨[(0, .str (pre ++ x :: post)), (3, outV 21 (stripD (pre ++ [x]))), (4, .int .i64 ((pre.length : Int) + 1))], outH 21 (stripD (pre ++ [x]))⟩ → LQ st := by
      intro st hst
      exact hLQ (pre ++ [x], post) (by simp) (by simp) st (by simpa using hst)
    have hk : con_dBlank [.int .u8 (x.toNat : Int)] = some (.bool (isWs x.toNat)) := rfl
    have hlt : (pre.length : Int) < (pre.length : Int) + ((post.length : Int) + 1) := by omega
    cases hsp : isWs x.toNat with
    | true =>
      have e : stripD (pre ++ [x]) = stripD pre := by simp [stripD, hsp]
      rw [e] at fin
      by_cases ho : stripD pre = []
      · rw [ho] at fin
        simp [ho, acall, h1, hk, hsp, ew]
        exact ⟨fun _ => fin _ (by simp), fun h => by omega⟩
      · rw [outV_ne ho, outH_ne ho] at fin
        simp [outV_ne ho, outH_ne ho, acall, h1, hk, hsp, ew]
        exact ⟨fun _ => fin _ (by simp), fun h => by omega⟩
    | false =>
      have e : stripD (pre ++ [x]) = stripD pre ++ [x] := by simp [stripD, hsp]
      rw [e, outV_ne (by simp), outH_ne (by simp)] at fin
      by_cases ho : stripD pre = []
      · rw [ho] at fin
        simp [ho, acall, h1, hk, hsp, ew]
        exact ⟨fun _ => fin _ (by simp), fun h => by omega⟩
      · simp [outV_ne ho, outH_ne ho, acall, h1, hk, hsp, ew]
        refine ⟨fun _ => ⟨by omega, fin _ (by simp)⟩, fun h => by omega⟩

def fitsB (l : List (List UInt8)) : Bool := decide (l.length ≤ 2147483647) && l.all fun s => decide (s.length ≤ 2147483647)

def con_zzFits7 : List AV → Option AV
  | [v] => match slStrs v with
    | some l => if l.length < 9223372036854775808 ∧ ∀ s ∈ l, s.length < 9223372036854775808 then some (.bool (fitsB l)) else none
    | none => none
  | _ => none

theorem slStrs_cases {v : AV} {l : List (List UInt8)} (h : slStrs v = some l) : (v = .nilS ∧ l = []) ∨ v = .sl 1 (strsA l) := by
  cases v <;> simp [slStrs] at h
  · left; exact ⟨rfl, h⟩
  · right; obtain ⟨e, h⟩ := h; rw [asStrs_spec h, e]

theorem ok_zzFits7 (Γ : Gam) : ∀ args r, con_zzFits7 args = some r → runs Γ c_laws_zzFits7 args (fun v => v = r) := by
  intro args r h
  simp only [con_zzFits7] at h
  split at h <;> (try simp at h; done)
  rename_i v
  split at h <;> (try simp at h; done)
  rename_i l hl
  obtain ⟨⟨hlen, hall⟩, rfl⟩ := ite_some h
  clear h
  rcases slStrs_cases hl with ⟨rfl, rfl⟩ | rfl
  · simp [c_laws_zzFits7]
    refine awp_loop2 (σ := Unit) (fun p => ⟨[(8, .nilS), (9, .int .i64 0), (10, .int .i64 0)], []⟩) (fun _ => True) (fun _ => 0) () (by simp) (by simp) ?_
    intro _ _ LQ _
    simp [b_laws_zzFits7_1, t_laws_zzFits7_2, fitsB]
  · by_cases hbig : l.length ≤ 2147483647
    · have hng : ¬ (2147483647 : Int) < (l.length : Int) := by omega
      simp [c_laws_zzFits7, hng]
      refine awp_loop2 (σ := List (List UInt8) × List (List UInt8)) (fun p => ⟨[(8, .sl 1 (strsA l)), (9, .int .i64 l.length), (10, .int .i64 p.1.length)], []⟩) (fun p => l = p.1 ++ p.2 ∧ (p.1.all fun s => decide (s.length ≤ 2147483647)) = true) (fun p => p.2.length) ([], l) (by simp) (by simp) ?_
      rintro ⟨pre, post⟩ ⟨hs1, hs2⟩ LQ hLQ
      simp only at hs1 hs2
      subst hs1
      cases post with
      | nil =>
        simp at hs2 hbig
        simp [b_laws_zzFits7_1, t_laws_zzFits7_2, fitsB, hbig]
        exact fun x hx => hs2 x hx
      | cons x post =>
        simp at hbig
        have ew : IntKind.i64.wrap ((pre.length : Int) + 1) = (pre.length : Int) + 1 := wrap64 (by omega) (by omega)
        have hlt : (pre.length : Int) < (pre.length : Int) + ((post.length : Int) + 1) := by omega
        by_cases hx : x.length ≤ 2147483647
        · have hxn : ¬ (2147483647 : Int) < (x.length : Int) := by omega
          simp [b_laws_zzFits7_1, ew, hxn]
          refine ⟨fun _ => ?_, fun h => by omega⟩
          exact hLQ (pre ++ [x], post) ⟨by simp, by simp only [List.all_append, hs2, List.all_cons, hx]; rfl⟩ (by simp) _ (by simp)
        · have hxn : (2147483647 : Int) < (x.length : Int) := by omega
          have hf : fitsB (pre ++ x :: post) = false := by
            have e : decide (x.length ≤ 2147483647) = false := decide_eq_false hx
            simp only [fitsB, List.all_append, List.all_cons, e, Bool.false_and, Bool.and_false]
          rw [hf]
          simp [b_laws_zzFits7_1, hxn]
          omega
    · have hg : (2147483647 : Int) < (l.length : Int) := by omega
      simp [c_laws_zzFits7, hg, fitsB, hbig]
end Wax

/- zzTrimSpace: the inner loop does nothing on ASCII. (A slow text: two minutes.) -/
namespace Wax
open Go (IntKind)
set_option maxHeartbeats 1000000 in
theorem trim_inner (Γ : Gam) (Q : APost) (S : List UInt8) (x : UInt8) (i n : Nat) (f t : Int) (hn : S.length = n) (hi : S[i]? = some x) (hx : x.toNat < 128) (hb : n < 1099511627776) (hib : i < 1099511627776)
    (h : Q (.exit 4) ⟨[(0, .str S), (3, .int .i64 f), (4, .int .i64 t), (7, .int .i64 i), (8, .int .i64 1), (54, .bool false)], []⟩) :
    awp Γ b_dkim_zzTrimSpace_2 Q ⟨[(0, .str S), (3, .int .i64 f), (4, .int .i64 t), (7, .int .i64 i), (8, .int .i64 1)], []⟩ := by
  have e192 : ¬ (192 : Int) ≤ (x.toNat : Int) := by omega
  have ew : IntKind.i64.wrap ((i : Int) + 1) = (i : Int) + 1 := wrap64 (by omega) (by omega)
  simp only [b_dkim_zzTrimSpace_2, awp_seq]
  refine awp_region_to ⟨[(0, .str S), (3, .int .i64 f), (4, .int .i64 t), (7, .int .i64 i), (8, .int .i64 1), (54, .bool false)], []⟩ ?_ ?_
  · by_cases hlast : (i : Int) + 1 < (n : Int)
    · have h1 : ((i : Int) + 1 < (n : Int)) = True := eq_true hlast
      simp (maxSteps := 1000000) [ew, hn, hi, e192, h1]
    · have h1 : ((i : Int) + 1 < (n : Int)) = False := eq_false hlast
      simp (maxSteps := 1000000) [ew, hn, h1]
  · simpa using h
end Wax

/- The program's own functions (4): white space around a text, of plain texts. -/
namespace Wax
open Go (IntKind)

theorem decR_ascii {x : UInt8} {r : List UInt8} (h : x.toNat < 128) : decR (x :: r) = (x.toNat, 1) := by
  have e : (⟨(x :: r).toArray⟩ : ByteArray).get! 0 = x := by
    show (x :: r).toArray[0]! = x
    simp
  simp [decR, Go.Utf8.decode, e, h]

theorem plainB_lt {x : UInt8} (h : plainB x = true) : x.toNat < 128 := by
  have := of_decide_eq_true h
  omega

theorem isSp_ws {x : UInt8} (h : plainB x = true) : isSp x.toNat = isWs x.toNat := by
  have := of_decide_eq_true h
  unfold isSp isWs
  apply decide_eq_decide.2
  omega

theorem plain_app {s t : List UInt8} : plain (s ++ t) = (plain s && plain t) := by simp [plain]

theorem trimR_ws {c : List UInt8} {x : UInt8} (h : isWs x.toNat = true) : trimR (c ++ [x]) = trimR c := by simp [trimR, h]
theorem trimR_nw {c : List UInt8} {x : UInt8} (h : isWs x.toNat = false) : trimR (c ++ [x]) = c ++ [x] := by simp [trimR, h]

theorem trimR_prefix (c : List UInt8) : ∃ t, c = trimR c ++ t := by
  obtain ⟨t, ht⟩ := List.dropWhile_suffix (fun b : UInt8 => isWs b.toNat) (l := c.reverse)
  refine ⟨t.reverse, ?_⟩
  have := congrArg List.reverse ht
  simpa [trimR] using this.symm

theorem trimL_app {a b : List UInt8} (ha : ∀ x ∈ a, isWs x.toNat = true) : trimL (a ++ b) = trimL b := by
  induction a with
  | nil => rfl
  | cons x r ih =>
    have h1 := ha x (by simp)
    simp only [trimL, List.cons_append, List.dropWhile_cons, h1, if_true]
    exact ih fun y hy => ha y (by simp [hy])

theorem trimL_nw {b : List UInt8} (hb : ∀ x r, b = x :: r → isWs x.toNat = false) : trimL b = b := by
  cases b with
  | nil => rfl
  | cons x r => simp [trimL, hb x r rfl]

def toV (n : Nat) (a c : List UInt8) : Int := if c = [] then (n : Int) else (a.length : Int) + ((trimR c).length : Int)

theorem trim_loop2 (Γ : Gam) (h23 : Γ.fn 23 = con_zzIsSpace) (a b : List UInt8) (hp : plain (a ++ b) = true) (hs : (a ++ b).length < 1099511627776) (ha : ∀ x ∈ a, isWs x.toNat = true) (hb : ∀ x r, b = x :: r → isWs x.toNat = false) :
    awp Γ (.loop [0, 3, 4, 7] b_dkim_zzTrimSpace_4) (blockQ 2 (thenQ (awp Γ t_dkim_zzTrimSpace_5 (finQ [.t 2] fun v => v = .str (trimS (a ++ b)))) (finQ [.t 2] fun v => v = .str (trimS (a ++ b)))))
      ⟨[(0, .str (a ++ b)), (3, .int .i64 a.length), (4, .int .i64 (a ++ b).length), (7, .int .i64 a.length)], []⟩ := by
  have htrim : trimS (a ++ b) = trimR b := by rw [trimS, trimL_app ha, trimL_nw hb]
  rw [htrim]
  refine awp_loop (σ := List UInt8 × List UInt8) (fun p => ⟨[(0, .str (a ++ b)), (3, .int .i64 a.length), (4, .int .i64 (toV (a ++ b).length a p.1)), (7, .int .i64 (a.length + p.1.length))], []⟩)
    (fun p => b = p.1 ++ p.2) (fun p => p.2.length) ([], b) (by simp [toV]) (by simp) ?_
  rintro ⟨c, d⟩ hcd
  simp only at hcd
  subst hcd
  simp at hs
  cases d with
  | nil =>
    simp [b_dkim_zzTrimSpace_4, t_dkim_zzTrimSpace_5]
    refine ⟨fun h => ?_, fun h => ?_⟩
    · have : c = [] := List.length_eq_zero_iff.1 (by omega)
      subst this; simp [trimR]
    · have hc : c ≠ [] := by intro e; subst e; simp at h
      obtain ⟨t, ht⟩ := trimR_prefix c
      have hl : (trimR c).length ≤ c.length := trimR_length c
      have e1 : toV (a.length + c.length) a c = (a.length : Int) + ((trimR c).length : Int) := if_neg hc
      have e2 : ((a.length : Int) + ((trimR c).length : Int)).toNat = a.length + (trimR c).length := by omega
      rw [e1, e2]
      refine ⟨⟨by omega, by omega⟩, ?_⟩
      rw [List.take_length_add_append, List.drop_left]
      generalize trimR c = q at ht ⊢
      subst ht; simp
  | cons x d =>
    have hpx : plainB x = true := by
      have h1 : (plain a && (plain c && plain (x :: d))) = true := by rw [← plain_app, ← plain_app]; exact hp
      simp only [Bool.and_eq_true, plain, List.all_cons] at h1
      exact h1.2.2.1
    have hx := plainB_lt hpx
    have hx2 : (x.toNat : Int) < 128 := by omega
    have step : ∀ v : Int, v = toV (a ++ (c ++ x :: d)).length a (c ++ [x]) → loopQ [0, 3, 4, 7] (fun p : List UInt8 × List UInt8 => ⟨[(0, .str (a ++ (c ++ x :: d))), (3, .int .i64 a.length), (4, .int .i64 (toV (a ++ (c ++ x :: d)).length a p.1)), (7, .int .i64 (a.length + p.1.length))], []⟩)
        (fun p => c ++ x :: d = p.1 ++ p.2) (fun p => p.2.length) (c, x :: d)
        ⟨[(0, .str (a ++ (c ++ x :: d))), (3, .int .i64 a.length), (4, .int .i64 v), (7, .int .i64 (a.length + c.length + 1))], []⟩ := by
      intro v hv
      subst hv
      refine ⟨(c ++ [x], d), ?_, by simp, by simp⟩
      have : ((a.length : Int) + c.length + 1) = (a.length : Int) + ((c ++ [x]).length : Int) := by simp; omega
      rw [this]
      simp
    generalize hl : loopQ [0, 3, 4, 7] (fun p : List UInt8 × List UInt8 => (⟨[(0, .str (a ++ (c ++ x :: d))), (3, .int .i64 a.length), (4, .int .i64 (toV (a ++ (c ++ x :: d)).length a p.1)), (7, .int .i64 (a.length + p.1.length))], []⟩ : St))
        (fun p => c ++ x :: d = p.1 ++ p.2) (fun p => p.2.length) (c, x :: d) = LQ at step ⊢
    clear hl
    simp at hs
    have hget : (a ++ (c ++ x :: d))[a.length + c.length]? = some x := by
      rw [← List.append_assoc, List.getElem?_append_right (by simp)]; simp
    simp [b_dkim_zzTrimSpace_4]
    refine ⟨fun _ => ?_, fun h => by omega⟩
    refine awp_loop (σ := Unit) (fun _ => ⟨[(0, .str (a ++ (c ++ x :: d))), (3, .int .i64 a.length), (4, .int .i64 (toV (a.length + (c.length + (d.length + 1))) a c)), (7, .int .i64 (a.length + c.length)), (8, .int .i64 1)], []⟩) (fun _ => True) (fun _ => 0) () (by simp) trivial ?_
    intro _ _
    have en : ((a.length : Int) + (c.length : Int)) = ((a.length + c.length : Nat) : Int) := by omega
    have ew : IntKind.i64.wrap ((a.length : Int) + c.length + 1) = (a.length : Int) + c.length + 1 := wrap64 (by omega) (by omega)
    rw [en]
    refine trim_inner Γ _ (a ++ (c ++ x :: d)) x (a.length + c.length) (a.length + (c.length + (d.length + 1))) _ _ (by simp) hget hx (by omega) (by omega) ?_
    rw [← en]
    have en2 : ((a.length : Int) + (c.length : Int)).toNat = a.length + c.length := by omega
    have en3 : ((a.length : Int) + (c.length : Int) + 1).toNat = a.length + c.length + 1 := by omega
    have esl : List.drop (a.length + c.length) (List.take (a.length + c.length + 1) (a ++ (c ++ x :: d))) = [x] := by
      rw [← List.append_assoc, show a.length + c.length = (a ++ c).length by simp, List.take_length_add_append, List.drop_left]; rfl
    have erun : runesF 1 [x] = [x.toNat] := by simp [runesF, decR_ascii hx]
    simp [t_dkim_zzTrimSpace_3, ew, en2, en3, esl, erun, rcA, acall, h23, con_zzIsSpace, hx2]
    refine ⟨⟨by omega, by omega, by omega⟩, fun hw => step _ ?_, fun hw => step _ ?_⟩
    · rw [isSp_ws hpx] at hw
      simp [toV, trimR_nw hw]
      try omega
    · rw [isSp_ws hpx] at hw
      have hc : c ≠ [] := by
        intro e; subst e
        rw [hb x d rfl] at hw; simp at hw
      simp [toV, hc, trimR_ws hw]

theorem ok_zzTrimSpace (Γ : Gam) (h23 : Γ.fn 23 = con_zzIsSpace) : ∀ args r, con_zzTrimSpace args = some r → runs Γ c_dkim_zzTrimSpace args (fun v => v = r) := by
  intro args r h
  simp only [con_zzTrimSpace] at h
  split at h <;> (try simp at h; done)
  rename_i s
  obtain ⟨⟨hs, hp⟩, rfl⟩ := ite_some h
  clear h
  simp only [mid] at hs
  simp [c_dkim_zzTrimSpace]
  refine awp_loop (σ := List UInt8 × List UInt8) (fun p => ⟨[(0, .str s), (3, .int .i64 s.length), (4, .int .i64 s.length), (16, .ref 16 0)], [(16, .sit s p.1.length)]⟩)
    (fun p => s = p.1 ++ p.2 ∧ ∀ x ∈ p.1, isWs x.toNat = true) (fun p => p.2.length) ([], s) (by simp) (by simp) ?_
  rintro ⟨a, b⟩ ⟨hs1, ha⟩
  simp only at hs1 ha
  cases b with
  | nil =>
    simp at hs1
    subst hs1
    simp [b_dkim_zzTrimSpace_1, t_dkim_zzTrimSpace_6]
    have := trim_loop2 Γ h23 s [] (by simpa using hp) (by simpa using hs) ha (by simp)
    simpa using this
  | cons x b =>
    subst hs1
    have hpx : plainB x = true ∧ plain b = true := by
      have : (plain a && plain (x :: b)) = true := by rw [← plain_app]; exact hp
      simp only [Bool.and_eq_true] at this
      have h2 := this.2
      simp only [plain, List.all_cons, Bool.and_eq_true] at h2
      exact h2
    have e1 : List.drop a.length (a ++ x :: b) = x :: b := by simp
    have hx := plainB_lt hpx.1
    have hx2 : (x.toNat : Int) < 128 := by omega
    simp [b_dkim_zzTrimSpace_1, t_dkim_zzTrimSpace_6, e1, decR_ascii hx, acall, h23, con_zzIsSpace, hx2]
    refine ⟨fun hw => ?_, fun hw => ?_⟩
    · have := trim_loop2 Γ h23 a (x :: b) hp hs ha (fun y r e => by injection e with e1 e2; subst e1; rw [← isSp_ws hpx.1]; exact hw)
      simpa using this
    · refine ⟨(a ++ [x], b), by simp, ⟨by simp, ?_⟩, by simp⟩
      intro y hy
      simp at hy
      rcases hy with hy | rfl
      · exact ha y hy
      · rw [← isSp_ws hpx.1]; exact hw
end Wax

/- FnDPicks (1): lists of texts that are the same; names of fields; texts that are the same but for letters' case. -/
namespace Wax
open Go (IntKind)

def con_dSameTexts : List AV → Option AV
  | [u, v] => match slStrs u, slStrs v with
    | some l, some m => if l.length < mid ∧ m.length < mid then some (.bool (decide (l = m))) else none
    | _, _ => none
  | _ => none

theorem ok_dSameTexts (Γ : Gam) : ∀ args r, con_dSameTexts args = some r → runs Γ c_laws_dSameTexts args (fun v => v = r) := by
  intro args r h
  simp only [con_dSameTexts] at h
  split at h <;> (try simp at h; done)
  rename_i u v
  split at h <;> (try simp at h; done)
  rename_i l m hl hm
  obtain ⟨⟨h1, h2⟩, rfl⟩ := ite_some h
  clear h
  simp only [mid] at h1 h2
  by_cases hlen : l.length = m.length
  · have key : awp Γ (.loop [0, 1, 5] b_laws_dSameTexts_1) (blockQ 0 (thenQ (awp Γ t_laws_dSameTexts_2 (finQ [.t 4] fun v => v = .bool (decide (l = m)))) (finQ [.t 4] fun v => v = .bool (decide (l = m))))) ⟨[(0, u), (1, v), (5, .int .i64 0)], []⟩ := by
      refine awp_loop2 (σ := List (List UInt8) × List (List UInt8) × List (List UInt8)) (fun p => ⟨[(0, u), (1, v), (5, .int .i64 p.1.length)], []⟩)
        (fun p => l = p.1 ++ p.2.1 ∧ m = p.1 ++ p.2.2) (fun p => p.2.1.length) ([], l, m) (by simp) (by simp) ?_
      rintro ⟨pre, a, b⟩ ⟨e1, e2⟩ LQ hLQ
      simp only at e1 e2
      subst e1 e2
      cases a with
      | nil =>
        have hb : b = [] := by simpa using hlen
        subst hb
        rcases slStrs_cases hl with ⟨rfl, hp⟩ | rfl
        · simp at hp; subst hp
          simp [b_laws_dSameTexts_1, t_laws_dSameTexts_2]
        · simp [b_laws_dSameTexts_1, t_laws_dSameTexts_2]
      | cons x a =>
        cases b with
        | nil => simp at hlen
        | cons y b =>
          simp at h1 h2 hlen
          rcases slStrs_cases hl with ⟨rfl, hp⟩ | rfl
          · simp at hp
          rcases slStrs_cases hm with ⟨rfl, hp⟩ | rfl
          · simp at hp
          have ew : IntKind.i64.wrap ((pre.length : Int) + 1) = (pre.length : Int) + 1 := wrap64 (by omega) (by omega)
          have hlt : (pre.length : Int) < (pre.length : Int) + ((a.length : Int) + 1) := by omega
          by_cases hxy : x = y
          · subst hxy
            simp [b_laws_dSameTexts_1, ew]
            refine ⟨fun _ => ?_, fun h => by omega⟩
            exact hLQ (pre ++ [x], a, b) (by simp) (by simp) _ (by simp)
          · have : ¬ pre ++ x :: a = pre ++ y :: b := by simp [hxy]
            simp [b_laws_dSameTexts_1, ew, hxy]
            omega
    rcases slStrs_cases hl with ⟨rfl, rfl⟩ | rfl <;> rcases slStrs_cases hm with ⟨rfl, rfl⟩ | rfl
    · simp [c_laws_dSameTexts]; simpa using key
    · obtain rfl : m = [] := List.eq_nil_of_length_eq_zero hlen.symm
      simp [c_laws_dSameTexts]; simpa using key
    · simp at hlen
      subst hlen
      simp [c_laws_dSameTexts]; simpa using key
    · simp [c_laws_dSameTexts, hlen]; exact key
  · have hne : ¬ l = m := fun e => hlen (by rw [e])
    have hlen2 : ¬ (l.length : Int) = (m.length : Int) := by omega
    rcases slStrs_cases hl with ⟨rfl, rfl⟩ | rfl <;> rcases slStrs_cases hm with ⟨rfl, rfl⟩ | rfl
    · simp at hlen
    · have : ¬ m.length = 0 := by simpa using fun e => hlen (by rw [e])
      have h0' : ¬ (0 : Int) = (m.length : Int) := by omega
      simp [c_laws_dSameTexts, h0', hne]
    · have : ¬ l.length = 0 := by simpa using fun e => hlen (by rw [e])
      have h0 : ¬ (l.length : Int) = 0 := by omega
      simp [c_laws_dSameTexts, h0, hne]
    · simp [c_laws_dSameTexts, hlen, hlen2, hne]

/-- A field's name. -/
def nameOf (s : List UInt8) : List UInt8 := trimS (match cutAt 58 s with | some p => p.1 | none => s)

def con_DName : List AV → Option AV
  | [.str s] => if s.length < mid then some (.str (nameOf s)) else none
  | _ => none

theorem cutAt_le {c : Int} {s : List UInt8} {p : List UInt8 × List UInt8} (h : cutAt c s = some p) : p.1.length + p.2.length < s.length ∧ ∃ x, s = p.1 ++ x :: p.2 := by
  obtain ⟨a, b⟩ := p
  obtain ⟨x, hx1, hx2, _⟩ := cutAt_eq h
  subst hx2
  simp

theorem ok_DName (Γ : Gam) (h2 : Γ.fn 2 = con_dCut) (h3 : Γ.fn 3 = con_DTrim) : ∀ args r, con_DName args = some r → runs Γ c_spec_DName args (fun v => v = r) := by
  intro args r h
  simp only [con_DName] at h
  split at h <;> (try simp at h; done)
  rename_i s
  obtain ⟨hs, rfl⟩ := ite_some h
  clear h
  have k2 : con_dCut [.str s, .int .u8 58] = some (cutV 58 s) := by
    simp only [con_dCut]; exact if_pos (by simp only [mid] at hs; simp only [big]; omega)
  have k3 : ∀ t : List UInt8, t.length ≤ s.length → con_DTrim [.str t] = some (.str (trimS t)) := by
    intro t ht
    simp only [con_DTrim]; exact if_pos (by simp only [mid] at hs; simp only [big]; omega)
  cases hc : cutAt 58 s with
  | none =>
    have k := k3 s (Nat.le_refl _)
    simp [c_spec_DName, acall, h2, h3, k2, cutV, hc, k, nameOf]
  | some p =>
    have k := k3 p.1 (by have := (cutAt_le hc).1; omega)
    simp [c_spec_DName, acall, h2, h3, k2, cutV, hc, k, nameOf]

def con_parseHeaderField : List AV → Option AV
  | [.str s] => if s.length < mid ∧ plain s = true then some (.tup [.str (nameOf s), .str (trimS (match cutAt 58 s with | some p => p.2 | none => []))]) else none
  | _ => none

theorem ok_parseHeaderField (Γ : Gam) (h16 : Γ.fn 16 = con_zzCut) (h18 : Γ.fn 18 = con_zzTrimSpace) : ∀ args r, con_parseHeaderField args = some r → runs Γ c_dkim_parseHeaderField args (fun v => v = r) := by
  intro args r h
  simp only [con_parseHeaderField] at h
  split at h <;> (try simp at h; done)
  rename_i s
  obtain ⟨⟨hs, hp⟩, rfl⟩ := ite_some h
  clear h
  have k16 : con_zzCut [.str s, .str [58]] = some (cutV 58 s) := by
    simp only [con_zzCut]; exact if_pos (by simp only [mid] at hs; simp only [big]; omega)
  have k18 : ∀ t : List UInt8, t.length ≤ s.length → plain t = true → con_zzTrimSpace [.str t] = some (.str (trimS t)) := by
    intro t ht hpt
    simp only [con_zzTrimSpace]; exact if_pos ⟨by omega, hpt⟩
  have e0 : con_zzTrimSpace [.str []] = some (.str (trimS [])) := k18 [] (by simp) rfl
  cases hc : cutAt 58 s with
  | none =>
    have k := k18 s (Nat.le_refl _) hp
    simp [c_dkim_parseHeaderField, acall, h16, h18, k16, cutV, hc, k, nameOf, e0]
  | some p =>
    obtain ⟨hl, x, hx⟩ := cutAt_le hc
    have hp' := hp
    rw [hx, plain_app] at hp'
    simp only [Bool.and_eq_true] at hp'
    have hp2 : plain p.2 = true := by
      have := hp'.2
      simp only [plain, List.all_cons, Bool.and_eq_true] at this
      exact this.2
    have k := k18 p.1 (by omega) hp'.1
    have kk := k18 p.2 (by omega) hp2
    simp [c_dkim_parseHeaderField, acall, h16, h18, k16, cutV, hc, k, kk, nameOf]

/-- Letters as runes. -/
def rA (s : List UInt8) : List AV := s.map fun b => AV.int .i32 (b.toNat : Int)
@[simp] theorem rA_nil : rA [] = [] := rfl
@[simp] theorem rA_cons {x : UInt8} {l : List UInt8} : rA (x :: l) = .int .i32 (x.toNat : Int) :: rA l := rfl
@[simp] theorem rA_app {l m : List UInt8} : rA (l ++ m) = rA l ++ rA m := by simp [rA]
@[simp] theorem rA_length {l : List UInt8} : (rA l).length = l.length := by simp [rA]
@[simp] theorem atoms_rA {l : List UInt8} : atoms (rA l) = true := by induction l <;> simp_all
@[simp] theorem killL_rA {d : Nat} {l : List UInt8} : killL d (rA l) = rA l := by induction l <;> simp_all
@[simp] theorem snapWL_rA {g : AV → AV} {l : List UInt8} : snapWL g (rA l) = rA l := by induction l <;> simp_all
@[simp] theorem map_snapW_rA {g : AV → AV} {l : List UInt8} : (rA l).map (snapW g) = rA l := by induction l <;> simp_all
@[simp] theorem map_snap_rA {n : Nat} {hp : List (Nat × AObj)} {l : List UInt8} : (rA l).map (snap (n + 1) hp) = rA l := by induction l <;> simp_all
attribute [local simp] lowS_cons lowS_nil lowS_app
@[simp] theorem take_rA {l : List UInt8} : List.take l.length (rA (lowS l)) = rA (lowS l) := List.take_of_length_le (by simp [lowS])
@[simp] theorem lowS_len {l : List UInt8} : (lowS l).length = l.length := by simp [lowS]

def rV (s : List UInt8) : AV := match s with | [] => .nilS | _ => .sl 1 (rA s)

def con_zzEqualFold1 : List AV → Option AV
  | [.str s] => if s.length < mid ∧ ascii s = true then some (rV (lowS s)) else none
  | _ => none

set_option maxRecDepth 100000 in
theorem ok_zzEqualFold1 (Γ : Gam) : ∀ args r, con_zzEqualFold1 args = some r → runs Γ c_dkim_zzEqualFold_1 args (fun v => v = r) := by
  intro args r h
  simp only [con_zzEqualFold1] at h
  split at h <;> (try simp at h; done)
  rename_i s
  obtain ⟨⟨hs, ha⟩, rfl⟩ := ite_some h
  clear h
  simp only [mid] at hs
  simp [c_dkim_zzEqualFold_1]
  refine awp_loop2 (σ := List UInt8 × List UInt8) (fun p => ⟨[(3, grV 29 1 p.1.length), (7, .ref 7 0)], grH 29 p.1.length (rA (lowS p.1)) ++ [(7, .sit s p.1.length)]⟩)
    (fun p => s = p.1 ++ p.2) (fun p => p.2.length) ([], s) (by simp) (by simp) ?_
  rintro ⟨pre, post⟩ hs1 LQ hLQ
  simp only at hs1
  subst hs1
  cases post with
  | nil =>
    simp at hs
    cases pre with
    | nil => simp [b_dkim_zzEqualFold_1_1, t_dkim_zzEqualFold_1_2, rV]
    | cons y pre => simp [b_dkim_zzEqualFold_1_1, t_dkim_zzEqualFold_1_2, rV, List.take_of_length_le]
  | cons x post =>
    have hx := (ascii_lt (by rw [ascii_app] at ha; simp only [Bool.and_eq_true] at ha; exact ha.2 : ascii (x :: post) = true)).1
    simp at hs
    have fin : ∀ st, norm [3, 7] st = ⟨[(3, .msl 29 1 0 (pre.length + 1)), (7, .ref 7 0)], [(29, .cells (rA (lowS pre) ++ [.int .i32 ((lowB x).toNat : Int)])), (7, .sit (pre ++ x :: post) (pre.length + 1))]⟩ → LQ st := by
      intro st hst
      refine hLQ (pre ++ [x], post) (by simp) (by simp) st ?_
      simpa using hst
    have n1 : ¬ (x.toNat : Int) = 383 := by omega
    have n2 : ¬ (x.toNat : Int) = 8490 := by omega
    have lb := lowB_toNat x
    by_cases hu : 65 ≤ x.toNat ∧ x.toNat ≤ 90
    · have hu1 : (65 : Int) ≤ (x.toNat : Int) := by omega
      have hu2 : (x.toNat : Int) ≤ 90 := by omega
      have ew : IntKind.i32.wrap ((x.toNat : Int) + 32) = ((lowB x).toNat : Int) := by
        rw [lb]
        have : (65 : Int) ≤ (x.toNat : Int) ∧ (x.toNat : Int) ≤ 90 := ⟨hu1, hu2⟩
        simp only [IntKind.wrap_i32]
        split <;> omega
      cases pre with
      | nil => 
        simp [b_dkim_zzEqualFold_1_1, decA hx, n1, n2, hu1, hu2, ew]
        exact fin _ (by simp)
      | cons y pre =>
        simp at hs
        simp [b_dkim_zzEqualFold_1_1, decA hx, n1, n2, hu1, hu2, ew]
        refine ⟨by omega, fin _ (by simp)⟩
    · have ew : ((lowB x).toNat : Int) = (x.toNat : Int) := by
        rw [lb]; split <;> omega
      have fin' := fin
      rw [ew] at fin'
      have hor : ¬ (65 : Int) ≤ (x.toNat : Int) ∨ ¬ (x.toNat : Int) ≤ 90 := by omega
      rcases hor with hu1 | hu2
      · cases pre with
        | nil => 
          simp [b_dkim_zzEqualFold_1_1, decA hx, n1, n2, hu1]
          exact fin' _ (by simp)
        | cons y pre =>
          simp at hs
          simp [b_dkim_zzEqualFold_1_1, decA hx, n1, n2, hu1]
          refine ⟨by omega, fin' _ (by simp)⟩
      · have hu1 : (65 : Int) ≤ (x.toNat : Int) := by omega
        cases pre with
        | nil => 
          simp [b_dkim_zzEqualFold_1_1, decA hx, n1, n2, hu1, hu2]
          exact fin' _ (by simp)
        | cons y pre =>
          simp at hs
          simp [b_dkim_zzEqualFold_1_1, decA hx, n1, n2, hu1, hu2]
          refine ⟨by omega, fin' _ (by simp)⟩

def con_zzEqualFold : List AV → Option AV
  | [.str s, .str t] => if s.length < mid ∧ t.length < mid ∧ ascii s = true ∧ ascii t = true then some (.bool (decide (lowS s = lowS t))) else none
  | _ => none

set_option maxRecDepth 100000 in
theorem ok_zzEqualFold (Γ : Gam) (h42 : Γ.fn 42 = con_zzEqualFold1) : ∀ args r, con_zzEqualFold args = some r → runs Γ c_dkim_zzEqualFold args (fun v => v = r) := by
  intro args r h
  simp only [con_zzEqualFold] at h
  split at h <;> (try simp at h; done)
  rename_i s t
  obtain ⟨⟨hs, ht, has, hat⟩, rfl⟩ := ite_some h
  clear h
  have ks : con_zzEqualFold1 [.str s] = some (rV (lowS s)) := if_pos ⟨hs, has⟩
  have kt : con_zzEqualFold1 [.str t] = some (rV (lowS t)) := if_pos ⟨ht, hat⟩
  simp only [mid] at hs ht
  have hls : (lowS s).length < 1099511627776 := by simpa using hs
  have hlt : (lowS t).length < 1099511627776 := by simpa using ht
  simp [c_dkim_zzEqualFold, acall, h42, ks, kt]
  clear ks kt hs ht has hat
  generalize lowS s = l at *
  generalize lowS t = m at *
  by_cases hlen : l.length = m.length
  · have key : awp Γ (.loop [6, 7, 21, 22] b_dkim_zzEqualFold_1) (blockQ 0 (thenQ (awp Γ t_dkim_zzEqualFold_2 (finQ [.t 4] fun v => v = .bool (decide (l = m)))) (finQ [.t 4] fun v => v = .bool (decide (l = m))))) ⟨[(6, rV l), (7, rV m), (21, .int .i64 l.length), (22, .int .i64 0)], []⟩ := by
      refine awp_loop2 (σ := List UInt8 × List UInt8 × List UInt8) (fun p => ⟨[(6, rV l), (7, rV m), (21, .int .i64 l.length), (22, .int .i64 p.1.length)], []⟩)
        (fun p => l = p.1 ++ p.2.1 ∧ m = p.1 ++ p.2.2) (fun p => p.2.1.length) ([], l, m) (by simp) (by simp) ?_
      rintro ⟨pre, a, b⟩ ⟨e1, e2⟩ LQ hLQ
      simp only at e1 e2
      subst e1 e2
      cases a with
      | nil =>
        have hb : b = [] := by simpa using hlen
        subst hb
        simp [b_dkim_zzEqualFold_1, t_dkim_zzEqualFold_2]
      | cons x a =>
        cases b with
        | nil => simp at hlen
        | cons y b =>
          simp at hls hlt hlen
          have er1 : rV (pre ++ x :: a) = .sl 1 (rA pre ++ .int .i32 (x.toNat : Int) :: rA a) := by
            cases pre <;> simp [rV]
          have er2 : rV (pre ++ y :: b) = .sl 1 (rA pre ++ .int .i32 (y.toNat : Int) :: rA b) := by
            cases pre <;> simp [rV]
          have ew : IntKind.i64.wrap ((pre.length : Int) + 1) = (pre.length : Int) + 1 := wrap64 (by omega) (by omega)
          have g : ∀ (q : List UInt8) (v : AV), (rA pre ++ v :: rA q)[pre.length]? = some v := fun q v => get_mid (by simp)
          by_cases hxy : x = y
          · subst hxy
            simp [b_dkim_zzEqualFold_1, ew, er1, er2, g]
            refine ⟨fun _ => ?_, fun h => by omega⟩
            exact hLQ (pre ++ [x], a, b) (by simp) (by simp) _ (by simp [er1, er2])
          · have hn : ¬ (x.toNat : Int) = (y.toNat : Int) := fun e => hxy (UInt8.toNat_inj.1 (by omega))
            simp [b_dkim_zzEqualFold_1, ew, er1, er2, g, hn, hxy]
            omega
    cases l with
    | nil =>
      cases m with
      | nil => simp [rV] at key ⊢; exact key
      | cons => simp at hlen
    | cons x l =>
      cases m with
      | nil => simp at hlen
      | cons y m => simp at hlen; simp [rV, hlen] at key ⊢; exact key
  · have hne : ¬ l = m := fun e => hlen (by rw [e])
    have hlen2 : ¬ (l.length : Int) = (m.length : Int) := by omega
    cases l with
    | nil =>
      cases m with
      | nil => simp at hlen
      | cons y m => simp [rV]; omega
    | cons x l =>
      cases m with
      | nil => simp [rV]; omega
      | cons y m => simp at hlen hlen2; simp [rV, hlen, hlen2]; simp at hne; omega
end Wax

/- FnDPicks (2): the picker of header fields. -/
namespace Wax
open Go (IntKind)

/-- What an evaluation asks of a slice of texts. -/
theorem slf_alen {u : AV} {l : List (List UInt8)} (h : slStrs u = some l) (hp : List (Nat × AObj)) : alen hp 1 u = some l.length := by
  rcases slStrs_cases h with ⟨rfl, rfl⟩ | rfl <;> simp
theorem slf_kill {u : AV} {l : List (List UInt8)} (h : slStrs u = some l) (d : Nat) : kill d u = u := by
  rcases slStrs_cases h with ⟨rfl, rfl⟩ | rfl <;> simp
theorem slf_ref {u : AV} {l : List (List UInt8)} (h : slStrs u = some l) : hasRef u = false := by
  rcases slStrs_cases h with ⟨rfl, rfl⟩ | rfl <;> simp
theorem slf_refs {u : AV} {l : List (List UInt8)} (h : slStrs u = some l) : refs u = [] := by
  rcases slStrs_cases h with ⟨rfl, rfl⟩ | rfl <;> simp
theorem slf_map {u : AV} {l : List (List UInt8)} (h : slStrs u = some l) (g : Nat → Nat) : mapId g u = u := by
  rcases slStrs_cases h with ⟨rfl, rfl⟩ | rfl <;> simp
theorem slf_snap {u : AV} {l : List (List UInt8)} (h : slStrs u = some l) (n : Nat) (hp : List (Nat × AObj)) : snap (n + 1) hp u = u := by
  rcases slStrs_cases h with ⟨rfl, rfl⟩ | rfl <;> simp
theorem slf_snapW {u : AV} {l : List (List UInt8)} (h : slStrs u = some l) (g : AV → AV) : snapW g u = u := by
  rcases slStrs_cases h with ⟨rfl, rfl⟩ | rfl <;> simp
theorem slf_atom {u : AV} {l : List (List UInt8)} (h : slStrs u = some l) : atom u = true := by
  rcases slStrs_cases h with ⟨rfl, rfl⟩ | rfl <;> simp
theorem slf_cells {u : AV} {l : List (List UInt8)} (h : slStrs u = some l) : cells u = [u] := by
  rcases slStrs_cases h with ⟨rfl, rfl⟩ | rfl <;> simp
theorem slf_ne {u : AV} {l : List (List UInt8)} (h : slStrs u = some l) (hl : l ≠ []) : u = .sl 1 (strsA l) := by
  rcases slStrs_cases h with ⟨rfl, rfl⟩ | rfl
  · exact absurd rfl hl
  · rfl

def con_newHeaderPicker : List AV → List (Nat × AObj) → Option (AV × List (Nat × AObj))
  | [u], [] => match slStrs u with
    | some _ => some (.ref 0 0, [(0, .cells [u, .mref 1]), (1, .mp [])])
    | none => none
  | _, _ => none

theorem ok_newHeaderPicker (Γ : Gam) : ∀ args hp q, con_newHeaderPicker args hp = some q → runsS Γ c_dkim_newHeaderPicker args hp (fun v => v = some q) := by
  intro args hp q h
  simp only [con_newHeaderPicker] at h
  split at h <;> (try simp at h; done)
  rename_i u
  split at h <;> (try simp at h; done)
  rename_i l hl
  injection h with h; subst h
  rcases slStrs_cases hl with ⟨rfl, rfl⟩ | rfl <;> simp [c_dkim_newHeaderPicker, reach_succ]

def mpA (c : List (List UInt8 × Nat)) : List (List UInt8 × AV) := c.map fun p => (p.1, .int .i64 (p.2 : Int))
def asCnt : List (List UInt8 × AV) → Option (List (List UInt8 × Nat))
  | [] => some []
  | (k, .int .i64 n) :: r => if 0 ≤ n then (asCnt r).map ((k, n.toNat) :: ·) else none
  | _ :: _ => none
theorem asCnt_mpA : ∀ c, asCnt (mpA c) = some c
  | [] => rfl
  | (k, n) :: r => by
    have := asCnt_mpA r
    simp only [mpA, List.map_cons, asCnt] at this ⊢
    rw [this, if_pos (by omega)]; simp
theorem asCnt_spec : ∀ {es c}, asCnt es = some c → es = mpA c
  | [], c, h => by simp [asCnt] at h; subst h; rfl
  | (k, v) :: r, c, h => by
    cases v <;> (try (simp [asCnt] at h; done))
    rename_i t n
    cases t <;> (try (simp [asCnt] at h; done))
    simp only [asCnt] at h
    split at h
    · rename_i hn
      cases hr : asCnt r with
      | none => rw [hr] at h; simp at h
      | some c' =>
        rw [hr] at h; simp at h; subst h
        rw [asCnt_spec hr]
        simp [mpA]; omega
    · simp at h

def getC : List (List UInt8 × Nat) → List UInt8 → Nat
  | [], _ => 0
  | (i, n) :: r, k => if k = i then n else getC r k
def setC : List (List UInt8 × Nat) → List UInt8 → Nat → List (List UInt8 × Nat)
  | [], k, v => [(k, v)]
  | (i, n) :: r, k, v => if k = i then (k, v) :: r else (i, n) :: setC r k v
theorem look_mpA : ∀ (c : List (List UInt8 × Nat)) (k : List UInt8), lookA (mpA c) k (.int .i64 0) false = .int .i64 (getC c k : Int)
  | [], k => rfl
  | (i, n) :: r, k => by
    have := look_mpA r k
    by_cases h : k = i <;> simp [mpA, lookA, mfind, getC, h] at this ⊢
    exact this
theorem mset_mpA : ∀ (c : List (List UInt8 × Nat)) (k : List UInt8) (n : Nat), mset (mpA c) k (.int .i64 (n : Int)) = mpA (setC c k n)
  | [], k, n => rfl
  | (i, m) :: r, k, n => by
    have := mset_mpA r k n
    by_cases h : k = i <;> simp [mpA, mset, setC, h] at this ⊢
    exact this
theorem getC_setC : ∀ (c : List (List UInt8 × Nat)) (k : List UInt8) (n : Nat) (j : List UInt8), getC (setC c k n) j = if j = k then n else getC c j
  | [], k, n, j => rfl
  | (i, m) :: r, k, n, j => by
    have := getC_setC r k n j
    by_cases h : k = i
    · subst h; by_cases h2 : j = k <;> simp [setC, getC, h2]
    · by_cases h2 : j = i
      · subst h2; have : ¬ j = k := fun e => h e.symm
        simp [setC, getC, h, this]
      · simp [setC, getC, h, h2, this]

/-- The field of that name, so many times passed over. -/
def pk (key : List UInt8) : List (List UInt8) → Nat → Option (List UInt8)
  | [], _ => none
  | f :: r, n => if lowS (nameOf f) = key then (match n with | 0 => some f | n + 1 => pk key r n) else pk key r n

def pkRes (u : AV) (c : List (List UInt8 × Nat)) (key : List UInt8) : Option (List UInt8) → AV × List (Nat × AObj)
  | some f => (.str f, [(0, .cells [u, .mref 1]), (1, .mp (mpA (setC c key (getC c key + 1))))])
  | none => (.str [], [(0, .cells [u, .mref 1]), (1, .mp (mpA c))])

def con_hpPick : List AV → List (Nat × AObj) → Option (AV × List (Nat × AObj))
  | [.ref 0 0, .str k], [(0, .cells [u, .mref 1]), (1, .mp es)] => match slStrs u, asCnt es with
    | some fs, some c => if fs.length < mid ∧ (∀ s ∈ fs, s.length < mid ∧ plain s = true) ∧ k.length < mid ∧ plain k = true ∧ getC c (lowS k) < mid then
        some (pkRes u c (lowS k) (pk (lowS k) fs.reverse (getC c (lowS k))))
      else none
    | _, _ => none
  | _, _ => none

theorem nameOf_len (s : List UInt8) : (nameOf s).length ≤ s.length := by
  have ht : ∀ t : List UInt8, (trimS t).length ≤ t.length := by
    intro t
    have h1 : (trimL t).length ≤ t.length := (List.dropWhile_suffix _).length_le
    have h2 : (trimR (trimL t)).length ≤ (trimL t).length := by
      simp only [trimR, List.length_reverse]
      have := (List.dropWhile_suffix (fun b : UInt8 => isWs b.toNat) (l := (trimL t).reverse)).length_le
      simpa using this
    exact Nat.le_trans h2 h1
  simp only [nameOf]
  cases hc : cutAt 58 s with
  | none => exact ht s
  | some p => have := (cutAt_le hc).1; have := ht p.1; simp only; omega

theorem plain_sub {s t : List UInt8} (h : ∀ x ∈ t, x ∈ s) (hs : plain s = true) : plain t = true := by
  simp only [plain, List.all_eq_true] at hs ⊢
  exact fun x hx => hs x (h x hx)

theorem trimS_sub {t : List UInt8} : ∀ x ∈ trimS t, x ∈ t := by
  intro x hx
  simp only [trimS, trimR, trimL, List.mem_reverse] at hx
  have := (List.dropWhile_suffix _).mem hx
  rw [List.mem_reverse] at this
  exact (List.dropWhile_suffix _).mem this

theorem nameOf_plain {s : List UInt8} (h : plain s = true) : plain (nameOf s) = true := by
  simp only [nameOf]
  refine plain_sub (fun x hx => trimS_sub x hx) ?_
  cases hc : cutAt 58 s with
  | none => exact h
  | some p =>
    obtain ⟨_, y, hy⟩ := cutAt_le hc
    refine plain_sub (fun x hx => ?_) h
    rw [hy]; simp [show x ∈ p.1 from hx]
theorem plain_lowS {s : List UInt8} (h : plain s = true) : ascii (lowS s) = true := by
  have := plain_ascii h
  simp only [ascii, lowS, List.all_map, List.all_eq_true] at this ⊢
  intro x hx
  have h1 := of_decide_eq_true (this x hx)
  have lb := lowB_toNat x
  refine decide_eq_true ?_
  split at lb <;> omega
end Wax

/- FnDParams (1): splitting at a byte; pairs. -/
namespace Wax
open Go (IntKind)

def con_DSplit : List AV → Option AV
  | [.str s, .int .u8 n] => if s.length < mid ∧ 0 ≤ n ∧ n < 256 then some (.sl 1 (strsA (splitB (UInt8.ofNat n.toNat) s))) else none
  | _ => none

theorem ok_DSplit (Γ : Gam) (h2 : Γ.fn 2 = con_dCut) : ∀ args r, con_DSplit args = some r → runs Γ c_spec_DSplit args (fun v => v = r) := by
  intro args r h
  simp only [con_DSplit] at h
  split at h <;> (try simp at h; done)
  rename_i s n
  obtain ⟨⟨hs, hn0, hn⟩, rfl⟩ := ite_some h
  clear h
  obtain ⟨b, rfl⟩ : ∃ b : UInt8, n = (b.toNat : Int) := ⟨UInt8.ofNat n.toNat, by
    have : (UInt8.ofNat n.toNat).toNat = n.toNat := by simp; omega
    rw [this]; omega⟩
  have eb : UInt8.ofNat (b.toNat : Int).toNat = b := by simp
  rw [eb]
  have k2 : ∀ t : List UInt8, t.length ≤ s.length → con_dCut [.str t, .int .u8 b.toNat] = some (cutV b.toNat t) := by
    intro t ht
    simp only [con_dCut]; exact if_pos (by simp only [mid] at hs; simp only [big]; omega)
  simp only [mid] at hs
  simp [c_spec_DSplit]
  refine awp_loop2 (σ := List (List UInt8) × List UInt8) (fun p => ⟨[(0, .str p.2), (1, .int .u8 b.toNat), (5, grV 19 1 p.1.length)], grH 19 p.1.length (strsA p.1)⟩)
    (fun p => splitB b s = p.1 ++ splitB b p.2 ∧ p.2.length + p.1.length ≤ s.length) (fun p => p.2.length) ([], s) (by simp) (by simp) ?_
  rintro ⟨outs, t⟩ ⟨hsp, htl⟩ LQ hLQ
  simp only at hsp htl
  have k := k2 t (by omega)
  rw [splitB_cut b t] at hsp
  cases hc : cutAt b.toNat t with
  | none =>
    simp only [hc] at hsp
    rw [hsp]
    cases outs with
    | nil => simp [b_spec_DSplit_1, acall, h2, k, cutV, hc]
    | cons o outs =>
      simp at htl
      simp [b_spec_DSplit_1, acall, h2, k, cutV, hc, List.take_of_length_le]
      omega
  | some p =>
    simp only [hc] at hsp
    obtain ⟨hpl, _⟩ := cutAt_le hc
    have fin : ∀ st, norm [0, 1, 5] st = ⟨[(0, .str p.2), (1, .int .u8 b.toNat), (5, .msl 19 1 0 (outs.length + 1))], [(19, .cells (strsA outs ++ [.str p.1]))]⟩ → LQ st := by
      intro st hst
      refine hLQ (outs ++ [p.1], p.2) ⟨by rw [hsp]; simp, by simp; omega⟩ (by simp only; omega) st (by simpa using hst)
    cases outs with
    | nil =>
      simp [b_spec_DSplit_1, acall, h2, k, cutV, hc]
      exact fin _ (by simp)
    | cons o outs =>
      simp at htl
      simp [b_spec_DSplit_1, acall, h2, k, cutV, hc]
      exact ⟨by omega, fin _ (by simp)⟩

/-- Pairs of texts, as elements of two cells. -/
def pr2 (l : List (List UInt8 × List UInt8)) : List AV := l.map fun p => .agg [.str p.1, .str p.2]
/-- .. as cells. -/
def pc2 (l : List (List UInt8 × List UInt8)) : List AV := l.flatMap fun p => [.str p.1, .str p.2]
@[simp] theorem pr2_nil : pr2 [] = [] := rfl
@[simp] theorem pr2_cons {x l} : pr2 (x :: l) = .agg [.str x.1, .str x.2] :: pr2 l := rfl
@[simp] theorem pr2_app {l m} : pr2 (l ++ m) = pr2 l ++ pr2 m := by simp [pr2]
@[simp] theorem pr2_length {l} : (pr2 l).length = l.length := by simp [pr2]
@[simp] theorem pc2_nil : pc2 [] = [] := rfl
@[simp] theorem pc2_cons {x : List UInt8 × List UInt8} {l} : pc2 (x :: l) = .str x.1 :: .str x.2 :: pc2 l := rfl
@[simp] theorem pc2_app {l m} : pc2 (l ++ m) = pc2 l ++ pc2 m := by simp [pc2]
@[simp] theorem pc2_length {l : List (List UInt8 × List UInt8)} : (pc2 l).length = l.length * 2 := by induction l <;> simp_all; omega
@[simp] theorem atoms_pc2 {l} : atoms (pc2 l) = true := by induction l <;> simp_all
@[simp] theorem killL_pc2 {d l} : killL d (pc2 l) = pc2 l := by induction l <;> simp_all
@[simp] theorem map_snap_pc2 {n : Nat} {hp : List (Nat × AObj)} {l} : (pc2 l).map (snap (n + 1) hp) = pc2 l := by induction l <;> simp_all
@[simp] theorem snapWL_pc2 {g : AV → AV} {l} : snapWL g (pc2 l) = pc2 l := by induction l <;> simp_all
@[simp] theorem group_pc2 : ∀ {l : List (List UInt8 × List UInt8)}, group 2 l.length (pc2 l) = pr2 l
  | [] => rfl
  | x :: l => by simp [group, group_pc2 (l := l)]

def pairV (l : List (List UInt8 × List UInt8)) : AV := match l with | [] => .nilS | _ => .sl 2 (pr2 l)
def asPairs : List AV → Option (List (List UInt8 × List UInt8))
  | [] => some []
  | .agg [.str a, .str b] :: r => (asPairs r).map ((a, b) :: ·)
  | _ :: _ => none
def slPairs : AV → Option (List (List UInt8 × List UInt8))
  | .nilS => some []
  | .sl es xs => if es = 2 then asPairs xs else none
  | _ => none
theorem asPairs_pr2 : ∀ l, asPairs (pr2 l) = some l
  | [] => rfl
  | x :: l => by simp [asPairs, asPairs_pr2 l]
theorem asPairs_spec : ∀ {xs l}, asPairs xs = some l → xs = pr2 l
  | [], l, h => by simp [asPairs] at h; subst h; rfl
  | v :: r, l, h => by
    unfold asPairs at h
    split at h
    · simp at h; rename_i e; simp at e
    · rename_i a b r' e
      simp at e; obtain ⟨rfl, rfl⟩ := e
      cases hr : asPairs r with
      | none => rw [hr] at h; simp at h
      | some l' => rw [hr] at h; simp at h; subst h; rw [asPairs_spec hr]; rfl
    · simp at h
theorem slPairs_cases {v : AV} {l} (h : slPairs v = some l) : (v = .nilS ∧ l = []) ∨ v = .sl 2 (pr2 l) := by
  cases v <;> simp [slPairs] at h
  · left; exact ⟨rfl, h⟩
  · right; obtain ⟨e, h⟩ := h; rw [asPairs_spec h, e]
theorem slPairs_pairV {l} : slPairs (pairV l) = some l := by
  cases l <;> simp [pairV, slPairs, ← pr2_cons, asPairs_pr2, -pr2_cons]
end Wax

/- FnDParams (2): lists of pairs; a text's tags, as the program reads them. -/
namespace Wax
open Go (IntKind)

def con_dSamePairs : List AV → Option AV
  | [u, v] => match slPairs u, slPairs v with
    | some l, some m => if l.length < mid ∧ m.length < mid then some (.bool (decide (l = m))) else none
    | _, _ => none
  | _ => none

theorem slp_alen {u : AV} {l} (h : slPairs u = some l) (hp : List (Nat × AObj)) : alen hp 1 u = some l.length := by
  rcases slPairs_cases h with ⟨rfl, rfl⟩ | rfl <;> simp
theorem slp_ne {u : AV} {l} (h : slPairs u = some l) (hl : l ≠ []) : u = .sl 2 (pr2 l) := by
  rcases slPairs_cases h with ⟨rfl, rfl⟩ | rfl
  · exact absurd rfl hl
  · rfl
@[simp] theorem pr2_get {l : List (List UInt8 × List UInt8)} {i : Nat} : (pr2 l)[i]? = l[i]?.map fun p => AV.agg [.str p.1, .str p.2] := by simp [pr2]

theorem ok_dSamePairs (Γ : Gam) : ∀ args r, con_dSamePairs args = some r → runs Γ c_laws_dSamePairs args (fun v => v = r) := by
  intro args r h
  simp only [con_dSamePairs] at h
  split at h <;> (try simp at h; done)
  rename_i u v
  split at h <;> (try simp at h; done)
  rename_i l m hl hm
  obtain ⟨⟨h1, h2⟩, rfl⟩ := ite_some h
  clear h
  simp only [mid] at h1 h2
  by_cases hlen : l.length = m.length
  · have hlen2 : (l.length : Int) = (m.length : Int) := by omega
    simp [-alen, c_laws_dSamePairs, slp_alen hl, slp_alen hm, hlen2, hlen]
    refine awp_loop2 (σ := List (List UInt8 × List UInt8) × List (List UInt8 × List UInt8) × List (List UInt8 × List UInt8)) (fun p => ⟨[(0, u), (1, v), (5, .int .i64 p.1.length)], []⟩)
      (fun p => l = p.1 ++ p.2.1 ∧ m = p.1 ++ p.2.2) (fun p => p.2.1.length) ([], l, m) (by simp) (by simp) ?_
    rintro ⟨pre, a, b⟩ ⟨e1, e2⟩ LQ hLQ
    simp only at e1 e2
    subst e1 e2
    cases a with
    | nil =>
      have hb : b = [] := by simpa using hlen
      subst hb
      simp [-alen, slp_alen hl, b_laws_dSamePairs_1, t_laws_dSamePairs_2]
    | cons x a =>
      cases b with
      | nil => simp at hlen
      | cons y b =>
        obtain ⟨x1, x2⟩ := x
        obtain ⟨y1, y2⟩ := y
        simp at h1 h2 hlen
        have hu := slp_ne hl (by simp)
        have hv := slp_ne hm (by simp)
        subst hu hv
        have ew : IntKind.i64.wrap ((pre.length : Int) + 1) = (pre.length : Int) + 1 := wrap64 (by omega) (by omega)
        have hlt : (pre.length : Int) < (pre.length : Int) + ((a.length : Int) + 1) := by omega
        have g : ∀ (q : List (List UInt8 × List UInt8)) (z : List UInt8 × List UInt8), (pre ++ z :: q)[pre.length]? = some z := fun q z => get_mid rfl
        have g2 : ∀ (q : List AV) (z : AV), (pr2 pre ++ z :: q)[pre.length]? = some z := fun q z => get_mid (by simp)
        by_cases hxy : x1 = y1 ∧ x2 = y2
        · obtain ⟨rfl, rfl⟩ := hxy
          simp [b_laws_dSamePairs_1, ew, g, g2, hlt]
          exact hLQ (pre ++ [(x1, x2)], a, b) (by simp) (by simp) _ (by simp)
        · have hb : (decide (x1 = y1) && decide (x2 = y2)) = false := by
            rw [Bool.and_eq_false_iff]; simp only [decide_eq_false_iff_not]
            by_cases hx : x1 = y1
            · right; exact fun e => hxy ⟨hx, e⟩
            · left; exact hx
          have hne : ¬ ((x1, x2) = (y1, y2)) := by simpa using fun a b => hxy ⟨a, b⟩
          simp [b_laws_dSamePairs_1, ew, g, g2, hlt, hb]
  · have hne : ¬ l = m := fun e => hlen (by rw [e])
    have hlen2 : ¬ (l.length : Int) = (m.length : Int) := by omega
    simp [-alen, c_laws_dSamePairs, slp_alen hl, slp_alen hm, hlen2, hne]

def half : Nat := 549755813888

def con_pairsOf : List AV → Option AV
  | [u] => match slPairs u with
    | some l => if l.length < half then some (pairV l) else none
    | none => none
  | _ => none

theorem ok_pairsOf (Γ : Gam) : ∀ args r, con_pairsOf args = some r → runs Γ c_impl_pairsOf args (fun v => v = r) := by
  intro args r h
  simp only [con_pairsOf] at h
  split at h <;> (try simp at h; done)
  rename_i u
  split at h <;> (try simp at h; done)
  rename_i l hl
  obtain ⟨h1, rfl⟩ := ite_some h
  clear h
  simp only [half] at h1
  simp [-alen, c_impl_pairsOf, slp_alen hl]
  refine awp_loop2 (σ := List (List UInt8 × List UInt8) × List (List UInt8 × List UInt8)) (fun p => ⟨[(3, grV 19 2 p.1.length), (6, u), (7, .int .i64 l.length), (8, .int .i64 p.1.length)], grH 19 p.1.length (pc2 p.1)⟩)
    (fun p => l = p.1 ++ p.2) (fun p => p.2.length) ([], l) (by simp) (by simp) ?_
  rintro ⟨pre, post⟩ hs LQ hLQ
  simp only at hs
  subst hs
  cases post with
  | nil =>
    cases pre with
    | nil => simp [b_impl_pairsOf_1, t_impl_pairsOf_2, pairV]
    | cons x pre =>
      simp at h1 hl
      have hg := group_pc2 (l := x :: pre)
      simp at hg
      simp [b_impl_pairsOf_1, t_impl_pairsOf_2, pairV, hg]
      omega
  | cons x post =>
    have hu := slp_ne hl (by simp)
    subst hu
    obtain ⟨x1, x2⟩ := x
    simp at h1
    have ew : IntKind.i64.wrap ((pre.length : Int) + 1) = (pre.length : Int) + 1 := wrap64 (by omega) (by omega)
    have hlt : (pre.length : Int) < (pre.length : Int) + ((post.length : Int) + 1) := by omega
    have g2 : ∀ (q : List AV) (z : AV), (pr2 pre ++ z :: q)[pre.length]? = some z := fun q z => get_mid (by simp)
    have fin : ∀ st, norm [3, 6, 7, 8] st = ⟨[(3, .msl 19 2 0 (pre.length + 1)), (6, .sl 2 (pr2 (pre ++ (x1, x2) :: post))), (7, .int .i64 ((pre.length : Int) + ((post.length : Int) + 1))), (8, .int .i64 ((pre.length : Int) + 1))], [(19, .cells (pc2 pre ++ [.str x1, .str x2]))]⟩ → LQ st := by
      intro st hst
      exact hLQ (pre ++ [(x1, x2)], post) (by simp) (by simp) st (by simpa using hst)
    cases pre with
    | nil =>
      have ew0 : IntKind.i64.wrap 1 = 1 := rfl
      simp [b_impl_pairsOf_1, ew0, g2, hlt]
      exact fin _ (by simp)
    | cons y pre =>
      simp at h1
      have ew1 : IntKind.i64.wrap ((pre.length : Int) + 1 + 1) = (pre.length : Int) + 1 + 1 := wrap64 (by omega) (by omega)
      have tk : List.take ((pre.length + 1) * 2) (AV.str y.1 :: AV.str y.2 :: pc2 pre) = AV.str y.1 :: AV.str y.2 :: pc2 pre := List.take_of_length_le (by simp; omega)
      simp [b_impl_pairsOf_1, ew1, g2, tk]
      refine ⟨fun _ => ⟨by omega, ⟨by omega, by omega⟩, fin _ (by simp; omega)⟩, fun h => by omega⟩
end Wax

/- FnDParams (3): a text's tags, as the program reads them. -/
namespace Wax
open Go (IntKind)

def con_errorsNew : List AV → Option AV
  | [.str s] => some (.ifc 3 (.ptr [.str s]))
  | _ => none

theorem ok_errorsNew (Γ : Gam) : ∀ args r, con_errorsNew args = some r → runs Γ c_errors_New args (fun v => v = r) := by
  intro args r h
  simp only [con_errorsNew] at h
  split at h <;> (try simp at h; done)
  injection h with h; subst h
  simp [c_errors_New]

def msgBad : List UInt8 := [100, 107, 105, 109, 58, 32, 109, 97, 108, 102, 111, 114, 109, 101, 100, 32, 104, 101, 97, 100, 101, 114, 32, 112, 97, 114, 97, 109, 115]
def msgTwice : List UInt8 := [100, 107, 105, 109, 58, 32, 100, 117, 112, 108, 105, 99, 97, 116, 101, 32, 116, 97, 103, 32, 110, 97, 109, 101]

/-- A map of texts, as it was written. -/
def pmA (l : List (List UInt8 × List UInt8)) : List (List UInt8 × AV) := l.map fun p => (p.1, .str p.2)
def hasK (k : List UInt8) (l : List (List UInt8 × List UInt8)) : Bool := l.any fun p => decide (k = p.1)
theorem mfind_pmA_none {k : List UInt8} : ∀ {l : List (List UInt8 × List UInt8)}, hasK k l = false → mfind (pmA l) k = none ∧ ∀ v, mset (pmA l) k (.str v) = pmA (l ++ [(k, v)])
  | [], _ => ⟨rfl, fun _ => rfl⟩
  | (i, u) :: r, h => by
    simp only [hasK, List.any_cons, Bool.or_eq_false_iff, decide_eq_false_iff_not] at h
    have ih := mfind_pmA_none (k := k) (l := r) h.2
    refine ⟨by simp only [pmA, List.map_cons, mfind, if_neg h.1]; exact ih.1, fun v => ?_⟩
    have := ih.2 v
    simp only [pmA, List.map_cons, mset, if_neg h.1, List.cons_append] at this ⊢
    rw [this]
theorem mfind_pmA_some {k : List UInt8} : ∀ {l : List (List UInt8 × List UInt8)}, hasK k l = true → ∃ v, mfind (pmA l) k = some (.str v)
  | [], h => by simp [hasK] at h
  | (i, u) :: r, h => by
    by_cases hk : k = i
    · exact ⟨u, by simp [pmA, mfind, hk]⟩
    · have : hasK k r = true := by simpa [hasK, hk] using h
      obtain ⟨v, hv⟩ := mfind_pmA_some this
      exact ⟨v, by simp only [pmA, List.map_cons, mfind, if_neg hk]; exact hv⟩

def prm : List (List UInt8) → List (List UInt8 × List UInt8) → List (List UInt8 × List UInt8) × Option (List UInt8)
  | [], acc => (acc, none)
  | p :: r, acc => match cutAt 61 p with
    | none => if trimS p = [] then prm r acc else (acc, some msgBad)
    | some q => if hasK (trimS q.1) acc = true then (acc, some msgTwice) else prm r (acc ++ [(trimS q.1, trimS q.2)])

def prmV (x : List (List UInt8 × List UInt8) × Option (List UInt8)) : AV := .tup [.mp (pmA x.1), match x.2 with | none => .nilI | some m => .ifc 3 (.ptr [.str m])]

def con_parseHeaderParams : List AV → Option AV
  | [.str s] => if s.length < mid ∧ plain s = true then some (prmV (prm (splitB 59 s) [])) else none
  | _ => none

theorem splitB_sub (b : UInt8) : ∀ (s p : List UInt8), p ∈ splitB b s → ∀ y ∈ p, y ∈ s
  | [], p, h, y, hy => by simp [splitB] at h; subst h; exact hy
  | x :: r, p, h, y, hy => by
    have ih := splitB_sub b r
    simp only [splitB] at h
    split at h
    · rcases List.mem_cons.1 h with e | h
      · subst e; simp at hy
      · exact List.mem_cons_of_mem _ (ih p h y hy)
    · split at h
      · simp at h; subst h; simp at hy; subst hy; simp
      · rename_i hd t e
        rcases List.mem_cons.1 h with e' | h
        · subst e'
          rcases List.mem_cons.1 hy with e2 | hy
          · subst e2; simp
          · exact List.mem_cons_of_mem _ (ih hd (by rw [e]; simp) y hy)
        · exact List.mem_cons_of_mem _ (ih p (by rw [e]; simp [h]) y hy)
theorem splitB_plain (b : UInt8) (s p : List UInt8) (hs : plain s = true) (h : p ∈ splitB b s) : plain p = true := plain_sub (splitB_sub b s p h) hs

set_option maxRecDepth 100000 in
theorem ok_parseHeaderParams (Γ : Gam) (s25 : Γ.st 25 = con_zzSplit) (h16 : Γ.fn 16 = con_zzCut) (h18 : Γ.fn 18 = con_zzTrimSpace) (h50 : Γ.fn 50 = con_errorsNew) : ∀ args r, con_parseHeaderParams args = some r → runs Γ c_dkim_parseHeaderParams args (fun v => v = r) := by
  intro args r h
  simp only [con_parseHeaderParams] at h
  split at h <;> (try simp at h; done)
  rename_i s
  obtain ⟨⟨hs, hp⟩, rfl⟩ := ite_some h
  clear h
  have hsp : con_zzSplit [.str s, .str [59]] [] = some (.msl 0 1 0 (splitB 59 s).length, [(0, .cells (strsA (splitB 59 s)))]) := if_pos hs
  have hl := splitB_length 59 s
  have hml := splitB_mem_length 59 s
  have hmp := fun p => splitB_plain 59 s p hp
  simp [c_dkim_parseHeaderParams, acallS, s25, hsp]
  clear hsp
  generalize splitB 59 s = L at *
  have hs' := hs
  simp only [mid] at hs'
  refine awp_loop2 (σ := List (List UInt8) × List (List UInt8) × List (List UInt8 × List UInt8)) (fun p => ⟨[(5, .mref 16), (17, .msl 15 1 0 L.length), (18, .int .i64 L.length), (19, .int .i64 p.1.length)], [(16, .mp (pmA p.2.2)), (15, .cells (strsA L))]⟩)
    (fun p => L = p.1 ++ p.2.1 ∧ prm L [] = prm p.2.1 p.2.2) (fun p => p.2.1.length) ([], L, []) (by simp [pmA]) (by simp) ?_
  rintro ⟨pre, post, acc⟩ ⟨e1, e2⟩ LQ hLQ
  simp only at e1 e2
  cases post with
  | nil =>
    simp at e1
    rw [e2]
    simp [b_dkim_parseHeaderParams_1, t_dkim_parseHeaderParams_2, e1, prm, prmV]
  | cons x post =>
    have hxm : x ∈ L := by rw [e1]; simp
    have hxl := hml x hxm
    have hxp := hmp x hxm
    have hlen : L.length = pre.length + post.length + 1 := by rw [e1]; simp; omega
    have hlt : pre.length < L.length := by omega
    have g2 : List.drop pre.length L = x :: post := by rw [e1]; simp
    have ew : IntKind.i64.wrap ((pre.length : Int) + 1) = (pre.length : Int) + 1 := wrap64 (by omega) (by omega)
    have hlt' : (pre.length : Int) < (L.length : Int) := by omega
    have k16 : con_zzCut [.str x, .str [61]] = some (cutV 61 x) := by
      simp only [con_zzCut]; exact if_pos (by simp only [big]; omega)
    have k18 : ∀ t : List UInt8, t.length ≤ s.length → plain t = true → con_zzTrimSpace [.str t] = some (.str (trimS t)) := by
      intro t ht hpt
      simp only [con_zzTrimSpace]; exact if_pos ⟨by omega, hpt⟩
    have fin : ∀ acc', prm (x :: post) acc = prm post acc' → ∀ st, norm [5, 17, 18, 19] st = ⟨[(5, .mref 16), (17, .msl 15 1 0 L.length), (18, .int .i64 L.length), (19, .int .i64 ((pre.length : Int) + 1))], [(16, .mp (pmA acc')), (15, .cells (strsA L))]⟩ → LQ st := by
      intro acc' he st hst
      exact hLQ (pre ++ [x], post, acc') ⟨by rw [e1]; simp, by rw [e2, he]⟩ (by simp) st (by simpa using hst)
    cases hc : cutAt 61 x with
    | none =>
      have kx := k18 x hxl hxp
      by_cases ht : trimS x = []
      · have f1 := fin acc (by simp [prm, hc, ht])
        simp [b_dkim_parseHeaderParams_1, hlt, g2, acall, h16, k16, cutV, hc, h18, kx, ht, ew]
        exact f1 _ (by simp)
      · rw [e2]
        simp [b_dkim_parseHeaderParams_1, hlt, g2, acall, h16, k16, cutV, hc, h18, kx, ht, h50, con_errorsNew, prm, prmV, msgBad]
    | some q =>
      obtain ⟨hql, y, hy⟩ := cutAt_le hc
      have hxp' := hxp
      rw [hy, plain_app] at hxp'
      simp only [Bool.and_eq_true] at hxp'
      have hp2 : plain q.2 = true := by
        have := hxp'.2
        simp only [plain, List.all_cons, Bool.and_eq_true] at this
        exact this.2
      have kk := k18 q.1 (by omega) hxp'.1
      have kv := k18 q.2 (by omega) hp2
      cases hh : hasK (trimS q.1) acc with
      | true =>
        obtain ⟨v, hv⟩ := mfind_pmA_some hh
        rw [e2]
        simp [b_dkim_parseHeaderParams_1, hlt, g2, acall, h16, k16, cutV, hc, h18, kk, h50, con_errorsNew, prm, prmV, hh, hv, lookA, msgTwice]
      | false =>
        obtain ⟨hv, hm⟩ := mfind_pmA_none hh
        have f1 := fin (acc ++ [(trimS q.1, trimS q.2)]) (by simp [prm, hc, hh])
        simp [b_dkim_parseHeaderParams_1, hlt, g2, acall, h16, k16, cutV, hc, h18, kk, kv, hh, hv, hm, lookA, ew]
        exact f1 _ (by simp)
end Wax

/- FnDCanonAgain: the plain law of words and white space; its own text. -/
namespace Wax
open Go (IntKind)

def nonWs (s : List UInt8) : Prop := ∀ x ∈ s, isWs x.toNat = false
def allWs (s : List UInt8) : Prop := ∀ x ∈ s, isWs x.toNat = true

theorem nonWs_of {s : List UInt8} (h : stripD s = s) : nonWs s := by
  intro x hx
  rw [← h] at hx
  simp only [stripD, List.mem_filter, Bool.not_eq_true'] at hx
  exact hx.2

theorem allWs_of {s : List UInt8} (h : stripD s = []) : allWs s := by
  intro x hx
  simp only [stripD, List.filter_eq_nil_iff] at h
  simpa using h x hx

theorem wordsGo_ws : ∀ {b : List UInt8} (s : List UInt8), allWs b → wordsGo [] (b ++ s) = wordsGo [] s
  | [], s, _ => rfl
  | x :: r, s, h => by
    have h1 := h x (by simp)
    simp only [List.cons_append, wordsGo, h1, if_true]
    exact wordsGo_ws s fun y hy => h y (by simp [hy])

theorem wordsGo_word : ∀ {w : List UInt8} (cur s : List UInt8), nonWs w → wordsGo cur (w ++ s) = wordsGo (cur ++ w) s
  | [], cur, s, _ => by simp
  | x :: r, cur, s, h => by
    have h1 := h x (by simp)
    simp only [List.cons_append, wordsGo, h1, Bool.false_eq_true, if_false]
    rw [wordsGo_word _ s fun y hy => h y (by simp [hy])]
    simp

theorem wordsGo_end {b cur s : List UInt8} (hc : cur ≠ []) (hb : b ≠ []) (hw : allWs b) : wordsGo cur (b ++ s) = cur :: wordsGo [] (b ++ s) := by
  cases b with
  | nil => exact absurd rfl hb
  | cons x r =>
    have h1 := hw x (by simp)
    simp only [List.cons_append, wordsGo, h1, if_true, if_neg hc]

/-- Words, each with white space ahead of it. -/
def spr (bl : List (List UInt8)) (k : Nat) (ws : List (List UInt8)) : List UInt8 := (ws.zipIdx k).flatMap fun p => bl.getD (p.2 % bl.length) [] ++ p.1

theorem spr_cons {bl : List (List UInt8)} {k : Nat} {w : List UInt8} {ws : List (List UInt8)} : spr bl k (w :: ws) = bl.getD (k % bl.length) [] ++ w ++ spr bl (k + 1) ws := by simp [spr, List.zipIdx_cons]
theorem spr_snoc {bl : List (List UInt8)} {w : List UInt8} {ws : List (List UInt8)} : spr bl 0 (ws ++ [w]) = spr bl 0 ws ++ bl.getD (ws.length % bl.length) [] ++ w := by
  simp [spr, List.zipIdx_append]

theorem getD_blank {bl : List (List UInt8)} (hb : bl ≠ []) {k : Nat} : bl.getD (k % bl.length) [] ∈ bl := by
  have hl : 0 < bl.length := List.length_pos_iff.2 hb
  have := Nat.mod_lt k hl
  rw [List.getD_eq_getElem?_getD, List.getElem?_eq_getElem this]; simp

theorem words_spr {bl : List (List UInt8)} (hb : bl ≠ []) (hbl : ∀ b ∈ bl, b ≠ [] ∧ allWs b) {t : List UInt8} (ht : t ≠ []) (htw : allWs t) : ∀ (ws : List (List UInt8)) (k : Nat), (∀ w ∈ ws, w ≠ [] ∧ nonWs w) →
    wordsGo [] (spr bl k ws ++ t) = ws
  | [], k, _ => by
    have := wordsGo_ws (b := t) [] htw
    simpa [spr, wordsGo] using this
  | w :: r, k, h => by
    have ih := words_spr hb hbl ht htw r (k + 1) (fun x hx => h x (by simp [hx]))
    have hbk := hbl _ (getD_blank hb (k := k))
    have hw := h w (by simp)
    rw [spr_cons, List.append_assoc, List.append_assoc, wordsGo_ws _ hbk.2, wordsGo_word _ _ hw.2, List.nil_append]
    have key : wordsGo w (spr bl (k + 1) r ++ t) = w :: wordsGo [] (spr bl (k + 1) r ++ t) := by
      cases r with
      | nil => simpa [spr] using wordsGo_end (s := []) hw.1 ht htw
      | cons w2 r2 =>
        have hb2 := hbl _ (getD_blank hb (k := k + 1))
        rw [spr_cons, List.append_assoc, List.append_assoc]
        exact wordsGo_end hw.1 hb2.1 hb2.2
    rw [key, ih]

theorem words_join {t : List UInt8} (ht : t ≠ []) (htw : allWs t) : ∀ (ws : List (List UInt8)), (∀ w ∈ ws, w ≠ [] ∧ nonWs w) → wordsGo [] (joinB ws ++ t) = ws
  | [], _ => by
    have := wordsGo_ws (b := t) [] htw
    simpa [joinB, wordsGo] using this
  | w :: r, h => by
    have ih := words_join ht htw r (fun x hx => h x (by simp [hx]))
    have hw := h w (by simp)
    rw [joinB_cons, List.append_assoc, wordsGo_word _ _ hw.2, List.nil_append]
    have key : wordsGo w (J2 r ++ t) = w :: wordsGo [] (joinB r ++ t) := by
      cases r with
      | nil => simpa [J2, joinB] using wordsGo_end (s := []) hw.1 ht htw
      | cons w2 r2 =>
        have hsp : allWs [32] := by intro x hx; simp at hx; subst hx; rfl
        have e1 : J2 (w2 :: r2) ++ t = [32] ++ (joinB (w2 :: r2) ++ t) := by simp [J2]
        rw [e1, wordsGo_end hw.1 (by simp) hsp, wordsGo_ws _ hsp]
    rw [key, ih]

theorem lowB_ws (b : UInt8) : isWs (lowB b).toNat = isWs b.toNat := by
  have h := lowB_toNat b
  unfold isWs
  apply decide_eq_decide.2
  rw [h]
  split <;> omega

theorem lowS_nonWs {s : List UInt8} (h : nonWs s) : nonWs (lowS s) := by
  intro x hx
  simp only [lowS, List.mem_map] at hx
  obtain ⟨y, hy, rfl⟩ := hx
  rw [lowB_ws]; exact h y hy

theorem lowS_allWs {s : List UInt8} (h : allWs s) : allWs (lowS s) := by
  intro x hx
  simp only [lowS, List.mem_map] at hx
  obtain ⟨y, hy, rfl⟩ := hx
  rw [lowB_ws]; exact h y hy

theorem trimS_word {n b : List UInt8} (hn : nonWs n) (hne : n ≠ []) (hb : allWs b) : trimS (n ++ b) = n := by
  have h1 : trimL (n ++ b) = n ++ b := by
    cases n with
    | nil => exact absurd rfl hne
    | cons x r => simp [trimL, hn x (by simp)]
  rw [trimS, h1, trimR, List.reverse_append, List.dropWhile_append_of_pos (by intro x hx; exact hb x (by simpa using hx))]
  have h2 : n.reverse.dropWhile (fun b => isWs b.toNat) = n.reverse := by
    cases hr : n.reverse with
    | nil => rfl
    | cons x r =>
      have : x ∈ n := by rw [← List.mem_reverse, hr]; simp
      simp [hn x this]
  rw [h2, List.reverse_reverse]

theorem lowB_low (b : UInt8) : lowB (lowB b) = lowB b := by
  have h := lowB_toNat b
  have h2 := lowB_toNat (lowB b)
  apply UInt8.toNat_inj.1
  have : ((lowB (lowB b)).toNat : Int) = (lowB b).toNat := by
    rw [h2]; split
    · rename_i hc; rw [h] at hc ⊢; split at hc <;> split <;> omega
    · rfl
  omega

theorem lowS_low (s : List UInt8) : lowS (lowS s) = lowS s := by simp [lowS, lowB_low]

theorem cutAt_noB {c : UInt8} {n r : List UInt8} (h : noB c.toNat n) : cutAt c.toNat (n ++ c :: r) = some (n, r) := by
  rw [cutAt_app _ _ _ h]; simp [cutAt]

theorem noB_low {n : List UInt8} (h : noB 58 n) : noB 58 (lowS n) := by
  intro x hx
  simp only [lowS, List.mem_map] at hx
  obtain ⟨y, hy, rfl⟩ := hx
  have := h y hy
  rw [lowB_toNat]; split <;> omega

theorem relaxedOf_cut {n r : List UInt8} (h : noB 58 n) : relaxedOf (n ++ 58 :: r) = trimS (lowS n) ++ 58 :: joinB (wordsOf r) ++ [13, 10] := by
  have := cutAt_noB (c := 58) (r := r) h
  have e : cutAt 58 (n ++ 58 :: r) = some (n, r) := this
  simp [relaxedOf, e]

theorem noB_ws {b : List UInt8} (h : allWs b) : noB 58 b := by
  intro x hx
  have := of_decide_eq_true (h x hx)
  omega

/-- What is asked of a name, words, white space. -/
structure CA (n : List UInt8) (ws bl : List (List UInt8)) : Prop where
  nne : n ≠ []
  nn : nonWs n
  nc : noB 58 n
  bne : bl ≠ []
  bl : ∀ b ∈ bl, b ≠ [] ∧ allWs b
  ws : ∀ w ∈ ws, w ≠ [] ∧ nonWs w

def wantOf (n : List UInt8) (ws : List (List UInt8)) : List UInt8 := lowS n ++ 58 :: joinB ws ++ [13, 10]

theorem crlf_ws : allWs [13, 10] := by intro x hx; simp at hx; rcases hx with rfl | rfl <;> rfl

theorem law_plain {n : List UInt8} {ws bl : List (List UInt8)} (h : CA n ws bl) : relaxedOf (n ++ 58 :: (joinB ws ++ [13, 10])) = wantOf n ws := by
  rw [relaxedOf_cut h.nc, show wordsOf (joinB ws ++ [13, 10]) = ws from words_join (by simp) crlf_ws ws h.ws]
  have := trimS_word (lowS_nonWs h.nn) (by simpa [lowS] using h.nne) (b := []) (by intro x hx; simp at hx)
  simp only [List.append_nil] at this
  rw [this, wantOf]

theorem law_again {n : List UInt8} {ws bl : List (List UInt8)} (h : CA n ws bl) : relaxedOf (wantOf n ws) = wantOf n ws := by
  have e : wantOf n ws = lowS n ++ 58 :: (joinB ws ++ [13, 10]) := by simp [wantOf]
  have h' : CA (lowS n) ws bl := ⟨by simpa [lowS] using h.nne, lowS_nonWs h.nn, noB_low h.nc, h.bne, h.bl, h.ws⟩
  conv => lhs; rw [e]
  rw [law_plain h', wantOf, wantOf, lowS_low]

theorem law_spread {n : List UInt8} {ws bl : List (List UInt8)} (h : CA n ws bl) : relaxedOf (n ++ bl.getD 0 [] ++ 58 :: (spr bl 0 ws ++ (bl.getD 0 [] ++ [13, 10]))) = wantOf n ws := by
  have h0 := h.bl _ (getD_blank h.bne (k := 0))
  rw [Nat.zero_mod] at h0
  have hc : noB 58 (n ++ bl.getD 0 []) := by
    intro x hx
    rcases List.mem_append.1 hx with hx | hx
    · exact h.nc x hx
    · exact noB_ws h0.2 x hx
  have ht : allWs (bl.getD 0 [] ++ [13, 10]) := by
    intro x hx
    rcases List.mem_append.1 hx with hx | hx
    · exact h0.2 x hx
    · exact crlf_ws x hx
  rw [relaxedOf_cut hc, show wordsOf (spr bl 0 ws ++ (bl.getD 0 [] ++ [13, 10])) = ws from words_spr h.bne h.bl (by simp) ht ws 0 h.ws, lowS_app,
    trimS_word (lowS_nonWs h.nn) (by simpa [lowS] using h.nne) (lowS_allWs h0.2), wantOf]
end Wax

/- FnDPicks (3): one pick. -/
namespace Wax
open Go (IntKind)

set_option maxRecDepth 100000 in
theorem ok_hpPick (Γ : Gam) (h17 : Γ.fn 17 = con_zzToLower) (h40 : Γ.fn 40 = con_parseHeaderField) (h41 : Γ.fn 41 = con_zzEqualFold) : ∀ args hp q, con_hpPick args hp = some q → runsS Γ c_dkim_headerPicker_Pick args hp (fun v => v = some q) := by
  intro args hp q h
  simp only [con_hpPick] at h
  split at h <;> (try simp at h; done)
  rename_i k u es
  split at h <;> (try simp at h; done)
  rename_i fs c hu hc
  obtain rfl := asCnt_spec hc
  obtain ⟨⟨hfl, hfs, hkl, hkp, hcl⟩, rfl⟩ := ite_some h
  clear h
  have k17 : con_zzToLower [.str k] = some (.str (lowS k)) := if_pos ⟨hkl, plain_ascii hkp⟩
  have hkeyl : (lowS k).length < mid := by simpa using hkl
  have hkeya : ascii (lowS k) = true := plain_lowS hkp
  have hkk : lowS (lowS k) = lowS k := lowS_low k
  have ew0 : IntKind.i64.wrap ((fs.length : Int) - 1) = (fs.length : Int) - 1 := wrap64 (by simp only [mid] at hfl; omega) (by simp only [mid] at hfl; omega)
  simp [-alen, c_dkim_headerPicker_Pick, acall, h17, k17, slf_map hu, slf_atom hu, slf_alen hu, look_mpA, ew0]
  clear k17 hkl hkp
  generalize lowS k = key at *
  refine awp_loop2 (σ := List (List UInt8) × Nat) (fun p => ⟨[(0, .ref 1000000 0), (1, .str key), (5, .int .i64 p.2), (6, .int .i64 ((p.1.length : Int) - 1))], [(1000000, .cells [u, .mref 1000001]), (1000001, .mp (mpA c))]⟩)
    (fun p => (∃ post, fs = p.1 ++ post) ∧ pk key fs.reverse (getC c key) = pk key p.1.reverse p.2 ∧ p.2 < mid) (fun p => p.1.length) (fs, getC c key) (by simp) ⟨⟨[], by simp⟩, rfl, hcl⟩ ?_
  rintro ⟨pre, n⟩ ⟨⟨post, hpost⟩, hpk, hn⟩ LQ hLQ
  simp only at hpost hpk hn
  rcases List.eq_nil_or_concat pre with rfl | ⟨init, f, rfl⟩
  · rw [hpk]
    simp [b_dkim_headerPicker_Pick_1, t_dkim_headerPicker_Pick_2, pk, pkRes, slf_map hu, slf_refs hu, reach_succ, slf_ref hu]
  · simp only [List.concat_eq_append] at *
    subst hpost
    obtain ⟨hf1, hf2⟩ := hfs f (by simp)
    have hu' := slf_ne hu (by simp)
    subst hu'
    have k40 : con_parseHeaderField [.str f] = some (.tup [.str (nameOf f), .str (trimS (match cutAt 58 f with | some p => p.2 | none => []))]) := if_pos ⟨hf1, hf2⟩
    have k41 : con_zzEqualFold [.str (nameOf f), .str key] = some (.bool (decide (lowS (nameOf f) = key))) := by
      have := nameOf_len f
      have e : decide (lowS (nameOf f) = lowS key) = decide (lowS (nameOf f) = key) := by rw [hkk]
      rw [← e]
      exact if_pos ⟨by omega, hkeyl, plain_ascii (nameOf_plain hf2), hkeya⟩
    simp only [mid] at hfl hn hcl
    simp at hfl
    have ew1 : IntKind.i64.wrap ((init.length : Int) - 1) = (init.length : Int) - 1 := wrap64 (by omega) (by omega)
    have ew2 : IntKind.i64.wrap ((getC c key : Int) + 1) = ((getC c key + 1 : Nat) : Int) := wrap64 (by omega) (by omega)
    have fin : ∀ n', pk key (f :: init.reverse) n = pk key init.reverse n' → n' ≤ n → ∀ st, norm [0, 1, 5, 6] st = ⟨[(0, .ref 1000000 0), (1, .str key), (5, .int .i64 n'), (6, .int .i64 ((init.length : Int) - 1))], [(1000000, .cells [.sl 1 (strsA (init ++ [f] ++ post)), .mref 1000001]), (1000001, .mp (mpA c))]⟩ → LQ st := by
      intro n' e he st hst
      refine hLQ (init, n') ⟨⟨f :: post, by simp⟩, ?_, by simp only [mid]; omega⟩ (by simp) st hst
      rw [hpk]; simpa using e
    have g : (strsA init ++ .str f :: strsA post)[init.length]? = some (.str f) := get_mid (by simp)
    by_cases hm : lowS (nameOf f) = key
    · cases n with
      | zero =>
        have ms := mset_mpA c key (getC c key + 1)
        rw [Int.natCast_add] at ms
        have hres : pk key (init ++ [f] ++ post).reverse (getC c key) = some f := by rw [hpk]; simp [pk, hm]
        rw [hres]
        simp [b_dkim_headerPicker_Pick_1, acall, h40, k40, h41, k41, hm, g, look_mpA, ew1, ew2, pkRes, reach_succ]
        exact ms
      | succ n =>
        have f1 := fin n (by simp [pk, hm]) (by omega)
        have ew3 : IntKind.i64.wrap (n : Int) = (n : Int) := wrap64 (by omega) (by omega)
        have hn0 : ¬ (n : Int) + 1 = 0 := by omega
        simp [b_dkim_headerPicker_Pick_1, acall, h40, k40, h41, k41, hm, g, ew1, ew3, hn0]
        exact f1 _ (by simp)
    · have f1 := fin n (by simp [pk, hm]) (by omega)
      simp [b_dkim_headerPicker_Pick_1, acall, h40, k40, h41, k41, hm, g, ew1]
      exact f1 _ (by simp)
end Wax

/- FnDPicks (4): all picks, one after another. -/
namespace Wax
open Go (IntKind)

def pickL (rev : List (List UInt8)) : List (List UInt8) → List (List UInt8 × Nat) → List (List UInt8)
  | [], _ => []
  | k :: ks, c => match pk (lowS k) rev (getC c (lowS k)) with
    | some f => f :: pickL rev ks (setC c (lowS k) (getC c (lowS k) + 1))
    | none => [] :: pickL rev ks c

def strV (l : List (List UInt8)) : AV := match l with | [] => .nilS | _ => .sl 1 (strsA l)
theorem slStrs_strV {l : List (List UInt8)} : slStrs (strV l) = some l := by
  cases l <;> simp [strV, slStrs, ← strsA_cons]

def con_Pick : List AV → Option AV
  | [u, v] => match slStrs u, slStrs v with
    | some fs, some ks => if fs.length < mid ∧ (∀ s ∈ fs, s.length < mid ∧ plain s = true) ∧ ks.length < mid ∧ (∀ s ∈ ks, s.length < mid ∧ plain s = true) then
        some (strV (pickL fs.reverse ks []))
      else none
    | _, _ => none
  | _ => none

set_option maxRecDepth 100000 in
theorem ok_Pick (Γ : Gam) (s38 : Γ.st 38 = con_newHeaderPicker) (s39 : Γ.st 39 = con_hpPick) : ∀ args r, con_Pick args = some r → runs Γ c_dkim_Pick args (fun v => v = r) := by
  intro args r h
  simp only [con_Pick] at h
  split at h <;> (try simp at h; done)
  rename_i u v
  split at h <;> (try simp at h; done)
  rename_i fs ks hu hv
  obtain ⟨⟨hfl, hfs, hkl, hks⟩, rfl⟩ := ite_some h
  clear h
  have k38 : con_newHeaderPicker [u] [] = some (.ref 0 0, [(0, .cells [u, .mref 1]), (1, .mp [])]) := by simp only [con_newHeaderPicker, hu]
  simp [-alen, c_dkim_Pick, acallS, s38, k38, slf_map hu, slf_kill hu, slf_kill hv, slf_refs hu, slf_alen hv]
  refine awp_loop2 (σ := List (List UInt8) × List (List UInt8) × List (List UInt8) × List (List UInt8 × Nat)) (fun p => ⟨[(5, .ref 10 0), (6, grV 22 1 p.2.2.1.length), (11, v), (12, .int .i64 ks.length), (13, .int .i64 p.1.length)], grH 22 p.2.2.1.length (strsA p.2.2.1) ++ [(10, .cells [u, .mref 100010]), (100010, .mp (mpA p.2.2.2))]⟩)
    (fun p => ks = p.1 ++ p.2.1 ∧ pickL fs.reverse ks [] = p.2.2.1 ++ pickL fs.reverse p.2.1 p.2.2.2 ∧ p.2.2.1.length = p.1.length ∧ ∀ j, getC p.2.2.2 j ≤ p.1.length) (fun p => p.2.1.length) ([], ks, [], []) (by simp [mpA]) ⟨by simp, by simp, rfl, fun j => Nat.le_refl _⟩ ?_
  rintro ⟨pre, post, outs, c⟩ ⟨hpost, hpk, hol, hgc⟩ LQ hLQ
  simp only at hpost hpk hol hgc
  subst hpost
  cases post with
  | nil =>
    simp only [pickL, List.append_nil] at hpk ⊢
    rw [hpk]
    cases outs with
    | nil =>
      have : pre = [] := List.eq_nil_of_length_eq_zero hol.symm
      subst this
      simp [b_dkim_Pick_1, t_dkim_Pick_2, strV]
    | cons o outs =>
      simp at hol
      simp [b_dkim_Pick_1, t_dkim_Pick_2, strV, ← hol, List.take_of_length_le]
  | cons k post =>
    have hv' := slf_ne hv (by simp)
    subst hv'
    obtain ⟨hk1, hk2⟩ := hks k (by simp)
    have k39 : con_hpPick [.ref 0 0, .str k] [(0, .cells [u, .mref 1]), (1, .mp (mpA c))] = some (pkRes u c (lowS k) (pk (lowS k) fs.reverse (getC c (lowS k)))) := by
      simp only [con_hpPick, hu, asCnt_mpA]
      exact if_pos ⟨hfl, hfs, hk1, hk2, by have := hgc (lowS k); simp at hkl; omega⟩
    simp only [mid] at hkl
    simp at hkl
    have g : (strsA pre ++ .str k :: strsA post)[pre.length]? = some (.str k) := get_mid (by simp)
    have ew : IntKind.i64.wrap ((pre.length : Int) + 1) = (pre.length : Int) + 1 := wrap64 (by omega) (by omega)
    have hlt : (pre.length : Int) < (pre.length : Int) + ((post.length : Int) + 1) := by omega
    have fin : ∀ (x : List UInt8) (c' : List (List UInt8 × Nat)), pickL fs.reverse (k :: post) c = x :: pickL fs.reverse post c' → (∀ j, getC c' j ≤ pre.length + 1) → ∀ st, norm [5, 6, 11, 12, 13] st = ⟨[(5, .ref 10 0), (6, .msl 22 1 0 (outs.length + 1)), (11, .sl 1 (strsA (pre ++ k :: post))), (12, .int .i64 ((pre.length : Int) + ((post.length : Int) + 1))), (13, .int .i64 ((pre.length : Int) + 1))], [(22, .cells (strsA outs ++ [.str x])), (10, .cells [u, .mref 100010]), (100010, .mp (mpA c'))]⟩ → LQ st := by
      intro x c' e hc st hst
      refine hLQ (pre ++ [k], post, outs ++ [x], c') ⟨by simp, ?_, by simp [hol], by simpa using hc⟩ (by simp) st ?_
      · rw [hpk, e]; simp
      · simpa using hst
    cases hpkv : pk (lowS k) fs.reverse (getC c (lowS k)) with
    | none =>
      rw [hpkv] at k39
      have f1 := fin [] c (by simp [pickL, hpkv]) (fun j => by have := hgc j; omega)
      cases outs with
      | nil =>
        simp [b_dkim_Pick_1, hlt, g, acallS, s39, k39, slf_map hu, slf_kill hu, slf_refs hu, reach_succ, pkRes, ew]
        exact f1 _ (by simp)
      | cons o outs =>
        simp at hol
        simp [b_dkim_Pick_1, hlt, g, acallS, s39, k39, slf_map hu, slf_kill hu, slf_refs hu, reach_succ, pkRes, ew]
        refine ⟨by omega, f1 _ (by simp)⟩
    | some f =>
      rw [hpkv] at k39
      have f1 := fin f (setC c (lowS k) (getC c (lowS k) + 1)) (by simp [pickL, hpkv]) (fun j => by rw [getC_setC]; have := hgc j; have := hgc (lowS k); split <;> omega)
      cases outs with
      | nil =>
        simp [b_dkim_Pick_1, hlt, g, acallS, s39, k39, slf_map hu, slf_kill hu, slf_refs hu, reach_succ, pkRes, ew]
        exact f1 _ (by simp)
      | cons o outs =>
        simp at hol
        simp [b_dkim_Pick_1, hlt, g, acallS, s39, k39, slf_map hu, slf_kill hu, slf_refs hu, reach_succ, pkRes, ew]
        refine ⟨by omega, f1 _ (by simp)⟩
end Wax

/- FnDParams (4): the tags in ascending order. -/
namespace Wax
open Go (IntKind)

def sortB (l : List (List UInt8)) : List (List UInt8) := l.mergeSort (fun x y => decide (x ≤ y))

def con_Keys : List AV → Option AV
  | [.mp es] => some (.fn 55 [.bx [.mp es]])
  | _ => none

theorem ok_Keys (Γ : Gam) : ∀ args r, con_Keys args = some r → runs Γ c_maps_Keys args (fun v => v = r) := by
  intro args r h
  simp only [con_Keys] at h
  split at h <;> (try simp at h; done)
  injection h with h; subst h
  simp [c_maps_Keys]

/-- slices.Sorted of a map's keys. -/
def con_Sorted : List AV → Option AV
  | [.fn 55 [.bx [.mp es]]] => if es.length < half ∧ (∀ q ∈ es, q.1.length < half) then some (strV (sortB (es.map (·.1)))) else none
  | _ => none

def lookP : List (List UInt8 × List UInt8) → List UInt8 → List UInt8
  | [], _ => []
  | (i, v) :: r, k => if k = i then v else lookP r k
theorem lookA_pmA : ∀ (l : List (List UInt8 × List UInt8)) (k : List UInt8), lookA (pmA l) k (.str []) false = .str (lookP l k)
  | [], k => rfl
  | (i, v) :: r, k => by
    have := lookA_pmA r k
    by_cases h : k = i <;> simp [pmA, lookA, mfind, lookP, h] at this ⊢
    exact this

def sortP (acc : List (List UInt8 × List UInt8)) : List (List UInt8 × List UInt8) := (sortB (acc.map (·.1))).map fun k => (k, lookP acc k)

def dpV (x : List (List UInt8 × List UInt8) × Option (List UInt8)) : AV := match x.2 with
  | none => .tup [pairV (sortP x.1), .nilI]
  | some m => .tup [.nilS, .ifc 3 (.ptr [.str m])]

def con_dkimParams : List AV → Option AV
  | [.str s] => if s.length + 1 < half ∧ plain s = true then some (dpV (prm (splitB 59 s) [])) else none
  | _ => none

theorem prm_length : ∀ (L : List (List UInt8)) (acc : List (List UInt8 × List UInt8)), (prm L acc).1.length ≤ acc.length + L.length
  | [], acc => by simp [prm]
  | p :: r, acc => by
    simp only [prm]
    split
    · split
      · have := prm_length r acc; simp; omega
      · simp
    · split
      · simp
      · rename_i q _ _
        have := prm_length r (acc ++ [(trimS q.1, trimS q.2)])
        simp at this ⊢; omega

theorem prm_keys (n : Nat) : ∀ (L : List (List UInt8)) (acc : List (List UInt8 × List UInt8)), (∀ p ∈ L, p.length ≤ n) → (∀ q ∈ acc, q.1.length ≤ n) → ∀ q ∈ (prm L acc).1, q.1.length ≤ n
  | [], acc, _, h2 => h2
  | p :: r, acc, h1, h2 => by
    have hr : ∀ p ∈ r, p.length ≤ n := fun p hp => h1 p (by simp [hp])
    simp only [prm]
    cases hc : cutAt 61 p with
    | none =>
      simp only
      by_cases ht : trimS p = []
      · simp only [ht, if_true]; exact prm_keys n r acc hr h2
      · simp only [ht, if_false]; exact h2
    | some q =>
      simp only
      split
      · exact h2
      · refine prm_keys n r _ hr fun z hz => ?_
        rcases List.mem_append.1 hz with hz | hz
        · exact h2 z hz
        · simp only [List.mem_singleton] at hz
          subst hz
          have t1 := trimS_length q.1
          have t2 := (cutAt_le hc).1
          have t3 := h1 p (by simp)
          simp only
          omega

set_option maxRecDepth 100000 in
theorem ok_dkimParams (Γ : Gam) (h47 : Γ.fn 47 = con_parseHeaderParams) (h48 : Γ.fn 48 = con_Keys) (h49 : Γ.fn 49 = con_Sorted) : ∀ args r, con_dkimParams args = some r → runs Γ c_dkim_Params args (fun v => v = r) := by
  intro args r h
  simp only [con_dkimParams] at h
  split at h <;> (try simp at h; done)
  rename_i s
  obtain ⟨⟨hs, hp⟩, rfl⟩ := ite_some h
  clear h
  have k47 : con_parseHeaderParams [.str s] = some (prmV (prm (splitB 59 s) [])) := if_pos ⟨by simp only [half, mid] at *; omega, hp⟩
  have hl := prm_length (splitB 59 s) []
  have hl2 := splitB_length 59 s
  have hkl := prm_keys s.length (splitB 59 s) [] (splitB_mem_length 59 s) (by simp)
  generalize prm (splitB 59 s) [] = q at *
  obtain ⟨acc, e⟩ := q
  cases e with
  | some m => simp [c_dkim_Params, acall, h47, k47, prmV, dpV]
  | none =>
    simp at hl
    have hacc : acc.length < half := by omega
    have k49 : con_Sorted [.fn 55 [.bx [.mp (pmA acc)]]] = some (strV (sortB (acc.map (·.1)))) := by
      have e1 : (pmA acc).map (·.1) = acc.map (·.1) := by simp [pmA, Function.comp_def]
      simp only [con_Sorted, e1]
      refine if_pos ⟨by simpa [pmA] using hacc, fun q hq => ?_⟩
      simp only [pmA, List.mem_map] at hq
      obtain ⟨z, hz, rfl⟩ := hq
      have := hkl z hz
      simp only [half] at *
      omega
    have hsl : (sortB (acc.map (·.1))).length < half := by simpa [sortB] using hacc
    have hsl' := hsl
    simp only [half] at hsl'
    have hp1 := slf_ref (slStrs_strV (l := sortB (acc.map (·.1))))
    have hp2 := slf_alen (slStrs_strV (l := sortB (acc.map (·.1))))
    have hsv := slStrs_strV (l := sortB (acc.map (·.1)))
    simp [-alen, c_dkim_Params, acall, h47, k47, prmV, dpV, h48, con_Keys, h49, k49, hp1, hp2]
    rw [sortP]
    generalize sortB (acc.map (·.1)) = ks at *
    refine awp_loop2 (σ := List (List UInt8) × List (List UInt8)) (fun p => ⟨[(4, .mp (pmA acc)), (6, grV 32 2 p.1.length), (19, strV ks), (20, .int .i64 ks.length), (21, .int .i64 p.1.length)], grH 32 p.1.length (pc2 (p.1.map fun k => (k, lookP acc k)))⟩)
      (fun p => ks = p.1 ++ p.2) (fun p => p.2.length) ([], ks) (by simp) (by simp) ?_
    rintro ⟨pre, post⟩ hs1 LQ hLQ
    simp only at hs1
    subst hs1
    cases post with
    | nil =>
      cases pre with
      | nil => simp [b_dkim_Params_1, t_dkim_Params_2, pairV]
      | cons x pre =>
        have hg := group_pc2 (l := (x :: pre).map fun k => (k, lookP acc k))
        simp at hg
        simp [b_dkim_Params_1, t_dkim_Params_2, pairV, hg]
        omega
    | cons x post =>
      have hu := slf_ne hsv (by simp)
      rw [hu] at hLQ ⊢
      simp at hsl'
      have hlt : (pre.length : Int) < (pre.length : Int) + ((post.length : Int) + 1) := by omega
      have g2 : ∀ (q : List AV) (z : AV), (strsA pre ++ z :: q)[pre.length]? = some z := fun q z => get_mid (by simp)
      have fin : ∀ st, norm [4, 6, 19, 20, 21] st = ⟨[(4, .mp (pmA acc)), (6, .msl 32 2 0 (pre.length + 1)), (19, .sl 1 (strsA (pre ++ x :: post))), (20, .int .i64 ((pre.length : Int) + ((post.length : Int) + 1))), (21, .int .i64 ((pre.length : Int) + 1))], [(32, .cells (pc2 (pre.map fun k => (k, lookP acc k)) ++ [.str x, .str (lookP acc x)]))]⟩ → LQ st := by
        intro st hst
        exact hLQ (pre ++ [x], post) (by simp) (by simp) st (by simpa using hst)
      cases pre with
      | nil =>
        have ew0 : IntKind.i64.wrap 1 = 1 := rfl
        simp [b_dkim_Params_1, ew0, g2, lookA_pmA]
        exact fin _ (by simp)
      | cons y pre =>
        simp at hsl'
        have ew1 : IntKind.i64.wrap ((pre.length : Int) + 1 + 1) = (pre.length : Int) + 1 + 1 := wrap64 (by omega) (by omega)
        have tk : List.take ((pre.length + 1) * 2) (AV.str y :: AV.str (lookP acc y) :: pc2 (pre.map fun k => (k, lookP acc k))) = AV.str y :: AV.str (lookP acc y) :: pc2 (pre.map fun k => (k, lookP acc k)) := List.take_of_length_le (by simp; omega)
        simp [b_dkim_Params_1, ew1, g2, tk, lookA_pmA]
        refine ⟨fun _ => ⟨by omega, ⟨by omega, by omega⟩, fin _ (by simp; omega)⟩, fun h => by omega⟩

def con_DParams : List AV → Option AV
  | [.str s] => if s.length + 1 < half ∧ plain s = true then some (match prm (splitB 59 s) [] with | (acc, none) => .tup [pairV (sortP acc), .bool true] | (_, some _) => .tup [.nilS, .bool false]) else none
  | _ => none

theorem ok_DParams (Γ : Gam) (h45 : Γ.fn 45 = con_dkimParams) (h46 : Γ.fn 46 = con_pairsOf) : ∀ args r, con_DParams args = some r → runs Γ c_impl_DParams args (fun v => v = r) := by
  intro args r h
  simp only [con_DParams] at h
  split at h <;> (try simp at h; done)
  rename_i s
  obtain ⟨⟨hs, hp⟩, rfl⟩ := ite_some h
  clear h
  have k45 : con_dkimParams [.str s] = some (dpV (prm (splitB 59 s) [])) := if_pos ⟨hs, hp⟩
  have hl := prm_length (splitB 59 s) []
  have hl2 := splitB_length 59 s
  generalize prm (splitB 59 s) [] = q at *
  obtain ⟨acc, e⟩ := q
  cases e with
  | some m => simp [c_impl_DParams, acall, h45, k45, dpV]
  | none =>
    have k46 : con_pairsOf [pairV (sortP acc)] = some (pairV (sortP acc)) := by
      simp only [con_pairsOf, slPairs_pairV]
      exact if_pos (by simp [sortP, sortB]; simp at hl; omega)
    have hr : hasRef (pairV (sortP acc)) = false := by cases sortP acc <;> rfl
    simp [c_impl_DParams, acall, h45, k45, dpV, h46, k46, hr]
end Wax

/- FnDParams (5): the plain law: both readings are the same. -/
namespace Wax

theorem lexLt_eq : ∀ x y : List UInt8, lexLt x y = decide (x < y)
  | [], [] => by simp [lexLt, Go.Op.bytesLess]
  | _ :: _, [] => by simp [lexLt, Go.Op.bytesLess]
  | [], _ :: _ => by simp [lexLt, Go.Op.bytesLess]
  | a :: x, b :: y => by
    have ih := lexLt_eq x y
    simp only [lexLt] at ih
    simp only [lexLt, Go.Op.bytesLess, ih, List.cons_lt_cons_iff, Bool.decide_or, Bool.decide_and]
    congr 2

abbrev KV := List UInt8 × List UInt8

/-- A pair goes to its place; none: there is one of that name. -/
def insP (x : KV) : List KV → Option (List KV)
  | [] => some [x]
  | y :: r => if lexLt y.1 x.1 = true then (insP x r).map (y :: ·) else if y.1 = x.1 then none else some (x :: y :: r)

def tgL : List (List UInt8) → List KV → Option (List KV)
  | [], out => some out
  | p :: r, out => match cutAt 61 p with
    | none => if trimS p = [] then tgL r out else none
    | some q => match insP (trimS q.1, trimS q.2) out with
      | none => none
      | some out' => tgL r out'

def Asc (l : List KV) : Prop := l.Pairwise fun a b => a.1 < b.1

theorem lt_asymm' {a b : List UInt8} (h : a < b) : ¬ b < a := List.lt_asymm h
theorem lt_tri {a b : List UInt8} (h : ¬ a < b) (hn : ¬ a = b) : b < a := by
  rcases Std.lt_trichotomy a b with h1 | h1 | h1
  · exact absurd h1 h
  · exact absurd h1 hn
  · exact h1

theorem insP_spec (x : KV) : ∀ (out : List KV), Asc out → (hasK x.1 out = true → insP x out = none) ∧ (hasK x.1 out = false → ∃ o, insP x out = some o ∧ Asc o ∧ o.Perm (out ++ [x]))
  | [], _ => ⟨fun h => by simp [hasK] at h, fun _ => ⟨[x], rfl, by simp [Asc], by simp⟩⟩
  | y :: r, h => by
    have h' := List.pairwise_cons.1 h
    have ih := insP_spec x r h'.2
    by_cases hlt : y.1 < x.1
    · have hl : lexLt y.1 x.1 = true := by rw [lexLt_eq]; exact decide_eq_true hlt
      have hne : ¬ x.1 = y.1 := fun e => by rw [e] at hlt; exact List.lt_irrefl _ hlt
      have hk : hasK x.1 (y :: r) = hasK x.1 r := by simp [hasK, hne]
      rw [hk]
      refine ⟨fun hh => by simp [insP, hl, ih.1 hh], fun hh => ?_⟩
      obtain ⟨o, h1, h2, h3⟩ := ih.2 hh
      refine ⟨y :: o, by simp [insP, hl, h1], ?_, ?_⟩
      · refine List.pairwise_cons.2 ⟨fun z hz => ?_, h2⟩
        rcases List.mem_append.1 (h3.mem_iff.1 hz) with hz | hz
        · exact h'.1 z hz
        · simp at hz; subst hz; exact hlt
      · simpa using h3
    · have hl : lexLt y.1 x.1 = false := by rw [lexLt_eq]; exact decide_eq_false hlt
      by_cases he : y.1 = x.1
      · rw [he] at hl
        refine ⟨fun _ => by simp [insP, hl, he], fun hh => ?_⟩
        simp [hasK, he] at hh
      · have hgt : x.1 < y.1 := lt_tri hlt he
        have hnk : hasK x.1 (y :: r) = false := by
          simp only [hasK, List.any_cons, Bool.or_eq_false_iff, decide_eq_false_iff_not, List.any_eq_false]
          refine ⟨fun e => he e.symm, fun z hz => ?_⟩
          have := h'.1 z hz
          intro e
          have e := of_decide_eq_true e
          rw [← e] at this
          exact lt_asymm' hgt this
        refine ⟨fun hh => by rw [hnk] at hh; simp at hh, fun _ => ⟨x :: y :: r, by simp [insP, hl, he], ?_, ?_⟩⟩
        · refine List.pairwise_cons.2 ⟨fun z hz => ?_, h⟩
          rcases List.mem_cons.1 hz with rfl | hz
          · exact hgt
          · exact List.lt_trans hgt (h'.1 z hz)
        · exact (List.perm_append_comm (l₁ := [x]) (l₂ := y :: r))

theorem lookP_mem : ∀ {l : List KV} {k v}, (l.map (·.1)).Nodup → (k, v) ∈ l → lookP l k = v
  | [], k, v, _, h => by simp at h
  | (i, u) :: r, k, v, hn, h => by
    simp only [List.map_cons, List.nodup_cons] at hn
    rcases List.mem_cons.1 h with h | h
    · simp at h; obtain ⟨rfl, rfl⟩ := h; simp [lookP]
    · have : ¬ k = i := fun e => hn.1 (by rw [← e]; exact List.mem_map.2 ⟨_, h, rfl⟩)
      simp only [lookP, if_neg this]
      exact lookP_mem hn.2 h

theorem asc_sortP {out acc : List KV} (h : Asc out) (hp : out.Perm acc) : out = sortP acc := by
  have hk : (out.map (·.1)).Pairwise (· < ·) := List.pairwise_map.2 h
  have hnd : (out.map (·.1)).Nodup := hk.imp fun hab e => by rw [e] at hab; exact List.lt_irrefl _ hab
  have hnd2 : (acc.map (·.1)).Nodup := (hp.map (·.1)).nodup_iff.1 hnd
  have hs : out.map (·.1) = sortB (acc.map (·.1)) := by
    have p1 : (out.map (·.1)).Perm (sortB (acc.map (·.1))) := (hp.map _).trans (List.mergeSort_perm _ _).symm
    refine p1.eq_of_pairwise (le := fun a b => a ≤ b) ?_ ?_ ?_
    · intro a b _ _ h1 h2; exact List.le_antisymm h1 h2
    · exact hk.imp fun hab => List.le_of_lt hab
    · have := List.pairwise_mergeSort (le := fun x y : List UInt8 => decide (x ≤ y)) (fun a b c h1 h2 => by
        simp only [decide_eq_true_eq] at *; exact List.le_trans h1 h2) (fun a b => by
        simp only [Bool.or_eq_true, decide_eq_true_eq]; exact List.le_total a b) (acc.map (·.1))
      exact this.imp fun h => of_decide_eq_true h
  rw [sortP, ← hs, List.map_map]
  have : ∀ p ∈ out, (((fun k => (k, lookP acc k)) ∘ fun x : KV => x.1) p) = p := by
    intro p hpm
    have := lookP_mem (k := p.1) (v := p.2) hnd2 (hp.mem_iff.1 hpm)
    simp [this]
  exact (List.map_congr_left this).symm ▸ (List.map_id out).symm

theorem params_law : ∀ (L : List (List UInt8)) (acc out : List KV), Asc out → out.Perm acc → match prm L acc with
    | (a, none) => tgL L out = some (sortP a)
    | (_, some _) => tgL L out = none
  | [], acc, out, h, hp => by simp only [prm, tgL]; rw [asc_sortP h hp]
  | p :: r, acc, out, h, hp => by
    simp only [prm, tgL]
    cases hc : cutAt 61 p with
    | none =>
      simp only
      by_cases ht : trimS p = []
      · simp only [ht, if_true]; exact params_law r acc out h hp
      · simp only [ht, if_false]
    | some q =>
      simp only
      have hk : hasK (trimS q.1) acc = hasK (trimS q.1) out := by
        simp only [hasK]
        exact (hp.any_eq).symm
      have hi := insP_spec (trimS q.1, trimS q.2) out h
      cases hh : hasK (trimS q.1) out with
      | true => rw [hk, hh]; simp only [if_true]; rw [hi.1 hh]
      | false =>
        rw [hk, hh]
        obtain ⟨o, h1, h2, h3⟩ := hi.2 hh
        simp only [Bool.false_eq_true, if_false, h1]
        exact params_law r _ o h2 (h3.trans (hp.append_right _))
end Wax

/- FnDCanonAgain: its loops. -/
namespace Wax
open Go (IntKind)

def con_FnDCanonAgain : List AV → Option AV
  | [.str name, v, u] => match slStrs v, slStrs u with
    | some ws, some bl => if name.length < 9223372036854775808 ∧ (ws.length < 9223372036854775808 ∧ ∀ s ∈ ws, s.length < 9223372036854775808) ∧ (bl.length < 9223372036854775808 ∧ ∀ s ∈ bl, s.length < 9223372036854775808) then some (.bool true) else none
    | _, _ => none
  | _ => none

theorem plain_ap {s t : List UInt8} : plain (s ++ t) = (plain s && plain t) := by simp [plain]

def nameOk (x : UInt8) : Bool := !(decide ((x.toNat : Int) ≤ 32) || decide ((x.toNat : Int) = 58) || decide ((x.toNat : Int) = 127))

theorem dShort_all {m : Int} {l : List (List UInt8)} (h : dShort m l = true) : (∀ s ∈ l, plain s = true ∧ (s.length : Int) ≤ m) ∧ l.length ≤ 200 := by
  simp only [dShort, Bool.and_eq_true, List.all_eq_true, decide_eq_true_eq] at h
  refine ⟨fun s hs => ?_, by omega⟩
  have := h.1 s hs
  simpa only [dPlain, Bool.and_eq_true, decide_eq_true_eq, plain] using this

theorem joinB_length {m : Nat} : ∀ (ws : List (List UInt8)), (∀ w ∈ ws, w.length ≤ m) → (joinB ws).length ≤ ws.length * (m + 1)
  | [], _ => by simp [joinB]
  | w :: r, h => by
    have ih := joinB_length r (fun x hx => h x (by simp [hx]))
    have hw := h w (by simp)
    rw [joinB_cons]
    cases r with
    | nil => simp [J2]; omega
    | cons x y => rw [J2_ne (by simp)]; simp [Nat.add_mul] at ih ⊢; omega

theorem spr_length {m : Nat} {bl : List (List UInt8)} (hb : bl ≠ []) (hbl : ∀ b ∈ bl, b.length ≤ m) : ∀ (ws : List (List UInt8)) (k : Nat), (∀ w ∈ ws, w.length ≤ m) → (spr bl k ws).length ≤ ws.length * (2 * m)
  | [], k, _ => by simp [spr]
  | w :: r, k, h => by
    have ih := spr_length hb hbl r (k + 1) (fun x hx => h x (by simp [hx]))
    have hw := h w (by simp)
    have hk := hbl _ (getD_blank hb (k := k))
    rw [spr_cons]
    simp only [List.length_append, List.length_cons, Nat.add_mul]
    omega

theorem plain_joinB : ∀ (ws : List (List UInt8)), (∀ w ∈ ws, plain w = true) → plain (joinB ws) = true
  | [], _ => rfl
  | w :: r, h => by
    have ih := plain_joinB r (fun x hx => h x (by simp [hx]))
    rw [joinB_cons, plain_ap, h w (by simp)]
    cases r with
    | nil => rfl
    | cons x y =>
      rw [J2_ne (by simp)]
      have e : plain (32 :: joinB (x :: y)) = (plainB 32 && plain (joinB (x :: y))) := rfl
      have e2 : plainB 32 = true := plainB_true ⟨by decide, by decide, by decide⟩
      rw [e, ih, e2]; rfl

theorem plain_spr {bl : List (List UInt8)} (hb : bl ≠ []) (hbl : ∀ b ∈ bl, plain b = true) : ∀ (ws : List (List UInt8)) (k : Nat), (∀ w ∈ ws, plain w = true) → plain (spr bl k ws) = true
  | [], k, _ => rfl
  | w :: r, k, h => by
    have ih := plain_spr hb hbl r (k + 1) (fun x hx => h x (by simp [hx]))
    rw [spr_cons, plain_ap, plain_ap, h w (by simp), hbl _ (getD_blank hb (k := k)), ih]; rfl


theorem ca_loop1 (Γ : Gam) (h11 : Γ.fn 11 = con_dAwake) (Q : APost) {name : List UInt8} {V U : AV} (hV : hasRef V = false) (hU : hasRef U = false) (hn : name.length ≤ 2147483647) (hQr : Q .ret ⟨[(6, .bool true)], []⟩)
    (hQe : (∀ x ∈ name, nameOk x = true) → Q (.exit 0) ⟨[(0, .str name), (1, V), (2, U), (7, .int .i64 name.length), (60, .bool false)], []⟩) :
    awp Γ (.loop [0, 1, 2, 7] b_laws_FnDCanonAgain_1) Q ⟨[(0, .str name), (1, V), (2, U), (7, .int .i64 0)], []⟩ := by
  refine awp_loop2 (σ := List UInt8 × List UInt8) (fun p => ⟨[(0, .str name), (1, V), (2, U), (7, .int .i64 p.1.length)], []⟩) (fun p => name = p.1 ++ p.2 ∧ ∀ x ∈ p.1, nameOk x = true) (fun p => p.2.length) ([], name) (by simp) (by simp) ?_
  rintro ⟨pre, post⟩ ⟨hs1, hs2⟩ LQ hLQ
  simp only at hs1 hs2
  subst hs1
  cases post with
  | nil =>
    simp at hQe
    simp [b_laws_FnDCanonAgain_1]
    exact hQe hs2
  | cons x post =>
    simp at hn
    have ew : IntKind.i64.wrap ((pre.length : Int) + 1) = (pre.length : Int) + 1 := wrap64 (by omega) (by omega)
    have hlt : (pre.length : Int) < (pre.length : Int) + ((post.length : Int) + 1) := by omega
    by_cases c1 : (x.toNat : Int) ≤ 32
    · simp [b_laws_FnDCanonAgain_1, c1, acall, h11, con_dAwake]
      exact ⟨fun _ => hQr, fun _ => by omega⟩
    · by_cases c2 : (x.toNat : Int) = 58
      · simp [b_laws_FnDCanonAgain_1, c2, acall, h11, con_dAwake]
        exact ⟨fun _ => hQr, fun _ => by omega⟩
      · by_cases c3 : (x.toNat : Int) = 127
        · simp [b_laws_FnDCanonAgain_1, c3, acall, h11, con_dAwake]
          exact ⟨fun _ => hQr, fun _ => by omega⟩
        · have hok : nameOk x = true := by simp [nameOk, c1, c2, c3]
          simp [b_laws_FnDCanonAgain_1, c1, c2, c3, ew]
          refine ⟨fun _ => ?_, fun _ => by omega⟩
          refine hLQ (pre ++ [x], post) ⟨by simp, ?_⟩ (by simp) _ (by simp)
          intro y hy
          rcases List.mem_append.1 hy with hy | hy
          · exact hs2 y hy
          · simp at hy; subst hy; exact hok

theorem ca_loop2 (Γ : Gam) (h11 : Γ.fn 11 = con_dAwake) (h27 : Γ.fn 27 = con_DStrip) (Q : APost) {N U : AV} {ws : List (List UInt8)} (hws : ∀ w ∈ ws, w.length < mid) (hl : ws.length ≤ 2147483647) (hQr : Q .ret ⟨[(6, .bool true)], []⟩)
    (hQe : (∀ w ∈ ws, stripD w = w ∧ w ≠ []) → Q (.exit 2) ⟨[(0, N), (1, .sl 1 (strsA ws)), (2, U), (9, .int .i64 ws.length), (80, .bool false)], []⟩) :
    awp Γ (.loop [0, 1, 2, 9] b_laws_FnDCanonAgain_2) Q ⟨[(0, N), (1, .sl 1 (strsA ws)), (2, U), (9, .int .i64 0)], []⟩ := by
  refine awp_loop2 (σ := List (List UInt8) × List (List UInt8)) (fun p => ⟨[(0, N), (1, .sl 1 (strsA ws)), (2, U), (9, .int .i64 p.1.length)], []⟩) (fun p => ws = p.1 ++ p.2 ∧ ∀ w ∈ p.1, stripD w = w ∧ w ≠ []) (fun p => p.2.length) ([], ws) (by simp) (by simp) ?_
  rintro ⟨pre, post⟩ ⟨hs1, hs2⟩ LQ hLQ
  simp only at hs1 hs2
  subst hs1
  cases post with
  | nil =>
    simp at hQe
    simp [b_laws_FnDCanonAgain_2]
    exact hQe fun w hw => hs2 w hw
  | cons x post =>
    simp at hl
    have hx := hws x (by simp)
    have hk : con_DStrip [.str x] = some (.str (stripD x)) := if_pos hx
    have ew : IntKind.i64.wrap ((pre.length : Int) + 1) = (pre.length : Int) + 1 := wrap64 (by omega) (by omega)
    have hlt : (pre.length : Int) < (pre.length : Int) + ((post.length : Int) + 1) := by omega
    by_cases c1 : stripD x = x
    · by_cases c2 : x = []
      · subst c2
        simp [b_laws_FnDCanonAgain_2, acall, h27, hk, c1, h11, con_dAwake]
        exact ⟨fun _ => hQr, fun _ => by omega⟩
      · simp [b_laws_FnDCanonAgain_2, acall, h27, hk, c1, c2, ew]
        refine ⟨fun _ => ?_, fun _ => by omega⟩
        refine hLQ (pre ++ [x], post) ⟨by simp, ?_⟩ (by simp) _ (by simp)
        intro y hy
        rcases List.mem_append.1 hy with hy | hy
        · exact hs2 y hy
        · simp at hy; subst hy; exact ⟨c1, c2⟩
    · simp [b_laws_FnDCanonAgain_2, acall, h27, hk, c1, h11, con_dAwake]
      exact ⟨fun _ => hQr, fun _ => by omega⟩

theorem ca_loop3 (Γ : Gam) (h11 : Γ.fn 11 = con_dAwake) (h27 : Γ.fn 27 = con_DStrip) (Q : APost) {N U : AV} {ws : List (List UInt8)} (hws : ∀ w ∈ ws, w.length < mid) (hl : ws.length ≤ 2147483647) (hQr : Q .ret ⟨[(6, .bool true)], []⟩)
    (hQe : (∀ w ∈ ws, stripD w = [] ∧ w ≠ []) → Q (.exit 4) ⟨[(0, N), (1, U), (2, .sl 1 (strsA ws)), (10, .int .i64 ws.length), (104, .bool false)], []⟩) :
    awp Γ (.loop [0, 1, 2, 10] b_laws_FnDCanonAgain_3) Q ⟨[(0, N), (1, U), (2, .sl 1 (strsA ws)), (10, .int .i64 0)], []⟩ := by
  refine awp_loop2 (σ := List (List UInt8) × List (List UInt8)) (fun p => ⟨[(0, N), (1, U), (2, .sl 1 (strsA ws)), (10, .int .i64 p.1.length)], []⟩) (fun p => ws = p.1 ++ p.2 ∧ ∀ w ∈ p.1, stripD w = [] ∧ w ≠ []) (fun p => p.2.length) ([], ws) (by simp) (by simp) ?_
  rintro ⟨pre, post⟩ ⟨hs1, hs2⟩ LQ hLQ
  simp only at hs1 hs2
  subst hs1
  cases post with
  | nil =>
    simp at hQe
    simp [b_laws_FnDCanonAgain_3]
    exact hQe fun w hw => hs2 w hw
  | cons x post =>
    simp at hl
    have hx := hws x (by simp)
    have hk : con_DStrip [.str x] = some (.str (stripD x)) := if_pos hx
    have ew : IntKind.i64.wrap ((pre.length : Int) + 1) = (pre.length : Int) + 1 := wrap64 (by omega) (by omega)
    have hlt : (pre.length : Int) < (pre.length : Int) + ((post.length : Int) + 1) := by omega
    by_cases c1 : stripD x = []
    · by_cases c2 : x = []
      · subst c2
        simp [b_laws_FnDCanonAgain_3, acall, h27, hk, c1, h11, con_dAwake]
        exact ⟨fun _ => hQr, fun _ => by omega⟩
      · simp [b_laws_FnDCanonAgain_3, acall, h27, hk, c1, c2, ew]
        refine ⟨fun _ => ?_, fun _ => by omega⟩
        refine hLQ (pre ++ [x], post) ⟨by simp, ?_⟩ (by simp) _ (by simp)
        intro y hy
        rcases List.mem_append.1 hy with hy | hy
        · exact hs2 y hy
        · simp at hy; subst hy; exact ⟨c1, c2⟩
    · simp [b_laws_FnDCanonAgain_3, acall, h27, hk, c1, h11, con_dAwake]
      exact ⟨fun _ => hQr, fun _ => by omega⟩
end Wax

/- FnDParams: its own text, by its callees' contracts. -/
namespace Wax
open Go (IntKind)

def con_DTags : List AV → Option AV
  | [.str s] => if s.length + 1 < half then some (match tgL (splitB 59 s) [] with | some o => .tup [pairV o, .bool true] | none => .tup [.nilS, .bool false]) else none
  | _ => none

def con_FnDParams : List AV → Option AV
  | [.str s] => if s.length < 9223372036854775808 then some (.bool true) else none
  | _ => none

theorem slp_ref {u : AV} {l} (h : slPairs u = some l) : hasRef u = false := by
  rcases slPairs_cases h with ⟨rfl, rfl⟩ | rfl <;> simp
theorem slp_snap {u : AV} {l} (h : slPairs u = some l) (n : Nat) (hp : List (Nat × AObj)) : snap (n + 1) hp u = u := by
  rcases slPairs_cases h with ⟨rfl, rfl⟩ | rfl <;> simp

set_option maxHeartbeats 1000000 in
set_option maxRecDepth 100000 in
theorem ok_FnDParams (Γ : Gam) (h10 : Γ.fn 10 = con_dShort) (h11 : Γ.fn 11 = con_dAwake) (h51 : Γ.fn 51 = con_DParams) (h52 : Γ.fn 52 = con_DTags) (h53 : Γ.fn 53 = con_dSamePairs) :
    ∀ args r, con_FnDParams args = some r → runs Γ c_laws_FnDParams args (fun v => v = r) := by
  intro args r h
  simp only [con_FnDParams] at h
  split at h <;> (try simp at h; done)
  rename_i s
  obtain ⟨hs, rfl⟩ := ite_some h
  clear h
  by_cases hl : (2147483647 : Int) < (s.length : Int)
  · simp [c_laws_FnDParams, hl]
  have ds : con_dShort [.int .i64 2000, .sl 1 [.str s]] = some (.bool (dShort 2000 [s])) := by
    have : slStrs (.sl 1 [.str s]) = some [s] := by simp [slStrs, asStrs]
    simp only [con_dShort, this]
    exact if_pos ⟨by simp [big], by simp [big]; omega⟩
  cases hA : dShort 2000 [s] with
  | false =>
    rw [hA] at ds
    simp [c_laws_FnDParams, hl, acall, h10, ds, h11, con_dAwake]
  | true =>
    rw [hA] at ds
    obtain ⟨a1, _⟩ := dShort_all hA
    obtain ⟨a2, a3⟩ := a1 s (by simp)
    have hh : s.length + 1 < half := by simp only [half]; omega
    have k51 : con_DParams [.str s] = some (match prm (splitB 59 s) [] with | (acc, none) => .tup [pairV (sortP acc), .bool true] | (_, some _) => .tup [.nilS, .bool false]) := if_pos ⟨hh, a2⟩
    have k52 : con_DTags [.str s] = some (match tgL (splitB 59 s) [] with | some o => .tup [pairV o, .bool true] | none => .tup [.nilS, .bool false]) := if_pos hh
    have law := params_law (splitB 59 s) [] [] (by simp [Asc]) (List.Perm.refl _)
    have hpl := prm_length (splitB 59 s) []
    have hsl := splitB_length 59 s
    have k51b : ∃ x y, con_DParams [.str [97, 61, 98, 59, 32, 99, 61, 100, 59]] = some (.tup [.sl 2 (pr2 [x, y]), .bool true]) := by
      have e : prm (splitB 59 [97, 61, 98, 59, 32, 99, 61, 100, 59]) [] = ([([97], [98]), ([99], [100])], none) := by decide
      simp only [con_DParams, e]
      rw [if_pos ⟨by decide, by decide⟩]
      have hlen : (sortP [([97], [98]), ([99], [100])]).length = 2 := by simp [sortP, sortB]
      revert hlen
      generalize sortP [([97], [98]), ([99], [100])] = z
      intro hlen
      match z, hlen with
      | [x, y], _ => exact ⟨x, y, rfl⟩
    obtain ⟨x, y, k51b⟩ := k51b
    have hs0 : ∀ hp, alen hp 0 (.str s) = some s.length := fun _ => rfl
    have hxy := slp_alen (show slPairs (.sl 2 (pr2 [x, y])) = some [x, y] by simp [slPairs, asPairs])
    simp only [pr2_cons, pr2_nil] at hxy k51b
    generalize prm (splitB 59 s) [] = q at *
    obtain ⟨acc, e⟩ := q
    cases e with
    | some m =>
      simp only at law
      rw [law] at k52
      simp [-alen, hs0, hxy, c_laws_FnDParams, hl, acall, h10, ds, h51, h52, k51, k52, k51b]
    | none =>
      simp only at law
      rw [law] at k52
      simp only at hpl
      have k53 : con_dSamePairs [pairV (sortP acc), pairV (sortP acc)] = some (.bool true) := by
        simp only [con_dSamePairs, slPairs_pairV]
        rw [if_pos ⟨by simp [sortP, sortB, mid]; simp at hpl; omega, by simp [sortP, sortB, mid]; simp at hpl; omega⟩]
        simp
      have hr := slp_ref (slPairs_pairV (l := sortP acc))
      have hsn := slp_snap (slPairs_pairV (l := sortP acc))
      simp [-alen, hs0, hxy, c_laws_FnDParams, hl, acall, h10, ds, h51, h52, k51, k52, k51b, h53, k53, hr, hsn]
end Wax

