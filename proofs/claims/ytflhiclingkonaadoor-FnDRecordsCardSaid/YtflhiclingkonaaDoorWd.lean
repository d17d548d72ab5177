/- The machine by which the functions are read, and what is proved of them (part 4): no premise. -/
import Derived.Test.YtflhiclingkonaaDoorWc
/- Functions as the abstract machine has them. -/
namespace Wax
open Go (IntKind)

/- spec.DSplit -/
def b_spec_DSplit_1 : SCode :=
  (.block 1
    (.seq
      (.region [
        ⟨some 10, .mv (.t 0), none⟩,
        ⟨some 11, .mv (.t 1), none⟩,
        ⟨some 12, .call 2 [(.t 10), (.t 11)], none⟩,
        ⟨some 9, .mv (.t 12), none⟩,
        ⟨some 13, .extr (.t 9) 0, none⟩,
        ⟨some 14, .extr (.t 9) 1, none⟩,
        ⟨some 15, .extr (.t 9) 2, none⟩,
        ⟨some 6, .mv (.t 13), none⟩,
        ⟨some 7, .mv (.t 14), none⟩,
        ⟨some 8, .mv (.t 15), none⟩] [1, 5, 6, 7, 8] [] [[0], [], [10, 11], [12], [], [], [9], [13], [14]])
      (.seq
        (.region [
          ⟨some 16, .mv (.t 5), none⟩,
          ⟨some 17, .mv (.t 6), none⟩,
          ⟨some 18, .mkSl 1 1 [(.str [])] [(0, (.t 17))], none⟩,
          ⟨some 19, .app 1 16 (.t 16) (.t 18), none⟩,
          ⟨some 5, .mv (.t 19), none⟩] [1, 5, 7, 8] [18] [[], [6], [17], [16, 18]])
        (.seq
          (.seq
            (.region [
              ⟨some 20, .mv (.t 8), none⟩,
              ⟨some 21, .un .not (.t 20), none⟩] [1, 5, 7, 21] [] [[8]])
            (.cond (.t 21)
              (.seq
                (.region [
                  ⟨some 22, .mv (.t 5), none⟩,
                  ⟨some 4, .mv (.t 22), none⟩] [4] [] [[5]])
                .ret)
              .skip))
          (.region [
            ⟨some 23, .mv (.t 7), none⟩,
            ⟨some 0, .mv (.t 23), none⟩] [0, 1, 5] [] [[7]])))))

def c_spec_DSplit : SFn := ⟨2,
    (.seq
      (.region [
        ⟨some 4, .mv (.k .nilS), none⟩] [0, 1] [] [])
      (.seq
        (.region [
          ⟨some 5, .mv (.k .nilS), none⟩] [0, 1, 5] [] [])
        (.block 0
          (.loop [0, 1, 5]
            b_spec_DSplit_1)))),
  [.t 4]⟩

def l_spec_DSplit : Lay := { rg := [(0, ([0, 1], [])), (1, ([0, 1, 5], [])), (2, ([1, 5, 6, 7, 8], [])), (3, ([1, 5, 7, 8], [18])), (4, ([1, 5, 7, 21], [])), (5, ([4], [])), (6, ([0, 1, 5], [])), (1000002, ([0, 1, 5], []))], dd := [(2, [[0], [], [10, 11], [12], [], [], [9], [13], [14]]), (3, [[], [6], [17], [16, 18]]), (4, [[8]]), (5, [[5]]), (6, [[7]])] }

/- laws.dSamePairs -/
def b_laws_dSamePairs_1 : SCode :=
  (.seq
    (.seq
      (.region [
        ⟨some 11, .mv (.t 5), none⟩,
        ⟨some 12, .mv (.t 0), none⟩,
        ⟨some 13, .len 1 (.t 12), none⟩,
        ⟨some 14, .bin .lss (.t 11) (.t 13), none⟩] [0, 1, 5, 14] [] [[], [], [12]])
      (.cond (.t 14)
        .skip
        (.exit 0)))
    (.seq
      (.block 1
        (.seq
          (.region [
            ⟨some 17, .mv (.t 0), none⟩,
            ⟨some 18, .mv (.t 5), none⟩,
            ⟨some 19, .iAddr 2 (.t 17) (.t 18), none⟩,
            ⟨some 20, .load (some 2) (.t 19), none⟩,
            ⟨some 21, .mv (.t 1), none⟩,
            ⟨some 22, .mv (.t 5), none⟩,
            ⟨some 23, .iAddr 2 (.t 21) (.t 22), none⟩,
            ⟨some 24, .load (some 2) (.t 23), none⟩,
            ⟨some 25, .eqA true [2, 2] (.t 20) (.t 24), none⟩] [0, 1, 5, 25] [] [])
          (.cond (.t 25)
            (.seq
              (.region [
                ⟨some 4, .mv (.k (.bool false)), none⟩] [4] [] [])
              .ret)
            .skip)))
      (.region [
        ⟨some 15, .mv (.t 5), none⟩,
        ⟨some 16, .bin .add (.t 15) (.k (.int .i64 1)), none⟩,
        ⟨some 5, .mv (.t 16), none⟩] [0, 1, 5] [] [[], [15]])))

def t_laws_dSamePairs_2 : SCode :=
  (.seq
    (.region [
      ⟨some 4, .mv (.k (.bool true)), none⟩] [4] [] [])
    .ret)

def c_laws_dSamePairs : SFn := ⟨2,
    (.seq
      (.region [
        ⟨some 4, .mv (.k (.bool false)), none⟩] [0, 1] [] [])
      (.seq
        (.seq
          (.region [
            ⟨some 6, .mv (.t 0), none⟩,
            ⟨some 7, .len 1 (.t 6), none⟩,
            ⟨some 8, .mv (.t 1), none⟩,
            ⟨some 9, .len 1 (.t 8), none⟩,
            ⟨some 10, .bin .neq (.t 7) (.t 9), none⟩] [0, 1, 10] [] [[], [6], [], [8]])
          (.cond (.t 10)
            (.seq
              (.region [
                ⟨some 4, .mv (.k (.bool false)), none⟩] [4] [] [])
              .ret)
            .skip))
        (.seq
          (.seq
            (.region [
              ⟨some 5, .mv (.k (.int .i64 0)), none⟩] [0, 1, 5] [] [])
            (.block 0
              (.loop [0, 1, 5]
                b_laws_dSamePairs_1)))
          t_laws_dSamePairs_2))),
  [.t 4]⟩

def l_laws_dSamePairs : Lay := { rg := [(0, ([0, 1], [])), (1, ([0, 1, 10], [])), (2, ([4], [])), (3, ([0, 1, 5], [])), (4, ([0, 1, 5, 14], [])), (5, ([0, 1, 5], [])), (6, ([0, 1, 5, 25], [])), (7, ([4], [])), (8, ([4], [])), (1000004, ([0, 1, 5], []))], dd := [(1, [[], [6], [], [8]]), (4, [[], [], [12]]), (5, [[], [15]])] }

/- impl.DParams -/
def c_impl_DParams : SFn := ⟨1,
    (.seq
      (.region [
        ⟨some 2, .mv (.k .nilS), none⟩,
        ⟨some 3, .mv (.k (.bool false)), none⟩] [0] [] [[2]])
      (.seq
        (.region [
          ⟨some 7, .mv (.t 0), none⟩,
          ⟨some 8, .call 45 [(.t 7)], none⟩,
          ⟨some 6, .mv (.t 8), none⟩,
          ⟨some 9, .extr (.t 6) 0, none⟩,
          ⟨some 10, .extr (.t 6) 1, none⟩,
          ⟨some 4, .mv (.t 9), none⟩,
          ⟨some 5, .mv (.t 10), none⟩] [4, 5] [] [[0], [7], [8], [], [6], [9]])
        (.seq
          (.seq
            (.region [
              ⟨some 11, .mv (.t 5), none⟩,
              ⟨some 12, .isNil 0 true (.t 11), none⟩] [4, 12] [] [[5]])
            (.cond (.t 12)
              (.seq
                (.region [
                  ⟨some 2, .mv (.k .nilS), none⟩,
                  ⟨some 3, .mv (.k (.bool false)), none⟩] [2, 3] [] [])
                .ret)
              .skip))
          (.seq
            (.region [
              ⟨some 13, .mv (.t 4), none⟩,
              ⟨some 14, .call 46 [(.t 13)], none⟩,
              ⟨some 2, .mv (.t 14), none⟩,
              ⟨some 3, .mv (.k (.bool true)), none⟩] [2, 3] [] [[4], [13], [14]])
            .ret)))),
  [.t 2, .t 3]⟩

def l_impl_DParams : Lay := { rg := [(0, ([0], [])), (1, ([4, 5], [])), (2, ([4, 12], [])), (3, ([2, 3], [])), (4, ([2, 3], []))], dd := [(0, [[2]]), (1, [[0], [7], [8], [], [6], [9]]), (2, [[5]]), (4, [[4], [13], [14]])] }

/- impl.pairsOf -/
def b_impl_pairsOf_1 : SCode :=
  (.seq
    (.region [
      ⟨some 9, .bin .lss (.t 8) (.t 7), none⟩] [3, 6, 7, 8, 9] [] [])
    (.seq
      (.cond (.t 9)
        .skip
        (.exit 0))
      (.seq
        (.block 1
          (.seq
            (.region [
              ⟨some 10, .iAddr 2 (.t 6) (.t 8), none⟩,
              ⟨some 11, .load (some 2) (.t 10), none⟩,
              ⟨some 5, .alloc [(.str []), (.str [])], none⟩,
              ⟨none, .store 2 (.t 5) (.t 11), none⟩] [3, 5, 6, 7, 8] [] [[], [10]])
            (.region [
              ⟨some 12, .mv (.t 3), none⟩,
              ⟨some 13, .iAddrA 2 1 (.t 5) (.k (.int .i64 0)), none⟩,
              ⟨some 14, .load none (.t 13), none⟩,
              ⟨some 15, .iAddrA 2 1 (.t 5) (.k (.int .i64 1)), none⟩,
              ⟨some 16, .load none (.t 15), none⟩,
              ⟨some 17, .agg [(.str []), (.str [])] [(0, 1, (.t 14)), (1, 1, (.t 16))], none⟩,
              ⟨some 18, .mkSl 2 1 [(.str []), (.str [])] [(0, (.t 17))], none⟩,
              ⟨some 19, .app 2 32 (.t 12) (.t 18), none⟩,
              ⟨some 3, .mv (.t 19), none⟩] [3, 6, 7, 8] [5, 18] [[], [], [13], [5], [15], [14, 16], [17], [12, 18]])))
        (.region [
          ⟨some 20, .bin .add (.t 8) (.k (.int .i64 1)), none⟩,
          ⟨some 8, .mv (.t 20), none⟩] [3, 6, 7, 8] [] []))))

def t_impl_pairsOf_2 : SCode :=
  (.seq
    (.region [
      ⟨some 21, .mv (.t 3), none⟩,
      ⟨some 2, .mv (.t 21), none⟩] [2] [] [[3]])
    .ret)

def c_impl_pairsOf : SFn := ⟨1,
    (.seq
      (.region [
        ⟨some 2, .mv (.k .nilS), none⟩] [0] [] [])
      (.seq
        (.region [
          ⟨some 3, .mv (.k .nilS), none⟩] [0, 3] [] [])
        (.seq
          (.seq
            (.region [
              ⟨some 6, .mv (.t 0), none⟩,
              ⟨some 7, .len 1 (.t 6), none⟩,
              ⟨some 8, .mv (.k (.int .i64 0)), none⟩] [3, 6, 7, 8] [] [[0]])
            (.block 0
              (.loop [3, 6, 7, 8]
                b_impl_pairsOf_1)))
          t_impl_pairsOf_2))),
  [.t 2]⟩

def l_impl_pairsOf : Lay := { rg := [(0, ([0], [])), (1, ([0, 3], [])), (2, ([3, 6, 7, 8], [])), (3, ([3, 6, 7, 8, 9], [])), (4, ([3, 5, 6, 7, 8], [])), (5, ([3, 6, 7, 8], [5, 18])), (6, ([3, 6, 7, 8], [])), (7, ([2], [])), (1000003, ([3, 6, 7, 8], []))], dd := [(2, [[0]]), (4, [[], [10]]), (5, [[], [], [13], [5], [15], [14, 16], [17], [12, 18]]), (7, [[3]])] }

/- dkim.Params -/
def b_dkim_Params_1 : SCode :=
  (.seq
    (.region [
      ⟨some 22, .bin .lss (.t 21) (.t 20), none⟩] [4, 6, 19, 20, 21, 22] [] [])
    (.seq
      (.cond (.t 22)
        .skip
        (.exit 0))
      (.seq
        (.block 1
          (.seq
            (.region [
              ⟨some 23, .iAddr 1 (.t 19) (.t 21), none⟩,
              ⟨some 24, .load none (.t 23), none⟩,
              ⟨some 8, .mv (.t 24), none⟩] [4, 6, 8, 19, 20, 21] [] [[], [23]])
            (.region [
              ⟨some 25, .mv (.t 6), none⟩,
              ⟨some 26, .mv (.t 8), none⟩,
              ⟨some 27, .mv (.t 4), none⟩,
              ⟨some 28, .mv (.t 8), none⟩,
              ⟨some 29, .look (.str []) false (.t 27) (.t 28), none⟩,
              ⟨some 30, .agg [(.str []), (.str [])] [(0, 1, (.t 26)), (1, 1, (.t 29))], none⟩,
              ⟨some 31, .mkSl 2 1 [(.str []), (.str [])] [(0, (.t 30))], none⟩,
              ⟨some 32, .app 2 32 (.t 25) (.t 31), none⟩,
              ⟨some 6, .mv (.t 32), none⟩] [4, 6, 19, 20, 21] [31] [[], [], [], [8], [27, 28], [26, 29], [30], [25, 31]])))
        (.region [
          ⟨some 33, .bin .add (.t 21) (.k (.int .i64 1)), none⟩,
          ⟨some 21, .mv (.t 33), none⟩] [4, 6, 19, 20, 21] [] []))))

def t_dkim_Params_2 : SCode :=
  (.seq
    (.region [
      ⟨some 34, .mv (.t 6), none⟩,
      ⟨some 2, .mv (.t 34), none⟩,
      ⟨some 3, .mv (.k .nilI), none⟩] [2, 3] [] [[6], [34]])
    .ret)

def c_dkim_Params : SFn := ⟨1,
    (.seq
      (.region [
        ⟨some 2, .mv (.k .nilS), none⟩,
        ⟨some 3, .mv (.k .nilI), none⟩] [0] [] [[2]])
      (.seq
        (.region [
          ⟨some 10, .mv (.t 0), none⟩,
          ⟨some 11, .call 47 [(.t 10)], none⟩,
          ⟨some 9, .mv (.t 11), none⟩,
          ⟨some 12, .extr (.t 9) 0, none⟩,
          ⟨some 13, .extr (.t 9) 1, none⟩,
          ⟨some 4, .mv (.t 12), none⟩,
          ⟨some 5, .mv (.t 13), none⟩] [4, 5] [] [[0], [10], [11], [], [9], [12]])
        (.seq
          (.seq
            (.region [
              ⟨some 14, .mv (.t 5), none⟩,
              ⟨some 15, .isNil 0 true (.t 14), none⟩] [4, 5, 15] [] [])
            (.cond (.t 15)
              (.seq
                (.region [
                  ⟨some 16, .mv (.t 5), none⟩,
                  ⟨some 2, .mv (.k .nilS), none⟩,
                  ⟨some 3, .mv (.t 16), none⟩] [2, 3] [] [[5]])
                .ret)
              .skip))
          (.seq
            (.region [
              ⟨some 6, .mv (.k .nilS), none⟩] [4, 6] [] [])
            (.seq
              (.seq
                (.region [
                  ⟨some 17, .mv (.t 4), none⟩,
                  ⟨some 18, .call 48 [(.t 17)], none⟩,
                  ⟨some 19, .call 49 [(.t 18)], none⟩,
                  ⟨some 20, .len 1 (.t 19), none⟩,
                  ⟨some 21, .mv (.k (.int .i64 0)), none⟩] [4, 6, 19, 20, 21] [] [[], [17], [18]])
                (.block 0
                  (.loop [4, 6, 19, 20, 21]
                    b_dkim_Params_1)))
              t_dkim_Params_2))))),
  [.t 2, .t 3]⟩

def l_dkim_Params : Lay := { rg := [(0, ([0], [])), (1, ([4, 5], [])), (2, ([4, 5, 15], [])), (3, ([2, 3], [])), (4, ([4, 6], [])), (5, ([4, 6, 19, 20, 21], [])), (6, ([4, 6, 19, 20, 21, 22], [])), (7, ([4, 6, 8, 19, 20, 21], [])), (8, ([4, 6, 19, 20, 21], [31])), (9, ([4, 6, 19, 20, 21], [])), (10, ([2, 3], [])), (1000006, ([4, 6, 19, 20, 21], []))], dd := [(0, [[2]]), (1, [[0], [10], [11], [], [9], [12]]), (3, [[5]]), (5, [[], [17], [18]]), (7, [[], [23]]), (8, [[], [], [], [8], [27, 28], [26, 29], [30], [25, 31]]), (10, [[6], [34]])] }

/- dkim.parseHeaderParams -/
def b_dkim_parseHeaderParams_1 : SCode :=
  (.seq
    (.region [
      ⟨some 20, .bin .lss (.t 19) (.t 18), none⟩] [5, 17, 18, 19, 20] [] [])
    (.seq
      (.cond (.t 20)
        .skip
        (.exit 0))
      (.seq
        (.block 1
          (.seq
            (.region [
              ⟨some 21, .iAddr 1 (.t 17) (.t 19), none⟩,
              ⟨some 22, .load none (.t 21), none⟩,
              ⟨some 7, .mv (.t 22), none⟩] [5, 7, 17, 18, 19] [] [[], [21]])
            (.seq
              (.region [
                ⟨some 24, .mv (.t 7), none⟩,
                ⟨some 25, .call 16 [(.t 24), (.k (.str [61]))], none⟩,
                ⟨some 23, .mv (.t 25), none⟩,
                ⟨some 26, .extr (.t 23) 0, none⟩,
                ⟨some 27, .extr (.t 23) 1, none⟩,
                ⟨some 28, .extr (.t 23) 2, none⟩,
                ⟨some 8, .mv (.t 26), none⟩,
                ⟨some 9, .mv (.t 27), none⟩,
                ⟨some 10, .mv (.t 28), none⟩] [5, 7, 8, 9, 10, 17, 18, 19] [] [[], [24], [25], [], [], [23], [26], [27]])
              (.seq
                (.seq
                  (.region [
                    ⟨some 29, .mv (.t 10), none⟩,
                    ⟨some 30, .un .not (.t 29), none⟩] [5, 7, 8, 9, 17, 18, 19, 30] [] [[10]])
                  (.cond (.t 30)
                    (.seq
                      (.seq
                        (.region [
                          ⟨some 31, .mv (.t 7), none⟩,
                          ⟨some 32, .call 18 [(.t 31)], none⟩,
                          ⟨some 33, .bin .eql (.t 32) (.k (.str [])), none⟩] [5, 17, 18, 19, 33] [] [[7], [31]])
                        (.cond (.t 33)
                          (.exit 1)
                          .skip))
                      (.seq
                        (.region [
                          ⟨some 34, .mv (.t 5), none⟩,
                          ⟨some 35, .call 50 [(.k (.str [100, 107, 105, 109, 58, 32, 109, 97, 108, 102, 111, 114, 109, 101, 100, 32, 104, 101, 97, 100, 101, 114, 32, 112, 97, 114, 97, 109, 115]))], none⟩,
                          ⟨some 2, .mv (.t 34), none⟩,
                          ⟨some 3, .mv (.t 35), none⟩] [2, 3] [15, 100015] [[5], [], [34]])
                        .ret))
                    .skip))
                (.seq
                  (.region [
                    ⟨some 36, .mv (.t 8), none⟩,
                    ⟨some 37, .call 18 [(.t 36)], none⟩,
                    ⟨some 11, .mv (.t 37), none⟩] [5, 9, 11, 17, 18, 19] [] [[8], [36]])
                  (.seq
                    (.region [
                      ⟨some 39, .mv (.t 5), none⟩,
                      ⟨some 40, .mv (.t 11), none⟩,
                      ⟨some 41, .look (.str []) true (.t 39) (.t 40), none⟩,
                      ⟨some 38, .mv (.t 41), none⟩,
                      ⟨some 42, .extr (.t 38) 0, none⟩,
                      ⟨some 43, .extr (.t 38) 1, none⟩,
                      ⟨some 12, .mv (.t 42), none⟩,
                      ⟨some 13, .mv (.t 43), none⟩] [5, 9, 11, 13, 17, 18, 19] [] [[], [], [39, 40], [41], [], [38], [12, 42]])
                    (.seq
                      (.seq
                        (.region [
                          ⟨some 44, .mv (.t 13), none⟩] [5, 9, 11, 17, 18, 19, 44] [] [])
                        (.cond (.t 44)
                          (.seq
                            (.region [
                              ⟨some 45, .mv (.t 5), none⟩,
                              ⟨some 46, .call 50 [(.k (.str [100, 107, 105, 109, 58, 32, 100, 117, 112, 108, 105, 99, 97, 116, 101, 32, 116, 97, 103, 32, 110, 97, 109, 101]))], none⟩,
                              ⟨some 2, .mv (.t 45), none⟩,
                              ⟨some 3, .mv (.t 46), none⟩] [2, 3] [15, 100015] [[5], [], [45]])
                            .ret)
                          .skip))
                      (.region [
                        ⟨some 47, .mv (.t 5), none⟩,
                        ⟨some 48, .mv (.t 11), none⟩,
                        ⟨some 49, .mv (.t 9), none⟩,
                        ⟨some 50, .call 18 [(.t 49)], none⟩,
                        ⟨none, .mput (.t 47) (.t 48) (.t 50), none⟩] [5, 17, 18, 19] [] [[], [11], [9], [49]]))))))))
        (.region [
          ⟨some 51, .bin .add (.t 19) (.k (.int .i64 1)), none⟩,
          ⟨some 19, .mv (.t 51), none⟩] [5, 17, 18, 19] [] []))))

def t_dkim_parseHeaderParams_2 : SCode :=
  (.seq
    (.region [
      ⟨some 52, .mv (.t 5), none⟩,
      ⟨some 2, .mv (.t 52), none⟩,
      ⟨some 3, .mv (.k .nilI), none⟩] [2, 3] [15, 100015] [[5], [52]])
    .ret)

def c_dkim_parseHeaderParams : SFn := ⟨1,
    (.seq
      (.region [
        ⟨some 2, .mv (.k .nilM), none⟩,
        ⟨some 3, .mv (.k .nilI), none⟩] [0] [] [[2]])
      (.seq
        (.region [
          ⟨some 14, .mv (.t 0), none⟩,
          ⟨some 15, .callS 25 [(.t 14), (.k (.str [59]))], none⟩,
          ⟨some 4, .mv (.t 15), none⟩] [4] [] [[0], [14]])
        (.seq
          (.region [
            ⟨some 16, .mkMap, none⟩,
            ⟨some 5, .mv (.t 16), none⟩] [4, 5] [] [])
          (.seq
            (.seq
              (.region [
                ⟨some 17, .mv (.t 4), none⟩,
                ⟨some 18, .len 1 (.t 17), none⟩,
                ⟨some 19, .mv (.k (.int .i64 0)), none⟩] [5, 17, 18, 19] [] [[4]])
              (.block 0
                (.loop [5, 17, 18, 19]
                  b_dkim_parseHeaderParams_1)))
            t_dkim_parseHeaderParams_2)))),
  [.t 2, .t 3]⟩

def l_dkim_parseHeaderParams : Lay := { rg := [(0, ([0], [])), (1, ([4], [])), (2, ([4, 5], [])), (3, ([5, 17, 18, 19], [])), (4, ([5, 17, 18, 19, 20], [])), (5, ([5, 7, 17, 18, 19], [])), (6, ([5, 7, 8, 9, 10, 17, 18, 19], [])), (7, ([5, 7, 8, 9, 17, 18, 19, 30], [])), (8, ([5, 17, 18, 19, 33], [])), (9, ([2, 3], [15, 100015])), (10, ([5, 9, 11, 17, 18, 19], [])), (11, ([5, 9, 11, 13, 17, 18, 19], [])), (12, ([5, 9, 11, 17, 18, 19, 44], [])), (13, ([2, 3], [15, 100015])), (14, ([5, 17, 18, 19], [])), (15, ([5, 17, 18, 19], [])), (16, ([2, 3], [15, 100015])), (1000004, ([5, 17, 18, 19], []))], dd := [(0, [[2]]), (1, [[0], [14]]), (3, [[4]]), (5, [[], [21]]), (6, [[], [24], [25], [], [], [23], [26], [27]]), (7, [[10]]), (8, [[7], [31]]), (9, [[5], [], [34]]), (10, [[8], [36]]), (11, [[], [], [39, 40], [41], [], [38], [12, 42]]), (13, [[5], [], [45]]), (14, [[], [11], [9], [49]]), (16, [[5], [52]])], sf := [25] }

/- errors.New -/
def c_errors_New : SFn := ⟨1,
    (.seq
      (.region [
        ⟨some 2, .mv (.k .nilI), none⟩] [0] [] [])
      (.seq
        (.region [
          ⟨some 3, .mv (.t 0), none⟩,
          ⟨some 4, .agg [(.str [])] [(0, 1, (.t 3))], none⟩,
          ⟨some 5, .box (.t 4), none⟩,
          ⟨some 6, .mkIfc 3 (.t 5), none⟩,
          ⟨some 2, .mv (.t 6), none⟩] [2] [] [[0], [3], [4], [5]])
        .ret)),
  [.t 2]⟩

def l_errors_New : Lay := { rg := [(0, ([0], [])), (1, ([2], []))], dd := [(1, [[0], [3], [4], [5]])] }

/- laws.FnDParams -/
def c_laws_FnDParams : SFn := ⟨1,
    (.seq
      (.region [
        ⟨some 2, .mv (.k (.bool false)), none⟩] [0] [] [])
      (.seq
        (.seq
          (.region [
            ⟨some 9, .mv (.t 0), none⟩,
            ⟨some 10, .len 0 (.t 9), none⟩,
            ⟨some 11, .bin .gtr (.t 10) (.k (.int .i64 2147483647)), none⟩] [0, 11] [] [[], [9]])
          (.cond (.t 11)
            (.seq
              (.region [
                ⟨some 2, .mv (.k (.bool true)), none⟩] [2] [] [])
              .ret)
            .skip))
        (.seq
          (.seq
            (.region [
              ⟨some 12, .mv (.t 0), none⟩,
              ⟨some 13, .mkSl 1 1 [(.str [])] [(0, (.t 12))], none⟩,
              ⟨some 14, .call 10 [(.k (.int .i64 2000)), (.t 13)], none⟩,
              ⟨some 15, .un .not (.t 14), none⟩] [0, 15] [13] [[], [12], [13]])
            (.cond (.t 15)
              (.seq
                (.region [
                  ⟨some 16, .call 11 [], none⟩,
                  ⟨some 2, .mv (.t 16), none⟩] [2] [] [])
                .ret)
              .skip))
          (.seq
            (.region [
              ⟨some 18, .mv (.t 0), none⟩,
              ⟨some 19, .call 51 [(.t 18)], none⟩,
              ⟨some 17, .mv (.t 19), none⟩,
              ⟨some 20, .extr (.t 17) 0, none⟩,
              ⟨some 21, .extr (.t 17) 1, none⟩,
              ⟨some 3, .mv (.t 20), none⟩,
              ⟨some 4, .mv (.t 21), none⟩] [0, 3, 4] [] [[], [18], [19], [], [17], [20]])
            (.seq
              (.region [
                ⟨some 23, .mv (.t 0), none⟩,
                ⟨some 24, .call 52 [(.t 23)], none⟩,
                ⟨some 22, .mv (.t 24), none⟩,
                ⟨some 25, .extr (.t 22) 0, none⟩,
                ⟨some 26, .extr (.t 22) 1, none⟩,
                ⟨some 5, .mv (.t 25), none⟩,
                ⟨some 6, .mv (.t 26), none⟩] [3, 4, 5, 6] [] [[0], [23], [24], [], [22], [25]])
              (.seq
                (.region [
                  ⟨some 28, .call 51 [(.k (.str [97, 61, 98, 59, 32, 99, 61, 100, 59]))], none⟩,
                  ⟨some 27, .mv (.t 28), none⟩,
                  ⟨some 29, .extr (.t 27) 0, none⟩,
                  ⟨some 30, .extr (.t 27) 1, none⟩,
                  ⟨some 7, .mv (.t 29), none⟩,
                  ⟨some 8, .mv (.t 30), none⟩] [3, 4, 5, 6, 7, 8] [] [[], [28], [], [27], [29]])
                (.seq
                  (.region [
                    ⟨some 31, .mv (.t 4), none⟩,
                    ⟨some 32, .mv (.t 6), none⟩,
                    ⟨some 33, .eqB false (.t 31) (.t 32), none⟩,
                    ⟨some 34, .mv (.t 33), none⟩,
                    ⟨some 35, .mv (.t 4), some (34, true)⟩,
                    ⟨some 36, .un .not (.t 35), some (34, true)⟩,
                    ⟨some 37, .mv (.t 36), some (34, true)⟩,
                    ⟨some 38, .mv (.t 3), some (37, false)⟩,
                    ⟨some 39, .mv (.t 5), some (37, false)⟩,
                    ⟨some 40, .call 53 [(.t 38), (.t 39)], some (37, false)⟩,
                    ⟨some 41, .pick (.t 37) (.k (.bool true)) (.t 40), some (34, true)⟩,
                    ⟨some 42, .pick (.t 34) (.t 41) (.k (.bool false)), none⟩,
                    ⟨some 43, .mv (.t 42), none⟩,
                    ⟨some 44, .mv (.t 8), some (43, true)⟩,
                    ⟨some 45, .pick (.t 43) (.t 44) (.k (.bool false)), none⟩,
                    ⟨some 46, .mv (.t 45), none⟩,
                    ⟨some 47, .mv (.t 7), some (46, true)⟩,
                    ⟨some 48, .len 1 (.t 47), some (46, true)⟩,
                    ⟨some 49, .bin .eql (.t 48) (.k (.int .i64 2)), some (46, true)⟩,
                    ⟨some 50, .pick (.t 46) (.t 49) (.k (.bool false)), none⟩,
                    ⟨some 2, .mv (.t 50), none⟩] [2] [] [[], [6], [31, 32], [33], [4], [35], [36], [3], [5], [38, 39], [37, 40], [34, 41], [42], [8], [43, 44], [45], [7], [47], [48], [46, 49]])
                  .ret))))))),
  [.t 2]⟩

def l_laws_FnDParams : Lay := { rg := [(0, ([0], [])), (1, ([0, 11], [])), (2, ([2], [])), (3, ([0, 15], [13])), (4, ([2], [])), (5, ([0, 3, 4], [])), (6, ([3, 4, 5, 6], [])), (7, ([3, 4, 5, 6, 7, 8], [])), (8, ([2], []))], dd := [(1, [[], [9]]), (3, [[], [12], [13]]), (5, [[], [18], [19], [], [17], [20]]), (6, [[0], [23], [24], [], [22], [25]]), (7, [[], [28], [], [27], [29]]), (8, [[], [6], [31, 32], [33], [4], [35], [36], [3], [5], [38, 39], [37, 40], [34, 41], [42], [8], [43, 44], [45], [7], [47], [48], [46, 49]])] }

/- spec.DTags -/
def b_spec_DTags_1 : SCode :=
  (.seq
    (.seq
      (.region [
        ⟨some 35, .mv (.t 11), none⟩,
        ⟨some 36, .mv (.t 4), none⟩,
        ⟨some 37, .len 1 (.t 36), none⟩,
        ⟨some 38, .bin .lss (.t 35) (.t 37), none⟩,
        ⟨some 39, .mv (.t 38), none⟩,
        ⟨some 40, .mv (.t 4), some (39, true)⟩,
        ⟨some 41, .mv (.t 11), some (39, true)⟩,
        ⟨some 42, .iAddr 2 (.t 40) (.t 41), some (39, true)⟩,
        ⟨some 43, .fAddr 0 (.t 42), some (39, true)⟩,
        ⟨some 44, .load none (.t 43), some (39, true)⟩,
        ⟨some 45, .fAddr 0 (.t 10), some (39, true)⟩,
        ⟨some 46, .load none (.t 45), some (39, true)⟩,
        ⟨some 47, .bin .lss (.t 44) (.t 46), some (39, true)⟩,
        ⟨some 48, .pick (.t 39) (.t 47) (.k (.bool false)), none⟩] [4, 10, 11, 13, 14, 15, 48] [] [])
      (.cond (.t 48)
        .skip
        (.exit 2)))
    (.block 3
      (.region [
        ⟨some 49, .mv (.t 11), none⟩,
        ⟨some 50, .bin .add (.t 49) (.k (.int .i64 1)), none⟩,
        ⟨some 11, .mv (.t 50), none⟩] [4, 10, 11, 13, 14, 15] [] [[], [49]])))

def t_spec_DTags_2 : SCode :=
  (.seq
    (.seq
      (.region [
        ⟨some 51, .mv (.t 11), none⟩,
        ⟨some 52, .mv (.t 4), none⟩,
        ⟨some 53, .len 1 (.t 52), none⟩,
        ⟨some 54, .bin .lss (.t 51) (.t 53), none⟩,
        ⟨some 55, .mv (.t 54), none⟩,
        ⟨some 56, .mv (.t 4), some (55, true)⟩,
        ⟨some 57, .mv (.t 11), some (55, true)⟩,
        ⟨some 58, .iAddr 2 (.t 56) (.t 57), some (55, true)⟩,
        ⟨some 59, .fAddr 0 (.t 58), some (55, true)⟩,
        ⟨some 60, .load none (.t 59), some (55, true)⟩,
        ⟨some 61, .fAddr 0 (.t 10), some (55, true)⟩,
        ⟨some 62, .load none (.t 61), some (55, true)⟩,
        ⟨some 63, .bin .eql (.t 60) (.t 62), some (55, true)⟩,
        ⟨some 64, .pick (.t 55) (.t 63) (.k (.bool false)), none⟩] [4, 10, 11, 13, 14, 15, 64] [] [])
      (.cond (.t 64)
        (.seq
          (.region [
            ⟨some 2, .mv (.k .nilS), none⟩,
            ⟨some 3, .mv (.k (.bool false)), none⟩] [2, 3] [] [])
          .ret)
        .skip))
    (.seq
    (.region [
      ⟨some 65, .mkSl 2 0 [(.str []), (.str [])] [], none⟩,
      ⟨some 66, .fl (.mv (.t 4)), none⟩,
      ⟨some 67, .fl (.mv (.t 11)), none⟩,
      ⟨some 68, .fl (.slSl 2 (.t 66) none (some (.t 67))), none⟩,
      ⟨some 69, .app 2 32 (.t 65) (.t 68), none⟩,
      ⟨some 70, .fl (.load (some 2) (.t 10)), none⟩,
      ⟨some 71, .fl (.mkSlF 2 1 [(.str []), (.str [])] [(0, (.t 70))]), none⟩,
      ⟨some 72, .app 2 32 (.t 69) (.t 71), none⟩,
      ⟨some 73, .fl (.mv (.t 4)), none⟩,
      ⟨some 74, .fl (.mv (.t 11)), none⟩,
      ⟨some 75, .fl (.slSl 2 (.t 73) (some (.t 74)) none), none⟩,
      ⟨some 76, .app 2 32 (.t 72) (.t 75), none⟩,
      ⟨some 4, .mv (.t 76), none⟩] [4, 13, 14, 15] [] [])
    (.ghost [.frz 72, .frz 76])))

def t_spec_DTags_3 : SCode :=
  (.region [
    ⟨some 77, .bin .add (.t 15) (.k (.int .i64 1)), none⟩,
    ⟨some 15, .mv (.t 77), none⟩] [4, 13, 14, 15] [] [])

def b_spec_DTags_4 : SCode :=
  (.seq
    (.region [
      ⟨some 16, .bin .lss (.t 15) (.t 14), none⟩] [4, 13, 14, 15, 16] [] [])
    (.seq
      (.cond (.t 16)
        .skip
        (.exit 0))
      (.seq
        (.block 1
          (.seq
            (.region [
              ⟨some 17, .iAddr 1 (.t 13) (.t 15), none⟩,
              ⟨some 18, .load none (.t 17), none⟩,
              ⟨some 6, .mv (.t 18), none⟩] [4, 6, 13, 14, 15] [] [[], [17]])
            (.seq
              (.region [
                ⟨some 20, .mv (.t 6), none⟩,
                ⟨some 21, .call 2 [(.t 20), (.k (.int .u8 61))], none⟩,
                ⟨some 19, .mv (.t 21), none⟩,
                ⟨some 22, .extr (.t 19) 0, none⟩,
                ⟨some 23, .extr (.t 19) 1, none⟩,
                ⟨some 24, .extr (.t 19) 2, none⟩,
                ⟨some 7, .mv (.t 22), none⟩,
                ⟨some 8, .mv (.t 23), none⟩,
                ⟨some 9, .mv (.t 24), none⟩] [4, 6, 7, 8, 9, 13, 14, 15] [] [[], [20], [21], [], [], [19], [22], [23]])
              (.seq
                (.seq
                  (.region [
                    ⟨some 25, .mv (.t 9), none⟩,
                    ⟨some 26, .un .not (.t 25), none⟩] [4, 6, 7, 8, 13, 14, 15, 26] [] [[9]])
                  (.cond (.t 26)
                    (.seq
                      (.seq
                        (.region [
                          ⟨some 27, .mv (.t 6), none⟩,
                          ⟨some 28, .call 3 [(.t 27)], none⟩,
                          ⟨some 29, .bin .neq (.t 28) (.k (.str [])), none⟩] [4, 13, 14, 15, 29] [] [[6], [27]])
                        (.cond (.t 29)
                          (.seq
                            (.region [
                              ⟨some 2, .mv (.k .nilS), none⟩,
                              ⟨some 3, .mv (.k (.bool false)), none⟩] [2, 3] [] [])
                            .ret)
                          .skip))
                      (.exit 1))
                    .skip))
                (.seq
                  (.seq
                  (.region [
                    ⟨some 30, .mv (.t 7), none⟩,
                    ⟨some 31, .call 3 [(.t 30)], none⟩,
                    ⟨some 32, .mv (.t 8), none⟩,
                    ⟨some 33, .call 3 [(.t 32)], none⟩,
                    ⟨some 34, .agg [(.str []), (.str [])] [(0, 1, (.t 31)), (1, 1, (.t 33))], none⟩,
                    ⟨some 10, .alloc [(.str []), (.str [])], none⟩,
                    ⟨none, .store 2 (.t 10) (.t 34), none⟩] [4, 10, 13, 14, 15] [] [[7], [30], [8], [32], [31, 33]])
                  (.ghost [.frz 10]))
                  (.seq
                    (.region [
                      ⟨some 11, .mv (.k (.int .i64 0)), none⟩] [4, 10, 11, 13, 14, 15] [] [])
                    (.seq
                      (.block 2
                        (.loop [4, 10, 11, 13, 14, 15]
                          b_spec_DTags_1))
                      t_spec_DTags_2)))))))
        t_spec_DTags_3)))

def t_spec_DTags_5 : SCode :=
  (.seq
    (.region [
      ⟨some 78, .mv (.t 4), none⟩,
      ⟨some 2, .mv (.t 78), none⟩,
      ⟨some 3, .mv (.k (.bool true)), none⟩] [2, 3] [] [[4], [78]])
    .ret)

def c_spec_DTags : SFn := ⟨1,
    (.seq
      (.region [
        ⟨some 2, .mv (.k .nilS), none⟩,
        ⟨some 3, .mv (.k (.bool false)), none⟩] [0] [] [[2]])
      (.seq
        (.region [
          ⟨some 4, .mv (.k .nilS), none⟩] [0, 4] [] [])
        (.seq
          (.seq
            (.region [
              ⟨some 12, .mv (.t 0), none⟩,
              ⟨some 13, .call 54 [(.t 12), (.k (.int .u8 59))], none⟩,
              ⟨some 14, .len 1 (.t 13), none⟩,
              ⟨some 15, .mv (.k (.int .i64 0)), none⟩] [4, 13, 14, 15] [] [[0], [12]])
            (.block 0
              (.loop [4, 13, 14, 15]
                b_spec_DTags_4)))
          t_spec_DTags_5))),
  [.t 2, .t 3]⟩

def l_spec_DTags : Lay := { rg := [(0, ([0], [])), (1, ([0, 4], [])), (2, ([4, 13, 14, 15], [])), (3, ([4, 13, 14, 15, 16], [])), (4, ([4, 6, 13, 14, 15], [])), (5, ([4, 6, 7, 8, 9, 13, 14, 15], [])), (6, ([4, 6, 7, 8, 13, 14, 15, 26], [])), (7, ([4, 13, 14, 15, 29], [])), (8, ([2, 3], [])), (9, ([4, 10, 13, 14, 15], [])), (10, ([4, 10, 11, 13, 14, 15], [])), (11, ([4, 10, 11, 13, 14, 15, 48], [])), (12, ([4, 10, 11, 13, 14, 15], [])), (13, ([4, 10, 11, 13, 14, 15, 64], [])), (14, ([2, 3], [])), (15, ([4, 13, 14, 15], [])), (16, ([4, 13, 14, 15], [])), (17, ([2, 3], [])), (1000003, ([4, 13, 14, 15], [])), (1000011, ([4, 10, 11, 13, 14, 15], []))], dd := [(0, [[2]]), (2, [[0], [12]]), (4, [[], [17]]), (5, [[], [20], [21], [], [], [19], [22], [23]]), (6, [[9]]), (7, [[6], [27]]), (9, [[7], [30], [8], [32], [31, 33]]), (12, [[], [49]]), (17, [[4], [78]])], gh := [(9, [.frz 10]), (15, [.frz 72, .frz 76])], fz := [71], fl := [66, 67, 68, 70, 71, 73, 74, 75] }

end Wax

/- Functions as the abstract machine has them. -/
namespace Wax
open Go (IntKind)

/- dkim.zzCut2 -/
def b_dkim_zzCut2_1 : SCode :=
  (.seq
    (.seq
      (.region [
        ⟨some 6, .mv (.t 5), none⟩,
        ⟨some 7, .mv (.t 0), none⟩,
        ⟨some 8, .len 0 (.t 7), none⟩,
        ⟨some 9, .bin .lss (.t 6) (.t 8), none⟩] [0, 1, 5, 9] [] [[], [], [7]])
      (.cond (.t 9)
        .skip
        (.exit 0)))
    (.seq
      (.block 1
        (.seq
          (.region [
            ⟨some 12, .mv (.t 0), none⟩,
            ⟨some 13, .mv (.t 5), none⟩,
            ⟨some 14, .iStr (.t 12) (.t 13), none⟩,
            ⟨some 15, .mv (.t 1), none⟩,
            ⟨some 16, .bin .eql (.t 14) (.t 15), none⟩] [0, 1, 5, 16] [] [[], [], [12, 13]])
          (.cond (.t 16)
            (.seq
              (.region [
                ⟨some 17, .mv (.t 0), none⟩,
                ⟨some 18, .mv (.t 5), none⟩,
                ⟨some 19, .slStr (.t 17) none (some (.t 18)), none⟩,
                ⟨some 20, .mv (.t 0), none⟩,
                ⟨some 21, .mv (.t 5), none⟩,
                ⟨some 22, .bin .add (.t 21) (.k (.int .i64 1)), none⟩,
                ⟨some 23, .slStr (.t 20) (some (.t 22)) none, none⟩,
                ⟨some 24, .mkSl 1 2 [(.str [])] [(0, (.t 19)), (1, (.t 23))], none⟩,
                ⟨some 4, .mv (.t 24), none⟩] [4] [] [])
              .ret)
            .skip)))
      (.region [
        ⟨some 10, .mv (.t 5), none⟩,
        ⟨some 11, .bin .add (.t 10) (.k (.int .i64 1)), none⟩,
        ⟨some 5, .mv (.t 11), none⟩] [0, 1, 5] [] [[], [10]])))

def t_dkim_zzCut2_2 : SCode :=
  (.seq
    (.region [
      ⟨some 25, .mv (.t 0), none⟩,
      ⟨some 26, .mkSl 1 1 [(.str [])] [(0, (.t 25))], none⟩,
      ⟨some 4, .mv (.t 26), none⟩] [4] [] [[0], [25]])
    .ret)

def c_dkim_zzCut2 : SFn := ⟨2,
    (.seq
      (.region [
        ⟨some 4, .mv (.k .nilS), none⟩] [0, 1] [] [])
      (.seq
        (.seq
          (.region [
            ⟨some 5, .mv (.k (.int .i64 0)), none⟩] [0, 1, 5] [] [])
          (.block 0
            (.loop [0, 1, 5]
              b_dkim_zzCut2_1)))
        t_dkim_zzCut2_2)),
  [.t 4]⟩

def l_dkim_zzCut2 : Lay := { rg := [(0, ([0, 1], [])), (1, ([0, 1, 5], [])), (2, ([0, 1, 5, 9], [])), (3, ([0, 1, 5], [])), (4, ([0, 1, 5, 16], [])), (5, ([4], [])), (6, ([4], [])), (1000002, ([0, 1, 5], []))], dd := [(2, [[], [], [7]]), (3, [[], [10]]), (4, [[], [], [12, 13]]), (6, [[0], [25]])] }

/- dkim.parseCanonicalization -/
def c_dkim_parseCanonicalization : SFn := ⟨1,
    (.seq
      (.region [
        ⟨some 2, .mv (.k (.str [])), none⟩,
        ⟨some 3, .mv (.k (.str [])), none⟩] [0] [] [[2]])
      (.seq
        (.region [
          ⟨some 2, .mv (.k (.str [115, 105, 109, 112, 108, 101])), none⟩] [0, 2] [] [])
        (.seq
          (.region [
            ⟨some 3, .mv (.k (.str [115, 105, 109, 112, 108, 101])), none⟩] [0, 2, 3] [] [])
          (.seq
            (.region [
              ⟨some 5, .mv (.t 0), none⟩,
              ⟨some 6, .call 26 [(.t 5)], none⟩,
              ⟨some 7, .call 57 [(.t 6), (.k (.int .u8 47))], none⟩,
              ⟨some 4, .mv (.t 7), none⟩] [2, 3, 4] [] [[0], [5], [6]])
            (.seq
              (.seq
                (.region [
                  ⟨some 8, .mv (.t 4), none⟩,
                  ⟨some 9, .iAddr 1 (.t 8) (.k (.int .i64 0)), none⟩,
                  ⟨some 10, .load none (.t 9), none⟩,
                  ⟨some 11, .bin .neq (.t 10) (.k (.str [])), none⟩] [2, 3, 4, 11] [] [[], [8], [9]])
                (.cond (.t 11)
                  (.region [
                    ⟨some 12, .mv (.t 4), none⟩,
                    ⟨some 13, .iAddr 1 (.t 12) (.k (.int .i64 0)), none⟩,
                    ⟨some 14, .load none (.t 13), none⟩,
                    ⟨some 2, .mv (.t 14), none⟩] [2, 3, 4] [] [[], [12], [13]])
                  .skip))
              (.seq
                (.seq
                  (.region [
                    ⟨some 15, .mv (.t 4), none⟩,
                    ⟨some 16, .len 1 (.t 15), none⟩,
                    ⟨some 17, .bin .gtr (.t 16) (.k (.int .i64 1)), none⟩] [2, 3, 4, 17] [] [[], [15]])
                  (.cond (.t 17)
                    (.region [
                      ⟨some 18, .mv (.t 4), none⟩,
                      ⟨some 19, .iAddr 1 (.t 18) (.k (.int .i64 1)), none⟩,
                      ⟨some 20, .load none (.t 19), none⟩,
                      ⟨some 3, .mv (.t 20), none⟩] [2, 3] [] [[4], [18], [19]])
                    .skip))
                .ret)))))),
  [.t 2, .t 3]⟩

def l_dkim_parseCanonicalization : Lay := { rg := [(0, ([0], [])), (1, ([0, 2], [])), (2, ([0, 2, 3], [])), (3, ([2, 3, 4], [])), (4, ([2, 3, 4, 11], [])), (5, ([2, 3, 4], [])), (6, ([2, 3, 4, 17], [])), (7, ([2, 3], []))], dd := [(0, [[2]]), (3, [[0], [5], [6]]), (4, [[], [8], [9]]), (5, [[], [12], [13]]), (6, [[], [15]]), (7, [[4], [18], [19]])] }

/- dkim.Forms -/
def c_dkim_Forms : SFn := ⟨1,
    (.seq
      (.region [
        ⟨some 2, .mv (.k (.str [])), none⟩,
        ⟨some 3, .mv (.k (.str [])), none⟩] [0] [] [[2]])
      (.seq
        (.region [
          ⟨some 4, .mv (.t 0), none⟩,
          ⟨some 5, .call 58 [(.t 4)], none⟩,
          ⟨some 6, .extr (.t 5) 0, none⟩,
          ⟨some 7, .extr (.t 5) 1, none⟩,
          ⟨some 2, .mv (.t 6), none⟩,
          ⟨some 3, .mv (.t 7), none⟩] [2, 3] [] [[0], [4], [], [5], [6]])
        .ret)),
  [.t 2, .t 3]⟩

def l_dkim_Forms : Lay := { rg := [(0, ([0], [])), (1, ([2, 3], []))], dd := [(0, [[2]]), (1, [[0], [4], [], [5], [6]])] }

/- impl.DForms -/
def c_impl_DForms : SFn := ⟨1,
    (.seq
      (.region [
        ⟨some 2, .mv (.k (.str [])), none⟩,
        ⟨some 3, .mv (.k (.str [])), none⟩,
        ⟨some 4, .mv (.k (.bool false)), none⟩] [0] [] [[2], [3]])
      (.seq
        (.region [
          ⟨some 12, .mv (.t 0), none⟩,
          ⟨some 13, .call 59 [(.t 12)], none⟩,
          ⟨some 11, .mv (.t 13), none⟩,
          ⟨some 14, .extr (.t 11) 0, none⟩,
          ⟨some 15, .extr (.t 11) 1, none⟩,
          ⟨some 5, .mv (.t 14), none⟩,
          ⟨some 6, .mv (.t 15), none⟩] [5, 6] [] [[0], [12], [13], [], [11], [14]])
        (.seq
          (.region [
            ⟨some 17, .mv (.t 5), none⟩,
            ⟨some 18, .call 13 [(.t 17), (.k (.str []))], none⟩,
            ⟨some 16, .mv (.t 18), none⟩,
            ⟨some 19, .extr (.t 16) 0, none⟩,
            ⟨some 20, .extr (.t 16) 1, none⟩,
            ⟨some 7, .mv (.t 19), none⟩,
            ⟨some 8, .mv (.t 20), none⟩] [5, 6, 8] [] [[], [17], [18], [], [16], [7, 19]])
          (.seq
            (.region [
              ⟨some 22, .mv (.t 6), none⟩,
              ⟨some 23, .call 13 [(.t 22), (.k (.str []))], none⟩,
              ⟨some 21, .mv (.t 23), none⟩,
              ⟨some 24, .extr (.t 21) 0, none⟩,
              ⟨some 25, .extr (.t 21) 1, none⟩,
              ⟨some 9, .mv (.t 24), none⟩,
              ⟨some 10, .mv (.t 25), none⟩] [5, 6, 8, 10] [] [[], [22], [23], [], [21], [9, 24]])
            (.seq
              (.region [
                ⟨some 26, .mv (.t 5), none⟩,
                ⟨some 27, .mv (.t 6), none⟩,
                ⟨some 28, .mv (.t 8), none⟩,
                ⟨some 29, .mv (.t 28), none⟩,
                ⟨some 30, .mv (.t 10), some (29, true)⟩,
                ⟨some 31, .pick (.t 29) (.t 30) (.k (.bool false)), none⟩,
                ⟨some 2, .mv (.t 26), none⟩,
                ⟨some 3, .mv (.t 27), none⟩,
                ⟨some 4, .mv (.t 31), none⟩] [2, 3, 4] [] [[5], [6], [8], [28], [10], [29, 30], [26], [27]])
              .ret))))),
  [.t 2, .t 3, .t 4]⟩

def l_impl_DForms : Lay := { rg := [(0, ([0], [])), (1, ([5, 6], [])), (2, ([5, 6, 8], [])), (3, ([5, 6, 8, 10], [])), (4, ([2, 3, 4], []))], dd := [(0, [[2], [3]]), (1, [[0], [12], [13], [], [11], [14]]), (2, [[], [17], [18], [], [16], [7, 19]]), (3, [[], [22], [23], [], [21], [9, 24]]), (4, [[5], [6], [8], [28], [10], [29, 30], [26], [27]])] }

/- spec.DFormsOf$1 -/
def c_spec_DFormsOf_1 : SFn := ⟨1,
    (.seq
      (.region [
        ⟨some 2, .mv (.k (.bool false)), none⟩] [0] [] [])
      (.seq
        (.region [
          ⟨some 3, .mv (.t 0), none⟩,
          ⟨some 4, .bin .eql (.t 3) (.k (.str [115, 105, 109, 112, 108, 101])), none⟩,
          ⟨some 5, .mv (.t 4), none⟩,
          ⟨some 6, .mv (.t 0), some (5, false)⟩,
          ⟨some 7, .bin .eql (.t 6) (.k (.str [114, 101, 108, 97, 120, 101, 100])), some (5, false)⟩,
          ⟨some 8, .pick (.t 5) (.k (.bool true)) (.t 7), none⟩,
          ⟨some 2, .mv (.t 8), none⟩] [2] [] [[], [3], [4], [0], [6], [5, 7]])
        .ret)),
  [.t 2]⟩

def l_spec_DFormsOf_1 : Lay := { rg := [(0, ([0], [])), (1, ([2], []))], dd := [(1, [[], [3], [4], [0], [6], [5, 7]])] }

/- spec.DFormsOf -/
def c_spec_DFormsOf : SFn := ⟨1,
    (.seq
      (.region [
        ⟨some 2, .mv (.k (.str [])), none⟩,
        ⟨some 3, .mv (.k (.str [])), none⟩,
        ⟨some 4, .mv (.k (.bool false)), none⟩] [0] [] [[2], [3]])
      (.seq
        (.region [
          ⟨some 10, .mv (.t 0), none⟩,
          ⟨some 11, .call 27 [(.t 10)], none⟩,
          ⟨some 12, .call 2 [(.t 11), (.k (.int .u8 47))], none⟩,
          ⟨some 9, .mv (.t 12), none⟩,
          ⟨some 13, .extr (.t 9) 0, none⟩,
          ⟨some 14, .extr (.t 9) 1, none⟩,
          ⟨some 15, .extr (.t 9) 2, none⟩,
          ⟨some 5, .mv (.t 13), none⟩,
          ⟨some 6, .mv (.t 14), none⟩,
          ⟨some 7, .mv (.t 15), none⟩] [5, 6, 7] [] [[0], [10], [11], [12], [], [], [9], [13], [14]])
        (.seq
          (.seq
            (.region [
              ⟨some 16, .mv (.t 5), none⟩,
              ⟨some 17, .bin .eql (.t 16) (.k (.str [])), none⟩] [5, 6, 7, 17] [] [])
            (.cond (.t 17)
              (.region [
                ⟨some 5, .mv (.k (.str [115, 105, 109, 112, 108, 101])), none⟩] [5, 6, 7] [] [])
              .skip))
          (.seq
            (.seq
              (.region [
                ⟨some 18, .mv (.t 7), none⟩,
                ⟨some 19, .un .not (.t 18), none⟩] [5, 6, 19] [] [[7]])
              (.cond (.t 19)
                (.region [
                  ⟨some 6, .mv (.k (.str [115, 105, 109, 112, 108, 101])), none⟩] [5, 6] [] [])
                .skip))
            (.seq
              (.region [
                ⟨some 8, .mv (.k (.fn 60 [])), none⟩] [5, 6, 8] [] [])
              (.seq
                (.region [
                  ⟨some 20, .mv (.t 5), none⟩,
                  ⟨some 21, .mv (.t 6), none⟩,
                  ⟨some 22, .mv (.t 8), none⟩,
                  ⟨some 23, .mv (.t 5), none⟩,
                  ⟨some 24, .callV (.t 22) [(.t 23)], none⟩,
                  ⟨some 25, .mv (.t 24), none⟩,
                  ⟨some 26, .mv (.t 8), some (25, true)⟩,
                  ⟨some 27, .mv (.t 6), some (25, true)⟩,
                  ⟨some 28, .callV (.t 26) [(.t 27)], some (25, true)⟩,
                  ⟨some 29, .pick (.t 25) (.t 28) (.k (.bool false)), none⟩,
                  ⟨some 2, .mv (.t 20), none⟩,
                  ⟨some 3, .mv (.t 21), none⟩,
                  ⟨some 4, .mv (.t 29), none⟩] [2, 3, 4] [] [[], [], [], [5], [22, 23], [24], [8], [6], [26, 27], [25, 28], [20], [21]])
                .ret)))))),
  [.t 2, .t 3, .t 4]⟩

def l_spec_DFormsOf : Lay := { rg := [(0, ([0], [])), (1, ([5, 6, 7], [])), (2, ([5, 6, 7, 17], [])), (3, ([5, 6, 7], [])), (4, ([5, 6, 19], [])), (5, ([5, 6], [])), (6, ([5, 6, 8], [])), (7, ([2, 3, 4], []))], dd := [(0, [[2], [3]]), (1, [[0], [10], [11], [12], [], [], [9], [13], [14]]), (4, [[7]]), (7, [[], [], [], [5], [22, 23], [24], [8], [6], [26, 27], [25, 28], [20], [21]])] }

/- spec.DParts -/
def c_spec_DParts : SFn := ⟨1,
    (.seq
      (.region [
        ⟨some 2, .mv (.k .nilS), none⟩] [0] [] [])
      (.seq
        (.region [
          ⟨some 3, .mv (.t 0), none⟩,
          ⟨some 4, .call 27 [(.t 3)], none⟩,
          ⟨some 5, .call 54 [(.t 4), (.k (.int .u8 58))], none⟩,
          ⟨some 2, .mv (.t 5), none⟩] [2] [] [[0], [3], [4]])
        .ret)),
  [.t 2]⟩

def l_spec_DParts : Lay := { rg := [(0, ([0], [])), (1, ([2], []))], dd := [(1, [[0], [3], [4]])] }

/- dkim.Unix -/
def c_dkim_Unix : SFn := ⟨1,
    (.seq
      (.region [
        ⟨some 2, .alloc [(.int .i64 0), (.bool false)], none⟩] [0, 2] [] [])
      (.seq
        (.region [
          ⟨some 3, .mv (.t 0), none⟩,
          ⟨some 4, .agg [(.int .i64 0), (.bool false)] [(0, 1, (.t 3)), (1, 1, (.k (.bool true)))], none⟩,
          ⟨none, .store 2 (.t 2) (.t 4), none⟩] [2] [] [[0], [3]])
        .ret)),
  [.c (some 2) 2]⟩

def l_dkim_Unix : Lay := { rg := [(0, ([0, 2], [])), (1, ([2], []))], dd := [(1, [[0], [3]])] }

/- dkim.parseTime -/
def c_dkim_parseTime : SFn := ⟨1,
    (.seq
      (.region [
        ⟨some 2, .alloc [(.int .i64 0), (.bool false)], none⟩,
        ⟨some 3, .mv (.k .nilI), none⟩] [0, 2] [] [])
      (.seq
        (.region [
          ⟨some 7, .mv (.t 0), none⟩,
          ⟨some 8, .call 26 [(.t 7)], none⟩,
          ⟨some 9, .call 61 [(.t 8), (.k (.int .i64 10)), (.k (.int .i64 64))], none⟩,
          ⟨some 6, .mv (.t 9), none⟩,
          ⟨some 10, .extr (.t 6) 0, none⟩,
          ⟨some 11, .extr (.t 6) 1, none⟩,
          ⟨some 4, .mv (.t 10), none⟩,
          ⟨some 5, .mv (.t 11), none⟩] [2, 4, 5] [] [[0], [7], [8], [9], [], [6], [10]])
        (.seq
          (.seq
            (.region [
              ⟨some 12, .mv (.t 5), none⟩,
              ⟨some 13, .isNil 0 true (.t 12), none⟩] [2, 4, 5, 13] [] [])
            (.cond (.t 13)
              (.seq
                (.region [
                  ⟨some 14, .agg [(.int .i64 0), (.bool false)] [], none⟩,
                  ⟨some 15, .mv (.t 5), none⟩,
                  ⟨none, .store 2 (.t 2) (.t 14), none⟩,
                  ⟨some 3, .mv (.t 15), none⟩] [2, 3] [] [[], [5], [14]])
                .ret)
              .skip))
          (.seq
            (.region [
              ⟨some 16, .mv (.t 4), none⟩,
              ⟨some 17, .call 62 [(.t 16)], none⟩,
              ⟨none, .store 2 (.t 2) (.t 17), none⟩,
              ⟨some 3, .mv (.k .nilI), none⟩] [2, 3] [] [[4], [16], [17]])
            .ret)))),
  [.c (some 2) 2, .t 3]⟩

def l_dkim_parseTime : Lay := { rg := [(0, ([0, 2], [])), (1, ([2, 4, 5], [])), (2, ([2, 4, 5, 13], [])), (3, ([2, 3], [])), (4, ([2, 3], []))], dd := [(1, [[0], [7], [8], [9], [], [6], [10]]), (3, [[], [5], [14]]), (4, [[4], [16], [17]])] }

/- dkim.Number -/
def c_dkim_Number : SFn := ⟨1,
    (.seq
      (.region [
        ⟨some 2, .alloc [(.int .i64 0), (.bool false)], none⟩,
        ⟨some 3, .mv (.k .nilI), none⟩] [0, 2] [] [])
      (.seq
        (.region [
          ⟨some 4, .mv (.t 0), none⟩,
          ⟨some 5, .call 63 [(.t 4)], none⟩,
          ⟨some 6, .extr (.t 5) 0, none⟩,
          ⟨some 7, .extr (.t 5) 1, none⟩,
          ⟨none, .store 2 (.t 2) (.t 6), none⟩,
          ⟨some 3, .mv (.t 7), none⟩] [2, 3] [] [[0], [4], [], [5], [6]])
        .ret)),
  [.c (some 2) 2, .t 3]⟩

def l_dkim_Number : Lay := { rg := [(0, ([0, 2], [])), (1, ([2, 3], []))], dd := [(1, [[0], [4], [], [5], [6]])] }

/- dkim.Time).Unix -/
def c_dkim_Time_Unix : SFn := ⟨1,
    (.seq
      (.region [
        ⟨some 1, .box (.t 0), none⟩,
        ⟨some 2, .mv (.k (.int .i64 0)), none⟩] [1] [] [[0]])
      (.seq
        (.region [
          ⟨some 3, .fAddr 0 (.t 1), none⟩,
          ⟨some 4, .load none (.t 3), none⟩,
          ⟨some 2, .mv (.t 4), none⟩] [2] [1] [[1], [3]])
        .ret)),
  [.t 2]⟩

def l_dkim_Time_Unix : Lay := { rg := [(0, ([1], [])), (1, ([2], [1]))], dd := [(0, [[0]]), (1, [[1], [3]])] }

/- impl.DNumber -/
def c_impl_DNumber : SFn := ⟨1,
    (.seq
      (.region [
        ⟨some 2, .mv (.k (.int .i64 0)), none⟩,
        ⟨some 3, .mv (.k (.bool false)), none⟩] [0] [] [[2]])
      (.seq
        (.region [
          ⟨some 7, .mv (.t 0), none⟩,
          ⟨some 8, .call 64 [(.t 7)], none⟩,
          ⟨some 6, .mv (.t 8), none⟩,
          ⟨some 9, .extr (.t 6) 0, none⟩,
          ⟨some 10, .extr (.t 6) 1, none⟩,
          ⟨some 4, .alloc [(.int .i64 0), (.bool false)], none⟩,
          ⟨none, .store 2 (.t 4) (.t 9), none⟩,
          ⟨some 5, .mv (.t 10), none⟩] [4, 5] [] [[0], [7], [8], [], [6], [], [9]])
        (.seq
          (.seq
            (.region [
              ⟨some 11, .mv (.t 5), none⟩,
              ⟨some 12, .isNil 0 true (.t 11), none⟩] [4, 12] [] [[5]])
            (.cond (.t 12)
              (.seq
                (.region [
                  ⟨some 2, .mv (.k (.int .i64 0)), none⟩,
                  ⟨some 3, .mv (.k (.bool false)), none⟩] [2, 3] [4] [])
                .ret)
              .skip))
          (.seq
            (.region [
              ⟨some 13, .load (some 2) (.t 4), none⟩,
              ⟨some 14, .call 65 [(.t 13)], none⟩,
              ⟨some 2, .mv (.t 14), none⟩,
              ⟨some 3, .mv (.k (.bool true)), none⟩] [2, 3] [4] [[4], [13], [14]])
            .ret)))),
  [.t 2, .t 3]⟩

def l_impl_DNumber : Lay := { rg := [(0, ([0], [])), (1, ([4, 5], [])), (2, ([4, 12], [])), (3, ([2, 3], [4])), (4, ([2, 3], [4]))], dd := [(0, [[2]]), (1, [[0], [7], [8], [], [6], [], [9]]), (2, [[5]]), (4, [[4], [13], [14]])] }

/- spec.DWhole -/
def b_spec_DWhole_1 : SCode :=
  (.seq
    (.seq
      (.region [
        ⟨some 32, .mv (.t 7), none⟩,
        ⟨some 33, .mv (.t 4), none⟩,
        ⟨some 34, .len 0 (.t 33), none⟩,
        ⟨some 35, .bin .lss (.t 32) (.t 34), none⟩] [4, 5, 6, 7, 35] [] [[], [], [33]])
      (.cond (.t 35)
        .skip
        (.exit 0)))
    (.seq
      (.block 1
        (.seq
          (.region [
            ⟨some 38, .mv (.t 4), none⟩,
            ⟨some 39, .mv (.t 7), none⟩,
            ⟨some 40, .iStr (.t 38) (.t 39), none⟩,
            ⟨some 41, .cInt .u64 (.t 40), none⟩,
            ⟨some 42, .bin .sub (.t 41) (.k (.int .u64 48)), none⟩,
            ⟨some 8, .mv (.t 42), none⟩] [4, 5, 6, 7, 8] [] [[], [], [38, 39], [40], [41]])
          (.seq
            (.seq
              (.region [
                ⟨some 43, .mv (.t 4), none⟩,
                ⟨some 44, .mv (.t 7), none⟩,
                ⟨some 45, .iStr (.t 43) (.t 44), none⟩,
                ⟨some 46, .bin .lss (.t 45) (.k (.int .u8 48)), none⟩,
                ⟨some 47, .mv (.t 46), none⟩,
                ⟨some 48, .mv (.t 4), some (47, false)⟩,
                ⟨some 49, .mv (.t 7), some (47, false)⟩,
                ⟨some 50, .iStr (.t 48) (.t 49), some (47, false)⟩,
                ⟨some 51, .bin .gtr (.t 50) (.k (.int .u8 57)), some (47, false)⟩,
                ⟨some 52, .pick (.t 47) (.k (.bool true)) (.t 51), none⟩,
                ⟨some 53, .mv (.t 52), none⟩,
                ⟨some 54, .mv (.t 6), some (53, false)⟩,
                ⟨some 55, .mv (.t 8), some (53, false)⟩,
                ⟨some 56, .bin .sub (.k (.int .u64 9223372036854775808)) (.t 55), some (53, false)⟩,
                ⟨some 57, .bin .quo (.t 56) (.k (.int .u64 10)), some (53, false)⟩,
                ⟨some 58, .bin .gtr (.t 54) (.t 57), some (53, false)⟩,
                ⟨some 59, .pick (.t 53) (.k (.bool true)) (.t 58), none⟩] [4, 5, 6, 7, 8, 59] [] [[], [], [43, 44], [45], [46], [], [], [48, 49], [50], [47, 51], [52], [], [], [55], [56], [54, 57]])
              (.cond (.t 59)
                (.seq
                  (.region [
                    ⟨some 2, .mv (.k (.int .i64 0)), none⟩,
                    ⟨some 3, .mv (.k (.bool false)), none⟩] [2, 3] [] [])
                  .ret)
                .skip))
            (.region [
              ⟨some 60, .mv (.t 6), none⟩,
              ⟨some 61, .bin .mul (.t 60) (.k (.int .u64 10)), none⟩,
              ⟨some 62, .mv (.t 8), none⟩,
              ⟨some 63, .bin .add (.t 61) (.t 62), none⟩,
              ⟨some 6, .mv (.t 63), none⟩] [4, 5, 6, 7] [] [[], [60], [8], [61, 62]]))))
      (.region [
        ⟨some 36, .mv (.t 7), none⟩,
        ⟨some 37, .bin .add (.t 36) (.k (.int .i64 1)), none⟩,
        ⟨some 7, .mv (.t 37), none⟩] [4, 5, 6, 7] [] [[], [36]])))

def t_spec_DWhole_2 : SCode :=
  (.seq
    (.seq
      (.region [
        ⟨some 64, .mv (.t 4), none⟩,
        ⟨some 65, .bin .eql (.t 64) (.k (.str [])), none⟩,
        ⟨some 66, .mv (.t 65), none⟩,
        ⟨some 67, .mv (.t 5), some (66, false)⟩,
        ⟨some 68, .un .not (.t 67), some (66, false)⟩,
        ⟨some 69, .mv (.t 68), some (66, false)⟩,
        ⟨some 70, .mv (.t 6), some (69, true)⟩,
        ⟨some 71, .bin .eql (.t 70) (.k (.int .u64 9223372036854775808)), some (69, true)⟩,
        ⟨some 72, .pick (.t 69) (.t 71) (.k (.bool false)), some (66, false)⟩,
        ⟨some 73, .pick (.t 66) (.k (.bool true)) (.t 72), none⟩] [5, 6, 73] [] [[4], [64], [65], [], [67], [68], [], [70], [69, 71]])
      (.cond (.t 73)
        (.seq
          (.region [
            ⟨some 2, .mv (.k (.int .i64 0)), none⟩,
            ⟨some 3, .mv (.k (.bool false)), none⟩] [2, 3] [] [])
          .ret)
        .skip))
    (.seq
      (.seq
        (.region [
          ⟨some 74, .mv (.t 5), none⟩] [6, 74] [] [])
        (.cond (.t 74)
          (.seq
            (.region [
              ⟨some 75, .mv (.t 6), none⟩,
              ⟨some 76, .un .neg (.t 75), none⟩,
              ⟨some 77, .cInt .i64 (.t 76), none⟩,
              ⟨some 2, .mv (.t 77), none⟩,
              ⟨some 3, .mv (.k (.bool true)), none⟩] [2, 3] [] [[6], [75], [76], [77]])
            .ret)
          .skip))
      (.seq
        (.region [
          ⟨some 78, .mv (.t 6), none⟩,
          ⟨some 79, .cInt .i64 (.t 78), none⟩,
          ⟨some 2, .mv (.t 79), none⟩,
          ⟨some 3, .mv (.k (.bool true)), none⟩] [2, 3] [] [[6], [78], [79]])
        .ret)))

def c_spec_DWhole : SFn := ⟨1,
    (.seq
      (.region [
        ⟨some 2, .mv (.k (.int .i64 0)), none⟩,
        ⟨some 3, .mv (.k (.bool false)), none⟩] [0] [] [[2]])
      (.seq
        (.region [
          ⟨some 9, .mv (.t 0), none⟩,
          ⟨some 10, .call 27 [(.t 9)], none⟩,
          ⟨some 4, .mv (.t 10), none⟩] [4] [] [[0], [9]])
        (.seq
          (.region [
            ⟨some 11, .mv (.t 4), none⟩,
            ⟨some 12, .bin .neq (.t 11) (.k (.str [])), none⟩,
            ⟨some 13, .mv (.t 12), none⟩,
            ⟨some 14, .mv (.t 4), some (13, true)⟩,
            ⟨some 15, .iStr (.t 14) (.k (.int .i64 0)), some (13, true)⟩,
            ⟨some 16, .bin .eql (.t 15) (.k (.int .u8 45)), some (13, true)⟩,
            ⟨some 17, .pick (.t 13) (.t 16) (.k (.bool false)), none⟩,
            ⟨some 5, .mv (.t 17), none⟩] [4, 5] [] [[], [11], [12], [], [14], [15], [13, 16]])
          (.seq
            (.seq
              (.region [
                ⟨some 18, .mv (.t 4), none⟩,
                ⟨some 19, .bin .neq (.t 18) (.k (.str [])), none⟩,
                ⟨some 20, .mv (.t 19), none⟩,
                ⟨some 21, .mv (.t 4), some (20, true)⟩,
                ⟨some 22, .iStr (.t 21) (.k (.int .i64 0)), some (20, true)⟩,
                ⟨some 23, .bin .eql (.t 22) (.k (.int .u8 45)), some (20, true)⟩,
                ⟨some 24, .mv (.t 23), some (20, true)⟩,
                ⟨some 25, .mv (.t 4), some (24, false)⟩,
                ⟨some 26, .iStr (.t 25) (.k (.int .i64 0)), some (24, false)⟩,
                ⟨some 27, .bin .eql (.t 26) (.k (.int .u8 43)), some (24, false)⟩,
                ⟨some 28, .pick (.t 24) (.k (.bool true)) (.t 27), some (20, true)⟩,
                ⟨some 29, .pick (.t 20) (.t 28) (.k (.bool false)), none⟩] [4, 5, 29] [] [[], [18], [19], [], [21], [22], [23], [], [25], [26], [24, 27]])
              (.cond (.t 29)
                (.region [
                  ⟨some 30, .mv (.t 4), none⟩,
                  ⟨some 31, .slStr (.t 30) (some (.k (.int .i64 1))) none, none⟩,
                  ⟨some 4, .mv (.t 31), none⟩] [4, 5] [] [[], [30]])
                .skip))
            (.seq
              (.region [
                ⟨some 6, .mv (.k (.int .u64 0)), none⟩] [4, 5, 6] [] [])
              (.seq
                (.seq
                  (.region [
                    ⟨some 7, .mv (.k (.int .i64 0)), none⟩] [4, 5, 6, 7] [] [])
                  (.block 0
                    (.loop [4, 5, 6, 7]
                      b_spec_DWhole_1)))
                t_spec_DWhole_2)))))),
  [.t 2, .t 3]⟩

def l_spec_DWhole : Lay := { rg := [(0, ([0], [])), (1, ([4], [])), (2, ([4, 5], [])), (3, ([4, 5, 29], [])), (4, ([4, 5], [])), (5, ([4, 5, 6], [])), (6, ([4, 5, 6, 7], [])), (7, ([4, 5, 6, 7, 35], [])), (8, ([4, 5, 6, 7], [])), (9, ([4, 5, 6, 7, 8], [])), (10, ([4, 5, 6, 7, 8, 59], [])), (11, ([2, 3], [])), (12, ([4, 5, 6, 7], [])), (13, ([5, 6, 73], [])), (14, ([2, 3], [])), (15, ([6, 74], [])), (16, ([2, 3], [])), (17, ([2, 3], [])), (1000007, ([4, 5, 6, 7], []))], dd := [(0, [[2]]), (1, [[0], [9]]), (2, [[], [11], [12], [], [14], [15], [13, 16]]), (3, [[], [18], [19], [], [21], [22], [23], [], [25], [26], [24, 27]]), (4, [[], [30]]), (7, [[], [], [33]]), (8, [[], [36]]), (9, [[], [], [38, 39], [40], [41]]), (10, [[], [], [43, 44], [45], [46], [], [], [48, 49], [50], [47, 51], [52], [], [], [55], [56], [54, 57]]), (12, [[], [60], [8], [61, 62]]), (13, [[4], [64], [65], [], [67], [68], [], [70], [69, 71]]), (16, [[6], [75], [76], [77]]), (17, [[6], [78], [79]])] }

/- laws.FnDWords -/
def c_laws_FnDWords : SFn := ⟨1,
    (.seq
      (.region [
        ⟨some 2, .mv (.k (.bool false)), none⟩] [0] [] [])
      (.seq
        (.seq
          (.region [
            ⟨some 13, .mv (.t 0), none⟩,
            ⟨some 14, .len 0 (.t 13), none⟩,
            ⟨some 15, .bin .gtr (.t 14) (.k (.int .i64 2147483647)), none⟩] [0, 15] [] [[], [13]])
          (.cond (.t 15)
            (.seq
              (.region [
                ⟨some 2, .mv (.k (.bool true)), none⟩] [2] [] [])
              .ret)
            .skip))
        (.seq
          (.seq
            (.region [
              ⟨some 16, .mv (.t 0), none⟩,
              ⟨some 17, .mkSl 1 1 [(.str [])] [(0, (.t 16))], none⟩,
              ⟨some 18, .call 10 [(.k (.int .i64 500)), (.t 17)], none⟩,
              ⟨some 19, .un .not (.t 18), none⟩] [0, 19] [17] [[], [16], [17]])
            (.cond (.t 19)
              (.seq
                (.region [
                  ⟨some 20, .call 11 [], none⟩,
                  ⟨some 2, .mv (.t 20), none⟩] [2] [] [])
                .ret)
              .skip))
          (.seq
            (.region [
              ⟨some 22, .mv (.t 0), none⟩,
              ⟨some 23, .call 66 [(.t 22)], none⟩,
              ⟨some 21, .mv (.t 23), none⟩,
              ⟨some 24, .extr (.t 21) 0, none⟩,
              ⟨some 25, .extr (.t 21) 1, none⟩,
              ⟨some 26, .extr (.t 21) 2, none⟩,
              ⟨some 3, .mv (.t 24), none⟩,
              ⟨some 4, .mv (.t 25), none⟩,
              ⟨some 5, .mv (.t 26), none⟩] [0, 3, 4, 5] [] [[], [22], [23], [], [], [21], [24], [25]])
            (.seq
              (.region [
                ⟨some 28, .mv (.t 0), none⟩,
                ⟨some 29, .call 67 [(.t 28)], none⟩,
                ⟨some 27, .mv (.t 29), none⟩,
                ⟨some 30, .extr (.t 27) 0, none⟩,
                ⟨some 31, .extr (.t 27) 1, none⟩,
                ⟨some 32, .extr (.t 27) 2, none⟩,
                ⟨some 6, .mv (.t 30), none⟩,
                ⟨some 7, .mv (.t 31), none⟩,
                ⟨some 8, .mv (.t 32), none⟩] [0, 3, 4, 5, 6, 7, 8] [] [[], [28], [29], [], [], [27], [30], [31]])
              (.seq
                (.region [
                  ⟨some 34, .mv (.t 0), none⟩,
                  ⟨some 35, .call 68 [(.t 34)], none⟩,
                  ⟨some 33, .mv (.t 35), none⟩,
                  ⟨some 36, .extr (.t 33) 0, none⟩,
                  ⟨some 37, .extr (.t 33) 1, none⟩,
                  ⟨some 9, .mv (.t 36), none⟩,
                  ⟨some 10, .mv (.t 37), none⟩] [0, 3, 4, 5, 6, 7, 8, 9, 10] [] [[], [34], [35], [], [33], [36]])
                (.seq
                  (.region [
                    ⟨some 39, .mv (.t 0), none⟩,
                    ⟨some 40, .call 69 [(.t 39)], none⟩,
                    ⟨some 38, .mv (.t 40), none⟩,
                    ⟨some 41, .extr (.t 38) 0, none⟩,
                    ⟨some 42, .extr (.t 38) 1, none⟩,
                    ⟨some 11, .mv (.t 41), none⟩,
                    ⟨some 12, .mv (.t 42), none⟩] [0, 3, 4, 5, 6, 7, 8, 9, 10, 11, 12] [] [[], [39], [40], [], [38], [41]])
                  (.seq
                    (.region [
                      ⟨some 43, .mv (.t 0), none⟩,
                      ⟨some 44, .call 7 [(.t 43)], none⟩,
                      ⟨some 45, .mv (.t 0), none⟩,
                      ⟨some 46, .call 70 [(.t 45)], none⟩,
                      ⟨some 47, .call 35 [(.t 44), (.t 46)], none⟩,
                      ⟨some 48, .mv (.t 47), none⟩,
                      ⟨some 49, .mv (.t 5), some (48, true)⟩,
                      ⟨some 50, .mv (.t 8), some (48, true)⟩,
                      ⟨some 51, .eqB false (.t 49) (.t 50), some (48, true)⟩,
                      ⟨some 52, .pick (.t 48) (.t 51) (.k (.bool false)), none⟩,
                      ⟨some 53, .mv (.t 52), none⟩,
                      ⟨some 54, .mv (.t 5), some (53, true)⟩,
                      ⟨some 55, .un .not (.t 54), some (53, true)⟩,
                      ⟨some 56, .mv (.t 55), some (53, true)⟩,
                      ⟨some 57, .mv (.t 3), some (56, false)⟩,
                      ⟨some 58, .mv (.t 6), some (56, false)⟩,
                      ⟨some 59, .bin .eql (.t 57) (.t 58), some (56, false)⟩,
                      ⟨some 60, .mv (.t 59), some (56, false)⟩,
                      ⟨some 61, .mv (.t 4), some (60, true)⟩,
                      ⟨some 62, .mv (.t 7), some (60, true)⟩,
                      ⟨some 63, .bin .eql (.t 61) (.t 62), some (60, true)⟩,
                      ⟨some 64, .pick (.t 60) (.t 63) (.k (.bool false)), some (56, false)⟩,
                      ⟨some 65, .pick (.t 56) (.k (.bool true)) (.t 64), some (53, true)⟩,
                      ⟨some 66, .pick (.t 53) (.t 65) (.k (.bool false)), none⟩,
                      ⟨some 67, .mv (.t 66), none⟩,
                      ⟨some 68, .mv (.t 10), some (67, true)⟩,
                      ⟨some 69, .mv (.t 12), some (67, true)⟩,
                      ⟨some 70, .eqB false (.t 68) (.t 69), some (67, true)⟩,
                      ⟨some 71, .pick (.t 67) (.t 70) (.k (.bool false)), none⟩,
                      ⟨some 72, .mv (.t 71), none⟩,
                      ⟨some 73, .mv (.t 10), some (72, true)⟩,
                      ⟨some 74, .un .not (.t 73), some (72, true)⟩,
                      ⟨some 75, .mv (.t 74), some (72, true)⟩,
                      ⟨some 76, .mv (.t 9), some (75, false)⟩,
                      ⟨some 77, .mv (.t 11), some (75, false)⟩,
                      ⟨some 78, .bin .eql (.t 76) (.t 77), some (75, false)⟩,
                      ⟨some 79, .pick (.t 75) (.k (.bool true)) (.t 78), some (72, true)⟩,
                      ⟨some 80, .pick (.t 72) (.t 79) (.k (.bool false)), none⟩,
                      ⟨some 81, .mv (.t 80), none⟩,
                      ⟨some 82, .call 11 [], some (81, true)⟩,
                      ⟨some 83, .pick (.t 81) (.t 82) (.k (.bool false)), none⟩,
                      ⟨some 2, .mv (.t 83), none⟩] [2] [] [[], [43], [0], [45], [44, 46], [47], [], [8], [49, 50], [48, 51], [52], [5], [54], [55], [3], [6], [57, 58], [59], [4], [7], [61, 62], [60, 63], [56, 64], [53, 65], [66], [], [12], [68, 69], [67, 70], [71], [10], [73], [74], [9], [11], [76, 77], [75, 78], [72, 79], [80], [], [81, 82]])
                    .ret)))))))),
  [.t 2]⟩

def l_laws_FnDWords : Lay := { rg := [(0, ([0], [])), (1, ([0, 15], [])), (2, ([2], [])), (3, ([0, 19], [17])), (4, ([2], [])), (5, ([0, 3, 4, 5], [])), (6, ([0, 3, 4, 5, 6, 7, 8], [])), (7, ([0, 3, 4, 5, 6, 7, 8, 9, 10], [])), (8, ([0, 3, 4, 5, 6, 7, 8, 9, 10, 11, 12], [])), (9, ([2], []))], dd := [(1, [[], [13]]), (3, [[], [16], [17]]), (5, [[], [22], [23], [], [], [21], [24], [25]]), (6, [[], [28], [29], [], [], [27], [30], [31]]), (7, [[], [34], [35], [], [33], [36]]), (8, [[], [39], [40], [], [38], [41]]), (9, [[], [43], [0], [45], [44, 46], [47], [], [8], [49, 50], [48, 51], [52], [5], [54], [55], [3], [6], [57, 58], [59], [4], [7], [61, 62], [60, 63], [56, 64], [53, 65], [66], [], [12], [68, 69], [67, 70], [71], [10], [73], [74], [9], [11], [76, 77], [75, 78], [72, 79], [80], [], [81, 82]])] }

end Wax

/- Functions as the abstract machine has them. -/
namespace Wax
open Go (IntKind)

/- dkim.zzReplaceAll -/
def b_dkim_zzReplaceAll_1 : SCode :=
  (.seq
    (.region [
      ⟨some 19, .nextS (.t 18), none⟩,
      ⟨some 20, .extr (.t 19) 0, none⟩] [0, 2, 7, 8, 18, 19, 20] [] [])
    (.seq
      (.cond (.t 20)
        .skip
        (.exit 0))
      (.block 1
        (.seq
          (.region [
            ⟨some 21, .extr (.t 19) 1, none⟩,
            ⟨some 9, .mv (.t 21), none⟩] [0, 2, 7, 8, 9, 18] [] [[19]])
          (.seq
            (.region [
              ⟨some 22, .mv (.t 9), none⟩,
              ⟨some 23, .bin .gtr (.t 22) (.k (.int .i64 0)), none⟩] [0, 2, 7, 8, 9, 18, 23] [] [])
            (.cond (.t 23)
              (.seq
                (.region [
                  ⟨some 24, .mv (.t 7), none⟩,
                  ⟨some 25, .mv (.t 0), none⟩,
                  ⟨some 26, .mv (.t 8), none⟩,
                  ⟨some 27, .mv (.t 9), none⟩,
                  ⟨some 28, .slStr (.t 25) (some (.t 26)) (some (.t 27)), none⟩,
                  ⟨some 29, .app 1 1 (.t 24) (.t 28), none⟩,
                  ⟨some 30, .mv (.t 2), none⟩,
                  ⟨some 31, .app 1 1 (.t 29) (.t 30), none⟩,
                  ⟨some 7, .mv (.t 31), none⟩] [0, 2, 7, 9, 18] [] [[], [], [8], [], [25, 26, 27], [24, 28], [], [29, 30]])
                (.region [
                  ⟨some 32, .mv (.t 9), none⟩,
                  ⟨some 8, .mv (.t 32), none⟩] [0, 2, 7, 8, 18] [] [[9]]))
              .skip))))))

def t_dkim_zzReplaceAll_2 : SCode :=
  (.seq
    (.seq
      (.region [
        ⟨some 33, .mv (.t 0), none⟩,
        ⟨some 34, .len 0 (.t 33), none⟩,
        ⟨some 35, .bin .gtr (.t 34) (.k (.int .i64 0)), none⟩] [0, 2, 7, 8, 35] [18] [[], [33]])
      (.cond (.t 35)
        (.region [
          ⟨some 36, .mv (.t 7), none⟩,
          ⟨some 37, .mv (.t 0), none⟩,
          ⟨some 38, .mv (.t 8), none⟩,
          ⟨some 39, .slStr (.t 37) (some (.t 38)) none, none⟩,
          ⟨some 40, .app 1 1 (.t 36) (.t 39), none⟩,
          ⟨some 41, .mv (.t 2), none⟩,
          ⟨some 42, .app 1 1 (.t 40) (.t 41), none⟩,
          ⟨some 7, .mv (.t 42), none⟩] [7] [] [[], [0], [8], [37, 38], [36, 39], [2], [40, 41]])
        .skip))
    (.seq
      (.region [
        ⟨some 43, .mv (.t 7), none⟩,
        ⟨some 44, .cBytesStr (.t 43), none⟩,
        ⟨some 6, .mv (.t 44), none⟩] [6] [16, 29, 31, 40, 42] [[7], [43]])
      .ret))

def b_dkim_zzReplaceAll_3 : SCode :=
  (.block 3
    (.seq
      (.region [
        ⟨some 45, .mv (.t 0), none⟩,
        ⟨some 46, .mv (.t 1), none⟩,
        ⟨some 47, .call 22 [(.t 45), (.t 46)], none⟩,
        ⟨some 10, .mv (.t 47), none⟩] [0, 1, 2, 7, 10] [] [[], [], [45, 46]])
      (.seq
        (.seq
          (.region [
            ⟨some 48, .mv (.t 10), none⟩,
            ⟨some 49, .bin .lss (.t 48) (.k (.int .i64 0)), none⟩] [0, 1, 2, 7, 10, 49] [] [])
          (.cond (.t 49)
            (.seq
              (.region [
                ⟨some 50, .mv (.t 7), none⟩,
                ⟨some 51, .mv (.t 0), none⟩,
                ⟨some 52, .app 1 1 (.t 50) (.t 51), none⟩,
                ⟨some 53, .cBytesStr (.t 52), none⟩,
                ⟨some 6, .mv (.t 53), none⟩] [6] [52, 58, 60] [[7], [0], [50, 51], [52]])
              .ret)
            .skip))
        (.seq
          (.region [
            ⟨some 54, .mv (.t 7), none⟩,
            ⟨some 55, .mv (.t 0), none⟩,
            ⟨some 56, .mv (.t 10), none⟩,
            ⟨some 57, .slStr (.t 55) none (some (.t 56)), none⟩,
            ⟨some 58, .app 1 1 (.t 54) (.t 57), none⟩,
            ⟨some 59, .mv (.t 2), none⟩,
            ⟨some 60, .app 1 1 (.t 58) (.t 59), none⟩,
            ⟨some 7, .mv (.t 60), none⟩] [0, 1, 2, 7, 10] [] [[], [], [], [55, 56], [54, 57], [], [58, 59]])
          (.region [
            ⟨some 61, .mv (.t 0), none⟩,
            ⟨some 62, .mv (.t 10), none⟩,
            ⟨some 63, .mv (.t 1), none⟩,
            ⟨some 64, .len 0 (.t 63), none⟩,
            ⟨some 65, .bin .add (.t 62) (.t 64), none⟩,
            ⟨some 66, .slStr (.t 61) (some (.t 65)) none, none⟩,
            ⟨some 0, .mv (.t 66), none⟩] [0, 1, 2, 7] [] [[], [10], [], [63], [62, 64], [61, 65]])))))

def t_dkim_zzReplaceAll_4 : SCode :=
  (.block 2
    (.loop [0, 1, 2, 7]
      b_dkim_zzReplaceAll_3))

def c_dkim_zzReplaceAll : SFn := ⟨3,
    (.seq
      (.region [
        ⟨some 6, .mv (.k (.str [])), none⟩] [0, 1, 2] [] [])
      (.seq
        (.region [
          ⟨some 7, .mv (.k .nilS), none⟩] [0, 1, 2, 7] [] [])
        (.seq
          (.seq
            (.region [
              ⟨some 11, .mv (.t 1), none⟩,
              ⟨some 12, .len 0 (.t 11), none⟩,
              ⟨some 13, .bin .eql (.t 12) (.k (.int .i64 0)), none⟩] [0, 1, 2, 7, 13] [] [[], [11]])
            (.cond (.t 13)
              (.seq
                (.region [
                  ⟨some 14, .mv (.t 7), none⟩,
                  ⟨some 15, .mv (.t 2), none⟩,
                  ⟨some 16, .app 1 1 (.t 14) (.t 15), none⟩,
                  ⟨some 7, .mv (.t 16), none⟩] [0, 2, 7] [] [[], [], [14, 15]])
                (.seq
                  (.region [
                    ⟨some 8, .mv (.k (.int .i64 0)), none⟩] [0, 2, 7, 8] [] [])
                  (.seq
                    (.seq
                      (.region [
                        ⟨some 17, .mv (.t 0), none⟩,
                        ⟨some 18, .rangeS (.t 17), none⟩] [0, 2, 7, 8, 18] [] [])
                      (.block 0
                        (.loop [0, 2, 7, 8, 18]
                          b_dkim_zzReplaceAll_1)))
                    t_dkim_zzReplaceAll_2)))
              .skip))
          t_dkim_zzReplaceAll_4))),
  [.t 6]⟩

def l_dkim_zzReplaceAll : Lay := { rg := [(0, ([0, 1, 2], [])), (1, ([0, 1, 2, 7], [])), (2, ([0, 1, 2, 7, 13], [])), (3, ([0, 2, 7], [])), (4, ([0, 2, 7, 8], [])), (5, ([0, 2, 7, 8, 18], [])), (6, ([0, 2, 7, 8, 18, 19, 20], [])), (7, ([0, 2, 7, 8, 9, 18], [])), (8, ([0, 2, 7, 8, 9, 18, 23], [])), (9, ([0, 2, 7, 9, 18], [])), (10, ([0, 2, 7, 8, 18], [])), (11, ([0, 2, 7, 8, 35], [18])), (12, ([7], [])), (13, ([6], [16, 29, 31, 40, 42])), (14, ([0, 1, 2, 7, 10], [])), (15, ([0, 1, 2, 7, 10, 49], [])), (16, ([6], [52, 58, 60])), (17, ([0, 1, 2, 7, 10], [])), (18, ([0, 1, 2, 7], [])), (1000006, ([0, 2, 7, 8, 18], [])), (1000014, ([0, 1, 2, 7], []))], dd := [(2, [[], [11]]), (3, [[], [], [14, 15]]), (7, [[19]]), (9, [[], [], [8], [], [25, 26, 27], [24, 28], [], [29, 30]]), (10, [[9]]), (11, [[], [33]]), (12, [[], [0], [8], [37, 38], [36, 39], [2], [40, 41]]), (13, [[7], [43]]), (14, [[], [], [45, 46]]), (16, [[7], [0], [50, 51], [52]]), (17, [[], [], [], [55, 56], [54, 57], [], [58, 59]]), (18, [[], [10], [], [63], [62, 64], [61, 65]])] }

/- dkim.zzDecode -/
def b_dkim_zzDecode_1 : SCode :=
  (.seq
    (.seq
      (.region [
        ⟨some 14, .mv (.t 6), none⟩,
        ⟨some 15, .mv (.t 0), none⟩,
        ⟨some 16, .len 0 (.t 15), none⟩,
        ⟨some 17, .bin .lss (.t 14) (.t 16), none⟩] [0, 4, 5, 6, 17] [] [[], [], [15]])
      (.cond (.t 17)
        .skip
        (.exit 0)))
    (.seq
      (.block 1
        (.seq
          (.region [
            ⟨some 20, .mv (.t 0), none⟩,
            ⟨some 21, .mv (.t 6), none⟩,
            ⟨some 22, .iStr (.t 20) (.t 21), none⟩,
            ⟨some 23, .bin .neq (.t 22) (.k (.int .u8 13)), none⟩,
            ⟨some 24, .mv (.t 23), none⟩,
            ⟨some 25, .mv (.t 0), some (24, true)⟩,
            ⟨some 26, .mv (.t 6), some (24, true)⟩,
            ⟨some 27, .iStr (.t 25) (.t 26), some (24, true)⟩,
            ⟨some 28, .bin .neq (.t 27) (.k (.int .u8 10)), some (24, true)⟩,
            ⟨some 29, .pick (.t 24) (.t 28) (.k (.bool false)), none⟩] [0, 4, 5, 6, 29] [] [[], [], [20, 21], [22], [23], [], [], [25, 26], [27]])
          (.cond (.t 29)
            (.region [
              ⟨some 30, .mv (.t 5), none⟩,
              ⟨some 31, .mv (.t 0), none⟩,
              ⟨some 32, .mv (.t 6), none⟩,
              ⟨some 33, .iStr (.t 31) (.t 32), none⟩,
              ⟨some 34, .mkSl 1 1 [(.int .u8 0)] [(0, (.t 33))], none⟩,
              ⟨some 35, .app 1 1 (.t 30) (.t 34), none⟩,
              ⟨some 5, .mv (.t 35), none⟩] [0, 4, 5, 6] [34] [[], [], [], [31, 32], [33], [30, 34]])
            .skip)))
      (.region [
        ⟨some 18, .mv (.t 6), none⟩,
        ⟨some 19, .bin .add (.t 18) (.k (.int .i64 1)), none⟩,
        ⟨some 6, .mv (.t 19), none⟩] [0, 4, 5, 6] [] [[], [18]])))

def b_dkim_zzDecode_2 : SCode :=
  (.seq
    (.seq
      (.region [
        ⟨some 49, .mv (.t 12), none⟩,
        ⟨some 50, .bin .lss (.t 49) (.k (.int .i64 64)), none⟩] [4, 5, 7, 8, 9, 10, 11, 12, 50] [] [])
      (.cond (.t 50)
        .skip
        (.exit 6)))
    (.seq
      (.block 7
        (.seq
          (.region [
            ⟨some 53, .mv (.t 12), none⟩,
            ⟨some 54, .iStr (.k (.str [65, 66, 67, 68, 69, 70, 71, 72, 73, 74, 75, 76, 77, 78, 79, 80, 81, 82, 83, 84, 85, 86, 87, 88, 89, 90, 97, 98, 99, 100, 101, 102, 103, 104, 105, 106, 107, 108, 109, 110, 111, 112, 113, 114, 115, 116, 117, 118, 119, 120, 121, 122, 48, 49, 50, 51, 52, 53, 54, 55, 56, 57, 43, 47])) (.t 53), none⟩,
            ⟨some 55, .mv (.t 5), none⟩,
            ⟨some 56, .mv (.t 10), none⟩,
            ⟨some 57, .iAddr 1 (.t 55) (.t 56), none⟩,
            ⟨some 58, .load none (.t 57), none⟩,
            ⟨some 59, .bin .eql (.t 54) (.t 58), none⟩] [4, 5, 7, 8, 9, 10, 11, 12, 59] [] [])
          (.cond (.t 59)
            (.region [
              ⟨some 60, .mv (.t 12), none⟩,
              ⟨some 11, .mv (.t 60), none⟩] [4, 5, 7, 8, 9, 10, 11, 12] [] [])
            .skip)))
      (.region [
        ⟨some 51, .mv (.t 12), none⟩,
        ⟨some 52, .bin .add (.t 51) (.k (.int .i64 1)), none⟩,
        ⟨some 12, .mv (.t 52), none⟩] [4, 5, 7, 8, 9, 10, 11, 12] [] [[], [51]])))

def t_dkim_zzDecode_3 : SCode :=
  (.seq
    (.seq
      (.region [
        ⟨some 61, .mv (.t 11), none⟩,
        ⟨some 62, .bin .lss (.t 61) (.k (.int .i64 0)), none⟩] [4, 5, 7, 8, 9, 10, 11, 62] [] [])
      (.cond (.t 62)
        (.seq
          (.seq
            (.region [
              ⟨some 63, .mv (.t 5), none⟩,
              ⟨some 64, .mv (.t 10), none⟩,
              ⟨some 65, .iAddr 1 (.t 63) (.t 64), none⟩,
              ⟨some 66, .load none (.t 65), none⟩,
              ⟨some 67, .bin .neq (.t 66) (.k (.int .u8 61)), none⟩,
              ⟨some 68, .mv (.t 67), none⟩,
              ⟨some 69, .mv (.t 10), some (68, false)⟩,
              ⟨some 70, .bin .lss (.t 69) (.k (.int .i64 2)), some (68, false)⟩,
              ⟨some 71, .pick (.t 68) (.k (.bool true)) (.t 70), none⟩,
              ⟨some 72, .mv (.t 71), none⟩,
              ⟨some 73, .mv (.t 5), some (72, false)⟩,
              ⟨some 74, .len 1 (.t 73), some (72, false)⟩,
              ⟨some 75, .bin .gtr (.t 74) (.k (.int .i64 4)), some (72, false)⟩,
              ⟨some 76, .pick (.t 72) (.k (.bool true)) (.t 75), none⟩,
              ⟨some 77, .mv (.t 76), none⟩,
              ⟨some 78, .mv (.t 10), some (77, false)⟩,
              ⟨some 79, .bin .eql (.t 78) (.k (.int .i64 2)), some (77, false)⟩,
              ⟨some 80, .mv (.t 79), some (77, false)⟩,
              ⟨some 81, .mv (.t 5), some (80, true)⟩,
              ⟨some 82, .iAddr 1 (.t 81) (.k (.int .i64 3)), some (80, true)⟩,
              ⟨some 83, .load none (.t 82), some (80, true)⟩,
              ⟨some 84, .bin .neq (.t 83) (.k (.int .u8 61)), some (80, true)⟩,
              ⟨some 85, .pick (.t 80) (.t 84) (.k (.bool false)), some (77, false)⟩,
              ⟨some 86, .pick (.t 77) (.k (.bool true)) (.t 85), none⟩] [4, 5, 7, 8, 9, 10, 86] [] [[], [], [63, 64], [65], [66], [67], [], [69], [68, 70], [71], [], [73], [74], [72, 75], [76], [], [78], [79], [], [81], [82], [83], [80, 84]])
            (.cond (.t 86)
              (.seq
                (.region [
                  ⟨some 87, .mv (.t 4), none⟩,
                  ⟨some 2, .mv (.k .nilS), none⟩,
                  ⟨some 3, .mv (.t 87), none⟩] [2, 3] [] [[4]])
                .ret)
              .skip))
          (.seq
            (.region [
              ⟨some 88, .mv (.t 9), none⟩,
              ⟨some 89, .mv (.t 10), none⟩,
              ⟨some 90, .mn (.t 88) (.t 89), none⟩,
              ⟨some 9, .mv (.t 90), none⟩] [4, 5, 7, 8, 9, 10] [] [[], [], [88, 89]])
            (.region [
              ⟨some 11, .mv (.k (.int .i64 0)), none⟩] [4, 5, 7, 8, 9, 10, 11] [] [])))
        (.seq
          (.region [
            ⟨some 91, .mv (.t 9), none⟩,
            ⟨some 92, .bin .lss (.t 91) (.k (.int .i64 4)), none⟩] [4, 5, 7, 8, 9, 10, 11, 92] [] [])
          (.cond (.t 92)
            (.seq
              (.region [
                ⟨some 93, .mv (.t 4), none⟩,
                ⟨some 2, .mv (.k .nilS), none⟩,
                ⟨some 3, .mv (.t 93), none⟩] [2, 3] [] [[4]])
              .ret)
            .skip))))
    (.region [
      ⟨some 94, .mv (.t 8), none⟩,
      ⟨some 95, .bin .shl (.t 94) (.k (.int .u64 6)), none⟩,
      ⟨some 96, .mv (.t 11), none⟩,
      ⟨some 97, .cInt .u64 (.t 96), none⟩,
      ⟨some 98, .bin .or (.t 95) (.t 97), none⟩,
      ⟨some 8, .mv (.t 98), none⟩] [4, 5, 7, 8, 9, 10] [] [[], [94], [11], [96], [95, 97]]))

def t_dkim_zzDecode_4 : SCode :=
  (.region [
    ⟨some 47, .mv (.t 10), none⟩,
    ⟨some 48, .bin .add (.t 47) (.k (.int .i64 1)), none⟩,
    ⟨some 10, .mv (.t 48), none⟩] [4, 5, 7, 8, 9, 10] [] [[], [47]])

def b_dkim_zzDecode_5 : SCode :=
  (.seq
    (.seq
      (.region [
        ⟨some 45, .mv (.t 10), none⟩,
        ⟨some 46, .bin .lss (.t 45) (.k (.int .i64 4)), none⟩] [4, 5, 7, 8, 9, 10, 46] [] [])
      (.cond (.t 46)
        .skip
        (.exit 4)))
    (.seq
      (.block 5
        (.seq
          (.region [
            ⟨some 11, .mv (.k (.int .i64 (-1))), none⟩] [4, 5, 7, 8, 9, 10, 11] [] [])
          (.seq
            (.seq
              (.region [
                ⟨some 12, .mv (.k (.int .i64 0)), none⟩] [4, 5, 7, 8, 9, 10, 11, 12] [] [])
              (.block 6
                (.loop [4, 5, 7, 8, 9, 10, 11, 12]
                  b_dkim_zzDecode_2)))
            t_dkim_zzDecode_3)))
      t_dkim_zzDecode_4))

def t_dkim_zzDecode_6 : SCode :=
  (.seq
    (.region [
      ⟨some 99, .mv (.t 7), none⟩,
      ⟨some 100, .mv (.t 8), none⟩,
      ⟨some 101, .bin .shr (.t 100) (.k (.int .u64 16)), none⟩,
      ⟨some 102, .cInt .u8 (.t 101), none⟩,
      ⟨some 103, .mv (.t 8), none⟩,
      ⟨some 104, .bin .shr (.t 103) (.k (.int .u64 8)), none⟩,
      ⟨some 105, .cInt .u8 (.t 104), none⟩,
      ⟨some 106, .mv (.t 8), none⟩,
      ⟨some 107, .cInt .u8 (.t 106), none⟩,
      ⟨some 108, .mkSl 1 3 [(.int .u8 0)] [(0, (.t 102)), (1, (.t 105)), (2, (.t 107))], none⟩,
      ⟨some 109, .mv (.t 9), none⟩,
      ⟨some 110, .bin .sub (.t 109) (.k (.int .i64 1)), none⟩,
      ⟨some 111, .slSl 1 (.t 108) none (some (.t 110)), none⟩,
      ⟨some 112, .app 1 1 (.t 99) (.t 111), none⟩,
      ⟨some 7, .mv (.t 112), none⟩] [4, 5, 7] [108] [[], [], [100], [101], [], [103], [104], [8], [106], [102, 105, 107], [9], [109], [108, 110], [99, 111]])
    (.region [
      ⟨some 113, .mv (.t 5), none⟩,
      ⟨some 114, .slSl 1 (.t 113) (some (.k (.int .i64 4))) none, none⟩,
      ⟨some 5, .mv (.t 114), none⟩] [4, 5, 7] [] [[], [113]]))

def b_dkim_zzDecode_7 : SCode :=
  (.seq
    (.seq
      (.region [
        ⟨some 42, .mv (.t 5), none⟩,
        ⟨some 43, .len 1 (.t 42), none⟩,
        ⟨some 44, .bin .gtr (.t 43) (.k (.int .i64 0)), none⟩] [4, 5, 7, 44] [] [[], [42]])
      (.cond (.t 44)
        .skip
        (.exit 2)))
    (.block 3
      (.seq
        (.region [
          ⟨some 8, .mv (.k (.int .u64 0)), none⟩] [4, 5, 7, 8] [] [])
        (.seq
          (.region [
            ⟨some 9, .mv (.k (.int .i64 4)), none⟩] [4, 5, 7, 8, 9] [] [])
          (.seq
            (.seq
              (.region [
                ⟨some 10, .mv (.k (.int .i64 0)), none⟩] [4, 5, 7, 8, 9, 10] [] [])
              (.block 4
                (.loop [4, 5, 7, 8, 9, 10]
                  b_dkim_zzDecode_5)))
            t_dkim_zzDecode_6)))))

def t_dkim_zzDecode_8 : SCode :=
  (.seq
    (.region [
      ⟨some 115, .mv (.t 7), none⟩,
      ⟨some 2, .mv (.t 115), none⟩,
      ⟨some 3, .mv (.k .nilI), none⟩] [2, 3] [] [[7], [115]])
    .ret)

def t_dkim_zzDecode_9 : SCode :=
  (.seq
    (.seq
      (.seq
      (.region [
        ⟨some 36, .mv (.t 5), none⟩,
        ⟨some 37, .len 1 (.t 36), none⟩,
        ⟨some 38, .bin .rem (.t 37) (.k (.int .i64 4)), none⟩,
        ⟨some 39, .bin .neq (.t 38) (.k (.int .i64 0)), none⟩] [4, 5, 39] [] [[], [36], [37]])
      (.ghost [.frz 35]))
      (.cond (.t 39)
        (.seq
          (.region [
            ⟨some 40, .mv (.t 4), none⟩,
            ⟨some 2, .mv (.k .nilS), none⟩,
            ⟨some 3, .mv (.t 40), none⟩] [2, 3] [] [[4]])
          .ret)
        .skip))
    (.seq
      (.seq
      (.region [
        ⟨some 41, .mkSl 1 0 [(.int .u8 0)] [], none⟩,
        ⟨some 7, .mv (.t 41), none⟩] [4, 5, 7] [] [])
      (.ghost [.ren 41 112]))
      (.seq
        (.block 2
          (.loop [4, 5, 7]
            b_dkim_zzDecode_7))
        t_dkim_zzDecode_8)))

def c_dkim_zzDecode : SFn := ⟨1,
    (.seq
      (.region [
        ⟨some 2, .mv (.k .nilS), none⟩,
        ⟨some 3, .mv (.k .nilI), none⟩] [0] [] [[2]])
      (.seq
        (.region [
          ⟨some 13, .call 50 [(.k (.str [105, 108, 108, 101, 103, 97, 108, 32, 98, 97, 115, 101, 54, 52, 32, 100, 97, 116, 97]))], none⟩,
          ⟨some 4, .mv (.t 13), none⟩] [0, 4] [] [])
        (.seq
          (.region [
            ⟨some 5, .mv (.k .nilS), none⟩] [0, 4, 5] [] [])
          (.seq
            (.seq
              (.region [
                ⟨some 6, .mv (.k (.int .i64 0)), none⟩] [0, 4, 5, 6] [] [])
              (.block 0
                (.loop [0, 4, 5, 6]
                  b_dkim_zzDecode_1)))
            t_dkim_zzDecode_9)))),
  [.t 2, .t 3]⟩

def l_dkim_zzDecode : Lay := { rg := [(0, ([0], [])), (1, ([0, 4], [])), (2, ([0, 4, 5], [])), (3, ([0, 4, 5, 6], [])), (4, ([0, 4, 5, 6, 17], [])), (5, ([0, 4, 5, 6], [])), (6, ([0, 4, 5, 6, 29], [])), (7, ([0, 4, 5, 6], [34])), (8, ([4, 5, 39], [])), (9, ([2, 3], [])), (10, ([4, 5, 7], [])), (11, ([4, 5, 7, 44], [])), (12, ([4, 5, 7, 8], [])), (13, ([4, 5, 7, 8, 9], [])), (14, ([4, 5, 7, 8, 9, 10], [])), (15, ([4, 5, 7, 8, 9, 10, 46], [])), (16, ([4, 5, 7, 8, 9, 10], [])), (17, ([4, 5, 7, 8, 9, 10, 11], [])), (18, ([4, 5, 7, 8, 9, 10, 11, 12], [])), (19, ([4, 5, 7, 8, 9, 10, 11, 12, 50], [])), (20, ([4, 5, 7, 8, 9, 10, 11, 12], [])), (21, ([4, 5, 7, 8, 9, 10, 11, 12, 59], [])), (22, ([4, 5, 7, 8, 9, 10, 11, 12], [])), (23, ([4, 5, 7, 8, 9, 10, 11, 62], [])), (24, ([4, 5, 7, 8, 9, 10, 86], [])), (25, ([2, 3], [])), (26, ([4, 5, 7, 8, 9, 10], [])), (27, ([4, 5, 7, 8, 9, 10, 11], [])), (28, ([4, 5, 7, 8, 9, 10, 11, 92], [])), (29, ([2, 3], [])), (30, ([4, 5, 7, 8, 9, 10], [])), (31, ([4, 5, 7], [108])), (32, ([4, 5, 7], [])), (33, ([2, 3], [])), (1000004, ([0, 4, 5, 6], [])), (1000011, ([4, 5, 7], [])), (1000015, ([4, 5, 7, 8, 9, 10], [])), (1000019, ([4, 5, 7, 8, 9, 10, 11, 12], []))], dd := [(0, [[2]]), (4, [[], [], [15]]), (5, [[], [18]]), (6, [[], [], [20, 21], [22], [23], [], [], [25, 26], [27]]), (7, [[], [], [], [31, 32], [33], [30, 34]]), (8, [[], [36], [37]]), (9, [[4]]), (11, [[], [42]]), (16, [[], [47]]), (20, [[], [51]]), (24, [[], [], [63, 64], [65], [66], [67], [], [69], [68, 70], [71], [], [73], [74], [72, 75], [76], [], [78], [79], [], [81], [82], [83], [80, 84]]), (25, [[4]]), (26, [[], [], [88, 89]]), (29, [[4]]), (30, [[], [94], [11], [96], [95, 97]]), (31, [[], [], [100], [101], [], [103], [104], [8], [106], [102, 105, 107], [9], [109], [108, 110], [99, 111]]), (32, [[], [113]]), (33, [[7], [115]])], gh := [(8, [.frz 35]), (10, [.ren 41 112])] }

/- (*errors.errorString).Error -/
def c_errors_errorString_Error : SFn := ⟨1,
    (.seq
      (.region [
        ⟨some 2, .mv (.k (.str [])), none⟩] [0] [] [])
      (.seq
        (.region [
          ⟨some 3, .mv (.t 0), none⟩,
          ⟨some 4, .chk (.t 3), none⟩,
          ⟨some 5, .fAddr 0 (.t 4), none⟩,
          ⟨some 6, .load none (.t 5), none⟩,
          ⟨some 2, .mv (.t 6), none⟩] [2] [] [[0], [3], [4], [5]])
        .ret)),
  [.t 2]⟩

def l_errors_errorString_Error : Lay := { rg := [(0, ([0], [])), (1, ([2], []))], dd := [(1, [[0], [3], [4], [5]])] }

/- dkim.parsePublicKey -/
def b_dkim_parsePublicKey_1 : SCode :=
  (.seq
    (.region [
      ⟨some 175, .bin .lss (.t 174) (.t 173), none⟩] [6, 8, 26, 27, 172, 173, 174, 175] [] [])
    (.seq
      (.cond (.t 175)
        .skip
        (.exit 1))
      (.seq
        (.block 2
          (.seq
            (.region [
              ⟨some 176, .iAddr 1 (.t 172) (.t 174), none⟩,
              ⟨some 177, .load none (.t 176), none⟩,
              ⟨some 29, .mv (.t 177), none⟩] [6, 8, 26, 27, 29, 172, 173, 174] [] [[], [176]])
            (.seq
              (.region [
                ⟨some 178, .mv (.t 29), none⟩,
                ⟨some 179, .bin .eql (.t 178) (.k (.str [42])), none⟩] [6, 8, 26, 27, 172, 173, 174, 179] [] [[29]])
              (.cond (.t 179)
                (.seq
                  (.region [
                    ⟨some 27, .mv (.k (.bool true)), none⟩] [6, 8, 26, 27] [] [])
                  (.exit 1))
                .skip))))
        (.region [
          ⟨some 180, .bin .add (.t 174) (.k (.int .i64 1)), none⟩,
          ⟨some 174, .mv (.t 180), none⟩] [6, 8, 26, 27, 172, 173, 174] [] []))))

def t_dkim_parsePublicKey_2 : SCode :=
  (.seq
    (.region [
      ⟨some 181, .mv (.t 27), none⟩,
      ⟨some 182, .un .not (.t 181), none⟩] [6, 8, 26, 182] [] [[27]])
    (.cond (.t 182)
      (.region [
        ⟨some 183, .mv (.t 8), none⟩,
        ⟨some 184, .mv (.t 26), none⟩,
        ⟨some 185, .chk (.t 183), none⟩,
        ⟨some 186, .fAddr 4 (.t 185), none⟩,
        ⟨none, .store 1 (.t 186) (.t 184), none⟩] [6, 8] [] [[], [26], [183], [185]])
      .skip))

def f_dkim_parsePublicKey_3 : SCode :=
  (.seq
    (.seq
      (.region [
        ⟨some 188, .mv (.t 6), none⟩,
        ⟨some 189, .look (.str []) true (.t 188) (.k (.str [116])), none⟩,
        ⟨some 187, .mv (.t 189), none⟩,
        ⟨some 190, .extr (.t 187) 0, none⟩,
        ⟨some 191, .extr (.t 187) 1, none⟩,
        ⟨some 30, .mv (.t 190), none⟩,
        ⟨some 31, .mv (.t 191), none⟩] [8, 30, 31] [] [[6], [188], [189], [], [187], [190]])
      (.seq
        (.region [
          ⟨some 192, .mv (.t 31), none⟩] [8, 30, 192] [] [])
        (.cond (.t 192)
          (.region [
            ⟨some 193, .mv (.t 8), none⟩,
            ⟨some 194, .mv (.t 30), none⟩,
            ⟨some 195, .call 24 [(.t 194)], none⟩,
            ⟨some 196, .chk (.t 193), none⟩,
            ⟨some 197, .fAddr 5 (.t 196), none⟩,
            ⟨none, .store 1 (.t 197) (.t 195), none⟩] [8] [] [[], [30], [194], [193], [196]])
          .skip)))
    (.seq
      (.seq
      (.region [
        ⟨some 198, .mv (.t 8), none⟩,
        ⟨some 4, .mv (.t 198), none⟩,
        ⟨some 5, .mv (.k .nilI), none⟩] [4, 5] [] [[8], [198]])
      (.ghost [.frz 43]))
      .ret))

def f_dkim_parsePublicKey_4 : SCode :=
  (.seq
    (.seq
      (.region [
        ⟨some 165, .mv (.t 6), none⟩,
        ⟨some 166, .look (.str []) true (.t 165) (.k (.str [115])), none⟩,
        ⟨some 164, .mv (.t 166), none⟩,
        ⟨some 167, .extr (.t 164) 0, none⟩,
        ⟨some 168, .extr (.t 164) 1, none⟩,
        ⟨some 24, .mv (.t 167), none⟩,
        ⟨some 25, .mv (.t 168), none⟩] [6, 8, 24, 25] [] [[], [165], [166], [], [164], [167]])
      (.seq
        (.region [
          ⟨some 169, .mv (.t 25), none⟩] [6, 8, 24, 169] [] [])
        (.cond (.t 169)
          (.seq
            (.region [
              ⟨some 170, .mv (.t 24), none⟩,
              ⟨some 171, .call 24 [(.t 170)], none⟩,
              ⟨some 26, .mv (.t 171), none⟩] [6, 8, 26] [] [[24], [170]])
            (.seq
              (.region [
                ⟨some 27, .mv (.k (.bool false)), none⟩] [6, 8, 26, 27] [] [])
              (.seq
                (.seq
                  (.region [
                    ⟨some 172, .mv (.t 26), none⟩,
                    ⟨some 173, .len 1 (.t 172), none⟩,
                    ⟨some 174, .mv (.k (.int .i64 0)), none⟩] [6, 8, 26, 27, 172, 173, 174] [] [])
                  (.block 1
                    (.loop [6, 8, 26, 27, 172, 173, 174]
                      b_dkim_parsePublicKey_1)))
                t_dkim_parsePublicKey_2)))
          .skip)))
    f_dkim_parsePublicKey_3)

def f_dkim_parsePublicKey_5 : SCode :=
  (.seq
    (.seq
      (.region [
        ⟨some 155, .mv (.t 6), none⟩,
        ⟨some 156, .look (.str []) true (.t 155) (.k (.str [110])), none⟩,
        ⟨some 154, .mv (.t 156), none⟩,
        ⟨some 157, .extr (.t 154) 0, none⟩,
        ⟨some 158, .extr (.t 154) 1, none⟩,
        ⟨some 22, .mv (.t 157), none⟩,
        ⟨some 23, .mv (.t 158), none⟩] [6, 8, 22, 23] [] [[], [155], [156], [], [154], [157]])
      (.seq
        (.region [
          ⟨some 159, .mv (.t 23), none⟩] [6, 8, 22, 159] [] [])
        (.cond (.t 159)
          (.region [
            ⟨some 160, .mv (.t 8), none⟩,
            ⟨some 161, .mv (.t 22), none⟩,
            ⟨some 162, .chk (.t 160), none⟩,
            ⟨some 163, .fAddr 3 (.t 162), none⟩,
            ⟨none, .store 1 (.t 163) (.t 161), none⟩] [6, 8] [] [[], [22], [160], [162]])
          .skip)))
    f_dkim_parsePublicKey_4)

def f_dkim_parsePublicKey_6 : SCode :=
  (.seq
    (.seq
      (.region [
        ⟨some 144, .mv (.t 6), none⟩,
        ⟨some 145, .look (.str []) true (.t 144) (.k (.str [104])), none⟩,
        ⟨some 143, .mv (.t 145), none⟩,
        ⟨some 146, .extr (.t 143) 0, none⟩,
        ⟨some 147, .extr (.t 143) 1, none⟩,
        ⟨some 20, .mv (.t 146), none⟩,
        ⟨some 21, .mv (.t 147), none⟩] [6, 8, 20, 21] [] [[], [144], [145], [], [143], [146]])
      (.seq
        (.region [
          ⟨some 148, .mv (.t 21), none⟩] [6, 8, 20, 148] [] [])
        (.cond (.t 148)
          (.region [
            ⟨some 149, .mv (.t 8), none⟩,
            ⟨some 150, .mv (.t 20), none⟩,
            ⟨some 151, .call 24 [(.t 150)], none⟩,
            ⟨some 152, .chk (.t 149), none⟩,
            ⟨some 153, .fAddr 2 (.t 152), none⟩,
            ⟨none, .store 1 (.t 153) (.t 151), none⟩] [6, 8] [] [[], [20], [150], [149], [152]])
          .skip)))
    f_dkim_parsePublicKey_5)

def f_dkim_parsePublicKey_7 : SCode :=
  (.seq
    (.seq
      (.region [
        ⟨some 79, .mv (.t 6), none⟩,
        ⟨some 80, .look (.str []) false (.t 79) (.k (.str [107])), none⟩] [1, 6, 8, 13, 80] [] [])
      (.block 0
        (.seq
          (.seq
            (.region [
              ⟨some 83, .bin .eql (.t 80) (.k (.str [114, 115, 97])), none⟩,
              ⟨some 82, .mv (.t 83), none⟩] [1, 6, 8, 13, 80, 82] [] [])
            (.cond (.t 82)
              .skip
              (.region [
                ⟨some 84, .bin .eql (.t 80) (.k (.str [])), none⟩,
                ⟨some 82, .mv (.t 84), none⟩] [1, 6, 8, 13, 80, 82] [] [])))
          (.cond (.t 82)
            (.seq
              (.region [
                ⟨some 86, .mv (.t 1), none⟩,
                ⟨some 87, .mv (.t 13), none⟩,
                ⟨some 88, .callVS (.t 86) [(.k (.str [114, 115, 97])), (.t 87)], none⟩,
                ⟨some 85, .mv (.t 88), none⟩,
                ⟨some 89, .extr (.t 85) 0, none⟩,
                ⟨some 90, .extr (.t 85) 1, none⟩,
                ⟨some 91, .extr (.t 85) 2, none⟩,
                ⟨some 14, .mv (.t 89), none⟩,
                ⟨some 15, .mv (.t 90), none⟩,
                ⟨some 16, .mv (.t 91), none⟩] [6, 8, 14, 15, 16] [] [[1], [13], [86, 87], [88], [], [], [85], [89], [90]])
              (.seq
                (.seq
                  (.region [
                    ⟨some 92, .mv (.t 16), none⟩,
                    ⟨some 93, .isNil 0 true (.t 92), none⟩] [6, 8, 14, 15, 16, 93] [] [])
                  (.cond (.t 93)
                    (.seq
                      (.region [
                        ⟨some 94, .mv (.t 16), none⟩,
                        ⟨some 95, .inv (.t 94) "Error" [], none⟩,
                        ⟨some 96, .bin .add (.k (.str [107, 101, 121, 32, 115, 121, 110, 116, 97, 120, 32, 101, 114, 114, 111, 114, 58, 32])) (.t 95), none⟩,
                        ⟨some 97, .mkIfc 5 (.t 96), none⟩,
                        ⟨some 4, .mv (.k .nilP), none⟩,
                        ⟨some 5, .mv (.t 97), none⟩] [4, 5] [] [[16], [94], [95], [96]])
                      .ret)
                    .skip))
                (.seq
                  (.seq
                    (.region [
                      ⟨some 98, .mv (.t 15), none⟩,
                      ⟨some 99, .bin .lss (.t 98) (.k (.int .i64 1024)), none⟩] [6, 8, 14, 15, 99] [] [])
                    (.cond (.t 99)
                      (.seq
                        (.region [
                          ⟨some 100, .mv (.t 15), none⟩,
                          ⟨some 101, .call 74 [(.t 100)], none⟩,
                          ⟨some 102, .bin .add (.k (.str [107, 101, 121, 32, 105, 115, 32, 116, 111, 111, 32, 115, 104, 111, 114, 116, 58, 32, 119, 97, 110, 116, 32, 49, 48, 50, 52, 32, 98, 105, 116, 115, 44, 32, 104, 97, 115, 32])) (.t 101), none⟩,
                          ⟨some 103, .bin .add (.t 102) (.k (.str [32, 98, 105, 116, 115])), none⟩,
                          ⟨some 104, .mkIfc 5 (.t 103), none⟩,
                          ⟨some 4, .mv (.k .nilP), none⟩,
                          ⟨some 5, .mv (.t 104), none⟩] [4, 5] [] [[15], [100], [101], [102], [103]])
                        .ret)
                      .skip))
                  (.seq
                    (.region [
                      ⟨some 105, .mv (.t 8), none⟩,
                      ⟨some 106, .mv (.t 14), none⟩,
                      ⟨some 107, .chk (.t 105), none⟩,
                      ⟨some 108, .fAddr 0 (.t 107), none⟩,
                      ⟨none, .store 1 (.t 108) (.t 106), none⟩] [6, 8] [] [[], [14], [105], [107]])
                    (.region [
                      ⟨some 109, .mv (.t 8), none⟩,
                      ⟨some 110, .chk (.t 109), none⟩,
                      ⟨some 111, .fAddr 1 (.t 110), none⟩,
                      ⟨none, .store 1 (.t 111) (.k (.str [114, 115, 97])), none⟩] [6, 8] [] [[], [109], [110]])))))
            (.seq
              (.region [
                ⟨some 113, .bin .eql (.t 80) (.k (.str [101, 100, 50, 53, 53, 49, 57])), none⟩,
                ⟨some 112, .mv (.t 113), none⟩] [1, 6, 8, 13, 112] [] [[80]])
              (.cond (.t 112)
                (.seq
                  (.seq
                    (.region [
                      ⟨some 114, .mv (.t 13), none⟩,
                      ⟨some 115, .len 1 (.t 114), none⟩,
                      ⟨some 116, .bin .neq (.t 115) (.k (.int .i64 32)), none⟩] [1, 6, 8, 13, 116] [] [[], [114]])
                    (.cond (.t 116)
                      (.seq
                        (.region [
                          ⟨some 117, .mv (.t 13), none⟩,
                          ⟨some 118, .len 1 (.t 117), none⟩,
                          ⟨some 119, .call 74 [(.t 118)], none⟩,
                          ⟨some 120, .bin .add (.k (.str [105, 110, 118, 97, 108, 105, 100, 32, 69, 100, 50, 53, 53, 49, 57, 32, 112, 117, 98, 108, 105, 99, 32, 107, 101, 121, 32, 115, 105, 122, 101, 58, 32])) (.t 119), none⟩,
                          ⟨some 121, .bin .add (.t 120) (.k (.str [32, 98, 121, 116, 101, 115])), none⟩,
                          ⟨some 122, .mkIfc 5 (.t 121), none⟩,
                          ⟨some 4, .mv (.k .nilP), none⟩,
                          ⟨some 5, .mv (.t 122), none⟩] [4, 5] [] [[13], [117], [118], [119], [120], [121]])
                        .ret)
                      .skip))
                  (.seq
                    (.region [
                      ⟨some 124, .mv (.t 1), none⟩,
                      ⟨some 125, .mv (.t 13), none⟩,
                      ⟨some 126, .callVS (.t 124) [(.k (.str [101, 100, 50, 53, 53, 49, 57])), (.t 125)], none⟩,
                      ⟨some 123, .mv (.t 126), none⟩,
                      ⟨some 127, .extr (.t 123) 0, none⟩,
                      ⟨some 128, .extr (.t 123) 1, none⟩,
                      ⟨some 129, .extr (.t 123) 2, none⟩,
                      ⟨some 17, .mv (.t 127), none⟩,
                      ⟨some 18, .mv (.t 128), none⟩,
                      ⟨some 19, .mv (.t 129), none⟩] [6, 8, 17, 19] [] [[1], [13], [124, 125], [126], [], [], [123], [127], [18, 128]])
                    (.seq
                      (.seq
                        (.region [
                          ⟨some 130, .mv (.t 19), none⟩,
                          ⟨some 131, .isNil 0 true (.t 130), none⟩] [6, 8, 17, 19, 131] [] [])
                        (.cond (.t 131)
                          (.seq
                            (.region [
                              ⟨some 132, .mv (.t 19), none⟩,
                              ⟨some 133, .inv (.t 132) "Error" [], none⟩,
                              ⟨some 134, .bin .add (.k (.str [107, 101, 121, 32, 115, 121, 110, 116, 97, 120, 32, 101, 114, 114, 111, 114, 58, 32])) (.t 133), none⟩,
                              ⟨some 135, .mkIfc 5 (.t 134), none⟩,
                              ⟨some 4, .mv (.k .nilP), none⟩,
                              ⟨some 5, .mv (.t 135), none⟩] [4, 5] [] [[19], [132], [133], [134]])
                            .ret)
                          .skip))
                      (.seq
                        (.region [
                          ⟨some 136, .mv (.t 8), none⟩,
                          ⟨some 137, .mv (.t 17), none⟩,
                          ⟨some 138, .chk (.t 136), none⟩,
                          ⟨some 139, .fAddr 0 (.t 138), none⟩,
                          ⟨none, .store 1 (.t 139) (.t 137), none⟩] [6, 8] [] [[], [17], [136], [138]])
                        (.region [
                          ⟨some 140, .mv (.t 8), none⟩,
                          ⟨some 141, .chk (.t 140), none⟩,
                          ⟨some 142, .fAddr 1 (.t 141), none⟩,
                          ⟨none, .store 1 (.t 142) (.k (.str [101, 100, 50, 53, 53, 49, 57])), none⟩] [6, 8] [] [[], [140], [141]])))))
                (.seq
                  (.region [
                    ⟨some 81, .mkIfc 5 (.k (.str [117, 110, 115, 117, 112, 112, 111, 114, 116, 101, 100, 32, 107, 101, 121, 32, 97, 108, 103, 111, 114, 105, 116, 104, 109])), none⟩,
                    ⟨some 4, .mv (.k .nilP), none⟩,
                    ⟨some 5, .mv (.t 81), none⟩] [4, 5] [] [])
                  .ret)))))))
    f_dkim_parsePublicKey_6)

def f_dkim_parsePublicKey_8 : SCode :=
  (.seq
    (.region [
      ⟨some 66, .mv (.t 11), none⟩,
      ⟨some 67, .call 72 [(.t 66), (.k (.str [32])), (.k (.str []))], none⟩,
      ⟨some 11, .mv (.t 67), none⟩] [1, 6, 8, 11] [] [[], [66]])
    (.seq
      (.region [
        ⟨some 69, .mv (.t 11), none⟩,
        ⟨some 70, .call 73 [(.t 69)], none⟩,
        ⟨some 68, .mv (.t 70), none⟩,
        ⟨some 71, .extr (.t 68) 0, none⟩,
        ⟨some 72, .extr (.t 68) 1, none⟩,
        ⟨some 13, .mv (.t 71), none⟩,
        ⟨some 7, .mv (.t 72), none⟩] [1, 6, 7, 8, 13] [] [[11], [69], [70], [], [68], [71]])
      (.seq
        (.seq
          (.region [
            ⟨some 73, .mv (.t 7), none⟩,
            ⟨some 74, .isNil 0 true (.t 73), none⟩] [1, 6, 7, 8, 13, 74] [] [])
          (.cond (.t 74)
            (.seq
              (.region [
                ⟨some 75, .mv (.t 7), none⟩,
                ⟨some 76, .inv (.t 75) "Error" [], none⟩,
                ⟨some 77, .bin .add (.k (.str [107, 101, 121, 32, 115, 121, 110, 116, 97, 120, 32, 101, 114, 114, 111, 114, 58, 32])) (.t 76), none⟩,
                ⟨some 78, .mkIfc 5 (.t 77), none⟩,
                ⟨some 4, .mv (.k .nilP), none⟩,
                ⟨some 5, .mv (.t 78), none⟩] [4, 5] [] [[7], [75], [76], [77]])
              .ret)
            .skip))
        f_dkim_parsePublicKey_7)))

def f_dkim_parsePublicKey_9 : SCode :=
  (.seq
    (.region [
      ⟨some 56, .mv (.t 6), none⟩,
      ⟨some 57, .look (.str []) true (.t 56) (.k (.str [112])), none⟩,
      ⟨some 55, .mv (.t 57), none⟩,
      ⟨some 58, .extr (.t 55) 0, none⟩,
      ⟨some 59, .extr (.t 55) 1, none⟩,
      ⟨some 11, .mv (.t 58), none⟩,
      ⟨some 12, .mv (.t 59), none⟩] [1, 6, 8, 11, 12] [] [[], [56], [57], [], [55], [58]])
    (.seq
      (.seq
        (.region [
          ⟨some 60, .mv (.t 12), none⟩,
          ⟨some 61, .un .not (.t 60), none⟩] [1, 6, 8, 11, 61] [] [[12]])
        (.cond (.t 61)
          (.seq
            (.region [
              ⟨some 62, .mkIfc 5 (.k (.str [107, 101, 121, 32, 115, 121, 110, 116, 97, 120, 32, 101, 114, 114, 111, 114, 58, 32, 109, 105, 115, 115, 105, 110, 103, 32, 112, 117, 98, 108, 105, 99, 32, 107, 101, 121, 32, 100, 97, 116, 97])), none⟩,
              ⟨some 4, .mv (.k .nilP), none⟩,
              ⟨some 5, .mv (.t 62), none⟩] [4, 5] [] [])
            .ret)
          .skip))
      (.seq
        (.seq
          (.region [
            ⟨some 63, .mv (.t 11), none⟩,
            ⟨some 64, .bin .eql (.t 63) (.k (.str [])), none⟩] [1, 6, 8, 11, 64] [] [])
          (.cond (.t 64)
            (.seq
              (.region [
                ⟨some 65, .mkIfc 5 (.k (.str [107, 101, 121, 32, 114, 101, 118, 111, 107, 101, 100])), none⟩,
                ⟨some 4, .mv (.k .nilP), none⟩,
                ⟨some 5, .mv (.t 65), none⟩] [4, 5] [] [])
              .ret)
            .skip))
        f_dkim_parsePublicKey_8)))

def f_dkim_parsePublicKey_10 : SCode :=
  (.seq
    (.seq
      (.region [
        ⟨some 45, .mv (.t 6), none⟩,
        ⟨some 46, .look (.str []) true (.t 45) (.k (.str [118])), none⟩,
        ⟨some 44, .mv (.t 46), none⟩,
        ⟨some 47, .extr (.t 44) 0, none⟩,
        ⟨some 48, .extr (.t 44) 1, none⟩,
        ⟨some 9, .mv (.t 47), none⟩,
        ⟨some 10, .mv (.t 48), none⟩] [1, 6, 8, 9, 10] [] [[], [45], [46], [], [44], [47]])
      (.seq
        (.region [
          ⟨some 49, .mv (.t 10), none⟩,
          ⟨some 50, .mv (.t 49), none⟩,
          ⟨some 51, .mv (.t 9), some (50, true)⟩,
          ⟨some 52, .bin .neq (.t 51) (.k (.str [68, 75, 73, 77, 49])), some (50, true)⟩,
          ⟨some 53, .pick (.t 50) (.t 52) (.k (.bool false)), none⟩] [1, 6, 8, 53] [] [[10], [49], [9], [51]])
        (.cond (.t 53)
          (.seq
            (.region [
              ⟨some 54, .mkIfc 5 (.k (.str [105, 110, 99, 111, 109, 112, 97, 116, 105, 98, 108, 101, 32, 112, 117, 98, 108, 105, 99, 32, 107, 101, 121, 32, 118, 101, 114, 115, 105, 111, 110])), none⟩,
              ⟨some 4, .mv (.k .nilP), none⟩,
              ⟨some 5, .mv (.t 54), none⟩] [4, 5] [] [])
            .ret)
          .skip)))
    f_dkim_parsePublicKey_9)

def c_dkim_parsePublicKey : SFn := ⟨2,
    (.seq
      (.region [
        ⟨some 4, .mv (.k .nilP), none⟩,
        ⟨some 5, .mv (.k .nilI), none⟩] [0, 1] [] [[4]])
      (.seq
        (.region [
          ⟨some 33, .mv (.t 0), none⟩,
          ⟨some 34, .call 47 [(.t 33)], none⟩,
          ⟨some 32, .mv (.t 34), none⟩,
          ⟨some 35, .extr (.t 32) 0, none⟩,
          ⟨some 36, .extr (.t 32) 1, none⟩,
          ⟨some 6, .mv (.t 35), none⟩,
          ⟨some 7, .mv (.t 36), none⟩] [1, 6, 7] [] [[0], [33], [34], [], [32], [35]])
        (.seq
          (.seq
            (.region [
              ⟨some 37, .mv (.t 7), none⟩,
              ⟨some 38, .isNil 0 true (.t 37), none⟩] [1, 6, 7, 38] [] [])
            (.cond (.t 38)
              (.seq
                (.region [
                  ⟨some 39, .mv (.t 7), none⟩,
                  ⟨some 40, .inv (.t 39) "Error" [], none⟩,
                  ⟨some 41, .bin .add (.k (.str [107, 101, 121, 32, 114, 101, 99, 111, 114, 100, 32, 101, 114, 114, 111, 114, 58, 32])) (.t 40), none⟩,
                  ⟨some 42, .mkIfc 5 (.t 41), none⟩,
                  ⟨some 4, .mv (.k .nilP), none⟩,
                  ⟨some 5, .mv (.t 42), none⟩] [4, 5] [] [[7], [39], [40], [41]])
                .ret)
              .skip))
          (.seq
            (.region [
              ⟨some 43, .alloc [.nilI, (.str []), .nilS, (.str []), .nilS, .nilS], none⟩,
              ⟨some 8, .mv (.t 43), none⟩] [1, 6, 8] [] [])
            f_dkim_parsePublicKey_10)))),
  [.t 4, .t 5]⟩

def l_dkim_parsePublicKey : Lay := { rg := [(0, ([0, 1], [])), (1, ([1, 6, 7], [])), (2, ([1, 6, 7, 38], [])), (3, ([4, 5], [])), (4, ([1, 6, 8], [])), (5, ([1, 6, 8, 9, 10], [])), (6, ([1, 6, 8, 53], [])), (7, ([4, 5], [])), (8, ([1, 6, 8, 11, 12], [])), (9, ([1, 6, 8, 11, 61], [])), (10, ([4, 5], [])), (11, ([1, 6, 8, 11, 64], [])), (12, ([4, 5], [])), (13, ([1, 6, 8, 11], [])), (14, ([1, 6, 7, 8, 13], [])), (15, ([1, 6, 7, 8, 13, 74], [])), (16, ([4, 5], [])), (17, ([1, 6, 8, 13, 80], [])), (18, ([4, 5], [])), (19, ([1, 6, 8, 13, 80, 82], [])), (20, ([1, 6, 8, 13, 80, 82], [])), (21, ([6, 8, 14, 15, 16], [])), (22, ([6, 8, 14, 15, 16, 93], [])), (23, ([4, 5], [])), (24, ([6, 8, 14, 15, 99], [])), (25, ([4, 5], [])), (26, ([6, 8], [])), (27, ([6, 8], [])), (28, ([1, 6, 8, 13, 112], [])), (29, ([1, 6, 8, 13, 116], [])), (30, ([4, 5], [])), (31, ([6, 8, 17, 19], [])), (32, ([6, 8, 17, 19, 131], [])), (33, ([4, 5], [])), (34, ([6, 8], [])), (35, ([6, 8], [])), (36, ([6, 8, 20, 21], [])), (37, ([6, 8, 20, 148], [])), (38, ([6, 8], [])), (39, ([6, 8, 22, 23], [])), (40, ([6, 8, 22, 159], [])), (41, ([6, 8], [])), (42, ([6, 8, 24, 25], [])), (43, ([6, 8, 24, 169], [])), (44, ([6, 8, 26], [])), (45, ([6, 8, 26, 27], [])), (46, ([6, 8, 26, 27, 172, 173, 174], [])), (47, ([6, 8, 26, 27, 172, 173, 174, 175], [])), (48, ([6, 8, 26, 27, 29, 172, 173, 174], [])), (49, ([6, 8, 26, 27, 172, 173, 174, 179], [])), (50, ([6, 8, 26, 27], [])), (51, ([6, 8, 26, 27, 172, 173, 174], [])), (52, ([6, 8, 26, 182], [])), (53, ([6, 8], [])), (54, ([8, 30, 31], [])), (55, ([8, 30, 192], [])), (56, ([8], [])), (57, ([4, 5], [])), (1000047, ([6, 8, 26, 27, 172, 173, 174], []))], dd := [(0, [[4]]), (1, [[0], [33], [34], [], [32], [35]]), (3, [[7], [39], [40], [41]]), (5, [[], [45], [46], [], [44], [47]]), (6, [[10], [49], [9], [51]]), (8, [[], [56], [57], [], [55], [58]]), (9, [[12]]), (13, [[], [66]]), (14, [[11], [69], [70], [], [68], [71]]), (16, [[7], [75], [76], [77]]), (21, [[1], [13], [86, 87], [88], [], [], [85], [89], [90]]), (23, [[16], [94], [95], [96]]), (25, [[15], [100], [101], [102], [103]]), (26, [[], [14], [105], [107]]), (27, [[], [109], [110]]), (28, [[80]]), (29, [[], [114]]), (30, [[13], [117], [118], [119], [120], [121]]), (31, [[1], [13], [124, 125], [126], [], [], [123], [127], [18, 128]]), (33, [[19], [132], [133], [134]]), (34, [[], [17], [136], [138]]), (35, [[], [140], [141]]), (36, [[], [144], [145], [], [143], [146]]), (38, [[], [20], [150], [149], [152]]), (39, [[], [155], [156], [], [154], [157]]), (41, [[], [22], [160], [162]]), (42, [[], [165], [166], [], [164], [167]]), (44, [[24], [170]]), (48, [[], [176]]), (49, [[29]]), (52, [[27]]), (53, [[], [26], [183], [185]]), (54, [[6], [188], [189], [], [187], [190]]), (56, [[], [30], [194], [193], [196]]), (57, [[8], [198]])], gh := [(57, [.frz 43])], cv := true }

/- dkim.ParseRecord -/
def c_dkim_ParseRecord : SFn := ⟨2,
    (.seq
      (.region [
        ⟨some 4, .alloc [(.str []), .nilS, .nilS, .nilS, (.str [])], none⟩,
        ⟨some 5, .mv (.k .nilI), none⟩] [0, 1, 4] [] [])
      (.seq
        (.region [
          ⟨some 9, .mv (.t 0), none⟩,
          ⟨some 10, .mv (.t 1), none⟩,
          ⟨some 11, .callS 75 [(.t 9), (.t 10)], none⟩,
          ⟨some 8, .mv (.t 11), none⟩,
          ⟨some 12, .extr (.t 8) 0, none⟩,
          ⟨some 13, .extr (.t 8) 1, none⟩,
          ⟨some 6, .mv (.t 12), none⟩,
          ⟨some 7, .mv (.t 13), none⟩] [4, 6, 7] [] [[0], [1], [9, 10], [11], [], [8], [12]])
        (.seq
          (.seq
            (.region [
              ⟨some 14, .mv (.t 7), none⟩,
              ⟨some 15, .isNil 0 true (.t 14), none⟩] [4, 6, 7, 15] [] [])
            (.cond (.t 15)
              (.seq
                (.region [
                  ⟨some 16, .agg [(.str []), .nilS, .nilS, .nilS, (.str [])] [], none⟩,
                  ⟨some 17, .mv (.t 7), none⟩,
                  ⟨none, .store 5 (.t 4) (.t 16), none⟩,
                  ⟨some 5, .mv (.t 17), none⟩] [4, 5] [] [[], [7], [16]])
                .ret)
              .skip))
          (.seq
            (.region [
              ⟨some 18, .mv (.t 6), none⟩,
              ⟨some 19, .chk (.t 18), none⟩,
              ⟨some 20, .fAddr 1 (.t 19), none⟩,
              ⟨some 21, .load none (.t 20), none⟩,
              ⟨some 22, .mv (.t 6), none⟩,
              ⟨some 23, .chk (.t 22), none⟩,
              ⟨some 24, .fAddr 2 (.t 23), none⟩,
              ⟨some 25, .load none (.t 24), none⟩,
              ⟨some 26, .mv (.t 6), none⟩,
              ⟨some 27, .chk (.t 26), none⟩,
              ⟨some 28, .fAddr 4 (.t 27), none⟩,
              ⟨some 29, .load none (.t 28), none⟩,
              ⟨some 30, .mv (.t 6), none⟩,
              ⟨some 31, .chk (.t 30), none⟩,
              ⟨some 32, .fAddr 5 (.t 31), none⟩,
              ⟨some 33, .load none (.t 32), none⟩,
              ⟨some 34, .mv (.t 6), none⟩,
              ⟨some 35, .chk (.t 34), none⟩,
              ⟨some 36, .fAddr 3 (.t 35), none⟩,
              ⟨some 37, .load none (.t 36), none⟩,
              ⟨some 38, .agg [(.str []), .nilS, .nilS, .nilS, (.str [])] [(0, 1, (.t 21)), (1, 1, (.t 25)), (2, 1, (.t 29)), (3, 1, (.t 33)), (4, 1, (.t 37))], none⟩,
              ⟨none, .store 5 (.t 4) (.t 38), none⟩,
              ⟨some 5, .mv (.k .nilI), none⟩] [4, 5] [] [])
            .ret)))),
  [.c (some 5) 4, .t 5]⟩

def l_dkim_ParseRecord : Lay := { rg := [(0, ([0, 1, 4], [])), (1, ([4, 6, 7], [])), (2, ([4, 6, 7, 15], [])), (3, ([4, 5], [])), (4, ([4, 5], []))], dd := [(1, [[0], [1], [9, 10], [11], [], [8], [12]]), (3, [[], [7], [16]])], sf := [75] }

/- impl.sizeOf -/
def c_impl_sizeOf : SFn := ⟨2,
    (.seq
      (.region [
        ⟨some 4, .mv (.k (.int .i64 0)), none⟩] [0, 1] [] [])
      (.seq
        (.seq
          (.region [
            ⟨some 5, .mv (.t 0), none⟩,
            ⟨some 6, .bin .eql (.t 5) (.k (.str [101, 100, 50, 53, 53, 49, 57])), none⟩] [1, 6] [] [[0]])
          (.cond (.t 6)
            (.seq
              (.region [
                ⟨some 4, .mv (.k (.int .i64 256)), none⟩] [4] [] [])
              .ret)
            .skip))
        (.seq
          (.region [
            ⟨some 7, .mv (.t 1), none⟩,
            ⟨some 8, .len 1 (.t 7), none⟩,
            ⟨some 9, .bin .mul (.k (.int .i64 8)) (.t 8), none⟩,
            ⟨some 4, .mv (.t 9), none⟩] [4] [] [[1], [7], [8]])
          .ret))),
  [.t 4]⟩

def l_impl_sizeOf : Lay := { rg := [(0, ([0, 1], [])), (1, ([1, 6], [])), (2, ([4], [])), (3, ([4], []))], dd := [(1, [[0]]), (3, [[1], [7], [8]])] }

/- impl.DRecord$1 -/
def c_impl_DRecord_1 : SFn := ⟨3,
    (.seq
      (.region [
        ⟨some 5, .mv (.k .nilI), none⟩,
        ⟨some 6, .mv (.k (.int .i64 0)), none⟩,
        ⟨some 7, .mv (.k .nilI), none⟩] [0, 1, 2] [] [[5], [6]])
      (.seq
        (.region [
          ⟨some 8, .mv (.t 1), none⟩,
          ⟨some 9, .call 76 [(.t 8)], none⟩,
          ⟨some 10, .mv (.t 0), none⟩,
          ⟨some 11, .mv (.t 1), none⟩,
          ⟨some 12, .call 77 [(.t 10), (.t 11)], none⟩,
          ⟨some 13, .fAddr 1 (.t 2), none⟩,
          ⟨none, .store 1 (.t 13) (.t 9), none⟩,
          ⟨some 14, .fAddr 2 (.t 2), none⟩,
          ⟨none, .store 1 (.t 14) (.t 12), none⟩] [0, 1] [] [[], [8], [], [], [10, 11], [], [9, 13], [2]])
        (.seq
          (.region [
            ⟨some 15, .mv (.t 0), none⟩,
            ⟨some 16, .mv (.t 1), none⟩,
            ⟨some 17, .agg [(.str []), .nilS] [(0, 1, (.t 15)), (1, 1, (.t 16))], none⟩,
            ⟨some 18, .mkIfc 6 (.t 17), none⟩,
            ⟨some 19, .mv (.t 0), none⟩,
            ⟨some 20, .mv (.t 1), none⟩,
            ⟨some 21, .call 77 [(.t 19), (.t 20)], none⟩,
            ⟨some 5, .mv (.t 18), none⟩,
            ⟨some 6, .mv (.t 21), none⟩,
            ⟨some 7, .mv (.k .nilI), none⟩] [5, 6, 7] [] [[], [], [15, 16], [17], [0], [1], [19, 20], [18], [21]])
          .ret))),
  [.t 5, .t 6, .t 7]⟩

def l_impl_DRecord_1 : Lay := { rg := [(0, ([0, 1, 2], [])), (1, ([0, 1], [])), (2, ([5, 6, 7], []))], dd := [(0, [[5], [6]]), (1, [[], [8], [], [], [10, 11], [], [9, 13], [2]]), (2, [[], [], [15, 16], [17], [0], [1], [19, 20], [18], [21]])] }

/- dkim.IsPermFail -/
def c_dkim_IsPermFail : SFn := ⟨1,
    (.seq
      (.region [
        ⟨some 2, .mv (.k (.bool false)), none⟩] [0] [] [])
      (.seq
        (.region [
          ⟨some 6, .mv (.t 0), none⟩,
          ⟨some 7, .assert 5 (.str []) true (.t 6), none⟩,
          ⟨some 5, .mv (.t 7), none⟩,
          ⟨some 8, .extr (.t 5) 0, none⟩,
          ⟨some 9, .extr (.t 5) 1, none⟩,
          ⟨some 3, .mv (.t 8), none⟩,
          ⟨some 4, .mv (.t 9), none⟩] [4] [] [[0], [6], [7], [], [5], [3, 8]])
        (.seq
          (.region [
            ⟨some 10, .mv (.t 4), none⟩,
            ⟨some 2, .mv (.t 10), none⟩] [2] [] [[4]])
          .ret))),
  [.t 2]⟩

def l_dkim_IsPermFail : Lay := { rg := [(0, ([0], [])), (1, ([4], [])), (2, ([2], []))], dd := [(1, [[0], [6], [7], [], [5], [3, 8]]), (2, [[4]])] }

/- impl.codeOf -/
def c_impl_codeOf : SFn := ⟨1,
    (.seq
      (.region [
        ⟨some 2, .mv (.k (.int .i64 0)), none⟩] [0] [] [])
      (.seq
        (.block 0
          (.seq
            (.region [
              ⟨some 4, .mv (.t 0), none⟩,
              ⟨some 5, .isNil 0 false (.t 4), none⟩,
              ⟨some 3, .mv (.t 5), none⟩] [0, 3] [] [[], [4]])
            (.cond (.t 3)
              (.seq
                (.region [
                  ⟨some 2, .mv (.k (.int .i64 0)), none⟩] [2] [] [])
                .ret)
              (.seq
                (.region [
                  ⟨some 7, .mv (.t 0), none⟩,
                  ⟨some 8, .call 78 [(.t 7)], none⟩,
                  ⟨some 6, .mv (.t 8), none⟩] [0, 6] [] [[], [7]])
                (.cond (.t 6)
                  (.seq
                    (.region [
                      ⟨some 2, .mv (.k (.int .i64 2)), none⟩] [2] [] [])
                    .ret)
                  (.seq
                    (.region [
                      ⟨some 10, .mv (.t 0), none⟩,
                      ⟨some 11, .call 79 [(.t 10)], none⟩,
                      ⟨some 9, .mv (.t 11), none⟩] [0, 9] [] [[], [10]])
                    (.cond (.t 9)
                      (.seq
                        (.region [
                          ⟨some 2, .mv (.k (.int .i64 3)), none⟩] [2] [] [])
                        .ret)
                      (.seq
                        (.region [
                          ⟨some 13, .mv (.t 0), none⟩,
                          ⟨some 14, .call 80 [(.t 13)], none⟩,
                          ⟨some 12, .mv (.t 14), none⟩] [12] [] [[0], [13]])
                        (.cond (.t 12)
                          (.seq
                            (.region [
                              ⟨some 2, .mv (.k (.int .i64 1)), none⟩] [2] [] [])
                            .ret)
                          .skip)))))))))
        (.seq
          (.region [
            ⟨some 2, .mv (.k (.int .i64 4)), none⟩] [2] [] [])
          .ret))),
  [.t 2]⟩

def l_impl_codeOf : Lay := { rg := [(0, ([0], [])), (1, ([0, 3], [])), (2, ([2], [])), (3, ([0, 6], [])), (4, ([2], [])), (5, ([0, 9], [])), (6, ([2], [])), (7, ([12], [])), (8, ([2], [])), (9, ([2], []))], dd := [(1, [[], [4]]), (3, [[], [7]]), (5, [[], [10]]), (7, [[0], [13]])] }

/- impl.DRecord -/
def c_impl_DRecord : SFn := ⟨1,
    (.seq
      (.region [
        ⟨some 2, .alloc [(.str []), .nilS, (.int .i64 0), .nilS, .nilS, .nilS, (.str []), (.bool false), (.bool false)], none⟩,
        ⟨some 3, .mv (.k (.int .i64 0)), none⟩] [0, 2] [] [])
      (.seq
        (.region [
          ⟨some 4, .alloc [(.str []), .nilS, (.int .i64 0), .nilS, .nilS, .nilS, (.str []), (.bool false), (.bool false)], none⟩] [0, 2, 4] [] [])
        (.seq
          (.seq
          (.region [
            ⟨some 8, .mv (.t 0), none⟩,
            ⟨some 9, .mkFn 82 [(.t 4)], none⟩,
            ⟨some 10, .callS 81 [(.t 8), (.t 9)], none⟩,
            ⟨some 7, .mv (.t 10), none⟩,
            ⟨some 11, .extr (.t 7) 0, none⟩,
            ⟨some 12, .extr (.t 7) 1, none⟩,
            ⟨some 5, .alloc [(.str []), .nilS, .nilS, .nilS, (.str [])], none⟩,
            ⟨none, .store 5 (.t 5) (.t 11), none⟩,
            ⟨some 6, .mv (.t 12), none⟩] [2, 4, 5, 6] [] [[0], [], [8, 9], [10], [], [7], [], [11]])
          (.ghost [.frz 5]))
          (.seq
            (.seq
              (.region [
                ⟨some 13, .mv (.t 6), none⟩,
                ⟨some 14, .isNil 0 true (.t 13), none⟩] [2, 4, 5, 6, 14] [] [])
              (.cond (.t 14)
                (.seq
                  (.region [
                    ⟨some 15, .agg [(.str []), .nilS, (.int .i64 0), .nilS, .nilS, .nilS, (.str []), (.bool false), (.bool false)] [], none⟩,
                    ⟨some 16, .mv (.t 6), none⟩,
                    ⟨some 17, .call 83 [(.t 16)], none⟩,
                    ⟨none, .store 9 (.t 2) (.t 15), none⟩,
                    ⟨some 3, .mv (.t 17), none⟩] [2, 3] [] [[], [6], [16], [15]])
                  .ret)
                .skip))
            (.seq
              (.region [
                ⟨some 18, .fAddr 0 (.t 5), none⟩,
                ⟨some 19, .fl (.load none (.t 18)), none⟩,
                ⟨some 20, .fAddr 1 (.t 5), none⟩,
                ⟨some 21, .fl (.load none (.t 20)), none⟩,
                ⟨some 22, .fAddr 2 (.t 5), none⟩,
                ⟨some 23, .fl (.load none (.t 22)), none⟩,
                ⟨some 24, .fAddr 3 (.t 5), none⟩,
                ⟨some 25, .fl (.load none (.t 24)), none⟩,
                ⟨some 26, .fAddr 4 (.t 5), none⟩,
                ⟨some 27, .fl (.load none (.t 26)), none⟩,
                ⟨some 28, .fAddr 0 (.t 4), none⟩,
                ⟨none, .store 1 (.t 28) (.t 19), none⟩,
                ⟨some 29, .fAddr 3 (.t 4), none⟩,
                ⟨none, .store 1 (.t 29) (.t 21), none⟩,
                ⟨some 30, .fAddr 4 (.t 4), none⟩,
                ⟨none, .store 1 (.t 30) (.t 23), none⟩,
                ⟨some 31, .fAddr 5 (.t 4), none⟩,
                ⟨none, .store 1 (.t 31) (.t 25), none⟩,
                ⟨some 32, .fAddr 6 (.t 4), none⟩,
                ⟨none, .store 1 (.t 32) (.t 27), none⟩] [2, 4, 5] [] [])
              (.seq
                (.region [
                  ⟨some 33, .fAddr 1 (.t 5), none⟩,
                  ⟨some 34, .fl (.load none (.t 33)), none⟩,
                  ⟨some 35, .isNil 1 false (.t 34), none⟩,
                  ⟨some 36, .fAddr 2 (.t 5), none⟩,
                  ⟨some 37, .fl (.load none (.t 36)), none⟩,
                  ⟨some 38, .isNil 1 false (.t 37), none⟩,
                  ⟨some 39, .fAddr 7 (.t 4), none⟩,
                  ⟨none, .store 1 (.t 39) (.t 35), none⟩,
                  ⟨some 40, .fAddr 8 (.t 4), none⟩,
                  ⟨none, .store 1 (.t 40) (.t 38), none⟩] [2, 4] [] [])
                (.seq
                  (.region [
                    ⟨some 41, .load (some 9) (.t 4), none⟩,
                    ⟨none, .store 9 (.t 2) (.t 41), none⟩,
                    ⟨some 3, .mv (.k (.int .i64 0)), none⟩] [2, 3] [] [[4], [41]])
                  .ret))))))),
  [.c (some 9) 2, .t 3]⟩

def l_impl_DRecord : Lay := { rg := [(0, ([0, 2], [])), (1, ([0, 2, 4], [])), (2, ([2, 4, 5, 6], [])), (3, ([2, 4, 5, 6, 14], [])), (4, ([2, 3], [])), (5, ([2, 4, 5], [])), (6, ([2, 4], [])), (7, ([2, 3], []))], dd := [(2, [[0], [], [8, 9], [10], [], [7], [], [11]]), (4, [[], [6], [16], [15]]), (7, [[4], [41]])], gh := [(2, [.frz 5])], sf := [81], fl := [19, 21, 23, 25, 27, 34, 37] }

/- spec.DValue -/
def b_spec_DValue_1 : SCode :=
  (.seq
    (.seq
      (.region [
        ⟨some 7, .mv (.t 6), none⟩,
        ⟨some 8, .mv (.t 0), none⟩,
        ⟨some 9, .len 1 (.t 8), none⟩,
        ⟨some 10, .bin .lss (.t 7) (.t 9), none⟩] [0, 1, 6, 10] [] [[], [], [8]])
      (.cond (.t 10)
        .skip
        (.exit 0)))
    (.seq
      (.block 1
        (.seq
          (.region [
            ⟨some 13, .mv (.t 0), none⟩,
            ⟨some 14, .mv (.t 6), none⟩,
            ⟨some 15, .iAddr 2 (.t 13) (.t 14), none⟩,
            ⟨some 16, .fAddr 0 (.t 15), none⟩,
            ⟨some 17, .load none (.t 16), none⟩,
            ⟨some 18, .mv (.t 1), none⟩,
            ⟨some 19, .bin .eql (.t 17) (.t 18), none⟩] [0, 1, 6, 19] [] [[], [], [13, 14], [15], [16]])
          (.cond (.t 19)
            (.seq
              (.region [
                ⟨some 20, .mv (.t 0), none⟩,
                ⟨some 21, .mv (.t 6), none⟩,
                ⟨some 22, .iAddr 2 (.t 20) (.t 21), none⟩,
                ⟨some 23, .fAddr 1 (.t 22), none⟩,
                ⟨some 24, .load none (.t 23), none⟩,
                ⟨some 4, .mv (.t 24), none⟩,
                ⟨some 5, .mv (.k (.bool true)), none⟩] [4, 5] [] [[0], [6], [20, 21], [22], [23], [24]])
              .ret)
            .skip)))
      (.region [
        ⟨some 11, .mv (.t 6), none⟩,
        ⟨some 12, .bin .add (.t 11) (.k (.int .i64 1)), none⟩,
        ⟨some 6, .mv (.t 12), none⟩] [0, 1, 6] [] [[], [11]])))

def t_spec_DValue_2 : SCode :=
  (.seq
    (.region [
      ⟨some 4, .mv (.k (.str [])), none⟩,
      ⟨some 5, .mv (.k (.bool false)), none⟩] [4, 5] [] [])
    .ret)

def c_spec_DValue : SFn := ⟨2,
    (.seq
      (.region [
        ⟨some 4, .mv (.k (.str [])), none⟩,
        ⟨some 5, .mv (.k (.bool false)), none⟩] [0, 1] [] [[4]])
      (.seq
        (.seq
          (.region [
            ⟨some 6, .mv (.k (.int .i64 0)), none⟩] [0, 1, 6] [] [])
          (.block 0
            (.loop [0, 1, 6]
              b_spec_DValue_1)))
        t_spec_DValue_2)),
  [.t 4, .t 5]⟩

def l_spec_DValue : Lay := { rg := [(0, ([0, 1], [])), (1, ([0, 1, 6], [])), (2, ([0, 1, 6, 10], [])), (3, ([0, 1, 6], [])), (4, ([0, 1, 6, 19], [])), (5, ([4, 5], [])), (6, ([4, 5], [])), (1000002, ([0, 1, 6], []))], dd := [(0, [[4]]), (2, [[], [], [8]]), (3, [[], [11]]), (4, [[], [], [13, 14], [15], [16]]), (5, [[0], [6], [20, 21], [22], [23], [24]])] }

/- spec.dBare -/
def b_spec_dBare_1 : SCode :=
  (.seq
    (.seq
      (.region [
        ⟨some 5, .mv (.t 4), none⟩,
        ⟨some 6, .mv (.t 0), none⟩,
        ⟨some 7, .len 0 (.t 6), none⟩,
        ⟨some 8, .bin .lss (.t 5) (.t 7), none⟩] [0, 3, 4, 8] [] [[], [], [6]])
      (.cond (.t 8)
        .skip
        (.exit 0)))
    (.seq
      (.block 1
        (.seq
          (.region [
            ⟨some 11, .mv (.t 0), none⟩,
            ⟨some 12, .mv (.t 4), none⟩,
            ⟨some 13, .iStr (.t 11) (.t 12), none⟩,
            ⟨some 14, .bin .neq (.t 13) (.k (.int .u8 32)), none⟩,
            ⟨some 15, .mv (.t 14), none⟩,
            ⟨some 16, .mv (.t 0), some (15, true)⟩,
            ⟨some 17, .mv (.t 4), some (15, true)⟩,
            ⟨some 18, .iStr (.t 16) (.t 17), some (15, true)⟩,
            ⟨some 19, .bin .neq (.t 18) (.k (.int .u8 13)), some (15, true)⟩,
            ⟨some 20, .pick (.t 15) (.t 19) (.k (.bool false)), none⟩,
            ⟨some 21, .mv (.t 20), none⟩,
            ⟨some 22, .mv (.t 0), some (21, true)⟩,
            ⟨some 23, .mv (.t 4), some (21, true)⟩,
            ⟨some 24, .iStr (.t 22) (.t 23), some (21, true)⟩,
            ⟨some 25, .bin .neq (.t 24) (.k (.int .u8 10)), some (21, true)⟩,
            ⟨some 26, .pick (.t 21) (.t 25) (.k (.bool false)), none⟩] [0, 3, 4, 26] [] [[], [], [11, 12], [13], [14], [], [], [16, 17], [18], [15, 19], [20], [], [], [22, 23], [24]])
          (.cond (.t 26)
            (.region [
              ⟨some 27, .mv (.t 3), none⟩,
              ⟨some 28, .mv (.t 0), none⟩,
              ⟨some 29, .mv (.t 4), none⟩,
              ⟨some 30, .iStr (.t 28) (.t 29), none⟩,
              ⟨some 31, .mkSl 1 1 [(.int .u8 0)] [(0, (.t 30))], none⟩,
              ⟨some 32, .app 1 1 (.t 27) (.t 31), none⟩,
              ⟨some 3, .mv (.t 32), none⟩] [0, 3, 4] [31] [[], [], [], [28, 29], [30], [27, 31]])
            .skip)))
      (.region [
        ⟨some 9, .mv (.t 4), none⟩,
        ⟨some 10, .bin .add (.t 9) (.k (.int .i64 1)), none⟩,
        ⟨some 4, .mv (.t 10), none⟩] [0, 3, 4] [] [[], [9]])))

def t_spec_dBare_2 : SCode :=
  (.seq
    (.region [
      ⟨some 33, .mv (.t 3), none⟩,
      ⟨some 34, .cBytesStr (.t 33), none⟩,
      ⟨some 2, .mv (.t 34), none⟩] [2] [32] [[3], [33]])
    .ret)

def c_spec_dBare : SFn := ⟨1,
    (.seq
      (.region [
        ⟨some 2, .mv (.k (.str [])), none⟩] [0] [] [])
      (.seq
        (.region [
          ⟨some 3, .mv (.k .nilS), none⟩] [0, 3] [] [])
        (.seq
          (.seq
            (.region [
              ⟨some 4, .mv (.k (.int .i64 0)), none⟩] [0, 3, 4] [] [])
            (.block 0
              (.loop [0, 3, 4]
                b_spec_dBare_1)))
          t_spec_dBare_2))),
  [.t 2]⟩

def l_spec_dBare : Lay := { rg := [(0, ([0], [])), (1, ([0, 3], [])), (2, ([0, 3, 4], [])), (3, ([0, 3, 4, 8], [])), (4, ([0, 3, 4], [])), (5, ([0, 3, 4, 26], [])), (6, ([0, 3, 4], [31])), (7, ([2], [32])), (1000003, ([0, 3, 4], []))], dd := [(3, [[], [], [6]]), (4, [[], [9]]), (5, [[], [], [11, 12], [13], [14], [], [], [16, 17], [18], [15, 19], [20], [], [], [22, 23], [24]]), (6, [[], [], [], [28, 29], [30], [27, 31]]), (7, [[3], [33]])] }

/- spec.dBytes64 -/
def b_spec_dBytes64_1 : SCode :=
  (.seq
    (.seq
      (.region [
        ⟨some 31, .mv (.t 11), none⟩,
        ⟨some 32, .bin .lss (.t 31) (.k (.int .i64 64)), none⟩] [0, 4, 5, 6, 7, 8, 9, 10, 11, 32] [] [])
      (.cond (.t 32)
        .skip
        (.exit 4)))
    (.seq
      (.block 5
        (.seq
          (.region [
            ⟨some 35, .mv (.t 11), none⟩,
            ⟨some 36, .iStr (.k (.str [65, 66, 67, 68, 69, 70, 71, 72, 73, 74, 75, 76, 77, 78, 79, 80, 81, 82, 83, 84, 85, 86, 87, 88, 89, 90, 97, 98, 99, 100, 101, 102, 103, 104, 105, 106, 107, 108, 109, 110, 111, 112, 113, 114, 115, 116, 117, 118, 119, 120, 121, 122, 48, 49, 50, 51, 52, 53, 54, 55, 56, 57, 43, 47])) (.t 35), none⟩,
            ⟨some 37, .mv (.t 9), none⟩,
            ⟨some 38, .bin .eql (.t 36) (.t 37), none⟩] [0, 4, 5, 6, 7, 8, 9, 10, 11, 38] [] [[], [35]])
          (.cond (.t 38)
            (.region [
              ⟨some 39, .mv (.t 11), none⟩,
              ⟨some 10, .mv (.t 39), none⟩] [0, 4, 5, 6, 7, 8, 9, 10, 11] [] [])
            .skip)))
      (.region [
        ⟨some 33, .mv (.t 11), none⟩,
        ⟨some 34, .bin .add (.t 33) (.k (.int .i64 1)), none⟩,
        ⟨some 11, .mv (.t 34), none⟩] [0, 4, 5, 6, 7, 8, 9, 10, 11] [] [[], [33]])))

def t_spec_dBytes64_2 : SCode :=
  (.seq
    (.seq
      (.region [
        ⟨some 40, .mv (.t 9), none⟩,
        ⟨some 41, .bin .eql (.t 40) (.k (.int .u8 61)), none⟩,
        ⟨some 42, .mv (.t 41), none⟩,
        ⟨some 43, .mv (.t 8), some (42, true)⟩,
        ⟨some 44, .bin .gtr (.t 43) (.k (.int .i64 1)), some (42, true)⟩,
        ⟨some 45, .pick (.t 42) (.t 44) (.k (.bool false)), none⟩,
        ⟨some 46, .mv (.t 45), none⟩,
        ⟨some 47, .mv (.t 5), some (46, true)⟩,
        ⟨some 48, .bin .add (.t 47) (.k (.int .i64 4)), some (46, true)⟩,
        ⟨some 49, .mv (.t 0), some (46, true)⟩,
        ⟨some 50, .len 0 (.t 49), some (46, true)⟩,
        ⟨some 51, .bin .eql (.t 48) (.t 50), some (46, true)⟩,
        ⟨some 52, .pick (.t 46) (.t 51) (.k (.bool false)), none⟩] [0, 4, 5, 6, 7, 8, 10, 52] [] [[9], [40], [41], [], [43], [42, 44], [45], [], [47], [], [49], [48, 50]])
      (.cond (.t 52)
        (.region [
          ⟨some 53, .mv (.t 7), none⟩,
          ⟨some 54, .bin .add (.t 53) (.k (.int .i64 1)), none⟩,
          ⟨some 7, .mv (.t 54), none⟩,
          ⟨some 10, .mv (.k (.int .i64 0)), none⟩] [0, 4, 5, 6, 7, 8, 10] [] [[], [53], [54]])
        (.seq
          (.region [
            ⟨some 55, .mv (.t 10), none⟩,
            ⟨some 56, .bin .lss (.t 55) (.k (.int .i64 0)), none⟩,
            ⟨some 57, .mv (.t 56), none⟩,
            ⟨some 58, .mv (.t 7), some (57, false)⟩,
            ⟨some 59, .bin .gtr (.t 58) (.k (.int .i64 0)), some (57, false)⟩,
            ⟨some 60, .pick (.t 57) (.k (.bool true)) (.t 59), none⟩] [0, 4, 5, 6, 7, 8, 10, 60] [] [[], [55], [56], [], [58]])
          (.cond (.t 60)
            (.seq
              (.region [
                ⟨some 2, .mv (.k (.str [])), none⟩,
                ⟨some 3, .mv (.k (.bool false)), none⟩] [2, 3] [78] [])
              .ret)
            .skip))))
    (.region [
      ⟨some 61, .mv (.t 6), none⟩,
      ⟨some 62, .bin .mul (.t 61) (.k (.int .i64 64)), none⟩,
      ⟨some 63, .mv (.t 10), none⟩,
      ⟨some 64, .bin .add (.t 62) (.t 63), none⟩,
      ⟨some 6, .mv (.t 64), none⟩] [0, 4, 5, 6, 7, 8] [] [[], [61], [10], [62, 63]]))

def t_spec_dBytes64_3 : SCode :=
  (.region [
    ⟨some 24, .mv (.t 8), none⟩,
    ⟨some 25, .bin .add (.t 24) (.k (.int .i64 1)), none⟩,
    ⟨some 8, .mv (.t 25), none⟩] [0, 4, 5, 6, 7, 8] [] [[], [24]])

def b_spec_dBytes64_4 : SCode :=
  (.seq
    (.seq
      (.region [
        ⟨some 22, .mv (.t 8), none⟩,
        ⟨some 23, .bin .lss (.t 22) (.k (.int .i64 4)), none⟩] [0, 4, 5, 6, 7, 8, 23] [] [])
      (.cond (.t 23)
        .skip
        (.exit 2)))
    (.seq
      (.block 3
        (.seq
          (.region [
            ⟨some 26, .mv (.t 0), none⟩,
            ⟨some 27, .mv (.t 5), none⟩,
            ⟨some 28, .mv (.t 8), none⟩,
            ⟨some 29, .bin .add (.t 27) (.t 28), none⟩,
            ⟨some 30, .iStr (.t 26) (.t 29), none⟩,
            ⟨some 9, .mv (.t 30), none⟩,
            ⟨some 10, .mv (.k (.int .i64 (-1))), none⟩] [0, 4, 5, 6, 7, 8, 9, 10] [] [[], [], [], [27, 28], [26, 29], [30]])
          (.seq
            (.seq
              (.region [
                ⟨some 11, .mv (.k (.int .i64 0)), none⟩] [0, 4, 5, 6, 7, 8, 9, 10, 11] [] [])
              (.block 4
                (.loop [0, 4, 5, 6, 7, 8, 9, 10, 11]
                  b_spec_dBytes64_1)))
            t_spec_dBytes64_2)))
      t_spec_dBytes64_3))

def t_spec_dBytes64_5 : SCode :=
  (.region [
    ⟨some 65, .mv (.t 4), none⟩,
    ⟨some 66, .mv (.t 6), none⟩,
    ⟨some 67, .bin .shr (.t 66) (.k (.int .u64 16)), none⟩,
    ⟨some 68, .cInt .u8 (.t 67), none⟩,
    ⟨some 69, .mv (.t 6), none⟩,
    ⟨some 70, .bin .shr (.t 69) (.k (.int .u64 8)), none⟩,
    ⟨some 71, .cInt .u8 (.t 70), none⟩,
    ⟨some 72, .mv (.t 6), none⟩,
    ⟨some 73, .cInt .u8 (.t 72), none⟩,
    ⟨some 74, .mkSl 1 3 [(.int .u8 0)] [(0, (.t 68)), (1, (.t 71)), (2, (.t 73))], none⟩,
    ⟨some 75, .mv (.t 7), none⟩,
    ⟨some 76, .bin .sub (.k (.int .i64 3)) (.t 75), none⟩,
    ⟨some 77, .slSl 1 (.t 74) none (some (.t 76)), none⟩,
    ⟨some 78, .app 1 1 (.t 65) (.t 77), none⟩,
    ⟨some 4, .mv (.t 78), none⟩] [0, 4, 5] [74] [[], [], [66], [67], [], [69], [70], [6], [72], [68, 71, 73], [7], [75], [74, 76], [65, 77]])

def t_spec_dBytes64_6 : SCode :=
  (.region [
    ⟨some 20, .mv (.t 5), none⟩,
    ⟨some 21, .bin .add (.t 20) (.k (.int .i64 4)), none⟩,
    ⟨some 5, .mv (.t 21), none⟩] [0, 4, 5] [] [[], [20]])

def b_spec_dBytes64_7 : SCode :=
  (.seq
    (.seq
      (.region [
        ⟨some 16, .mv (.t 5), none⟩,
        ⟨some 17, .mv (.t 0), none⟩,
        ⟨some 18, .len 0 (.t 17), none⟩,
        ⟨some 19, .bin .lss (.t 16) (.t 18), none⟩] [0, 4, 5, 19] [] [[], [], [17]])
      (.cond (.t 19)
        .skip
        (.exit 0)))
    (.seq
      (.block 1
        (.seq
          (.region [
            ⟨some 6, .mv (.k (.int .i64 0)), none⟩,
            ⟨some 7, .mv (.k (.int .i64 0)), none⟩] [0, 4, 5, 6, 7] [] [])
          (.seq
            (.seq
              (.region [
                ⟨some 8, .mv (.k (.int .i64 0)), none⟩] [0, 4, 5, 6, 7, 8] [] [])
              (.block 2
                (.loop [0, 4, 5, 6, 7, 8]
                  b_spec_dBytes64_4)))
            t_spec_dBytes64_5)))
      t_spec_dBytes64_6))

def t_spec_dBytes64_8 : SCode :=
  (.seq
    (.region [
      ⟨some 79, .mv (.t 4), none⟩,
      ⟨some 80, .cBytesStr (.t 79), none⟩,
      ⟨some 2, .mv (.t 80), none⟩,
      ⟨some 3, .mv (.k (.bool true)), none⟩] [2, 3] [78] [[4], [79], [80]])
    .ret)

def c_spec_dBytes64 : SFn := ⟨1,
    (.seq
      (.region [
        ⟨some 2, .mv (.k (.str [])), none⟩,
        ⟨some 3, .mv (.k (.bool false)), none⟩] [0] [] [[2]])
      (.seq
        (.seq
          (.region [
            ⟨some 12, .mv (.t 0), none⟩,
            ⟨some 13, .len 0 (.t 12), none⟩,
            ⟨some 14, .bin .rem (.t 13) (.k (.int .i64 4)), none⟩,
            ⟨some 15, .bin .neq (.t 14) (.k (.int .i64 0)), none⟩] [0, 15] [] [[], [12], [13]])
          (.cond (.t 15)
            (.seq
              (.region [
                ⟨some 2, .mv (.k (.str [])), none⟩,
                ⟨some 3, .mv (.k (.bool false)), none⟩] [2, 3] [] [])
              .ret)
            .skip))
        (.seq
          (.region [
            ⟨some 4, .mv (.k .nilS), none⟩] [0, 4] [] [])
          (.seq
            (.seq
              (.region [
                ⟨some 5, .mv (.k (.int .i64 0)), none⟩] [0, 4, 5] [] [])
              (.block 0
                (.loop [0, 4, 5]
                  b_spec_dBytes64_7)))
            t_spec_dBytes64_8)))),
  [.t 2, .t 3]⟩

def l_spec_dBytes64 : Lay := { rg := [(0, ([0], [])), (1, ([0, 15], [])), (2, ([2, 3], [])), (3, ([0, 4], [])), (4, ([0, 4, 5], [])), (5, ([0, 4, 5, 19], [])), (6, ([0, 4, 5], [])), (7, ([0, 4, 5, 6, 7], [])), (8, ([0, 4, 5, 6, 7, 8], [])), (9, ([0, 4, 5, 6, 7, 8, 23], [])), (10, ([0, 4, 5, 6, 7, 8], [])), (11, ([0, 4, 5, 6, 7, 8, 9, 10], [])), (12, ([0, 4, 5, 6, 7, 8, 9, 10, 11], [])), (13, ([0, 4, 5, 6, 7, 8, 9, 10, 11, 32], [])), (14, ([0, 4, 5, 6, 7, 8, 9, 10, 11], [])), (15, ([0, 4, 5, 6, 7, 8, 9, 10, 11, 38], [])), (16, ([0, 4, 5, 6, 7, 8, 9, 10, 11], [])), (17, ([0, 4, 5, 6, 7, 8, 10, 52], [])), (18, ([0, 4, 5, 6, 7, 8, 10], [])), (19, ([0, 4, 5, 6, 7, 8, 10, 60], [])), (20, ([2, 3], [78])), (21, ([0, 4, 5, 6, 7, 8], [])), (22, ([0, 4, 5], [74])), (23, ([2, 3], [78])), (1000005, ([0, 4, 5], [])), (1000009, ([0, 4, 5, 6, 7, 8], [])), (1000013, ([0, 4, 5, 6, 7, 8, 9, 10, 11], []))], dd := [(0, [[2]]), (1, [[], [12], [13]]), (5, [[], [], [17]]), (6, [[], [20]]), (10, [[], [24]]), (11, [[], [], [], [27, 28], [26, 29], [30]]), (14, [[], [33]]), (15, [[], [35]]), (17, [[9], [40], [41], [], [43], [42, 44], [45], [], [47], [], [49], [48, 50]]), (18, [[], [53], [54]]), (19, [[], [55], [56], [], [58]]), (21, [[], [61], [10], [62, 63]]), (22, [[], [], [66], [67], [], [69], [70], [6], [72], [68, 71, 73], [7], [75], [74, 76], [65, 77]]), (23, [[4], [79], [80]])] }

/- spec.dAmong -/
def b_spec_dAmong_1 : SCode :=
  (.seq
    (.seq
      (.region [
        ⟨some 6, .mv (.t 5), none⟩,
        ⟨some 7, .mv (.t 1), none⟩,
        ⟨some 8, .len 1 (.t 7), none⟩,
        ⟨some 9, .bin .lss (.t 6) (.t 8), none⟩] [0, 1, 5, 9] [] [[], [], [7]])
      (.cond (.t 9)
        .skip
        (.exit 0)))
    (.seq
      (.block 1
        (.seq
          (.region [
            ⟨some 12, .mv (.t 1), none⟩,
            ⟨some 13, .mv (.t 5), none⟩,
            ⟨some 14, .iAddr 1 (.t 12) (.t 13), none⟩,
            ⟨some 15, .load none (.t 14), none⟩,
            ⟨some 16, .mv (.t 0), none⟩,
            ⟨some 17, .bin .eql (.t 15) (.t 16), none⟩] [0, 1, 5, 17] [] [[], [], [12, 13], [14]])
          (.cond (.t 17)
            (.seq
              (.region [
                ⟨some 4, .mv (.k (.bool true)), none⟩] [4] [] [])
              .ret)
            .skip)))
      (.region [
        ⟨some 10, .mv (.t 5), none⟩,
        ⟨some 11, .bin .add (.t 10) (.k (.int .i64 1)), none⟩,
        ⟨some 5, .mv (.t 11), none⟩] [0, 1, 5] [] [[], [10]])))

def t_spec_dAmong_2 : SCode :=
  (.seq
    (.region [
      ⟨some 4, .mv (.k (.bool false)), none⟩] [4] [] [])
    .ret)

def c_spec_dAmong : SFn := ⟨2,
    (.seq
      (.region [
        ⟨some 4, .mv (.k (.bool false)), none⟩] [0, 1] [] [])
      (.seq
        (.seq
          (.region [
            ⟨some 5, .mv (.k (.int .i64 0)), none⟩] [0, 1, 5] [] [])
          (.block 0
            (.loop [0, 1, 5]
              b_spec_dAmong_1)))
        t_spec_dAmong_2)),
  [.t 4]⟩

def l_spec_dAmong : Lay := { rg := [(0, ([0, 1], [])), (1, ([0, 1, 5], [])), (2, ([0, 1, 5, 9], [])), (3, ([0, 1, 5], [])), (4, ([0, 1, 5, 17], [])), (5, ([4], [])), (6, ([4], [])), (1000002, ([0, 1, 5], []))], dd := [(2, [[], [], [7]]), (3, [[], [10]]), (4, [[], [], [12, 13], [14]])] }

end Wax

/- Functions as the abstract machine has them. -/
namespace Wax
open Go (IntKind)

/- slices.Clone[[]byte,byte] -/
def c_slices_Clone : SFn := ⟨1,
    (.seq
      (.region [
        ⟨some 2, .mv (.k .nilS), none⟩] [0] [] [])
      (.seq
        (.seq
          (.region [
            ⟨some 3, .mv (.t 0), none⟩,
            ⟨some 4, .isNil 1 false (.t 3), none⟩] [0, 4] [] [])
          (.cond (.t 4)
            (.seq
              (.region [
                ⟨some 2, .mv (.k .nilS), none⟩] [2] [] [])
              .ret)
            .skip))
        (.seq
          (.region [
            ⟨some 5, .mkSl 1 0 [(.int .u8 0)] [], none⟩,
            ⟨some 6, .mv (.t 0), none⟩,
            ⟨some 7, .app 1 1 (.t 5) (.t 6), none⟩,
            ⟨some 2, .mv (.t 7), none⟩] [2] [] [[], [0], [5, 6]])
          .ret))),
  [.t 2]⟩

def l_slices_Clone : Lay := { rg := [(0, ([0], [])), (1, ([0, 4], [])), (2, ([2], [])), (3, ([2], []))], dd := [(3, [[], [0], [5, 6]])] }

end Wax

/- Functions as the abstract machine has them. -/
namespace Wax
open Go (IntKind)

/- spec.DRead -/
def f_spec_DRead_1 : SCode :=
  (.seq
    (.region [
      ⟨some 148, .mv (.t 4), none⟩,
      ⟨some 149, .call 84 [(.t 148), (.k (.str [110]))], none⟩,
      ⟨some 147, .mv (.t 149), none⟩,
      ⟨some 150, .extr (.t 147) 0, none⟩,
      ⟨some 151, .extr (.t 147) 1, none⟩,
      ⟨some 152, .fAddr 6 (.t 15), none⟩,
      ⟨none, .store 1 (.t 152) (.t 150), none⟩] [2, 15] [] [[4], [148], [149], [], [147, 151]])
    (.seq
      (.region [
        ⟨some 153, .load (some 9) (.t 15), none⟩,
        ⟨none, .store 9 (.t 2) (.t 153), none⟩,
        ⟨some 3, .mv (.k (.int .i64 0)), none⟩] [2, 3] [15] [[15], [153]])
      .ret))

def f_spec_DRead_2 : SCode :=
  (.seq
    (.seq
      (.region [
        ⟨some 139, .mv (.t 4), none⟩,
        ⟨some 140, .call 84 [(.t 139), (.k (.str [116]))], none⟩,
        ⟨some 138, .mv (.t 140), none⟩,
        ⟨some 141, .extr (.t 138) 0, none⟩,
        ⟨some 142, .extr (.t 138) 1, none⟩,
        ⟨some 19, .mv (.t 141), none⟩,
        ⟨some 20, .mv (.t 142), none⟩] [2, 4, 15, 19, 20] [] [[], [139], [140], [], [138], [141]])
      (.seq
        (.region [
          ⟨some 143, .mv (.t 20), none⟩] [2, 4, 15, 19, 143] [] [])
        (.cond (.t 143)
          (.region [
            ⟨some 144, .mv (.t 19), none⟩,
            ⟨some 145, .call 70 [(.t 144)], none⟩,
            ⟨some 146, .fAddr 5 (.t 15), none⟩,
            ⟨none, .store 1 (.t 146) (.t 145), none⟩] [2, 4, 15] [] [[19], [144]])
          .skip)))
    f_spec_DRead_1)

def f_spec_DRead_3 : SCode :=
  (.seq
    (.region [
      ⟨some 122, .mv (.t 4), none⟩,
      ⟨some 123, .call 84 [(.t 122), (.k (.str [115]))], none⟩,
      ⟨some 121, .mv (.t 123), none⟩,
      ⟨some 124, .extr (.t 121) 0, none⟩,
      ⟨some 125, .extr (.t 121) 1, none⟩,
      ⟨some 18, .mv (.t 124), none⟩,
      ⟨some 17, .mv (.t 125), none⟩] [2, 4, 15, 17, 18] [] [[], [122], [123], [], [121], [124]])
    (.seq
      (.region [
        ⟨some 126, .mv (.t 17), none⟩,
        ⟨some 127, .un .not (.t 126), none⟩,
        ⟨some 128, .fAddr 8 (.t 15), none⟩,
        ⟨none, .store 1 (.t 128) (.t 127), none⟩] [2, 4, 15, 17, 18] [] [[], [126]])
      (.seq
        (.seq
          (.region [
            ⟨some 129, .mv (.t 17), none⟩] [2, 4, 15, 18, 129] [] [])
          (.cond (.t 129)
            (.seq
              (.region [
                ⟨some 130, .mv (.t 18), none⟩,
                ⟨some 131, .call 70 [(.t 130)], none⟩,
                ⟨some 132, .fAddr 4 (.t 15), none⟩,
                ⟨none, .store 1 (.t 132) (.t 131), none⟩] [2, 4, 15] [] [[18], [130]])
              (.seq
                (.region [
                  ⟨some 133, .fAddr 4 (.t 15), none⟩,
                  ⟨some 134, .load none (.t 133), none⟩,
                  ⟨some 135, .call 87 [(.k (.str [42])), (.t 134)], none⟩] [2, 4, 15, 135] [] [[], [133]])
                (.cond (.t 135)
                  (.region [
                    ⟨some 136, .fAddr 8 (.t 15), none⟩,
                    ⟨none, .store 1 (.t 136) (.k (.bool true)), none⟩,
                    ⟨some 137, .fAddr 4 (.t 15), none⟩,
                    ⟨none, .store 1 (.t 137) (.k .nilS), none⟩] [2, 4, 15] [] [[], [136]])
                  .skip)))
            .skip))
        f_spec_DRead_2)))

def f_spec_DRead_4 : SCode :=
  (.seq
    (.seq
    (.region [
      ⟨some 102, .mv (.t 12), none⟩,
      ⟨some 103, .mv (.t 10), none⟩,
      ⟨some 104, .cStrBytes (.t 103), none⟩,
      ⟨some 105, .mv (.t 10), none⟩,
      ⟨some 106, .len 0 (.t 105), none⟩,
      ⟨some 107, .bin .mul (.k (.int .i64 8)) (.t 106), none⟩,
      ⟨some 108, .agg [(.str []), .nilS, (.int .i64 0), .nilS, .nilS, .nilS, (.str []), (.bool false), (.bool false)] [(0, 1, (.t 102)), (1, 1, (.t 104)), (2, 1, (.t 107))], none⟩,
      ⟨some 15, .alloc [(.str []), .nilS, (.int .i64 0), .nilS, .nilS, .nilS, (.str []), (.bool false), (.bool false)], none⟩,
      ⟨none, .store 9 (.t 15) (.t 108), none⟩] [2, 4, 15] [] [[12], [], [103], [10], [105], [106], [102, 104, 107]])
    (.ghost [.frz 104]))
    (.seq
      (.region [
        ⟨some 110, .mv (.t 4), none⟩,
        ⟨some 111, .call 84 [(.t 110), (.k (.str [104]))], none⟩,
        ⟨some 109, .mv (.t 111), none⟩,
        ⟨some 112, .extr (.t 109) 0, none⟩,
        ⟨some 113, .extr (.t 109) 1, none⟩,
        ⟨some 16, .mv (.t 112), none⟩,
        ⟨some 17, .mv (.t 113), none⟩] [2, 4, 15, 16, 17] [] [[], [110], [111], [], [109], [112]])
      (.seq
        (.region [
          ⟨some 114, .mv (.t 17), none⟩,
          ⟨some 115, .un .not (.t 114), none⟩,
          ⟨some 116, .fAddr 7 (.t 15), none⟩,
          ⟨none, .store 1 (.t 116) (.t 115), none⟩] [2, 4, 15, 16, 17] [] [[], [114]])
        (.seq
          (.seq
            (.region [
              ⟨some 117, .mv (.t 17), none⟩] [2, 4, 15, 16, 117] [] [])
            (.cond (.t 117)
              (.region [
                ⟨some 118, .mv (.t 16), none⟩,
                ⟨some 119, .call 70 [(.t 118)], none⟩,
                ⟨some 120, .fAddr 3 (.t 15), none⟩,
                ⟨none, .store 1 (.t 120) (.t 119), none⟩] [2, 4, 15] [] [[16], [118]])
              .skip))
          f_spec_DRead_3))))

def f_spec_DRead_5 : SCode :=
  (.seq
    (.region [
      ⟨some 63, .mv (.t 12), none⟩,
      ⟨some 64, .bin .eql (.t 63) (.k (.str [114, 115, 97])), none⟩,
      ⟨some 65, .mv (.t 64), none⟩,
      ⟨some 66, .mv (.t 10), some (65, true)⟩,
      ⟨some 67, .len 0 (.t 66), some (65, true)⟩,
      ⟨some 68, .bin .mul (.k (.int .i64 8)) (.t 67), some (65, true)⟩,
      ⟨some 69, .bin .lss (.t 68) (.k (.int .i64 1024)), some (65, true)⟩,
      ⟨some 70, .pick (.t 65) (.t 69) (.k (.bool false)), none⟩,
      ⟨some 71, .mv (.t 70), none⟩,
      ⟨some 72, .mv (.t 12), some (71, false)⟩,
      ⟨some 73, .bin .eql (.t 72) (.k (.str [101, 100, 50, 53, 53, 49, 57])), some (71, false)⟩,
      ⟨some 74, .mv (.t 73), some (71, false)⟩,
      ⟨some 75, .mv (.t 10), some (74, true)⟩,
      ⟨some 76, .len 0 (.t 75), some (74, true)⟩,
      ⟨some 77, .bin .neq (.t 76) (.k (.int .i64 32)), some (74, true)⟩,
      ⟨some 78, .pick (.t 74) (.t 77) (.k (.bool false)), some (71, false)⟩,
      ⟨some 79, .pick (.t 71) (.k (.bool true)) (.t 78), none⟩,
      ⟨some 14, .mv (.t 79), none⟩] [2, 4, 8, 9, 10, 11, 12, 14] [] [[], [63], [64], [], [66], [67], [68], [65, 69], [70], [], [72], [73], [], [75], [76], [74, 77], [71, 78]])
    (.seq
      (.seq
        (.region [
          ⟨some 80, .mv (.t 9), none⟩,
          ⟨some 81, .un .not (.t 80), none⟩,
          ⟨some 82, .mv (.t 81), none⟩,
          ⟨some 83, .mv (.t 8), some (82, false)⟩,
          ⟨some 84, .bin .eql (.t 83) (.k (.str [])), some (82, false)⟩,
          ⟨some 85, .pick (.t 82) (.k (.bool true)) (.t 84), none⟩,
          ⟨some 86, .mv (.t 85), none⟩,
          ⟨some 87, .mv (.t 11), some (86, false)⟩,
          ⟨some 88, .un .not (.t 87), some (86, false)⟩,
          ⟨some 89, .pick (.t 86) (.k (.bool true)) (.t 88), none⟩,
          ⟨some 90, .mv (.t 89), none⟩,
          ⟨some 91, .mv (.t 12), some (90, false)⟩,
          ⟨some 92, .bin .neq (.t 91) (.k (.str [114, 115, 97])), some (90, false)⟩,
          ⟨some 93, .mv (.t 92), some (90, false)⟩,
          ⟨some 94, .mv (.t 12), some (93, true)⟩,
          ⟨some 95, .bin .neq (.t 94) (.k (.str [101, 100, 50, 53, 53, 49, 57])), some (93, true)⟩,
          ⟨some 96, .pick (.t 93) (.t 95) (.k (.bool false)), some (90, false)⟩,
          ⟨some 97, .pick (.t 90) (.k (.bool true)) (.t 96), none⟩,
          ⟨some 98, .mv (.t 97), none⟩,
          ⟨some 99, .mv (.t 14), some (98, false)⟩,
          ⟨some 100, .pick (.t 98) (.k (.bool true)) (.t 99), none⟩] [2, 4, 10, 12, 100] [] [[9], [80], [81], [8], [83], [82, 84], [85], [11], [87], [86, 88], [89], [], [91], [92], [], [94], [93, 95], [90, 96], [97], [14]])
        (.cond (.t 100)
          (.seq
            (.region [
              ⟨some 101, .agg [(.str []), .nilS, (.int .i64 0), .nilS, .nilS, .nilS, (.str []), (.bool false), (.bool false)] [], none⟩,
              ⟨none, .store 9 (.t 2) (.t 101), none⟩,
              ⟨some 3, .mv (.k (.int .i64 2)), none⟩] [2, 3] [] [[], [101]])
            .ret)
          .skip))
      f_spec_DRead_4))

def f_spec_DRead_6 : SCode :=
  (.seq
    (.region [
      ⟨some 42, .mv (.t 4), none⟩,
      ⟨some 43, .call 84 [(.t 42), (.k (.str [112]))], none⟩,
      ⟨some 41, .mv (.t 43), none⟩,
      ⟨some 44, .extr (.t 41) 0, none⟩,
      ⟨some 45, .extr (.t 41) 1, none⟩,
      ⟨some 8, .mv (.t 44), none⟩,
      ⟨some 9, .mv (.t 45), none⟩] [2, 4, 8, 9] [] [[], [42], [43], [], [41], [44]])
    (.seq
      (.region [
        ⟨some 47, .mv (.t 8), none⟩,
        ⟨some 48, .call 85 [(.t 47)], none⟩,
        ⟨some 49, .call 86 [(.t 48)], none⟩,
        ⟨some 46, .mv (.t 49), none⟩,
        ⟨some 50, .extr (.t 46) 0, none⟩,
        ⟨some 51, .extr (.t 46) 1, none⟩,
        ⟨some 10, .mv (.t 50), none⟩,
        ⟨some 11, .mv (.t 51), none⟩] [2, 4, 8, 9, 10, 11] [] [[], [47], [48], [49], [], [46], [50]])
      (.seq
        (.region [
          ⟨some 53, .mv (.t 4), none⟩,
          ⟨some 54, .call 84 [(.t 53), (.k (.str [107]))], none⟩,
          ⟨some 52, .mv (.t 54), none⟩,
          ⟨some 55, .extr (.t 52) 0, none⟩,
          ⟨some 56, .extr (.t 52) 1, none⟩,
          ⟨some 12, .mv (.t 55), none⟩,
          ⟨some 13, .mv (.t 56), none⟩] [2, 4, 8, 9, 10, 11, 12, 13] [] [[], [53], [54], [], [52], [55]])
        (.seq
          (.seq
            (.region [
              ⟨some 57, .mv (.t 13), none⟩,
              ⟨some 58, .un .not (.t 57), none⟩,
              ⟨some 59, .mv (.t 58), none⟩,
              ⟨some 60, .mv (.t 12), some (59, false)⟩,
              ⟨some 61, .bin .eql (.t 60) (.k (.str [])), some (59, false)⟩,
              ⟨some 62, .pick (.t 59) (.k (.bool true)) (.t 61), none⟩] [2, 4, 8, 9, 10, 11, 12, 62] [] [[13], [57], [58], [], [60]])
            (.cond (.t 62)
              (.region [
                ⟨some 12, .mv (.k (.str [114, 115, 97])), none⟩] [2, 4, 8, 9, 10, 11, 12] [] [])
              .skip))
          f_spec_DRead_5))))

def c_spec_DRead : SFn := ⟨1,
    (.seq
      (.region [
        ⟨some 2, .alloc [(.str []), .nilS, (.int .i64 0), .nilS, .nilS, .nilS, (.str []), (.bool false), (.bool false)], none⟩,
        ⟨some 3, .mv (.k (.int .i64 0)), none⟩] [0, 2] [] [])
      (.seq
        (.region [
          ⟨some 22, .mv (.t 0), none⟩,
          ⟨some 23, .call 52 [(.t 22)], none⟩,
          ⟨some 21, .mv (.t 23), none⟩,
          ⟨some 24, .extr (.t 21) 0, none⟩,
          ⟨some 25, .extr (.t 21) 1, none⟩,
          ⟨some 4, .mv (.t 24), none⟩,
          ⟨some 5, .mv (.t 25), none⟩] [2, 4, 5] [] [[0], [22], [23], [], [21], [24]])
        (.seq
          (.seq
            (.region [
              ⟨some 27, .mv (.t 4), none⟩,
              ⟨some 28, .call 84 [(.t 27), (.k (.str [118]))], none⟩,
              ⟨some 26, .mv (.t 28), none⟩,
              ⟨some 29, .extr (.t 26) 0, none⟩,
              ⟨some 30, .extr (.t 26) 1, none⟩,
              ⟨some 6, .mv (.t 29), none⟩,
              ⟨some 7, .mv (.t 30), none⟩] [2, 4, 5, 6, 7] [] [[], [27], [28], [], [26], [29]])
            (.seq
              (.region [
                ⟨some 31, .mv (.t 5), none⟩,
                ⟨some 32, .un .not (.t 31), none⟩,
                ⟨some 33, .mv (.t 32), none⟩,
                ⟨some 34, .mv (.t 7), some (33, false)⟩,
                ⟨some 35, .mv (.t 34), some (33, false)⟩,
                ⟨some 36, .mv (.t 6), some (35, true)⟩,
                ⟨some 37, .bin .neq (.t 36) (.k (.str [68, 75, 73, 77, 49])), some (35, true)⟩,
                ⟨some 38, .pick (.t 35) (.t 37) (.k (.bool false)), some (33, false)⟩,
                ⟨some 39, .pick (.t 33) (.k (.bool true)) (.t 38), none⟩] [2, 4, 39] [] [[5], [31], [32], [7], [34], [6], [36], [35, 37]])
              (.cond (.t 39)
                (.seq
                  (.region [
                    ⟨some 40, .agg [(.str []), .nilS, (.int .i64 0), .nilS, .nilS, .nilS, (.str []), (.bool false), (.bool false)] [], none⟩,
                    ⟨none, .store 9 (.t 2) (.t 40), none⟩,
                    ⟨some 3, .mv (.k (.int .i64 2)), none⟩] [2, 3] [] [[], [40]])
                  .ret)
                .skip)))
          f_spec_DRead_6))),
  [.c (some 9) 2, .t 3]⟩

def l_spec_DRead : Lay := { rg := [(0, ([0, 2], [])), (1, ([2, 4, 5], [])), (2, ([2, 4, 5, 6, 7], [])), (3, ([2, 4, 39], [])), (4, ([2, 3], [])), (5, ([2, 4, 8, 9], [])), (6, ([2, 4, 8, 9, 10, 11], [])), (7, ([2, 4, 8, 9, 10, 11, 12, 13], [])), (8, ([2, 4, 8, 9, 10, 11, 12, 62], [])), (9, ([2, 4, 8, 9, 10, 11, 12], [])), (10, ([2, 4, 8, 9, 10, 11, 12, 14], [])), (11, ([2, 4, 10, 12, 100], [])), (12, ([2, 3], [])), (13, ([2, 4, 15], [])), (14, ([2, 4, 15, 16, 17], [])), (15, ([2, 4, 15, 16, 17], [])), (16, ([2, 4, 15, 16, 117], [])), (17, ([2, 4, 15], [])), (18, ([2, 4, 15, 17, 18], [])), (19, ([2, 4, 15, 17, 18], [])), (20, ([2, 4, 15, 18, 129], [])), (21, ([2, 4, 15], [])), (22, ([2, 4, 15, 135], [])), (23, ([2, 4, 15], [])), (24, ([2, 4, 15, 19, 20], [])), (25, ([2, 4, 15, 19, 143], [])), (26, ([2, 4, 15], [])), (27, ([2, 15], [])), (28, ([2, 3], [15]))], dd := [(1, [[0], [22], [23], [], [21], [24]]), (2, [[], [27], [28], [], [26], [29]]), (3, [[5], [31], [32], [7], [34], [6], [36], [35, 37]]), (4, [[], [40]]), (5, [[], [42], [43], [], [41], [44]]), (6, [[], [47], [48], [49], [], [46], [50]]), (7, [[], [53], [54], [], [52], [55]]), (8, [[13], [57], [58], [], [60]]), (10, [[], [63], [64], [], [66], [67], [68], [65, 69], [70], [], [72], [73], [], [75], [76], [74, 77], [71, 78]]), (11, [[9], [80], [81], [8], [83], [82, 84], [85], [11], [87], [86, 88], [89], [], [91], [92], [], [94], [93, 95], [90, 96], [97], [14]]), (12, [[], [101]]), (13, [[12], [], [103], [10], [105], [106], [102, 104, 107]]), (14, [[], [110], [111], [], [109], [112]]), (15, [[], [114]]), (17, [[16], [118]]), (18, [[], [122], [123], [], [121], [124]]), (19, [[], [126]]), (21, [[18], [130]]), (22, [[], [133]]), (23, [[], [136]]), (24, [[], [139], [140], [], [138], [141]]), (26, [[19], [144]]), (27, [[4], [148], [149], [], [147, 151]]), (28, [[15], [153]])], gh := [(13, [.frz 104])] }

/- laws.FnDRecords -/
def c_laws_FnDRecords : SFn := ⟨1,
    (.seq
      (.region [
        ⟨some 2, .mv (.k (.bool false)), none⟩] [0] [] [])
      (.seq
        (.seq
          (.region [
            ⟨some 7, .mv (.t 0), none⟩,
            ⟨some 8, .len 0 (.t 7), none⟩,
            ⟨some 9, .bin .gtr (.t 8) (.k (.int .i64 2147483647)), none⟩] [0, 9] [] [[], [7]])
          (.cond (.t 9)
            (.seq
              (.region [
                ⟨some 2, .mv (.k (.bool true)), none⟩] [2] [] [])
              .ret)
            .skip))
        (.seq
          (.seq
            (.region [
              ⟨some 10, .mv (.t 0), none⟩,
              ⟨some 11, .mkSl 1 1 [(.str [])] [(0, (.t 10))], none⟩,
              ⟨some 12, .call 10 [(.k (.int .i64 2000)), (.t 11)], none⟩,
              ⟨some 13, .un .not (.t 12), none⟩] [0, 13] [11] [[], [10], [11]])
            (.cond (.t 13)
              (.seq
                (.region [
                  ⟨some 14, .call 11 [], none⟩,
                  ⟨some 2, .mv (.t 14), none⟩] [2] [] [])
                .ret)
              .skip))
          (.seq
            (.region [
              ⟨some 16, .mv (.t 0), none⟩,
              ⟨some 17, .call 88 [(.t 16)], none⟩,
              ⟨some 15, .mv (.t 17), none⟩,
              ⟨some 18, .extr (.t 15) 0, none⟩,
              ⟨some 19, .extr (.t 15) 1, none⟩,
              ⟨some 3, .alloc [(.str []), .nilS, (.int .i64 0), .nilS, .nilS, .nilS, (.str []), (.bool false), (.bool false)], none⟩,
              ⟨none, .store 9 (.t 3) (.t 18), none⟩,
              ⟨some 4, .mv (.t 19), none⟩] [0, 3, 4] [] [[], [16], [17], [], [15], [], [18]])
            (.seq
              (.region [
                ⟨some 21, .mv (.t 0), none⟩,
                ⟨some 22, .call 89 [(.t 21)], none⟩,
                ⟨some 20, .mv (.t 22), none⟩,
                ⟨some 23, .extr (.t 20) 0, none⟩,
                ⟨some 24, .extr (.t 20) 1, none⟩,
                ⟨some 5, .alloc [(.str []), .nilS, (.int .i64 0), .nilS, .nilS, .nilS, (.str []), (.bool false), (.bool false)], none⟩,
                ⟨none, .store 9 (.t 5) (.t 23), none⟩,
                ⟨some 6, .mv (.t 24), none⟩] [3, 4, 5, 6] [] [[0], [21], [22], [], [20], [], [23]])
              (.seq
                (.seq
                  (.region [
                    ⟨some 25, .mv (.t 4), none⟩,
                    ⟨some 26, .mv (.t 6), none⟩,
                    ⟨some 27, .bin .neq (.t 25) (.t 26), none⟩,
                    ⟨some 28, .mv (.t 27), none⟩,
                    ⟨some 29, .mv (.t 4), some (28, false)⟩,
                    ⟨some 30, .bin .neq (.t 29) (.k (.int .i64 0)), some (28, false)⟩,
                    ⟨some 31, .pick (.t 28) (.k (.bool true)) (.t 30), none⟩] [3, 4, 5, 6, 31] [] [[], [], [25, 26], [27], [], [29]])
                  (.cond (.t 31)
                    (.seq
                      (.region [
                        ⟨some 32, .mv (.t 4), none⟩,
                        ⟨some 33, .mv (.t 6), none⟩,
                        ⟨some 34, .bin .eql (.t 32) (.t 33), none⟩,
                        ⟨some 35, .mv (.t 34), none⟩,
                        ⟨some 36, .call 11 [], some (35, true)⟩,
                        ⟨some 37, .pick (.t 35) (.t 36) (.k (.bool false)), none⟩,
                        ⟨some 2, .mv (.t 37), none⟩] [2] [3, 5] [[4], [6], [32, 33], [34], [], [35, 36]])
                      .ret)
                    .skip))
                (.seq
                  (.region [
                    ⟨some 38, .fAddr 0 (.t 3), none⟩,
                    ⟨some 39, .load none (.t 38), none⟩,
                    ⟨some 40, .fAddr 0 (.t 5), none⟩,
                    ⟨some 41, .load none (.t 40), none⟩,
                    ⟨some 42, .bin .eql (.t 39) (.t 41), none⟩,
                    ⟨some 43, .mv (.t 42), none⟩,
                    ⟨some 44, .fAddr 1 (.t 3), some (43, true)⟩,
                    ⟨some 45, .load none (.t 44), some (43, true)⟩,
                    ⟨some 46, .cBytesStr (.t 45), some (43, true)⟩,
                    ⟨some 47, .fAddr 1 (.t 5), some (43, true)⟩,
                    ⟨some 48, .load none (.t 47), some (43, true)⟩,
                    ⟨some 49, .cBytesStr (.t 48), some (43, true)⟩,
                    ⟨some 50, .bin .eql (.t 46) (.t 49), some (43, true)⟩,
                    ⟨some 51, .pick (.t 43) (.t 50) (.k (.bool false)), none⟩,
                    ⟨some 52, .mv (.t 51), none⟩,
                    ⟨some 53, .fAddr 2 (.t 3), some (52, true)⟩,
                    ⟨some 54, .load none (.t 53), some (52, true)⟩,
                    ⟨some 55, .fAddr 2 (.t 5), some (52, true)⟩,
                    ⟨some 56, .load none (.t 55), some (52, true)⟩,
                    ⟨some 57, .bin .eql (.t 54) (.t 56), some (52, true)⟩,
                    ⟨some 58, .pick (.t 52) (.t 57) (.k (.bool false)), none⟩,
                    ⟨some 59, .mv (.t 58), none⟩,
                    ⟨some 60, .fAddr 7 (.t 3), some (59, true)⟩,
                    ⟨some 61, .load none (.t 60), some (59, true)⟩,
                    ⟨some 62, .fAddr 7 (.t 5), some (59, true)⟩,
                    ⟨some 63, .load none (.t 62), some (59, true)⟩,
                    ⟨some 64, .eqB false (.t 61) (.t 63), some (59, true)⟩,
                    ⟨some 65, .pick (.t 59) (.t 64) (.k (.bool false)), none⟩,
                    ⟨some 66, .mv (.t 65), none⟩,
                    ⟨some 67, .fAddr 8 (.t 3), some (66, true)⟩,
                    ⟨some 68, .load none (.t 67), some (66, true)⟩,
                    ⟨some 69, .fAddr 8 (.t 5), some (66, true)⟩,
                    ⟨some 70, .load none (.t 69), some (66, true)⟩,
                    ⟨some 71, .eqB false (.t 68) (.t 70), some (66, true)⟩,
                    ⟨some 72, .pick (.t 66) (.t 71) (.k (.bool false)), none⟩,
                    ⟨some 2, .mv (.t 72), none⟩] [2] [3, 5] [[], [38], [], [40], [39, 41], [42], [], [44], [45], [], [47], [48], [46, 49], [43, 50], [51], [], [53], [], [55], [54, 56], [52, 57], [58], [], [60], [], [62], [61, 63], [59, 64], [65], [3], [67], [5], [69], [68, 70], [66, 71]])
                  .ret))))))),
  [.t 2]⟩

def l_laws_FnDRecords : Lay := { rg := [(0, ([0], [])), (1, ([0, 9], [])), (2, ([2], [])), (3, ([0, 13], [11])), (4, ([2], [])), (5, ([0, 3, 4], [])), (6, ([3, 4, 5, 6], [])), (7, ([3, 4, 5, 6, 31], [])), (8, ([2], [3, 5])), (9, ([2], [3, 5]))], dd := [(1, [[], [7]]), (3, [[], [10], [11]]), (5, [[], [16], [17], [], [15], [], [18]]), (6, [[0], [21], [22], [], [20], [], [23]]), (7, [[], [], [25, 26], [27], [], [29]]), (8, [[4], [6], [32, 33], [34], [], [35, 36]]), (9, [[], [38], [], [40], [39, 41], [42], [], [44], [45], [], [47], [48], [46, 49], [43, 50], [51], [], [53], [], [55], [54, 56], [52, 57], [58], [], [60], [], [62], [61, 63], [59, 64], [65], [3], [67], [5], [69], [68, 70], [66, 71]])] }

end Wax

/- Contracts, one behind the other. -/
namespace Wax
open Go Go.RowKit

/-- No contract; methods by a table. -/
def gam0 (ms : List (Nat × String × Nat)) : Gam := ⟨fun _ _ => none, fun t name => (ms.find? fun m => m.1 == t && m.2.1 == name).map (·.2.2), fun _ _ _ => none⟩

def Gam.add (Γ : Gam) (g : Nat) (c : List AV → Option AV) : Gam := ⟨fun h => if h = g then c else Γ.fn h, Γ.mth, Γ.st⟩

def Gam.addS (Γ : Gam) (g : Nat) (c : List AV → List (Nat × AObj) → Option (AV × List (Nat × AObj))) : Gam := ⟨Γ.fn, Γ.mth, fun h => if h = g then c else Γ.st h⟩

@[simp] theorem add_fn_same {Γ : Gam} {g : Nat} {c : List AV → Option AV} : (Γ.add g c).fn g = c := by simp [Gam.add]
theorem add_fn_other {Γ : Gam} {g h : Nat} {c : List AV → Option AV} (e : h ≠ g) : (Γ.add g c).fn h = Γ.fn h := by simp [Gam.add, e]
@[simp] theorem add_mth {Γ : Gam} {g : Nat} {c : List AV → Option AV} : (Γ.add g c).mth = Γ.mth := rfl

@[simp] theorem add_st {Γ : Gam} {g : Nat} {c : List AV → Option AV} : (Γ.add g c).st = Γ.st := rfl
@[simp] theorem addS_fn {Γ : Gam} {g : Nat} {c} : (Γ.addS g c).fn = Γ.fn := rfl
@[simp] theorem addS_mth {Γ : Gam} {g : Nat} {c} : (Γ.addS g c).mth = Γ.mth := rfl
@[simp] theorem addS_st_same {Γ : Gam} {g : Nat} {c} : (Γ.addS g c).st g = c := by simp [Gam.addS]
theorem addS_st_other {Γ : Gam} {g h : Nat} {c} (e : h ≠ g) : (Γ.addS g c).st h = Γ.st h := by simp [Gam.addS, e]

def injB (l : List (Nat × Nat)) : Bool := l.all fun p => l.all fun q => p.2 != q.2 || p.1 == q.1

theorem lkN_mem : ∀ {l : List (Nat × Nat)} {i v : Nat}, lkN l i = some v → (i, v) ∈ l
  | (j, u) :: r, i, v, h => by
    simp only [lkN] at h
    split at h
    · rename_i e; simp at e h; subst e; subst h; simp
    · exact List.mem_cons_of_mem _ (lkN_mem h)

theorem injB_spec {l : List (Nat × Nat)} (h : injB l = true) {i j v : Nat} (hi : lkN l i = some v) (hj : lkN l j = some v) : i = j := by
  simp only [injB, List.all_eq_true] at h
  have := h _ (lkN_mem hi) _ (lkN_mem hj)
  simpa using this

theorem tinj {T : Tab} (h : injB T.tys = true) : TInj T := fun _ _ _ ht hu => injB_spec h ht hu

/-- The method of this name, of values of this type, is this function: told by looking. -/
def mthB (P : Program) (t : TypeId) (name : String) (f : FuncId) : Bool :=
  match P.info? t with
  | none => false
  | some i => match i.methods.find? (·.name == name) with
    | none => false
    | some m => m.path.size == 0 && (match m.func with
      | some (g, pr) => g == f && (match P.underlying t with
        | some (.pointer _) => pr
        | some _ => !pr
        | none => false)
      | none => false)

theorem mthB_spec {P : Program} {t : TypeId} {name : String} {f : FuncId} (h : mthB P t name f = true) : MthOk P t name f := by
  intro v w
  simp only [mthB] at h
  cases hi : P.info? t with
  | none => simp [hi] at h
  | some i =>
    simp only [hi] at h
    cases hm : i.methods.find? (·.name == name) with
    | none => simp [hm] at h
    | some m =>
      simp only [hm, Bool.and_eq_true, beq_iff_eq] at h
      obtain ⟨hp, h⟩ := h
      cases hf : m.func with
      | none => simp [hf] at h
      | some gp =>
        obtain ⟨g, pr⟩ := gp
        simp only [hf, Bool.and_eq_true, beq_iff_eq] at h
        obtain ⟨rfl, h⟩ := h
        have hpl : m.path.toList = [] := by
          have : m.path.toList.length = 0 := by simpa using hp
          exact List.length_eq_zero_iff.1 this
        have hrec : ∀ wr, (receiverAt t (.val v) pr wr).run P w = .ok v w := by
          intro wr
          cases hu : P.underlying t with
          | none => simp [hu] at h
          | some d =>
            simp only [hu] at h
            simp only [receiverAt, Sem.run_bind, rUnder hu, Result.andThen_ok]
            cases d <;> cases pr <;> simp at h <;> simp [Place.get]
        have e : P.types.size + Made.depth = (P.types.size + 99) + 1 := rfl
        rw [e]
        generalize P.types.size + 99 = fuel
        simp only [method, Sem.run_bind, rInfo hi, Result.andThen_ok, hm, hpl, follow, Sem.run_pure, hf, hrec]

/-- The empty table of contracts. -/
theorem gam0_ok {P : Program} {T : Tab} {ms : List (Nat × String × Nat)} (h : ∀ t g name q, lkN T.tys t = some g → (gam0 ms).mth g name = some q → ∃ f, lkN T.fns f = some q ∧ MthOk P t name f) : GamOk P T (gam0 ms) :=
  ⟨fun f g args r _ h => by simp [gam0] at h, h, fun f g args hp q _ h => by simp [gam0] at h⟩

def mthsB (P : Program) (T : Tab) (ms : List (Nat × String × Nat)) : Bool :=
  T.tys.all fun tg => ms.all fun m => m.1 != tg.2 || T.fns.any fun fg => fg.2 == m.2.2 && lkN T.fns fg.1 == some m.2.2 && mthB P tg.1 m.2.1 fg.1

theorem mthsB_spec {P : Program} {T : Tab} {ms : List (Nat × String × Nat)} (h : mthsB P T ms = true) : GamOk P T (gam0 ms) := by
  refine gam0_ok ?_
  intro t g name q ht hm
  simp only [gam0, Option.map_eq_some_iff] at hm
  obtain ⟨m, hm, rfl⟩ := hm
  have h1 := List.mem_of_find?_eq_some hm
  have h2 := List.find?_some hm
  simp only [Bool.and_eq_true, beq_iff_eq] at h2
  simp only [mthsB, List.all_eq_true, List.any_eq_true] at h
  have h3 := h _ (lkN_mem ht) m h1
  simp only [Bool.or_eq_true, bne_iff_ne, ne_eq] at h3
  rcases h3 with h3 | h3
  · exact absurd h2.1 h3
  · simp only [List.any_eq_true, Bool.and_eq_true, beq_iff_eq] at h3
    obtain ⟨fg, _, ⟨_, h5⟩, h6⟩ := h3
    exact ⟨fg.1, h5, by rw [← h2.2]; exact mthB_spec h6⟩

/-- One contract more. -/
theorem GamOk.add {P : Program} {T : Tab} {Γ : Gam} (G : GamOk P T Γ) (hF : injB T.fns = true) {f g : Nat} (hf : lkN T.fns f = some g) (hb : hasBody P f = true) {c : List AV → Option AV} (h : ∀ args r, c args = some r → OkCall P T f args r) :
    GamOk P T (Γ.add g c) where
  fn := by
    intro f' g' args r hf' hc
    by_cases e : g' = g
    · subst e
      have := injB_spec hF hf' hf; subst this
      rw [add_fn_same] at hc
      exact ⟨hb, h args r hc⟩
    · rw [add_fn_other e] at hc
      exact G.fn f' g' args r hf' hc
  mth := G.mth
  st := G.st

theorem GamOk.addS {P : Program} {T : Tab} {Γ : Gam} (G : GamOk P T Γ) (hF : injB T.fns = true) {f g : Nat} (hf : lkN T.fns f = some g) (hb : hasBody P f = true) {c : List AV → List (Nat × AObj) → Option (AV × List (Nat × AObj))} (h : ∀ args hp q, c args hp = some q → OkS P T f args hp q.1 q.2) :
    GamOk P T (Γ.addS g c) where
  fn := G.fn
  mth := G.mth
  st := by
    intro f' g' args hp q hf' hc
    by_cases e : g' = g
    · subst e
      have := injB_spec hF hf' hf; subst this
      rw [addS_st_same] at hc
      exact ⟨hb, h args hp q hc⟩
    · rw [addS_st_other e] at hc
      exact G.st f' g' args hp q hf' hc

/-- One function more, walked. -/
theorem GamOk.walk {P : Program} {T : Tab} {Γ : Gam} (G : GamOk P T Γ) (hT : injB T.tys = true) (hF : injB T.fns = true) {f g : Nat} (hf : lkN T.fns f = some g) (hb : hasBody P f = true) {L : Lay} {fn : Func} {sfn : SFn}
    (hfn : P.funcs[f]? = some fn) (hc : compFn P T L fn = some sfn) {c : List AV → Option AV} (h : ∀ args r, c args = some r → runs Γ sfn args (fun v => v = r)) : GamOk P T (Γ.add g c) :=
  G.add hF hf hb fun args r hr => fn_sound (tinj hT) G hfn hc (h args r hr)

/-- One function more that sees objects, walked. -/
theorem GamOk.walkS {P : Program} {T : Tab} {Γ : Gam} (G : GamOk P T Γ) (hT : injB T.tys = true) (hF : injB T.fns = true) {f g : Nat} (hf : lkN T.fns f = some g) (hb : hasBody P f = true) {L : Lay} {fn : Func} {sfn : SFn}
    (hfn : P.funcs[f]? = some fn) (hc : compFn P T L fn = some sfn) {c : List AV → List (Nat × AObj) → Option (AV × List (Nat × AObj))} (h : ∀ args hp q, c args hp = some q → runsS Γ sfn args hp (fun v => v = some q)) : GamOk P T (Γ.addS g c) :=
  G.addS hF hf hb fun args hp q hr => fnS_sound (tinj hT) G hfn hc (h args hp q hr)
end Wax

/- Bytes as cells. -/
namespace Wax
open Go (IntKind)

section
theorem ite_some {α : Type} {p : Prop} [Decidable p] {a r : α} (h : (if p then some a else none) = some r) : p ∧ a = r := by
  by_cases e : p <;> simp [e] at h ⊢; exact h
@[simp] theorem bcA_nil : bcA [] = [] := rfl
@[simp] theorem bcA_cons {b : UInt8} {s : List UInt8} : bcA (b :: s) = .int .u8 (b.toNat : Int) :: bcA s := rfl
@[simp] theorem bcA_app {s t : List UInt8} : bcA (s ++ t) = bcA s ++ bcA t := by simp [bcA]
@[simp] theorem bcA_length {s : List UInt8} : (bcA s).length = s.length := by simp [bcA]
@[simp] theorem bcA_get {s : List UInt8} {i : Nat} : (bcA s)[i]? = s[i]?.map fun b => AV.int .u8 (b.toNat : Int) := by simp [bcA]
@[simp] theorem bcA_drop {s : List UInt8} {i : Nat} : (bcA s).drop i = bcA (s.drop i) := by simp [bcA, List.map_drop]
@[simp] theorem bcA_take {s : List UInt8} {i : Nat} : (bcA s).take i = bcA (s.take i) := by simp [bcA, List.map_take]
@[simp] theorem atoms_app {a b : List AV} : atoms (a ++ b) = (atoms a && atoms b) := by
  induction a with
  | nil => simp
  | cons x r ih => simp [ih, Bool.and_assoc]
@[simp] theorem atoms_bcA {s : List UInt8} : atoms (bcA s) = true := by induction s <;> simp_all
@[simp] theorem killL_app {d : Nat} {a b : List AV} : killL d (a ++ b) = killL d a ++ killL d b := by
  induction a with
  | nil => simp
  | cons x r ih => simp [ih]
@[simp] theorem killL_bcA {d : Nat} {s : List UInt8} : killL d (bcA s) = bcA s := by induction s <;> simp_all
@[simp] theorem killL_length {d : Nat} {s : List AV} : (killL d s).length = s.length := by induction s <;> simp_all
@[simp] theorem toBytes_bcA {s : List UInt8} : toBytes (bcA s) = some s := by
  induction s with
  | nil => rfl
  | cons b r ih => simp [toBytes, ih]
@[simp] theorem loadC_drop {cs : List AV} {i : Nat} : loadC none (cs.drop i) = cs[i]?.bind fun c => if atom c = true then some c else none := by
  cases h : cs[i]? with
  | none =>
    have : cs.drop i = [] := List.drop_eq_nil_of_le (by simpa using h)
    simp [this]
  | some c =>
    have hl : i < cs.length := by
      rcases Nat.lt_or_ge i cs.length with h' | h'
      · exact h'
      · rw [List.getElem?_eq_none h'] at h; simp at h
    rw [List.drop_eq_getElem_cons hl]
    have : cs[i] = c := by rw [List.getElem?_eq_getElem hl] at h; simpa using h
    simp [this]
@[simp] theorem spliceL_one {cs : List AV} {i : Nat} {x : AV} : spliceL cs i [x] = cs.set i x := rfl
@[simp] theorem spliceL_nil {cs : List AV} {i : Nat} : spliceL cs i [] = cs := rfl
@[simp] theorem toBytes_nil : toBytes [] = some [] := rfl
@[simp] theorem toBytes_byte {b : UInt8} {r : List AV} : toBytes (.int .u8 (b.toNat : Int) :: r) = (toBytes r).map (b :: ·) := by
  simp [toBytes]
@[simp] theorem made_o2 {hp : List (Nat × AObj)} {d : Nat} {o : AObj} {v : AV} : made hp d o v = some (o2 hp d v o) := rfl
/-- A slice of bytes that grows from nil: the value, the object behind it. -/
def outV (d : Nat) (out : List UInt8) : AV := match out with | [] => .nilS | _ => .msl d 1 0 out.length
def outH (d : Nat) (out : List UInt8) : List (Nat × AObj) := match out with | [] => [] | _ => [(d, .cells (bcA out))]
@[simp] theorem outV_nil {d : Nat} : outV d [] = .nilS := rfl
@[simp] theorem outH_nil {d : Nat} : outH d [] = [] := rfl
theorem outV_ne {d : Nat} {out : List UInt8} (h : out ≠ []) : outV d out = .msl d 1 0 out.length := by cases out <;> first | exact absurd rfl h | rfl
theorem outH_ne {d : Nat} {out : List UInt8} (h : out ≠ []) : outH d out = [(d, .cells (bcA out))] := by cases out <;> first | exact absurd rfl h | rfl
@[simp] theorem toNat_ofNat {n : Nat} : (n : Int).toNat = n := by simp
end
end Wax

/- The plain functions of the set's reference: what each answers. -/
namespace Wax
open Go (IntKind)

def big : Nat := 4611686018427387904

def isWs (n : Int) : Bool := decide (n = 32 ∨ n = 9 ∨ n = 13 ∨ n = 10)

def con_dBlank : List AV → Option AV
  | [.int .u8 n] => some (.bool (isWs n))
  | _ => none

theorem ok_dBlank (Γ : Gam) : ∀ args r, con_dBlank args = some r → runs Γ c_spec_dBlank args (fun v => v = r) := by
  intro args r h
  simp only [con_dBlank] at h
  split at h <;> simp at h
  rename_i b
  subst h
  simp [c_spec_dBlank, isWs]
  refine ⟨fun h => ⟨fun h2 => ⟨fun h3 => ?_, fun h3 => ?_⟩, fun h2 => ?_⟩, fun h => ?_⟩ <;> simp [*]

def cutAt (c : Int) : List UInt8 → Option (List UInt8 × List UInt8)
  | [] => none
  | x :: r => if (x.toNat : Int) = c then some ([], r) else (cutAt c r).map fun p => (x :: p.1, p.2)

def noB (c : Int) (s : List UInt8) : Prop := ∀ x ∈ s, (x.toNat : Int) ≠ c

theorem cutAt_app (c : Int) : ∀ (pre post : List UInt8), noB c pre → cutAt c (pre ++ post) = (cutAt c post).map fun p => (pre ++ p.1, p.2)
  | [], post, _ => by simp
  | x :: r, post, h => by
    have h1 : (x.toNat : Int) ≠ c := h x (by simp)
    have h2 : noB c r := fun y hy => h y (by simp [hy])
    simp only [List.cons_append, cutAt, if_neg h1, cutAt_app c r post h2, Option.map_map]
    rfl

def cutV (c : Int) (s : List UInt8) : AV :=
  match cutAt c s with
  | some p => .tup [.str p.1, .str p.2, .bool true]
  | none => .tup [.str s, .str [], .bool false]

def con_dCut : List AV → Option AV
  | [.str s, .int .u8 c] => if s.length < big then some (cutV c s) else none
  | _ => none

theorem ok_dCut (Γ : Gam) : ∀ args r, con_dCut args = some r → runs Γ c_spec_dCut args (fun v => v = r) := by
  intro args r h
  simp only [con_dCut] at h
  split at h <;> simp [big] at h
  rename_i s c
  obtain ⟨hs, rfl⟩ := ite_some h
  simp [c_spec_dCut]
  refine awp_loop (σ := List UInt8 × List UInt8) (fun p => ⟨[(0, .str s), (1, .int .u8 c), (7, .int .i64 p.1.length)], []⟩) (fun p => s = p.1 ++ p.2 ∧ noB c p.1) (fun p => p.2.length) ([], s) (by simp) (by simp [noB]) ?_
  rintro ⟨pre, post⟩ ⟨hs1, hs2⟩
  simp only at hs1 hs2
  subst hs1
  cases post with
  | nil =>
    have e : cutAt c pre = none := by have := cutAt_app c pre [] hs2; simpa [cutAt] using this
    simp [cutV, e]
  | cons x post =>
    simp at hs
    simp
    refine ⟨fun hlt => ?_, fun hge => by omega⟩
    simp (disch := omega) [wrap64]
    refine ⟨fun he => ?_, fun hne => ?_⟩
    · have e1 : (0 : Int) ≤ (pre.length : Int) + 1 ∧ (pre.length : Int) + 1 ≤ (pre.length : Int) + ((post.length : Int) + 1) := by omega
      have e2 : ((pre.length : Int) + 1).toNat = pre.length + 1 := by omega
      simp [cutV, cutAt_app _ _ _ hs2, cutAt, e1, e2, he]
      omega
    · refine ⟨(pre ++ [x], post), by simp, ⟨by simp, ?_⟩, by simp⟩
      intro y hy
      simp at hy
      rcases hy with hy | rfl
      · exact hs2 y hy
      · exact hne

def plainB (b : UInt8) : Bool := decide ((b.toNat : Int) < 128 ∧ (b.toNat : Int) ≠ 11 ∧ (b.toNat : Int) ≠ 12)
theorem plainB_true {b : UInt8} (h : (b.toNat : Int) < 128 ∧ ¬ (b.toNat : Int) = 11 ∧ ¬ (b.toNat : Int) = 12) : plainB b = true := decide_eq_true h
theorem plainB_false {b : UInt8} (h : ¬ ((b.toNat : Int) < 128 ∧ ¬ (b.toNat : Int) = 11 ∧ ¬ (b.toNat : Int) = 12)) : plainB b = false := decide_eq_false h
def dPlain (most : Int) (s : List UInt8) : Bool := s.all plainB && decide ((s.length : Int) ≤ most)

def con_DPlain : List AV → Option AV
  | [.str s, .int .i64 m] => if s.length < big then some (.bool (dPlain m s)) else none
  | _ => none

theorem ok_DPlain (Γ : Gam) : ∀ args r, con_DPlain args = some r → runs Γ c_spec_DPlain args (fun v => v = r) := by
  intro args r h
  simp only [con_DPlain] at h
  split at h <;> simp [big] at h
  rename_i s m
  obtain ⟨hs, rfl⟩ := ite_some h
  clear h
  simp [c_spec_DPlain]
  refine awp_loop (σ := List UInt8 × List UInt8) (fun p => ⟨[(0, .str s), (1, .int .i64 m), (5, .int .i64 p.1.length)], []⟩) (fun p => s = p.1 ++ p.2 ∧ p.1.all plainB = true) (fun p => p.2.length) ([], s) (by simp) (by simp) ?_
  rintro ⟨pre, post⟩ ⟨hs1, hs2⟩
  simp only at hs1 hs2
  subst hs1
  cases post with
  | nil => simp [dPlain, hs2]
  | cons x post =>
    simp at hs
    have bad : plainB x = false → dPlain m (pre ++ x :: post) = false := by intro h; simp [dPlain, h]
    have good : plainB x = true → loopQ [0, 1, 5] (fun p : List UInt8 × List UInt8 => ⟨[(0, .str (pre ++ x :: post)), (1, .int .i64 m), (5, .int .i64 p.1.length)], []⟩) (fun p => pre ++ x :: post = p.1 ++ p.2 ∧ p.1.all plainB = true) (fun p => p.2.length) (pre, x :: post)
        ⟨[(0, .str (pre ++ x :: post)), (1, .int .i64 m), (5, .int .i64 (IntKind.i64.wrap (pre.length + 1)))], []⟩ := by
      intro h
      exact ⟨(pre ++ [x], post), by simp (disch := omega) [wrap64], ⟨by simp, by simp only [List.all_append, hs2, List.all_cons, h]; rfl⟩, by simp⟩
    generalize hl : loopQ [0, 1, 5] (fun p : List UInt8 × List UInt8 => (⟨[(0, .str (pre ++ x :: post)), (1, .int .i64 m), (5, .int .i64 p.1.length)], []⟩ : St)) (fun p => pre ++ x :: post = p.1 ++ p.2 ∧ p.1.all plainB = true) (fun p => p.2.length) (pre, x :: post) = LQ at good ⊢
    simp
    refine ⟨fun hlt => ⟨fun h1 => ⟨fun h2 => ⟨fun h3 => ?_, fun h3 => ?_⟩, fun h2 => ?_⟩, fun h1 => ?_⟩, fun hge => by omega⟩
    · exact bad (plainB_false fun h => h.2.2 h3)
    · exact good (plainB_true ⟨h1, h2, h3⟩)
    · exact bad (plainB_false fun h => h.2.1 h2)
    · exact bad (plainB_false fun h => by omega)

def trimL (s : List UInt8) : List UInt8 := s.dropWhile fun b => isWs b.toNat
def trimR (s : List UInt8) : List UInt8 := (s.reverse.dropWhile fun b => isWs b.toNat).reverse
def trimS (s : List UInt8) : List UInt8 := trimR (trimL s)

def con_DTrim : List AV → Option AV
  | [.str s] => if s.length < big then some (.str (trimS s)) else none
  | _ => none

theorem ok_DTrim (Γ : Gam) (h1 : Γ.fn 1 = con_dBlank) : ∀ args r, con_DTrim args = some r → runs Γ c_spec_DTrim args (fun v => v = r) := by
  intro args r h
  simp only [con_DTrim] at h
  split at h <;> simp [big] at h
  rename_i s
  obtain ⟨hs, rfl⟩ := ite_some h
  clear h
  simp [c_spec_DTrim]
  refine awp_loop (σ := List UInt8) (fun p => ⟨[(0, .str p)], []⟩) (fun p => trimL p = trimL s ∧ p.length < 4611686018427387904) (fun p => p.length) s (by simp) (by simp [hs]) ?_
  rintro p ⟨hp, hlen⟩
  have second : ∀ v9, (trimL p = p) → awp Γ t_spec_DTrim_4 (finQ [.t 2] fun v => v = AV.str (trimS s)) ⟨[(0, .str p), (9, v9)], []⟩ := by
    intro v9 htl
    simp [t_spec_DTrim_4]
    refine awp_loop (σ := List UInt8) (fun q => ⟨[(0, .str q.reverse)], []⟩) (fun q => trimR q.reverse = trimR p ∧ q.length < 4611686018427387904) (fun q => q.length) p.reverse (by simp) (by simpa using hlen) ?_
    rintro q ⟨hq, hql⟩
    cases q with
    | nil =>
      simp [b_spec_DTrim_2, t_spec_DTrim_3]
      rw [trimS, ← hp, htl, ← hq]; rfl
    | cons x q =>
      simp at hql
      simp (disch := omega) [b_spec_DTrim_2, t_spec_DTrim_3, wrap64]
      refine gO_bind (b := x) (by rw [List.getElem?_append_right (by simp)]; simp) ?_
      simp (disch := omega) [acall, h1, con_dBlank, wrap64]
      refine ⟨fun hw => ⟨q, by simp, ⟨?_, by omega⟩, by simp⟩, fun hw => ?_⟩
      · rw [← hq]; simp [trimR, hw]
      · rw [trimS, ← hp, htl, ← hq]; simp [trimR, hw]
  cases p with
  | nil =>
    simp [b_spec_DTrim_1]
    exact second _ rfl
  | cons x p =>
    simp at hlen
    simp [b_spec_DTrim_1, acall, h1, con_dBlank]
    refine ⟨fun hw => ⟨by omega, p, by simp, ⟨?_, by omega⟩, by simp⟩, fun hw => second _ ?_⟩
    · rw [← hp]; simp [trimL, hw]
    · simp [trimL, hw]

def lowB (b : UInt8) : UInt8 := if 65 ≤ b.toNat ∧ b.toNat ≤ 90 then b + 32 else b

theorem lowB_toNat (b : UInt8) : ((lowB b).toNat : Int) = if 65 ≤ (b.toNat : Int) ∧ (b.toNat : Int) ≤ 90 then (b.toNat : Int) + 32 else (b.toNat : Int) := by
  unfold lowB
  by_cases h : 65 ≤ b.toNat ∧ b.toNat ≤ 90
  · rw [if_pos h, if_pos (by omega), UInt8.toNat_add]
    have : (32 : UInt8).toNat = 32 := rfl
    rw [this]; omega
  · rw [if_neg h, if_neg (by omega)]

def lowS (s : List UInt8) : List UInt8 := s.map lowB

@[simp] theorem lowS_length {s : List UInt8} : (lowS s).length = s.length := by simp [lowS]
@[simp] theorem lowS_nil : lowS [] = [] := rfl
@[simp] theorem lowS_app {s t : List UInt8} : lowS (s ++ t) = lowS s ++ lowS t := by simp [lowS]
@[simp] theorem lowS_cons {b : UInt8} {s : List UInt8} : lowS (b :: s) = lowB b :: lowS s := rfl

def con_DLower : List AV → Option AV
  | [.str s] => if s.length < big then some (.str (lowS s)) else none
  | _ => none

theorem ok_DLower (Γ : Gam) : ∀ args r, con_DLower args = some r → runs Γ c_spec_DLower args (fun v => v = r) := by
  intro args r h
  simp only [con_DLower] at h
  split at h <;> simp [big] at h
  rename_i s
  obtain ⟨hs, rfl⟩ := ite_some h
  clear h
  simp [c_spec_DLower, hs]
  refine awp_loop (σ := List UInt8 × List UInt8) (fun p => ⟨[(3, .msl 6 1 0 s.length), (4, .int .i64 p.1.length)], [(6, .cells (bcA (lowS p.1 ++ p.2)))]⟩) (fun p => s = p.1 ++ p.2) (fun p => p.2.length) ([], s) (by simp) (by simp) ?_
  rintro ⟨pre, post⟩ hs1
  simp only at hs1
  subst hs1
  cases post with
  | nil =>
    have e : List.take pre.length (lowS pre) = lowS pre := List.take_of_length_le (by simp)
    simp [e]
  | cons x post =>
    simp at hs
    have hx := lowB_toNat x
    have fin : ∀ n : Int, n = (lowB x).toNat → loopQ [3, 4] (fun p : List UInt8 × List UInt8 => ⟨[(3, .msl 6 1 0 (pre ++ x :: post).length), (4, .int .i64 p.1.length)], [(6, .cells (bcA (lowS p.1 ++ p.2)))]⟩) (fun p => pre ++ x :: post = p.1 ++ p.2) (fun p => p.2.length) (pre, x :: post)
        ⟨[(3, .msl 6 1 0 (pre ++ x :: post).length), (4, .int .i64 (IntKind.i64.wrap (pre.length + 1)))], [(6, .cells (bcA (lowS pre) ++ .int .u8 n :: bcA post))]⟩ := by
      intro n hn
      refine ⟨(pre ++ [x], post), ?_, by simp, by simp⟩
      subst hn
      simp (disch := omega) [wrap64]
    simp at fin
    simp
    refine ⟨fun hlt => ⟨fun h1 => ⟨fun h2 => ?_, fun h2 => ?_⟩, fun h1 => ?_⟩, fun hge => by omega⟩
    · rw [hx, if_pos ⟨h1, h2⟩, ← Go.IntWalk.u8_in ((x.toNat : Int) + 32) ⟨by omega, by omega⟩] at fin
      exact fin
    · rw [hx, if_neg (by omega)] at fin
      exact fin
    · rw [hx, if_neg (by omega)] at fin
      exact fin
end Wax

/- The plain functions of the set's reference (2). -/
namespace Wax
open Go (IntKind)

def mid : Nat := 1099511627776

def joinGo : List UInt8 → Bool → List UInt8 → List UInt8
  | out, _, [] => out
  | out, w, x :: r => if isWs x.toNat then joinGo out (decide (0 < out.length)) r else joinGo ((if w then out ++ [32] else out) ++ [x]) false r

def con_dJoined : List AV → Option AV
  | [.str s] => if s.length < mid then some (.str (joinGo [] false s)) else none
  | _ => none

theorem ok_dJoined (Γ : Gam) (h1 : Γ.fn 1 = con_dBlank) : ∀ args r, con_dJoined args = some r → runs Γ c_spec_dJoined args (fun v => v = r) := by
  intro args r h
  simp only [con_dJoined] at h
  split at h <;> simp [mid] at h
  rename_i s
  obtain ⟨hs, rfl⟩ := ite_some h
  clear h
  simp [c_spec_dJoined]
  refine awp_loop (σ := List UInt8 × List UInt8 × List UInt8 × Bool) (fun p => ⟨[(0, .str s), (3, outV 28 p.2.2.1), (4, .bool p.2.2.2), (5, .int .i64 p.1.length)], outH 28 p.2.2.1⟩)
    (fun p => s = p.1 ++ p.2.1 ∧ joinGo p.2.2.1 p.2.2.2 p.2.1 = joinGo [] false s ∧ p.2.2.1.length ≤ 2 * p.1.length ∧ (p.2.2.2 = true → p.2.2.1 ≠ [])) (fun p => p.2.1.length) ([], s, [], false) (by simp [outV, outH]) (by simp) ?_
  rintro ⟨pre, post, out, w⟩ ⟨hs1, hs2, hs3, hs4⟩
  simp only at hs1 hs2 hs3 hs4
  cases post with
  | nil =>
    simp [joinGo] at hs2 hs1
    subst hs1
    by_cases ho : out = []
    · subst ho; simp [← hs2]
    · simp [outV_ne ho, outH_ne ho, ← hs2]
  | cons x post =>
    subst hs1
    simp at hs
    have step : ∀ out' w', joinGo out' w' post = joinGo [] false (pre ++ x :: post) → out'.length ≤ 2 * pre.length + 2 → (w' = true → out' ≠ []) →
        loopQ [0, 3, 4, 5] (fun p : List UInt8 × List UInt8 × List UInt8 × Bool => ⟨[(0, .str (pre ++ x :: post)), (3, outV 28 p.2.2.1), (4, .bool p.2.2.2), (5, .int .i64 p.1.length)], outH 28 p.2.2.1⟩)
          (fun p => pre ++ x :: post = p.1 ++ p.2.1 ∧ joinGo p.2.2.1 p.2.2.2 p.2.1 = joinGo [] false (pre ++ x :: post) ∧ p.2.2.1.length ≤ 2 * p.1.length ∧ (p.2.2.2 = true → p.2.2.1 ≠ [])) (fun p => p.2.1.length) (pre, x :: post, out, w)
          ⟨[(0, .str (pre ++ x :: post)), (3, outV 28 out'), (4, .bool w'), (5, .int .i64 (IntKind.i64.wrap (pre.length + 1)))], outH 28 out'⟩ := by
      intro out' w' h1 h2 h3
      exact ⟨(pre ++ [x], post, out', w'), by simp (disch := omega) [wrap64], ⟨by simp, h1, by simp; omega, h3⟩, by simp⟩
    generalize hl : loopQ [0, 3, 4, 5] (fun p : List UInt8 × List UInt8 × List UInt8 × Bool => (⟨[(0, .str (pre ++ x :: post)), (3, outV 28 p.2.2.1), (4, .bool p.2.2.2), (5, .int .i64 p.1.length)], outH 28 p.2.2.1⟩ : St))
          (fun p => pre ++ x :: post = p.1 ++ p.2.1 ∧ joinGo p.2.2.1 p.2.2.2 p.2.1 = joinGo [] false (pre ++ x :: post) ∧ p.2.2.1.length ≤ 2 * p.1.length ∧ (p.2.2.2 = true → p.2.2.1 ≠ [])) (fun p => p.2.1.length) (pre, x :: post, out, w) = LQ at step ⊢
    clear hl
    simp only [joinGo] at hs2
    by_cases ho : out = []
    · subst ho
      have hw : w = false := by cases w <;> simp at hs4 ⊢
      subst hw
      simp [acall, h1, con_dBlank]
      refine ⟨fun hlt => ⟨fun hb => ?_, fun hb => ?_⟩, fun hge => by omega⟩
      · rw [if_pos hb] at hs2
        exact step [] false (by simpa using hs2) (by simp) (by simp)
      · rw [if_neg (by simp [hb])] at hs2
        exact step [x] false (by simpa using hs2) (by simp) (by simp)
    · have hol : 0 < out.length := List.length_pos_iff.2 ho
      simp [outV_ne ho, outH_ne ho, acall, h1, con_dBlank, List.take_of_length_le]
      refine ⟨fun hlt => ⟨fun hb => ?_, fun hb => ⟨fun hw => ⟨by omega, by omega, ?_⟩, fun hw => ⟨by omega, ?_⟩⟩⟩, fun hge => by omega⟩
      · rw [if_pos hb] at hs2
        have := step out (decide (0 < out.length)) hs2 (by omega) (fun _ => ho)
        rw [outV_ne ho, outH_ne ho] at this
        exact this
      · rw [if_neg (by simp [hb]), if_pos hw] at hs2
        have := step (out ++ [32] ++ [x]) false hs2 (by simp; omega) (by simp)
        rw [outV_ne (by simp), outH_ne (by simp)] at this
        simpa using this
      · rw [if_neg (by simp [hb]), if_neg (by simp [hw])] at hs2
        have := step (out ++ [x]) false hs2 (by simp; omega) (by simp)
        rw [outV_ne (by simp), outH_ne (by simp)] at this
        subst hw
        simpa using this
end Wax

/- The plain functions of the set's reference (3), and of the program's small ones. -/
namespace Wax
open Go (IntKind)

def simpleB : List UInt8 := [115, 105, 109, 112, 108, 101]
def relaxedB : List UInt8 := [114, 101, 108, 97, 120, 101, 100]

def con_dForm : List AV → Option AV
  | [.str s] => some (.bool (decide (s = simpleB ∨ s = relaxedB)))
  | _ => none

theorem ok_dForm (Γ : Gam) : ∀ args r, con_dForm args = some r → runs Γ c_laws_dForm args (fun v => v = r) := by
  intro args r h
  simp only [con_dForm] at h
  split at h <;> simp at h
  rename_i s
  subst h
  simp [c_laws_dForm, simpleB, relaxedB]
  refine ⟨fun h => ?_, fun h => by simp [h]⟩
  by_cases h2 : s = [114, 101, 108, 97, 120, 101, 100]
  · subst h2; rfl
  · simp [h, h2]

def strsA (l : List (List UInt8)) : List AV := l.map .str

def asStrs : List AV → Option (List (List UInt8))
  | [] => some []
  | .str s :: r => (asStrs r).map (s :: ·)
  | _ :: _ => none

theorem asStrs_spec : ∀ {xs : List AV} {l : List (List UInt8)}, asStrs xs = some l → xs = strsA l
  | [], l, h => by simp [asStrs] at h; subst h; rfl
  | .str s :: r, l, h => by
    simp only [asStrs] at h
    cases hr : asStrs r with
    | none => simp [hr] at h
    | some q => simp [hr] at h; subst h; rw [asStrs_spec hr]; rfl
  | .junk :: _, _, h => by simp [asStrs] at h
  | .bool _ :: _, _, h => by simp [asStrs] at h
  | .int _ _ :: _, _, h => by simp [asStrs] at h
  | .nilI :: _, _, h => by simp [asStrs] at h
  | .nilP :: _, _, h => by simp [asStrs] at h
  | .nilF :: _, _, h => by simp [asStrs] at h
  | .nilM :: _, _, h => by simp [asStrs] at h
  | .nilS :: _, _, h => by simp [asStrs] at h
  | .sl _ _ :: _, _, h => by simp [asStrs] at h
  | .ptr _ :: _, _, h => by simp [asStrs] at h
  | .agg _ :: _, _, h => by simp [asStrs] at h
  | .tup _ :: _, _, h => by simp [asStrs] at h
  | .ifc _ _ :: _, _, h => by simp [asStrs] at h
  | .fn _ _ :: _, _, h => by simp [asStrs] at h
  | .mp _ :: _, _, h => by simp [asStrs] at h
  | .ref _ _ :: _, _, h => by simp [asStrs] at h
  | .msl _ _ _ _ :: _, _, h => by simp [asStrs] at h
  | .mref _ :: _, _, h => by simp [asStrs] at h

@[simp] theorem strsA_length {l : List (List UInt8)} : (strsA l).length = l.length := by simp [strsA]
@[simp] theorem strsA_get {l : List (List UInt8)} {i : Nat} : (strsA l)[i]? = l[i]?.map .str := by simp [strsA]
@[simp] theorem asStrs_strsA {l : List (List UInt8)} : asStrs (strsA l) = some l := by induction l <;> simp_all [strsA, asStrs]

/-- A slice of texts, nil or not, as it comes in. -/
def slStrs : AV → Option (List (List UInt8))
  | .nilS => some []
  | .sl es xs => if es = 1 then asStrs xs else none
  | _ => none

def dShort (m : Int) (l : List (List UInt8)) : Bool := l.all (dPlain m) && decide ((l.length : Int) ≤ 200)

def con_dShort : List AV → Option AV
  | [.int .i64 m, v] => match slStrs v with
    | some l => if l.length < big ∧ ∀ s ∈ l, s.length < big then some (.bool (dShort m l)) else none
    | none => none
  | _ => none

theorem ok_dShort (Γ : Gam) (h6 : Γ.fn 6 = con_DPlain) : ∀ args r, con_dShort args = some r → runs Γ c_laws_dShort args (fun v => v = r) := by
  intro args r h
  simp only [con_dShort] at h
  split at h <;> (try simp at h; done)
  rename_i m v
  split at h <;> (try simp at h; done)
  rename_i l hl
  obtain ⟨⟨hlen, hall⟩, rfl⟩ := ite_some h
  clear h
  simp [big] at hlen hall
  have hv : (v = .nilS ∧ l = []) ∨ v = .sl 1 (strsA l) := by
    cases v <;> simp [slStrs] at hl
    · left; exact ⟨rfl, hl⟩
    · right; obtain ⟨e, hl⟩ := hl; rw [asStrs_spec hl, e]
  rcases hv with ⟨rfl, rfl⟩ | rfl
  · simp [c_laws_dShort]
    refine awp_loop (σ := Unit) (fun p => ⟨[(0, .int .i64 m), (1, .nilS), (5, .int .i64 0)], []⟩) (fun _ => True) (fun _ => 0) () (by simp) (by simp) ?_
    intro _ _
    simp [dShort]
  · simp [c_laws_dShort]
    refine awp_loop (σ := List (List UInt8) × List (List UInt8)) (fun p => ⟨[(0, .int .i64 m), (1, .sl 1 (strsA l)), (5, .int .i64 p.1.length)], []⟩) (fun p => l = p.1 ++ p.2 ∧ p.1.all (dPlain m) = true) (fun p => p.2.length) ([], l) (by simp) (by simp) ?_
    rintro ⟨pre, post⟩ ⟨hs1, hs2⟩
    simp only at hs1 hs2
    subst hs1
    cases post with
    | nil => simp [dShort, hs2]
    | cons x post =>
      simp at hlen
      have hx : x.length < 4611686018427387904 := hall x (by simp)
      have bad : dPlain m x = false → dShort m (pre ++ x :: post) = false := by intro h; simp [dShort, h]
      have good : dPlain m x = true → loopQ [0, 1, 5] (fun p : List (List UInt8) × List (List UInt8) => ⟨[(0, .int .i64 m), (1, .sl 1 (strsA (pre ++ x :: post))), (5, .int .i64 p.1.length)], []⟩) (fun p => pre ++ x :: post = p.1 ++ p.2 ∧ p.1.all (dPlain m) = true) (fun p => p.2.length) (pre, x :: post)
          ⟨[(0, .int .i64 m), (1, .sl 1 (strsA (pre ++ x :: post))), (5, .int .i64 (IntKind.i64.wrap (pre.length + 1)))], []⟩ := by
        intro h
        exact ⟨(pre ++ [x], post), by simp (disch := omega) [wrap64], ⟨by simp, by simp only [List.all_append, hs2, List.all_cons, h]; rfl⟩, by simp⟩
      generalize hl : loopQ [0, 1, 5] (fun p : List (List UInt8) × List (List UInt8) => (⟨[(0, .int .i64 m), (1, .sl 1 (strsA (pre ++ x :: post))), (5, .int .i64 p.1.length)], []⟩ : St)) (fun p => pre ++ x :: post = p.1 ++ p.2 ∧ p.1.all (dPlain m) = true) (fun p => p.2.length) (pre, x :: post) = LQ at good ⊢
      simp [acall, h6, con_DPlain, big, hx]
      exact ⟨fun _ => ⟨bad, good⟩, fun hge => by omega⟩

theorem trimL_length (s : List UInt8) : (trimL s).length ≤ s.length := by
  unfold trimL
  exact (List.dropWhile_sublist _).length_le
theorem trimR_length (s : List UInt8) : (trimR s).length ≤ s.length := by
  unfold trimR
  have := (List.dropWhile_sublist (fun b : UInt8 => isWs b.toNat) (l := s.reverse)).length_le
  simpa using this
theorem trimS_length (s : List UInt8) : (trimS s).length ≤ s.length := Nat.le_trans (trimR_length _) (trimL_length _)

theorem cutAt_length {c : Int} : ∀ {s a b : List UInt8}, cutAt c s = some (a, b) → s.length = a.length + b.length + 1
  | [], a, b, h => by simp [cutAt] at h
  | x :: r, a, b, h => by
    simp only [cutAt] at h
    split at h
    · simp at h; obtain ⟨rfl, rfl⟩ := h; simp
    · cases hr : cutAt c r with
      | none => simp [hr] at h
      | some p =>
        simp [hr] at h
        obtain ⟨rfl, rfl⟩ := h
        have := cutAt_length (a := p.1) (b := p.2) hr
        simp; omega

theorem joinGo_length : ∀ (s out : List UInt8) (w : Bool), (joinGo out w s).length ≤ out.length + 2 * s.length
  | [], out, w => by simp [joinGo]
  | x :: r, out, w => by
    simp only [joinGo]
    split
    · have := joinGo_length r out (decide (0 < out.length)); simp; omega
    · have := joinGo_length r ((if w then out ++ [32] else out) ++ [x]) false
      have h2 : ((if w then out ++ [32] else out) ++ [x]).length ≤ out.length + 2 := by split <;> simp
      simp only [List.length_cons]; omega

/-- A field in a canonical form. -/
def fieldOf (form field : List UInt8) : List UInt8 :=
  if form = simpleB then field else match cutAt 58 field with
    | none => trimS (lowS field) ++ [58, 13, 10]
    | some p => trimS (lowS p.1) ++ [58] ++ joinGo [] false p.2 ++ [13, 10]

def con_DFieldOf : List AV → Option AV
  | [.str form, .str field] => if field.length < mid then some (.str (fieldOf form field)) else none
  | _ => none

theorem ok_DFieldOf (Γ : Gam) (h2 : Γ.fn 2 = con_dCut) (h3 : Γ.fn 3 = con_DTrim) (h4 : Γ.fn 4 = con_DLower) (h5 : Γ.fn 5 = con_dJoined) : ∀ args r, con_DFieldOf args = some r → runs Γ c_spec_DFieldOf args (fun v => v = r) := by
  intro args r h
  simp only [con_DFieldOf] at h
  split at h <;> (try simp at h; done)
  rename_i form field
  obtain ⟨hlen, rfl⟩ := ite_some h
  clear h
  simp only [mid] at hlen
  have e1 : field.length < big := by unfold big; omega
  have t1 := trimS_length (lowS field)
  simp at t1
  simp [c_spec_DFieldOf]
  refine ⟨fun h => by simp [fieldOf, simpleB, h], fun h => ?_⟩
  simp [acall, h2, con_dCut, e1]
  cases hc : cutAt 58 field with
  | none =>
    simp [cutV, hc, acall, h4, con_DLower, e1, h3, con_DTrim]
    have : trimS (lowS field) ++ [58, 13, 10] = fieldOf form field := by simp [fieldOf, simpleB, h, hc]
    refine ⟨by omega, this⟩
  | some p =>
    obtain ⟨n, v⟩ := p
    have hl := cutAt_length hc
    have e2 : n.length < big := by unfold big; omega
    have e3 : v.length < mid := by unfold mid; omega
    have t2 := trimS_length (lowS n)
    simp at t2
    have t3 := joinGo_length v [] false
    simp at t3
    simp [cutV, hc, acall, h4, con_DLower, e2, h3, con_DTrim, h5, con_dJoined, e3]
    refine ⟨by omega, by omega, by omega, ?_⟩
    simp [fieldOf, simpleB, h, hc]
end Wax

/- Loops with a named end; growing slices; what a caller gets back. -/
namespace Wax
open Go (IntKind)

/-- A loop by a ghost; a round's end is a state of a smaller ghost. -/
theorem awp_loop2 {σ : Type} {Γ : Gam} {Q : APost} {st : St} {live : List Nat} {c : SCode} (f : σ → St) (ok : σ → Prop) (m : σ → Nat) (s0 : σ) (h0 : norm live st = f s0) (hok : ok s0)
    (hr : ∀ s, ok s → ∀ LQ : St → Prop, (∀ s', ok s' → m s' < m s → ∀ st, norm live st = f s' → LQ st) → awp Γ c (thenQ LQ Q) (f s)) : awp Γ (.loop live c) Q st := by
  refine awp_loop f ok m s0 h0 hok fun s hs => hr s hs _ ?_
  intro s' h1 h2 st h3
  exact ⟨s', h3, h1, h2⟩

@[simp] theorem reach_nil {hp : List (Nat × AObj)} {n : Nat} {acc : List Nat} : reach hp n [] acc = acc := by cases n <;> rfl
theorem reach_succ {hp : List (Nat × AObj)} {n i : Nat} {r acc : List Nat} : reach hp (n + 1) (i :: r) acc = if acc.contains i then reach hp n r acc else reach hp n (r ++ (match hlk hp i with | some o => refsO o | none => [])) (acc ++ [i]) := rfl

/-- A slice that grows from nil. -/
def grV (d es n : Nat) : AV := match n with | 0 => .nilS | n + 1 => .msl d es 0 (n + 1)
def grH (d n : Nat) (cs : List AV) : List (Nat × AObj) := match n with | 0 => [] | _ + 1 => [(d, .cells cs)]
@[simp] theorem grV_zero {d es : Nat} : grV d es 0 = .nilS := rfl
@[simp] theorem grH_zero {d : Nat} {cs : List AV} : grH d 0 cs = [] := rfl
@[simp] theorem grV_succ {d es n : Nat} : grV d es (n + 1) = .msl d es 0 (n + 1) := rfl
@[simp] theorem grH_succ {d n : Nat} {cs : List AV} : grH d (n + 1) cs = [(d, .cells cs)] := rfl

@[simp] theorem strsA_nil : strsA [] = [] := rfl
@[simp] theorem strsA_cons {x : List UInt8} {l : List (List UInt8)} : strsA (x :: l) = .str x :: strsA l := rfl
@[simp] theorem strsA_app {l m : List (List UInt8)} : strsA (l ++ m) = strsA l ++ strsA m := by simp [strsA]
@[simp] theorem atoms_strsA {l : List (List UInt8)} : atoms (strsA l) = true := by induction l <;> simp_all
@[simp] theorem killL_strsA {d : Nat} {l : List (List UInt8)} : killL d (strsA l) = strsA l := by induction l <;> simp_all
@[simp] theorem hasRefL_strsA {l : List (List UInt8)} : hasRefL (strsA l) = false := by induction l <;> simp_all
@[simp] theorem refsL_strsA {l : List (List UInt8)} : refsL (strsA l) = [] := by induction l <;> simp_all
@[simp] theorem mapIdL_strsA {g : Nat → Nat} {l : List (List UInt8)} : mapIdL g (strsA l) = strsA l := by induction l <;> simp_all
@[simp] theorem hasRefL_bcA {l : List UInt8} : hasRefL (bcA l) = false := by induction l <;> simp_all
@[simp] theorem refsL_bcA {l : List UInt8} : refsL (bcA l) = [] := by induction l <;> simp_all
@[simp] theorem mapIdL_bcA {g : Nat → Nat} {l : List UInt8} : mapIdL g (bcA l) = bcA l := by induction l <;> simp_all
@[simp] theorem strsA_drop {l : List (List UInt8)} {i : Nat} : (strsA l).drop i = strsA (l.drop i) := by simp [strsA, List.map_drop]
@[simp] theorem strsA_take {l : List (List UInt8)} {i : Nat} : (strsA l).take i = strsA (l.take i) := by simp [strsA, List.map_take]
@[simp] theorem strsA_set {l : List (List UInt8)} {i : Nat} {x : List UInt8} : (strsA l).set i (.str x) = strsA (l.set i x) := by simp [strsA, List.map_set]
@[simp] theorem snapWL_strsA {g : AV → AV} {l : List (List UInt8)} : snapWL g (strsA l) = strsA l := by induction l <;> simp_all
@[simp] theorem snapWL_bcA {g : AV → AV} {l : List UInt8} : snapWL g (bcA l) = bcA l := by induction l <;> simp_all
@[simp] theorem map_snap_strsA {n : Nat} {hp : List (Nat × AObj)} {l : List (List UInt8)} : (strsA l).map (snap (n + 1) hp) = strsA l := by induction l <;> simp_all [snap]
@[simp] theorem map_snap_bcA {n : Nat} {hp : List (Nat × AObj)} {l : List UInt8} : (bcA l).map (snap (n + 1) hp) = bcA l := by induction l <;> simp_all [snap]

@[simp] theorem refsL_app {a b : List AV} : refsL (a ++ b) = refsL a ++ refsL b := by induction a <;> simp_all
@[simp] theorem mapIdL_app {g : Nat → Nat} {a b : List AV} : mapIdL g (a ++ b) = mapIdL g a ++ mapIdL g b := by induction a <;> simp_all
@[simp] theorem hasRefL_appB {a b : List AV} : hasRefL (a ++ b) = (hasRefL a || hasRefL b) := by induction a <;> simp_all [Bool.or_assoc]
@[simp] theorem snapWL_app {g : AV → AV} {a b : List AV} : snapWL g (a ++ b) = snapWL g a ++ snapWL g b := by induction a <;> simp_all
@[simp] theorem map_snapW_strsA {g : AV → AV} {l : List (List UInt8)} : (strsA l).map (snapW g) = strsA l := by induction l <;> simp_all
@[simp] theorem map_snapW_bcA {g : AV → AV} {l : List UInt8} : (bcA l).map (snapW g) = bcA l := by induction l <;> simp_all
@[simp high] theorem aload_ref {hp : List (Nat × AObj)} {id off : Nat} : aload hp none (.ref id off) = (oCells (hlk hp id)).bind fun cs => cs[off]?.bind fun c => if atom c = true then some c else none := by
  simp only [aload]
  cases hlk hp id with
  | none => rfl
  | some o => cases o <;> simp only [oCells, Option.bind_some, loadC_drop] <;> rfl
theorem get_mid {α : Type} {a b : List α} {x : α} {n : Nat} (h : a.length = n) : (a ++ x :: b)[n]? = some x := by
  subst h; rw [List.getElem?_append_right (Nat.le_refl _)]; simp
theorem set_mid {α : Type} {a b : List α} {x y : α} {n : Nat} (h : a.length = n) : (a ++ x :: b).set n y = a ++ y :: b := by
  subst h; simp
@[simp] theorem spliceL_more {cs : List AV} {i : Nat} {x y : AV} {r : List AV} : spliceL cs i (x :: y :: r) = spliceL (cs.set i x) (i + 1) (y :: r) := rfl
@[simp] theorem killL_repl {d n : Nat} {v : AV} : killL d (List.replicate n v) = List.replicate n (kill d v) := by induction n <;> simp_all [List.replicate_succ]
@[simp] theorem refsL_repl {n : Nat} {v : AV} (h : refs v = []) : refsL (List.replicate n v) = [] := by induction n <;> simp_all [List.replicate_succ]
@[simp] theorem mapIdL_repl {g : Nat → Nat} {n : Nat} {v : AV} : mapIdL g (List.replicate n v) = List.replicate n (mapId g v) := by induction n <;> simp_all [List.replicate_succ]
@[simp] theorem atoms_repl {n : Nat} {v : AV} (h : atom v = true) : atoms (List.replicate n v) = true := by induction n <;> simp_all [List.replicate_succ]
theorem xor_neg1 (n : Int) : IntKind.i64.wrap ((BitVec.ofInt 64 (-1) ^^^ BitVec.ofInt 64 n).toNat : Int) = IntKind.i64.wrap (-n - 1) := by
  have e : BitVec.ofInt 64 (-1) ^^^ BitVec.ofInt 64 n = ~~~ BitVec.ofInt 64 n := by
    have : BitVec.ofInt 64 (-1) = BitVec.allOnes 64 := by decide
    rw [this, BitVec.allOnes_xor]
  rw [e, BitVec.toNat_not, BitVec.toNat_ofInt, IntKind.wrap_i64, IntKind.wrap_i64]
  omega
@[simp high] theorem aun_xor64 {n : Int} : aun .xor (.int .i64 n) = some (.int .i64 (IntKind.i64.wrap (-n - 1))) := by
  have := xor_neg1 n
  show some (AV.int .i64 (IntKind.i64.wrap ((BitVec.ofInt 64 (-1) ^^^ BitVec.ofInt 64 n).toNat : Int))) = _
  rw [this]
@[simp high] theorem aun_not {b : Bool} : aun .not (.bool b) = some (.bool (!b)) := rfl
@[simp high] theorem aun_neg {k : IntKind} {n : Int} : aun .neg (.int k n) = some (.int k (k.wrap (0 - n))) := rfl

section
variable {n : Nat} {hp : List (Nat × AObj)}
@[simp] theorem snap_junk : snap (n + 1) hp .junk = .junk := rfl
@[simp] theorem snap_bool {b} : snap (n + 1) hp (.bool b) = .bool b := rfl
@[simp] theorem snap_int {k m} : snap (n + 1) hp (.int k m) = .int k m := rfl
@[simp] theorem snap_str {s} : snap (n + 1) hp (.str s) = .str s := rfl
@[simp] theorem snap_nilI : snap (n + 1) hp .nilI = .nilI := rfl
@[simp] theorem snap_nilP : snap (n + 1) hp .nilP = .nilP := rfl
@[simp] theorem snap_nilF : snap (n + 1) hp .nilF = .nilF := rfl
@[simp] theorem snap_nilM : snap (n + 1) hp .nilM = .nilM := rfl
@[simp] theorem snap_nilS : snap (n + 1) hp .nilS = .nilS := rfl
@[simp] theorem snap_sl {e xs} : snap (n + 1) hp (.sl e xs) = .sl e xs := rfl
@[simp] theorem snap_ptr {cs} : snap (n + 1) hp (.ptr cs) = .ptr cs := rfl
@[simp] theorem snap_bx {cs} : snap (n + 1) hp (.bx cs) = .bx cs := rfl
@[simp] theorem snap_mp {es} : snap (n + 1) hp (.mp es) = .mp es := rfl
@[simp] theorem snap_ifc {t v} : snap (n + 1) hp (.ifc t v) = .ifc t (snap (n + 1) hp v) := rfl
theorem snapWL_map {g : AV → AV} : ∀ l : List AV, snapWL g l = l.map (snapW g)
  | [] => rfl
  | x :: r => by simp [snapWL, snapWL_map r]
@[simp] theorem snap_agg {cs} : snap (n + 1) hp (.agg cs) = .agg (cs.map (snap (n + 1) hp)) := by
  show AV.agg (snapWL _ cs) = _
  rw [snapWL_map]; rfl
@[simp] theorem snap_tup {cs} : snap (n + 1) hp (.tup cs) = .tup (cs.map (snap (n + 1) hp)) := by
  show AV.tup (snapWL _ cs) = _
  rw [snapWL_map]; rfl
@[simp] theorem snap_fn {f cs} : snap (n + 1) hp (.fn f cs) = .fn f (cs.map (snap (n + 1) hp)) := by
  show AV.fn f (snapWL _ cs) = _
  rw [snapWL_map]; rfl
@[simp] theorem snap_ref {id off} : snap (n + 1) hp (.ref id off) = match oCells (hlk hp id) with | some cs => .ptr ((cs.drop off).map (snap n hp)) | none => .junk := by
  show resolveA (snap n hp) hp (.ref id off) = _
  simp only [resolveA]
  cases hlk hp id with
  | none => rfl
  | some o => cases o <;> rfl
@[simp] theorem snap_msl {id es off m} : snap (n + 1) hp (.msl id es off m) = match oCells (hlk hp id) with | some cs => if off + m * es ≤ cs.length ∧ atoms cs = true ∧ 0 < es then .sl es (elems es m ((cs.drop off).map (snap n hp))) else .junk | none => .junk := by
  show resolveA (snap n hp) hp (.msl id es off m) = _
  simp only [resolveA]
  cases hlk hp id with
  | none => rfl
  | some o => cases o <;> rfl
@[simp] theorem snap_mref {id} : snap (n + 1) hp (.mref id) = match oMp (hlk hp id) with | some es => .mp es | none => .junk := by
  show resolveA (snap n hp) hp (.mref id) = _
  simp only [resolveA]
  cases hlk hp id with
  | none => rfl
  | some o => cases o <;> rfl
end
end Wax

/- The program's own functions: searching, cutting, letters, white space. -/
namespace Wax
open Go (IntKind)

/-- Where a text stands first in another. -/
def findAt (sub : List UInt8) : List UInt8 → Nat → Option Nat
  | [], n => if sub = [] then some n else none
  | x :: r, n => if sub.isPrefixOf (x :: r) then some n else findAt sub r (n + 1)

def idxV (sub s : List UInt8) : Int := match findAt sub s 0 with | some n => (n : Int) | none => -1

def con_zzIndex : List AV → Option AV
  | [.str s, .str sub] => if s.length < big ∧ sub.length < big then some (.int .i64 (idxV sub s)) else none
  | _ => none

theorem isPrefixOf_take (sub : List UInt8) (s : List UInt8) (h : sub.length ≤ s.length) : sub.isPrefixOf s = decide (s.take sub.length = sub) := by
  induction sub generalizing s with
  | nil => simp
  | cons a r ih =>
    cases s with
    | nil => simp at h
    | cons b s =>
      simp at h
      simp only [List.isPrefixOf, ih s h, List.length_cons, List.take_succ_cons]
      by_cases e : a = b
      · subst e; simp
      · have e' : ¬ b = a := fun x => e x.symm
        simp [e, e']

theorem isPrefixOf_long (sub : List UInt8) (s : List UInt8) (h : s.length < sub.length) : sub.isPrefixOf s = false := by
  induction sub generalizing s with
  | nil => simp at h
  | cons a r ih =>
    cases s with
    | nil => simp [List.isPrefixOf]
    | cons b s =>
      simp at h
      simp [List.isPrefixOf, ih s h]

theorem findAt_none (sub : List UInt8) : ∀ (s : List UInt8) (n : Nat), s.length < sub.length → findAt sub s n = none
  | [], n, h => by
    have : sub ≠ [] := by intro e; subst e; simp at h
    simp [findAt, this]
  | x :: r, n, h => by
    simp only [findAt, isPrefixOf_long sub (x :: r) h, Bool.false_eq_true, if_false]
    exact findAt_none sub r (n + 1) (by simp at h; omega)

theorem ok_zzIndex (Γ : Gam) : ∀ args r, con_zzIndex args = some r → runs Γ c_dkim_zzIndex args (fun v => v = r) := by
  intro args r h
  simp only [con_zzIndex] at h
  split at h <;> (try simp at h; done)
  rename_i s sub
  obtain ⟨⟨hs, hb⟩, rfl⟩ := ite_some h
  clear h
  simp only [big] at hs hb
  simp [c_dkim_zzIndex]
  refine awp_loop (σ := List UInt8 × List UInt8) (fun p => ⟨[(0, .str s), (1, .str sub), (5, .int .i64 p.1.length)], []⟩) (fun p => s = p.1 ++ p.2 ∧ findAt sub s 0 = findAt sub p.2 p.1.length) (fun p => p.2.length) ([], s) (by simp) (by simp) ?_
  rintro ⟨pre, post⟩ ⟨hs1, hs2⟩
  simp only at hs1 hs2
  subst hs1
  simp at hs
  simp (disch := omega) [wrap64]
  refine ⟨fun hle => ?_, fun hlt => ?_⟩
  · have et : ((pre.length : Int) + (sub.length : Int)).toNat = pre.length + sub.length := by omega
    have e : List.drop pre.length (List.take (pre.length + sub.length) (pre ++ post)) = post.take sub.length := by
      rw [List.take_length_add_append, List.drop_left]
    rw [et, e]
    refine ⟨⟨by omega, hle⟩, fun h => ?_, fun h => ?_⟩
    · rw [idxV, hs2]
      cases post with
      | nil =>
        have : sub = [] := by cases sub <;> simp at hle ⊢
        simp [findAt, this]
      | cons x post => simp only [findAt, isPrefixOf_take sub (x :: post) hle, h, decide_true, if_true]
    · cases post with
      | nil =>
        have : sub = [] := by cases sub <;> simp at hle ⊢
        subst this; simp at h
      | cons x post =>
        refine ⟨(pre ++ [x], post), by simp, ⟨by simp, ?_⟩, by simp⟩
        rw [hs2]
        simp only [findAt, isPrefixOf_take sub (x :: post) hle, h, decide_false, Bool.false_eq_true, if_false]
        simp
  · rw [idxV, hs2, findAt_none sub post _ (by omega)]

/-- Of a text of one byte. -/
theorem findAt_one (c : UInt8) : ∀ (s : List UInt8) (n : Nat), findAt [c] s n = (cutAt c.toNat s).map fun p => n + p.1.length
  | [], n => by simp [findAt, cutAt]
  | x :: r, n => by
    simp only [findAt, cutAt, List.isPrefixOf, Bool.and_true]
    by_cases e : x = c
    · subst e; simp
    · have e1 : ¬ (x.toNat : Int) = (c.toNat : Int) := fun h => e (UInt8.toNat_inj.1 (by omega))
      have e2 : (c == x) = false := by simp; exact fun h => e h.symm
      simp only [e2, Bool.false_eq_true, if_false, if_neg e1, findAt_one c r (n + 1), Option.map_map]
      congr 1; funext p; simp; omega

theorem cutAt_eq {c : Int} : ∀ {s a b : List UInt8}, cutAt c s = some (a, b) → ∃ x : UInt8, (x.toNat : Int) = c ∧ s = a ++ x :: b ∧ noB c a
  | [], a, b, h => by simp [cutAt] at h
  | x :: r, a, b, h => by
    simp only [cutAt] at h
    split at h
    · rename_i e; simp at h; obtain ⟨rfl, rfl⟩ := h; exact ⟨x, e, by simp, by simp [noB]⟩
    · rename_i e
      cases hr : cutAt c r with
      | none => simp [hr] at h
      | some p =>
        simp [hr] at h
        obtain ⟨rfl, rfl⟩ := h
        obtain ⟨y, h1, h2, h3⟩ := cutAt_eq (a := p.1) (b := p.2) hr
        refine ⟨y, h1, by rw [h2]; simp, ?_⟩
        intro z hz
        simp at hz
        rcases hz with rfl | hz
        · exact e
        · exact h3 z hz

/-- Cut at a text of one byte. -/
def con_zzCut : List AV → Option AV
  | [.str s, .str [c]] => if s.length < big then some (cutV c.toNat s) else none
  | _ => none

theorem ok_zzCut (Γ : Gam) (h22 : Γ.fn 22 = con_zzIndex) : ∀ args r, con_zzCut args = some r → runs Γ c_dkim_zzCut args (fun v => v = r) := by
  intro args r h
  simp only [con_zzCut] at h
  split at h <;> (try simp at h; done)
  rename_i s c
  obtain ⟨hs, rfl⟩ := ite_some h
  clear h
  simp [c_dkim_zzCut]
  have h1 : 1 < big := by decide
  simp [acall, h22, con_zzIndex, hs, h1]
  simp only [big] at hs
  simp only [idxV, findAt_one]
  cases hc : cutAt c.toNat s with
  | none => simp [cutV, hc]
  | some p =>
    obtain ⟨a, b⟩ := p
    obtain ⟨x, hx1, hx2, hx3⟩ := cutAt_eq hc
    subst hx2
    simp at hs
    simp (disch := omega) [cutV, hc, wrap64]
    have e2 : ((a.length : Int) + 1).toNat = a.length + 1 := by omega
    omega
end Wax

/- The program's own functions: splitting, lists of tags. -/
namespace Wax
open Go (IntKind)

/-- What stands between the places of a byte. -/
def splitB (b : UInt8) : List UInt8 → List (List UInt8)
  | [] => [[]]
  | x :: r => if x = b then [] :: splitB b r else match splitB b r with
    | [] => [[x]]
    | h :: t => (x :: h) :: t

theorem splitB_ne (b : UInt8) (s : List UInt8) : splitB b s ≠ [] := by
  cases s with
  | nil => simp [splitB]
  | cons x r => simp only [splitB]; split; simp; split <;> simp

theorem splitB_cut (b : UInt8) : ∀ (s : List UInt8), splitB b s = match cutAt b.toNat s with | none => [s] | some (a, c) => a :: splitB b c
  | [] => rfl
  | x :: r => by
    have ih := splitB_cut b r
    simp only [splitB, cutAt]
    by_cases e : x = b
    · subst e; simp
    · have e1 : ¬ (x.toNat : Int) = (b.toNat : Int) := fun h => e (UInt8.toNat_inj.1 (by omega))
      rw [if_neg e, if_neg e1, ih]
      cases cutAt b.toNat r with
      | none => rfl
      | some p => rfl

theorem splitB_length (b : UInt8) : ∀ (s : List UInt8), (splitB b s).length ≤ s.length + 1
  | [] => by simp [splitB]
  | x :: r => by
    have ih := splitB_length b r
    simp only [splitB]
    split
    · simp; omega
    · split
      · simp
      · rename_i h t e; rw [e] at ih; simp at ih ⊢; omega

theorem splitB_mem_length (b : UInt8) : ∀ (s p : List UInt8), p ∈ splitB b s → p.length ≤ s.length
  | [], p, h => by simp [splitB] at h; subst h; simp
  | x :: r, p, h => by
    have ih := splitB_mem_length b r
    simp only [splitB] at h
    split at h
    · rcases List.mem_cons.1 h with e | h
      · subst e; simp
      · have := ih p h; simp; omega
    · split at h
      · simp at h; subst h; simp
      · rename_i hd t e
        rcases List.mem_cons.1 h with e' | h
        · subst e'
          have := ih hd (by rw [e]; simp); simp; omega
        · have := ih p (by rw [e]; simp [h]); simp; omega

def con_zzSplit : List AV → List (Nat × AObj) → Option (AV × List (Nat × AObj))
  | [.str s, .str [b]], [] => if s.length < mid then some (.msl 0 1 0 (splitB b s).length, [(0, .cells (strsA (splitB b s)))]) else none
  | _, _ => none

theorem ok_zzSplit (Γ : Gam) (h22 : Γ.fn 22 = con_zzIndex) : ∀ args hp q, con_zzSplit args hp = some q → runsS Γ c_dkim_zzSplit args hp (fun v => v = some q) := by
  intro args hp q h
  simp only [con_zzSplit] at h
  split at h <;> (try simp at h; done)
  rename_i s b
  obtain ⟨hs, rfl⟩ := ite_some h
  clear h
  simp only [mid] at hs
  have h1 : 1 < big := by decide
  simp [c_dkim_zzSplit, t_dkim_zzSplit_4]
  refine awp_loop2 (σ := List (List UInt8) × List UInt8) (fun p => ⟨[(0, .str p.2), (1, .str [b]), (5, grV 51 1 p.1.length)], grH 51 p.1.length (strsA p.1)⟩)
    (fun p => splitB b s = p.1 ++ splitB b p.2 ∧ p.1.length + p.2.length ≤ s.length) (fun p => p.2.length) ([], s) (by simp) (by simp) ?_
  rintro ⟨done, cur⟩ ⟨hs1, hs2⟩ LQ hLQ
  simp only at hs1 hs2
  have hcb : cur.length < big := by simp only [big]; omega
  simp [b_dkim_zzSplit_3, acall, h22, con_zzIndex, hcb, h1]
  simp only [idxV, findAt_one]
  rw [splitB_cut b cur] at hs1
  cases hc : cutAt b.toNat cur with
  | none =>
    simp only [hc] at hs1
    rw [hs1]
    cases done with
    | nil => simp [reach_succ]
    | cons d0 dr =>
      simp [reach_succ]
      simp at hs2
      omega
  | some p =>
    obtain ⟨a, c⟩ := p
    simp only [hc] at hs1
    obtain ⟨x, hx1, hx2, hx3⟩ := cutAt_eq hc
    subst hx2
    simp at hs2
    have fin : ∀ st, norm [0, 1, 5] st = ⟨[(0, .str c), (1, .str [b]), (5, grV 51 1 (done ++ [a]).length)], grH 51 (done ++ [a]).length (strsA (done ++ [a]))⟩ → LQ st := by
      intro st hst
      exact hLQ (done ++ [a], c) ⟨by simpa using hs1, by simp; omega⟩ (by simp; omega) st hst
    have e2 : ((a.length : Int) + 1).toNat = a.length + 1 := by omega
    cases done with
    | nil =>
      simp (disch := omega) [wrap64]
      refine ⟨by omega, by omega, ⟨by omega, by omega⟩, fin _ ?_⟩
      simp
    | cons d0 dr =>
      simp at hs2
      simp (disch := omega) [wrap64]
      refine ⟨by omega, by omega, by omega, ⟨by omega, by omega⟩, fin _ ?_⟩
      simp
end Wax

/- The program's own functions (2): letters, white space, of texts of ASCII. -/
namespace Wax
open Go (IntKind)

def ascii (s : List UInt8) : Bool := s.all fun b => decide (b.toNat < 128)

theorem ascii_cons {x : UInt8} {s : List UInt8} : ascii (x :: s) = (decide (x.toNat < 128) && ascii s) := rfl
theorem ascii_app {s t : List UInt8} : ascii (s ++ t) = (ascii s && ascii t) := by simp [ascii]

def con_zzToLower : List AV → Option AV
  | [.str s] => if s.length < mid ∧ ascii s = true then some (.str (lowS s)) else none
  | _ => none

theorem ok_zzToLower (Γ : Gam) : ∀ args r, con_zzToLower args = some r → runs Γ c_dkim_zzToLower args (fun v => v = r) := by
  intro args r h
  simp only [con_zzToLower] at h
  split at h <;> (try simp at h; done)
  rename_i s
  obtain ⟨⟨hs, ha⟩, rfl⟩ := ite_some h
  clear h
  simp only [mid] at hs
  simp [c_dkim_zzToLower]
  refine awp_loop (σ := List UInt8 × List UInt8 × Nat) (fun p => ⟨[(0, .str s), (3, outV p.2.2 (lowS p.1)), (4, .int .i64 p.1.length)], outH p.2.2 (lowS p.1)⟩)
    (fun p => s = p.1 ++ p.2.1 ∧ (p.2.2 = 18 ∨ p.2.2 = 31)) (fun p => p.2.1.length) ([], s, 18) (by simp) (by simp) ?_
  rintro ⟨pre, post, d⟩ ⟨hs1, hd⟩
  simp only at hs1 hd
  subst hs1
  cases post with
  | nil =>
    by_cases ho : pre = []
    · subst ho; simp
    · have hne : lowS pre ≠ [] := by intro e; apply ho; simpa [lowS] using e
      have e : List.take pre.length (lowS pre) = lowS pre := List.take_of_length_le (by simp)
      simp [outV_ne hne, outH_ne hne, e]
  | cons x post =>
    simp at hs
    have hx : x.toNat < 128 := by
      have := (by simpa [ascii_app, ascii_cons] using ha : ascii pre = true ∧ x.toNat < 128 ∧ ascii post = true)
      exact this.2.1
    have hl := lowB_toNat x
    have step : ∀ (n : Int) d', n = (lowB x).toNat → (d' = 18 ∨ d' = 31) →
        loopQ [0, 3, 4] (fun p : List UInt8 × List UInt8 × Nat => ⟨[(0, .str (pre ++ x :: post)), (3, outV p.2.2 (lowS p.1)), (4, .int .i64 p.1.length)], outH p.2.2 (lowS p.1)⟩)
          (fun p => pre ++ x :: post = p.1 ++ p.2.1 ∧ (p.2.2 = 18 ∨ p.2.2 = 31)) (fun p => p.2.1.length) (pre, x :: post, d)
          ⟨[(0, .str (pre ++ x :: post)), (3, .msl d' 1 0 (pre.length + 1)), (4, .int .i64 (IntKind.i64.wrap (pre.length + 1)))], [(d', .cells (bcA (lowS pre) ++ [.int .u8 n]))]⟩ := by
      intro n d' hn h1
      subst hn
      refine ⟨(pre ++ [x], post, d'), ?_, ⟨by simp, h1⟩, by simp⟩
      have e1 : outV d' (lowS (pre ++ [x])) = .msl d' 1 0 (pre.length + 1) := by rw [outV_ne (by simp)]; simp
      have e2 : outH d' (lowS (pre ++ [x])) = [(d', .cells (bcA (lowS pre) ++ [.int .u8 (lowB x).toNat]))] := by rw [outH_ne (by simp)]; simp
      simp (disch := omega) only [e1, e2]
      simp (disch := omega) [wrap64]
    generalize hl2 : loopQ [0, 3, 4] (fun p : List UInt8 × List UInt8 × Nat => (⟨[(0, .str (pre ++ x :: post)), (3, outV p.2.2 (lowS p.1)), (4, .int .i64 p.1.length)], outH p.2.2 (lowS p.1)⟩ : St))
          (fun p => pre ++ x :: post = p.1 ++ p.2.1 ∧ (p.2.2 = 18 ∨ p.2.2 = 31)) (fun p => p.2.1.length) (pre, x :: post, d) = LQ at step ⊢
    clear hl2
    by_cases hlow : 65 ≤ (x.toNat : Int) ∧ (x.toNat : Int) ≤ 90
    · obtain ⟨l1, l2⟩ := hlow
      rw [if_pos ⟨l1, l2⟩] at hl
      have w1 : IntKind.u8.wrap ((x.toNat : Int) + 97) = (x.toNat : Int) + 97 := Go.IntWalk.u8_in _ ⟨by omega, by omega⟩
      have w2 : IntKind.u8.wrap ((x.toNat : Int) + 97 - 65) = (x.toNat : Int) + 97 - 65 := Go.IntWalk.u8_in _ ⟨by omega, by omega⟩
      have st := step ((x.toNat : Int) + 97 - 65) 31 (by omega) (.inr rfl)
      have tk : List.take pre.length (lowS pre) = lowS pre := List.take_of_length_le (by simp)
      by_cases ho : pre = []
      · subst ho
        simp [w1, w2, l1, l2]
        simpa using st
      · have hne : lowS pre ≠ [] := by intro e; apply ho; simpa [lowS] using e
        rcases hd with rfl | rfl
        · simp [outV_ne hne, outH_ne hne, w1, w2, l1, l2, tk]
          exact ⟨fun _ => ⟨by omega, st⟩, by omega⟩
        · simp [outV_ne hne, outH_ne hne, w1, w2, l1, l2, tk]
          exact ⟨fun _ => ⟨by omega, st⟩, by omega⟩
    · rw [if_neg hlow] at hl
      have st := step (x.toNat : Int) 18 (by omega) (.inl rfl)
      have tk : List.take pre.length (lowS pre) = lowS pre := List.take_of_length_le (by simp)
      have hx226 : ¬ x = 226 := by intro e; subst e; simp at hx
      have et : ((pre.length : Int) + 3).toNat = pre.length + 3 := by omega
      have e3 : List.drop pre.length (List.take (pre.length + 3) (pre ++ x :: post)) = x :: post.take 2 := by
        rw [List.take_length_add_append, List.drop_left]; rfl
      have ew : ((pre.length : Int) + ((post.length : Int) + 1) - (pre.length : Int)) = (post.length : Int) + 1 := by omega
      have hcase : (¬ 65 ≤ (x.toNat : Int)) ∨ ((65 ≤ (x.toNat : Int)) ∧ ¬ (x.toNat : Int) ≤ 90) := by omega
      have ewr : IntKind.i64.wrap ((pre.length : Int) + 1) = (pre.length : Int) + 1 := wrap64 (by omega) (by omega)
      rw [ewr] at st
      by_cases ho : pre = []
      · subst ho
        simp at st e3
        rcases hcase with l1 | ⟨l1, l2⟩
        · simp [l1]
          simp (disch := omega) [wrap64, l1, hx226, e3]
          exact ⟨fun h => ⟨h, st⟩, fun _ => st⟩
        · simp [l1, l2]
          simp (disch := omega) [wrap64, l1, l2, hx226, e3]
          exact ⟨fun h => ⟨h, st⟩, fun _ => st⟩
      · have hne : lowS pre ≠ [] := by intro e; apply ho; simpa [lowS] using e
        rcases hcase with l1 | ⟨l1, l2⟩
        · rcases hd with rfl | rfl
          · simp [outV_ne hne, outH_ne hne, l1]
            simp (disch := omega) [tk, wrap64, l1, hx226, et, e3, ew]
            exact ⟨fun _ => ⟨fun h => ⟨⟨by omega, h⟩, by omega, st⟩, fun _ => ⟨by omega, st⟩⟩, by omega⟩
          · simp [outV_ne hne, outH_ne hne, l1]
            simp (disch := omega) [tk, wrap64, l1, hx226, et, e3, ew]
            exact ⟨fun _ => ⟨fun h => ⟨⟨by omega, h⟩, by omega, st⟩, fun _ => ⟨by omega, st⟩⟩, by omega⟩
        · rcases hd with rfl | rfl
          · simp [outV_ne hne, outH_ne hne, l1, l2]
            simp (disch := omega) [tk, wrap64, l1, l2, hx226, et, e3, ew]
            exact ⟨fun _ => ⟨fun h => ⟨⟨by omega, h⟩, by omega, st⟩, fun _ => ⟨by omega, st⟩⟩, by omega⟩
          · simp [outV_ne hne, outH_ne hne, l1, l2]
            simp (disch := omega) [tk, wrap64, l1, l2, hx226, et, e3, ew]
            exact ⟨fun _ => ⟨fun h => ⟨⟨by omega, h⟩, by omega, st⟩, fun _ => ⟨by omega, st⟩⟩, by omega⟩
end Wax

/- The program's own functions (3): white space, of ASCII. -/
namespace Wax
open Go (IntKind)

def isSp (n : Int) : Bool := decide ((9 ≤ n ∧ n ≤ 13) ∨ n = 32)

def con_zzIsSpace : List AV → Option AV
  | [.int .i32 n] => if n < 128 then some (.bool (isSp n)) else none
  | _ => none

theorem ok_zzIsSpace (Γ : Gam) : ∀ args r, con_zzIsSpace args = some r → runs Γ c_dkim_zzIsSpace args (fun v => v = r) := by
  intro args r h
  simp only [con_zzIsSpace] at h
  split at h <;> (try simp at h; done)
  rename_i n
  obtain ⟨hn, rfl⟩ := ite_some h
  clear h
  have f1 : ¬ n = 133 := by omega
  have f2 : ¬ n = 160 := by omega
  have f3 : ¬ n = 5760 := by omega
  have f4 : ¬ 8192 ≤ n := by omega
  have f5 : ¬ n = 8232 := by omega
  have f6 : ¬ n = 8233 := by omega
  have f7 : ¬ n = 8239 := by omega
  have f8 : ¬ n = 8287 := by omega
  have f9 : ¬ n = 12288 := by omega
  have key : ∀ b : Bool, ((9 ≤ n ∧ n ≤ 13) ∨ n = 32 ↔ b = true) → b = isSp n := by
    intro b hb; unfold isSp; cases b <;> simp at hb ⊢ <;> omega
  by_cases h1 : 9 ≤ n <;> by_cases h2 : n ≤ 13 <;> by_cases h3 : n = 32 <;>
    simp [c_dkim_zzIsSpace, f1, f2, f3, f4, f5, f6, f7, f8, f9, h1, h2, h3] <;> first | rfl | exact decide_eq_true (by omega) | exact decide_eq_false (by omega)

def con_closure : List AV → Option AV
  | [.int .i32 n] => some (.bool (isWs n))
  | _ => none

theorem ok_closure (Γ : Gam) : ∀ args r, con_closure args = some r → runs Γ c_dkim_relaxedCanonicalizer_CanonicalizeHeader_1 args (fun v => v = r) := by
  intro args r h
  simp only [con_closure] at h
  split at h <;> simp at h
  rename_i b
  subst h
  simp [c_dkim_relaxedCanonicalizer_CanonicalizeHeader_1, isWs]
  refine ⟨fun h => ⟨fun h2 => ⟨fun h3 => ?_, fun h3 => ?_⟩, fun h2 => ?_⟩, fun h => ?_⟩ <;> simp [*]

def con_simpleCH : List AV → Option AV
  | [_, .str s] => some (.str s)
  | _ => none

theorem ok_simpleCH (Γ : Gam) : ∀ args r, con_simpleCH args = some r → runs Γ c_dkim_simpleCanonicalizer_CanonicalizeHeader args (fun v => v = r) := by
  intro args r h
  simp only [con_simpleCH] at h
  split at h <;> simp at h
  subst h
  simp [c_dkim_simpleCanonicalizer_CanonicalizeHeader]

def con_canonicalizers : List AV → Option AV
  | [.str s] => some (if s = simpleB then .tup [.ifc 1 (.ptr []), .bool true] else if s = relaxedB then .tup [.ifc 2 (.ptr []), .bool true] else .tup [.nilI, .bool false])
  | _ => none

theorem ok_canonicalizers (Γ : Gam) : ∀ args r, con_canonicalizers args = some r → runs Γ c_dkim_canonicalizers args (fun v => v = r) := by
  intro args r h
  simp only [con_canonicalizers] at h
  split at h <;> simp at h
  rename_i s
  subst h
  simp [c_dkim_canonicalizers, simpleB, relaxedB, snap, snapW, snapWL, resolveA]
  exact ⟨fun h => by simp [h], fun h => ⟨fun h2 => by simp [h2], fun h2 => by simp [h, h2]⟩⟩

/-- The parts of a text between white space. -/
def wordsGo : List UInt8 → List UInt8 → List (List UInt8)
  | cur, [] => if cur = [] then [] else [cur]
  | cur, x :: r => if isWs x.toNat then (if cur = [] then wordsGo [] r else cur :: wordsGo [] r) else wordsGo (cur ++ [x]) r
def wordsOf (s : List UInt8) : List (List UInt8) := wordsGo [] s

def joinB : List (List UInt8) → List UInt8
  | [] => []
  | [s] => s
  | s :: r => s ++ [32] ++ joinB r

theorem wordsGo_ne : ∀ (s cur : List UInt8), cur ≠ [] → wordsGo cur s ≠ []
  | [], cur, h => by simp [wordsGo, h]
  | x :: r, cur, h => by
    simp only [wordsGo]
    split
    · simp
    · exact wordsGo_ne r _ (by simp)

def J2 (ws : List (List UInt8)) : List UInt8 := if ws = [] then [] else 32 :: joinB ws

theorem joinB_cons (c : List UInt8) (ws : List (List UInt8)) : joinB (c :: ws) = c ++ J2 ws := by
  cases ws with
  | nil => simp [joinB, J2]
  | cons d r => simp [joinB, J2]

theorem J2_ne {ws : List (List UInt8)} (h : ws ≠ []) : J2 ws = 32 :: joinB ws := by simp [J2, h]

/-- The reference's joined text is that of the words. -/
theorem joinGo_words : ∀ (s : List UInt8),
    (∀ out : List UInt8, out ≠ [] → joinGo out true s = out ++ J2 (wordsOf s)) ∧
    (joinGo [] false s = joinB (wordsOf s)) ∧
    (∀ pre cur : List UInt8, cur ≠ [] → joinGo (pre ++ cur) false s = pre ++ joinB (wordsGo cur s))
  | [] => by
    refine ⟨fun out _ => by simp [joinGo, wordsOf, wordsGo, J2], by simp [joinGo, wordsOf, wordsGo, joinB], fun pre cur h => by simp [joinGo, wordsGo, h, joinB]⟩
  | x :: r => by
    obtain ⟨hA, hB, hC⟩ := joinGo_words r
    by_cases hw : isWs x.toNat = true
    · refine ⟨fun out ho => ?_, ?_, fun pre cur hc => ?_⟩
      · have : decide (0 < out.length) = true := decide_eq_true (List.length_pos_iff.2 ho)
        simp only [joinGo, if_pos hw, this, hA out ho, wordsOf, wordsGo]
        rfl
      · simp only [joinGo, if_pos hw, wordsOf, wordsGo]
        exact hB
      · have : decide (0 < (pre ++ cur).length) = true := decide_eq_true (List.length_pos_iff.2 (by simp [hc]))
        simp only [joinGo, if_pos hw, this, hA (pre ++ cur) (by simp [hc]), wordsGo, if_neg hc, joinB_cons]
        simp [wordsOf]
    · refine ⟨fun out ho => ?_, ?_, fun pre cur hc => ?_⟩
      · have h1 := hC (out ++ [32]) [x] (by simp)
        have h2 := wordsGo_ne r [x] (by simp)
        simp only [joinGo, if_neg hw, if_true, wordsOf, wordsGo, List.nil_append, h1, J2_ne h2]
        simp
      · have h1 := hC [] [x] (by simp)
        simp only [joinGo, if_neg hw, wordsOf, wordsGo, List.nil_append] at h1 ⊢
        exact h1
      · have h1 := hC pre (cur ++ [x]) (by simp)
        simp only [joinGo, if_neg hw, wordsGo, ← List.append_assoc] at h1 ⊢
        exact h1

theorem joinB_words (s : List UInt8) : joinB (wordsOf s) = joinGo [] false s := (joinGo_words s).2.1.symm

def relaxedOf (s : List UInt8) : List UInt8 :=
  match cutAt 58 s with
  | none => trimS (lowS s) ++ [58, 13, 10]
  | some p => trimS (lowS p.1) ++ [58] ++ joinB (wordsOf p.2) ++ [13, 10]

def con_FieldsFunc : List AV → Option AV
  | [.str s, .fn 20 []] => if s.length < mid ∧ ascii s = true then some (.sl 1 (strsA (wordsOf s))) else none
  | _ => none

def con_Join : List AV → Option AV
  | [v, .str [32]] => match slStrs v with
    | some l => if (joinB l).length < mid then some (.str (joinB l)) else none
    | none => none
  | _ => none

def plain (s : List UInt8) : Bool := s.all plainB

def con_zzTrimSpace : List AV → Option AV
  | [.str s] => if s.length < mid ∧ plain s = true then some (.str (trimS s)) else none
  | _ => none

def con_relaxedCH : List AV → Option AV
  | [_, .str s] => if s.length < mid ∧ plain s = true ∧ (∀ p, cutAt 58 s = some p → (joinB (wordsOf p.2)).length < mid) then some (.str (relaxedOf s)) else none
  | _ => none

theorem plain_ascii {s : List UInt8} (h : plain s = true) : ascii s = true := by
  simp only [plain, ascii, List.all_eq_true] at h ⊢
  intro b hb
  have := of_decide_eq_true (h b hb)
  exact decide_eq_true (by omega)

theorem plain_low {s : List UInt8} (h : plain s = true) : plain (lowS s) = true := by
  simp only [plain, lowS, List.all_eq_true, List.mem_map] at h ⊢
  rintro b ⟨a, ha, rfl⟩
  have h1 := of_decide_eq_true (h a ha)
  have h2 := lowB_toNat a
  apply plainB_true
  split at h2 <;> omega

theorem ok_relaxedCH (Γ : Gam) (h16 : Γ.fn 16 = con_zzCut) (h17 : Γ.fn 17 = con_zzToLower) (h18 : Γ.fn 18 = con_zzTrimSpace) (h19 : Γ.fn 19 = con_FieldsFunc) (h21 : Γ.fn 21 = con_Join) :
    ∀ args r, con_relaxedCH args = some r → runs Γ c_dkim_relaxedCanonicalizer_CanonicalizeHeader args (fun v => v = r) := by
  intro args r h
  simp only [con_relaxedCH] at h
  split at h <;> (try simp at h; done)
  rename_i v s
  obtain ⟨⟨hs, hp, hj⟩, rfl⟩ := ite_some h
  clear h
  have e1 : s.length < big := by simp only [mid, big] at *; omega
  simp [c_dkim_relaxedCanonicalizer_CanonicalizeHeader]
  simp [acall, h16, con_zzCut, e1]
  have t1 := trimS_length (lowS s)
  simp at t1
  cases hc : cutAt 58 s with
  | none =>
    simp [cutV, hc, acall, h17, con_zzToLower, hs, plain_ascii hp, h18, con_zzTrimSpace, plain_low hp]
    simp only [mid] at hs
    refine ⟨by omega, by omega, ?_⟩
    simp [relaxedOf, hc]
  | some p =>
    obtain ⟨n, w⟩ := p
    have hl := cutAt_length hc
    obtain ⟨x, hx1, hx2, hx3⟩ := cutAt_eq hc
    have hpn : plain n = true ∧ plain w = true := by
      have h2 := hp
      rw [hx2] at h2
      simp only [plain, List.all_append, List.all_cons, Bool.and_eq_true] at h2 ⊢
      exact ⟨h2.1, h2.2.2⟩
    have e2 : n.length < mid := by simp only [mid] at *; omega
    have e3 : w.length < mid := by simp only [mid] at *; omega
    have hj' := hj (n, w) hc
    simp only at hj'
    have t2 := trimS_length (lowS n)
    simp at t2
    have hsl : slStrs (.sl 1 (strsA (wordsOf w))) = some (wordsOf w) := by simp [slStrs]
    simp [cutV, hc, acall, h17, con_zzToLower, e2, plain_ascii hpn.1, h18, con_zzTrimSpace, plain_low hpn.1, h19, con_FieldsFunc, e3, plain_ascii hpn.2, h21, con_Join, hsl, hj']
    simp only [mid] at e2 e3 hj'
    refine ⟨by omega, by omega, by omega, ?_⟩
    simp [relaxedOf, hc]

/-- A field in a form, as the program gives it; false: there is no such form. -/
def canonV (form s : List UInt8) : AV :=
  if form = simpleB then .tup [.str s, .bool true] else if form = relaxedB then .tup [.str (relaxedOf s), .bool true] else .tup [.str [], .bool false]

abbrev relOk (s : List UInt8) : Prop := s.length < mid ∧ plain s = true ∧ (∀ p, cutAt 58 s = some p → (joinB (wordsOf p.2)).length < mid)

theorem rel_ne : ¬ relaxedB = simpleB := by decide

def con_CanonicalHeader : List AV → Option AV
  | [.str form, .str s] => if relOk s then some (canonV form s) else none
  | _ => none

theorem ok_CanonicalHeader (Γ : Gam) (h15 : Γ.fn 15 = con_canonicalizers) (h30 : Γ.fn 30 = con_simpleCH) (h31 : Γ.fn 31 = con_relaxedCH) (m1 : Γ.mth 1 "CanonicalizeHeader" = some 30) (m2 : Γ.mth 2 "CanonicalizeHeader" = some 31) :
    ∀ args r, con_CanonicalHeader args = some r → runs Γ c_dkim_CanonicalHeader args (fun v => v = r) := by
  intro args r h
  simp only [con_CanonicalHeader] at h
  split at h <;> (try simp at h; done)
  rename_i form s
  obtain ⟨hr, rfl⟩ := ite_some h
  clear h
  have e : con_relaxedCH [.ptr [], .str s] = some (.str (relaxedOf s)) := by
    simp only [con_relaxedCH]
    exact if_pos hr
  by_cases f1 : form = simpleB
  · simp [c_dkim_CanonicalHeader, acall, h15, con_canonicalizers, f1, m1, h30, con_simpleCH, canonV]
  · by_cases f2 : form = relaxedB
    · simp [c_dkim_CanonicalHeader, acall, h15, con_canonicalizers, f2, rel_ne, m2, h31, e, canonV]
    · simp [c_dkim_CanonicalHeader, acall, h15, con_canonicalizers, f1, f2, canonV]

def con_DCanonField : List AV → Option AV
  | [.str form, .str s] => if relOk s then some (.str (if form = simpleB then s else if form = relaxedB then relaxedOf s else [])) else none
  | _ => none

theorem con_CanonicalHeader_eq {form s : List UInt8} (hr : relOk s) : con_CanonicalHeader [.str form, .str s] = some (canonV form s) := if_pos hr

theorem ok_DCanonField (Γ : Gam) (h13 : Γ.fn 13 = con_CanonicalHeader) : ∀ args r, con_DCanonField args = some r → runs Γ c_impl_DCanonField args (fun v => v = r) := by
  intro args r h
  simp only [con_DCanonField] at h
  split at h <;> (try simp at h; done)
  rename_i form s
  obtain ⟨hr, rfl⟩ := ite_some h
  clear h
  have e := con_CanonicalHeader_eq (form := form) hr
  clear hr
  by_cases f1 : form = simpleB
  · subst f1; simp [c_impl_DCanonField, acall, h13, e, canonV]
  · by_cases f2 : form = relaxedB
    · subst f2; simp [c_impl_DCanonField, acall, h13, e, canonV, rel_ne]
    · simp [c_impl_DCanonField, acall, h13, e, canonV, f1, f2]

/-- What the statement asks of its own calls: that the list is cut, and a field written, as the set's own samples have it. -/
def con_dAwake : List AV → Option AV
  | [] => some (.bool true)
  | _ => none

def con_FnDCanonFields : List AV → Option AV
  | [.str form, .str field] => if form.length < 9223372036854775808 ∧ field.length < 9223372036854775808 then some (.bool true) else none
  | _ => none

/-- Both give the same field. -/
theorem relaxedOf_eq (s : List UInt8) : relaxedOf s = fieldOf relaxedB s := by
  simp only [relaxedOf, fieldOf, if_neg rel_ne]
  cases cutAt 58 s with
  | none => rfl
  | some p => simp only [joinB_words]

theorem relOk_of {s : List UInt8} (hs : s.length < 549755813888) (hp : plain s = true) : relOk s := by
  refine ⟨by simp only [mid]; omega, hp, ?_⟩
  rintro ⟨n, v⟩ hc
  have h1 := cutAt_length hc
  have h2 := joinGo_length v [] false
  rw [joinB_words]
  simp at h2
  simp only [mid]; omega
end Wax

