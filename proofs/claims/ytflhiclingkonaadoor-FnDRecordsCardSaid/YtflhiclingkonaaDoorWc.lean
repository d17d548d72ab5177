/- The machine by which the functions are read, and what is proved of them (part 3): no premise. -/
import Derived.IntWalk
import Derived.Test.YtflhiclingkonaaDoorWb
/- Code and functions. -/
namespace Wax
open Go Go.RowKit

section
variable {P : Program} {T : Tab} {L : Lay} {w0 w : World} {F0 : Base} {n : Nat} {a : Act} {F : Frz} {ρ : Rho} {Γ : Gam}

/-- A loop, by a relation with a measure on its ghost. -/
theorem wp_loop_rel {σ : Type} {Q : Exit → Act → World → Prop} {c : Code} (I : σ → Act → World → Prop) (μ : σ → Nat)
    (round : ∀ s a w, I s a w → c.wp P (Exit.then (fun a' w' => ∃ s', I s' a' w' ∧ μ s' < μ s) Q) a w) {s : σ} {a : Act} {w : World} (h₀ : I s a w) : (Code.loop c).wp P Q a w := by
  intro b k cs
  have key : ∀ n s a w, μ s = n → I s a w →
      ∃ e a' w', Q e a' w' ∧ Arrives P (lone (b.at a (.code c :: .inLoop c :: k)) cs w) b k cs e a' w' := by
    intro n
    induction n using Nat.strongRecOn with
    | _ n ih =>
      intro s a w hn hI
      obtain ⟨e, a₁, w₁, hq, harr⟩ := round s a w hI b (.inLoop c :: k) cs
      cases e with
      | normal =>
        obtain ⟨s₁, hI₁, hlt⟩ := hq
        obtain ⟨e₂, a₂, w₂, hq₂, harr₂⟩ := ih (μ s₁) (hn ▸ hlt) s₁ a₁ w₁ rfl hI₁
        exact ⟨e₂, a₂, w₂, hq₂, .of_steps (Steps.trans harr (.one step_inLoop)) harr₂⟩
      | exit id => exact ⟨_, a₁, w₁, hq, .pass (x := .inLoop c) rfl (fun _ _ => .inl (by simp)) harr⟩
      | goto l => exact ⟨_, a₁, w₁, hq, .pass (x := .inLoop c) rfl (fun _ _ => .inl (by simp)) harr⟩
      | ret => exact ⟨_, a₁, w₁, hq, .pass (x := .inLoop c) rfl (fun _ _ => .inl (by simp)) harr⟩
      | panic ch => exact ⟨_, a₁, w₁, hq, .pass (x := .inLoop c) rfl (fun _ _ => .inl (by simp)) harr⟩
      | outgrown => exact ⟨_, a₁, w₁, hq, .pass (x := .inLoop c) rfl (fun _ _ => .inl (by simp)) harr⟩
  obtain ⟨e, a', w', hq, harr⟩ := key _ s a w rfl h₀
  exact ⟨e, a', w', hq, .of_steps (.one step_loop) harr⟩

/-- What holds of the machine where it holds of the abstract one. -/
def up (T : Tab) (w0 : World) (F0 : Base) (n : Nat) (Q : APost) (e : AExit) (a : Act) (w : World) : Prop :=
  ∃ st F ρ, Q e st ∧ Inv T w0 F0 n st a w F ρ

def upX (T : Tab) (w0 : World) (F0 : Base) (n : Nat) (Q : APost) : Exit → Act → World → Prop
  | .normal, a, w => up T w0 F0 n Q .normal a w
  | .exit i, a, w => up T w0 F0 n Q (.exit i) a w
  | .ret, a, w => up T w0 F0 n Q .ret a w
  | _, _, _ => False

theorem lk_keep (fr : List (Nat × AV)) : ∀ (l : List Nat) (i : Nat), lk (keep fr l) i = lk fr i ∨ lk (keep fr l) i = .junk
  | [], i => .inr rfl
  | j :: r, i => by
    simp only [keep, lk_put]
    split
    · rename_i e; subst e; exact .inl rfl
    · exact lk_keep fr r i

theorem Inv.keep {st : St} (I : Inv T w0 F0 n st a w F ρ) (l : List Nat) : Inv T w0 F0 n ⟨Wax.keep st.fr l, st.hp⟩ a w F ρ :=
  ⟨I.cap, I.old, I.below, I.src, I.kf, I.lt, I.rng, I.dom, I.obj, I.inj, fun i => by
    rcases lk_keep st.fr l i with h | h
    · simp only [h]; exact I.slot i
    · simp only [h]; simp [Rep], I.defs, I.gl⟩

theorem Inv.dropS {st : St} : ∀ (l : List Nat) {st : St} {ρ : Rho}, Inv T w0 F0 n st a w F ρ → ∃ ρ', Inv T w0 F0 n (Wax.dropS l st) a w F ρ'
  | [], _, ρ, I => ⟨ρ, I⟩
  | d :: r, _, _, I => Inv.dropS (st := st) r (I.drop d)

theorem Inv.drawn {st : St} (I : Inv T w0 F0 n st a w F ρ) : ∃ F', Inv T w0 F0 n st a { w with drawn := w.drawn + 1 } F' ρ :=
  ⟨_, I.grow (w' := { w with drawn := w.drawn + 1 }) ⟨rfl, rfl, rfl, Nat.le_refl _, fun _ _ => rfl⟩⟩

theorem awp_thenG {g : List GOp} {c : SCode} {Q : APost} {st : St} (h : awp Γ (thenG g c) Q st) : awp Γ c (thenQ (fun s => Q .normal (gsteps g s)) Q) st := by
  cases g with
  | nil =>
    simp only [thenG] at h
    have e : thenQ (fun s => Q .normal (gsteps [] s)) Q = Q := by funext e st; cases e <;> rfl
    rw [e]; exact h
  | cons x r => exact h

theorem comp_sound (hT : TInj T) (G : GamOk P T Γ) (L : Lay) : ∀ (c : Code) (Q : APost) (st : St), awp Γ (comp P T L n c) Q st →
    ∀ (a : Act) (w : World) (F : Frz) (ρ : Rho), Inv T w0 F0 n st a w F ρ → c.wp P (upX T w0 F0 n Q) a w
  | .skip, Q, st, h, a, w, F, ρ, I => wp_skip ⟨st, F, ρ, h, I⟩
  | .region id ops draw, Q, st, h, a, w, F, ρ, I => by
    simp only [comp] at h
    split at h
    · exact h.elim
    · rename_i hd
      replace h := awp_thenG h
      simp only [awp] at h
      obtain ⟨s1, h1, h2⟩ := opsK_G h
      have fin : ∀ a w F ρ, Inv T w0 F0 n s1 a w F ρ → upX T w0 F0 n Q .normal a w := fun a w F ρ I => by
        obtain ⟨ρ', I'⟩ := Inv.dropS (st := s1) (lkL L.rg id).2 (I.keep (lkL L.rg id).1)
        obtain ⟨F2, ρ2, I2⟩ := gsteps_inv (lkG L.gh id) I'
        exact ⟨_, F2, ρ2, h2, I2⟩
      cases draw with
      | false => exact region_sound hT G I h1 fin
      | true =>
        simp only [if_true, opsG_F] at h1
        simp only [Bool.true_and, Bool.not_eq_true', Bool.not_eq_false] at hd
        apply wp_region_draw
        intro t
        obtain ⟨F', I'⟩ := I.drawn
        have any : ∀ md t, wpOps P ops (upX T w0 F0 n Q) (Region.linearise md ops t) a { w with drawn := w.drawn + 1 } := by
          intro md t
          refine wpAny_sound (md := md) ops.size t _ a _ ?_
          exact draw_any (L := L) hT G hd h1 fin md I'
        unfold Region.schedule
        split
        · exact any _ _
        · exact any _ _
  | .seq x y, Q, st, h, a, w, F, ρ, I => by
    apply wp_seq
    refine wp_mono (comp_sound hT G L x _ st h a w F ρ I) ?_
    intro e a' w' hu
    cases e <;> simp only [upX] at hu ⊢ <;> try (exact hu.elim)
    · obtain ⟨s1, F1, ρ1, q, I1⟩ := hu
      exact comp_sound hT G L y Q s1 q a' w' F1 ρ1 I1
    · exact hu
    · exact hu
  | .cond c x y, Q, st, h, a, w, F, ρ, I => by
    simp only [comp] at h
    cases hc : cOpd T c with
    | none => simp [hc, awp] at h
    | some d =>
      simp only [hc, awp] at h
      have hr := ev_rep I hc
      cases hv : ev st.fr d <;> simp only [hv] at h <;> try (exact h.elim)
      rename_i b
      rw [hv] at hr
      exact wp_cond_split hr (fun hb => comp_sound hT G L x Q st (h.1 hb) a w F ρ I) (fun hb => comp_sound hT G L y Q st (h.2 hb) a w F ρ I)
  | .block id c, Q, st, h, a, w, F, ρ, I => by
    apply wp_block
    refine wp_mono (comp_sound hT G L c _ st h a w F ρ I) ?_
    intro e a' w' hu
    cases e <;> simp only [upX] at hu ⊢ <;> try (exact hu.elim)
    · exact hu
    · rename_i i
      obtain ⟨s1, F1, ρ1, q, I1⟩ := hu
      simp only [blockQ] at q
      simp only [Exit.inBlock]
      split
      · rename_i e; rw [if_pos e] at q; exact ⟨s1, F1, ρ1, q, I1⟩
      · rename_i e; rw [if_neg e] at q; exact ⟨s1, F1, ρ1, q, I1⟩
    · exact hu
  | .loop c, Q, st, h, a, w, F, ρ, I => by
    simp only [comp, awp] at h
    obtain ⟨σ, J, m, s0, hj, hround⟩ := h
    refine wp_loop_rel (fun s a w => ∃ st, J s st ∧ ∃ F ρ, Inv T w0 F0 n st a w F ρ) m ?_ (s := s0) ⟨_, hj, F, ρ, I.keep _⟩
    rintro s a w ⟨st, hs, F, ρ, I⟩
    refine wp_mono (comp_sound hT G L c _ st (hround s st hs) a w F ρ I) ?_
    intro e a' w' hu
    cases e <;> simp only [upX] at hu ⊢ <;> try (exact hu.elim)
    · obtain ⟨s1, F1, ρ1, ⟨s', q, hlt⟩, I1⟩ := hu
      exact ⟨s', ⟨_, q, F1, ρ1, I1.keep _⟩, hlt⟩
    · exact hu
    · exact hu
  | .exit id, Q, st, h, a, w, F, ρ, I => wp_exit ⟨st, F, ρ, h, I⟩
  | .ret, Q, st, h, a, w, F, ρ, I => wp_ret ⟨st, F, ρ, h, I⟩
  | .goto _, Q, st, h, a, w, F, ρ, I => h.elim
  | .label _, Q, st, h, a, w, F, ρ, I => h.elim
  | .scope _, Q, st, h, a, w, F, ρ, I => h.elim
  | .refuse _, Q, st, h, a, w, F, ρ, I => h.elim
  | .rangeFunc .., Q, st, h, a, w, F, ρ, I => h.elim

def getRes (tmps : Array Value) : ResultVar → Sem Value
  | .tmp t => pure (tmps.getD t undef)
  | .cell a t => do loadVar t (← asAddr (tmps.getD a undef))

/-- The results' values, told by what each reads. -/
def resV (vs : List Value) : Value := match vs with
  | [v] => v
  | l => .tuple l.toArray

theorem results_eq (fn : Func) (tmps : Array Value) : results fn tmps = (do
    let vs ← fn.results.mapM (getRes tmps)
    pure (if h : vs.size = 1 then vs[0] else .tuple vs)) := rfl

theorem compRes_run {st : St} {m : Nat} {a' : Act} {w' : World} {F' : Frz} {ρ' : Rho} (I : Inv T w0 F0 m st a' w' F' ρ') : ∀ {l : List ResultVar} {r : List RV}, compRes P l = some r → resOk st r = true →
    ∃ vs : List Value, (l.mapM (getRes a'.tmps)).run P w' = .ok vs w' ∧ RepL T w' F' ρ' (r.map (rvV st)) vs
  | [], r, h, _ => by simp [compRes] at h; subst h; exact ⟨[], by simp, by simp [RepL]⟩
  | .tmp t :: l, r, h, hj => by
    simp only [compRes] at h
    cases hl : compRes P l with
    | none => simp [hl] at h
    | some q =>
      simp [hl] at h; subst h
      obtain ⟨vs, h1, h2⟩ := compRes_run I hl (by simpa only [resOk] using hj)
      refine ⟨a'.tmps.getD t undef :: vs, ?_, ?_⟩
      · simp only [List.mapM_cons, Sem.run_bind, getRes, Sem.run_pure, Result.andThen_ok, h1]
      · simp only [List.map_cons, RepL, rvV]; exact ⟨I.slot t, h2⟩
  | .cell c t :: l, r, h, hj => by
    simp only [compRes] at h
    cases hm : loadN P t with
    | none => simp [hm] at h
    | some mm =>
      cases hl : compRes P l with
      | none => simp [hm, hl] at h
      | some q =>
        simp [hm, hl] at h; subst h
        simp only [resOk, Bool.and_eq_true] at hj
        obtain ⟨vs, h1, h2⟩ := compRes_run I hl hj.2
        cases hv : aload st.hp mm (lk st.fr c) with
        | none => simp [hv] at hj
        | some x =>
          obtain ⟨fr, hp⟩ := st
          simp only at hv
          obtain ⟨ad, u, he, g1, g2⟩ := load_cell (P := P) I (I.slot c) hm hv
          refine ⟨u :: vs, ?_, ?_⟩
          · simp only [List.mapM_cons, Sem.run_bind, getRes, Sem.run_pure, Result.andThen_ok, h1, he, asAddr, g1]
          · simp only [List.map_cons, RepL, rvV, hv, Option.getD_some]; exact ⟨g2, h2⟩

theorem results_spec {fn : Func} {r : List RV} (h : compRes P fn.results.toList = some r) {st : St} {m : Nat} {a' : Act} {w' : World} {F' : Frz} {ρ' : Rho} (I : Inv T w0 F0 m st a' w' F' ρ') (hj : resOk st r = true) :
    ∃ v, (results fn a'.tmps).run P w' = .ok v w' ∧ Rep T w' F' ρ' (retV st r) v := by
  obtain ⟨vs, h1, h2⟩ := compRes_run I h hj
  refine ⟨resV vs, ?_, ?_⟩
  · rw [results_eq]
    have e : fn.results = fn.results.toList.toArray := by simp
    rw [e, List.mapM_toArray]
    simp only [Sem.run_bind, Sem.run_map, h1, Result.andThen_ok, Sem.run_pure]
    match vs with
    | [] => simp [resV]
    | [v] => simp [resV]
    | v :: u :: l => simp [resV]
  · match r, vs, h2 with
    | [], [], _ => simp only [retV, resV, Rep]; exact ⟨#[], rfl, by simp [RepL]⟩
    | [i], [v], h2 => simp only [List.map_cons, List.map_nil, RepL, and_true] at h2; exact h2
    | i :: j :: l, v :: u :: k, h2 => simp only [retV, resV, Rep]; exact ⟨_, rfl, by simpa using h2⟩

theorem lk_init_lt : ∀ (xs : List AV) (k i : Nat), lk (initF k xs) (k + i) = xs.getD i .junk
  | [], k, i => by simp [initF, lk]
  | x :: r, k, i => by
    simp only [initF, lk_put]
    cases i with
    | zero => simp
    | succ i =>
      rw [if_neg (by omega)]
      have := lk_init_lt r (k + 1) i
      rw [show k + (i + 1) = k + 1 + i by omega, this]; simp

theorem init_inv (hF : ∀ b, F b → b < w.heap.size) (hG : GlobOk T w F) {hp : List (Nat × AObj)} {ρ0 : Rho} (hold : ∀ id p, ρ0 id = some p → 1000000 ≤ id) (H : HR T w F ρ0 hp) {xs : List AV} {vs : List Value} (hx : RepL T w F ρ0 xs vs) {m : Nat} (hm : vs.length ≤ m) (hm6 : m ≤ 1000000) :
    Inv T w ⟨F, ρ0⟩ m ⟨initF 0 xs, hp⟩ { tmps := vs.toArray ++ Array.replicate (m - vs.toArray.size) undef, defers := [] } w F ρ0 where
  cap := hm6
  old := fun id _ => .inr rfl
  below := BelX.refl _ _ _
  src := fun b h => .inl h
  kf := fun b h => h
  lt := hF
  rng := by simp; omega
  dom := H.dom
  obj := fun id x h => by
    obtain ⟨b, o, h1, h2, h3, h4⟩ := H.obj id x h
    exact ⟨b, o, h1, .inr ⟨id, o, h1⟩, h2, h3, h4⟩
  inj := H.inj
  slot := fun i => by
    have h1 := lk_init_lt xs 0 i
    simp only [Nat.zero_add] at h1
    simp only [h1]
    have key : ∀ (xs : List AV) (vs : List Value), RepL T w F ρ0 xs vs → ∀ i, xs.getD i .junk = .junk ∨ ∃ v, vs[i]? = some v ∧ Rep T w F ρ0 (xs.getD i .junk) v := by
      intro xs
      induction xs with
      | nil => intro vs _ i; left; simp
      | cons x r ih =>
        intro vs h i
        cases vs with
        | nil => simp [RepL] at h
        | cons v s =>
          simp only [RepL] at h
          cases i with
          | zero => right; exact ⟨v, by simp, by simpa using h.1⟩
          | succ i =>
            rcases ih s h.2 i with h' | ⟨u, hu, hr⟩
            · left; simpa using h'
            · right; exact ⟨u, by simpa using hu, by simpa using hr⟩
    rcases key xs vs hx i with h | ⟨v, hv, hr⟩
    · rw [h]; simp [Rep]
    · have hlt : i < vs.length := by
        rcases Nat.lt_or_ge i vs.length with h | h
        · exact h
        · simp [List.getElem?_eq_none h] at hv
      have : (vs.toArray ++ Array.replicate (m - vs.toArray.size) undef).getD i undef = v := by
        simp only [Array.getD_eq_getD_getElem?]
        rw [Array.getElem?_append_left (by simpa using hlt)]
        simp [hv]
      rw [this]; exact hr
  defs := rfl
  gl := hG

theorem RepL_map (fr : List (Nat × AV)) (hs : ∀ i, Rep T w F ρ (lk fr i) (a.tmps.getD i undef)) : ∀ (l : List Nat), RepL T w F ρ (l.map (lk fr)) (l.map fun i => a.tmps.getD i undef)
  | [] => by simp [RepL]
  | i :: r => by simp only [List.map_cons, RepL]; exact ⟨hs i, RepL_map fr hs r⟩

theorem repL_length : ∀ {xs : List AV} {vs : List Value}, RepL T w F ρ xs vs → xs.length = vs.length
  | [], [], _ => rfl
  | x :: r, v :: s, h => by simp only [RepL] at h; simp [repL_length h.2]
  | [], _ :: _, h => by simp [RepL] at h
  | _ :: _, [], h => by simp [RepL] at h

theorem HR.empty : HR T w F noRho [] := ⟨fun id p h => by simp [noRho] at h, fun id x h => by simp [hlk] at h, fun id id' b o o' h => by simp [noRho] at h⟩

/-- What a function's own text computes, its callees as their contracts say, is a contract. -/
theorem fn_sound (hT : TInj T) (G : GamOk P T Γ) {L : Lay} {f : FuncId} {fn : Func} {sfn : SFn} (hf : P.funcs[f]? = some fn) (hc : compFn P T L fn = some sfn) {args : List AV} {r : AV}
    (hr : runs Γ sfn args (fun v => v = r)) : OkCall P T f args r := by
  intro w F vs hF hgl hx
  simp only [compFn] at hc
  cases hb : fn.body with
  | none => simp [hb] at hc
  | some c =>
    cases hres : compRes P fn.results.toList with
    | none => simp [hb, hres] at hc
    | some res =>
      simp only [hb, hres] at hc
      split at hc
      · rename_i hle
        injection hc with hc; subst hc
        obtain ⟨hlen, hrun⟩ := hr
        simp only at hlen hrun
        have hvl : vs.length ≤ fn.ntmps := by rw [← repL_length hx, hlen]; exact hle.1
        refine calls_of_wp hf hb ?_
        refine wp_mono (comp_sound hT G L c _ _ hrun _ _ F noRho (init_inv hF hgl (by simp [noRho]) HR.empty hx hvl hle.2)) ?_
        intro e a' w' hu
        have fin : ∀ st F' ρ', resOk st res = true ∧ export_ st.hp (retV st res) = r → Inv T w ⟨F, noRho⟩ fn.ntmps st a' w' F' ρ' →
            a'.defers = [] ∧ ∃ v, (results fn a'.tmps).run P w' = .ok v w' ∧ (∃ v', Ending.returned v = .returned v' ∧ Below w.heap.size w w' ∧ Rep T w' (fun b => F b ∨ (w.heap.size ≤ b ∧ b < w'.heap.size)) noRho r v') := by
          rintro st F' ρ' ⟨hok, hR⟩ I
          obtain ⟨rv, hrun', hret⟩ := results_spec hres I hok
          have nobor : ∀ b, ¬ Base.bor ⟨F, noRho⟩ b := fun b h => by obtain ⟨id, o, h⟩ := h; simp [noRho] at h
          refine ⟨I.defs, _, hrun', _, rfl, I.below.to nobor, ?_⟩
          have HF : ∀ b, F' b → (F b ∨ (w.heap.size ≤ b ∧ b < w'.heap.size)) := fun b hb => by
            rcases I.src b hb with h | h | h
            · exact .inl h
            · exact .inr ⟨h, I.lt b hb⟩
            · exact absurd h (nobor b)
          have HO : ∀ id b o, ρ' id = some (b, o) → (F b ∨ (w.heap.size ≤ b ∧ b < w'.heap.size)) := by
            intro id b o h
            obtain ⟨x, hx'⟩ := I.dom id _ h
            obtain ⟨b', o', g1, g2, g3, _⟩ := I.obj id x hx'
            rw [h] at g1; injection g1 with g1; injection g1 with g1 _; subst g1
            exact .inr ⟨g2.resolve_right (nobor b), g3⟩
          rw [← hR]
          unfold export_
          split
          · obtain ⟨fr, hp⟩ := st
            exact snap_rep I HF HO 4 _ _ hret
          · rename_i hnr
            have h1 := Rep.down (ρ' := noRho) _ _ (by simpa using hnr) hret
            exact Rep.mono (fun b hb => ⟨HF b hb, rfl⟩) noRho noRho ⟨fun _ _ _ h => h, fun _ _ _ c e f _ h => by simp [noRho] at h⟩ _ _ h1
        cases e <;> simp only [upX] at hu <;> try (exact hu.elim)
        · obtain ⟨st, F', ρ', q, I⟩ := hu
          exact fin st F' ρ' q I
        · obtain ⟨st, F', ρ', q, I⟩ := hu
          exact q.elim
        · obtain ⟨st, F', ρ', q, I⟩ := hu
          exact fin st F' ρ' q I
      · simp at hc

theorem oldK_mem {hp : List (Nat × AObj)} : ∀ {n i j : Nat}, j ∈ oldK hp i n → 1000000 + i ≤ j ∧ j < 1000000 + i + n ∧ ∃ x, hlk hp j = some x
  | 0, i, j, h => by simp [oldK] at h
  | n + 1, i, j, h => by
    simp only [oldK] at h
    split at h
    · rename_i x hx
      rcases List.mem_cons.1 h with e | h
      · subst e; exact ⟨by omega, by omega, x, hx⟩
      · have := oldK_mem h; exact ⟨by omega, by omega, this.2.2⟩
    · have := oldK_mem h; exact ⟨by omega, by omega, this.2.2⟩

theorem mem_oldK {hp : List (Nat × AObj)} : ∀ {n i k : Nat} {x : AObj}, k < n → hlk hp (i + k + 1000000) = some x → i + k + 1000000 ∈ oldK hp i n
  | n + 1, i, 0, x, _, h => by
    simp only [oldK]
    simp only [Nat.add_zero] at h
    rw [h]; simp
  | n + 1, i, k + 1, x, hk, h => by
    have ih := mem_oldK (hp := hp) (n := n) (i := i + 1) (k := k) (x := x) (by omega) (by rwa [show i + 1 + k = i + (k + 1) by omega])
    rw [show i + 1 + k = i + (k + 1) by omega] at ih
    simp only [oldK]
    split
    · exact List.mem_cons_of_mem _ ih
    · exact ih

/-- The same of a function that is given objects. -/
theorem fnS_sound (hT : TInj T) (G : GamOk P T Γ) {L : Lay} {f : FuncId} {fn : Func} {sfn : SFn} (hf : P.funcs[f]? = some fn) (hc : compFn P T L fn = some sfn) {args : List AV} {hp : List (Nat × AObj)} {q : AV × List (Nat × AObj)}
    (hr : runsS Γ sfn args hp (fun v => v = some q)) : OkS P T f args hp q.1 q.2 := by
  intro w F ρ vs hF hgl hkey H hx
  simp only [compFn] at hc
  cases hb : fn.body with
  | none => simp [hb] at hc
  | some c =>
    cases hres : compRes P fn.results.toList with
    | none => simp [hb, hres] at hc
    | some res =>
      simp only [hb, hres] at hc
      split at hc
      · rename_i hle
        injection hc with hc; subst hc
        obtain ⟨hlen, hrun⟩ := hr
        simp only at hlen hrun
        have hvl : vs.length ≤ fn.ntmps := by rw [← repL_length hx, hlen]; exact hle.1
        obtain ⟨ρ0, hρ0⟩ : ∃ ρ0 : Rho, ρ0 = fun id => if 1000000 ≤ id then ρ (id - 1000000) else none := ⟨_, rfl⟩
        have up : ∀ id, ρ0 (up6 id) = ρ id := fun id => by
          subst hρ0
          have e : up6 id - 1000000 = id := by simp only [up6]; omega
          have e2 : 1000000 ≤ up6 id := by simp only [up6]; omega
          show (if 1000000 ≤ up6 id then ρ (up6 id - 1000000) else none) = ρ id
          rw [if_pos e2, e]
        have hk6 : ∀ id p, ρ0 id = some p → 1000000 ≤ id := by
          intro id p h; rw [hρ0] at h; simp only at h; split at h
          · assumption
          · simp at h
        have dn : ∀ id p, ρ0 id = some p → ρ (id - 1000000) = some p := by
          intro id p h; have := hk6 id p h; rw [hρ0] at h; simp only [this, if_true] at h; exact h
        have ini : HR T w F ρ0 (mapH up6 hp) := by
          refine ⟨?_, ?_, ?_⟩
          · intro id p h
            have h6 := hk6 id p h
            obtain ⟨x, hx⟩ := H.dom _ p (dn id p h)
            have := hlk_mapH (g := up6) (l := hp) (i := id - 1000000) (y := x) (fun j _ e => by simp only [up6] at e; omega) hx
            rw [show up6 (id - 1000000) = id by simp only [up6]; omega] at this
            exact ⟨_, this⟩
          · intro id x h
            obtain ⟨i, y, h1, h2, h3⟩ := hlk_mapH_some h
            obtain ⟨b, o, g1, g2, g3, g4⟩ := H.obj i y h1
            exact ⟨b, o, by rw [← h2, up]; exact g1, g2, g3, by rw [h3]; exact RepO.ren y (fun id _ => up id) g4⟩
          · intro id id' b o o' h h'
            have := H.inj _ _ b o o' (dn id _ h) (dn id' _ h')
            have h6 := hk6 id _ h
            have h6' := hk6 id' _ h'
            omega
        refine calls_of_wp hf hb ?_
        refine wp_mono (comp_sound hT G L c _ _ hrun _ _ F ρ0 (init_inv hF hgl hk6 ini (RepL.ren args vs (fun id _ => up id) hx) hvl hle.2)) ?_
        intro e a' w' hu
        have fin : ∀ st F' ρ', resOk st res = true ∧ exportS hp.length st.hp (retV st res) = some q → Inv T w ⟨F, ρ0⟩ fn.ntmps st a' w' F' ρ' →
            a'.defers = [] ∧ ∃ v, (results fn a'.tmps).run P w' = .ok v w' ∧ (∃ v' F' ρ', Ending.returned v = .returned v' ∧ BelX (fun b => ∃ id o, ρ id = some (b, o)) w.heap.size w w' ∧ (∀ b, F b → F' b) ∧ (∀ b, F' b → F b ∨ w.heap.size ≤ b ∨ ∃ id o, ρ id = some (b, o)) ∧ (∀ b, F' b → b < w'.heap.size) ∧
              HR T w' F' ρ' q.2 ∧ (∀ id p, ρ id = some p → ρ' id = none ∨ ρ' id = some p) ∧ (∀ id b o, ρ' id = some (b, o) → ρ id = none → w.heap.size ≤ b ∨ ∃ id' o', ρ id' = some (b, o')) ∧ Rep T w' F' ρ' q.1 v') := by
          rintro st F' ρ' ⟨hok, hR⟩ I
          obtain ⟨rv, hrun', hret⟩ := results_spec hres I hok
          have bor_of : ∀ b, Base.bor ⟨F, ρ0⟩ b → ∃ id o, ρ id = some (b, o) := fun b h => by
            obtain ⟨id, o, h⟩ := h; exact ⟨_, o, dn id _ h⟩
          have of_bor : ∀ b, (∃ id o, ρ id = some (b, o)) → Base.bor ⟨F, ρ0⟩ b := fun b h => by
            obtain ⟨id, o, h⟩ := h; exact ⟨up6 id, o, (up id).trans h⟩
          simp only [exportS] at hR
          obtain ⟨own, hown⟩ : ∃ own, own = lowN (reach st.hp 200 (oldK st.hp 0 hp.length ++ refs (retV st res)) []) := ⟨_, rfl⟩
          rw [← hown] at hR
          have ownnd : own.Nodup := by rw [hown]; exact (reach_nodup 200 _ _ (by simp)).filter _
          have ownlt : ∀ i ∈ own, i < 1000000 := by intro i hi; rw [hown] at hi; simp only [lowN, List.mem_filter, decide_eq_true_eq] at hi; exact hi.2
          clear hown
          obtain ⟨ids, hids⟩ : ∃ ids, ids = oldK st.hp 0 hp.length ++ own := ⟨_, rfl⟩
          rw [← hids] at hR
          have inids : ∀ i, i ∈ ids → (1000000 ≤ i ∧ i < 1000000 + hp.length) ∨ i ∈ own := by
            intro i hi
            rw [hids, List.mem_append] at hi
            rcases hi with hi | hi
            · have := oldK_mem hi; exact .inl ⟨by omega, by omega⟩
            · exact .inr hi
          cases hos : pickH st.hp ids with
          | none => simp [hos] at hR
          | some os =>
            simp only [hos] at hR
            split at hR
            · rename_i hcl
              injection hR with hR
              subst hR
              simp only [Bool.and_eq_true] at hcl
              obtain ⟨hca, hco⟩ := hcl
              have hca := inIds_spec hca
              have hkeys := pickH_keys hos
              have hpk := pickH_hlk hos
              have g_old : ∀ i, 1000000 ≤ i → ownN hp.length own i = i - 1000000 := fun i hi => by simp [ownN, hi]
              have g_own : ∀ i ∈ own, ownN hp.length own i = hp.length + idxN own i := fun i hi => by
                have := ownlt i hi; simp only [ownN]; rw [if_neg (by omega)]
              have ginj : ∀ i ∈ ids, ∀ j ∈ ids, ownN hp.length own j = ownN hp.length own i → j = i := by
                intro i hi j hj e
                rcases inids i hi with h1 | h1 <;> rcases inids j hj with h2 | h2
                · rw [g_old i h1.1, g_old j h2.1] at e; omega
                · rw [g_old i h1.1, g_own j h2] at e; omega
                · rw [g_own i h1, g_old j h2.1] at e; omega
                · rw [g_own i h1, g_own j h2] at e
                  have e' : idxN own j = idxN own i := by omega
                  rw [← idxN_get h2, e', idxN_get h1]
              obtain ⟨ρx, hρx⟩ : ∃ ρx : Rho, ρx = fun j => if j < hp.length then ρ' (j + 1000000) else if j - hp.length < own.length then ρ' (own.getD (j - hp.length) 0) else none := ⟨_, rfl⟩
              have gx : ∀ i ∈ ids, ρx (ownN hp.length own i) = ρ' i := by
                intro i hi
                rw [hρx]
                rcases inids i hi with h | h
                · rw [g_old i h.1]; simp only; rw [if_pos (by omega), show i - 1000000 + 1000000 = i by omega]
                · rw [g_own i h]; simp only
                  have := idxN_lt h
                  rw [if_neg (by omega), if_pos (by omega), show hp.length + idxN own i - hp.length = idxN own i by omega, idxN_get h]
              have back : ∀ k p, ρx k = some p → ∃ i ∈ ids, ownN hp.length own i = k ∧ ρ' i = some p := by
                intro k p h
                rw [hρx] at h
                simp only at h
                split at h
                · rename_i hk
                  obtain ⟨x, hx⟩ := I.dom _ p h
                  have hm : k + 1000000 ∈ ids := by
                    rw [hids, List.mem_append]; left
                    have := mem_oldK (hp := st.hp) (n := hp.length) (i := 0) (k := k) (x := x) hk (by simpa using hx)
                    simpa using this
                  exact ⟨_, hm, by rw [g_old _ (by omega)]; omega, h⟩
                · rename_i hk
                  split at h
                  · rename_i hk2
                    have hm := getD_mem hk2
                    refine ⟨_, by rw [hids, List.mem_append]; exact .inr hm, ?_, h⟩
                    rw [g_own _ hm, get_idxN ownnd hk2]; omega
                  · simp at h
              refine ⟨I.defs, _, hrun', _, F', ρx, rfl, ?_, ?_, ?_, I.lt, ⟨?_, ?_, ?_⟩, ?_, ?_, ?_⟩
              · exact ⟨I.below.os, I.below.tape, I.below.output, I.below.size, fun k hk hB => I.below.block k hk (fun h => hB (bor_of k h)), I.below.shp⟩
              · exact I.kf
              · intro b hb
                rcases I.src b hb with h | h | h
                · exact .inl h
                · exact .inr (.inl h)
                · exact .inr (.inr (bor_of b h))
              · intro k p h
                obtain ⟨i, hi, h1, h2⟩ := back k p h
                obtain ⟨g1, x, g2⟩ := hpk i hi
                have := hlk_mapH (g := ownN hp.length own) (l := os) (i := i) (y := x) (fun j hj e => ginj i hi j (hkeys ▸ hj) e) (by rw [g1, g2])
                rw [h1] at this
                exact ⟨_, this⟩
              · intro k x h
                obtain ⟨i, y, h1, h2, h3⟩ := hlk_mapH_some h
                have hi : i ∈ ids := hkeys ▸ hlk_keys h1
                have h1' : hlk st.hp i = some y := by rw [← (hpk i hi).1]; exact h1
                obtain ⟨b, o, g1, g2, g3, g4, g5⟩ := I.obj i y h1'
                refine ⟨b, o, by rw [← h2, gx i hi]; exact g1, g3, g4, ?_⟩
                rw [h3]
                exact RepO.ren y (fun id hid => gx id (closedH_spec hco h1 id hid)) g5
              · intro k k' b o o' h h'
                obtain ⟨i, hi, h1, h2⟩ := back k _ h
                obtain ⟨i', hi', h1', h2'⟩ := back k' _ h'
                rw [← h1, ← h1', I.inj i i' b o o' h2 h2']
              · intro id p h
                obtain ⟨x, hx⟩ := H.dom id p h
                have hlt := hkey id x hx
                rw [hρx]
                simp only [hlt, if_true]
                rcases I.old (id + 1000000) (by omega) with h' | h'
                · exact .inl h'
                · right; rw [h']; exact (up id).trans h
              · intro k b o h _
                obtain ⟨i, hi, h1, h2⟩ := back k _ h
                obtain ⟨x, hx'⟩ := I.dom i _ h2
                obtain ⟨b', o', g1, g2, _⟩ := I.obj i x hx'
                rw [h2] at g1; injection g1 with g1; injection g1 with g1 _; subst g1
                exact g2.imp id (bor_of b)
              · exact Rep.ren _ _ (fun id hid => gx id (hca id hid)) hret
            · simp at hR
        cases e <;> simp only [upX] at hu <;> try (exact hu.elim)
        · obtain ⟨st, F', ρ', q, I⟩ := hu
          exact fin st F' ρ' q I
        · obtain ⟨st, F', ρ', q, I⟩ := hu
          exact q.elim
        · obtain ⟨st, F', ρ', q, I⟩ := hu
          exact fin st F' ρ' q I
      · simp at hc
end
end Wax

/- Rules to compute with the abstract machine. -/
namespace Wax
open Go (IntKind)

section
variable {Γ : Gam} {Q : APost} {st : St}
def regQ (live drop : List Nat) (Q : APost) (st : St) : Prop := Q .normal (dropS drop ⟨keep st.fr live, st.hp⟩)
@[simp] theorem regQ_eq {live drop : List Nat} : regQ live drop Q st = Q .normal (dropS drop ⟨keep st.fr live, st.hp⟩) := rfl
def condK (v : AV) (Γ : Gam) (a b : SCode) (Q : APost) (st : St) : Prop := match v with
  | .bool t => (t = true → awp Γ a Q st) ∧ (t = false → awp Γ b Q st)
  | _ => False
@[simp] theorem condK_bool {t : Bool} {a b : SCode} : condK (.bool t) Γ a b Q st = ((t = true → awp Γ a Q st) ∧ (t = false → awp Γ b Q st)) := rfl

@[simp] theorem awp_skip : awp Γ .skip Q st = Q .normal st := rfl
@[simp] theorem awp_ghost {g : List GOp} : awp Γ (.ghost g) Q st = Q .normal (gsteps g st) := rfl
@[simp] theorem awp_region {ops : List SO} {live drop : List Nat} {dd : List (List Nat)} : awp Γ (.region ops live drop dd) Q st = opsK Γ ops dd st (regQ live drop Q) := rfl
@[simp] theorem awp_seq {a b : SCode} : awp Γ (.seq a b) Q st = awp Γ a (thenQ (awp Γ b Q) Q) st := rfl
@[simp] theorem awp_block {id : Nat} {c : SCode} : awp Γ (.block id c) Q st = awp Γ c (blockQ id Q) st := rfl
@[simp] theorem awp_exit {id : Nat} : awp Γ (.exit id) Q st = Q (.exit id) st := rfl
@[simp] theorem awp_ret : awp Γ .ret Q st = Q .ret st := rfl
@[simp] theorem awp_bad : awp Γ .bad Q st = False := rfl
@[simp] theorem awp_cond {c : Opd} {a b : SCode} : awp Γ (.cond c a b) Q st = condK (ev st.fr c) Γ a b Q st := rfl

/-- A round's end, of a loop told by a ghost. -/
def loopQ {σ : Type} (live : List Nat) (f : σ → St) (ok : σ → Prop) (m : σ → Nat) (s : σ) (st : St) : Prop := ∃ s', norm live st = f s' ∧ ok s' ∧ m s' < m s

theorem awp_loop {σ : Type} {live : List Nat} {c : SCode} (f : σ → St) (ok : σ → Prop) (m : σ → Nat) (s0 : σ) (h0 : norm live st = f s0) (hok : ok s0)
    (hr : ∀ s, ok s → awp Γ c (thenQ (loopQ live f ok m s) Q) (f s)) : awp Γ (.loop live c) Q st := by
  refine ⟨σ, fun s st => st = f s ∧ ok s, m, s0, ⟨h0, hok⟩, ?_⟩
  rintro s _ ⟨rfl, hs⟩
  have := hr s hs
  have e : loopQ live f ok m s = (fun st' => ∃ s', (norm live st' = f s' ∧ ok s') ∧ m s' < m s) := by
    funext st'; apply propext; constructor
    · rintro ⟨s', a, b, c⟩; exact ⟨s', ⟨a, b⟩, c⟩
    · rintro ⟨s', ⟨a, b⟩, c⟩; exact ⟨s', a, b, c⟩
  rw [e] at this
  exact this

def toS (live drop : List Nat) (S st : St) : Prop := dropS drop ⟨keep st.fr live, st.hp⟩ = S
@[simp] theorem toS_mk {live drop : List Nat} {S : St} {fr : List (Nat × AV)} {hp : List (Nat × AObj)} : toS live drop S ⟨fr, hp⟩ = (dropS drop ⟨keep fr live, hp⟩ = S) := rfl
/-- A region, by the state that it leaves. -/
theorem awp_region_to {ops : List SO} {live drop : List Nat} {dd : List (List Nat)} (S : St) (h : opsK Γ ops dd st (toS live drop S)) (hQ : Q .normal S) : awp Γ (.region ops live drop dd) Q st := by
  obtain ⟨s, h1, h2⟩ := opsK_G h
  show opsK Γ ops dd st (regQ live drop Q)
  have back : ∀ (l : List SO) (dd : List (List Nat)) (st : St) (s : St) (K : St → Prop), opsG Γ l dd st = some s → K s → opsK Γ l dd st K := by
    intro l
    induction l with
    | nil => intro dd st s K h hk; simp [opsG] at h; subst h; exact hk
    | cons o r ih =>
      intro dd st s K h hk
      simp only [opsG] at h
      cases h1 : opF Γ o st with
      | none => simp [h1] at h
      | some s1 =>
        simp [h1] at h
        have step : ∀ st, stepF Γ o st = some s1 → stepK Γ o st (fun st' => opsK Γ r (dTl dd) (rmS (dHd dd) st') K) := by
          intro st hs
          obtain ⟨dst, op, g⟩ := o
          have ih' := ih _ _ s K h hk
          cases op
          case nextS x =>
            simp only [stepF] at hs
            simp only [stepK]
            cases hx : ev st.fr x <;> simp only [hx] at hs ⊢ <;> try (simp at hs; done)
            rename_i id off
            cases off with
            | succ _ => simp at hs
            | zero =>
              simp only at hs ⊢
              cases ho : hlk st.hp id with
              | none => simp [ho] at hs
              | some ob =>
                cases ob <;> simp only [ho] at hs ⊢ <;> try (simp at hs; done)
                split at hs
                · rename_i hp
                  simp only [Option.some.injEq] at hs; subst hs
                  exact ⟨fun _ => ih', fun hn => absurd hp hn⟩
                · rename_i hp
                  simp only [Option.some.injEq] at hs; subst hs
                  exact ⟨fun hn => absurd hn hp, fun _ => ih'⟩
          all_goals
            simp only [stepF] at hs
            simp only [stepK]
            split
            · rename_i out ho
              simp only [ho, Option.map_some, Option.some.injEq] at hs; subst hs
              exact ih'
            · rename_i ho
              simp [ho] at hs
        simp only [opF] at h1
        simp only [opsK]
        cases hg : o.guard with
        | none => simp only [hg] at h1 ⊢; exact step st h1
        | some gw =>
          obtain ⟨g, want⟩ := gw
          simp only [hg] at h1 ⊢
          cases hl : lk st.fr g <;> simp only [hl] at h1 ⊢ <;> try (simp at h1; done)
          · rename_i b
            split at h1
            · rename_i hb
              exact ⟨fun _ => step _ h1, fun hn => by subst hb; cases b <;> simp at hn⟩
            · rename_i hb
              simp only [Option.some.injEq] at h1; subst h1
              exact ⟨fun hn => absurd hn hb, fun _ => ih _ _ s K h hk⟩
          · rename_i vs
            cases vs with
            | cons _ _ => simp at h1
            | nil => simp only [Option.some.injEq] at h1; subst h1; exact ih _ _ s K h hk
  exact back ops dd st s _ h1 (by rw [regQ_eq, show dropS drop ⟨keep s.fr live, s.hp⟩ = S from h2]; exact hQ)

@[simp] theorem thenQ_normal {K : St → Prop} : thenQ K Q .normal st = K st := rfl
@[simp] theorem thenQ_exit {K : St → Prop} {i : Nat} : thenQ K Q (.exit i) st = Q (.exit i) st := rfl
@[simp] theorem thenQ_ret {K : St → Prop} : thenQ K Q .ret st = Q .ret st := rfl
@[simp] theorem blockQ_normal {i : Nat} : blockQ i Q .normal st = Q .normal st := rfl
@[simp] theorem blockQ_exit {i j : Nat} : blockQ i Q (.exit j) st = if j = i then Q .normal st else Q (.exit j) st := rfl
@[simp] theorem blockQ_ret {i : Nat} : blockQ i Q .ret st = Q .ret st := rfl
@[simp] theorem finQ_normal {res : List RV} {R : AV → Prop} : finQ res R .normal st = (resOk st res = true ∧ R (export_ st.hp (retV st res))) := rfl
@[simp] theorem finQ_ret {res : List RV} {R : AV → Prop} : finQ res R .ret st = (resOk st res = true ∧ R (export_ st.hp (retV st res))) := rfl
@[simp] theorem finS_normal {n : Nat} {res : List RV} {R} : finS n res R .normal st = (resOk st res = true ∧ R (exportS n st.hp (retV st res))) := rfl
@[simp] theorem finS_ret {n : Nat} {res : List RV} {R} : finS n res R .ret st = (resOk st res = true ∧ R (exportS n st.hp (retV st res))) := rfl
@[simp] theorem finS_exit {n : Nat} {res : List RV} {R} {i : Nat} : finS n res R (.exit i) st = False := rfl
@[simp] theorem finQ_exit {res : List RV} {R : AV → Prop} {i : Nat} : finQ res R (.exit i) st = False := rfl

theorem wrap64 {x : Int} (h1 : -9223372036854775808 ≤ x) (h2 : x < 9223372036854775808) : IntKind.i64.wrap x = x :=
  Go.IntWalk.i64_in x ⟨h1, by omega⟩

@[simp] theorem lk_cons {d i : Nat} {x : AV} {fr : List (Nat × AV)} : lk ((d, x) :: fr) i = if d = i then x else lk fr i := rfl
@[simp] theorem lk_nil {i : Nat} : lk [] i = .junk := rfl
end

/-! ### one operation -/
section
def gO {α : Type} (o : Option α) (k : α → Prop) : Prop := ∃ a, o = some a ∧ k a
section
variable {α : Type} {k : α → Prop}
@[simp] theorem gO_some {a : α} : gO (some a) k = k a := by simp [gO]
@[simp] theorem gO_none : gO none k = False := by simp [gO]
@[simp] theorem gO_if1 {c : Prop} [Decidable c] {o : Option α} : gO (if c then o else none) k = (c ∧ gO o k) := by by_cases h : c <;> simp [h]
@[simp] theorem gO_if2 {c : Prop} [Decidable c] {o : Option α} : gO (if c then none else o) k = (¬ c ∧ gO o k) := by by_cases h : c <;> simp [h]
theorem gO_intro {o : Option α} {a : α} (h : o = some a) (hk : k a) : gO o k := ⟨a, h, hk⟩
theorem gO_bind {β : Type} {o : Option β} {f : β → Option α} {b : β} (h : o = some b) (hk : gO (f b) k) : gO (o.bind f) k := by rw [h]; exact hk
end

def oS : AV → Option (List UInt8) | .str s => some s | _ => none
def oI : AV → Option Int | .int _ n => some n | _ => none
def oN : AV → Option Nat | .int _ n => if 0 ≤ n then some n.toNat else none | _ => none
def oB : AV → Option Bool | .bool b => some b | _ => none
def oRef : AV → Option (Nat × Nat) | .ref id off => some (id, off) | _ => none
def oMref : AV → Option Nat | .mref id => some id | _ => none
def oAgg : AV → Option (List AV) | .agg cs => some cs | _ => none
def oTup : AV → Option (List AV) | .tup cs => some cs | _ => none
def oIfc : AV → Option (Nat × AV) | .ifc t x => some (t, x) | _ => none
def oFn : AV → Option (Nat × List AV) | .fn f c => some (f, c) | _ => none
def oCells : Option AObj → Option (List AV) | some (.cells cs) => some cs | _ => none
def oMp : Option AObj → Option (List (List UInt8 × AV)) | some (.mp es) => some es | _ => none
def oSit : Option AObj → Option (List UInt8 × Nat) | some (.sit s p) => some (s, p) | _ => none
@[simp] theorem oS_str {s} : oS (.str s) = some s := rfl
@[simp] theorem oI_int {t n} : oI (.int t n) = some n := rfl
@[simp] theorem oN_int {t n} : oN (.int t n) = if 0 ≤ n then some n.toNat else none := rfl
@[simp] theorem oB_bool {b} : oB (.bool b) = some b := rfl
@[simp] theorem oRef_ref {a b} : oRef (.ref a b) = some (a, b) := rfl
@[simp] theorem oMref_mref {a} : oMref (.mref a) = some a := rfl
@[simp] theorem oAgg_agg {a} : oAgg (.agg a) = some a := rfl
@[simp] theorem oTup_tup {a} : oTup (.tup a) = some a := rfl
@[simp] theorem oIfc_ifc {a b} : oIfc (.ifc a b) = some (a, b) := rfl
@[simp] theorem oFn_fn {a b} : oFn (.fn a b) = some (a, b) := rfl
@[simp] theorem oCells_cells {a} : oCells (some (.cells a)) = some a := rfl
@[simp] theorem oMp_mp {a} : oMp (some (.mp a)) = some a := rfl
@[simp] theorem oSit_sit {a b} : oSit (some (.sit a b)) = some (a, b) := rfl

def ptrOk : AV → Bool
  | .ptr _ => true
  | .ref _ _ => true
  | _ => false

def bytesA (hp : List (Nat × AObj)) (v : AV) : Option (List UInt8) :=
  match v with
  | .str _ => none
  | v => if one1 v then (slCells hp v).bind toBytes else none

def runesA (hp : List (Nat × AObj)) (v : AV) : Option (List UInt8) :=
  match v with
  | .str _ => none
  | v => if one1 v then (slCells hp v).bind toRunes else none

def slA (es : Nat) (lo hi : Option AV) : AV → Option AV
  | .sl es' xs => (bounds xs.length lo hi).bind fun lh => if es = es' then some (.sl es' (cut xs lo hi lh.1 lh.2)) else none
  | .nilS => (bounds 0 lo hi).bind fun _ => some .nilS
  | .msl id es' off n => (bounds n lo hi).bind fun lh => if es = es' then some (.msl id es' (off + lh.1 * es') (lh.2 - lh.1)) else none
  | _ => none

def addrA (off : Nat) : AV → Option AV
  | .ptr cs => some (.ptr (cs.drop off))
  | .ref id o => some (.ref id (o + off))
  | _ => none

def elemA (es j : Nat) : AV → Option AV
  | .sl es' xs => xs[j]?.bind fun v => if es = es' then some (.ptr (cells v)) else none
  | .msl id es' off n => if j < n ∧ es = es' then some (.ref id (off + j * es')) else none
  | _ => none

def lookA (es : List (List UInt8 × AV)) (s : List UInt8) (zero : AV) (ok : Bool) : AV :=
  match mfind es s with
  | some v => if ok then .tup [v, .bool true] else v
  | none => if ok then .tup [zero, .bool false] else zero

def assertA (t : Nat) (zero : AV) (ok : Bool) : AV → Option AV
  | .ifc u v => if u = t then some (if ok then .tup [v, .bool true] else v) else if ok then some (.tup [zero, .bool false]) else none
  | .nilI => if ok then some (.tup [zero, .bool false]) else none
  | _ => none

def o1 (hp : List (Nat × AObj)) (v : AV) : Out := ⟨v, hp, []⟩
def o2 (hp : List (Nat × AObj)) (d : Nat) (v : AV) (o : AObj) : Out := ⟨v, (d, o) :: killH d hp, [d]⟩
def o3 (hp : List (Nat × AObj)) (id : Nat) (o : AObj) : Out := ⟨.junk, hset hp id o, []⟩

section
variable {Γ : Gam} {fr : List (Nat × AV)} {hp : List (Nat × AObj)} {d : Nat}
@[simp] theorem a_mv {x} : aop Γ fr hp d (.mv x) = some (o1 hp (ev fr x)) := rfl
@[simp] theorem a_pick {c a b} : aop Γ fr hp d (.pick c a b) = (oB (ev fr c)).map fun t => o1 hp (if t then ev fr a else ev fr b) := by
  simp only [aop]; cases ev fr c <;> simp [asB, oB, just, o1]
  rename_i t; cases t <;> simp
@[simp] theorem a_alloc {z} : aop Γ fr hp d (.alloc z) = some (o2 hp d (.ref d 0) (.cells z)) := rfl
@[simp] theorem a_agg {z p} : aop Γ fr hp d (.agg z p) = (fillA z (p.map fun p => (p.1, p.2.1, ev fr p.2.2))).map fun cs => o1 hp (.agg cs) := by
  simp only [aop]; cases fillA z (p.map fun p => (p.1, p.2.1, ev fr p.2.2)) <;> simp [just, o1]
@[simp] theorem a_mkSl {es n z p} : aop Γ fr hp d (.mkSl es n z p) = (fillA ((List.replicate n z).flatten) (p.map fun p => (p.1 * es, es, ev fr p.2))).map fun cs => o2 hp d (.msl d es 0 n) (.cells (killL d cs)) := by
  simp only [aop]; cases fillA ((List.replicate n z).flatten) (p.map fun p => (p.1 * es, es, ev fr p.2)) <;> simp [made, o2]
@[simp] theorem a_mkSlF {es n z p} : aop Γ fr hp d (.mkSlF es n z p) = (fillA ((List.replicate n z).flatten) (p.map fun p => (p.1 * es, es, ev fr p.2))).bind fun cs =>
    if atoms cs = true ∧ hasRefL cs = false ∧ 0 < es ∧ n * es ≤ cs.length then some (o1 hp (.sl es (elems es n cs))) else none := by
  simp only [aop]; cases fillA ((List.replicate n z).flatten) (p.map fun p => (p.1 * es, es, ev fr p.2)) <;> simp [just, o1]
@[simp] theorem a_box {x} : aop Γ fr hp d (.box x) = if atoms (cells (ev fr x)) = true then some (o2 hp d (.ref d 0) (.cells (killL d (cells (ev fr x))))) else none := rfl
@[simp] theorem a_boxF {x} : aop Γ fr hp d (.boxF x) = if atoms (cells (ev fr x)) = true ∧ hasRefL (cells (ev fr x)) = false then some (o1 hp (.bx (cells (ev fr x)))) else none := rfl
@[simp] theorem a_load {n x} : aop Γ fr hp d (.load n x) = (aload hp n (ev fr x)).map (o1 hp) := by
  simp only [aop]; cases aload hp n (ev fr x) <;> simp [just, o1]
@[simp] theorem a_store {n a x} : aop Γ fr hp d (.store n a x) = (oRef (ev fr a)).bind fun r => (oCells (hlk hp r.1)).bind fun cs =>
    if (cells (ev fr x)).length = n ∧ r.2 + n ≤ cs.length ∧ atoms (cells (ev fr x)) = true then some (o3 hp r.1 (.cells (spliceL cs r.2 (cells (ev fr x))))) else none := by
  simp only [aop]; cases ev fr a <;> simp [oRef]
  rename_i id off
  cases hlk hp id with
  | none => simp [oCells]
  | some o => cases o <;> simp [oCells, o3]
@[simp] theorem a_chk {x} : aop Γ fr hp d (.chk x) = if ptrOk (ev fr x) = true then some (o1 hp (ev fr x)) else none := by
  simp only [aop]; cases ev fr x <;> simp [ptrOk, just, o1]
@[simp] theorem a_bin {b x y} : aop Γ fr hp d (.bin b x y) = (abin b (ev fr x) (ev fr y)).map (o1 hp) := by
  simp only [aop]; cases abin b (ev fr x) (ev fr y) <;> simp [just, o1]
@[simp] theorem a_eqB {n x y} : aop Γ fr hp d (.eqB n x y) = (leafEq 0 (ev fr x) (ev fr y)).map fun b => o1 hp (.bool (b != n)) := by
  simp only [aop]; cases leafEq 0 (ev fr x) (ev fr y) <;> simp [just, o1]
@[simp] theorem a_eqA {n ks x y} : aop Γ fr hp d (.eqA n ks x y) = (oAgg (ev fr x)).bind fun xs => (oAgg (ev fr y)).bind fun ys => (leafEqL ks xs ys).map fun b => o1 hp (.bool (b != n)) := by
  simp only [aop]; cases ev fr x <;> simp [oAgg]
  cases ev fr y <;> simp
  rename_i xs ys; cases leafEqL ks xs ys <;> simp [just, o1]
@[simp] theorem a_isNil {c n x} : aop Γ fr hp d (.isNil c n x) = (isNilA c (ev fr x)).map fun b => o1 hp (.bool (b != n)) := by
  simp only [aop]; cases isNilA c (ev fr x) <;> simp [just, o1]
@[simp] theorem a_mn {x y} : aop Γ fr hp d (.mn x y) = (amin (ev fr x) (ev fr y)).map (o1 hp) := by
  simp only [aop]; cases amin (ev fr x) (ev fr y) <;> simp [just, o1]
@[simp] theorem a_un {u x} : aop Γ fr hp d (.un u x) = (aun u (ev fr x)).map (o1 hp) := by
  simp only [aop]; cases aun u (ev fr x) <;> simp [just, o1]
@[simp] theorem a_cInt {t x} : aop Γ fr hp d (.cInt t x) = (oI (ev fr x)).map fun n => o1 hp (.int t (t.wrap n)) := by
  simp only [aop]; cases ev fr x <;> simp [oI, just, o1]
@[simp] theorem a_cIntStr {x} : aop Γ fr hp d (.cIntStr x) = (oI (ev fr x)).map fun n => o1 hp (.str (encR n)) := by
  simp only [aop]; cases ev fr x <;> simp [oI, just, o1]
@[simp] theorem a_cNop {x} : aop Γ fr hp d (.cNop x) = (oS (ev fr x)).map fun s => o1 hp (.str s) := by
  simp only [aop]; cases ev fr x <;> simp [oS, just, o1]
@[simp] theorem a_cStrBytes {x} : aop Γ fr hp d (.cStrBytes x) = (oS (ev fr x)).bind fun s => if s.length < 4611686018427387904 then some (o2 hp d (.msl d 1 0 s.length) (.cells (bcA s))) else none := by
  simp only [aop]; cases ev fr x <;> simp [oS, made, o2]
@[simp] theorem a_cStrRunes {x} : aop Γ fr hp d (.cStrRunes x) = (oS (ev fr x)).bind fun s => if s.length < 4611686018427387904 then some (o2 hp d (.msl d 1 0 (runesF s.length s).length) (.cells (rcA (runesF s.length s)))) else none := by
  simp only [aop]; cases ev fr x <;> simp [oS, made, o2]
@[simp] theorem a_cBytesStr {x} : aop Γ fr hp d (.cBytesStr x) = (bytesA hp (ev fr x)).map fun s => o1 hp (.str s) := by
  simp only [aop]
  generalize ev fr x = v
  have main : (if one1 v = true then (match slCells hp v with | some cs => (match toBytes cs with | some s => just hp (.str s) | none => none) | none => none) else none) = (if one1 v = true then (slCells hp v).bind toBytes else none).map fun s => o1 hp (.str s) := by
    split
    · cases slCells hp v with
      | none => simp
      | some cs => simp only [Option.bind_some]; cases toBytes cs <;> simp [just, o1]
    · rfl
  cases v <;> first | exact main | simp [bytesA]
@[simp] theorem a_cRunesStr {x} : aop Γ fr hp d (.cRunesStr x) = (runesA hp (ev fr x)).map fun s => o1 hp (.str s) := by
  simp only [aop]
  generalize ev fr x = v
  have main : (if one1 v = true then (match slCells hp v with | some cs => (match toRunes cs with | some s => just hp (.str s) | none => none) | none => none) else none) = (if one1 v = true then (slCells hp v).bind toRunes else none).map fun s => o1 hp (.str s) := by
    split
    · cases slCells hp v with
      | none => simp
      | some cs => simp only [Option.bind_some]; cases toRunes cs <;> simp [just, o1]
    · rfl
  cases v <;> first | exact main | simp [runesA]
@[simp] theorem a_mkIfc {t x} : aop Γ fr hp d (.mkIfc t x) = some (o1 hp (.ifc t (ev fr x))) := rfl
@[simp] theorem a_mkFn {f l} : aop Γ fr hp d (.mkFn f l) = some (o1 hp (.fn f (l.map (ev fr)))) := rfl
@[simp] theorem a_mkMap : aop Γ fr hp d .mkMap = some (o2 hp d (.mref d) (.mp [])) := rfl
@[simp] theorem a_mkSlice {es b z l c} : aop Γ fr hp d (.mkSlice es b z l c) = (oN (ev fr l)).bind fun n => (oN (ev fr c)).bind fun m =>
    if n ≤ m ∧ (m + 1) * (b + 1) < 35184372088832 ∧ m < 35184372088832 then some (o2 hp d (.msl d es 0 n) (.cells ((List.replicate n z).flatten))) else none := by
  simp only [aop]
  have e : ∀ v, idx v = oN v := by intro v; cases v <;> rfl
  rw [e, e]
  cases oN (ev fr l) <;> simp
  cases oN (ev fr c) <;> simp [made, o2]
@[simp] theorem a_slStr {x lo hi} : aop Γ fr hp d (.slStr x lo hi) = (oS (ev fr x)).bind fun s => (bounds s.length (lo.map (ev fr)) (hi.map (ev fr))).map fun lh => o1 hp (.str (cut s (lo.map (ev fr)) (hi.map (ev fr)) lh.1 lh.2)) := by
  simp only [aop]; cases ev fr x <;> simp [oS]
  rename_i s; cases bounds s.length (lo.map (ev fr)) (hi.map (ev fr)) <;> simp [just, o1]
@[simp] theorem a_slSl {es x lo hi} : aop Γ fr hp d (.slSl es x lo hi) = (slA es (lo.map (ev fr)) (hi.map (ev fr)) (ev fr x)).map (o1 hp) := by
  simp only [aop]; cases ev fr x <;> simp [slA]
  · cases bounds 0 (lo.map (ev fr)) (hi.map (ev fr)) <;> simp [just, o1]
  · rename_i es' xs; cases bounds xs.length (lo.map (ev fr)) (hi.map (ev fr)) <;> simp [just]
    split <;> simp [o1]
  · rename_i id es' off n; cases bounds n (lo.map (ev fr)) (hi.map (ev fr)) <;> simp [just]
    split
    · rename_i h; subst h; simp [o1]
    · simp
@[simp] theorem a_fAddr {off x} : aop Γ fr hp d (.fAddr off x) = (addrA off (ev fr x)).map (o1 hp) := by
  simp only [aop]; cases ev fr x <;> simp [addrA, just, o1]
@[simp] theorem a_field {off n x} : aop Γ fr hp d (.field off n x) = (oAgg (ev fr x)).bind fun cs => (loadC n (cs.drop off)).map (o1 hp) := by
  simp only [aop, partA]; cases ev fr x <;> simp [oAgg]
  rename_i cs; cases loadC n (cs.drop off) <;> simp [just, o1]
@[simp] theorem a_iAddr {es x i} : aop Γ fr hp d (.iAddr es x i) = (oN (ev fr i)).bind fun j => (elemA es j (ev fr x)).map (o1 hp) := by
  simp only [aop]
  have e : ∀ v, idx v = oN v := by intro v; cases v <;> rfl
  rw [e]
  cases oN (ev fr i) <;> simp
  rename_i j
  cases ev fr x <;> simp [elemA, just]
  · rename_i es' xs; cases xs[j]? <;> simp
    split <;> simp [o1]
  · rename_i id es' off n
    split
    · rename_i h; obtain ⟨_, h⟩ := h; subst h; simp [o1]
    · simp
@[simp] theorem a_iAddrA {len es x i} : aop Γ fr hp d (.iAddrA len es x i) = (oN (ev fr i)).bind fun j => if j < len then (addrA (j * es) (ev fr x)).map (o1 hp) else none := by
  simp only [aop]
  have e : ∀ v, idx v = oN v := by intro v; cases v <;> rfl
  rw [e]
  cases oN (ev fr i) <;> simp
  cases ev fr x <;> simp [addrA, just, o1]
@[simp] theorem a_iStr {x i} : aop Γ fr hp d (.iStr x i) = (oN (ev fr i)).bind fun j => (oS (ev fr x)).bind fun s => s[j]?.bind fun b => some (o1 hp (.int .u8 (b.toNat : Int))) := by
  simp only [aop]
  have e : ∀ v, idx v = oN v := by intro v; cases v <;> rfl
  rw [e]
  cases oN (ev fr i) <;> simp
  rename_i j
  cases ev fr x <;> simp [oS]
  rename_i s; cases s[j]? <;> simp [just, o1]
@[simp] theorem a_iArr {len es m x i} : aop Γ fr hp d (.iArr len es m x i) = (oN (ev fr i)).bind fun j => if j < len then (oAgg (ev fr x)).bind fun cs => (loadC m (cs.drop (j * es))).map (o1 hp) else none := by
  simp only [aop, partA]
  have e : ∀ v, idx v = oN v := by intro v; cases v <;> rfl
  rw [e]
  cases oN (ev fr i) <;> simp
  rename_i j
  cases ev fr x <;> simp [oAgg]
  rename_i cs; cases loadC m (cs.drop (j * es)) <;> simp [just, o1]
@[simp] theorem a_look {z ok m q} : aop Γ fr hp d (.look z ok m q) = (ments hp (ev fr m)).bind fun es => (oS (ev fr q)).map fun s => o1 hp (lookA es s z ok) := by
  simp only [aop]; cases ments hp (ev fr m) <;> simp
  cases ev fr q <;> simp [asS, oS]
  rename_i es s; simp only [lookA]; cases mfind es s <;> simp [just, o1]
@[simp] theorem a_mput {m q v} : aop Γ fr hp d (.mput m q v) = (oMref (ev fr m)).bind fun id => (oS (ev fr q)).bind fun s => (oMp (hlk hp id)).bind fun es =>
    if atom (ev fr v) = true ∧ hasRef (ev fr v) = false then some (o3 hp id (.mp (mset es s (ev fr v)))) else none := by
  simp only [aop]; cases ev fr m <;> simp [oMref]
  rename_i id; cases ev fr q <;> simp [asS, oS]
  cases hlk hp id with
  | none => simp [oMp]
  | some o => cases o <;> simp [oMp, o3]
@[simp] theorem a_rangeS {x} : aop Γ fr hp d (.rangeS x) = (oS (ev fr x)).map fun s => o2 hp d (.ref d 0) (.sit s 0) := by
  simp only [aop]; cases ev fr x <;> simp [oS, made, o2]
@[simp] theorem a_extr {x i} : aop Γ fr hp d (.extr x i) = (oTup (ev fr x)).bind fun vs => vs[i]?.map (o1 hp) := by
  simp only [aop]; cases ev fr x <;> simp [oTup]
  rename_i vs; cases vs[i]? <;> simp [just, o1]
@[simp] theorem a_assert {t z ok x} : aop Γ fr hp d (.assert t z ok x) = (assertA t z ok (ev fr x)).map (o1 hp) := by
  simp only [aop]; cases ev fr x <;> simp [assertA, just, o1]
  · split
    · simp [o1]
    · split <;> simp [o1]
@[simp] theorem a_len {c x} : aop Γ fr hp d (.len c x) = (alen hp c (ev fr x)).map fun n => o1 hp (.int .i64 (n : Int)) := by
  simp only [aop]; cases alen hp c (ev fr x) <;> simp [just, o1]
@[simp] theorem a_app {es b x y} : aop Γ fr hp d (.app es b x y) = (slCells hp (ev fr y)).bind fun ys => (ycount es (ev fr y)).bind fun n => aapp hp d es b (ev fr x) ys n := by
  simp only [aop]; cases slCells hp (ev fr y) <;> simp
  cases ycount es (ev fr y) <;> simp
@[simp] theorem a_call {f l} : aop Γ fr hp d (.call f l) = (acall Γ hp f (l.map (ev fr))).map (o1 hp) := by
  simp only [aop]; cases acall Γ hp f (l.map (ev fr)) <;> simp [just, o1]
@[simp] theorem a_callV {f l} : aop Γ fr hp d (.callV f l) = (oFn (ev fr f)).bind fun g => (acall Γ hp g.1 (l.map (ev fr) ++ g.2)).map (o1 hp) := by
  simp only [aop]; cases ev fr f <;> simp [oFn]
  rename_i g cap; cases acall Γ hp g (l.map (ev fr) ++ cap) <;> simp [just, o1]
@[simp] theorem a_inv {x n l} : aop Γ fr hp d (.inv x n l) = (oIfc (ev fr x)).bind fun t => (Γ.mth t.1 n).bind fun f => (acall Γ hp f (t.2 :: l.map (ev fr))).map (o1 hp) := by
  simp only [aop]; cases ev fr x <;> simp [oIfc]
  rename_i t v; cases Γ.mth t n <;> simp
  rename_i f; cases acall Γ hp f (v :: l.map (ev fr)) <;> simp [just, o1]
@[simp] theorem a_callS {f l} : aop Γ fr hp d (.callS f l) = acallS Γ hp d f (l.map (ev fr)) := rfl
@[simp] theorem a_callVS {f l} : aop Γ fr hp d (.callVS f l) = (oFn (ev fr f)).bind fun g => acallS Γ hp d g.1 (l.map (ev fr) ++ g.2) := by
  simp only [aop]; cases ev fr f <;> simp [oFn]
@[simp] theorem a_invS {x n l} : aop Γ fr hp d (.invS x n l) = (oIfc (ev fr x)).bind fun t => (Γ.mth t.1 n).bind fun f => acallS Γ hp d f (t.2 :: l.map (ev fr)) := by
  simp only [aop]; cases ev fr x <;> simp [oIfc]
  rename_i t v; cases Γ.mth t n <;> simp
@[simp] theorem a_bad : aop Γ fr hp d .bad = none := rfl
@[simp] theorem a_fl {s} : aop Γ fr hp d (.fl s) = if flatIn fr s = true then (aop Γ fr [] d s).bind (fun out => if pureV out.v = true then some (o1 hp out.v) else none) else none := by
  simp only [aop]
  split
  · cases aop Γ fr [] d s <;> simp [just, o1]
  · rfl
@[simp] theorem o1_v {v : AV} : (o1 hp v).v = v := rfl
end

section
variable {Γ : Gam} {st : St} {K : St → Prop} {dst : Option Nat} {r : List SO} {dd : List (List Nat)}
/-- What comes behind an operation. -/
def kOps (Γ : Gam) (r : List SO) (dd : List (List Nat)) (fr : List (Nat × AV)) (dst : Option Nat) (K : St → Prop) (out : Out) : Prop := opsK Γ r (dTl dd) (rmS (dHd dd) (fin fr dst out)) K
@[simp] theorem kOps_o1 {fr hp v} : kOps Γ r dd fr dst K (o1 hp v) = opsK Γ r (dTl dd) ⟨rmF (dHd dd) (⟨putS fr dst v, hp⟩ : St).fr, (⟨putS fr dst v, hp⟩ : St).hp⟩ K := rfl
@[simp] theorem kOps_o2 {fr hp d v o} : kOps Γ r dd fr dst K (o2 hp d v o) = opsK Γ r (dTl dd) ⟨rmF (dHd dd) (⟨putS (killF d fr) dst v, (d, o) :: killH d hp⟩ : St).fr, (⟨putS (killF d fr) dst v, (d, o) :: killH d hp⟩ : St).hp⟩ K := rfl
@[simp] theorem kOps_o3 {fr hp id o} : kOps Γ r dd fr dst K (o3 hp id o) = opsK Γ r (dTl dd) ⟨rmF (dHd dd) (⟨putS fr dst .junk, hset hp id o⟩ : St).fr, (⟨putS fr dst .junk, hset hp id o⟩ : St).hp⟩ K := rfl
@[simp] theorem kOps_mk {fr v hp n} : kOps Γ r dd fr dst K ⟨v, hp, n⟩ = opsK Γ r (dTl dd) ⟨rmF (dHd dd) (⟨putS (killFs n fr) dst v, hp⟩ : St).fr, (⟨putS (killFs n fr) dst v, hp⟩ : St).hp⟩ K := rfl
@[simp] theorem opsK_nil : opsK Γ [] dd st K = K st := rfl
@[simp] theorem rmS_mk {ds : List Nat} {fr : List (Nat × AV)} {hp : List (Nat × AObj)} : rmS ds ⟨fr, hp⟩ = ⟨rmF ds fr, hp⟩ := rfl

theorem opsK_step {op : SOp} (h : ∀ x, op ≠ .nextS x) : opsK Γ (⟨dst, op, none⟩ :: r) dd st K = gO (aop Γ st.fr st.hp (dst.getD 0) op) (kOps Γ r dd st.fr dst K) := by
  simp only [opsK]
  cases op <;> first | (exfalso; exact h _ rfl) | (simp only [stepK]; split <;> rename_i ho <;> simp only [ho, gO_some, gO_none, kOps])

def nextK2 (o : Option AObj) (id : Nat) (Γ : Gam) (r : List SO) (dd : List (List Nat)) (dst : Option Nat) (st : St) (K : St → Prop) : Prop := match o with
    | some (.sit s pos) =>
      (pos < s.length → opsK Γ r (dTl dd) ⟨rmF (dHd dd) (putS st.fr dst (.tup [.bool true, .int .i64 (pos : Int), .int .i32 ((decR (s.drop pos)).1 : Int)])), hset st.hp id (.sit s (pos + (decR (s.drop pos)).2))⟩ K) ∧
      (¬ pos < s.length → opsK Γ r (dTl dd) ⟨rmF (dHd dd) (putS st.fr dst (.tup [.bool false])), st.hp⟩ K)
    | _ => False
def nextK (v : AV) (Γ : Gam) (r : List SO) (dd : List (List Nat)) (dst : Option Nat) (st : St) (K : St → Prop) : Prop := match v with
  | .ref id 0 => nextK2 (hlk st.hp id) id Γ r dd dst st K
  | _ => False
@[simp] theorem nextK_ref {id} : nextK (.ref id 0) Γ r dd dst st K = nextK2 (hlk st.hp id) id Γ r dd dst st K := rfl
@[simp] theorem nextK2_sit {s pos id} : nextK2 (some (.sit s pos)) id Γ r dd dst st K =
      ((pos < s.length → opsK Γ r (dTl dd) ⟨rmF (dHd dd) (putS st.fr dst (.tup [.bool true, .int .i64 (pos : Int), .int .i32 ((decR (s.drop pos)).1 : Int)])), hset st.hp id (.sit s (pos + (decR (s.drop pos)).2))⟩ K) ∧
      (¬ pos < s.length → opsK Γ r (dTl dd) ⟨rmF (dHd dd) (putS st.fr dst (.tup [.bool false])), st.hp⟩ K)) := rfl
@[simp] theorem opsK_nextS {x} : opsK Γ (⟨dst, .nextS x, none⟩ :: r) dd st K = nextK (ev st.fr x) Γ r dd dst st K := rfl

def guardK (v : AV) (Γ : Gam) (dst : Option Nat) (op : SOp) (g : Nat) (w : Bool) (r : List SO) (dd : List (List Nat)) (st : St) (K : St → Prop) : Prop := match v with
  | .bool b => (b = w → opsK Γ (⟨dst, op, none⟩ :: r) dd ⟨(g, .bool w) :: st.fr, st.hp⟩ K) ∧ (b = (!w) → opsK Γ r (dTl dd) ⟨rmF (dHd dd) (putS ((g, .bool (!w)) :: st.fr) dst (.tup [])), st.hp⟩ K)
  | .tup [] => opsK Γ r (dTl dd) ⟨rmF (dHd dd) (putS st.fr dst (.tup [])), st.hp⟩ K
  | _ => False
@[simp] theorem guardK_bool {b op g w} : guardK (.bool b) Γ dst op g w r dd st K = ((b = w → opsK Γ (⟨dst, op, none⟩ :: r) dd ⟨(g, .bool w) :: st.fr, st.hp⟩ K) ∧ (b = (!w) → opsK Γ r (dTl dd) ⟨rmF (dHd dd) (putS ((g, .bool (!w)) :: st.fr) dst (.tup [])), st.hp⟩ K)) := rfl
@[simp] theorem guardK_tup {op g w} : guardK (.tup []) Γ dst op g w r dd st K = opsK Γ r (dTl dd) ⟨rmF (dHd dd) (putS st.fr dst (.tup [])), st.hp⟩ K := rfl
@[simp] theorem opsK_guard {op : SOp} {g : Nat} {w : Bool} : opsK Γ (⟨dst, op, some (g, w)⟩ :: r) dd st K = guardK (lk st.fr g) Γ dst op g w r dd st K := by
  have e : ∀ st K, stepK Γ ⟨dst, op, some (g, w)⟩ st K = stepK Γ ⟨dst, op, none⟩ st K := by
    intro st K; cases op <;> rfl
  simp only [opsK, e, guardK]
  rfl
end
end

@[simp] theorem opsK_mv {Γ : Gam} {st : St} {K : St → Prop} {dst : Option Nat} {r : List SO} {dd : List (List Nat)} {a} : opsK Γ (⟨dst, .mv a, none⟩ :: r) dd st K = gO (aop Γ st.fr st.hp (dst.getD 0) (.mv a)) (kOps Γ r dd st.fr dst K) := opsK_step (by simp)
@[simp] theorem opsK_pick {Γ : Gam} {st : St} {K : St → Prop} {dst : Option Nat} {r : List SO} {dd : List (List Nat)} {a b c} : opsK Γ (⟨dst, .pick a b c, none⟩ :: r) dd st K = gO (aop Γ st.fr st.hp (dst.getD 0) (.pick a b c)) (kOps Γ r dd st.fr dst K) := opsK_step (by simp)
@[simp] theorem opsK_alloc {Γ : Gam} {st : St} {K : St → Prop} {dst : Option Nat} {r : List SO} {dd : List (List Nat)} {a} : opsK Γ (⟨dst, .alloc a, none⟩ :: r) dd st K = gO (aop Γ st.fr st.hp (dst.getD 0) (.alloc a)) (kOps Γ r dd st.fr dst K) := opsK_step (by simp)
@[simp] theorem opsK_agg {Γ : Gam} {st : St} {K : St → Prop} {dst : Option Nat} {r : List SO} {dd : List (List Nat)} {a b} : opsK Γ (⟨dst, .agg a b, none⟩ :: r) dd st K = gO (aop Γ st.fr st.hp (dst.getD 0) (.agg a b)) (kOps Γ r dd st.fr dst K) := opsK_step (by simp)
@[simp] theorem opsK_mkSl {Γ : Gam} {st : St} {K : St → Prop} {dst : Option Nat} {r : List SO} {dd : List (List Nat)} {a b c e} : opsK Γ (⟨dst, .mkSl a b c e, none⟩ :: r) dd st K = gO (aop Γ st.fr st.hp (dst.getD 0) (.mkSl a b c e)) (kOps Γ r dd st.fr dst K) := opsK_step (by simp)
@[simp] theorem opsK_load {Γ : Gam} {st : St} {K : St → Prop} {dst : Option Nat} {r : List SO} {dd : List (List Nat)} {a b} : opsK Γ (⟨dst, .load a b, none⟩ :: r) dd st K = gO (aop Γ st.fr st.hp (dst.getD 0) (.load a b)) (kOps Γ r dd st.fr dst K) := opsK_step (by simp)
@[simp] theorem opsK_store {Γ : Gam} {st : St} {K : St → Prop} {dst : Option Nat} {r : List SO} {dd : List (List Nat)} {a b c} : opsK Γ (⟨dst, .store a b c, none⟩ :: r) dd st K = gO (aop Γ st.fr st.hp (dst.getD 0) (.store a b c)) (kOps Γ r dd st.fr dst K) := opsK_step (by simp)
@[simp] theorem opsK_chk {Γ : Gam} {st : St} {K : St → Prop} {dst : Option Nat} {r : List SO} {dd : List (List Nat)} {a} : opsK Γ (⟨dst, .chk a, none⟩ :: r) dd st K = gO (aop Γ st.fr st.hp (dst.getD 0) (.chk a)) (kOps Γ r dd st.fr dst K) := opsK_step (by simp)
@[simp] theorem opsK_bin {Γ : Gam} {st : St} {K : St → Prop} {dst : Option Nat} {r : List SO} {dd : List (List Nat)} {a b c} : opsK Γ (⟨dst, .bin a b c, none⟩ :: r) dd st K = gO (aop Γ st.fr st.hp (dst.getD 0) (.bin a b c)) (kOps Γ r dd st.fr dst K) := opsK_step (by simp)
@[simp] theorem opsK_eqB {Γ : Gam} {st : St} {K : St → Prop} {dst : Option Nat} {r : List SO} {dd : List (List Nat)} {a b c} : opsK Γ (⟨dst, .eqB a b c, none⟩ :: r) dd st K = gO (aop Γ st.fr st.hp (dst.getD 0) (.eqB a b c)) (kOps Γ r dd st.fr dst K) := opsK_step (by simp)
@[simp] theorem opsK_eqA {Γ : Gam} {st : St} {K : St → Prop} {dst : Option Nat} {r : List SO} {dd : List (List Nat)} {a b c e} : opsK Γ (⟨dst, .eqA a b c e, none⟩ :: r) dd st K = gO (aop Γ st.fr st.hp (dst.getD 0) (.eqA a b c e)) (kOps Γ r dd st.fr dst K) := opsK_step (by simp)
@[simp] theorem opsK_isNil {Γ : Gam} {st : St} {K : St → Prop} {dst : Option Nat} {r : List SO} {dd : List (List Nat)} {a b c} : opsK Γ (⟨dst, .isNil a b c, none⟩ :: r) dd st K = gO (aop Γ st.fr st.hp (dst.getD 0) (.isNil a b c)) (kOps Γ r dd st.fr dst K) := opsK_step (by simp)
@[simp] theorem opsK_mn {Γ : Gam} {st : St} {K : St → Prop} {dst : Option Nat} {r : List SO} {dd : List (List Nat)} {a b} : opsK Γ (⟨dst, .mn a b, none⟩ :: r) dd st K = gO (aop Γ st.fr st.hp (dst.getD 0) (.mn a b)) (kOps Γ r dd st.fr dst K) := opsK_step (by simp)
@[simp] theorem opsK_un {Γ : Gam} {st : St} {K : St → Prop} {dst : Option Nat} {r : List SO} {dd : List (List Nat)} {a b} : opsK Γ (⟨dst, .un a b, none⟩ :: r) dd st K = gO (aop Γ st.fr st.hp (dst.getD 0) (.un a b)) (kOps Γ r dd st.fr dst K) := opsK_step (by simp)
@[simp] theorem opsK_cInt {Γ : Gam} {st : St} {K : St → Prop} {dst : Option Nat} {r : List SO} {dd : List (List Nat)} {a b} : opsK Γ (⟨dst, .cInt a b, none⟩ :: r) dd st K = gO (aop Γ st.fr st.hp (dst.getD 0) (.cInt a b)) (kOps Γ r dd st.fr dst K) := opsK_step (by simp)
@[simp] theorem opsK_cIntStr {Γ : Gam} {st : St} {K : St → Prop} {dst : Option Nat} {r : List SO} {dd : List (List Nat)} {a} : opsK Γ (⟨dst, .cIntStr a, none⟩ :: r) dd st K = gO (aop Γ st.fr st.hp (dst.getD 0) (.cIntStr a)) (kOps Γ r dd st.fr dst K) := opsK_step (by simp)
@[simp] theorem opsK_cNop {Γ : Gam} {st : St} {K : St → Prop} {dst : Option Nat} {r : List SO} {dd : List (List Nat)} {a} : opsK Γ (⟨dst, .cNop a, none⟩ :: r) dd st K = gO (aop Γ st.fr st.hp (dst.getD 0) (.cNop a)) (kOps Γ r dd st.fr dst K) := opsK_step (by simp)
@[simp] theorem opsK_cStrBytes {Γ : Gam} {st : St} {K : St → Prop} {dst : Option Nat} {r : List SO} {dd : List (List Nat)} {a} : opsK Γ (⟨dst, .cStrBytes a, none⟩ :: r) dd st K = gO (aop Γ st.fr st.hp (dst.getD 0) (.cStrBytes a)) (kOps Γ r dd st.fr dst K) := opsK_step (by simp)
@[simp] theorem opsK_cBytesStr {Γ : Gam} {st : St} {K : St → Prop} {dst : Option Nat} {r : List SO} {dd : List (List Nat)} {a} : opsK Γ (⟨dst, .cBytesStr a, none⟩ :: r) dd st K = gO (aop Γ st.fr st.hp (dst.getD 0) (.cBytesStr a)) (kOps Γ r dd st.fr dst K) := opsK_step (by simp)
@[simp] theorem opsK_cStrRunes {Γ : Gam} {st : St} {K : St → Prop} {dst : Option Nat} {r : List SO} {dd : List (List Nat)} {a} : opsK Γ (⟨dst, .cStrRunes a, none⟩ :: r) dd st K = gO (aop Γ st.fr st.hp (dst.getD 0) (.cStrRunes a)) (kOps Γ r dd st.fr dst K) := opsK_step (by simp)
@[simp] theorem opsK_cRunesStr {Γ : Gam} {st : St} {K : St → Prop} {dst : Option Nat} {r : List SO} {dd : List (List Nat)} {a} : opsK Γ (⟨dst, .cRunesStr a, none⟩ :: r) dd st K = gO (aop Γ st.fr st.hp (dst.getD 0) (.cRunesStr a)) (kOps Γ r dd st.fr dst K) := opsK_step (by simp)
@[simp] theorem opsK_mkIfc {Γ : Gam} {st : St} {K : St → Prop} {dst : Option Nat} {r : List SO} {dd : List (List Nat)} {a b} : opsK Γ (⟨dst, .mkIfc a b, none⟩ :: r) dd st K = gO (aop Γ st.fr st.hp (dst.getD 0) (.mkIfc a b)) (kOps Γ r dd st.fr dst K) := opsK_step (by simp)
@[simp] theorem opsK_mkFn {Γ : Gam} {st : St} {K : St → Prop} {dst : Option Nat} {r : List SO} {dd : List (List Nat)} {a b} : opsK Γ (⟨dst, .mkFn a b, none⟩ :: r) dd st K = gO (aop Γ st.fr st.hp (dst.getD 0) (.mkFn a b)) (kOps Γ r dd st.fr dst K) := opsK_step (by simp)
@[simp] theorem opsK_mkMap {Γ : Gam} {st : St} {K : St → Prop} {dst : Option Nat} {r : List SO} {dd : List (List Nat)} : opsK Γ (⟨dst, .mkMap , none⟩ :: r) dd st K = gO (aop Γ st.fr st.hp (dst.getD 0) (.mkMap )) (kOps Γ r dd st.fr dst K) := opsK_step (by simp)
@[simp] theorem opsK_mkSlice {Γ : Gam} {st : St} {K : St → Prop} {dst : Option Nat} {r : List SO} {dd : List (List Nat)} {a b c e f} : opsK Γ (⟨dst, .mkSlice a b c e f, none⟩ :: r) dd st K = gO (aop Γ st.fr st.hp (dst.getD 0) (.mkSlice a b c e f)) (kOps Γ r dd st.fr dst K) := opsK_step (by simp)
@[simp] theorem opsK_slStr {Γ : Gam} {st : St} {K : St → Prop} {dst : Option Nat} {r : List SO} {dd : List (List Nat)} {a b c} : opsK Γ (⟨dst, .slStr a b c, none⟩ :: r) dd st K = gO (aop Γ st.fr st.hp (dst.getD 0) (.slStr a b c)) (kOps Γ r dd st.fr dst K) := opsK_step (by simp)
@[simp] theorem opsK_slSl {Γ : Gam} {st : St} {K : St → Prop} {dst : Option Nat} {r : List SO} {dd : List (List Nat)} {a b c e} : opsK Γ (⟨dst, .slSl a b c e, none⟩ :: r) dd st K = gO (aop Γ st.fr st.hp (dst.getD 0) (.slSl a b c e)) (kOps Γ r dd st.fr dst K) := opsK_step (by simp)
@[simp] theorem opsK_fAddr {Γ : Gam} {st : St} {K : St → Prop} {dst : Option Nat} {r : List SO} {dd : List (List Nat)} {a b} : opsK Γ (⟨dst, .fAddr a b, none⟩ :: r) dd st K = gO (aop Γ st.fr st.hp (dst.getD 0) (.fAddr a b)) (kOps Γ r dd st.fr dst K) := opsK_step (by simp)
@[simp] theorem opsK_field {Γ : Gam} {st : St} {K : St → Prop} {dst : Option Nat} {r : List SO} {dd : List (List Nat)} {a b c} : opsK Γ (⟨dst, .field a b c, none⟩ :: r) dd st K = gO (aop Γ st.fr st.hp (dst.getD 0) (.field a b c)) (kOps Γ r dd st.fr dst K) := opsK_step (by simp)
@[simp] theorem opsK_iAddr {Γ : Gam} {st : St} {K : St → Prop} {dst : Option Nat} {r : List SO} {dd : List (List Nat)} {a b c} : opsK Γ (⟨dst, .iAddr a b c, none⟩ :: r) dd st K = gO (aop Γ st.fr st.hp (dst.getD 0) (.iAddr a b c)) (kOps Γ r dd st.fr dst K) := opsK_step (by simp)
@[simp] theorem opsK_iAddrA {Γ : Gam} {st : St} {K : St → Prop} {dst : Option Nat} {r : List SO} {dd : List (List Nat)} {a b c e} : opsK Γ (⟨dst, .iAddrA a b c e, none⟩ :: r) dd st K = gO (aop Γ st.fr st.hp (dst.getD 0) (.iAddrA a b c e)) (kOps Γ r dd st.fr dst K) := opsK_step (by simp)
@[simp] theorem opsK_iStr {Γ : Gam} {st : St} {K : St → Prop} {dst : Option Nat} {r : List SO} {dd : List (List Nat)} {a b} : opsK Γ (⟨dst, .iStr a b, none⟩ :: r) dd st K = gO (aop Γ st.fr st.hp (dst.getD 0) (.iStr a b)) (kOps Γ r dd st.fr dst K) := opsK_step (by simp)
@[simp] theorem opsK_iArr {Γ : Gam} {st : St} {K : St → Prop} {dst : Option Nat} {r : List SO} {dd : List (List Nat)} {a b c e f} : opsK Γ (⟨dst, .iArr a b c e f, none⟩ :: r) dd st K = gO (aop Γ st.fr st.hp (dst.getD 0) (.iArr a b c e f)) (kOps Γ r dd st.fr dst K) := opsK_step (by simp)
@[simp] theorem opsK_look {Γ : Gam} {st : St} {K : St → Prop} {dst : Option Nat} {r : List SO} {dd : List (List Nat)} {a b c e} : opsK Γ (⟨dst, .look a b c e, none⟩ :: r) dd st K = gO (aop Γ st.fr st.hp (dst.getD 0) (.look a b c e)) (kOps Γ r dd st.fr dst K) := opsK_step (by simp)
@[simp] theorem opsK_mput {Γ : Gam} {st : St} {K : St → Prop} {dst : Option Nat} {r : List SO} {dd : List (List Nat)} {a b c} : opsK Γ (⟨dst, .mput a b c, none⟩ :: r) dd st K = gO (aop Γ st.fr st.hp (dst.getD 0) (.mput a b c)) (kOps Γ r dd st.fr dst K) := opsK_step (by simp)
@[simp] theorem opsK_rangeS {Γ : Gam} {st : St} {K : St → Prop} {dst : Option Nat} {r : List SO} {dd : List (List Nat)} {a} : opsK Γ (⟨dst, .rangeS a, none⟩ :: r) dd st K = gO (aop Γ st.fr st.hp (dst.getD 0) (.rangeS a)) (kOps Γ r dd st.fr dst K) := opsK_step (by simp)
@[simp] theorem opsK_extr {Γ : Gam} {st : St} {K : St → Prop} {dst : Option Nat} {r : List SO} {dd : List (List Nat)} {a b} : opsK Γ (⟨dst, .extr a b, none⟩ :: r) dd st K = gO (aop Γ st.fr st.hp (dst.getD 0) (.extr a b)) (kOps Γ r dd st.fr dst K) := opsK_step (by simp)
@[simp] theorem opsK_assert {Γ : Gam} {st : St} {K : St → Prop} {dst : Option Nat} {r : List SO} {dd : List (List Nat)} {a b c e} : opsK Γ (⟨dst, .assert a b c e, none⟩ :: r) dd st K = gO (aop Γ st.fr st.hp (dst.getD 0) (.assert a b c e)) (kOps Γ r dd st.fr dst K) := opsK_step (by simp)
@[simp] theorem opsK_len {Γ : Gam} {st : St} {K : St → Prop} {dst : Option Nat} {r : List SO} {dd : List (List Nat)} {a b} : opsK Γ (⟨dst, .len a b, none⟩ :: r) dd st K = gO (aop Γ st.fr st.hp (dst.getD 0) (.len a b)) (kOps Γ r dd st.fr dst K) := opsK_step (by simp)
@[simp] theorem opsK_app {Γ : Gam} {st : St} {K : St → Prop} {dst : Option Nat} {r : List SO} {dd : List (List Nat)} {a b c e} : opsK Γ (⟨dst, .app a b c e, none⟩ :: r) dd st K = gO (aop Γ st.fr st.hp (dst.getD 0) (.app a b c e)) (kOps Γ r dd st.fr dst K) := opsK_step (by simp)
@[simp] theorem opsK_call {Γ : Gam} {st : St} {K : St → Prop} {dst : Option Nat} {r : List SO} {dd : List (List Nat)} {a b} : opsK Γ (⟨dst, .call a b, none⟩ :: r) dd st K = gO (aop Γ st.fr st.hp (dst.getD 0) (.call a b)) (kOps Γ r dd st.fr dst K) := opsK_step (by simp)
@[simp] theorem opsK_callV {Γ : Gam} {st : St} {K : St → Prop} {dst : Option Nat} {r : List SO} {dd : List (List Nat)} {a b} : opsK Γ (⟨dst, .callV a b, none⟩ :: r) dd st K = gO (aop Γ st.fr st.hp (dst.getD 0) (.callV a b)) (kOps Γ r dd st.fr dst K) := opsK_step (by simp)
@[simp] theorem opsK_inv {Γ : Gam} {st : St} {K : St → Prop} {dst : Option Nat} {r : List SO} {dd : List (List Nat)} {a b c} : opsK Γ (⟨dst, .inv a b c, none⟩ :: r) dd st K = gO (aop Γ st.fr st.hp (dst.getD 0) (.inv a b c)) (kOps Γ r dd st.fr dst K) := opsK_step (by simp)
@[simp] theorem opsK_mkSlF {Γ : Gam} {st : St} {K : St → Prop} {dst : Option Nat} {r : List SO} {dd : List (List Nat)} {a b c e} : opsK Γ (⟨dst, .mkSlF a b c e, none⟩ :: r) dd st K = gO (aop Γ st.fr st.hp (dst.getD 0) (.mkSlF a b c e)) (kOps Γ r dd st.fr dst K) := opsK_step (by simp)
@[simp] theorem opsK_box {Γ : Gam} {st : St} {K : St → Prop} {dst : Option Nat} {r : List SO} {dd : List (List Nat)} {a} : opsK Γ (⟨dst, .box a, none⟩ :: r) dd st K = gO (aop Γ st.fr st.hp (dst.getD 0) (.box a)) (kOps Γ r dd st.fr dst K) := opsK_step (by simp)
@[simp] theorem opsK_boxF {Γ : Gam} {st : St} {K : St → Prop} {dst : Option Nat} {r : List SO} {dd : List (List Nat)} {a} : opsK Γ (⟨dst, .boxF a, none⟩ :: r) dd st K = gO (aop Γ st.fr st.hp (dst.getD 0) (.boxF a)) (kOps Γ r dd st.fr dst K) := opsK_step (by simp)
@[simp] theorem opsK_callS {Γ : Gam} {st : St} {K : St → Prop} {dst : Option Nat} {r : List SO} {dd : List (List Nat)} {a b} : opsK Γ (⟨dst, .callS a b, none⟩ :: r) dd st K = gO (aop Γ st.fr st.hp (dst.getD 0) (.callS a b)) (kOps Γ r dd st.fr dst K) := opsK_step (by simp)
@[simp] theorem opsK_callVS {Γ : Gam} {st : St} {K : St → Prop} {dst : Option Nat} {r : List SO} {dd : List (List Nat)} {a b} : opsK Γ (⟨dst, .callVS a b, none⟩ :: r) dd st K = gO (aop Γ st.fr st.hp (dst.getD 0) (.callVS a b)) (kOps Γ r dd st.fr dst K) := opsK_step (by simp)
@[simp] theorem opsK_invS {Γ : Gam} {st : St} {K : St → Prop} {dst : Option Nat} {r : List SO} {dd : List (List Nat)} {a b c} : opsK Γ (⟨dst, .invS a b c, none⟩ :: r) dd st K = gO (aop Γ st.fr st.hp (dst.getD 0) (.invS a b c)) (kOps Γ r dd st.fr dst K) := opsK_step (by simp)
@[simp] theorem opsK_fl {Γ : Gam} {st : St} {K : St → Prop} {dst : Option Nat} {r : List SO} {dd : List (List Nat)} {a} : opsK Γ (⟨dst, .fl a, none⟩ :: r) dd st K = gO (aop Γ st.fr st.hp (dst.getD 0) (.fl a)) (kOps Γ r dd st.fr dst K) := opsK_step (by simp)
@[simp] theorem opsK_bad {Γ : Gam} {st : St} {K : St → Prop} {dst : Option Nat} {r : List SO} {dd : List (List Nat)} : opsK Γ (⟨dst, .bad , none⟩ :: r) dd st K = gO (aop Γ st.fr st.hp (dst.getD 0) (.bad )) (kOps Γ r dd st.fr dst K) := opsK_step (by simp)

section
@[simp] theorem bounds_nn {len : Nat} : bounds len none none = some (0, len) := by simp [bounds]
@[simp] theorem bounds_sn {len : Nat} {t : IntKind} {n : Int} : bounds len (some (.int t n)) none = if 0 ≤ n ∧ n ≤ len then some (n.toNat, len) else none := by
  simp only [bounds, idx]
  by_cases h : 0 ≤ n
  · simp only [h, if_true, true_and]
    by_cases h2 : n ≤ len
    · rw [if_pos ⟨by omega, Nat.le_refl _⟩, if_pos h2]
    · rw [if_neg (by omega), if_neg h2]
  · simp [h]
@[simp] theorem bounds_ns {len : Nat} {t : IntKind} {n : Int} : bounds len none (some (.int t n)) = if 0 ≤ n ∧ n ≤ len then some (0, n.toNat) else none := by
  simp only [bounds, idx]
  by_cases h : 0 ≤ n
  · simp only [h, if_true, true_and]
    by_cases h2 : n ≤ len
    · rw [if_pos ⟨by omega, by omega⟩, if_pos h2]
    · rw [if_neg (by omega), if_neg h2]
  · simp [h]
@[simp] theorem bounds_ss {len : Nat} {t t' : IntKind} {l n : Int} : bounds len (some (.int t l)) (some (.int t' n)) = if 0 ≤ l ∧ l ≤ n ∧ n ≤ len then some (l.toNat, n.toNat) else none := by
  simp only [bounds, idx]
  by_cases h : 0 ≤ n
  · by_cases h1 : 0 ≤ l
    · simp only [h, h1, if_true, true_and]
      by_cases h2 : l ≤ n ∧ n ≤ len
      · rw [if_pos ⟨by omega, by omega⟩, if_pos h2]
      · rw [if_neg (by omega), if_neg h2]
    · simp [h, h1]
  · simp only [h, if_false]
    rw [if_neg (by omega)]
@[simp] theorem map_if1 {α β : Type} {f : α → β} {c : Prop} [Decidable c] {o : Option α} : (if c then o else none).map f = if c then o.map f else none := by split <;> rfl
@[simp] theorem map_if2 {α β : Type} {f : α → β} {c : Prop} [Decidable c] {o : Option α} : (if c then none else o).map f = if c then none else o.map f := by split <;> rfl
@[simp] theorem bind_if1 {α β : Type} {f : α → Option β} {c : Prop} [Decidable c] {o : Option α} : (if c then o else none).bind f = if c then o.bind f else none := by split <;> rfl
@[simp] theorem bind_if2 {α β : Type} {f : α → Option β} {c : Prop} [Decidable c] {o : Option α} : (if c then none else o).bind f = if c then none else o.bind f := by split <;> rfl
end

section
@[simp] theorem atom_int {k n} : atom (.int k n) = true := rfl
@[simp] theorem atom_str {s} : atom (.str s) = true := rfl
@[simp] theorem atom_bool {b} : atom (.bool b) = true := rfl
@[simp] theorem atom_nilI : atom (.nilI ) = true := rfl
@[simp] theorem atom_nilP : atom (.nilP ) = true := rfl
@[simp] theorem atom_nilF : atom (.nilF ) = true := rfl
@[simp] theorem atom_nilM : atom (.nilM ) = true := rfl
@[simp] theorem atom_nilS : atom (.nilS ) = true := rfl
@[simp] theorem atom_sl {e xs} : atom (.sl e xs) = true := rfl
@[simp] theorem atom_ptr {cs} : atom (.ptr cs) = true := rfl
@[simp] theorem atom_bx {cs} : atom (.bx cs) = true := rfl
@[simp] theorem atom_ifc {t v} : atom (.ifc t v) = true := rfl
@[simp] theorem atom_fn {f c} : atom (.fn f c) = true := rfl
@[simp] theorem atom_mp {es} : atom (.mp es) = true := rfl
@[simp] theorem atom_ref {a b} : atom (.ref a b) = true := rfl
@[simp] theorem atom_msl {a b c e} : atom (.msl a b c e) = true := rfl
@[simp] theorem atom_mref {a} : atom (.mref a) = true := rfl
@[simp] theorem atom_agg {cs} : atom (.agg cs) = false := rfl
@[simp] theorem atom_tup {cs} : atom (.tup cs) = false := rfl
@[simp] theorem atom_junk : atom (.junk ) = false := rfl
end

/-- A call that sees objects, by what its contract answers. -/
theorem acallS_of {Γ : Gam} {hp : List (Nat × AObj)} {d f : Nat} {args : List AV} {ids : List Nat} {os : List (Nat × AObj)} {q : AV × List (Nat × AObj)} {out : Out} (h1 : reach hp 200 (refsL args) [] = ids) (h2 : pickH hp ids = some os) (h3 : inIds ids (refsL args) = true) (h4 : closedH ids os = true)
    (h5 : Γ.st f (mapIdL (idxN ids) args) (mapH (idxN ids) os) = some q) (h6 : backS hp d ids q = some out) : acallS Γ hp d f args = some out := by
  subst h1
  simp only [acallS, h2, h3, h4, h5, Bool.and_self, if_true, h6]

attribute [simp] pureV pureVL readsOf argsOf opdS flatIn
attribute [simp] dHd dTl rmF resOk rvV runsS up6 oldK ownN lowN exportS mapId mapIdL refs refsL mapO refsO mapH pickH restH idxN nameN keysH killHs deadN freshN inIds closedH backS gstep gsteps frzG frzF frzO frzH noRefO swapN mapF snapW snapWL elems
attribute [simp] amin
attribute [simp] runs alen idx cut isNilA ments aload loadC slCells ycount isSl aapp aappN aappM one1 hlk hset killH killO atoms cells fillA aun leafEq leafEqL flat flatL ev killFs putS keep dropS norm abin binI binS initF retV export_ hasRef hasRefL killF kill killL ptrOk bytesA runesA slA addrA elemA assertA
end Wax

/- Functions as the abstract machine has them. -/
namespace Wax
open Go (IntKind)

/- spec.dBlank -/
def c_spec_dBlank : SFn := ⟨1,
    (.seq
      (.region [
        ⟨some 2, .mv (.k (.bool false)), none⟩] [0] [] [])
      (.seq
        (.region [
          ⟨some 3, .mv (.t 0), none⟩,
          ⟨some 4, .bin .eql (.t 3) (.k (.int .u8 32)), none⟩,
          ⟨some 5, .mv (.t 4), none⟩,
          ⟨some 6, .mv (.t 0), some (5, false)⟩,
          ⟨some 7, .bin .eql (.t 6) (.k (.int .u8 9)), some (5, false)⟩,
          ⟨some 8, .pick (.t 5) (.k (.bool true)) (.t 7), none⟩,
          ⟨some 9, .mv (.t 8), none⟩,
          ⟨some 10, .mv (.t 0), some (9, false)⟩,
          ⟨some 11, .bin .eql (.t 10) (.k (.int .u8 13)), some (9, false)⟩,
          ⟨some 12, .pick (.t 9) (.k (.bool true)) (.t 11), none⟩,
          ⟨some 13, .mv (.t 12), none⟩,
          ⟨some 14, .mv (.t 0), some (13, false)⟩,
          ⟨some 15, .bin .eql (.t 14) (.k (.int .u8 10)), some (13, false)⟩,
          ⟨some 16, .pick (.t 13) (.k (.bool true)) (.t 15), none⟩,
          ⟨some 2, .mv (.t 16), none⟩] [2] [] [[], [3], [4], [], [6], [5, 7], [8], [], [10], [9, 11], [12], [0], [14], [13, 15]])
        .ret)),
  [.t 2]⟩

def l_spec_dBlank : Lay := { rg := [(0, ([0], [])), (1, ([2], []))], dd := [(1, [[], [3], [4], [], [6], [5, 7], [8], [], [10], [9, 11], [12], [0], [14], [13, 15]])] }

/- spec.dCut -/
def c_spec_dCut : SFn := ⟨2,
    (.seq
      (.region [
        ⟨some 4, .mv (.k (.str [])), none⟩,
        ⟨some 5, .mv (.k (.str [])), none⟩,
        ⟨some 6, .mv (.k (.bool false)), none⟩] [0, 1] [] [[4], [5]])
      (.seq
        (.seq
          (.region [
            ⟨some 7, .mv (.k (.int .i64 0)), none⟩] [0, 1, 7] [] [])
          (.block 0
            (.loop [0, 1, 7]
              (.seq
                (.seq
                  (.region [
                    ⟨some 8, .mv (.t 7), none⟩,
                    ⟨some 9, .mv (.t 0), none⟩,
                    ⟨some 10, .len 0 (.t 9), none⟩,
                    ⟨some 11, .bin .lss (.t 8) (.t 10), none⟩] [0, 1, 7, 11] [] [[], [], [9]])
                  (.cond (.t 11)
                    .skip
                    (.exit 0)))
                (.seq
                  (.block 1
                    (.seq
                      (.region [
                        ⟨some 14, .mv (.t 0), none⟩,
                        ⟨some 15, .mv (.t 7), none⟩,
                        ⟨some 16, .iStr (.t 14) (.t 15), none⟩,
                        ⟨some 17, .mv (.t 1), none⟩,
                        ⟨some 18, .bin .eql (.t 16) (.t 17), none⟩] [0, 1, 7, 18] [] [[], [], [14, 15]])
                      (.cond (.t 18)
                        (.seq
                          (.region [
                            ⟨some 19, .mv (.t 0), none⟩,
                            ⟨some 20, .mv (.t 7), none⟩,
                            ⟨some 21, .slStr (.t 19) none (some (.t 20)), none⟩,
                            ⟨some 22, .mv (.t 0), none⟩,
                            ⟨some 23, .mv (.t 7), none⟩,
                            ⟨some 24, .bin .add (.t 23) (.k (.int .i64 1)), none⟩,
                            ⟨some 25, .slStr (.t 22) (some (.t 24)) none, none⟩,
                            ⟨some 4, .mv (.t 21), none⟩,
                            ⟨some 5, .mv (.t 25), none⟩,
                            ⟨some 6, .mv (.k (.bool true)), none⟩] [4, 5, 6] [] [])
                          .ret)
                        .skip)))
                  (.region [
                    ⟨some 12, .mv (.t 7), none⟩,
                    ⟨some 13, .bin .add (.t 12) (.k (.int .i64 1)), none⟩,
                    ⟨some 7, .mv (.t 13), none⟩] [0, 1, 7] [] [[], [12]]))))))
        (.seq
          (.region [
            ⟨some 26, .mv (.t 0), none⟩,
            ⟨some 4, .mv (.t 26), none⟩,
            ⟨some 5, .mv (.k (.str [])), none⟩,
            ⟨some 6, .mv (.k (.bool false)), none⟩] [4, 5, 6] [] [[0], [26]])
          .ret))),
  [.t 4, .t 5, .t 6]⟩

def l_spec_dCut : Lay := { rg := [(0, ([0, 1], [])), (1, ([0, 1, 7], [])), (2, ([0, 1, 7, 11], [])), (3, ([0, 1, 7], [])), (4, ([0, 1, 7, 18], [])), (5, ([4, 5, 6], [])), (6, ([4, 5, 6], [])), (1000002, ([0, 1, 7], []))], dd := [(0, [[4], [5]]), (2, [[], [], [9]]), (3, [[], [12]]), (4, [[], [], [14, 15]]), (6, [[0], [26]])] }

/- spec.DTrim -/
def b_spec_DTrim_1 : SCode :=
  (.seq
    (.seq
      (.region [
        ⟨some 3, .mv (.t 0), none⟩,
        ⟨some 4, .bin .neq (.t 3) (.k (.str [])), none⟩,
        ⟨some 5, .mv (.t 4), none⟩,
        ⟨some 6, .mv (.t 0), some (5, true)⟩,
        ⟨some 7, .iStr (.t 6) (.k (.int .i64 0)), some (5, true)⟩,
        ⟨some 8, .call 1 [(.t 7)], some (5, true)⟩,
        ⟨some 9, .pick (.t 5) (.t 8) (.k (.bool false)), none⟩] [0, 9] [] [[], [3], [4], [], [6], [7]])
      (.cond (.t 9)
        .skip
        (.exit 0)))
    (.block 1
      (.region [
        ⟨some 10, .mv (.t 0), none⟩,
        ⟨some 11, .slStr (.t 10) (some (.k (.int .i64 1))) none, none⟩,
        ⟨some 0, .mv (.t 11), none⟩] [0] [] [[], [10]])))

def b_spec_DTrim_2 : SCode :=
  (.seq
    (.seq
      (.region [
        ⟨some 12, .mv (.t 0), none⟩,
        ⟨some 13, .bin .neq (.t 12) (.k (.str [])), none⟩,
        ⟨some 14, .mv (.t 13), none⟩,
        ⟨some 15, .mv (.t 0), some (14, true)⟩,
        ⟨some 16, .mv (.t 0), some (14, true)⟩,
        ⟨some 17, .len 0 (.t 16), some (14, true)⟩,
        ⟨some 18, .bin .sub (.t 17) (.k (.int .i64 1)), some (14, true)⟩,
        ⟨some 19, .iStr (.t 15) (.t 18), some (14, true)⟩,
        ⟨some 20, .call 1 [(.t 19)], some (14, true)⟩,
        ⟨some 21, .pick (.t 14) (.t 20) (.k (.bool false)), none⟩] [0, 21] [] [[], [12], [13], [], [], [16], [17], [15, 18], [19]])
      (.cond (.t 21)
        .skip
        (.exit 2)))
    (.block 3
      (.region [
        ⟨some 22, .mv (.t 0), none⟩,
        ⟨some 23, .mv (.t 0), none⟩,
        ⟨some 24, .len 0 (.t 23), none⟩,
        ⟨some 25, .bin .sub (.t 24) (.k (.int .i64 1)), none⟩,
        ⟨some 26, .slStr (.t 22) none (some (.t 25)), none⟩,
        ⟨some 0, .mv (.t 26), none⟩] [0] [] [[], [], [23], [24], [22, 25]])))

def t_spec_DTrim_3 : SCode :=
  (.seq
    (.region [
      ⟨some 27, .mv (.t 0), none⟩,
      ⟨some 2, .mv (.t 27), none⟩] [2] [] [[0]])
    .ret)

def t_spec_DTrim_4 : SCode :=
  (.seq
    (.block 2
      (.loop [0]
        b_spec_DTrim_2))
    t_spec_DTrim_3)

def c_spec_DTrim : SFn := ⟨1,
    (.seq
      (.region [
        ⟨some 2, .mv (.k (.str [])), none⟩] [0] [] [])
      (.seq
        (.block 0
          (.loop [0]
            b_spec_DTrim_1))
        t_spec_DTrim_4)),
  [.t 2]⟩

def l_spec_DTrim : Lay := { rg := [(0, ([0], [])), (1, ([0, 9], [])), (2, ([0], [])), (3, ([0, 21], [])), (4, ([0], [])), (5, ([2], [])), (1000001, ([0], [])), (1000003, ([0], []))], dd := [(1, [[], [3], [4], [], [6], [7]]), (2, [[], [10]]), (3, [[], [12], [13], [], [], [16], [17], [15, 18], [19]]), (4, [[], [], [23], [24], [22, 25]]), (5, [[0]])] }

/- spec.DLower -/
def c_spec_DLower : SFn := ⟨1,
    (.seq
      (.region [
        ⟨some 2, .mv (.k (.str [])), none⟩] [0] [] [])
      (.seq
        (.region [
          ⟨some 5, .mv (.t 0), none⟩,
          ⟨some 6, .cStrBytes (.t 5), none⟩,
          ⟨some 3, .mv (.t 6), none⟩] [3] [] [[0], [5]])
        (.seq
          (.seq
            (.region [
              ⟨some 4, .mv (.k (.int .i64 0)), none⟩] [3, 4] [] [])
            (.block 0
              (.loop [3, 4]
                (.seq
                  (.seq
                    (.region [
                      ⟨some 7, .mv (.t 4), none⟩,
                      ⟨some 8, .mv (.t 3), none⟩,
                      ⟨some 9, .len 1 (.t 8), none⟩,
                      ⟨some 10, .bin .lss (.t 7) (.t 9), none⟩] [3, 4, 10] [] [[], [], [8]])
                    (.cond (.t 10)
                      .skip
                      (.exit 0)))
                  (.seq
                    (.block 1
                      (.seq
                        (.region [
                          ⟨some 13, .mv (.t 3), none⟩,
                          ⟨some 14, .mv (.t 4), none⟩,
                          ⟨some 15, .iAddr 1 (.t 13) (.t 14), none⟩,
                          ⟨some 16, .load none (.t 15), none⟩,
                          ⟨some 17, .bin .geq (.t 16) (.k (.int .u8 65)), none⟩,
                          ⟨some 18, .mv (.t 17), none⟩,
                          ⟨some 19, .mv (.t 3), some (18, true)⟩,
                          ⟨some 20, .mv (.t 4), some (18, true)⟩,
                          ⟨some 21, .iAddr 1 (.t 19) (.t 20), some (18, true)⟩,
                          ⟨some 22, .load none (.t 21), some (18, true)⟩,
                          ⟨some 23, .bin .leq (.t 22) (.k (.int .u8 90)), some (18, true)⟩,
                          ⟨some 24, .pick (.t 18) (.t 23) (.k (.bool false)), none⟩] [3, 4, 24] [] [[], [], [13, 14], [15], [16], [17], [], [], [19, 20], [21], [22]])
                        (.cond (.t 24)
                          (.region [
                            ⟨some 25, .mv (.t 3), none⟩,
                            ⟨some 26, .mv (.t 4), none⟩,
                            ⟨some 27, .mv (.t 3), none⟩,
                            ⟨some 28, .mv (.t 4), none⟩,
                            ⟨some 29, .iAddr 1 (.t 27) (.t 28), none⟩,
                            ⟨some 30, .load none (.t 29), none⟩,
                            ⟨some 31, .bin .add (.t 30) (.k (.int .u8 32)), none⟩,
                            ⟨some 32, .iAddr 1 (.t 25) (.t 26), none⟩,
                            ⟨none, .store 1 (.t 32) (.t 31), none⟩] [3, 4] [] [[], [], [], [], [27, 28], [29], [30], [25, 26]])
                          .skip)))
                    (.region [
                      ⟨some 11, .mv (.t 4), none⟩,
                      ⟨some 12, .bin .add (.t 11) (.k (.int .i64 1)), none⟩,
                      ⟨some 4, .mv (.t 12), none⟩] [3, 4] [] [[], [11]]))))))
          (.seq
            (.region [
              ⟨some 33, .mv (.t 3), none⟩,
              ⟨some 34, .cBytesStr (.t 33), none⟩,
              ⟨some 2, .mv (.t 34), none⟩] [2] [6] [[3], [33]])
            .ret)))),
  [.t 2]⟩

def l_spec_DLower : Lay := { rg := [(0, ([0], [])), (1, ([3], [])), (2, ([3, 4], [])), (3, ([3, 4, 10], [])), (4, ([3, 4], [])), (5, ([3, 4, 24], [])), (6, ([3, 4], [])), (7, ([2], [6])), (1000003, ([3, 4], []))], dd := [(1, [[0], [5]]), (3, [[], [], [8]]), (4, [[], [11]]), (5, [[], [], [13, 14], [15], [16], [17], [], [], [19, 20], [21], [22]]), (6, [[], [], [], [], [27, 28], [29], [30], [25, 26]]), (7, [[3], [33]])] }

/- spec.DStrip -/
def c_spec_DStrip : SFn := ⟨1,
    (.seq
      (.region [
        ⟨some 2, .mv (.k (.str [])), none⟩] [0] [] [])
      (.seq
        (.region [
          ⟨some 3, .mv (.k .nilS), none⟩] [0, 3] [] [])
        (.seq
          (.seq
            (.region [
              ⟨some 4, .mv (.k (.int .i64 0)), none⟩] [0, 3, 4] [] [])
            (.block 0
              (.loop [0, 3, 4]
                (.seq
                  (.seq
                    (.region [
                      ⟨some 5, .mv (.t 4), none⟩,
                      ⟨some 6, .mv (.t 0), none⟩,
                      ⟨some 7, .len 0 (.t 6), none⟩,
                      ⟨some 8, .bin .lss (.t 5) (.t 7), none⟩] [0, 3, 4, 8] [] [[], [], [6]])
                    (.cond (.t 8)
                      .skip
                      (.exit 0)))
                  (.seq
                    (.block 1
                      (.seq
                        (.region [
                          ⟨some 11, .mv (.t 0), none⟩,
                          ⟨some 12, .mv (.t 4), none⟩,
                          ⟨some 13, .iStr (.t 11) (.t 12), none⟩,
                          ⟨some 14, .call 1 [(.t 13)], none⟩,
                          ⟨some 15, .un .not (.t 14), none⟩] [0, 3, 4, 15] [] [[], [], [11, 12], [13]])
                        (.cond (.t 15)
                          (.region [
                            ⟨some 16, .mv (.t 3), none⟩,
                            ⟨some 17, .mv (.t 0), none⟩,
                            ⟨some 18, .mv (.t 4), none⟩,
                            ⟨some 19, .iStr (.t 17) (.t 18), none⟩,
                            ⟨some 20, .mkSl 1 1 [(.int .u8 0)] [(0, (.t 19))], none⟩,
                            ⟨some 21, .app 1 1 (.t 16) (.t 20), none⟩,
                            ⟨some 3, .mv (.t 21), none⟩] [0, 3, 4] [20] [[], [], [], [17, 18], [19], [16, 20]])
                          .skip)))
                    (.region [
                      ⟨some 9, .mv (.t 4), none⟩,
                      ⟨some 10, .bin .add (.t 9) (.k (.int .i64 1)), none⟩,
                      ⟨some 4, .mv (.t 10), none⟩] [0, 3, 4] [] [[], [9]]))))))
          (.seq
            (.region [
              ⟨some 22, .mv (.t 3), none⟩,
              ⟨some 23, .cBytesStr (.t 22), none⟩,
              ⟨some 2, .mv (.t 23), none⟩] [2] [21] [[3], [22]])
            .ret)))),
  [.t 2]⟩

def l_spec_DStrip : Lay := { rg := [(0, ([0], [])), (1, ([0, 3], [])), (2, ([0, 3, 4], [])), (3, ([0, 3, 4, 8], [])), (4, ([0, 3, 4], [])), (5, ([0, 3, 4, 15], [])), (6, ([0, 3, 4], [20])), (7, ([2], [21])), (1000003, ([0, 3, 4], []))], dd := [(3, [[], [], [6]]), (4, [[], [9]]), (5, [[], [], [11, 12], [13]]), (6, [[], [], [], [17, 18], [19], [16, 20]]), (7, [[3], [22]])] }

/- spec.dJoined -/
def c_spec_dJoined : SFn := ⟨1,
    (.seq
      (.region [
        ⟨some 2, .mv (.k (.str [])), none⟩] [0] [] [])
      (.seq
        (.region [
          ⟨some 3, .mv (.k .nilS), none⟩] [0, 3] [] [])
        (.seq
          (.region [
            ⟨some 4, .mv (.k (.bool false)), none⟩] [0, 3, 4] [] [])
          (.seq
            (.seq
              (.region [
                ⟨some 5, .mv (.k (.int .i64 0)), none⟩] [0, 3, 4, 5] [] [])
              (.block 0
                (.loop [0, 3, 4, 5]
                  (.seq
                    (.seq
                      (.region [
                        ⟨some 6, .mv (.t 5), none⟩,
                        ⟨some 7, .mv (.t 0), none⟩,
                        ⟨some 8, .len 0 (.t 7), none⟩,
                        ⟨some 9, .bin .lss (.t 6) (.t 8), none⟩] [0, 3, 4, 5, 9] [] [[], [], [7]])
                      (.cond (.t 9)
                        .skip
                        (.exit 0)))
                    (.seq
                      (.block 1
                        (.seq
                          (.seq
                            (.region [
                              ⟨some 12, .mv (.t 0), none⟩,
                              ⟨some 13, .mv (.t 5), none⟩,
                              ⟨some 14, .iStr (.t 12) (.t 13), none⟩,
                              ⟨some 15, .call 1 [(.t 14)], none⟩] [0, 3, 4, 5, 15] [] [[], [], [12, 13]])
                            (.cond (.t 15)
                              (.seq
                                (.region [
                                  ⟨some 16, .mv (.t 3), none⟩,
                                  ⟨some 17, .len 1 (.t 16), none⟩,
                                  ⟨some 18, .bin .gtr (.t 17) (.k (.int .i64 0)), none⟩,
                                  ⟨some 4, .mv (.t 18), none⟩] [0, 3, 4, 5] [] [[], [16], [17]])
                                (.exit 1))
                              .skip))
                          (.seq
                            (.seq
                              (.region [
                                ⟨some 19, .mv (.t 4), none⟩] [0, 3, 4, 5, 19] [] [])
                              (.cond (.t 19)
                                (.seq
                                  (.region [
                                    ⟨some 20, .mv (.t 3), none⟩,
                                    ⟨some 21, .mkSl 1 1 [(.int .u8 0)] [(0, (.k (.int .u8 32)))], none⟩,
                                    ⟨some 22, .app 1 1 (.t 20) (.t 21), none⟩,
                                    ⟨some 3, .mv (.t 22), none⟩] [0, 3, 5] [21] [[], [], [20, 21]])
                                  (.region [
                                    ⟨some 4, .mv (.k (.bool false)), none⟩] [0, 3, 4, 5] [] []))
                                .skip))
                            (.region [
                              ⟨some 23, .mv (.t 3), none⟩,
                              ⟨some 24, .mv (.t 0), none⟩,
                              ⟨some 25, .mv (.t 5), none⟩,
                              ⟨some 26, .iStr (.t 24) (.t 25), none⟩,
                              ⟨some 27, .mkSl 1 1 [(.int .u8 0)] [(0, (.t 26))], none⟩,
                              ⟨some 28, .app 1 1 (.t 23) (.t 27), none⟩,
                              ⟨some 3, .mv (.t 28), none⟩] [0, 3, 4, 5] [27] [[], [], [], [24, 25], [26], [23, 27]]))))
                      (.region [
                        ⟨some 10, .mv (.t 5), none⟩,
                        ⟨some 11, .bin .add (.t 10) (.k (.int .i64 1)), none⟩,
                        ⟨some 5, .mv (.t 11), none⟩] [0, 3, 4, 5] [] [[], [10]]))))))
            (.seq
              (.region [
                ⟨some 29, .mv (.t 3), none⟩,
                ⟨some 30, .cBytesStr (.t 29), none⟩,
                ⟨some 2, .mv (.t 30), none⟩] [2] [22, 28] [[3], [29]])
              .ret))))),
  [.t 2]⟩

def l_spec_dJoined : Lay := { rg := [(0, ([0], [])), (1, ([0, 3], [])), (2, ([0, 3, 4], [])), (3, ([0, 3, 4, 5], [])), (4, ([0, 3, 4, 5, 9], [])), (5, ([0, 3, 4, 5], [])), (6, ([0, 3, 4, 5, 15], [])), (7, ([0, 3, 4, 5], [])), (8, ([0, 3, 4, 5, 19], [])), (9, ([0, 3, 5], [21])), (10, ([0, 3, 4, 5], [])), (11, ([0, 3, 4, 5], [27])), (12, ([2], [22, 28])), (1000004, ([0, 3, 4, 5], []))], dd := [(4, [[], [], [7]]), (5, [[], [10]]), (6, [[], [], [12, 13]]), (7, [[], [16], [17]]), (9, [[], [], [20, 21]]), (11, [[], [], [], [24, 25], [26], [23, 27]]), (12, [[3], [29]])] }

/- spec.DName -/
def c_spec_DName : SFn := ⟨1,
    (.seq
      (.region [
        ⟨some 2, .mv (.k (.str [])), none⟩] [0] [] [])
      (.seq
        (.region [
          ⟨some 7, .mv (.t 0), none⟩,
          ⟨some 8, .call 2 [(.t 7), (.k (.int .u8 58))], none⟩,
          ⟨some 6, .mv (.t 8), none⟩,
          ⟨some 9, .extr (.t 6) 0, none⟩,
          ⟨some 10, .extr (.t 6) 1, none⟩,
          ⟨some 11, .extr (.t 6) 2, none⟩,
          ⟨some 3, .mv (.t 9), none⟩,
          ⟨some 4, .mv (.t 10), none⟩,
          ⟨some 5, .mv (.t 11), none⟩] [3] [] [[0], [7], [8], [], [], [6], [9], [4, 10]])
        (.seq
          (.region [
            ⟨some 12, .mv (.t 3), none⟩,
            ⟨some 13, .call 3 [(.t 12)], none⟩,
            ⟨some 2, .mv (.t 13), none⟩] [2] [] [[3], [12]])
          .ret))),
  [.t 2]⟩

def l_spec_DName : Lay := { rg := [(0, ([0], [])), (1, ([3], [])), (2, ([2], []))], dd := [(1, [[0], [7], [8], [], [], [6], [9], [4, 10]]), (2, [[3], [12]])] }

/- spec.DFieldOf -/
def c_spec_DFieldOf : SFn := ⟨2,
    (.seq
      (.region [
        ⟨some 4, .mv (.k (.str [])), none⟩] [0, 1] [] [])
      (.seq
        (.seq
          (.region [
            ⟨some 8, .mv (.t 0), none⟩,
            ⟨some 9, .bin .eql (.t 8) (.k (.str [115, 105, 109, 112, 108, 101])), none⟩] [1, 9] [] [[0]])
          (.cond (.t 9)
            (.seq
              (.region [
                ⟨some 10, .mv (.t 1), none⟩,
                ⟨some 4, .mv (.t 10), none⟩] [4] [] [[1]])
              .ret)
            .skip))
        (.seq
          (.region [
            ⟨some 12, .mv (.t 1), none⟩,
            ⟨some 13, .call 2 [(.t 12), (.k (.int .u8 58))], none⟩,
            ⟨some 11, .mv (.t 13), none⟩,
            ⟨some 14, .extr (.t 11) 0, none⟩,
            ⟨some 15, .extr (.t 11) 1, none⟩,
            ⟨some 16, .extr (.t 11) 2, none⟩,
            ⟨some 5, .mv (.t 14), none⟩,
            ⟨some 6, .mv (.t 15), none⟩,
            ⟨some 7, .mv (.t 16), none⟩] [1, 5, 6, 7] [] [[], [12], [13], [], [], [11], [14], [15]])
          (.seq
            (.seq
              (.region [
                ⟨some 17, .mv (.t 7), none⟩,
                ⟨some 18, .un .not (.t 17), none⟩] [1, 5, 6, 18] [] [[7]])
              (.cond (.t 18)
                (.seq
                  (.region [
                    ⟨some 19, .mv (.t 1), none⟩,
                    ⟨some 20, .call 4 [(.t 19)], none⟩,
                    ⟨some 21, .call 3 [(.t 20)], none⟩,
                    ⟨some 22, .bin .add (.t 21) (.k (.str [58, 13, 10])), none⟩,
                    ⟨some 4, .mv (.t 22), none⟩] [4] [] [[1], [19], [20], [21]])
                  .ret)
                .skip))
            (.seq
              (.region [
                ⟨some 23, .mv (.t 5), none⟩,
                ⟨some 24, .call 4 [(.t 23)], none⟩,
                ⟨some 25, .call 3 [(.t 24)], none⟩,
                ⟨some 26, .bin .add (.t 25) (.k (.str [58])), none⟩,
                ⟨some 27, .mv (.t 6), none⟩,
                ⟨some 28, .call 5 [(.t 27)], none⟩,
                ⟨some 29, .bin .add (.t 26) (.t 28), none⟩,
                ⟨some 30, .bin .add (.t 29) (.k (.str [13, 10])), none⟩,
                ⟨some 4, .mv (.t 30), none⟩] [4] [] [[5], [23], [24], [25], [6], [27], [26, 28], [29]])
              .ret))))),
  [.t 4]⟩

def l_spec_DFieldOf : Lay := { rg := [(0, ([0, 1], [])), (1, ([1, 9], [])), (2, ([4], [])), (3, ([1, 5, 6, 7], [])), (4, ([1, 5, 6, 18], [])), (5, ([4], [])), (6, ([4], []))], dd := [(1, [[0]]), (2, [[1]]), (3, [[], [12], [13], [], [], [11], [14], [15]]), (4, [[7]]), (5, [[1], [19], [20], [21]]), (6, [[5], [23], [24], [25], [6], [27], [26, 28], [29]])] }

/- spec.DPlain -/
def c_spec_DPlain : SFn := ⟨2,
    (.seq
      (.region [
        ⟨some 4, .mv (.k (.bool false)), none⟩] [0, 1] [] [])
      (.seq
        (.seq
          (.region [
            ⟨some 5, .mv (.k (.int .i64 0)), none⟩] [0, 1, 5] [] [])
          (.block 0
            (.loop [0, 1, 5]
              (.seq
                (.seq
                  (.region [
                    ⟨some 6, .mv (.t 5), none⟩,
                    ⟨some 7, .mv (.t 0), none⟩,
                    ⟨some 8, .len 0 (.t 7), none⟩,
                    ⟨some 9, .bin .lss (.t 6) (.t 8), none⟩] [0, 1, 5, 9] [] [[], [], [7]])
                  (.cond (.t 9)
                    .skip
                    (.exit 0)))
                (.seq
                  (.block 1
                    (.seq
                      (.region [
                        ⟨some 12, .mv (.t 0), none⟩,
                        ⟨some 13, .mv (.t 5), none⟩,
                        ⟨some 14, .iStr (.t 12) (.t 13), none⟩,
                        ⟨some 15, .bin .geq (.t 14) (.k (.int .u8 128)), none⟩,
                        ⟨some 16, .mv (.t 15), none⟩,
                        ⟨some 17, .mv (.t 0), some (16, false)⟩,
                        ⟨some 18, .mv (.t 5), some (16, false)⟩,
                        ⟨some 19, .iStr (.t 17) (.t 18), some (16, false)⟩,
                        ⟨some 20, .bin .eql (.t 19) (.k (.int .u8 11)), some (16, false)⟩,
                        ⟨some 21, .pick (.t 16) (.k (.bool true)) (.t 20), none⟩,
                        ⟨some 22, .mv (.t 21), none⟩,
                        ⟨some 23, .mv (.t 0), some (22, false)⟩,
                        ⟨some 24, .mv (.t 5), some (22, false)⟩,
                        ⟨some 25, .iStr (.t 23) (.t 24), some (22, false)⟩,
                        ⟨some 26, .bin .eql (.t 25) (.k (.int .u8 12)), some (22, false)⟩,
                        ⟨some 27, .pick (.t 22) (.k (.bool true)) (.t 26), none⟩] [0, 1, 5, 27] [] [[], [], [12, 13], [14], [15], [], [], [17, 18], [19], [16, 20], [21], [], [], [23, 24], [25]])
                      (.cond (.t 27)
                        (.seq
                          (.region [
                            ⟨some 4, .mv (.k (.bool false)), none⟩] [4] [] [])
                          .ret)
                        .skip)))
                  (.region [
                    ⟨some 10, .mv (.t 5), none⟩,
                    ⟨some 11, .bin .add (.t 10) (.k (.int .i64 1)), none⟩,
                    ⟨some 5, .mv (.t 11), none⟩] [0, 1, 5] [] [[], [10]]))))))
        (.seq
          (.region [
            ⟨some 28, .mv (.t 0), none⟩,
            ⟨some 29, .len 0 (.t 28), none⟩,
            ⟨some 30, .mv (.t 1), none⟩,
            ⟨some 31, .bin .leq (.t 29) (.t 30), none⟩,
            ⟨some 4, .mv (.t 31), none⟩] [4] [] [[0], [28], [1], [29, 30]])
          .ret))),
  [.t 4]⟩

def l_spec_DPlain : Lay := { rg := [(0, ([0, 1], [])), (1, ([0, 1, 5], [])), (2, ([0, 1, 5, 9], [])), (3, ([0, 1, 5], [])), (4, ([0, 1, 5, 27], [])), (5, ([4], [])), (6, ([4], [])), (1000002, ([0, 1, 5], []))], dd := [(2, [[], [], [7]]), (3, [[], [10]]), (4, [[], [], [12, 13], [14], [15], [], [], [17, 18], [19], [16, 20], [21], [], [], [23, 24], [25]]), (6, [[0], [28], [1], [29, 30]])] }

/- laws.dForm -/
def c_laws_dForm : SFn := ⟨1,
    (.seq
      (.region [
        ⟨some 2, .mv (.k (.bool false)), none⟩] [0] [] [])
      (.seq
        (.region [
          ⟨some 3, .mv (.t 0), none⟩,
          ⟨some 4, .bin .eql (.t 3) (.k (.str [115, 105, 109, 112, 108, 101])), none⟩,
          ⟨some 5, .mv (.t 4), none⟩,
          ⟨some 6, .mv (.t 0), some (5, false)⟩,
          ⟨some 7, .bin .eql (.t 6) (.k (.str [114, 101, 108, 97, 120, 101, 100])), some (5, false)⟩,
          ⟨some 8, .pick (.t 5) (.k (.bool true)) (.t 7), none⟩,
          ⟨some 2, .mv (.t 8), none⟩] [2] [] [[], [3], [4], [0], [6], [5, 7]])
        .ret)),
  [.t 2]⟩

def l_laws_dForm : Lay := { rg := [(0, ([0], [])), (1, ([2], []))], dd := [(1, [[], [3], [4], [0], [6], [5, 7]])] }

/- laws.dShort -/
def c_laws_dShort : SFn := ⟨2,
    (.seq
      (.region [
        ⟨some 4, .mv (.k (.bool false)), none⟩] [0, 1] [] [])
      (.seq
        (.seq
          (.region [
            ⟨some 5, .mv (.k (.int .i64 0)), none⟩] [0, 1, 5] [] [])
          (.block 0
            (.loop [0, 1, 5]
              (.seq
                (.seq
                  (.region [
                    ⟨some 6, .mv (.t 5), none⟩,
                    ⟨some 7, .mv (.t 1), none⟩,
                    ⟨some 8, .len 1 (.t 7), none⟩,
                    ⟨some 9, .bin .lss (.t 6) (.t 8), none⟩] [0, 1, 5, 9] [] [[], [], [7]])
                  (.cond (.t 9)
                    .skip
                    (.exit 0)))
                (.seq
                  (.block 1
                    (.seq
                      (.region [
                        ⟨some 12, .mv (.t 1), none⟩,
                        ⟨some 13, .mv (.t 5), none⟩,
                        ⟨some 14, .iAddr 1 (.t 12) (.t 13), none⟩,
                        ⟨some 15, .load none (.t 14), none⟩,
                        ⟨some 16, .mv (.t 0), none⟩,
                        ⟨some 17, .call 6 [(.t 15), (.t 16)], none⟩,
                        ⟨some 18, .un .not (.t 17), none⟩] [0, 1, 5, 18] [] [[], [], [12, 13], [14], [], [15, 16]])
                      (.cond (.t 18)
                        (.seq
                          (.region [
                            ⟨some 4, .mv (.k (.bool false)), none⟩] [4] [] [])
                          .ret)
                        .skip)))
                  (.region [
                    ⟨some 10, .mv (.t 5), none⟩,
                    ⟨some 11, .bin .add (.t 10) (.k (.int .i64 1)), none⟩,
                    ⟨some 5, .mv (.t 11), none⟩] [0, 1, 5] [] [[], [10]]))))))
        (.seq
          (.region [
            ⟨some 19, .mv (.t 1), none⟩,
            ⟨some 20, .len 1 (.t 19), none⟩,
            ⟨some 21, .bin .leq (.t 20) (.k (.int .i64 200)), none⟩,
            ⟨some 4, .mv (.t 21), none⟩] [4] [] [[1], [19], [20]])
          .ret))),
  [.t 4]⟩

def l_laws_dShort : Lay := { rg := [(0, ([0, 1], [])), (1, ([0, 1, 5], [])), (2, ([0, 1, 5, 9], [])), (3, ([0, 1, 5], [])), (4, ([0, 1, 5, 18], [])), (5, ([4], [])), (6, ([4], [])), (1000002, ([0, 1, 5], []))], dd := [(2, [[], [], [7]]), (3, [[], [10]]), (4, [[], [], [12, 13], [14], [], [15, 16]]), (6, [[1], [19], [20]])] }

/- laws.dAwake -/
def c_laws_dAwake : SFn := ⟨0,
    (.seq
      (.region [
        ⟨some 0, .mv (.k (.bool false)), none⟩] [] [] [])
      (.seq
        (.region [
          ⟨some 1, .call 7 [(.k (.str [97, 58, 98]))], none⟩,
          ⟨some 2, .len 1 (.t 1), none⟩,
          ⟨some 3, .bin .eql (.t 2) (.k (.int .i64 2)), none⟩,
          ⟨some 4, .mv (.t 3), none⟩,
          ⟨some 5, .call 8 [(.k (.str [114, 101, 108, 97, 120, 101, 100])), (.k (.str [65, 58, 32, 66, 13, 10]))], some (4, true)⟩,
          ⟨some 6, .bin .eql (.t 5) (.k (.str [97, 58, 66, 13, 10])), some (4, true)⟩,
          ⟨some 7, .pick (.t 4) (.t 6) (.k (.bool false)), none⟩,
          ⟨some 0, .mv (.t 7), none⟩] [0] [] [[], [1], [2], [3], [], [5], [4, 6]])
        .ret)),
  [.t 0]⟩

def l_laws_dAwake : Lay := { rg := [(0, ([], [])), (1, ([0], []))], dd := [(1, [[], [1], [2], [3], [], [5], [4, 6]])] }

/- laws.FnDCanonFields -/
def c_laws_FnDCanonFields : SFn := ⟨2,
    (.seq
      (.region [
        ⟨some 4, .mv (.k (.bool false)), none⟩] [0, 1] [] [])
      (.seq
        (.seq
          (.region [
            ⟨some 5, .mv (.t 0), none⟩,
            ⟨some 6, .len 0 (.t 5), none⟩,
            ⟨some 7, .bin .gtr (.t 6) (.k (.int .i64 2147483647)), none⟩,
            ⟨some 8, .mv (.t 7), none⟩,
            ⟨some 9, .mv (.t 1), some (8, false)⟩,
            ⟨some 10, .len 0 (.t 9), some (8, false)⟩,
            ⟨some 11, .bin .gtr (.t 10) (.k (.int .i64 2147483647)), some (8, false)⟩,
            ⟨some 12, .pick (.t 8) (.k (.bool true)) (.t 11), none⟩] [0, 1, 12] [] [[], [5], [6], [7], [], [9], [10]])
          (.cond (.t 12)
            (.seq
              (.region [
                ⟨some 4, .mv (.k (.bool true)), none⟩] [4] [] [])
              .ret)
            .skip))
        (.seq
          (.seq
            (.region [
              ⟨some 13, .mv (.t 0), none⟩,
              ⟨some 14, .call 9 [(.t 13)], none⟩,
              ⟨some 15, .un .not (.t 14), none⟩,
              ⟨some 16, .mv (.t 15), none⟩,
              ⟨some 17, .mv (.t 1), some (16, false)⟩,
              ⟨some 18, .mkSl 1 1 [(.str [])] [(0, (.t 17))], some (16, false)⟩,
              ⟨some 19, .call 10 [(.k (.int .i64 2000)), (.t 18)], some (16, false)⟩,
              ⟨some 20, .un .not (.t 19), some (16, false)⟩,
              ⟨some 21, .pick (.t 16) (.k (.bool true)) (.t 20), none⟩] [0, 1, 21] [18] [[], [13], [14], [15], [], [17], [18], [19]])
            (.cond (.t 21)
              (.seq
                (.region [
                  ⟨some 22, .call 11 [], none⟩,
                  ⟨some 4, .mv (.t 22), none⟩] [4] [] [])
                .ret)
              .skip))
          (.seq
            (.region [
              ⟨some 23, .mv (.t 0), none⟩,
              ⟨some 24, .mv (.t 1), none⟩,
              ⟨some 25, .call 8 [(.t 23), (.t 24)], none⟩,
              ⟨some 26, .mv (.t 0), none⟩,
              ⟨some 27, .mv (.t 1), none⟩,
              ⟨some 28, .call 12 [(.t 26), (.t 27)], none⟩,
              ⟨some 29, .bin .eql (.t 25) (.t 28), none⟩,
              ⟨some 4, .mv (.t 29), none⟩] [4] [] [[], [], [23, 24], [0], [1], [26, 27], [25, 28]])
            .ret)))),
  [.t 4]⟩

def l_laws_FnDCanonFields : Lay := { rg := [(0, ([0, 1], [])), (1, ([0, 1, 12], [])), (2, ([4], [])), (3, ([0, 1, 21], [18])), (4, ([4], [])), (5, ([4], []))], dd := [(1, [[], [5], [6], [7], [], [9], [10]]), (3, [[], [13], [14], [15], [], [17], [18], [19]]), (5, [[], [], [23, 24], [0], [1], [26, 27], [25, 28]])] }

/- impl.DCanonField -/
def c_impl_DCanonField : SFn := ⟨2,
    (.seq
      (.region [
        ⟨some 4, .mv (.k (.str [])), none⟩] [0, 1] [] [])
      (.seq
        (.region [
          ⟨some 8, .mv (.t 0), none⟩,
          ⟨some 9, .mv (.t 1), none⟩,
          ⟨some 10, .call 13 [(.t 8), (.t 9)], none⟩,
          ⟨some 7, .mv (.t 10), none⟩,
          ⟨some 11, .extr (.t 7) 0, none⟩,
          ⟨some 12, .extr (.t 7) 1, none⟩,
          ⟨some 5, .mv (.t 11), none⟩,
          ⟨some 6, .mv (.t 12), none⟩] [5] [] [[0], [1], [8, 9], [10], [], [7], [11]])
        (.seq
          (.region [
            ⟨some 13, .mv (.t 5), none⟩,
            ⟨some 4, .mv (.t 13), none⟩] [4] [] [[5]])
          .ret))),
  [.t 4]⟩

def l_impl_DCanonField : Lay := { rg := [(0, ([0, 1], [])), (1, ([5], [])), (2, ([4], []))], dd := [(1, [[0], [1], [8, 9], [10], [], [7], [11]]), (2, [[5]])] }

/- impl.DList -/
def c_impl_DList : SFn := ⟨1,
    (.seq
      (.region [
        ⟨some 2, .mv (.k .nilS), none⟩] [0] [] [])
      (.seq
        (.region [
          ⟨some 3, .mv (.t 0), none⟩,
          ⟨some 4, .call 14 [(.t 3)], none⟩,
          ⟨some 2, .mv (.t 4), none⟩] [2] [] [[0], [3]])
        .ret)),
  [.t 2]⟩

def l_impl_DList : Lay := { rg := [(0, ([0], [])), (1, ([2], []))], dd := [(1, [[0], [3]])] }

/- dkim.CanonicalHeader -/
def c_dkim_CanonicalHeader : SFn := ⟨2,
    (.seq
      (.region [
        ⟨some 4, .mv (.k (.str [])), none⟩,
        ⟨some 5, .mv (.k (.bool false)), none⟩] [0, 1] [] [[4]])
      (.seq
        (.region [
          ⟨some 9, .mv (.t 0), none⟩,
          ⟨some 10, .call 15 [(.t 9)], none⟩,
          ⟨some 8, .mv (.t 10), none⟩,
          ⟨some 11, .extr (.t 8) 0, none⟩,
          ⟨some 12, .extr (.t 8) 1, none⟩,
          ⟨some 6, .mv (.t 11), none⟩,
          ⟨some 7, .mv (.t 12), none⟩] [1, 6, 7] [] [[0], [9], [10], [], [8], [11]])
        (.seq
          (.seq
            (.region [
              ⟨some 13, .mv (.t 7), none⟩,
              ⟨some 14, .un .not (.t 13), none⟩] [1, 6, 14] [] [[7]])
            (.cond (.t 14)
              (.seq
                (.region [
                  ⟨some 4, .mv (.k (.str [])), none⟩,
                  ⟨some 5, .mv (.k (.bool false)), none⟩] [4, 5] [] [])
                .ret)
              .skip))
          (.seq
            (.region [
              ⟨some 15, .mv (.t 6), none⟩,
              ⟨some 16, .mv (.t 1), none⟩,
              ⟨some 17, .inv (.t 15) "CanonicalizeHeader" [(.t 16)], none⟩,
              ⟨some 4, .mv (.t 17), none⟩,
              ⟨some 5, .mv (.k (.bool true)), none⟩] [4, 5] [] [[6], [1], [15, 16], [17]])
            .ret)))),
  [.t 4, .t 5]⟩

def l_dkim_CanonicalHeader : Lay := { rg := [(0, ([0, 1], [])), (1, ([1, 6, 7], [])), (2, ([1, 6, 14], [])), (3, ([4, 5], [])), (4, ([4, 5], []))], dd := [(0, [[4]]), (1, [[0], [9], [10], [], [8], [11]]), (2, [[7]]), (4, [[6], [1], [15, 16], [17]])] }

/- dkim.canonicalizers -/
def c_dkim_canonicalizers : SFn := ⟨1,
    (.seq
      (.region [
        ⟨some 2, .mv (.k .nilI), none⟩,
        ⟨some 3, .mv (.k (.bool false)), none⟩] [0] [] [[2]])
      (.seq
        (.seq
          (.region [
            ⟨some 4, .mv (.t 0), none⟩] [4] [] [])
          (.block 0
            (.seq
              (.region [
                ⟨some 6, .bin .eql (.t 4) (.k (.str [115, 105, 109, 112, 108, 101])), none⟩,
                ⟨some 5, .mv (.t 6), none⟩] [4, 5] [] [])
              (.cond (.t 5)
                (.seq
                  (.region [
                    ⟨some 7, .alloc [], none⟩,
                    ⟨some 8, .mkIfc 1 (.t 7), none⟩,
                    ⟨some 2, .mv (.t 8), none⟩,
                    ⟨some 3, .mv (.k (.bool true)), none⟩] [2, 3] [] [[], [7], [8]])
                  .ret)
                (.seq
                  (.region [
                    ⟨some 10, .bin .eql (.t 4) (.k (.str [114, 101, 108, 97, 120, 101, 100])), none⟩,
                    ⟨some 9, .mv (.t 10), none⟩] [9] [] [[4]])
                  (.cond (.t 9)
                    (.seq
                      (.region [
                        ⟨some 11, .alloc [], none⟩,
                        ⟨some 12, .mkIfc 2 (.t 11), none⟩,
                        ⟨some 2, .mv (.t 12), none⟩,
                        ⟨some 3, .mv (.k (.bool true)), none⟩] [2, 3] [] [[], [11], [12]])
                      .ret)
                    .skip))))))
        (.seq
          (.region [
            ⟨some 2, .mv (.k .nilI), none⟩,
            ⟨some 3, .mv (.k (.bool false)), none⟩] [2, 3] [] [])
          .ret))),
  [.t 2, .t 3]⟩

def l_dkim_canonicalizers : Lay := { rg := [(0, ([0], [])), (1, ([4], [])), (2, ([4, 5], [])), (3, ([2, 3], [])), (4, ([9], [])), (5, ([2, 3], [])), (6, ([2, 3], []))], dd := [(0, [[2]]), (3, [[], [7], [8]]), (4, [[4]]), (5, [[], [11], [12]])] }

/- dkim.simpleCanonicalizer).CanonicalizeHeader -/
def c_dkim_simpleCanonicalizer_CanonicalizeHeader : SFn := ⟨2,
    (.seq
      (.region [
        ⟨some 4, .mv (.k (.str [])), none⟩] [1] [] [])
      (.seq
        (.region [
          ⟨some 5, .mv (.t 1), none⟩,
          ⟨some 4, .mv (.t 5), none⟩] [4] [] [[1]])
        .ret)),
  [.t 4]⟩

def l_dkim_simpleCanonicalizer_CanonicalizeHeader : Lay := { rg := [(0, ([1], [])), (1, ([4], []))], dd := [(1, [[1]])] }

/- dkim.relaxedCanonicalizer).CanonicalizeHeader -/
def c_dkim_relaxedCanonicalizer_CanonicalizeHeader : SFn := ⟨2,
    (.seq
      (.region [
        ⟨some 4, .mv (.k (.str [])), none⟩] [1] [] [])
      (.seq
        (.region [
          ⟨some 9, .mv (.t 1), none⟩,
          ⟨some 10, .call 16 [(.t 9), (.k (.str [58]))], none⟩,
          ⟨some 8, .mv (.t 10), none⟩,
          ⟨some 11, .extr (.t 8) 0, none⟩,
          ⟨some 12, .extr (.t 8) 1, none⟩,
          ⟨some 13, .extr (.t 8) 2, none⟩,
          ⟨some 5, .mv (.t 11), none⟩,
          ⟨some 6, .mv (.t 12), none⟩,
          ⟨some 7, .mv (.t 13), none⟩] [1, 5, 6, 7] [] [[], [9], [10], [], [], [8], [11], [12]])
        (.seq
          (.seq
            (.region [
              ⟨some 14, .mv (.t 7), none⟩,
              ⟨some 15, .un .not (.t 14), none⟩] [1, 5, 6, 15] [] [[7]])
            (.cond (.t 15)
              (.seq
                (.region [
                  ⟨some 16, .mv (.t 1), none⟩,
                  ⟨some 17, .call 17 [(.t 16)], none⟩,
                  ⟨some 18, .call 18 [(.t 17)], none⟩,
                  ⟨some 19, .bin .add (.t 18) (.k (.str [58])), none⟩,
                  ⟨some 20, .bin .add (.t 19) (.k (.str [13, 10])), none⟩,
                  ⟨some 4, .mv (.t 20), none⟩] [4] [] [[1], [16], [17], [18], [19]])
                .ret)
              .skip))
          (.seq
            (.region [
              ⟨some 21, .mv (.t 5), none⟩,
              ⟨some 22, .call 17 [(.t 21)], none⟩,
              ⟨some 23, .call 18 [(.t 22)], none⟩,
              ⟨some 5, .mv (.t 23), none⟩] [5, 6] [] [[], [21], [22]])
            (.seq
              (.region [
                ⟨some 24, .mv (.t 6), none⟩,
                ⟨some 25, .call 19 [(.t 24), (.k (.fn 20 []))], none⟩,
                ⟨some 26, .call 21 [(.t 25), (.k (.str [32]))], none⟩,
                ⟨some 6, .mv (.t 26), none⟩] [5, 6] [] [[], [24], [25]])
              (.seq
                (.region [
                  ⟨some 27, .mv (.t 5), none⟩,
                  ⟨some 28, .bin .add (.t 27) (.k (.str [58])), none⟩,
                  ⟨some 29, .mv (.t 6), none⟩,
                  ⟨some 30, .bin .add (.t 28) (.t 29), none⟩,
                  ⟨some 31, .bin .add (.t 30) (.k (.str [13, 10])), none⟩,
                  ⟨some 4, .mv (.t 31), none⟩] [4] [] [[5], [27], [6], [28, 29], [30]])
                .ret)))))),
  [.t 4]⟩

def l_dkim_relaxedCanonicalizer_CanonicalizeHeader : Lay := { rg := [(0, ([1], [])), (1, ([1, 5, 6, 7], [])), (2, ([1, 5, 6, 15], [])), (3, ([4], [])), (4, ([5, 6], [])), (5, ([5, 6], [])), (6, ([4], []))], dd := [(1, [[], [9], [10], [], [], [8], [11], [12]]), (2, [[7]]), (3, [[1], [16], [17], [18], [19]]), (4, [[], [21], [22]]), (5, [[], [24], [25]]), (6, [[5], [27], [6], [28, 29], [30]])] }

/- dkim.relaxedCanonicalizer).CanonicalizeHeader$1 -/
def c_dkim_relaxedCanonicalizer_CanonicalizeHeader_1 : SFn := ⟨1,
    (.seq
      (.region [
        ⟨some 2, .mv (.k (.bool false)), none⟩] [0] [] [])
      (.seq
        (.region [
          ⟨some 3, .mv (.t 0), none⟩,
          ⟨some 4, .bin .eql (.t 3) (.k (.int .i32 32)), none⟩,
          ⟨some 5, .mv (.t 4), none⟩,
          ⟨some 6, .mv (.t 0), some (5, false)⟩,
          ⟨some 7, .bin .eql (.t 6) (.k (.int .i32 9)), some (5, false)⟩,
          ⟨some 8, .pick (.t 5) (.k (.bool true)) (.t 7), none⟩,
          ⟨some 9, .mv (.t 8), none⟩,
          ⟨some 10, .mv (.t 0), some (9, false)⟩,
          ⟨some 11, .bin .eql (.t 10) (.k (.int .i32 10)), some (9, false)⟩,
          ⟨some 12, .pick (.t 9) (.k (.bool true)) (.t 11), none⟩,
          ⟨some 13, .mv (.t 12), none⟩,
          ⟨some 14, .mv (.t 0), some (13, false)⟩,
          ⟨some 15, .bin .eql (.t 14) (.k (.int .i32 13)), some (13, false)⟩,
          ⟨some 16, .pick (.t 13) (.k (.bool true)) (.t 15), none⟩,
          ⟨some 2, .mv (.t 16), none⟩] [2] [] [[], [3], [4], [], [6], [5, 7], [8], [], [10], [9, 11], [12], [0], [14], [13, 15]])
        .ret)),
  [.t 2]⟩

def l_dkim_relaxedCanonicalizer_CanonicalizeHeader_1 : Lay := { rg := [(0, ([0], [])), (1, ([2], []))], dd := [(1, [[], [3], [4], [], [6], [5, 7], [8], [], [10], [9, 11], [12], [0], [14], [13, 15]])] }

/- dkim.zzCut -/
def c_dkim_zzCut : SFn := ⟨2,
    (.seq
      (.region [
        ⟨some 4, .mv (.k (.str [])), none⟩,
        ⟨some 5, .mv (.k (.str [])), none⟩,
        ⟨some 6, .mv (.k (.bool false)), none⟩] [0, 1] [] [[4], [5]])
      (.seq
        (.seq
          (.region [
            ⟨some 8, .mv (.t 0), none⟩,
            ⟨some 9, .mv (.t 1), none⟩,
            ⟨some 10, .call 22 [(.t 8), (.t 9)], none⟩,
            ⟨some 7, .mv (.t 10), none⟩] [0, 1, 7] [] [[], [], [8, 9]])
          (.seq
            (.region [
              ⟨some 11, .mv (.t 7), none⟩,
              ⟨some 12, .bin .geq (.t 11) (.k (.int .i64 0)), none⟩] [0, 1, 7, 12] [] [])
            (.cond (.t 12)
              (.seq
                (.region [
                  ⟨some 13, .mv (.t 0), none⟩,
                  ⟨some 14, .mv (.t 7), none⟩,
                  ⟨some 15, .slStr (.t 13) none (some (.t 14)), none⟩,
                  ⟨some 16, .mv (.t 0), none⟩,
                  ⟨some 17, .mv (.t 7), none⟩,
                  ⟨some 18, .mv (.t 1), none⟩,
                  ⟨some 19, .len 0 (.t 18), none⟩,
                  ⟨some 20, .bin .add (.t 17) (.t 19), none⟩,
                  ⟨some 21, .slStr (.t 16) (some (.t 20)) none, none⟩,
                  ⟨some 4, .mv (.t 15), none⟩,
                  ⟨some 5, .mv (.t 21), none⟩,
                  ⟨some 6, .mv (.k (.bool true)), none⟩] [4, 5, 6] [] [])
                .ret)
              .skip)))
        (.seq
          (.region [
            ⟨some 22, .mv (.t 0), none⟩,
            ⟨some 4, .mv (.t 22), none⟩,
            ⟨some 5, .mv (.k (.str [])), none⟩,
            ⟨some 6, .mv (.k (.bool false)), none⟩] [4, 5, 6] [] [[0], [22]])
          .ret))),
  [.t 4, .t 5, .t 6]⟩

def l_dkim_zzCut : Lay := { rg := [(0, ([0, 1], [])), (1, ([0, 1, 7], [])), (2, ([0, 1, 7, 12], [])), (3, ([4, 5, 6], [])), (4, ([4, 5, 6], []))], dd := [(0, [[4], [5]]), (1, [[], [], [8, 9]]), (4, [[0], [22]])] }

/- dkim.zzIndex -/
def c_dkim_zzIndex : SFn := ⟨2,
    (.seq
      (.region [
        ⟨some 4, .mv (.k (.int .i64 0)), none⟩] [0, 1] [] [])
      (.seq
        (.seq
          (.region [
            ⟨some 5, .mv (.k (.int .i64 0)), none⟩] [0, 1, 5] [] [])
          (.block 0
            (.loop [0, 1, 5]
              (.seq
                (.seq
                  (.region [
                    ⟨some 6, .mv (.t 5), none⟩,
                    ⟨some 7, .mv (.t 1), none⟩,
                    ⟨some 8, .len 0 (.t 7), none⟩,
                    ⟨some 9, .bin .add (.t 6) (.t 8), none⟩,
                    ⟨some 10, .mv (.t 0), none⟩,
                    ⟨some 11, .len 0 (.t 10), none⟩,
                    ⟨some 12, .bin .leq (.t 9) (.t 11), none⟩] [0, 1, 5, 12] [] [[], [], [7], [6, 8], [], [10]])
                  (.cond (.t 12)
                    .skip
                    (.exit 0)))
                (.seq
                  (.block 1
                    (.seq
                      (.region [
                        ⟨some 15, .mv (.t 0), none⟩,
                        ⟨some 16, .mv (.t 5), none⟩,
                        ⟨some 17, .mv (.t 5), none⟩,
                        ⟨some 18, .mv (.t 1), none⟩,
                        ⟨some 19, .len 0 (.t 18), none⟩,
                        ⟨some 20, .bin .add (.t 17) (.t 19), none⟩,
                        ⟨some 21, .slStr (.t 15) (some (.t 16)) (some (.t 20)), none⟩,
                        ⟨some 22, .mv (.t 1), none⟩,
                        ⟨some 23, .bin .eql (.t 21) (.t 22), none⟩] [0, 1, 5, 23] [] [[], [], [], [], [18], [17, 19], [15, 16, 20]])
                      (.cond (.t 23)
                        (.seq
                          (.region [
                            ⟨some 24, .mv (.t 5), none⟩,
                            ⟨some 4, .mv (.t 24), none⟩] [4] [] [[5]])
                          .ret)
                        .skip)))
                  (.region [
                    ⟨some 13, .mv (.t 5), none⟩,
                    ⟨some 14, .bin .add (.t 13) (.k (.int .i64 1)), none⟩,
                    ⟨some 5, .mv (.t 14), none⟩] [0, 1, 5] [] [[], [13]]))))))
        (.seq
          (.region [
            ⟨some 4, .mv (.k (.int .i64 (-1))), none⟩] [4] [] [])
          .ret))),
  [.t 4]⟩

def l_dkim_zzIndex : Lay := { rg := [(0, ([0, 1], [])), (1, ([0, 1, 5], [])), (2, ([0, 1, 5, 12], [])), (3, ([0, 1, 5], [])), (4, ([0, 1, 5, 23], [])), (5, ([4], [])), (6, ([4], [])), (1000002, ([0, 1, 5], []))], dd := [(2, [[], [], [7], [6, 8], [], [10]]), (3, [[], [13]]), (4, [[], [], [], [], [18], [17, 19], [15, 16, 20]]), (5, [[5]])] }

/- dkim.zzToLower -/
def c_dkim_zzToLower : SFn := ⟨1,
    (.seq
      (.region [
        ⟨some 2, .mv (.k (.str [])), none⟩] [0] [] [])
      (.seq
        (.region [
          ⟨some 3, .mv (.k .nilS), none⟩] [0, 3] [] [])
        (.seq
          (.seq
            (.region [
              ⟨some 4, .mv (.k (.int .i64 0)), none⟩] [0, 3, 4] [] [])
            (.block 0
              (.loop [0, 3, 4]
                (.seq
                  (.seq
                    (.region [
                      ⟨some 6, .mv (.t 4), none⟩,
                      ⟨some 7, .mv (.t 0), none⟩,
                      ⟨some 8, .len 0 (.t 7), none⟩,
                      ⟨some 9, .bin .lss (.t 6) (.t 8), none⟩] [0, 3, 4, 9] [] [[], [], [7]])
                    (.cond (.t 9)
                      .skip
                      (.exit 0)))
                  (.seq
                    (.block 1
                      (.seq
                        (.region [
                          ⟨some 12, .mv (.t 0), none⟩,
                          ⟨some 13, .mv (.t 4), none⟩,
                          ⟨some 14, .iStr (.t 12) (.t 13), none⟩,
                          ⟨some 5, .mv (.t 14), none⟩] [0, 3, 4, 5] [] [[], [], [12, 13]])
                        (.block 2
                          (.seq
                            (.region [
                              ⟨some 20, .mv (.t 5), none⟩,
                              ⟨some 21, .bin .leq (.k (.int .u8 65)) (.t 20), none⟩,
                              ⟨some 22, .mv (.t 21), none⟩,
                              ⟨some 23, .mv (.t 5), some (22, true)⟩,
                              ⟨some 24, .bin .leq (.t 23) (.k (.int .u8 90)), some (22, true)⟩,
                              ⟨some 25, .pick (.t 22) (.t 24) (.k (.bool false)), none⟩,
                              ⟨some 19, .mv (.t 25), none⟩] [0, 3, 4, 5, 19] [] [[], [20], [21], [], [23], [22, 24]])
                            (.cond (.t 19)
                              (.region [
                                ⟨some 26, .mv (.t 3), none⟩,
                                ⟨some 27, .mv (.t 5), none⟩,
                                ⟨some 28, .bin .add (.t 27) (.k (.int .u8 97)), none⟩,
                                ⟨some 29, .bin .sub (.t 28) (.k (.int .u8 65)), none⟩,
                                ⟨some 30, .mkSl 1 1 [(.int .u8 0)] [(0, (.t 29))], none⟩,
                                ⟨some 31, .app 1 1 (.t 26) (.t 30), none⟩,
                                ⟨some 3, .mv (.t 31), none⟩] [0, 3, 4] [30] [[], [5], [27], [28], [29], [26, 30]])
                              (.seq
                                (.region [
                                  ⟨some 33, .mv (.t 0), none⟩,
                                  ⟨some 34, .len 0 (.t 33), none⟩,
                                  ⟨some 35, .mv (.t 4), none⟩,
                                  ⟨some 36, .bin .sub (.t 34) (.t 35), none⟩,
                                  ⟨some 37, .bin .geq (.t 36) (.k (.int .i64 3)), none⟩,
                                  ⟨some 38, .mv (.t 37), none⟩,
                                  ⟨some 39, .mv (.t 0), some (38, true)⟩,
                                  ⟨some 40, .mv (.t 4), some (38, true)⟩,
                                  ⟨some 41, .mv (.t 4), some (38, true)⟩,
                                  ⟨some 42, .bin .add (.t 41) (.k (.int .i64 3)), some (38, true)⟩,
                                  ⟨some 43, .slStr (.t 39) (some (.t 40)) (some (.t 42)), some (38, true)⟩,
                                  ⟨some 44, .bin .eql (.t 43) (.k (.str [226, 132, 170])), some (38, true)⟩,
                                  ⟨some 45, .pick (.t 38) (.t 44) (.k (.bool false)), none⟩,
                                  ⟨some 32, .mv (.t 45), none⟩] [0, 3, 4, 5, 32] [] [[], [33], [], [34, 35], [36], [37], [], [], [], [41], [39, 40, 42], [43], [38, 44]])
                                (.cond (.t 32)
                                  (.seq
                                    (.region [
                                      ⟨some 46, .mv (.t 3), none⟩,
                                      ⟨some 47, .mkSl 1 1 [(.int .u8 0)] [(0, (.k (.int .u8 107)))], none⟩,
                                      ⟨some 48, .app 1 1 (.t 46) (.t 47), none⟩,
                                      ⟨some 3, .mv (.t 48), none⟩] [0, 3, 4] [47] [[], [], [46, 47]])
                                    (.region [
                                      ⟨some 49, .mv (.t 4), none⟩,
                                      ⟨some 50, .bin .add (.t 49) (.k (.int .i64 2)), none⟩,
                                      ⟨some 4, .mv (.t 50), none⟩] [0, 3, 4] [] [[], [49]]))
                                  (.region [
                                    ⟨some 15, .mv (.t 3), none⟩,
                                    ⟨some 16, .mv (.t 5), none⟩,
                                    ⟨some 17, .mkSl 1 1 [(.int .u8 0)] [(0, (.t 16))], none⟩,
                                    ⟨some 18, .app 1 1 (.t 15) (.t 17), none⟩,
                                    ⟨some 3, .mv (.t 18), none⟩] [0, 3, 4] [17] [[], [5], [16], [15, 17]]))))))))
                    (.region [
                      ⟨some 10, .mv (.t 4), none⟩,
                      ⟨some 11, .bin .add (.t 10) (.k (.int .i64 1)), none⟩,
                      ⟨some 4, .mv (.t 11), none⟩] [0, 3, 4] [] [[], [10]]))))))
          (.seq
            (.region [
              ⟨some 51, .mv (.t 3), none⟩,
              ⟨some 52, .cBytesStr (.t 51), none⟩,
              ⟨some 2, .mv (.t 52), none⟩] [2] [18, 31, 48] [[3], [51]])
            .ret)))),
  [.t 2]⟩

def l_dkim_zzToLower : Lay := { rg := [(0, ([0], [])), (1, ([0, 3], [])), (2, ([0, 3, 4], [])), (3, ([0, 3, 4, 9], [])), (4, ([0, 3, 4], [])), (5, ([0, 3, 4, 5], [])), (6, ([0, 3, 4], [17])), (7, ([0, 3, 4, 5, 19], [])), (8, ([0, 3, 4], [30])), (9, ([0, 3, 4, 5, 32], [])), (10, ([0, 3, 4], [47])), (11, ([0, 3, 4], [])), (12, ([2], [18, 31, 48])), (1000003, ([0, 3, 4], []))], dd := [(3, [[], [], [7]]), (4, [[], [10]]), (5, [[], [], [12, 13]]), (6, [[], [5], [16], [15, 17]]), (7, [[], [20], [21], [], [23], [22, 24]]), (8, [[], [5], [27], [28], [29], [26, 30]]), (9, [[], [33], [], [34, 35], [36], [37], [], [], [], [41], [39, 40, 42], [43], [38, 44]]), (10, [[], [], [46, 47]]), (11, [[], [49]]), (12, [[3], [51]])] }

/- dkim.zzTrimSpace -/
def b_dkim_zzTrimSpace_1 : SCode :=
  (.seq
    (.region [
      ⟨some 17, .nextS (.t 16), none⟩,
      ⟨some 18, .extr (.t 17) 0, none⟩] [0, 3, 4, 16, 17, 18] [] [])
    (.seq
      (.cond (.t 18)
        .skip
        (.exit 0))
      (.block 1
        (.seq
          (.region [
            ⟨some 19, .extr (.t 17) 1, none⟩,
            ⟨some 20, .extr (.t 17) 2, none⟩,
            ⟨some 5, .mv (.t 19), none⟩,
            ⟨some 6, .mv (.t 20), none⟩] [0, 3, 4, 5, 6, 16] [] [[], [17], [19]])
          (.seq
            (.region [
              ⟨some 21, .mv (.t 6), none⟩,
              ⟨some 22, .call 23 [(.t 21)], none⟩,
              ⟨some 23, .un .not (.t 22), none⟩] [0, 3, 4, 5, 16, 23] [] [[6], [21]])
            (.cond (.t 23)
              (.seq
                (.region [
                  ⟨some 24, .mv (.t 5), none⟩,
                  ⟨some 3, .mv (.t 24), none⟩] [0, 3, 4] [16] [[5]])
                (.exit 0))
              .skip))))))

def b_dkim_zzTrimSpace_2 : SCode :=
  (.seq
    (.seq
      (.region [
        ⟨some 30, .mv (.t 8), none⟩,
        ⟨some 31, .bin .lss (.t 30) (.k (.int .i64 4)), none⟩,
        ⟨some 32, .mv (.t 31), none⟩,
        ⟨some 33, .mv (.t 7), some (32, true)⟩,
        ⟨some 34, .mv (.t 8), some (32, true)⟩,
        ⟨some 35, .bin .add (.t 33) (.t 34), some (32, true)⟩,
        ⟨some 36, .mv (.t 0), some (32, true)⟩,
        ⟨some 37, .len 0 (.t 36), some (32, true)⟩,
        ⟨some 38, .bin .lss (.t 35) (.t 37), some (32, true)⟩,
        ⟨some 39, .pick (.t 32) (.t 38) (.k (.bool false)), none⟩,
        ⟨some 40, .mv (.t 39), none⟩,
        ⟨some 41, .mv (.t 0), some (40, true)⟩,
        ⟨some 42, .mv (.t 7), some (40, true)⟩,
        ⟨some 43, .iStr (.t 41) (.t 42), some (40, true)⟩,
        ⟨some 44, .bin .geq (.t 43) (.k (.int .u8 192)), some (40, true)⟩,
        ⟨some 45, .pick (.t 40) (.t 44) (.k (.bool false)), none⟩,
        ⟨some 46, .mv (.t 45), none⟩,
        ⟨some 47, .mv (.t 0), some (46, true)⟩,
        ⟨some 48, .mv (.t 7), some (46, true)⟩,
        ⟨some 49, .mv (.t 8), some (46, true)⟩,
        ⟨some 50, .bin .add (.t 48) (.t 49), some (46, true)⟩,
        ⟨some 51, .iStr (.t 47) (.t 50), some (46, true)⟩,
        ⟨some 52, .bin .and (.t 51) (.k (.int .u8 192)), some (46, true)⟩,
        ⟨some 53, .bin .eql (.t 52) (.k (.int .u8 128)), some (46, true)⟩,
        ⟨some 54, .pick (.t 46) (.t 53) (.k (.bool false)), none⟩] [0, 3, 4, 7, 8, 54] [] [[], [30], [31], [], [], [33, 34], [], [36], [35, 37], [32, 38], [39], [], [], [41, 42], [43], [40, 44], [45], [], [], [], [48, 49], [47, 50], [51], [52]])
      (.cond (.t 54)
        .skip
        (.exit 4)))
    (.block 5
      (.region [
        ⟨some 55, .mv (.t 8), none⟩,
        ⟨some 56, .bin .add (.t 55) (.k (.int .i64 1)), none⟩,
        ⟨some 8, .mv (.t 56), none⟩] [0, 3, 4, 7, 8] [] [[], [55]])))

def t_dkim_zzTrimSpace_3 : SCode :=
  (.seq
    (.seq
      (.region [
        ⟨some 57, .mv (.t 0), none⟩,
        ⟨some 58, .mv (.t 7), none⟩,
        ⟨some 59, .mv (.t 7), none⟩,
        ⟨some 60, .mv (.t 8), none⟩,
        ⟨some 61, .bin .add (.t 59) (.t 60), none⟩,
        ⟨some 62, .slStr (.t 57) (some (.t 58)) (some (.t 61)), none⟩,
        ⟨some 63, .cStrRunes (.t 62), none⟩,
        ⟨some 9, .mv (.t 63), none⟩] [0, 3, 4, 7, 8, 9] [] [[], [], [], [], [59, 60], [57, 58, 61], [62]])
      (.seq
        (.region [
          ⟨some 64, .mv (.t 9), none⟩,
          ⟨some 65, .len 1 (.t 64), none⟩,
          ⟨some 66, .bin .gtr (.t 65) (.k (.int .i64 1)), none⟩] [0, 3, 4, 7, 8, 66] [63] [[9], [64]])
        (.cond (.t 66)
          (.region [
            ⟨some 8, .mv (.k (.int .i64 1)), none⟩] [0, 3, 4, 7, 8] [] [])
          .skip)))
    (.seq
      (.seq
        (.region [
          ⟨some 67, .mv (.t 0), none⟩,
          ⟨some 68, .mv (.t 7), none⟩,
          ⟨some 69, .mv (.t 7), none⟩,
          ⟨some 70, .mv (.t 8), none⟩,
          ⟨some 71, .bin .add (.t 69) (.t 70), none⟩,
          ⟨some 72, .slStr (.t 67) (some (.t 68)) (some (.t 71)), none⟩,
          ⟨some 73, .cStrRunes (.t 72), none⟩,
          ⟨some 10, .mv (.t 73), none⟩] [0, 3, 4, 7, 8, 10] [] [[], [], [], [], [69, 70], [67, 68, 71], [72]])
        (.seq
          (.region [
            ⟨some 74, .mv (.t 10), none⟩,
            ⟨some 75, .len 1 (.t 74), none⟩,
            ⟨some 76, .bin .neq (.t 75) (.k (.int .i64 1)), none⟩,
            ⟨some 77, .mv (.t 76), none⟩,
            ⟨some 78, .mv (.t 10), some (77, false)⟩,
            ⟨some 79, .iAddr 1 (.t 78) (.k (.int .i64 0)), some (77, false)⟩,
            ⟨some 80, .load none (.t 79), some (77, false)⟩,
            ⟨some 81, .call 23 [(.t 80)], some (77, false)⟩,
            ⟨some 82, .un .not (.t 81), some (77, false)⟩,
            ⟨some 83, .pick (.t 77) (.k (.bool true)) (.t 82), none⟩] [0, 3, 4, 7, 8, 83] [73] [[], [74], [75], [76], [10], [78], [79], [80], [81]])
          (.cond (.t 83)
            (.region [
              ⟨some 84, .mv (.t 7), none⟩,
              ⟨some 85, .mv (.t 8), none⟩,
              ⟨some 86, .bin .add (.t 84) (.t 85), none⟩,
              ⟨some 4, .mv (.t 86), none⟩] [0, 3, 4, 7, 8] [] [[], [], [84, 85]])
            .skip)))
      (.region [
        ⟨some 87, .mv (.t 7), none⟩,
        ⟨some 88, .mv (.t 8), none⟩,
        ⟨some 89, .bin .add (.t 87) (.t 88), none⟩,
        ⟨some 7, .mv (.t 89), none⟩] [0, 3, 4, 7] [] [[], [8], [87, 88]])))

def b_dkim_zzTrimSpace_4 : SCode :=
  (.seq
    (.seq
      (.region [
        ⟨some 26, .mv (.t 7), none⟩,
        ⟨some 27, .mv (.t 0), none⟩,
        ⟨some 28, .len 0 (.t 27), none⟩,
        ⟨some 29, .bin .lss (.t 26) (.t 28), none⟩] [0, 3, 4, 7, 29] [] [[], [], [27]])
      (.cond (.t 29)
        .skip
        (.exit 2)))
    (.block 3
      (.seq
        (.region [
          ⟨some 8, .mv (.k (.int .i64 1)), none⟩] [0, 3, 4, 7, 8] [] [])
        (.seq
          (.block 4
            (.loop [0, 3, 4, 7, 8]
              b_dkim_zzTrimSpace_2))
          t_dkim_zzTrimSpace_3))))

def t_dkim_zzTrimSpace_5 : SCode :=
  (.seq
    (.seq
      (.region [
        ⟨some 90, .mv (.t 3), none⟩,
        ⟨some 91, .mv (.t 0), none⟩,
        ⟨some 92, .len 0 (.t 91), none⟩,
        ⟨some 93, .bin .eql (.t 90) (.t 92), none⟩] [0, 3, 4, 93] [] [[], [], [91]])
      (.cond (.t 93)
        (.seq
          (.region [
            ⟨some 2, .mv (.k (.str [])), none⟩] [2] [] [])
          .ret)
        .skip))
    (.seq
      (.region [
        ⟨some 94, .mv (.t 0), none⟩,
        ⟨some 95, .mv (.t 3), none⟩,
        ⟨some 96, .mv (.t 4), none⟩,
        ⟨some 97, .slStr (.t 94) (some (.t 95)) (some (.t 96)), none⟩,
        ⟨some 2, .mv (.t 97), none⟩] [2] [] [[0], [3], [4], [94, 95, 96]])
      .ret))

def t_dkim_zzTrimSpace_6 : SCode :=
  (.seq
    (.seq
      (.region [
        ⟨some 25, .mv (.t 3), none⟩,
        ⟨some 7, .mv (.t 25), none⟩] [0, 3, 4, 7] [16] [])
      (.block 2
        (.loop [0, 3, 4, 7]
          b_dkim_zzTrimSpace_4)))
    t_dkim_zzTrimSpace_5)

def c_dkim_zzTrimSpace : SFn := ⟨1,
    (.seq
      (.region [
        ⟨some 2, .mv (.k (.str [])), none⟩] [0] [] [])
      (.seq
        (.region [
          ⟨some 11, .mv (.t 0), none⟩,
          ⟨some 12, .len 0 (.t 11), none⟩,
          ⟨some 13, .mv (.t 0), none⟩,
          ⟨some 14, .len 0 (.t 13), none⟩,
          ⟨some 3, .mv (.t 12), none⟩,
          ⟨some 4, .mv (.t 14), none⟩] [0, 3, 4] [] [[], [11], [], [13], [12]])
        (.seq
          (.seq
            (.region [
              ⟨some 15, .mv (.t 0), none⟩,
              ⟨some 16, .rangeS (.t 15), none⟩] [0, 3, 4, 16] [] [])
            (.block 0
              (.loop [0, 3, 4, 16]
                b_dkim_zzTrimSpace_1)))
          t_dkim_zzTrimSpace_6))),
  [.t 2]⟩

def l_dkim_zzTrimSpace : Lay := { rg := [(0, ([0], [])), (1, ([0, 3, 4], [])), (2, ([0, 3, 4, 16], [])), (3, ([0, 3, 4, 16, 17, 18], [])), (4, ([0, 3, 4, 5, 6, 16], [])), (5, ([0, 3, 4, 5, 16, 23], [])), (6, ([0, 3, 4], [16])), (7, ([0, 3, 4, 7], [16])), (8, ([0, 3, 4, 7, 29], [])), (9, ([0, 3, 4, 7, 8], [])), (10, ([0, 3, 4, 7, 8, 54], [])), (11, ([0, 3, 4, 7, 8], [])), (12, ([0, 3, 4, 7, 8, 9], [])), (13, ([0, 3, 4, 7, 8, 66], [63])), (14, ([0, 3, 4, 7, 8], [])), (15, ([0, 3, 4, 7, 8, 10], [])), (16, ([0, 3, 4, 7, 8, 83], [73])), (17, ([0, 3, 4, 7, 8], [])), (18, ([0, 3, 4, 7], [])), (19, ([0, 3, 4, 93], [])), (20, ([2], [])), (21, ([2], [])), (1000003, ([0, 3, 4, 16], [])), (1000008, ([0, 3, 4, 7], [])), (1000010, ([0, 3, 4, 7, 8], []))], dd := [(1, [[], [11], [], [13], [12]]), (4, [[], [17], [19]]), (5, [[6], [21]]), (6, [[5]]), (8, [[], [], [27]]), (10, [[], [30], [31], [], [], [33, 34], [], [36], [35, 37], [32, 38], [39], [], [], [41, 42], [43], [40, 44], [45], [], [], [], [48, 49], [47, 50], [51], [52]]), (11, [[], [55]]), (12, [[], [], [], [], [59, 60], [57, 58, 61], [62]]), (13, [[9], [64]]), (15, [[], [], [], [], [69, 70], [67, 68, 71], [72]]), (16, [[], [74], [75], [76], [10], [78], [79], [80], [81]]), (17, [[], [], [84, 85]]), (18, [[], [8], [87, 88]]), (19, [[], [], [91]]), (21, [[0], [3], [4], [94, 95, 96]])] }

/- dkim.zzIsSpace -/
def c_dkim_zzIsSpace : SFn := ⟨1,
    (.seq
      (.region [
        ⟨some 2, .mv (.k (.bool false)), none⟩] [0] [] [])
      (.seq
        (.block 0
          (.seq
            (.seq
              (.region [
                ⟨some 4, .mv (.t 0), none⟩,
                ⟨some 5, .bin .geq (.t 4) (.k (.int .i32 9)), none⟩,
                ⟨some 6, .mv (.t 5), none⟩,
                ⟨some 7, .mv (.t 0), some (6, true)⟩,
                ⟨some 8, .bin .leq (.t 7) (.k (.int .i32 13)), some (6, true)⟩,
                ⟨some 9, .pick (.t 6) (.t 8) (.k (.bool false)), none⟩,
                ⟨some 3, .mv (.t 9), none⟩] [0, 3] [] [[], [4], [5], [], [7], [6, 8]])
              (.cond (.t 3)
                .skip
                (.seq
                  (.region [
                    ⟨some 10, .mv (.t 0), none⟩,
                    ⟨some 11, .bin .eql (.t 10) (.k (.int .i32 32)), none⟩,
                    ⟨some 3, .mv (.t 11), none⟩] [0, 3] [] [[], [10]])
                  (.cond (.t 3)
                    .skip
                    (.seq
                      (.region [
                        ⟨some 12, .mv (.t 0), none⟩,
                        ⟨some 13, .bin .eql (.t 12) (.k (.int .i32 133)), none⟩,
                        ⟨some 3, .mv (.t 13), none⟩] [0, 3] [] [[], [12]])
                      (.cond (.t 3)
                        .skip
                        (.seq
                          (.region [
                            ⟨some 14, .mv (.t 0), none⟩,
                            ⟨some 15, .bin .eql (.t 14) (.k (.int .i32 160)), none⟩,
                            ⟨some 3, .mv (.t 15), none⟩] [0, 3] [] [[], [14]])
                          (.cond (.t 3)
                            .skip
                            (.seq
                              (.region [
                                ⟨some 16, .mv (.t 0), none⟩,
                                ⟨some 17, .bin .eql (.t 16) (.k (.int .i32 5760)), none⟩,
                                ⟨some 3, .mv (.t 17), none⟩] [0, 3] [] [[], [16]])
                              (.cond (.t 3)
                                .skip
                                (.seq
                                  (.region [
                                    ⟨some 18, .mv (.t 0), none⟩,
                                    ⟨some 19, .bin .geq (.t 18) (.k (.int .i32 8192)), none⟩,
                                    ⟨some 20, .mv (.t 19), none⟩,
                                    ⟨some 21, .mv (.t 0), some (20, true)⟩,
                                    ⟨some 22, .bin .leq (.t 21) (.k (.int .i32 8202)), some (20, true)⟩,
                                    ⟨some 23, .pick (.t 20) (.t 22) (.k (.bool false)), none⟩,
                                    ⟨some 3, .mv (.t 23), none⟩] [0, 3] [] [[], [18], [19], [], [21], [20, 22]])
                                  (.cond (.t 3)
                                    .skip
                                    (.seq
                                      (.region [
                                        ⟨some 24, .mv (.t 0), none⟩,
                                        ⟨some 25, .bin .eql (.t 24) (.k (.int .i32 8232)), none⟩,
                                        ⟨some 3, .mv (.t 25), none⟩] [0, 3] [] [[], [24]])
                                      (.cond (.t 3)
                                        .skip
                                        (.seq
                                          (.region [
                                            ⟨some 26, .mv (.t 0), none⟩,
                                            ⟨some 27, .bin .eql (.t 26) (.k (.int .i32 8233)), none⟩,
                                            ⟨some 3, .mv (.t 27), none⟩] [0, 3] [] [[], [26]])
                                          (.cond (.t 3)
                                            .skip
                                            (.seq
                                              (.region [
                                                ⟨some 28, .mv (.t 0), none⟩,
                                                ⟨some 29, .bin .eql (.t 28) (.k (.int .i32 8239)), none⟩,
                                                ⟨some 3, .mv (.t 29), none⟩] [0, 3] [] [[], [28]])
                                              (.cond (.t 3)
                                                .skip
                                                (.seq
                                                  (.region [
                                                    ⟨some 30, .mv (.t 0), none⟩,
                                                    ⟨some 31, .bin .eql (.t 30) (.k (.int .i32 8287)), none⟩,
                                                    ⟨some 3, .mv (.t 31), none⟩] [0, 3] [] [[], [30]])
                                                  (.cond (.t 3)
                                                    .skip
                                                    (.region [
                                                      ⟨some 32, .mv (.t 0), none⟩,
                                                      ⟨some 33, .bin .eql (.t 32) (.k (.int .i32 12288)), none⟩,
                                                      ⟨some 3, .mv (.t 33), none⟩] [3] [] [[0], [32]])))))))))))))))))))))
            (.cond (.t 3)
              (.seq
                (.region [
                  ⟨some 2, .mv (.k (.bool true)), none⟩] [2] [] [])
                .ret)
              .skip)))
        (.seq
          (.region [
            ⟨some 2, .mv (.k (.bool false)), none⟩] [2] [] [])
          .ret))),
  [.t 2]⟩

def l_dkim_zzIsSpace : Lay := { rg := [(0, ([0], [])), (1, ([0, 3], [])), (2, ([0, 3], [])), (3, ([0, 3], [])), (4, ([0, 3], [])), (5, ([0, 3], [])), (6, ([0, 3], [])), (7, ([0, 3], [])), (8, ([0, 3], [])), (9, ([0, 3], [])), (10, ([0, 3], [])), (11, ([3], [])), (12, ([2], [])), (13, ([2], []))], dd := [(1, [[], [4], [5], [], [7], [6, 8]]), (2, [[], [10]]), (3, [[], [12]]), (4, [[], [14]]), (5, [[], [16]]), (6, [[], [18], [19], [], [21], [20, 22]]), (7, [[], [24]]), (8, [[], [26]]), (9, [[], [28]]), (10, [[], [30]]), (11, [[0], [32]])] }

/- dkim.TagList -/
def c_dkim_TagList : SFn := ⟨1,
    (.seq
      (.region [
        ⟨some 2, .mv (.k .nilS), none⟩] [0] [] [])
      (.seq
        (.region [
          ⟨some 3, .mv (.t 0), none⟩,
          ⟨some 4, .call 24 [(.t 3)], none⟩,
          ⟨some 2, .mv (.t 4), none⟩] [2] [] [[0], [3]])
        .ret)),
  [.t 2]⟩

def l_dkim_TagList : Lay := { rg := [(0, ([0], [])), (1, ([2], []))], dd := [(1, [[0], [3]])] }

/- dkim.parseTagList -/
def b_dkim_parseTagList_1 : SCode :=
  (.seq
    (.region [
      ⟨some 11, .bin .lss (.t 10) (.t 9), none⟩] [3, 8, 9, 10, 11] [] [])
    (.seq
      (.cond (.t 11)
        .skip
        (.exit 0))
      (.seq
        (.block 1
          (.seq
            (.region [
              ⟨some 12, .mv (.t 10), none⟩,
              ⟨some 13, .iAddr 1 (.t 8) (.t 10), none⟩,
              ⟨some 14, .load none (.t 13), none⟩,
              ⟨some 4, .mv (.t 12), none⟩,
              ⟨some 5, .mv (.t 14), none⟩] [3, 4, 5, 8, 9, 10] [] [[], [], [13], [12]])
            (.region [
              ⟨some 15, .mv (.t 3), none⟩,
              ⟨some 16, .mv (.t 4), none⟩,
              ⟨some 17, .mv (.t 5), none⟩,
              ⟨some 18, .call 26 [(.t 17)], none⟩,
              ⟨some 19, .iAddr 1 (.t 15) (.t 16), none⟩,
              ⟨none, .store 1 (.t 19) (.t 18), none⟩] [3, 8, 9, 10] [] [[], [4], [5], [17], [15, 16]])))
        (.region [
          ⟨some 20, .bin .add (.t 10) (.k (.int .i64 1)), none⟩,
          ⟨some 10, .mv (.t 20), none⟩] [3, 8, 9, 10] [] []))))

def t_dkim_parseTagList_2 : SCode :=
  (.seq
    (.region [
      ⟨some 21, .mv (.t 3), none⟩,
      ⟨some 2, .mv (.t 21), none⟩] [2] [] [[3]])
    .ret)

def c_dkim_parseTagList : SFn := ⟨1,
    (.seq
      (.region [
        ⟨some 2, .mv (.k .nilS), none⟩] [0] [] [])
      (.seq
        (.region [
          ⟨some 6, .mv (.t 0), none⟩,
          ⟨some 7, .callS 25 [(.t 6), (.k (.str [58]))], none⟩,
          ⟨some 3, .mv (.t 7), none⟩] [3] [] [[0], [6]])
        (.seq
          (.seq
            (.region [
              ⟨some 8, .mv (.t 3), none⟩,
              ⟨some 9, .len 1 (.t 8), none⟩,
              ⟨some 10, .mv (.k (.int .i64 0)), none⟩] [3, 8, 9, 10] [] [])
            (.block 0
              (.loop [3, 8, 9, 10]
                b_dkim_parseTagList_1)))
          t_dkim_parseTagList_2))),
  [.t 2]⟩

def l_dkim_parseTagList : Lay := { rg := [(0, ([0], [])), (1, ([3], [])), (2, ([3, 8, 9, 10], [])), (3, ([3, 8, 9, 10, 11], [])), (4, ([3, 4, 5, 8, 9, 10], [])), (5, ([3, 8, 9, 10], [])), (6, ([3, 8, 9, 10], [])), (7, ([2], [])), (1000003, ([3, 8, 9, 10], []))], dd := [(1, [[0], [6]]), (4, [[], [], [13], [12]]), (5, [[], [4], [5], [17], [15, 16]]), (7, [[3]])], sf := [25] }

/- dkim.zzSplit -/
def b_dkim_zzSplit_1 : SCode :=
  (.seq
    (.region [
      ⟨some 14, .nextS (.t 13), none⟩,
      ⟨some 15, .extr (.t 14) 0, none⟩] [0, 5, 6, 13, 14, 15] [] [])
    (.seq
      (.cond (.t 15)
        .skip
        (.exit 0))
      (.block 1
        (.seq
          (.region [
            ⟨some 16, .extr (.t 14) 1, none⟩,
            ⟨some 7, .mv (.t 16), none⟩] [0, 5, 6, 7, 13] [] [[14]])
          (.seq
            (.region [
              ⟨some 17, .mv (.t 7), none⟩,
              ⟨some 18, .bin .gtr (.t 17) (.k (.int .i64 0)), none⟩] [0, 5, 6, 7, 13, 18] [] [])
            (.cond (.t 18)
              (.seq
                (.region [
                  ⟨some 19, .mv (.t 5), none⟩,
                  ⟨some 20, .mv (.t 0), none⟩,
                  ⟨some 21, .mv (.t 6), none⟩,
                  ⟨some 22, .mv (.t 7), none⟩,
                  ⟨some 23, .slStr (.t 20) (some (.t 21)) (some (.t 22)), none⟩,
                  ⟨some 24, .mkSl 1 1 [(.str [])] [(0, (.t 23))], none⟩,
                  ⟨some 25, .app 1 16 (.t 19) (.t 24), none⟩,
                  ⟨some 5, .mv (.t 25), none⟩] [0, 5, 7, 13] [24] [[], [], [6], [], [20, 21, 22], [23], [19, 24]])
                (.region [
                  ⟨some 26, .mv (.t 7), none⟩,
                  ⟨some 6, .mv (.t 26), none⟩] [0, 5, 6, 13] [] [[7]]))
              .skip))))))

def t_dkim_zzSplit_2 : SCode :=
  (.seq
    (.seq
      (.region [
        ⟨some 27, .mv (.t 0), none⟩,
        ⟨some 28, .len 0 (.t 27), none⟩,
        ⟨some 29, .bin .gtr (.t 28) (.k (.int .i64 0)), none⟩] [0, 5, 6, 29] [13] [[], [27]])
      (.cond (.t 29)
        (.region [
          ⟨some 30, .mv (.t 5), none⟩,
          ⟨some 31, .mv (.t 0), none⟩,
          ⟨some 32, .mv (.t 6), none⟩,
          ⟨some 33, .slStr (.t 31) (some (.t 32)) none, none⟩,
          ⟨some 34, .mkSl 1 1 [(.str [])] [(0, (.t 33))], none⟩,
          ⟨some 35, .app 1 16 (.t 30) (.t 34), none⟩,
          ⟨some 5, .mv (.t 35), none⟩] [5] [34] [[], [0], [6], [31, 32], [33], [30, 34]])
        .skip))
    (.seq
      (.region [
        ⟨some 36, .mv (.t 5), none⟩,
        ⟨some 4, .mv (.t 36), none⟩] [4] [] [[5]])
      .ret))

def b_dkim_zzSplit_3 : SCode :=
  (.block 3
    (.seq
      (.region [
        ⟨some 37, .mv (.t 0), none⟩,
        ⟨some 38, .mv (.t 1), none⟩,
        ⟨some 39, .call 22 [(.t 37), (.t 38)], none⟩,
        ⟨some 8, .mv (.t 39), none⟩] [0, 1, 5, 8] [] [[], [], [37, 38]])
      (.seq
        (.seq
          (.region [
            ⟨some 40, .mv (.t 8), none⟩,
            ⟨some 41, .bin .lss (.t 40) (.k (.int .i64 0)), none⟩] [0, 1, 5, 8, 41] [] [])
          (.cond (.t 41)
            (.seq
              (.region [
                ⟨some 42, .mv (.t 5), none⟩,
                ⟨some 43, .mv (.t 0), none⟩,
                ⟨some 44, .mkSl 1 1 [(.str [])] [(0, (.t 43))], none⟩,
                ⟨some 45, .app 1 16 (.t 42) (.t 44), none⟩,
                ⟨some 4, .mv (.t 45), none⟩] [4] [44] [[5], [0], [43], [42, 44]])
              .ret)
            .skip))
        (.seq
          (.region [
            ⟨some 46, .mv (.t 5), none⟩,
            ⟨some 47, .mv (.t 0), none⟩,
            ⟨some 48, .mv (.t 8), none⟩,
            ⟨some 49, .slStr (.t 47) none (some (.t 48)), none⟩,
            ⟨some 50, .mkSl 1 1 [(.str [])] [(0, (.t 49))], none⟩,
            ⟨some 51, .app 1 16 (.t 46) (.t 50), none⟩,
            ⟨some 5, .mv (.t 51), none⟩] [0, 1, 5, 8] [50] [[], [], [], [47, 48], [49], [46, 50]])
          (.region [
            ⟨some 52, .mv (.t 0), none⟩,
            ⟨some 53, .mv (.t 8), none⟩,
            ⟨some 54, .mv (.t 1), none⟩,
            ⟨some 55, .len 0 (.t 54), none⟩,
            ⟨some 56, .bin .add (.t 53) (.t 55), none⟩,
            ⟨some 57, .slStr (.t 52) (some (.t 56)) none, none⟩,
            ⟨some 0, .mv (.t 57), none⟩] [0, 1, 5] [] [[], [8], [], [54], [53, 55], [52, 56]])))))

def t_dkim_zzSplit_4 : SCode :=
  (.block 2
    (.loop [0, 1, 5]
      b_dkim_zzSplit_3))

def c_dkim_zzSplit : SFn := ⟨2,
    (.seq
      (.region [
        ⟨some 4, .mv (.k .nilS), none⟩] [0, 1] [] [])
      (.seq
        (.region [
          ⟨some 5, .mv (.k .nilS), none⟩] [0, 1, 5] [] [])
        (.seq
          (.seq
            (.region [
              ⟨some 9, .mv (.t 1), none⟩,
              ⟨some 10, .len 0 (.t 9), none⟩,
              ⟨some 11, .bin .eql (.t 10) (.k (.int .i64 0)), none⟩] [0, 1, 5, 11] [] [[], [9]])
            (.cond (.t 11)
              (.seq
                (.region [
                  ⟨some 6, .mv (.k (.int .i64 0)), none⟩] [0, 5, 6] [] [])
                (.seq
                  (.seq
                    (.region [
                      ⟨some 12, .mv (.t 0), none⟩,
                      ⟨some 13, .rangeS (.t 12), none⟩] [0, 5, 6, 13] [] [])
                    (.block 0
                      (.loop [0, 5, 6, 13]
                        b_dkim_zzSplit_1)))
                  t_dkim_zzSplit_2))
              .skip))
          t_dkim_zzSplit_4))),
  [.t 4]⟩

def l_dkim_zzSplit : Lay := { rg := [(0, ([0, 1], [])), (1, ([0, 1, 5], [])), (2, ([0, 1, 5, 11], [])), (3, ([0, 5, 6], [])), (4, ([0, 5, 6, 13], [])), (5, ([0, 5, 6, 13, 14, 15], [])), (6, ([0, 5, 6, 7, 13], [])), (7, ([0, 5, 6, 7, 13, 18], [])), (8, ([0, 5, 7, 13], [24])), (9, ([0, 5, 6, 13], [])), (10, ([0, 5, 6, 29], [13])), (11, ([5], [34])), (12, ([4], [])), (13, ([0, 1, 5, 8], [])), (14, ([0, 1, 5, 8, 41], [])), (15, ([4], [44])), (16, ([0, 1, 5, 8], [50])), (17, ([0, 1, 5], [])), (1000005, ([0, 5, 6, 13], [])), (1000013, ([0, 1, 5], []))], dd := [(2, [[], [9]]), (6, [[14]]), (8, [[], [], [6], [], [20, 21, 22], [23], [19, 24]]), (9, [[7]]), (10, [[], [27]]), (11, [[], [0], [6], [31, 32], [33], [30, 34]]), (12, [[5]]), (13, [[], [], [37, 38]]), (15, [[5], [0], [43], [42, 44]]), (16, [[], [], [], [47, 48], [49], [46, 50]]), (17, [[], [8], [], [54], [53, 55], [52, 56]])] }

/- dkim.stripWhitespace -/
def b_dkim_stripWhitespace_1 : SCode :=
  (.seq
    (.region [
      ⟨some 8, .nextS (.t 7), none⟩,
      ⟨some 9, .extr (.t 8) 0, none⟩] [3, 7, 8, 9] [] [])
    (.seq
      (.cond (.t 9)
        .skip
        (.exit 0))
      (.block 1
        (.seq
          (.region [
            ⟨some 10, .extr (.t 8) 2, none⟩,
            ⟨some 5, .mv (.t 10), none⟩] [3, 5, 7] [] [[8]])
          (.seq
            (.region [
              ⟨some 11, .mv (.t 5), none⟩,
              ⟨some 12, .call 23 [(.t 11)], none⟩,
              ⟨some 13, .un .not (.t 12), none⟩] [3, 5, 7, 13] [] [[], [11]])
            (.cond (.t 13)
              (.region [
                ⟨some 14, .mv (.t 3), none⟩,
                ⟨some 15, .mv (.t 5), none⟩,
                ⟨some 16, .cIntStr (.t 15), none⟩,
                ⟨some 17, .app 1 1 (.t 14) (.t 16), none⟩,
                ⟨some 3, .mv (.t 17), none⟩] [3, 7] [] [[], [5], [15], [14, 16]])
              .skip))))))

def t_dkim_stripWhitespace_2 : SCode :=
  (.seq
    (.region [
      ⟨some 18, .mv (.t 3), none⟩,
      ⟨some 19, .cBytesStr (.t 18), none⟩,
      ⟨some 2, .mv (.t 19), none⟩] [2] [7, 17] [[3], [18]])
    .ret)

def c_dkim_stripWhitespace : SFn := ⟨1,
    (.seq
      (.region [
        ⟨some 2, .mv (.k (.str [])), none⟩] [0] [] [])
      (.seq
        (.region [
          ⟨some 3, .mv (.k .nilS), none⟩] [0, 3] [] [])
        (.seq
          (.seq
            (.region [
              ⟨some 6, .mv (.t 0), none⟩,
              ⟨some 7, .rangeS (.t 6), none⟩] [3, 7] [] [[0]])
            (.block 0
              (.loop [3, 7]
                b_dkim_stripWhitespace_1)))
          t_dkim_stripWhitespace_2))),
  [.t 2]⟩

def l_dkim_stripWhitespace : Lay := { rg := [(0, ([0], [])), (1, ([0, 3], [])), (2, ([3, 7], [])), (3, ([3, 7, 8, 9], [])), (4, ([3, 5, 7], [])), (5, ([3, 5, 7, 13], [])), (6, ([3, 7], [])), (7, ([2], [7, 17])), (1000003, ([3, 7], []))], dd := [(2, [[0]]), (4, [[8]]), (5, [[], [11]]), (6, [[], [5], [15], [14, 16]]), (7, [[3], [18]])] }

/- strings.FieldsFunc -/
def b_strings_FieldsFunc_1 : SCode :=
  (.seq
    (.region [
      ⟨some 15, .nextS (.t 14), none⟩,
      ⟨some 16, .extr (.t 15) 0, none⟩] [0, 1, 5, 6, 14, 15, 16] [] [])
    (.seq
      (.cond (.t 16)
        .skip
        (.exit 0))
      (.block 1
        (.seq
          (.region [
            ⟨some 17, .extr (.t 15) 1, none⟩,
            ⟨some 18, .extr (.t 15) 2, none⟩,
            ⟨some 7, .mv (.t 17), none⟩,
            ⟨some 8, .mv (.t 18), none⟩] [0, 1, 5, 6, 7, 8, 14] [] [[], [15], [17]])
          (.seq
            (.region [
              ⟨some 19, .mv (.t 1), none⟩,
              ⟨some 20, .mv (.t 8), none⟩,
              ⟨some 21, .callV (.t 19) [(.t 20)], none⟩] [0, 1, 5, 6, 7, 14, 21] [] [[], [8]])
            (.cond (.t 21)
              (.seq
                (.region [
                  ⟨some 22, .mv (.t 6), none⟩,
                  ⟨some 23, .bin .geq (.t 22) (.k (.int .i64 0)), none⟩] [0, 1, 5, 6, 7, 14, 23] [] [])
                (.cond (.t 23)
                  (.seq
                    (.region [
                      ⟨some 24, .mv (.t 5), none⟩,
                      ⟨some 25, .mv (.t 6), none⟩,
                      ⟨some 26, .mv (.t 7), none⟩,
                      ⟨some 27, .agg [(.int .i64 0), (.int .i64 0)] [(0, 1, (.t 25)), (1, 1, (.t 26))], none⟩,
                      ⟨some 28, .mkSl 2 1 [(.int .i64 0), (.int .i64 0)] [(0, (.t 27))], none⟩,
                      ⟨some 29, .app 2 16 (.t 24) (.t 28), none⟩,
                      ⟨some 5, .mv (.t 29), none⟩] [0, 1, 5, 6, 14] [28] [[], [], [7], [25, 26], [27], [24, 28]])
                    (.region [
                      ⟨some 30, .mv (.t 6), none⟩,
                      ⟨some 31, .un .xor (.t 30), none⟩,
                      ⟨some 6, .mv (.t 31), none⟩] [0, 1, 5, 6, 14] [] [[], [30]]))
                  .skip))
              (.seq
                (.region [
                  ⟨some 32, .mv (.t 6), none⟩,
                  ⟨some 33, .bin .lss (.t 32) (.k (.int .i64 0)), none⟩] [0, 1, 5, 6, 7, 14, 33] [] [])
                (.cond (.t 33)
                  (.region [
                    ⟨some 34, .mv (.t 7), none⟩,
                    ⟨some 6, .mv (.t 34), none⟩] [0, 1, 5, 6, 14] [] [[7]])
                  .skip))))))))

def b_strings_FieldsFunc_2 : SCode :=
  (.seq
    (.region [
      ⟨some 50, .bin .lss (.t 49) (.t 48), none⟩] [0, 9, 47, 48, 49, 50] [] [])
    (.seq
      (.cond (.t 50)
        .skip
        (.exit 2))
      (.seq
        (.block 3
          (.seq
            (.region [
              ⟨some 51, .mv (.t 49), none⟩,
              ⟨some 52, .iAddr 2 (.t 47) (.t 49), none⟩,
              ⟨some 53, .load (some 2) (.t 52), none⟩,
              ⟨some 11, .alloc [(.int .i64 0), (.int .i64 0)], none⟩,
              ⟨some 10, .mv (.t 51), none⟩,
              ⟨none, .store 2 (.t 11) (.t 53), none⟩] [0, 9, 10, 11, 47, 48, 49] [] [[], [], [52], [], [51]])
            (.region [
              ⟨some 54, .mv (.t 9), none⟩,
              ⟨some 55, .mv (.t 10), none⟩,
              ⟨some 56, .mv (.t 0), none⟩,
              ⟨some 57, .fAddr 0 (.t 11), none⟩,
              ⟨some 58, .load none (.t 57), none⟩,
              ⟨some 59, .fAddr 1 (.t 11), none⟩,
              ⟨some 60, .load none (.t 59), none⟩,
              ⟨some 61, .slStr (.t 56) (some (.t 58)) (some (.t 60)), none⟩,
              ⟨some 62, .iAddr 1 (.t 54) (.t 55), none⟩,
              ⟨none, .store 1 (.t 62) (.t 61), none⟩] [0, 9, 47, 48, 49] [11] [[], [10], [], [], [57], [11], [59], [56, 58, 60], [54, 55]])))
        (.region [
          ⟨some 63, .bin .add (.t 49) (.k (.int .i64 1)), none⟩,
          ⟨some 49, .mv (.t 63), none⟩] [0, 9, 47, 48, 49] [] []))))

def t_strings_FieldsFunc_3 : SCode :=
  (.seq
    (.region [
      ⟨some 64, .mv (.t 9), none⟩,
      ⟨some 4, .mv (.t 64), none⟩] [4] [12, 29, 43] [[9]])
    .ret)

def t_strings_FieldsFunc_4 : SCode :=
  (.seq
    (.seq
      (.region [
        ⟨some 35, .mv (.t 6), none⟩,
        ⟨some 36, .bin .geq (.t 35) (.k (.int .i64 0)), none⟩] [0, 5, 6, 36] [14] [])
      (.cond (.t 36)
        (.region [
          ⟨some 37, .mv (.t 5), none⟩,
          ⟨some 38, .mv (.t 6), none⟩,
          ⟨some 39, .mv (.t 0), none⟩,
          ⟨some 40, .len 0 (.t 39), none⟩,
          ⟨some 41, .agg [(.int .i64 0), (.int .i64 0)] [(0, 1, (.t 38)), (1, 1, (.t 40))], none⟩,
          ⟨some 42, .mkSl 2 1 [(.int .i64 0), (.int .i64 0)] [(0, (.t 41))], none⟩,
          ⟨some 43, .app 2 16 (.t 37) (.t 42), none⟩,
          ⟨some 5, .mv (.t 43), none⟩] [0, 5] [42] [[], [6], [], [39], [38, 40], [41], [37, 42]])
        .skip))
    (.seq
      (.region [
        ⟨some 44, .mv (.t 5), none⟩,
        ⟨some 45, .len 1 (.t 44), none⟩,
        ⟨some 46, .mkSlice 1 16 [(.str [])] (.t 45) (.t 45), none⟩,
        ⟨some 9, .mv (.t 46), none⟩] [0, 5, 9] [] [[], [44], [45]])
      (.seq
        (.seq
          (.region [
            ⟨some 47, .mv (.t 5), none⟩,
            ⟨some 48, .len 1 (.t 47), none⟩,
            ⟨some 49, .mv (.k (.int .i64 0)), none⟩] [0, 9, 47, 48, 49] [] [[5]])
          (.block 2
            (.loop [0, 9, 47, 48, 49]
              b_strings_FieldsFunc_2)))
        t_strings_FieldsFunc_3)))

def c_strings_FieldsFunc : SFn := ⟨2,
    (.seq
      (.region [
        ⟨some 4, .mv (.k .nilS), none⟩] [0, 1] [] [])
      (.seq
        (.region [
          ⟨some 12, .mkSlice 2 16 [(.int .i64 0), (.int .i64 0)] (.k (.int .i64 0)) (.k (.int .i64 32)), none⟩,
          ⟨some 5, .mv (.t 12), none⟩] [0, 1, 5] [] [])
        (.seq
          (.region [
            ⟨some 6, .mv (.k (.int .i64 (-1))), none⟩] [0, 1, 5, 6] [] [])
          (.seq
            (.seq
              (.region [
                ⟨some 13, .mv (.t 0), none⟩,
                ⟨some 14, .rangeS (.t 13), none⟩] [0, 1, 5, 6, 14] [] [])
              (.block 0
                (.loop [0, 1, 5, 6, 14]
                  b_strings_FieldsFunc_1)))
            t_strings_FieldsFunc_4)))),
  [.t 4]⟩

def l_strings_FieldsFunc : Lay := { rg := [(0, ([0, 1], [])), (1, ([0, 1, 5], [])), (2, ([0, 1, 5, 6], [])), (3, ([0, 1, 5, 6, 14], [])), (4, ([0, 1, 5, 6, 14, 15, 16], [])), (5, ([0, 1, 5, 6, 7, 8, 14], [])), (6, ([0, 1, 5, 6, 7, 14, 21], [])), (7, ([0, 1, 5, 6, 7, 14, 23], [])), (8, ([0, 1, 5, 6, 14], [28])), (9, ([0, 1, 5, 6, 14], [])), (10, ([0, 1, 5, 6, 7, 14, 33], [])), (11, ([0, 1, 5, 6, 14], [])), (12, ([0, 5, 6, 36], [14])), (13, ([0, 5], [42])), (14, ([0, 5, 9], [])), (15, ([0, 9, 47, 48, 49], [])), (16, ([0, 9, 47, 48, 49, 50], [])), (17, ([0, 9, 10, 11, 47, 48, 49], [])), (18, ([0, 9, 47, 48, 49], [11])), (19, ([0, 9, 47, 48, 49], [])), (20, ([4], [12, 29, 43])), (1000004, ([0, 1, 5, 6, 14], [])), (1000016, ([0, 9, 47, 48, 49], []))], dd := [(5, [[], [15], [17]]), (6, [[], [8]]), (8, [[], [], [7], [25, 26], [27], [24, 28]]), (9, [[], [30]]), (11, [[7]]), (13, [[], [6], [], [39], [38, 40], [41], [37, 42]]), (14, [[], [44], [45]]), (15, [[5]]), (17, [[], [], [52], [], [51]]), (18, [[], [10], [], [], [57], [11], [59], [56, 58, 60], [54, 55]]), (20, [[9]])] }

/- laws.zzFits7 -/
def b_laws_zzFits7_1 : SCode :=
  (.seq
    (.region [
      ⟨some 11, .bin .lss (.t 10) (.t 9), none⟩] [8, 9, 10, 11] [] [])
    (.seq
      (.cond (.t 11)
        .skip
        (.exit 0))
      (.seq
        (.block 1
          (.seq
            (.region [
              ⟨some 12, .iAddr 1 (.t 8) (.t 10), none⟩,
              ⟨some 13, .load none (.t 12), none⟩,
              ⟨some 4, .mv (.t 13), none⟩] [4, 8, 9, 10] [] [[], [12]])
            (.seq
              (.region [
                ⟨some 14, .mv (.t 4), none⟩,
                ⟨some 15, .len 0 (.t 14), none⟩,
                ⟨some 16, .bin .gtr (.t 15) (.k (.int .i64 2147483647)), none⟩] [8, 9, 10, 16] [] [[4], [14]])
              (.cond (.t 16)
                (.seq
                  (.region [
                    ⟨some 2, .mv (.k (.bool false)), none⟩] [2] [] [])
                  .ret)
                .skip))))
        (.region [
          ⟨some 17, .bin .add (.t 10) (.k (.int .i64 1)), none⟩,
          ⟨some 10, .mv (.t 17), none⟩] [8, 9, 10] [] []))))

def t_laws_zzFits7_2 : SCode :=
  (.seq
    (.region [
      ⟨some 2, .mv (.k (.bool true)), none⟩] [2] [] [])
    .ret)

def c_laws_zzFits7 : SFn := ⟨1,
    (.seq
      (.region [
        ⟨some 2, .mv (.k (.bool false)), none⟩] [0] [] [])
      (.seq
        (.seq
          (.region [
            ⟨some 5, .mv (.t 0), none⟩,
            ⟨some 6, .len 1 (.t 5), none⟩,
            ⟨some 7, .bin .gtr (.t 6) (.k (.int .i64 2147483647)), none⟩] [0, 7] [] [[], [5]])
          (.cond (.t 7)
            (.seq
              (.region [
                ⟨some 2, .mv (.k (.bool false)), none⟩] [2] [] [])
              .ret)
            .skip))
        (.seq
          (.seq
            (.region [
              ⟨some 8, .mv (.t 0), none⟩,
              ⟨some 9, .len 1 (.t 8), none⟩,
              ⟨some 10, .mv (.k (.int .i64 0)), none⟩] [8, 9, 10] [] [[0]])
            (.block 0
              (.loop [8, 9, 10]
                b_laws_zzFits7_1)))
          t_laws_zzFits7_2))),
  [.t 2]⟩

def l_laws_zzFits7 : Lay := { rg := [(0, ([0], [])), (1, ([0, 7], [])), (2, ([2], [])), (3, ([8, 9, 10], [])), (4, ([8, 9, 10, 11], [])), (5, ([4, 8, 9, 10], [])), (6, ([8, 9, 10, 16], [])), (7, ([2], [])), (8, ([8, 9, 10], [])), (9, ([2], [])), (1000004, ([8, 9, 10], []))], dd := [(1, [[], [5]]), (3, [[0]]), (5, [[], [12]]), (6, [[4], [14]])] }

/- laws.FnDCanonAgain -/
def b_laws_FnDCanonAgain_1 : SCode :=
  (.seq
    (.seq
      (.region [
        ⟨some 57, .mv (.t 7), none⟩,
        ⟨some 58, .mv (.t 0), none⟩,
        ⟨some 59, .len 0 (.t 58), none⟩,
        ⟨some 60, .bin .lss (.t 57) (.t 59), none⟩] [0, 1, 2, 7, 60] [] [[], [], [58]])
      (.cond (.t 60)
        .skip
        (.exit 0)))
    (.seq
      (.block 1
        (.seq
          (.region [
            ⟨some 63, .mv (.t 0), none⟩,
            ⟨some 64, .mv (.t 7), none⟩,
            ⟨some 65, .iStr (.t 63) (.t 64), none⟩,
            ⟨some 8, .mv (.t 65), none⟩] [0, 1, 2, 7, 8] [] [[], [], [63, 64]])
          (.seq
            (.region [
              ⟨some 66, .mv (.t 8), none⟩,
              ⟨some 67, .bin .leq (.t 66) (.k (.int .u8 32)), none⟩,
              ⟨some 68, .mv (.t 67), none⟩,
              ⟨some 69, .mv (.t 8), some (68, false)⟩,
              ⟨some 70, .bin .eql (.t 69) (.k (.int .u8 58)), some (68, false)⟩,
              ⟨some 71, .pick (.t 68) (.k (.bool true)) (.t 70), none⟩,
              ⟨some 72, .mv (.t 71), none⟩,
              ⟨some 73, .mv (.t 8), some (72, false)⟩,
              ⟨some 74, .bin .eql (.t 73) (.k (.int .u8 127)), some (72, false)⟩,
              ⟨some 75, .pick (.t 72) (.k (.bool true)) (.t 74), none⟩] [0, 1, 2, 7, 75] [] [[], [66], [67], [], [69], [68, 70], [71], [8], [73]])
            (.cond (.t 75)
              (.seq
                (.region [
                  ⟨some 76, .call 11 [], none⟩,
                  ⟨some 6, .mv (.t 76), none⟩] [6] [] [])
                .ret)
              .skip))))
      (.region [
        ⟨some 61, .mv (.t 7), none⟩,
        ⟨some 62, .bin .add (.t 61) (.k (.int .i64 1)), none⟩,
        ⟨some 7, .mv (.t 62), none⟩] [0, 1, 2, 7] [] [[], [61]])))

def b_laws_FnDCanonAgain_2 : SCode :=
  (.seq
    (.seq
      (.region [
        ⟨some 77, .mv (.t 9), none⟩,
        ⟨some 78, .mv (.t 1), none⟩,
        ⟨some 79, .len 1 (.t 78), none⟩,
        ⟨some 80, .bin .lss (.t 77) (.t 79), none⟩] [0, 1, 2, 9, 80] [] [[], [], [78]])
      (.cond (.t 80)
        .skip
        (.exit 2)))
    (.seq
      (.block 3
        (.seq
          (.region [
            ⟨some 83, .mv (.t 1), none⟩,
            ⟨some 84, .mv (.t 9), none⟩,
            ⟨some 85, .iAddr 1 (.t 83) (.t 84), none⟩,
            ⟨some 86, .load none (.t 85), none⟩,
            ⟨some 87, .call 27 [(.t 86)], none⟩,
            ⟨some 88, .mv (.t 1), none⟩,
            ⟨some 89, .mv (.t 9), none⟩,
            ⟨some 90, .iAddr 1 (.t 88) (.t 89), none⟩,
            ⟨some 91, .load none (.t 90), none⟩,
            ⟨some 92, .bin .neq (.t 87) (.t 91), none⟩,
            ⟨some 93, .mv (.t 92), none⟩,
            ⟨some 94, .mv (.t 1), some (93, false)⟩,
            ⟨some 95, .mv (.t 9), some (93, false)⟩,
            ⟨some 96, .iAddr 1 (.t 94) (.t 95), some (93, false)⟩,
            ⟨some 97, .load none (.t 96), some (93, false)⟩,
            ⟨some 98, .bin .eql (.t 97) (.k (.str [])), some (93, false)⟩,
            ⟨some 99, .pick (.t 93) (.k (.bool true)) (.t 98), none⟩] [0, 1, 2, 9, 99] [] [])
          (.cond (.t 99)
            (.seq
              (.region [
                ⟨some 100, .call 11 [], none⟩,
                ⟨some 6, .mv (.t 100), none⟩] [6] [] [])
              .ret)
            .skip)))
      (.region [
        ⟨some 81, .mv (.t 9), none⟩,
        ⟨some 82, .bin .add (.t 81) (.k (.int .i64 1)), none⟩,
        ⟨some 9, .mv (.t 82), none⟩] [0, 1, 2, 9] [] [[], [81]])))

def b_laws_FnDCanonAgain_3 : SCode :=
  (.seq
    (.seq
      (.region [
        ⟨some 101, .mv (.t 10), none⟩,
        ⟨some 102, .mv (.t 2), none⟩,
        ⟨some 103, .len 1 (.t 102), none⟩,
        ⟨some 104, .bin .lss (.t 101) (.t 103), none⟩] [0, 1, 2, 10, 104] [] [[], [], [102]])
      (.cond (.t 104)
        .skip
        (.exit 4)))
    (.seq
      (.block 5
        (.seq
          (.region [
            ⟨some 107, .mv (.t 2), none⟩,
            ⟨some 108, .mv (.t 10), none⟩,
            ⟨some 109, .iAddr 1 (.t 107) (.t 108), none⟩,
            ⟨some 110, .load none (.t 109), none⟩,
            ⟨some 111, .call 27 [(.t 110)], none⟩,
            ⟨some 112, .bin .neq (.t 111) (.k (.str [])), none⟩,
            ⟨some 113, .mv (.t 112), none⟩,
            ⟨some 114, .mv (.t 2), some (113, false)⟩,
            ⟨some 115, .mv (.t 10), some (113, false)⟩,
            ⟨some 116, .iAddr 1 (.t 114) (.t 115), some (113, false)⟩,
            ⟨some 117, .load none (.t 116), some (113, false)⟩,
            ⟨some 118, .bin .eql (.t 117) (.k (.str [])), some (113, false)⟩,
            ⟨some 119, .pick (.t 113) (.k (.bool true)) (.t 118), none⟩] [0, 1, 2, 10, 119] [] [[], [], [107, 108], [109], [110], [111], [112], [], [], [114, 115], [116], [117]])
          (.cond (.t 119)
            (.seq
              (.region [
                ⟨some 120, .call 11 [], none⟩,
                ⟨some 6, .mv (.t 120), none⟩] [6] [] [])
              .ret)
            .skip)))
      (.region [
        ⟨some 105, .mv (.t 10), none⟩,
        ⟨some 106, .bin .add (.t 105) (.k (.int .i64 1)), none⟩,
        ⟨some 10, .mv (.t 106), none⟩] [0, 1, 2, 10] [] [[], [105]])))

def b_laws_FnDCanonAgain_4 : SCode :=
  (.seq
    (.seq
      (.region [
        ⟨some 129, .mv (.t 13), none⟩,
        ⟨some 130, .mv (.t 1), none⟩,
        ⟨some 131, .len 1 (.t 130), none⟩,
        ⟨some 132, .bin .lss (.t 129) (.t 131), none⟩] [0, 1, 2, 11, 12, 13, 132] [] [[], [], [130]])
      (.cond (.t 132)
        .skip
        (.exit 6)))
    (.seq
      (.block 7
        (.seq
          (.seq
            (.region [
              ⟨some 135, .mv (.t 13), none⟩,
              ⟨some 136, .bin .gtr (.t 135) (.k (.int .i64 0)), none⟩] [0, 1, 2, 11, 12, 13, 136] [] [])
            (.cond (.t 136)
              (.region [
                ⟨some 137, .mv (.t 11), none⟩,
                ⟨some 138, .bin .add (.t 137) (.k (.str [32])), none⟩,
                ⟨some 11, .mv (.t 138), none⟩] [0, 1, 2, 11, 12, 13] [] [[], [137]])
              .skip))
          (.seq
            (.region [
              ⟨some 139, .mv (.t 11), none⟩,
              ⟨some 140, .mv (.t 1), none⟩,
              ⟨some 141, .mv (.t 13), none⟩,
              ⟨some 142, .iAddr 1 (.t 140) (.t 141), none⟩,
              ⟨some 143, .load none (.t 142), none⟩,
              ⟨some 144, .bin .add (.t 139) (.t 143), none⟩,
              ⟨some 11, .mv (.t 144), none⟩] [0, 1, 2, 11, 12, 13] [] [[], [], [], [140, 141], [142], [139, 143]])
            (.region [
              ⟨some 145, .mv (.t 12), none⟩,
              ⟨some 146, .mv (.t 2), none⟩,
              ⟨some 147, .mv (.t 13), none⟩,
              ⟨some 148, .mv (.t 2), none⟩,
              ⟨some 149, .len 1 (.t 148), none⟩,
              ⟨some 150, .bin .rem (.t 147) (.t 149), none⟩,
              ⟨some 151, .iAddr 1 (.t 146) (.t 150), none⟩,
              ⟨some 152, .load none (.t 151), none⟩,
              ⟨some 153, .bin .add (.t 145) (.t 152), none⟩,
              ⟨some 154, .mv (.t 1), none⟩,
              ⟨some 155, .mv (.t 13), none⟩,
              ⟨some 156, .iAddr 1 (.t 154) (.t 155), none⟩,
              ⟨some 157, .load none (.t 156), none⟩,
              ⟨some 158, .bin .add (.t 153) (.t 157), none⟩,
              ⟨some 12, .mv (.t 158), none⟩] [0, 1, 2, 11, 12, 13] [] []))))
      (.region [
        ⟨some 133, .mv (.t 13), none⟩,
        ⟨some 134, .bin .add (.t 133) (.k (.int .i64 1)), none⟩,
        ⟨some 13, .mv (.t 134), none⟩] [0, 1, 2, 11, 12, 13] [] [[], [133]])))

def t_laws_FnDCanonAgain_5 : SCode :=
  (.seq
    (.region [
      ⟨some 159, .mv (.t 11), none⟩,
      ⟨some 160, .bin .add (.t 159) (.k (.str [13, 10])), none⟩,
      ⟨some 161, .call 8 [(.k (.str [114, 101, 108, 97, 120, 101, 100])), (.t 160)], none⟩,
      ⟨some 14, .mv (.t 161), none⟩] [0, 2, 11, 12, 14] [] [[], [159], [160]])
    (.seq
      (.region [
        ⟨some 162, .mv (.t 12), none⟩,
        ⟨some 163, .mv (.t 2), none⟩,
        ⟨some 164, .iAddr 1 (.t 163) (.k (.int .i64 0)), none⟩,
        ⟨some 165, .load none (.t 164), none⟩,
        ⟨some 166, .bin .add (.t 162) (.t 165), none⟩,
        ⟨some 167, .bin .add (.t 166) (.k (.str [13, 10])), none⟩,
        ⟨some 168, .call 8 [(.k (.str [114, 101, 108, 97, 120, 101, 100])), (.t 167)], none⟩,
        ⟨some 169, .mv (.t 14), none⟩,
        ⟨some 170, .bin .eql (.t 168) (.t 169), none⟩,
        ⟨some 171, .mv (.t 170), none⟩,
        ⟨some 172, .mv (.t 14), some (171, true)⟩,
        ⟨some 173, .call 8 [(.k (.str [114, 101, 108, 97, 120, 101, 100])), (.t 172)], some (171, true)⟩,
        ⟨some 174, .mv (.t 14), some (171, true)⟩,
        ⟨some 175, .bin .eql (.t 173) (.t 174), some (171, true)⟩,
        ⟨some 176, .pick (.t 171) (.t 175) (.k (.bool false)), none⟩,
        ⟨some 177, .mv (.t 176), none⟩,
        ⟨some 178, .mv (.t 14), some (177, true)⟩,
        ⟨some 179, .mv (.t 0), some (177, true)⟩,
        ⟨some 180, .call 4 [(.t 179)], some (177, true)⟩,
        ⟨some 181, .mv (.t 11), some (177, true)⟩,
        ⟨some 182, .mv (.t 0), some (177, true)⟩,
        ⟨some 183, .len 0 (.t 182), some (177, true)⟩,
        ⟨some 184, .slStr (.t 181) (some (.t 183)) none, some (177, true)⟩,
        ⟨some 185, .bin .add (.t 180) (.t 184), some (177, true)⟩,
        ⟨some 186, .bin .add (.t 185) (.k (.str [13, 10])), some (177, true)⟩,
        ⟨some 187, .bin .eql (.t 178) (.t 186), some (177, true)⟩,
        ⟨some 188, .pick (.t 177) (.t 187) (.k (.bool false)), none⟩,
        ⟨some 6, .mv (.t 188), none⟩] [6] [] [])
      .ret))

def t_laws_FnDCanonAgain_6 : SCode :=
  (.seq
    (.region [
      ⟨some 121, .mv (.t 0), none⟩,
      ⟨some 122, .bin .add (.t 121) (.k (.str [58])), none⟩,
      ⟨some 123, .mv (.t 0), none⟩,
      ⟨some 124, .mv (.t 2), none⟩,
      ⟨some 125, .iAddr 1 (.t 124) (.k (.int .i64 0)), none⟩,
      ⟨some 126, .load none (.t 125), none⟩,
      ⟨some 127, .bin .add (.t 123) (.t 126), none⟩,
      ⟨some 128, .bin .add (.t 127) (.k (.str [58])), none⟩,
      ⟨some 11, .mv (.t 122), none⟩,
      ⟨some 12, .mv (.t 128), none⟩] [0, 1, 2, 11, 12] [] [])
    (.seq
      (.seq
        (.region [
          ⟨some 13, .mv (.k (.int .i64 0)), none⟩] [0, 1, 2, 11, 12, 13] [] [])
        (.block 6
          (.loop [0, 1, 2, 11, 12, 13]
            b_laws_FnDCanonAgain_4)))
      t_laws_FnDCanonAgain_5))

def t_laws_FnDCanonAgain_7 : SCode :=
  (.seq
    (.seq
      (.region [
        ⟨some 10, .mv (.k (.int .i64 0)), none⟩] [0, 1, 2, 10] [] [])
      (.block 4
        (.loop [0, 1, 2, 10]
          b_laws_FnDCanonAgain_3)))
    t_laws_FnDCanonAgain_6)

def t_laws_FnDCanonAgain_8 : SCode :=
  (.seq
    (.seq
      (.region [
        ⟨some 9, .mv (.k (.int .i64 0)), none⟩] [0, 1, 2, 9] [] [])
      (.block 2
        (.loop [0, 1, 2, 9]
          b_laws_FnDCanonAgain_2)))
    t_laws_FnDCanonAgain_7)

def c_laws_FnDCanonAgain : SFn := ⟨3,
    (.seq
      (.region [
        ⟨some 6, .mv (.k (.bool false)), none⟩] [0, 1, 2] [] [])
      (.seq
        (.seq
          (.region [
            ⟨some 15, .mv (.t 0), none⟩,
            ⟨some 16, .len 0 (.t 15), none⟩,
            ⟨some 17, .bin .gtr (.t 16) (.k (.int .i64 2147483647)), none⟩,
            ⟨some 18, .mv (.t 17), none⟩,
            ⟨some 19, .mv (.t 1), some (18, false)⟩,
            ⟨some 20, .call 32 [(.t 19)], some (18, false)⟩,
            ⟨some 21, .un .not (.t 20), some (18, false)⟩,
            ⟨some 22, .pick (.t 18) (.k (.bool true)) (.t 21), none⟩,
            ⟨some 23, .mv (.t 22), none⟩,
            ⟨some 24, .mv (.t 2), some (23, false)⟩,
            ⟨some 25, .call 32 [(.t 24)], some (23, false)⟩,
            ⟨some 26, .un .not (.t 25), some (23, false)⟩,
            ⟨some 27, .pick (.t 23) (.k (.bool true)) (.t 26), none⟩] [0, 1, 2, 27] [] [[], [15], [16], [17], [], [19], [20], [18, 21], [22], [], [24], [25]])
          (.cond (.t 27)
            (.seq
              (.region [
                ⟨some 6, .mv (.k (.bool true)), none⟩] [6] [] [])
              .ret)
            .skip))
        (.seq
          (.seq
            (.region [
              ⟨some 28, .mv (.t 0), none⟩,
              ⟨some 29, .mkSl 1 1 [(.str [])] [(0, (.t 28))], none⟩,
              ⟨some 30, .call 10 [(.k (.int .i64 200)), (.t 29)], none⟩,
              ⟨some 31, .un .not (.t 30), none⟩,
              ⟨some 32, .mv (.t 31), none⟩,
              ⟨some 33, .mv (.t 1), some (32, false)⟩,
              ⟨some 34, .call 10 [(.k (.int .i64 200)), (.t 33)], some (32, false)⟩,
              ⟨some 35, .un .not (.t 34), some (32, false)⟩,
              ⟨some 36, .pick (.t 32) (.k (.bool true)) (.t 35), none⟩,
              ⟨some 37, .mv (.t 36), none⟩,
              ⟨some 38, .mv (.t 2), some (37, false)⟩,
              ⟨some 39, .call 10 [(.k (.int .i64 20)), (.t 38)], some (37, false)⟩,
              ⟨some 40, .un .not (.t 39), some (37, false)⟩,
              ⟨some 41, .pick (.t 37) (.k (.bool true)) (.t 40), none⟩,
              ⟨some 42, .mv (.t 41), none⟩,
              ⟨some 43, .mv (.t 0), some (42, false)⟩,
              ⟨some 44, .bin .eql (.t 43) (.k (.str [])), some (42, false)⟩,
              ⟨some 45, .pick (.t 42) (.k (.bool true)) (.t 44), none⟩,
              ⟨some 46, .mv (.t 45), none⟩,
              ⟨some 47, .mv (.t 1), some (46, false)⟩,
              ⟨some 48, .len 1 (.t 47), some (46, false)⟩,
              ⟨some 49, .bin .eql (.t 48) (.k (.int .i64 0)), some (46, false)⟩,
              ⟨some 50, .pick (.t 46) (.k (.bool true)) (.t 49), none⟩,
              ⟨some 51, .mv (.t 50), none⟩,
              ⟨some 52, .mv (.t 2), some (51, false)⟩,
              ⟨some 53, .len 1 (.t 52), some (51, false)⟩,
              ⟨some 54, .bin .eql (.t 53) (.k (.int .i64 0)), some (51, false)⟩,
              ⟨some 55, .pick (.t 51) (.k (.bool true)) (.t 54), none⟩] [0, 1, 2, 55] [29] [[], [28], [29], [30], [31], [], [33], [34], [32, 35], [36], [], [38], [39], [37, 40], [41], [], [43], [42, 44], [45], [], [47], [48], [46, 49], [50], [], [52], [53]])
            (.cond (.t 55)
              (.seq
                (.region [
                  ⟨some 56, .call 11 [], none⟩,
                  ⟨some 6, .mv (.t 56), none⟩] [6] [] [])
                .ret)
              .skip))
          (.seq
            (.seq
              (.region [
                ⟨some 7, .mv (.k (.int .i64 0)), none⟩] [0, 1, 2, 7] [] [])
              (.block 0
                (.loop [0, 1, 2, 7]
                  b_laws_FnDCanonAgain_1)))
            t_laws_FnDCanonAgain_8)))),
  [.t 6]⟩

def l_laws_FnDCanonAgain : Lay := { rg := [(0, ([0, 1, 2], [])), (1, ([0, 1, 2, 27], [])), (2, ([6], [])), (3, ([0, 1, 2, 55], [29])), (4, ([6], [])), (5, ([0, 1, 2, 7], [])), (6, ([0, 1, 2, 7, 60], [])), (7, ([0, 1, 2, 7], [])), (8, ([0, 1, 2, 7, 8], [])), (9, ([0, 1, 2, 7, 75], [])), (10, ([6], [])), (11, ([0, 1, 2, 9], [])), (12, ([0, 1, 2, 9, 80], [])), (13, ([0, 1, 2, 9], [])), (14, ([0, 1, 2, 9, 99], [])), (15, ([6], [])), (16, ([0, 1, 2, 10], [])), (17, ([0, 1, 2, 10, 104], [])), (18, ([0, 1, 2, 10], [])), (19, ([0, 1, 2, 10, 119], [])), (20, ([6], [])), (21, ([0, 1, 2, 11, 12], [])), (22, ([0, 1, 2, 11, 12, 13], [])), (23, ([0, 1, 2, 11, 12, 13, 132], [])), (24, ([0, 1, 2, 11, 12, 13], [])), (25, ([0, 1, 2, 11, 12, 13, 136], [])), (26, ([0, 1, 2, 11, 12, 13], [])), (27, ([0, 1, 2, 11, 12, 13], [])), (28, ([0, 1, 2, 11, 12, 13], [])), (29, ([0, 2, 11, 12, 14], [])), (30, ([6], [])), (1000006, ([0, 1, 2, 7], [])), (1000012, ([0, 1, 2, 9], [])), (1000017, ([0, 1, 2, 10], [])), (1000023, ([0, 1, 2, 11, 12, 13], []))], dd := [(1, [[], [15], [16], [17], [], [19], [20], [18, 21], [22], [], [24], [25]]), (3, [[], [28], [29], [30], [31], [], [33], [34], [32, 35], [36], [], [38], [39], [37, 40], [41], [], [43], [42, 44], [45], [], [47], [48], [46, 49], [50], [], [52], [53]]), (6, [[], [], [58]]), (7, [[], [61]]), (8, [[], [], [63, 64]]), (9, [[], [66], [67], [], [69], [68, 70], [71], [8], [73]]), (12, [[], [], [78]]), (13, [[], [81]]), (17, [[], [], [102]]), (18, [[], [105]]), (19, [[], [], [107, 108], [109], [110], [111], [112], [], [], [114, 115], [116], [117]]), (23, [[], [], [130]]), (24, [[], [133]]), (26, [[], [137]]), (27, [[], [], [], [140, 141], [142], [139, 143]]), (29, [[], [159], [160]])] }

/- laws.FnDPicks -/
def c_laws_FnDPicks : SFn := ⟨2,
    (.seq
      (.region [
        ⟨some 4, .mv (.k (.bool false)), none⟩] [0, 1] [] [])
      (.seq
        (.seq
          (.region [
            ⟨some 5, .mv (.t 0), none⟩,
            ⟨some 6, .call 32 [(.t 5)], none⟩,
            ⟨some 7, .un .not (.t 6), none⟩,
            ⟨some 8, .mv (.t 7), none⟩,
            ⟨some 9, .mv (.t 1), some (8, false)⟩,
            ⟨some 10, .call 32 [(.t 9)], some (8, false)⟩,
            ⟨some 11, .un .not (.t 10), some (8, false)⟩,
            ⟨some 12, .pick (.t 8) (.k (.bool true)) (.t 11), none⟩] [0, 1, 12] [] [[], [5], [6], [7], [], [9], [10]])
          (.cond (.t 12)
            (.seq
              (.region [
                ⟨some 4, .mv (.k (.bool true)), none⟩] [4] [] [])
              .ret)
            .skip))
        (.seq
          (.seq
            (.region [
              ⟨some 13, .mv (.t 0), none⟩,
              ⟨some 14, .call 10 [(.k (.int .i64 1000)), (.t 13)], none⟩,
              ⟨some 15, .un .not (.t 14), none⟩,
              ⟨some 16, .mv (.t 15), none⟩,
              ⟨some 17, .mv (.t 1), some (16, false)⟩,
              ⟨some 18, .call 10 [(.k (.int .i64 1000)), (.t 17)], some (16, false)⟩,
              ⟨some 19, .un .not (.t 18), some (16, false)⟩,
              ⟨some 20, .pick (.t 16) (.k (.bool true)) (.t 19), none⟩,
              ⟨some 21, .mv (.t 20), none⟩,
              ⟨some 22, .mv (.t 0), some (21, false)⟩,
              ⟨some 23, .len 1 (.t 22), some (21, false)⟩,
              ⟨some 24, .bin .gtr (.t 23) (.k (.int .i64 50)), some (21, false)⟩,
              ⟨some 25, .pick (.t 21) (.k (.bool true)) (.t 24), none⟩,
              ⟨some 26, .mv (.t 25), none⟩,
              ⟨some 27, .mv (.t 1), some (26, false)⟩,
              ⟨some 28, .len 1 (.t 27), some (26, false)⟩,
              ⟨some 29, .bin .gtr (.t 28) (.k (.int .i64 50)), some (26, false)⟩,
              ⟨some 30, .pick (.t 26) (.k (.bool true)) (.t 29), none⟩] [0, 1, 30] [] [[], [13], [14], [15], [], [17], [18], [16, 19], [20], [], [22], [23], [21, 24], [25], [], [27], [28]])
            (.cond (.t 30)
              (.seq
                (.region [
                  ⟨some 31, .call 11 [], none⟩,
                  ⟨some 4, .mv (.t 31), none⟩] [4] [] [])
                .ret)
              .skip))
          (.seq
            (.region [
              ⟨some 32, .mv (.t 0), none⟩,
              ⟨some 33, .mv (.t 1), none⟩,
              ⟨some 34, .call 33 [(.t 32), (.t 33)], none⟩,
              ⟨some 35, .mv (.t 0), none⟩,
              ⟨some 36, .mv (.t 1), none⟩,
              ⟨some 37, .call 34 [(.t 35), (.t 36)], none⟩,
              ⟨some 38, .call 35 [(.t 34), (.t 37)], none⟩,
              ⟨some 39, .mv (.t 38), none⟩,
              ⟨some 40, .mkSlF 1 1 [(.str [])] [(0, (.k (.str [65, 58, 32, 98, 13, 10])))], some (39, true)⟩,
              ⟨some 41, .mkSlF 1 1 [(.str [])] [(0, (.k (.str [97])))], some (39, true)⟩,
              ⟨some 42, .call 33 [(.t 40), (.t 41)], some (39, true)⟩,
              ⟨some 43, .len 1 (.t 42), some (39, true)⟩,
              ⟨some 44, .bin .eql (.t 43) (.k (.int .i64 1)), some (39, true)⟩,
              ⟨some 45, .pick (.t 39) (.t 44) (.k (.bool false)), none⟩,
              ⟨some 4, .mv (.t 45), none⟩] [4] [] [[], [], [32, 33], [0], [1], [35, 36], [34, 37], [38], [], [], [40, 41], [42], [43], [39, 44]])
            .ret)))),
  [.t 4]⟩

def l_laws_FnDPicks : Lay := { rg := [(0, ([0, 1], [])), (1, ([0, 1, 12], [])), (2, ([4], [])), (3, ([0, 1, 30], [])), (4, ([4], [])), (5, ([4], []))], dd := [(1, [[], [5], [6], [7], [], [9], [10]]), (3, [[], [13], [14], [15], [], [17], [18], [16, 19], [20], [], [22], [23], [21, 24], [25], [], [27], [28]]), (5, [[], [], [32, 33], [0], [1], [35, 36], [34, 37], [38], [], [], [40, 41], [42], [43], [39, 44]])], fz := [40, 41] }

/- laws.dSameTexts -/
def b_laws_dSameTexts_1 : SCode :=
  (.seq
    (.seq
      (.region [
        ⟨some 11, .mv (.t 5), none⟩,
        ⟨some 12, .mv (.t 0), none⟩,
        ⟨some 13, .len 1 (.t 12), none⟩,
        ⟨some 14, .bin .lss (.t 11) (.t 13), none⟩] [0, 1, 5, 14] [] [[], [], [12]])
      (.cond (.t 14)
        .skip
        (.exit 0)))
    (.seq
      (.block 1
        (.seq
          (.region [
            ⟨some 17, .mv (.t 0), none⟩,
            ⟨some 18, .mv (.t 5), none⟩,
            ⟨some 19, .iAddr 1 (.t 17) (.t 18), none⟩,
            ⟨some 20, .load none (.t 19), none⟩,
            ⟨some 21, .mv (.t 1), none⟩,
            ⟨some 22, .mv (.t 5), none⟩,
            ⟨some 23, .iAddr 1 (.t 21) (.t 22), none⟩,
            ⟨some 24, .load none (.t 23), none⟩,
            ⟨some 25, .bin .neq (.t 20) (.t 24), none⟩] [0, 1, 5, 25] [] [])
          (.cond (.t 25)
            (.seq
              (.region [
                ⟨some 4, .mv (.k (.bool false)), none⟩] [4] [] [])
              .ret)
            .skip)))
      (.region [
        ⟨some 15, .mv (.t 5), none⟩,
        ⟨some 16, .bin .add (.t 15) (.k (.int .i64 1)), none⟩,
        ⟨some 5, .mv (.t 16), none⟩] [0, 1, 5] [] [[], [15]])))

def t_laws_dSameTexts_2 : SCode :=
  (.seq
    (.region [
      ⟨some 4, .mv (.k (.bool true)), none⟩] [4] [] [])
    .ret)

def c_laws_dSameTexts : SFn := ⟨2,
    (.seq
      (.region [
        ⟨some 4, .mv (.k (.bool false)), none⟩] [0, 1] [] [])
      (.seq
        (.seq
          (.region [
            ⟨some 6, .mv (.t 0), none⟩,
            ⟨some 7, .len 1 (.t 6), none⟩,
            ⟨some 8, .mv (.t 1), none⟩,
            ⟨some 9, .len 1 (.t 8), none⟩,
            ⟨some 10, .bin .neq (.t 7) (.t 9), none⟩] [0, 1, 10] [] [[], [6], [], [8]])
          (.cond (.t 10)
            (.seq
              (.region [
                ⟨some 4, .mv (.k (.bool false)), none⟩] [4] [] [])
              .ret)
            .skip))
        (.seq
          (.seq
            (.region [
              ⟨some 5, .mv (.k (.int .i64 0)), none⟩] [0, 1, 5] [] [])
            (.block 0
              (.loop [0, 1, 5]
                b_laws_dSameTexts_1)))
          t_laws_dSameTexts_2))),
  [.t 4]⟩

def l_laws_dSameTexts : Lay := { rg := [(0, ([0, 1], [])), (1, ([0, 1, 10], [])), (2, ([4], [])), (3, ([0, 1, 5], [])), (4, ([0, 1, 5, 14], [])), (5, ([0, 1, 5], [])), (6, ([0, 1, 5, 25], [])), (7, ([4], [])), (8, ([4], [])), (1000004, ([0, 1, 5], []))], dd := [(1, [[], [6], [], [8]]), (4, [[], [], [12]]), (5, [[], [15]])] }

/- impl.DPick -/
def c_impl_DPick : SFn := ⟨2,
    (.seq
      (.region [
        ⟨some 4, .mv (.k .nilS), none⟩] [0, 1] [] [])
      (.seq
        (.region [
          ⟨some 5, .mv (.t 0), none⟩,
          ⟨some 6, .call 36 [(.t 5)], none⟩,
          ⟨some 7, .mv (.t 1), none⟩,
          ⟨some 8, .call 37 [(.t 6), (.t 7)], none⟩,
          ⟨some 4, .mv (.t 8), none⟩] [4] [] [[0], [5], [1], [6, 7]])
        .ret)),
  [.t 4]⟩

def l_impl_DPick : Lay := { rg := [(0, ([0, 1], [])), (1, ([4], []))], dd := [(1, [[0], [5], [1], [6, 7]])] }

/- spec.DPicked -/
def b_spec_DPicked_1 : SCode :=
  (.seq
    (.seq
      (.region [
        ⟨some 22, .mv (.t 9), none⟩,
        ⟨some 23, .bin .geq (.t 22) (.k (.int .i64 0)), none⟩] [0, 1, 5, 6, 7, 8, 9, 23] [] [])
      (.cond (.t 23)
        .skip
        (.exit 2)))
    (.seq
      (.block 3
        (.seq
          (.region [
            ⟨some 26, .mv (.t 5), none⟩,
            ⟨some 27, .mv (.t 9), none⟩,
            ⟨some 28, .iAddr 1 (.t 26) (.t 27), none⟩,
            ⟨some 29, .load none (.t 28), none⟩,
            ⟨some 30, .un .not (.t 29), none⟩,
            ⟨some 31, .mv (.t 30), none⟩,
            ⟨some 32, .mv (.t 0), some (31, true)⟩,
            ⟨some 33, .mv (.t 9), some (31, true)⟩,
            ⟨some 34, .iAddr 1 (.t 32) (.t 33), some (31, true)⟩,
            ⟨some 35, .load none (.t 34), some (31, true)⟩,
            ⟨some 36, .call 28 [(.t 35)], some (31, true)⟩,
            ⟨some 37, .call 4 [(.t 36)], some (31, true)⟩,
            ⟨some 38, .mv (.t 1), some (31, true)⟩,
            ⟨some 39, .mv (.t 7), some (31, true)⟩,
            ⟨some 40, .iAddr 1 (.t 38) (.t 39), some (31, true)⟩,
            ⟨some 41, .load none (.t 40), some (31, true)⟩,
            ⟨some 42, .call 4 [(.t 41)], some (31, true)⟩,
            ⟨some 43, .bin .eql (.t 37) (.t 42), some (31, true)⟩,
            ⟨some 44, .pick (.t 31) (.t 43) (.k (.bool false)), none⟩] [0, 1, 5, 6, 7, 8, 9, 44] [] [])
          (.cond (.t 44)
            (.seq
              (.region [
                ⟨some 45, .mv (.t 5), none⟩,
                ⟨some 46, .mv (.t 9), none⟩,
                ⟨some 47, .mv (.t 0), none⟩,
                ⟨some 48, .mv (.t 9), none⟩,
                ⟨some 49, .iAddr 1 (.t 47) (.t 48), none⟩,
                ⟨some 50, .load none (.t 49), none⟩,
                ⟨some 8, .mv (.t 50), none⟩,
                ⟨some 51, .iAddr 1 (.t 45) (.t 46), none⟩,
                ⟨none, .store 1 (.t 51) (.k (.bool true)), none⟩] [0, 1, 5, 6, 7, 8] [] [[], [], [], [9], [47, 48], [49], [50], [45, 46]])
              (.exit 2))
            .skip)))
      (.region [
        ⟨some 24, .mv (.t 9), none⟩,
        ⟨some 25, .bin .sub (.t 24) (.k (.int .i64 1)), none⟩,
        ⟨some 9, .mv (.t 25), none⟩] [0, 1, 5, 6, 7, 8, 9] [] [[], [24]])))

def t_spec_DPicked_2 : SCode :=
  (.region [
    ⟨some 52, .mv (.t 6), none⟩,
    ⟨some 53, .mv (.t 8), none⟩,
    ⟨some 54, .mkSl 1 1 [(.str [])] [(0, (.t 53))], none⟩,
    ⟨some 55, .app 1 16 (.t 52) (.t 54), none⟩,
    ⟨some 6, .mv (.t 55), none⟩] [0, 1, 5, 6, 7] [54] [[], [8], [53], [52, 54]])

def t_spec_DPicked_3 : SCode :=
  (.region [
    ⟨some 17, .mv (.t 7), none⟩,
    ⟨some 18, .bin .add (.t 17) (.k (.int .i64 1)), none⟩,
    ⟨some 7, .mv (.t 18), none⟩] [0, 1, 5, 6, 7] [] [[], [17]])

def b_spec_DPicked_4 : SCode :=
  (.seq
    (.seq
      (.region [
        ⟨some 13, .mv (.t 7), none⟩,
        ⟨some 14, .mv (.t 1), none⟩,
        ⟨some 15, .len 1 (.t 14), none⟩,
        ⟨some 16, .bin .lss (.t 13) (.t 15), none⟩] [0, 1, 5, 6, 7, 16] [] [[], [], [14]])
      (.cond (.t 16)
        .skip
        (.exit 0)))
    (.seq
      (.block 1
        (.seq
          (.region [
            ⟨some 8, .mv (.k (.str [])), none⟩] [0, 1, 5, 6, 7, 8] [] [])
          (.seq
            (.seq
              (.region [
                ⟨some 19, .mv (.t 0), none⟩,
                ⟨some 20, .len 1 (.t 19), none⟩,
                ⟨some 21, .bin .sub (.t 20) (.k (.int .i64 1)), none⟩,
                ⟨some 9, .mv (.t 21), none⟩] [0, 1, 5, 6, 7, 8, 9] [] [[], [19], [20]])
              (.block 2
                (.loop [0, 1, 5, 6, 7, 8, 9]
                  b_spec_DPicked_1)))
            t_spec_DPicked_2)))
      t_spec_DPicked_3))

def t_spec_DPicked_5 : SCode :=
  (.seq
    (.region [
      ⟨some 56, .mv (.t 6), none⟩,
      ⟨some 4, .mv (.t 56), none⟩] [4] [12] [[6]])
    .ret)

def c_spec_DPicked : SFn := ⟨2,
    (.seq
      (.region [
        ⟨some 4, .mv (.k .nilS), none⟩] [0, 1] [] [])
      (.seq
        (.region [
          ⟨some 10, .mv (.t 0), none⟩,
          ⟨some 11, .len 1 (.t 10), none⟩,
          ⟨some 12, .mkSlice 1 1 [(.bool false)] (.t 11) (.t 11), none⟩,
          ⟨some 5, .mv (.t 12), none⟩] [0, 1, 5] [] [[], [10], [11]])
        (.seq
          (.region [
            ⟨some 6, .mv (.k .nilS), none⟩] [0, 1, 5, 6] [] [])
          (.seq
            (.seq
              (.region [
                ⟨some 7, .mv (.k (.int .i64 0)), none⟩] [0, 1, 5, 6, 7] [] [])
              (.block 0
                (.loop [0, 1, 5, 6, 7]
                  b_spec_DPicked_4)))
            t_spec_DPicked_5)))),
  [.t 4]⟩

def l_spec_DPicked : Lay := { rg := [(0, ([0, 1], [])), (1, ([0, 1, 5], [])), (2, ([0, 1, 5, 6], [])), (3, ([0, 1, 5, 6, 7], [])), (4, ([0, 1, 5, 6, 7, 16], [])), (5, ([0, 1, 5, 6, 7], [])), (6, ([0, 1, 5, 6, 7, 8], [])), (7, ([0, 1, 5, 6, 7, 8, 9], [])), (8, ([0, 1, 5, 6, 7, 8, 9, 23], [])), (9, ([0, 1, 5, 6, 7, 8, 9], [])), (10, ([0, 1, 5, 6, 7, 8, 9, 44], [])), (11, ([0, 1, 5, 6, 7, 8], [])), (12, ([0, 1, 5, 6, 7], [54])), (13, ([4], [12])), (1000004, ([0, 1, 5, 6, 7], [])), (1000008, ([0, 1, 5, 6, 7, 8, 9], []))], dd := [(1, [[], [10], [11]]), (4, [[], [], [14]]), (5, [[], [17]]), (7, [[], [19], [20]]), (9, [[], [24]]), (11, [[], [], [], [9], [47, 48], [49], [50], [45, 46]]), (12, [[], [8], [53], [52, 54]]), (13, [[6]])] }

/- dkim.Pick -/
def b_dkim_Pick_1 : SCode :=
  (.seq
    (.region [
      ⟨some 14, .bin .lss (.t 13) (.t 12), none⟩] [5, 6, 11, 12, 13, 14] [] [])
    (.seq
      (.cond (.t 14)
        .skip
        (.exit 0))
      (.seq
        (.block 1
          (.seq
            (.region [
              ⟨some 15, .iAddr 1 (.t 11) (.t 13), none⟩,
              ⟨some 16, .load none (.t 15), none⟩,
              ⟨some 8, .mv (.t 16), none⟩] [5, 6, 8, 11, 12, 13] [] [[], [15]])
            (.region [
              ⟨some 17, .mv (.t 6), none⟩,
              ⟨some 18, .mv (.t 5), none⟩,
              ⟨some 19, .mv (.t 8), none⟩,
              ⟨some 20, .callS 39 [(.t 18), (.t 19)], none⟩,
              ⟨some 21, .mkSl 1 1 [(.str [])] [(0, (.t 20))], none⟩,
              ⟨some 22, .app 1 16 (.t 17) (.t 21), none⟩,
              ⟨some 6, .mv (.t 22), none⟩] [5, 6, 11, 12, 13] [21] [[], [], [8], [18, 19], [20], [17, 21]])))
        (.region [
          ⟨some 23, .bin .add (.t 13) (.k (.int .i64 1)), none⟩,
          ⟨some 13, .mv (.t 23), none⟩] [5, 6, 11, 12, 13] [] []))))

def t_dkim_Pick_2 : SCode :=
  (.seq
    (.region [
      ⟨some 24, .mv (.t 6), none⟩,
      ⟨some 4, .mv (.t 24), none⟩] [4] [] [[6]])
    .ret)

def c_dkim_Pick : SFn := ⟨2,
    (.seq
      (.region [
        ⟨some 4, .mv (.k .nilS), none⟩] [0, 1] [] [])
      (.seq
        (.region [
          ⟨some 9, .mv (.t 0), none⟩,
          ⟨some 10, .callS 38 [(.t 9)], none⟩,
          ⟨some 5, .mv (.t 10), none⟩] [1, 5] [] [[0], [9]])
        (.seq
          (.region [
            ⟨some 6, .mv (.k .nilS), none⟩] [1, 5, 6] [] [])
          (.seq
            (.seq
              (.region [
                ⟨some 11, .mv (.t 1), none⟩,
                ⟨some 12, .len 1 (.t 11), none⟩,
                ⟨some 13, .mv (.k (.int .i64 0)), none⟩] [5, 6, 11, 12, 13] [] [[1]])
              (.block 0
                (.loop [5, 6, 11, 12, 13]
                  b_dkim_Pick_1)))
            t_dkim_Pick_2)))),
  [.t 4]⟩

def l_dkim_Pick : Lay := { rg := [(0, ([0, 1], [])), (1, ([1, 5], [])), (2, ([1, 5, 6], [])), (3, ([5, 6, 11, 12, 13], [])), (4, ([5, 6, 11, 12, 13, 14], [])), (5, ([5, 6, 8, 11, 12, 13], [])), (6, ([5, 6, 11, 12, 13], [21])), (7, ([5, 6, 11, 12, 13], [])), (8, ([4], [])), (1000004, ([5, 6, 11, 12, 13], []))], dd := [(1, [[0], [9]]), (3, [[1]]), (5, [[], [15]]), (6, [[], [], [8], [18, 19], [20], [17, 21]]), (8, [[6]])], sf := [38, 39] }

/- dkim.newHeaderPicker -/
def c_dkim_newHeaderPicker : SFn := ⟨1,
    (.seq
      (.region [
        ⟨some 2, .mv (.k .nilP), none⟩] [0] [] [])
      (.seq
        (.region [
          ⟨some 3, .mv (.t 0), none⟩,
          ⟨some 4, .mkMap, none⟩,
          ⟨some 5, .agg [.nilS, .nilM] [(0, 1, (.t 3)), (1, 1, (.t 4))], none⟩,
          ⟨some 6, .box (.t 5), none⟩,
          ⟨some 2, .mv (.t 6), none⟩] [2] [] [[0], [], [3, 4], [5]])
        .ret)),
  [.t 2]⟩

def l_dkim_newHeaderPicker : Lay := { rg := [(0, ([0], [])), (1, ([2], []))], dd := [(1, [[0], [], [3, 4], [5]])] }

/- dkim.headerPicker).Pick -/
def b_dkim_headerPicker_Pick_1 : SCode :=
  (.seq
    (.seq
      (.region [
        ⟨some 24, .mv (.t 6), none⟩,
        ⟨some 25, .bin .geq (.t 24) (.k (.int .i64 0)), none⟩] [0, 1, 5, 6, 25] [] [])
      (.cond (.t 25)
        .skip
        (.exit 0)))
    (.seq
      (.block 1
        (.seq
          (.region [
            ⟨some 28, .mv (.t 0), none⟩,
            ⟨some 29, .chk (.t 28), none⟩,
            ⟨some 30, .fAddr 0 (.t 29), none⟩,
            ⟨some 31, .load none (.t 30), none⟩,
            ⟨some 32, .mv (.t 6), none⟩,
            ⟨some 33, .iAddr 1 (.t 31) (.t 32), none⟩,
            ⟨some 34, .load none (.t 33), none⟩,
            ⟨some 7, .mv (.t 34), none⟩] [0, 1, 5, 6, 7] [] [[], [28], [29], [30], [], [31, 32], [33]])
          (.seq
            (.region [
              ⟨some 36, .mv (.t 7), none⟩,
              ⟨some 37, .call 40 [(.t 36)], none⟩,
              ⟨some 35, .mv (.t 37), none⟩,
              ⟨some 38, .extr (.t 35) 0, none⟩,
              ⟨some 39, .extr (.t 35) 1, none⟩,
              ⟨some 8, .mv (.t 38), none⟩,
              ⟨some 9, .mv (.t 39), none⟩] [0, 1, 5, 6, 7, 8] [] [[], [36], [37], [], [35], [38]])
            (.seq
              (.seq
                (.region [
                  ⟨some 40, .mv (.t 8), none⟩,
                  ⟨some 41, .mv (.t 1), none⟩,
                  ⟨some 42, .call 41 [(.t 40), (.t 41)], none⟩,
                  ⟨some 43, .un .not (.t 42), none⟩] [0, 1, 5, 6, 7, 43] [] [[8], [], [40, 41]])
                (.cond (.t 43)
                  (.exit 1)
                  .skip))
              (.seq
                (.seq
                  (.region [
                    ⟨some 44, .mv (.t 5), none⟩,
                    ⟨some 45, .bin .eql (.t 44) (.k (.int .i64 0)), none⟩] [0, 1, 5, 6, 7, 45] [] [])
                  (.cond (.t 45)
                    (.seq
                      (.region [
                        ⟨some 46, .mv (.t 0), none⟩,
                        ⟨some 47, .chk (.t 46), none⟩,
                        ⟨some 48, .fAddr 1 (.t 47), none⟩,
                        ⟨some 49, .load none (.t 48), none⟩,
                        ⟨some 50, .mv (.t 1), none⟩,
                        ⟨some 51, .look (.int .i64 0) false (.t 49) (.t 50), none⟩,
                        ⟨some 52, .bin .add (.t 51) (.k (.int .i64 1)), none⟩,
                        ⟨none, .mput (.t 49) (.t 50) (.t 52), none⟩] [7] [] [[0], [46], [47], [48], [1], [], [51]])
                      (.seq
                        (.region [
                          ⟨some 53, .mv (.t 7), none⟩,
                          ⟨some 4, .mv (.t 53), none⟩] [4] [] [[7]])
                        .ret))
                    .skip))
                (.region [
                  ⟨some 54, .mv (.t 5), none⟩,
                  ⟨some 55, .bin .sub (.t 54) (.k (.int .i64 1)), none⟩,
                  ⟨some 5, .mv (.t 55), none⟩] [0, 1, 5, 6] [] [[], [54]]))))))
      (.region [
        ⟨some 26, .mv (.t 6), none⟩,
        ⟨some 27, .bin .sub (.t 26) (.k (.int .i64 1)), none⟩,
        ⟨some 6, .mv (.t 27), none⟩] [0, 1, 5, 6] [] [[], [26]])))

def t_dkim_headerPicker_Pick_2 : SCode :=
  (.seq
    (.region [
      ⟨some 4, .mv (.k (.str [])), none⟩] [4] [] [])
    .ret)

def c_dkim_headerPicker_Pick : SFn := ⟨2,
    (.seq
      (.region [
        ⟨some 4, .mv (.k (.str [])), none⟩] [0, 1] [] [])
      (.seq
        (.region [
          ⟨some 10, .mv (.t 1), none⟩,
          ⟨some 11, .call 17 [(.t 10)], none⟩,
          ⟨some 1, .mv (.t 11), none⟩] [0, 1] [] [[], [10]])
        (.seq
          (.region [
            ⟨some 12, .mv (.t 0), none⟩,
            ⟨some 13, .chk (.t 12), none⟩,
            ⟨some 14, .fAddr 1 (.t 13), none⟩,
            ⟨some 15, .load none (.t 14), none⟩,
            ⟨some 16, .mv (.t 1), none⟩,
            ⟨some 17, .look (.int .i64 0) false (.t 15) (.t 16), none⟩,
            ⟨some 5, .mv (.t 17), none⟩] [0, 1, 5] [] [[], [12], [13], [14], [], [15, 16]])
          (.seq
            (.seq
              (.region [
                ⟨some 18, .mv (.t 0), none⟩,
                ⟨some 19, .chk (.t 18), none⟩,
                ⟨some 20, .fAddr 0 (.t 19), none⟩,
                ⟨some 21, .load none (.t 20), none⟩,
                ⟨some 22, .len 1 (.t 21), none⟩,
                ⟨some 23, .bin .sub (.t 22) (.k (.int .i64 1)), none⟩,
                ⟨some 6, .mv (.t 23), none⟩] [0, 1, 5, 6] [] [[], [18], [19], [20], [21], [22]])
              (.block 0
                (.loop [0, 1, 5, 6]
                  b_dkim_headerPicker_Pick_1)))
            t_dkim_headerPicker_Pick_2)))),
  [.t 4]⟩

def l_dkim_headerPicker_Pick : Lay := { rg := [(0, ([0, 1], [])), (1, ([0, 1], [])), (2, ([0, 1, 5], [])), (3, ([0, 1, 5, 6], [])), (4, ([0, 1, 5, 6, 25], [])), (5, ([0, 1, 5, 6], [])), (6, ([0, 1, 5, 6, 7], [])), (7, ([0, 1, 5, 6, 7, 8], [])), (8, ([0, 1, 5, 6, 7, 43], [])), (9, ([0, 1, 5, 6, 7, 45], [])), (10, ([7], [])), (11, ([4], [])), (12, ([0, 1, 5, 6], [])), (13, ([4], [])), (1000004, ([0, 1, 5, 6], []))], dd := [(1, [[], [10]]), (2, [[], [12], [13], [14], [], [15, 16]]), (3, [[], [18], [19], [20], [21], [22]]), (5, [[], [26]]), (6, [[], [28], [29], [30], [], [31, 32], [33]]), (7, [[], [36], [37], [], [35], [38]]), (8, [[8], [], [40, 41]]), (10, [[0], [46], [47], [48], [1], [], [51]]), (11, [[7]]), (12, [[], [54]])] }

/- dkim.parseHeaderField -/
def c_dkim_parseHeaderField : SFn := ⟨1,
    (.seq
      (.region [
        ⟨some 2, .mv (.k (.str [])), none⟩,
        ⟨some 3, .mv (.k (.str [])), none⟩] [0] [] [[2]])
      (.seq
        (.region [
          ⟨some 8, .mv (.t 0), none⟩,
          ⟨some 9, .call 16 [(.t 8), (.k (.str [58]))], none⟩,
          ⟨some 7, .mv (.t 9), none⟩,
          ⟨some 10, .extr (.t 7) 0, none⟩,
          ⟨some 11, .extr (.t 7) 1, none⟩,
          ⟨some 12, .extr (.t 7) 2, none⟩,
          ⟨some 4, .mv (.t 10), none⟩,
          ⟨some 5, .mv (.t 11), none⟩,
          ⟨some 6, .mv (.t 12), none⟩] [4, 5] [] [[0], [8], [9], [], [], [7], [10], [11]])
        (.seq
          (.region [
            ⟨some 13, .mv (.t 4), none⟩,
            ⟨some 14, .call 18 [(.t 13)], none⟩,
            ⟨some 15, .mv (.t 5), none⟩,
            ⟨some 16, .call 18 [(.t 15)], none⟩,
            ⟨some 2, .mv (.t 14), none⟩,
            ⟨some 3, .mv (.t 16), none⟩] [2, 3] [] [[4], [13], [5], [15], [14]])
          .ret))),
  [.t 2, .t 3]⟩

def l_dkim_parseHeaderField : Lay := { rg := [(0, ([0], [])), (1, ([4, 5], [])), (2, ([2, 3], []))], dd := [(0, [[2]]), (1, [[0], [8], [9], [], [], [7], [10], [11]]), (2, [[4], [13], [5], [15], [14]])] }

/- dkim.zzEqualFold -/
def b_dkim_zzEqualFold_1 : SCode :=
  (.seq
    (.region [
      ⟨some 23, .bin .lss (.t 22) (.t 21), none⟩] [6, 7, 21, 22, 23] [] [])
    (.seq
      (.cond (.t 23)
        .skip
        (.exit 0))
      (.seq
        (.block 1
          (.seq
            (.region [
              ⟨some 24, .mv (.t 22), none⟩,
              ⟨some 8, .mv (.t 24), none⟩] [6, 7, 8, 21, 22] [] [])
            (.seq
              (.region [
                ⟨some 25, .mv (.t 6), none⟩,
                ⟨some 26, .mv (.t 8), none⟩,
                ⟨some 27, .iAddr 1 (.t 25) (.t 26), none⟩,
                ⟨some 28, .load none (.t 27), none⟩,
                ⟨some 29, .mv (.t 7), none⟩,
                ⟨some 30, .mv (.t 8), none⟩,
                ⟨some 31, .iAddr 1 (.t 29) (.t 30), none⟩,
                ⟨some 32, .load none (.t 31), none⟩,
                ⟨some 33, .bin .neq (.t 28) (.t 32), none⟩] [6, 7, 21, 22, 33] [] [])
              (.cond (.t 33)
                (.seq
                  (.region [
                    ⟨some 4, .mv (.k (.bool false)), none⟩] [4] [] [])
                  .ret)
                .skip))))
        (.region [
          ⟨some 34, .bin .add (.t 22) (.k (.int .i64 1)), none⟩,
          ⟨some 22, .mv (.t 34), none⟩] [6, 7, 21, 22] [] []))))

def t_dkim_zzEqualFold_2 : SCode :=
  (.seq
    (.region [
      ⟨some 4, .mv (.k (.bool true)), none⟩] [4] [] [])
    .ret)

def c_dkim_zzEqualFold : SFn := ⟨2,
    (.seq
      (.region [
        ⟨some 4, .mv (.k (.bool false)), none⟩] [0, 1] [] [])
      (.seq
        (.region [
          ⟨some 5, .mv (.k (.fn 42 [])), none⟩] [0, 1, 5] [] [])
        (.seq
          (.region [
            ⟨some 9, .mv (.t 5), none⟩,
            ⟨some 10, .mv (.t 0), none⟩,
            ⟨some 11, .callV (.t 9) [(.t 10)], none⟩,
            ⟨some 12, .mv (.t 5), none⟩,
            ⟨some 13, .mv (.t 1), none⟩,
            ⟨some 14, .callV (.t 12) [(.t 13)], none⟩,
            ⟨some 6, .mv (.t 11), none⟩,
            ⟨some 7, .mv (.t 14), none⟩] [6, 7] [] [[], [0], [9, 10], [5], [1], [12, 13], [11]])
          (.seq
            (.seq
              (.region [
                ⟨some 15, .mv (.t 6), none⟩,
                ⟨some 16, .len 1 (.t 15), none⟩,
                ⟨some 17, .mv (.t 7), none⟩,
                ⟨some 18, .len 1 (.t 17), none⟩,
                ⟨some 19, .bin .neq (.t 16) (.t 18), none⟩] [6, 7, 19] [] [[], [15], [], [17]])
              (.cond (.t 19)
                (.seq
                  (.region [
                    ⟨some 4, .mv (.k (.bool false)), none⟩] [4] [] [])
                  .ret)
                .skip))
            (.seq
              (.seq
                (.region [
                  ⟨some 20, .mv (.t 6), none⟩,
                  ⟨some 21, .len 1 (.t 20), none⟩,
                  ⟨some 22, .mv (.k (.int .i64 0)), none⟩] [6, 7, 21, 22] [] [[], [20]])
                (.block 0
                  (.loop [6, 7, 21, 22]
                    b_dkim_zzEqualFold_1)))
              t_dkim_zzEqualFold_2))))),
  [.t 4]⟩

def l_dkim_zzEqualFold : Lay := { rg := [(0, ([0, 1], [])), (1, ([0, 1, 5], [])), (2, ([6, 7], [])), (3, ([6, 7, 19], [])), (4, ([4], [])), (5, ([6, 7, 21, 22], [])), (6, ([6, 7, 21, 22, 23], [])), (7, ([6, 7, 8, 21, 22], [])), (8, ([6, 7, 21, 22, 33], [])), (9, ([4], [])), (10, ([6, 7, 21, 22], [])), (11, ([4], [])), (1000006, ([6, 7, 21, 22], []))], dd := [(2, [[], [0], [9, 10], [5], [1], [12, 13], [11]]), (3, [[], [15], [], [17]]), (5, [[], [20]])] }

/- dkim.zzEqualFold$1 -/
def b_dkim_zzEqualFold_1_1 : SCode :=
  (.seq
    (.region [
      ⟨some 8, .nextS (.t 7), none⟩,
      ⟨some 9, .extr (.t 8) 0, none⟩] [3, 7, 8, 9] [] [])
    (.seq
      (.cond (.t 9)
        .skip
        (.exit 0))
      (.block 1
        (.seq
          (.region [
            ⟨some 10, .extr (.t 8) 2, none⟩,
            ⟨some 5, .mv (.t 10), none⟩] [3, 5, 7] [] [[8]])
          (.seq
            (.block 2
              (.seq
                (.region [
                  ⟨some 12, .mv (.t 5), none⟩,
                  ⟨some 13, .bin .leq (.k (.int .i32 65)) (.t 12), none⟩,
                  ⟨some 14, .mv (.t 13), none⟩,
                  ⟨some 15, .mv (.t 5), some (14, true)⟩,
                  ⟨some 16, .bin .leq (.t 15) (.k (.int .i32 90)), some (14, true)⟩,
                  ⟨some 17, .pick (.t 14) (.t 16) (.k (.bool false)), none⟩,
                  ⟨some 11, .mv (.t 17), none⟩] [3, 5, 7, 11] [] [[], [12], [13], [], [15], [14, 16]])
                (.cond (.t 11)
                  (.region [
                    ⟨some 18, .mv (.t 5), none⟩,
                    ⟨some 19, .bin .add (.t 18) (.k (.int .i32 32)), none⟩,
                    ⟨some 5, .mv (.t 19), none⟩] [3, 5, 7] [] [[], [18]])
                  (.seq
                    (.region [
                      ⟨some 21, .mv (.t 5), none⟩,
                      ⟨some 22, .bin .eql (.t 21) (.k (.int .i32 383)), none⟩,
                      ⟨some 20, .mv (.t 22), none⟩] [3, 5, 7, 20] [] [[], [21]])
                    (.cond (.t 20)
                      (.region [
                        ⟨some 5, .mv (.k (.int .i32 115)), none⟩] [3, 5, 7] [] [])
                      (.seq
                        (.region [
                          ⟨some 24, .mv (.t 5), none⟩,
                          ⟨some 25, .bin .eql (.t 24) (.k (.int .i32 8490)), none⟩,
                          ⟨some 23, .mv (.t 25), none⟩] [3, 5, 7, 23] [] [[], [24]])
                        (.cond (.t 23)
                          (.region [
                            ⟨some 5, .mv (.k (.int .i32 107)), none⟩] [3, 5, 7] [] [])
                          .skip)))))))
            (.region [
              ⟨some 26, .mv (.t 3), none⟩,
              ⟨some 27, .mv (.t 5), none⟩,
              ⟨some 28, .mkSl 1 1 [(.int .i32 0)] [(0, (.t 27))], none⟩,
              ⟨some 29, .app 1 4 (.t 26) (.t 28), none⟩,
              ⟨some 3, .mv (.t 29), none⟩] [3, 7] [28] [[], [5], [27], [26, 28]]))))))

def t_dkim_zzEqualFold_1_2 : SCode :=
  (.seq
    (.region [
      ⟨some 30, .mv (.t 3), none⟩,
      ⟨some 2, .mv (.t 30), none⟩] [2] [7] [[3]])
    .ret)

def c_dkim_zzEqualFold_1 : SFn := ⟨1,
    (.seq
      (.region [
        ⟨some 2, .mv (.k .nilS), none⟩] [0] [] [])
      (.seq
        (.region [
          ⟨some 3, .mv (.k .nilS), none⟩] [0, 3] [] [])
        (.seq
          (.seq
            (.region [
              ⟨some 6, .mv (.t 0), none⟩,
              ⟨some 7, .rangeS (.t 6), none⟩] [3, 7] [] [[0]])
            (.block 0
              (.loop [3, 7]
                b_dkim_zzEqualFold_1_1)))
          t_dkim_zzEqualFold_1_2))),
  [.t 2]⟩

def l_dkim_zzEqualFold_1 : Lay := { rg := [(0, ([0], [])), (1, ([0, 3], [])), (2, ([3, 7], [])), (3, ([3, 7, 8, 9], [])), (4, ([3, 5, 7], [])), (5, ([3, 5, 7, 11], [])), (6, ([3, 5, 7], [])), (7, ([3, 5, 7, 20], [])), (8, ([3, 5, 7], [])), (9, ([3, 5, 7, 23], [])), (10, ([3, 5, 7], [])), (11, ([3, 7], [28])), (12, ([2], [7])), (1000003, ([3, 7], []))], dd := [(2, [[0]]), (4, [[8]]), (5, [[], [12], [13], [], [15], [14, 16]]), (6, [[], [18]]), (7, [[], [21]]), (9, [[], [24]]), (11, [[], [5], [27], [26, 28]]), (12, [[3]])] }

end Wax

