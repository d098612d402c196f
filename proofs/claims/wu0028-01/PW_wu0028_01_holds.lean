import PyProof.Rows.All
import Wide.All
import OpenK.AllK
import Wide.FinOn
import Lean
import PySem.Challenge.RW_wu0028_01
open PySem PySem.W PyProof.Rows
set_option Elab.async false
namespace Mine
set_option maxRecDepth 100000 in
set_option maxHeartbeats 8000000 in
open_top hd for PySem.Challenge.rw_wu0028_01
end Mine

/-! MDefs -/
section
open PySem PySem.W PyProof.Rows PySem.Calls PySem.Spec
set_option Elab.async false
namespace Mine
/-- the rest after k figures -/
def remK (low first : Int) (k : Nat) : Int := first * 10 ^ k % low
def figK (low first : Int) (k : Nat) : Int := (first * 10 ^ k % low) * 10 / low
def figsN (low first : Int) (k : Nat) : List Int := (List.range k).map (figK low first)
def noBack (low first : Int) (k : Nat) : Prop := ∀ j, 1 ≤ j → j ≤ k → remK low first j ≠ first
def LapInv (low first : Int) (k : Nat) (rest : Int) (figs : List Int) : Prop :=
  rest = remK low first k ∧ figs = figsN low first k ∧ noBack low first k
/-- what _law_lap gives back -/
def LapIs (low first : Int) (figs : List Int) : Prop :=
  ∃ n : Nat, 1 ≤ n ∧ (n : Int) ≤ low ∧ figs = figsN low first n ∧ noBack low first (n - 1) ∧ (remK low first n = first ∨ (n : Int) = low)
end Mine
end

/-! MLapP -/
section
open PySem PySem.W PyProof.Rows PySem.Calls PySem.Spec
set_option Elab.async false
namespace Mine
theorem remK_zero {low first : Int} (h1 : 1 ≤ first) (hlt : first < low) : remK low first 0 = first := by
  unfold remK
  rw [Int.pow_zero, Int.mul_one]
  exact Int.emod_eq_of_lt (by omega) hlt
theorem remK_succ (low first : Int) (k : Nat) : remK low first (k + 1) = (remK low first k * 10) % low := by
  unfold remK
  rw [Int.pow_succ, ← Int.mul_assoc, Int.mul_emod (first * 10 ^ k) 10 low, Int.mul_emod (first * 10 ^ k % low) 10 low, Int.emod_emod]
theorem figsN_succ (low first : Int) (k : Nat) : figsN low first (k + 1) = figsN low first k ++ [figK low first k] := by
  unfold figsN
  rw [List.range_succ, List.map_append]
  rfl
theorem figsN_length (low first : Int) (k : Nat) : (figsN low first k).length = k := by
  simp [figsN]
theorem lap_start {low first : Int} (h1 : 1 ≤ first) (hlt : first < low) : LapInv low first ([] : List Int).length first [] ∧ 0 ≤ first ∧ first < low ∧ ([] : List Int).length = ([] : List Int).length := by
  refine ⟨⟨(remK_zero h1 hlt).symm, rfl, ?_⟩, by omega, hlt, rfl⟩
  intro j hj hj'
  rw [List.length_nil] at hj'
  omega
theorem figK_of {low first rest : Int} {k : Nat} (hl : 3 ≤ low) (h : rest = remK low first k) : (rest * 10).fdiv low = figK low first k := by
  rw [Int.fdiv_eq_ediv_of_nonneg _ (by omega), h]
  rfl
theorem remK_of {low first rest : Int} {k : Nat} (hl : 3 ≤ low) (h : rest = remK low first k) : (rest * 10).fmod low = remK low first (k + 1) := by
  rw [Int.fmod_eq_emod_of_nonneg _ (by omega), h, remK_succ]
theorem lap_turn {low first rest n : Int} {pre figs : List Int} (hl : 3 ≤ low) (h : LapInv low first pre.length rest figs) (hlen : figs.length = pre.length) (hne : (rest * 10).fmod low ≠ first) :
    LapInv low first (pre ++ [n]).length ((rest * 10).fmod low) (figs ++ [(rest * 10).fdiv low]) ∧ 0 ≤ (rest * 10).fmod low ∧ (rest * 10).fmod low < low ∧ (figs ++ [(rest * 10).fdiv low]).length = (pre ++ [n]).length := by
  obtain ⟨hr, hf, hb⟩ := h
  have e : (pre ++ [n]).length = pre.length + 1 := by simp
  rw [e]
  have er := remK_of hl hr
  refine ⟨⟨er, ?_, ?_⟩, ?_, ?_, by simp [hlen]⟩
  · rw [figsN_succ, ← hf, figK_of hl hr]
  · intro j hj hj'
    by_cases q : j ≤ pre.length
    · exact hb j hj q
    · have : j = pre.length + 1 := by omega
      subst this
      rw [← er]
      exact hne
  · rw [Int.fmod_eq_emod_of_nonneg _ (by omega)]
    exact Int.emod_nonneg _ (by omega)
  · rw [Int.fmod_eq_emod_of_nonneg _ (by omega)]
    exact Int.emod_lt_of_pos _ (by omega)
theorem lap_ret {low first rest : Int} {pre figs : List Int} (hl : 3 ≤ low) (h : LapInv low first pre.length rest figs) (hlt : pre.length < (low - 0).toNat) (he : (rest * 10).fmod low = first) :
    LapIs low first (figs ++ [(rest * 10).fdiv low]) := by
  obtain ⟨hr, hf, hb⟩ := h
  refine ⟨pre.length + 1, by omega, by omega, ?_, by simpa using hb, .inl ?_⟩
  · rw [figsN_succ, ← hf, figK_of hl hr]
  · rw [← remK_of hl hr]
    exact he
theorem lap_done {low first rest : Int} {n : Nat} {figs : List Int} (hl : 3 ≤ low) (hn : n = (low - 0).toNat) (h : LapInv low first n rest figs) : LapIs low first figs := by
  obtain ⟨hr, hf, hb⟩ := h
  refine ⟨n, by omega, by omega, hf, fun j h1 h2 => hb j h1 (by omega), .inr (by omega)⟩
end Mine
end

/-! MLap -/
section
open PySem PySem.W PyProof.Rows PySem.Calls PySem.Spec
set_option Elab.async false
namespace Mine
local macro_rules | `(tactic| kst_facts1) => `(tactic| with_reducible exact IntsAre.nil)
set_option maxRecDepth 100000 in
set_option maxHeartbeats 8000000 in
theorem lap_call {w : World} {mean : ExcName → Option Value} {mg mb : Str → Option Value} {news : List (Addr × Obj)} {low first : Int} {t1 t2 : Tok} (h3 : 3 ≤ low) (h41 : low ≤ 41) (h1 : 1 ≤ first) (hlt : first < low)
    {cn : Str} {cs : Scope} {a : Addr} {ccd : Value} {cl : List (Str × Addr)} {outer : List Env} {A₀ : Around} {base h₀ : Heap} {L : Addr} {m : Str → Option Value} {s : Shared} {Q E : Value → Shared → Prop}
    (B : Below A₀ base outer h₀) (F : Fr h₀ L s.heap m) (X : (hd.heap_39 w.params).In h₀) (N : News h₀ L s.heap news) (T : Top hd.view_39 (looseW hd.view_39 []) mean mg mb h₀) (hk : cs.kind = .function)
    (ret : ∀ l vs nn ns h' tk', Fr h₀ L h' m → News h₀ L h' ((l, listOf vs.toArray nn) :: news) → (∀ p ∈ news, p.1 < l) → IntsAre vs ns → LapIs low first ns → Q (.ref l) { s with heap := h', toks := tk' }) :
    wpAny (model Challenge.rw_wu0028_01.row.prog w) (ktrTop (1 + claimMargin + 1) 7 (some []) cn cs L a ccd cl outer) (call (.ref 149) [.int low t1, .int first t2]) Q E s := by
  revert X; k_fill; intro X
  (k_with "state" => first | exact lap_start (by assumption) (by assumption) | exact lap_turn (by assumption) (by assumption) (by assumption) (by assumption))
  (k_with "pyIter ref" => (k_of "turn" => k_state_given ["low", "first"] (fun low first pre rest figures => LapInv low first pre.length rest figures ∧ 0 ≤ rest ∧ rest < low ∧ figures.length = pre.length) "rest" "figures"))
  w_on
  w_top on
  w_strict (refine wpAny_call ?_; k_dflt cell_enter; k_steps)
  · (rename News _ _ _ _ => kN9)
    simp only [List.push_toArray] at kN9
    exact ret _ _ _ _ _ _ (by assumption) (cb_drop kN9 (by kcj_all)) (by assumption) (IntsAre.append (by assumption) (.cons _ _ .nil)) (lap_ret (by assumption) (by assumption) (by assumption) (by assumption))
  · exact ret _ _ _ _ _ _ (by assumption) (by assumption) (by assumption) (by assumption) (lap_done (by assumption) (rangeKs_length _ _) (by assumption))
  k_with_none
end Mine
end

/-! MEnter -/
section
open PySem PySem.W PyProof.Rows PySem.Calls PySem.Spec
set_option Elab.async false
namespace Mine
section
variable {prog : Program} {w : World} {A₀ A : Around} {s : Shared} {h₀ : Heap} {L : Addr} {m : Str → Option Value} {env : Env} {news : List (Addr × Obj)} {K : Frag} {p : Program} {loose : List Str} {mean : ExcName → Option Value} {mg mb : Str → Option Value}
  {R : Result → Shared → Prop} {name qual : Str} {params : Arguments} {body : List Stmt} {scope : Scope} {dV kV doc pm cdv ct oc : Value} {an od : Option Addr} {osl : Array (Option Value)} {f : Addr} {args : Args} {binds : List (Str × Value)}
/-- a def that holds a try around calls is entered from the law's own frame, whatever that frame's env (cells too) -/
theorem enter_turn (B : Below A₀ h₀ [] h₀) (F : Fr h₀ L s.heap m) (X₀ : K.In h₀) (N : News h₀ L s.heap news) (T : Top p loose mean mg mb h₀) (hA : A.frames = some [env]) (hf : env.frame = some L) (hke : env.scope.kind = .function)
    (ho : K.lookup f = some ⟨oc, od, .func (fnOf name qual params body scope dV kV doc pm an cdv ct), osl⟩) (hcd : codeIn K cdv qual = true) (hroom : A.depth < recursionLimit)
    (hbind : BindsTo s (fnOf name qual params body scope dV kV doc pm an cdv ct) args binds) (hloc : ∀ y ∈ binds, scope.names.lookup y.1 = some .local)
    (h : ∀ g L' h₁, Fr g L' h₁ (fun y => binds.reverse.lookup y) → News g L' h₁ news → Below A h₀ [env] g → K.In g → Top p loose mean mg mb g → KtsDicts ([env].filterMap (·.frame)) g →
      wpAny (model prog w) (A.deeper (envOf qual scope L' f cdv)) (execs body (envOf qual scope L' f cdv))
        (fun fl s' => LeaveS0 ([env].filterMap (·.frame)) h₀ L m g R (match fl with | .ret v => v | _ => .none) s')
        (fun e s' => wpAny (model prog w) (A.deeper (envOf qual scope L' f cdv)) (leaving (envOf qual scope L' f cdv) e) (fun _ s'' => R (.error e) s'') (fun e' s'' => R (.error e') s'') s')
        { s with heap := h₁, toks := s.toks + binds.length })
    (hcell : ∀ x ∈ scope.names, x.2 ≠ .cell) (hco : scope.isCoroutine = false) (hgen : scope.isGenerator = false) (hk : scope.kind = .function) :
    codeAny (model prog w) A (.call (.ref f) args) R s := by
  have X := X₀.keeps F.keep
  obtain ⟨FG, BG, st, -⟩ := groundX (R := R) B F N hA hf hke
  have fsEq : [env].filterMap (·.frame) = [L] := by simp [hf]
  have LG : h₀.get? L = none := kts_self F
  obtain ⟨o, es, ep, hoL, hdL, hkL, hfL⟩ := FG.ns
  refine codeAny_call_def (fd := fnOf name qual params body scope dV kV doc pm an cdv ct) (body := body) (binds := binds) hroom (X _ _ ho) rfl (T.nolimit.keeps F.keep) (codeRec_of X hcd) rfl hbind hcell hloc (fun h₁ hns hk₁ => ?_) hco hgen hk
  have start := h (hideAll s.heap (news.map (·.1))) s.heap.objs.size h₁
    ⟨hns, fun b o e => hk₁ b o (of_hideAll _ e), Nat.le_of_eq (hideAll_size _ _)⟩
    (fun q hq => ⟨hk₁ _ _ (N q hq).1, Nat.ne_of_lt (Heap.lt_size (N q hq).1), hideAll_none _ (List.mem_map_of_mem hq)⟩)
    BG (X₀.keeps fun b o e => st b o e) (T.keeps fun b o e => st b o e) (fun b hb => by rw [fsEq, List.mem_singleton] at hb; subst hb; exact ⟨o, es, ep, hoL, hdL⟩)
  refine wpAny_mono start (fun fl s' back => ?_) fun _ _ y => y
  obtain ⟨g', L', m', news', turn, F', N', go⟩ := back
  rw [fsEq] at turn
  obtain ⟨sl, hsl⟩ := turn.frame L o hoL (List.mem_singleton.mpr rfl)
  have up : ∀ b o, h₀.get? b = some o → g'.get? b = some o := fun b o e => turn.other b o (st b o e) (fun hb => by
    rw [List.mem_singleton.mp hb, LG] at e
    cases e)
  refine go ⟨⟨_, es, ep, F'.keep _ _ hsl, hdL, hkL, hfL⟩, fun b o e => F'.keep b o (up b o e), F.above⟩ fun q hq => ⟨(N' q hq).1, fun e => ?_, ?_⟩
  · have z := (N' q hq).2.2
    rw [e, hsl] at z
    cases z
  · cases z : h₀.get? q.1 with
    | none => rfl
    | some o' =>
      have y := (N' q hq).2.2
      rw [up _ _ z] at y
      cases y
/-- a def is entered with an empty ledger: all that the caller has made is ground, and stays -/
theorem enter_keep {base : Heap} {outer : List Env} (B : Below A₀ base outer h₀) (F : Fr h₀ L s.heap m) (X₀ : K.In h₀) (T : Top p loose mean mg mb h₀) (hA : A.frames = some (env :: outer)) (hf : env.frame = some L) (hke : env.scope.kind = .function)
    (ho : K.lookup f = some ⟨oc, od, .func (fnOf name qual params body scope dV kV doc pm an cdv ct), osl⟩) (hcd : codeIn K cdv qual = true) (hroom : A.depth < recursionLimit)
    (hbind : BindsTo s (fnOf name qual params body scope dV kV doc pm an cdv ct) args binds) (hloc : ∀ y ∈ binds, scope.names.lookup y.1 = some .local)
    (h : ∀ g L' h₁, (∀ b o, s.heap.get? b = some o → g.get? b = some o) → Fr g L' h₁ (fun y => binds.reverse.lookup y) → News g L' h₁ [] → Below A base (env :: outer) g → K.In g → Top p loose mean mg mb g →
      wpAny (model prog w) (A.deeper (envOf qual scope L' f cdv)) (execs body (envOf qual scope L' f cdv))
        (fun fl s' => LeaveK h₀ L m g R (match fl with | .ret v => v | _ => .none) s')
        (fun e s' => wpAny (model prog w) (A.deeper (envOf qual scope L' f cdv)) (leaving (envOf qual scope L' f cdv) e) (fun _ s'' => R (.error e) s'') (fun e' s'' => R (.error e') s'') s')
        { s with heap := h₁, toks := s.toks + binds.length })
    (hcell : ∀ x ∈ scope.names, x.2 ≠ .cell) (hco : scope.isCoroutine = false) (hgen : scope.isGenerator = false) (hk : scope.kind = .function) :
    codeAny (model prog w) A (.call (.ref f) args) R s := by
  have X := X₀.keeps F.keep
  obtain ⟨FG, BG, st, lv⟩ := groundX (R := R) B F (News.nil (h₀ := h₀) (L := L) (h := s.heap)) hA hf hke
  refine codeAny_call_def (fd := fnOf name qual params body scope dV kV doc pm an cdv ct) (body := body) (binds := binds) hroom (X _ _ ho) rfl (T.nolimit.keeps F.keep) (codeRec_of X hcd) rfl hbind hcell hloc (fun h₁ hns hk₁ => ?_) hco hgen hk
  exact wpAny_mono (h _ s.heap.objs.size h₁ (fun b o e => hideAll_get _ e (by simp)) ⟨hns, fun b o e => hk₁ b o (of_hideAll _ e), Nat.le_of_eq (hideAll_size _ _)⟩ News.nil BG (X₀.keeps fun b o e => st b o e) (T.keeps fun b o e => st b o e))
    (fun fl s' hl => lv _ _ hl) fun _ _ y => y
theorem news_keep {h₁ h₂ : Heap} (N : News h₀ L h₁ news) (k : ∀ b o, h₁.get? b = some o → h₂.get? b = some o) : News h₀ L h₂ news := fun q hq => ⟨k _ _ (N q hq).1, (N q hq).2⟩
end
end Mine
end

/-! MStrExc -/
section
open PySem PySem.W PyProof.Rows PySem.Calls PySem.Spec
set_option Elab.async false
namespace Mine
section
variable {prog : Program} {w : World} {M : Model} {A : Around} {E : Value → Shared → Prop} {s : Shared} {K : Frag} {e t C : Addr} {msg : Str} {u : Tok}
/-- an exception of an own class as it lies in the heap, with one text -/
structure ExcHas (h : Heap) (e C : Addr) (msg : Str) (u : Tok) : Prop where
  there : ∃ o ws t ot nt, h.get? e = some o ∧ o.cls = .ref C ∧ o.data = .fields ws ∧ ws[0]? = some (.ref t) ∧ h.get? t = some ot ∧ ot.cls = .type "tuple" ∧ ot.data = .seq [Value.str msg u].toArray nt
theorem excHas_of {h₀ h : Heap} {L : Addr} {news : List (Addr × Obj)} (N : News h₀ L h news) (G : Got news e t (.ref C) [.str msg u]) : ExcHas h e C msg u := by
  obtain ⟨oe, ot, ws, nt, h1, h2, hc, hd, h0, htc, htd⟩ := G
  exact ⟨oe, ws, t, ot, nt, N.get h1, hc, hd, h0, N.get h2, htc, htd⟩
theorem ExcHas.type {h : Heap} (x : ExcHas h e C msg u) : Looks M h (typeOf (.ref e)) (.ref C) := by
  obtain ⟨o, ws, t, ot, nt, ho, hc, -⟩ := x.there
  exact hc ▸ (Looks.ld ho).andThen .now
open Builtin Builtin.BaseException in
theorem bexc_text {Q : Fin → Shared → Prop} (x : ExcHas s.heap e C msg u) (hq : Q (.done (.ret (.str msg u))) s) : wpAny (model prog w) A (Builtin.«BaseException.__str__» ⟨[.ref e], []⟩) Q E s := by
  obtain ⟨o, ws, t, ot, nt, ho, hc, hd, h0, hto, htc, htd⟩ := x.there
  unfold Builtin.«BaseException.__str__»
  refine wpAny_bind (m := slotArgs "__str__" 0 _) (wpAny_pure ?_)
  refine wpAny_bind (m := bexcArgs (.ref e)) ?_
  unfold bexcArgs
  refine wpAny_bind (wpAny_field ho hd h0 (wpAny_bind (wpAny_seqItems hto htd ?_)))
  refine wpAny_pure ?_
  refine wpAny_bind (wpAny_rule ?_)
  refine wpAny_bind (m := bexcText "__str__" (.str msg u)) (wpAny_pure ?_)
  exact wpAny_pure hq
theorem bexc_bind (self : Value) : bindSpecial (.builtin "BaseException.__str__") self = pure (.builtin "BaseException.__str__", [self]) := PySem.F.excStr_ValueError.str.bind self
open Builtin in
theorem bexc_special {Q : Option Value → Shared → Prop} (X : K.In s.heap) (x : ExcHas s.heap e C msg u) (hs : findIn K (.ref C) "__str__" = some (some (.builtin "BaseException.__str__"))) (hm : mroIn K C (.type "BaseException") = some true)
    (hq : Q (some (.str msg u)) s) : wpAny (model prog w) A (callSpecial? (.ref e) (Str.ofString "__str__")) Q E s := by
  have called : wpAny (model prog w) A (call (.builtin "BaseException.__str__") [.ref e]) (fun v => Q (some v)) E s :=
    wpAny_call (codeAny_call_builtin PySem.F.excStr_ValueError.str.plain PySem.F.entry_bexc_str
      (check_slot (i := "BaseException.__str__") (owner := "BaseException") (n := "__str__") (by decide +kernel) (by decide +kernel) (x.type.andThen (looks_mroIn X hm)) (PySem.F.args_bexc_str _) (bexc_text x hq)))
  exact wpAny_bind (wpAny_bind (x.type.here ((looks_findIn X hs).here (wpAny_holding (wpAny_bind ((Looks.of_pure (bexc_bind _)).here (wpAny_bind (wpAny_mono called (fun _ _ z => wpAny_pure z) fun _ _ z => z))))))))
open Builtin Builtin.Str in
theorem str_own {Q : Value → Shared → Prop} (X : K.In s.heap) (x : ExcHas s.heap e C msg u) (hs : findIn K (.ref C) "__str__" = some (some (.builtin "BaseException.__str__"))) (hm : mroIn K C (.type "BaseException") = some true)
    (hu : A.in1.in1.units < cLine) (hq : Q (.str msg u) s) : wpAny (model prog w) A (call (.type "str") [.ref e]) Q E s := by
  refine callType_codes (T := "str") (Bi := Builtin.«object.__init__») (Q₁ := fun r s₁ => ∃ y v, r = .str y v ∧ Q r s₁) PySem.F.called_str (PySem.F.typeCall_str_1 _) PySem.F.entry_object_init ?_ ?_
  · refine codeAny_of_tree ?_
    show wpAny _ A.in1.in1 (do checkBuiltinCall "str.__new__" ⟨[.type "str", .ref e], []⟩; again (.builtin "str.__new__" ⟨[.type "str", .ref e], []⟩)) _ _ s
    refine wpAny_bind (wpAny_of_eq (PySem.F.newCall_str_1 _) (wpAny_pure ⟨plainId_quiet (by decide +kernel) _, codeAny_builtin PySem.F.entry_str_new ?_⟩))
    rw [Around.under_plainId (by decide +kernel) _, str_new_tree]
    refine wpAny_bind (wpAny_pure (wpAny_bind (wpAny_of_eq isSubtype_str_str ?_)))
    have text : wpAny (model prog w) A.in1.in1 (PySem.Builtin.Str.strOf (.ref e)) (fun r s₁ => ∃ y v, r = .str y v ∧ Q r s₁) E s := by
      unfold PySem.Builtin.Str.strOf
      rw [show isExactStr (.ref e) = false from rfl]
      exact wpAny_bind (m := cRoomFor _ _) (wpAny_cRoomFor hu (wpAny_bind (bexc_special X x hs hm (wpAny_pure ⟨_, _, rfl, hq⟩))))
    exact wpAny_bind (wpAny_mono text (fun r s₁ hr => wpAny_pure hr) fun _ _ y => y)
  · rintro obj s₁ ⟨y, v, rfl, hq⟩
    exact ⟨typeIs_str _ _ _, PySem.F.args_object_init_2 _ _, object_init_meets PySem.F.called_str.init.lookup PySem.F.called_str.made (by decide) prog w A.in1 _ s₁ ⟨typeIs_str _ _ _, rfl, hq⟩⟩
end
end Mine
end

/-! MHeard -/
section
open PySem PySem.W PyProof.Rows PySem.Calls PySem.Spec
set_option Elab.async false
namespace Mine
theorem ne_str_same {prog : Program} {w : World} {A : Around} {E : Value → Shared → Prop} {s : Shared} {x y : Str} {t u : Tok} {Q : Value → Shared → Prop} (e : x = y) (h : Q (.bool false) s) : wpAny (model prog w) A (compareOp .NotEq (.str x t) (.str y u)) Q E s := by
  refine ne_str ?_
  subst e
  simpa using h
local macro_rules | `(tactic| walk_at "compareOp NotEq str str") => `(tactic| (k_dflt (refine ne_str_same (by assumption) ?_)))
theorem int_part {prog : Program} {w : World} {A : Around} {E : Value → Shared → Prop} {s : Shared} {Q : Value → Shared → Prop} {l : List (Str × Tok)} {sp parts : List Str} {y : Str} {n : Int} {t : Tok}
    (hs : sp = parts) (hl : List.map (fun x => x.1) l = sp) (h5 : (l.length : Int) = 5) (hy : (List.map (fun x => x.1) l)[Int.toNat 3]? = some y)
    (hn : ∀ y, parts.length = 5 → parts[3]? = some y → PySem.intText? y = some n ∧ y.length ≤ 640) (h : Q (.int n s.toks) { s with toks := s.toks + 1 }) : wpAny (model prog w) A (call (.type "int") [.str y t]) Q E s := by
  subst hs
  rw [hl] at hy
  have h5' : sp.length = 5 := by rw [← hl, List.length_map]; omega
  exact KIN.call_text (hn y h5' hy).1 (hn y h5' hy).2 h
theorem parts_ne {l : List (Str × Tok)} {sp parts : List Str} (hl : List.map (fun x => x.1) l = sp) (hs : sp = parts) (h5 : (l.length : Int) ≠ 5) : parts.length ≠ 5 := by
  subst hs
  rw [← hl, List.length_map]
  omega
theorem parts_eq {l : List (Str × Tok)} {sp parts : List Str} (hl : List.map (fun x => x.1) l = sp) (hs : sp = parts) (h5 : (l.length : Int) = 5) : parts.length = 5 := by
  subst hs
  rw [← hl, List.length_map]
  omega
theorem of_allLt {d : Addr} : ∀ {l : List (Addr × Obj)}, AllLt d l → ∀ p ∈ l, p.1 < d
  | [], _, _, h => nomatch h
  | _ :: _, h, _, .head _ => h.1
  | _ :: _, h, _, .tail _ q => of_allLt h.2 _ q
local macro_rules | `(tactic| walk_at "call type:int") => `(tactic| ((rename (List.map _ _ = Txt.split _ _) => hm9); k_dflt (refine int_part (by assumption) hm9 (by assumption) (by assumption) (by assumption) ?_)))
local macro_rules | `(tactic| walk_at "call type:str") => `(tactic| ((with_reducible show wpAny _ _ (call (Value.type "str") [Value.ref _]) _ _ _); k_dflt (refine' str_own ?k1 ?k2 ?k3 ?k4 ?k5 ?_; (case k2 => ((rename Got _ _ _ _ _ => gX9); exact excHas_of (by assumption) gX9)); (case k1 => k_in); (case k3 => k_is); (case k4 => k_is); (case k5 => k_units); k_whole)))
set_option maxRecDepth 100000 in
set_option maxHeartbeats 8000000 in
theorem heard_call {w : World} {mean : ExcName → Option Value} {mg mb : Str → Option Value} {news : List (Addr × Obj)} {resp : Str} {t1 : Tok} {k : Nat}
    (hk1 : 1 ≤ k) (hk2 : k ≤ 64) (hlen : resp.length = k + 10) (hpre : Txt.slice resp none (some 3) = Str.ofString "229") (hfind : Txt.find resp (Str.ofString "(") = 4)
    (hfind3 : Txt.find3 resp (Str.ofString ")") (Txt.find resp (Str.ofString "(") + 1) = (k : Int) + 9)
    (hitem : Txt.item resp (Txt.find resp (Str.ofString "(") + 1) = Txt.item resp (Txt.find3 resp (Str.ofString ")") (Txt.find resp (Str.ofString "(") + 1) - 1))
    {parts : List Str} {n : Int} (hsplit : Txt.split (Txt.slice resp (some (Txt.find resp (Str.ofString "(") + 1)) (some (Txt.find3 resp (Str.ofString ")") (Txt.find resp (Str.ofString "(") + 1)))) (Txt.item resp (Txt.find resp (Str.ofString "(") + 1)) = parts)
    (hnum : ∀ y, parts.length = 5 → parts[3]? = some y → PySem.intText? y = some n ∧ y.length ≤ 640)
    {cn : Str} {cs : Scope} {a : Addr} {ccd : Value} {cl : List (Str × Addr)} {A₀ : Around} {h₀ : Heap} {L : Addr} {m : Str → Option Value} {s : Shared} {Q E : Value → Shared → Prop}
    (B : Below A₀ h₀ [] h₀) (F : Fr h₀ L s.heap m) (X : (hd.heap_39 w.params).In h₀) (N : News h₀ L s.heap news) (T : Top hd.view_39 (looseW hd.view_39 []) mean mg mb h₀) (hk : cs.kind = .function)
    (retBad : parts.length ≠ 5 → ∀ t h' tk', Fr h₀ L h' m → News h₀ L h' news → Q (.str resp t) { s with heap := h', toks := tk' })
    (retNum : parts.length = 5 → ∀ l t t' h' tk', Fr h₀ L h' m → News h₀ L h' ((l, { cls := .type "tuple", data := .seq #[.str (Str.ofString "peer") t, .int n t'] }) :: news) → (∀ p ∈ news, p.1 < l) → Q (.ref l) { s with heap := h', toks := tk' }) :
    wpAny (model Challenge.rw_wu0028_01.row.prog w) (ktrTop (1 + claimMargin + 1) 7 (some []) cn cs L a ccd cl []) (call (.ref 163) [.str resp t1]) Q E s := by
  revert X; k_fill; intro X
  w_on
  w_top on
  refine wpAny_call ?_
  k_dflt (refine' enter_turn B F X N T ?kA ?kF ?kK ?k6 ?k7 ?k8 ?k9 ?kB ?_ ?c5 ?c2 ?c3 ?c4)
  case kA => exact rfl
  case kF => exact rfl
  case kK => exact hk
  case k6 => k_is
  case k7 => k_is
  case k8 => ktr_room
  case k9 => exact BindsTo.of_eq rfl
  case kB => exact locs rfl
  case c2 => exact rfl
  case c3 => exact rfl
  case c4 => exact rfl
  case c5 => decide
  intro g' L' h' F' N' B' X' T' D'
  (try dsimp only)
  (try k_fold)
  w_strict (k_steps)
  · (rename News _ _ _ _ => kN9)
    (rename (List.map _ _ = Txt.split _ _) => hm9)
    exact retBad (parts_ne hm9 hsplit (by assumption)) _ _ _ (by assumption) (cb_drop kN9 (by kcj_all))
  · (rename News _ _ _ _ => kN9)
    (rename (List.map _ _ = Txt.split _ _) => hm9)
    (rename (_ ∧ _ ∧ AllLt _ _) => hlt9)
    exact retNum (parts_eq hm9 hsplit (by assumption)) _ _ _ _ _ (by assumption) (cb_drop kN9 (by kcj_all)) (of_allLt hlt9.2.2)
end Mine
end

/-! MFind4 -/
section
open PySem PySem.W PyProof.Rows PySem.Calls PySem.Spec
set_option Elab.async false
namespace Mine
open PySem.Builtin PySem.Builtin.Str in
theorem gives_find4 (x y : Str) (i j : Int) (t u v v' : Tok) : Gives (Builtin.«str.find» ⟨[.str x t, .str y u, .int i v, .int j v'], []⟩)
    (.int (match occurrences x y (fromIndex x.length i) (min (fromIndex x.length j) x.length) 1 with | k :: _ => (k : Int) | [] => -1)) := by
  show Gives (match occurrences x y (fromIndex x.length i) (min (fromIndex x.length j) x.length) 1 with | k :: _ => retInt k | [] => (do rule "str.find.not-found"; retInt (-1))) _
  cases occurrences x y (fromIndex x.length i) (min (fromIndex x.length j) x.length) 1 with
  | nil => exact .rule (.of_eq rfl)
  | cons k _ => exact .of_eq rfl
theorem fromIndex_nonneg {n : Nat} {i : Int} (h : 0 ≤ i) : fromIndex n i = i.toNat := by
  unfold fromIndex
  rw [if_neg (by omega)]
  congr 1
  omega
section
variable {prog : Program} {w : World} {A : Around} {E : Value → Shared → Prop} {s : Shared} {x y : Str} {t u v v' : Tok} {i j : Int} {Q : Value → Shared → Prop}
open PySem.Builtin PySem.Builtin.Str in
theorem find4 (hq : Q (.int (match occurrences x y (fromIndex x.length i) (min (fromIndex x.length j) x.length) 1 with | k :: _ => (k : Int) | [] => -1) s.toks) { s with toks := s.toks + 1 }) :
    wpAny (model prog w) A (call (.builtin "str.find") [.str x t, .str y u, .int i v, .int j v']) Q E s :=
  call_gives F.slot_str_find (typeIs_str _ _ _) F.entry_str_find (F.args_str_find_4 _ _ _ _) (gives_find4 x y i j t u v v') hq
/-- the whole text, from the start to the end -/
theorem find4_whole (hi : i = 0) (hj : j = x.length) (hq : Q (.int (Txt.find x y) s.toks) { s with toks := s.toks + 1 }) :
    wpAny (model prog w) A (call (.builtin "str.find") [.str x t, .str y u, .int i v, .int j v']) Q E s := by
  refine find4 ?_
  subst hi hj
  rw [fromIndex_nonneg (Int.le_refl 0), fromIndex_nonneg (by omega)]
  have e : (min ((x.length : Int)).toNat x.length) = x.length := by omega
  rw [e]
  exact hq
open PySem.Builtin PySem.Builtin.Str in
/-- nothing is found where it is sought -/
theorem find4_empty (hi : 0 ≤ i) (hle : i ≤ x.length) (hj : j = x.length) (hq : Q (.int i s.toks) { s with toks := s.toks + 1 }) :
    wpAny (model prog w) A (call (.builtin "str.find") [.str x t, .str Str.empty u, .int i v, .int j v']) Q E s := by
  refine find4 ?_
  subst hj
  rw [fromIndex_nonneg hi, fromIndex_nonneg (by omega)]
  have e : (min ((x.length : Int)).toNat x.length) = x.length := by omega
  rw [e]
  have here : StrLaws.At x Str.empty x.length i.toNat := by
    refine ⟨by show i.toNat + 0 ≤ x.length; omega, ?_⟩
    show (x.cps.extract i.toNat (i.toNat + 0) == #[]) = true
    simp
    omega
  rcases StrLaws.occ_head_from x Str.empty i.toNat 1 (Nat.le_refl 1) with ⟨_, hn⟩ | ⟨k, r, he, hk, _, hn⟩
  · exact absurd here (hn _ (Nat.le_refl _))
  · rw [he]
    have : k = i.toNat := by
      by_cases q : i.toNat < k
      · exact absurd here (hn _ (Nat.le_refl _) q)
      · omega
    subst this
    have e2 : ((i.toNat : Nat) : Int) = i := by omega
    simpa [e2] using hq
end
/-- where it is found, it lies within -/
theorem find_room (x y : Str) : Txt.find x y < 0 ∨ (0 ≤ Txt.find x y ∧ Txt.find x y + y.length ≤ x.length) := by
  unfold Txt.find
  rcases StrLaws.occ_head x y 1 (Nat.le_refl 1) with ⟨h, _⟩ | ⟨i, r, h, ha, _⟩
  · rw [h]
    exact .inl (by decide)
  · rw [h]
    have := ha.1
    exact .inr ⟨by show (0 : Int) ≤ (i : Int); omega, by show (i : Int) + _ ≤ _; omega⟩
end Mine
end

/-! MMatch -/
section
open PySem PySem.W PyProof.Rows PySem.Calls PySem.Spec
set_option Elab.async false
namespace Mine
local macro_rules | `(tactic| walk_at "call builtin:str.split") => `(tactic| (k_here; (rename (Txt.split _ _ = [_, _, _]) => hs9); (refine KSpl.split1 (by k_asm) (by k_asm) (by decide) ?_ (by size_fits)); intro D' l' h' k' e' a' F' N' l1; (try k_lt l1); (rw [hs9] at e'); (kspl_open e'); (simp only [strValues, List.map_cons, List.map_nil] at N' a')))
local macro_rules | `(tactic| walk_at "call builtin:str.find") => `(tactic| first
  | (k_dflt (refine find4_empty ?h1 ?h2 ?h3 ?_); (case h1 => omega); (case h2 => omega); (case h3 => rfl))
  | (k_dflt (refine find4_whole ?h1 ?h2 ?_); (case h1 => omega); (case h2 => rfl)))
set_option maxRecDepth 100000 in
set_option maxHeartbeats 8000000 in
theorem match_call {w : World} {mean : ExcName → Option Value} {mg mb : Str → Option Value} {news : List (Addr × Obj)} {want x got : Str} {t1 t2 : Tok}
    (hwl : want.length ≤ 1000) (hgl : got.length ≤ 1000) (hxl : x.length ≤ 1000) (hocc : (Builtin.Str.occurrences want (Str.ofString "...") 0 want.length 1).isEmpty = false) (hroom : Txt.find got x < 0 ∨ (0 ≤ Txt.find got x ∧ Txt.find got x + x.length ≤ got.length)) (hsplit : Txt.split want (Str.ofString "...") = [Str.empty, x, Str.empty])
    {cn : Str} {cs : Scope} {a : Addr} {ccd : Value} {cl : List (Str × Addr)} {outer : List Env} {A₀ : Around} {base h₀ : Heap} {L : Addr} {m : Str → Option Value} {s : Shared} {Q E : Value → Shared → Prop}
    (B : Below A₀ base outer h₀) (F : Fr h₀ L s.heap m) (X : (hd.heap_39 w.params).In h₀) (N : News h₀ L s.heap news) (T : Top hd.view_39 (looseW hd.view_39 []) mean mg mb h₀) (hk : cs.kind = .function)
    (ret : ∀ h' tk', Fr h₀ L h' m → News h₀ L h' news → Q (.bool (decide (0 ≤ Txt.find got x))) { s with heap := h', toks := tk' }) :
    wpAny (model Challenge.rw_wu0028_01.row.prog w) (ktrTop (1 + claimMargin + 1) 7 (some []) cn cs L a ccd cl outer) (call (.ref 65) [.str want t1, .str got t2]) Q E s := by
  revert X; k_fill; intro X
  have hel : Str.empty.length = 0 := rfl
  w_on
  w_top on
  refine wpAny_call ?_
  k_dflt (refine' enter_keep B F X T ?kA ?kF ?kK ?k6 ?k7 ?k8 ?k9 ?kB ?_ ?c5 ?c2 ?c3 ?c4)
  case kA => exact rfl
  case kF => exact rfl
  case kK => exact hk
  case k6 => k_is
  case k7 => k_is
  case k8 => ktr_room
  case k9 => exact BindsTo.of_eq rfl
  case kB => exact locs rfl
  case c2 => exact rfl
  case c3 => exact rfl
  case c4 => exact rfl
  case c5 => decide
  intro g' L' h' hkeep F' N' B' X' T'
  (try dsimp only)
  (try k_fold)
  w_strict (k_steps)
  · have e : decide (0 ≤ Txt.find got x) = false := decide_eq_false (by omega)
    rw [← e]
    exact ret _ _ (by assumption) (news_keep N fun b o q => Fr.keep (h₀ := g') (by assumption) b o (hkeep b o q))
  · have e : decide (0 ≤ Txt.find got x) = true := decide_eq_true (by omega)
    rw [← e]
    exact ret _ _ (by assumption) (news_keep N fun b o q => Fr.keep (h₀ := g') (by assumption) b o (hkeep b o q))
end Mine
end

/-! MIter -/
section
open PySem PySem.W PyProof.Rows PySem.Calls PySem.Spec
set_option Elab.async false
namespace Mine
section
variable {prog : Program} {w : World} {A : Around} {E : Value → Shared → Prop} {s : Shared} {env : Env} {h₀ : Heap} {x : Str} {body : List Stmt} {Q : Flow → Shared → Prop}
/-- a loop over a list of the ground, with the very values in hand; nothing of the ledger turns -/
theorem iter_vals {l : Addr} {vs : List Value} {m₀ : Str → Option Value} (J : Nat → (Str → Option Value) → Prop) (hh : A.handled = none) (hl : h₀.IsList l vs.toArray) (F : Fr h₀ env.locals s.heap m₀) (hj : J 0 m₀)
    (turn : ∀ i v m₁ h tk own, vs[i]? = some v → J i m₁ → Fr h₀ env.locals h (fun y => if y = x then some v else m₁ y) → News h₀ env.locals h own →
      wpAny (model prog w) A (execs body env) (InvPostN h₀ env.locals (fun m' _ => J (i + 1) m') own [] { s with heap := h, toks := tk } Q) E { s with heap := h, toks := tk })
    (done : ∀ m₁ h tk, J vs.length m₁ → Fr h₀ env.locals h m₁ → News h₀ env.locals h [] → Q .next { s with heap := h, toks := tk }) :
    wpAny (model prog w) A (pyIter (.ref l)) (fun it s₂ => LoopAtV prog w A h₀ env x body Q E it s₂) E s := by
  have hls : s.heap.IsList l vs.toArray := hl.at fun o e => F.keep l o e
  have hlt : l < h₀.objs.size := by
    obtain ⟨o, ho, _⟩ := hl
    exact Heap.lt_size ho
  have hLs : env.locals < s.heap.objs.size := F.ns.lt
  have habove := F.above
  refine wpAny_pyIter_list hls ?_
  refine ⟨s.heap.objs.size, [s.heap.objs.size, l], [s.heap.objs.size], vs.toArray.size, fun i v => vs.toArray[i]? = some v, _, m₀, [], fun i m₁ nx => nx = [] ∧ J i m₁, rfl,
    Walks.list (prog := prog) (w := w) hh s.heap.objs.size l (Nat.ne_of_lt (Nat.lt_trans (Nat.lt_of_lt_of_le hlt habove) hLs)) vs.toArray, ?_, ?_, (fun p hp => nomatch hp), ⟨⟨_, Heap.get?_push_size _ rfl, rfl, rfl⟩, hls.at fun o e => Heap.get?_push_of_some _ e⟩, F.push _, News.nil, ⟨rfl, hj⟩, ?_, ?_⟩
  · intro hm
    rcases List.mem_cons.mp hm with e | hm
    · exact absurd hLs (e ▸ Nat.lt_irrefl _)
    · exact absurd (Nat.lt_of_lt_of_le hlt habove) (List.mem_singleton.mp hm ▸ Nat.lt_irrefl _)
  · intro b hb
    rw [List.mem_singleton.mp hb]
    exact next_is_new F
  · rintro i v m₁ nx s₁ own ⟨hh', tk', rfl⟩ hin hP ⟨rfl, hJ⟩ _ _ _ _ _ F₁ N₁
    rw [List.append_nil] at N₁
    refine wpAny_mono (turn i v m₁ hh' tk' own (by simpa using hP) hJ F₁ N₁) (fun f s₂ p => ?_) fun _ _ e => e
    have up : InvEndN h₀ env.locals (fun m' _ => J (i + 1) m') own [] { s with heap := hh', toks := tk' } s₂ → LoopStepU h₀ env.locals [s.heap.objs.size] own (fun m₁ nx => nx = [] ∧ J (i + 1) m₁) { s with heap := hh', toks := tk' } .next s₂ := by
      rintro ⟨h', tk, m', news', nx, e, F', N', _, ho, _, hm⟩
      exact ⟨rfl, h', tk, m', [], e, F', fun p hp => N' p (ho p (by simpa using hp)), (fun p hp => nomatch hp), rfl, hm⟩
    cases f with
    | ret v => exact .ret p
    | brk => exact .brk p
    | next => exact .next (up p)
    | cont => exact .cont (up p)
  · rintro h' tk m' nx F' N' _ ⟨rfl, hJ⟩
    exact done m' h' tk (by simpa using hJ) F' N'
end
/-- ints, each with a token that is no private one -/
inductive TokInts : List Value → List Int → Prop where
  | nil : TokInts [] []
  | cons (n : Int) (t : Tok) {vs : List Value} {ns : List Int} (ht : 1 ≤ t) (h : TokInts vs ns) : TokInts (.int n t :: vs) (n :: ns)
theorem TokInts.ints {vs : List Value} {ns : List Int} (h : TokInts vs ns) : IntsAre vs ns := by
  induction h with
  | nil => exact .nil
  | cons n t _ _ ih => exact .cons n t ih
theorem TokInts.snoc {vs : List Value} {ns : List Int} (h : TokInts vs ns) {n : Int} {t : Tok} (ht : 1 ≤ t) : TokInts (vs ++ [.int n t]) (ns ++ [n]) := by
  induction h with
  | nil => exact .cons n t ht .nil
  | cons k u hu _ ih => exact .cons k u hu ih
theorem TokInts.at {vs : List Value} {ns : List Int} (h : TokInts vs ns) : ∀ {i : Nat} {v : Value}, vs[i]? = some v → ∃ n t, v = .int n t ∧ 1 ≤ t ∧ ns[i]? = some n := by
  induction h with
  | nil => intro i v hv; simp at hv
  | cons n t ht _ ih =>
    intro i v hv
    cases i with
    | zero =>
      simp at hv
      subst hv
      exact ⟨n, t, rfl, ht, rfl⟩
    | succ i =>
      obtain ⟨k, u, e, hu, hk⟩ := ih (by simpa using hv)
      exact ⟨k, u, e, hu, by simpa using hk⟩
theorem TokInts.length {vs : List Value} {ns : List Int} (h : TokInts vs ns) : vs.length = ns.length := h.ints.length
end Mine
end

/-! MComp -/
section
open PySem PySem.W PyProof.Rows PySem.Calls PySem.Spec
set_option Elab.async false
set_option maxRecDepth 100000
namespace Mine
open PyProof.Rows.LCg
/-- a list of values that answers to a list of ints, one by one -/
inductive Each (R : Int → Value → Prop) : List Int → List Value → Prop where
  | nil : Each R [] []
  | cons {k : Int} {v : Value} {ks : List Int} {vs : List Value} (h : R k v) (t : Each R ks vs) : Each R (k :: ks) (v :: vs)
theorem Each.snoc {R : Int → Value → Prop} {ks : List Int} {vs : List Value} (h : Each R ks vs) {k : Int} {v : Value} (hr : R k v) : Each R (ks ++ [k]) (vs ++ [v]) := by
  induction h with
  | nil => exact .cons hr .nil
  | cons h _ ih => exact .cons h ih
theorem Each.length {R : Int → Value → Prop} {ks : List Int} {vs : List Value} (h : Each R ks vs) : vs.length = ks.length := by
  induction h with
  | nil => rfl
  | cons _ _ ih => simp [ih]
section
variable {prog : Program} {w : World} {A : Around} {E : Value → Shared → Prop} {s : Shared} {h₀ : Heap} {L : Addr} {m : Str → Option Value} {env : Env} {elt iter : Expr} {x : Str} {px : Pos} {scope : Scope} {cl : List (Str × Addr)} {pos : Pos}
/-- a turn of a comprehension, the tokens bounded from below -/
def TurnT (prog : Program) (w : World) (A : Around) (h₀ : Heap) (L : Addr) (m : Str → Option Value) (env : Env) (elt : Expr) (x : Str) (scope : Scope) (cl : List (Str × Addr)) (lb : Nat) (R : Int → Value → Prop) (s₁ : Shared) (k : Int) (news : List (Addr × Obj)) : Prop :=
  ∀ t I oI C oC D m₂ ys h tk (E' : Value → Shared → Prop), lb ≤ tk → NsObj oC m₂ → m₂ x = some (.int k t) → Fr h₀ L h m → News h₀ L h ((I, oI) :: (C, oC) :: (D, lst ys) :: news) → Off3 I C D news → ((@Ne Nat I C) ∧ (@Ne Nat I D) ∧ (@Ne Nat C D)) →
    wpAny (model prog w) A (eval elt (compEnvC scope cl C env)) (CompEnd h₀ L m { s₁ with heap := h, toks := tk } I oI C oC D (lst ys) (fun _ => True) (fun y news' => news' = news ∧ R k y)) E' { s₁ with heap := h, toks := tk }
def SrcT (prog : Program) (w : World) (A : Around) (h₀ : Heap) (L : Addr) (m : Str → Option Value) (env : Env) (elt : Expr) (x : Str) (scope : Scope) (cl : List (Str × Addr)) (lb : Nat) (R : Int → Value → Prop) (Q : Value → Shared → Prop) (xv : Value) (s₁ : Shared) : Prop :=
  ∃ r b t u v n news, xv = .ref r ∧ A.handled = none ∧ Fr h₀ L s₁.heap m ∧ News h₀ L s₁.heap news ∧ IsRange s₁.heap r 0 b 1 t u v ∧ Builtin.Range.small 0 b 1 = true ∧ Builtin.Range.rangeSize 0 b 1 = ((n : Nat) : Int) ∧ n ≤ sizeLine ∧
    (∀ i : Nat, i < n → TurnT prog w A h₀ L m env elt x scope cl lb R s₁ (i : Int) news) ∧
    ∀ ys D h tk, Each R (rangeKs 0 n) ys → lb ≤ tk → Fr h₀ L h m → News h₀ L h ((D, lst ys) :: news) → Off1 D news → Q (.ref D) { s₁ with heap := h, toks := tk }
theorem SrcT.intro {lb : Nat} {R : Int → Value → Prop} {Q : Value → Shared → Prop} {s₁ : Shared} {r : Addr} {b : Int} {t u v : Tok} {n : Nat} {news : List (Addr × Obj)} (hh : A.handled = none) (F : Fr h₀ L s₁.heap m) (N : News h₀ L s₁.heap news)
    (hr : IsRange s₁.heap r 0 b 1 t u v) (hsm : Builtin.Range.small 0 b 1 = true) (hn : Builtin.Range.rangeSize 0 b 1 = ((n : Nat) : Int)) (hsz : n ≤ sizeLine) (turn : ∀ i : Nat, i < n → TurnT prog w A h₀ L m env elt x scope cl lb R s₁ (i : Int) news)
    (fin : ∀ ys D h tk, Each R (rangeKs 0 n) ys → lb ≤ tk → Fr h₀ L h m → News h₀ L h ((D, lst ys) :: news) → Off1 D news → Q (.ref D) { s₁ with heap := h, toks := tk }) :
    SrcT prog w A h₀ L m env elt x scope cl lb R Q (.ref r) s₁ := ⟨r, b, t, u, v, n, news, rfl, hh, F, N, hr, hsm, hn, hsz, turn, fin⟩
theorem rangeKs_snoc (n i : Nat) (h : i < n) : (rangeKs 0 n).take (i + 1) = (rangeKs 0 n).take i ++ [(i : Int)] := by
  have e : (rangeKs 0 n)[i]? = some (i : Int) := by simp [rangeKs, h]
  simp [List.take_add_one, e]
/-- the loop of a comprehension over range(n), from its new list on -/
theorem block_lb {lb n : Nat} {R : Int → Value → Prop} {I : Addr} {news : List (Addr × Obj)} {s₂ : Shared} {RR : Value → Addr → Result → Shared → Prop} (hh : A.handled = none) (hsz : n ≤ sizeLine)
    (hcell : ∀ y ∈ scope.names, y.2 ≠ .cell) (hkind : scope.kind = .function) (hx : scope.names.lookup x = some .local)
    (hst : IsRangeIter s₂.heap I (0 + ((0 : Nat) : Int) * 1) ((n : Int) - ((0 : Nat) : Int)) 1) (hI : I < s₂.heap.objs.size) (F : Fr h₀ L s₂.heap m) (N : News h₀ L s₂.heap news) (hIL : L ≠ I) (hI₀ : h₀.get? I = none) (off : ∀ p ∈ news, p.1 ≠ I) (hlb : lb ≤ s₂.toks)
    (turn : ∀ i : Nat, i < n → TurnT prog w A h₀ L m env elt x scope cl lb R s₂ (i : Int) news)
    (hRR : ∀ D C h tk m' ys, Fr h₀ L h m → News h₀ L h ((D, lst ys) :: news) → Off1 D news → h.Ns C m' → h₀.get? C = none → h₀.get? D = none → C ≠ L → D ≠ L → C ≠ D → (∀ p ∈ news, p.1 ≠ C) → lb ≤ tk → Each R (rangeKs 0 n) ys → RR (.ref D) C (.ok .next) { s₂ with heap := h, toks := tk }) :
    wpAny (model prog w) A (newList []) (fun acc s₃ => wpAny (model prog w) A (newFunctionEnv scope env.globals cl [] env.qual none .none (some env)) (fun cenv s₄ =>
      codeAny (model prog w) A (.compStart (.ListComp elt [⟨.Name x px, iter, [], 0⟩] scope pos) 0 (.ref I) acc { cenv with scope := relabel scope env }) (RR acc cenv.locals) s₄) E s₃) E s₂ := by
  have W := range_walks (prog := prog) (w := w) (I := I) hh 0 n
  refine wpAny_newObj_type (wpAny_newFunctionEnv hcell (by intro y hy; simp at hy) (fun h₁ hns hsb => ?_) hkind)
  dsimp only at hns hsb ⊢
  generalize hG : s₂.heap.push { cls := .type "list", dict := none, data := .seq ([] : List Value).toArray } = G at hns hsb ⊢
  generalize hD : s₂.heap.objs.size = D at *
  generalize hC : G.objs.size = C at *
  have eC : C = D + 1 := by rw [← hC, ← hG, Heap.size_push, hD]
  have ltD : ∀ b : Nat, b < D → b ≠ C ∧ b ≠ D := fun b hb => ⟨by rw [eC]; exact Nat.ne_of_lt (Nat.lt_succ_of_lt hb), Nat.ne_of_lt hb⟩
  have DC : D ≠ C := by rw [eC]; exact Nat.ne_of_lt (Nat.lt_succ_self _)
  have old : ∀ b o, s₂.heap.get? b = some o → h₁.get? b = some o := fun b o e => hsb.extBut b o (ltD b (hD ▸ Heap.lt_size e)).1 (Heap.get?_push_of_some _ (hG ▸ Heap.get?_push_of_some _ e))
  have fresh : ∀ b : Nat, D ≤ b → h₀.get? b = none := fun b hb => by
    cases e : h₀.get? b with
    | none => rfl
    | some o => exact absurd (hD ▸ Heap.lt_size (F.keep b o e)) (Nat.not_lt.mpr hb)
  have D₀ := fresh D (Nat.le_refl _)
  have C₀ := fresh C (by rw [eC]; exact Nat.le_succ _)
  have Llt : L < D := hD ▸ F.ns.lt
  have DL : D ≠ L := (ltD L Llt).2.symm
  have CL : C ≠ L := (ltD L Llt).1.symm
  have IC : I ≠ C := (ltD I hI).1
  have ID : I ≠ D := (ltD I hI).2
  have offs : ∀ p ∈ news, p.1 ≠ I ∧ p.1 ≠ C ∧ p.1 ≠ D := fun p hp => ⟨off p hp, (ltD _ (hD ▸ Heap.lt_size (N p hp).1)).1, (ltD _ (hD ▸ Heap.lt_size (N p hp).1)).2⟩
  have o3 : Off3 I C D news := Off3.of offs
  have acc0 : h₁.get? D = some (lst []) := hsb.extBut _ _ DC (Heap.get?_push_of_some _ (by rw [← hG, ← hD]; exact Heap.get?_push_size _ rfl))
  have st1 : IsRangeIter h₁ I (0 + ((0 : Nat) : Int) * 1) ((n : Int) - ((0 : Nat) : Int)) 1 := W.frame _ _ _ hst fun b _ o e => old b o e
  have loop : ∀ s₃ : Shared, s₃ = { s₂ with heap := h₁, toks := s₂.toks + ([] : List (Str × Value)).length } →
      codeAny (model prog w) A (.compLoop (.ListComp elt [⟨.Name x px, iter, [], 0⟩] scope pos) 0 (.ref I) (.ref D) (compEnvC scope cl C env)) (RR (.ref D) C) s₃ := by
    rintro s₃ rfl
    refine codeAny_compLoop_tests
      (fun k s' => ∃ h' tk i ys m', s' = { s₂ with heap := h', toks := tk } ∧ lb ≤ tk ∧ i ≤ n ∧ k = n + 1 - i ∧ Each R ((rangeKs 0 n).take i) ys ∧ IsRangeIter h' I (0 + (i : Nat) * 1) ((n : Int) - (i : Nat)) 1 ∧ Fr h₀ L h' m ∧ h'.Ns C m' ∧ News h₀ L h' ((D, lst ys) :: news))
      ?_ (n + 1) ⟨h₁, _, 0, [], _, rfl, by show lb ≤ s₂.toks + 0; exact hlb, Nat.zero_le _, rfl, .nil, st1, F.keeps old, hns, fun p hp => ?_⟩
    · rintro k s' ⟨h', tk, i, ys, m', rfl, htk, hi, rfl, hys, hst', F', hn', N'⟩
      have hylen : ys.length = i := by rw [hys.length, List.length_take, rangeKs_length]; omega
      by_cases hlt : i < n
      · refine wpAny_with_toks (n := lb) htk (W.item i _ _ _ hlt hst' fun v h₂ tk₂ hPv hst₂ hk₂ htk₂ => ?_)
        obtain ⟨t, hv⟩ := hPv
        rw [Int.zero_add] at hv
        subst hv
        refine wpAny_assign_Name (wpAny_storeName_local (lookup_relabel_local hx) (hn'.at' fun o e => hk₂ _ o (by simpa using IC.symm) e) (fun h₃ hn₃ hs₃ => ?_) (by simp [compEnvC, relabel, hkind]))
        refine wpAny_tests_nil ?_
        simp only [if_true]
        have st₃ := W.frame _ _ h₃ hst₂ fun b hb o e => hs₃.extBut b o (fun q => IC (by rw [← List.mem_singleton.mp hb]; exact q)) e
        obtain ⟨oC, heC, hoC⟩ := ns_obj hn₃
        have F₃ : Fr h₀ L h₃ m := (fr_but F' hk₂ hIL hI₀).change hs₃ CL C₀
        have N₂ := news_but N' hk₂ fun p hp => by
          rcases List.mem_cons.mp hp with rfl | hp
          · exact ID.symm
          · exact off p hp
        have N₃ : News h₀ L h₃ ((I, _) :: (C, oC) :: (D, lst ys) :: news) := fun p hp => by
          rcases List.mem_cons.mp hp with rfl | hp
          · exact ⟨st₃, hIL.symm, hI₀⟩
          · rcases List.mem_cons.mp hp with rfl | hp
            · exact ⟨heC, CL, C₀⟩
            · have z := N₂ p hp
              refine ⟨hs₃.extBut _ _ ?_ z.1, z.2⟩
              rcases List.mem_cons.mp hp with rfl | hp
              · exact DC
              · exact (offs p hp).2.1
        refine wpAny_mono (wpAny_toks_of (n := lb) (Nat.le_succ_of_le htk₂) (turn i hlt t I _ C oC D _ ys h₃ _ _ (Nat.le_succ_of_le htk₂) hoC (by simp) F₃ N₃ o3 ⟨IC, ID, DC.symm⟩)) (fun y s₄ q => ?_) fun _ _ q => q.2
        obtain ⟨hlb₄, h₄, tk₄, news₄, rfl, F₄, N₄, -, -, rfl, hy⟩ := q
        have zI := (N₄ (I, _) List.mem_cons_self).1
        have zC := (N₄ (C, oC) (List.mem_cons_of_mem _ List.mem_cons_self)).1
        have zD := (N₄ (D, lst ys) (List.mem_cons_of_mem _ (List.mem_cons_of_mem _ List.mem_cons_self))).1
        have N₄' : News h₀ L h₄ news₄ := fun p hp => N₄ p (List.mem_cons_of_mem _ (List.mem_cons_of_mem _ (List.mem_cons_of_mem _ hp)))
        refine append_at (hsz := by show ys.toArray.size ≤ sizeLine; rw [List.size_toArray, hylen]; exact Nat.le_trans hi hsz) zD fun h₅ hs₅ hD₅ => ?_
        refine ⟨n + 1 - (i + 1), by omega, h₅, tk₄, i + 1, ys ++ [y], _, rfl, hlb₄, hlt, rfl, ?_, W.frame _ h₄ _ zI fun b hb o e => hs₅.extBut b o (fun q => ID (by rw [← List.mem_singleton.mp hb]; exact q)) e, F₄.change hs₅ DL D₀, (hoC.ns zC).sameBut hs₅ DC.symm, fun p hp => ?_⟩
        · rw [rangeKs_snoc n i hlt]
          exact hys.snoc hy
        · rcases List.mem_cons.mp hp with rfl | hp
          · exact ⟨hD₅.trans (congrArg some (lst_snoc ys y)), DL, D₀⟩
          · exact ⟨hs₅.extBut _ _ (offs p hp).2.2 (N₄' p hp).1, (N₄' p hp).2⟩
      · obtain rfl : i = n := Nat.le_antisymm hi (Nat.not_lt.mp hlt)
        refine wpAny_with_toks (n := lb) htk (W.done _ _ _ hst' fun h₂ tk₂ hk₂ htk₂ => ?_)
        rw [List.take_of_length_le (Nat.le_of_eq (rangeKs_length _ _))] at hys
        exact hRR _ _ h₂ tk₂ _ ys (fr_but F' hk₂ hIL hI₀) (news_but N' hk₂ fun p hp => by
          rcases List.mem_cons.mp hp with rfl | hp
          · exact ID.symm
          · exact off p hp) o3.one (hn'.at' fun o e => hk₂ _ o (by simpa using IC.symm) e) C₀ D₀ CL DL DC.symm (fun p hp => (offs p hp).2.1) htk₂ hys
    · rcases List.mem_cons.mp hp with rfl | hp
      · exact ⟨acc0, DL, D₀⟩
      · exact ⟨old _ _ (N p hp).1, (N p hp).2⟩
  exact codeAny_compStart_list (loop _ rfl) (W.self 0 _ _ _ st1 (loop _ rfl))
/-- a list comprehension over range(n), its tokens bounded from below -/
theorem listcomp_lb {lb : Nat} {R : Int → Value → Prop} {Q : Value → Shared → Prop} (F₀ : Fr h₀ L s.heap m) (hclos : closureFor scope env = pure cl) (hcell : ∀ y ∈ scope.names, y.2 ≠ .cell) (hkind : scope.kind = .function)
    (hnames : ∀ y ∈ scope.names, y.2 = .local → scope.names.lookup y.1 = some .local) (hx : scope.names.lookup x = some .local) (hlb : lb ≤ s.toks)
    (h : wpAny (model prog w) A (eval iter env) (SrcT prog w A h₀ L m env elt x scope cl lb R Q) E s) (hs : ∀ x, foldedSetIterable iter env x = pure x) :
    wpAny (model prog w) A (eval (.ListComp elt [⟨.Name x px, iter, [], 0⟩] scope pos) env) Q E s := by
  rw [eval_ListComp]
  refine wpAny_comprehension_free (use := none) rfl hs hclos hkind hnames (wpAny_mono (wpAny_toks_of (n := lb) hlb h) (fun xv s₁ h₁ => ?_) fun _ _ e => e.2)
  obtain ⟨hlb₁, r, b, t, u, v, n, news, rfl, hh, F, N, hr, hsm, hn, hsz, turn, fin⟩ := h₁
  refine wpAny_pyIter_range hr hsm ?_
  refine block_lb (R := R) (lb := lb) (n := n) hh hsz hcell hkind hx (by show IsRangeIter _ _ _ _ _; rw [hn]; simpa using Heap.get?_push_size _ rfl) (by rw [Heap.size_push]; exact Nat.lt_succ_self _)
    (F.keeps fun _ _ e => Heap.get?_push_of_some _ e) (N.grown fun _ _ e => Heap.get?_push_of_some _ e) (Nat.ne_of_lt F.ns.lt) (next_is_new F) (fun p hp => Nat.ne_of_lt (Heap.lt_size (N p hp).1)) hlb₁
    (fun i hi t I oI C oC D m₂ ys h tk E' => turn i hi t I oI C oC D m₂ ys h tk E') ?_
  intro D C h tk m' ys F' N' o1 hn' C₀ D₀ CL DL DC offC htk hys
  refine ⟨m', hn', fun h'' hs'' => fin ys D h'' tk hys htk (F'.change hs'' CL C₀) (fun p hp => ?_) o1⟩
  refine ⟨hs''.extBut _ _ ?_ (N' p hp).1, (N' p hp).2⟩
  rcases List.mem_cons.mp hp with rfl | hp
  · exact DC.symm
  · exact offC p hp
/-- the same, where the list is stored under a name at once -/
def SrcA (prog : Program) (w : World) (A : Around) (h₀ : Heap) (L : Addr) (m : Str → Option Value) (env : Env) (elt : Expr) (x y : Str) (scope : Scope) (cl : List (Str × Addr)) (lb : Nat) (R : Int → Value → Prop) (Q : Flow → Shared → Prop) (xv : Value) (s₁ : Shared) : Prop :=
  ∃ r b t u v n news, xv = .ref r ∧ A.handled = none ∧ Fr h₀ L s₁.heap m ∧ News h₀ L s₁.heap news ∧ IsRange s₁.heap r 0 b 1 t u v ∧ Builtin.Range.small 0 b 1 = true ∧ Builtin.Range.rangeSize 0 b 1 = ((n : Nat) : Int) ∧ n ≤ sizeLine ∧
    (∀ i : Nat, i < n → TurnT prog w A h₀ L m env elt x scope cl lb R s₁ (i : Int) news) ∧
    ∀ ys D h tk, Each R (rangeKs 0 n) ys → lb ≤ tk → Fr h₀ L h (fun z => if z = y then some (.ref D) else m z) → News h₀ L h ((D, lst ys) :: news) → Off1 D news → Q .next { s₁ with heap := h, toks := tk }
theorem SrcA.intro {y : Str} {lb : Nat} {R : Int → Value → Prop} {Q : Flow → Shared → Prop} {s₁ : Shared} {r : Addr} {b : Int} {t u v : Tok} {n : Nat} {news : List (Addr × Obj)} (hh : A.handled = none) (F : Fr h₀ L s₁.heap m) (N : News h₀ L s₁.heap news)
    (hr : IsRange s₁.heap r 0 b 1 t u v) (hsm : Builtin.Range.small 0 b 1 = true) (hn : Builtin.Range.rangeSize 0 b 1 = ((n : Nat) : Int)) (hsz : n ≤ sizeLine) (turn : ∀ i : Nat, i < n → TurnT prog w A h₀ L m env elt x scope cl lb R s₁ (i : Int) news)
    (fin : ∀ ys D h tk, Each R (rangeKs 0 n) ys → lb ≤ tk → Fr h₀ L h (fun z => if z = y then some (.ref D) else m z) → News h₀ L h ((D, lst ys) :: news) → Off1 D news → Q .next { s₁ with heap := h, toks := tk }) :
    SrcA prog w A h₀ L m env elt x y scope cl lb R Q (.ref r) s₁ := ⟨r, b, t, u, v, n, news, rfl, hh, F, N, hr, hsm, hn, hsz, turn, fin⟩
theorem assign_comp_lb {lb : Nat} {R : Int → Value → Prop} {y : Str} {py spos : Pos} {Q : Flow → Shared → Prop} (hLe : env.locals = L)
    (hsw : swapsWith (.ListComp elt [⟨.Name x px, iter, [], 0⟩] scope pos) (some (.Name y py)) spos.line env = pure true) (hclos : closureFor scope env = pure cl) (hcell : ∀ z ∈ scope.names, z.2 ≠ .cell) (hkind : scope.kind = .function)
    (hnames : ∀ z ∈ scope.names, z.2 = .local → scope.names.lookup z.1 = some .local) (hx : scope.names.lookup x = some .local) (hy : env.kindOf y = some .local) (hp : (env.scope.kind == .class || (env.scope.kind == .module && env.locals != env.globals)) = false)
    (hlb : lb ≤ s.toks) (h : wpAny (model prog w) A (eval iter env) (SrcA prog w A h₀ L m env elt x y scope cl lb R Q) E s) (hs : ∀ x, foldedSetIterable iter env x = pure x) :
    wpAny (model prog w) A (exec (.Assign [.Name y py] (.ListComp elt [⟨.Name x px, iter, [], 0⟩] scope pos) spos) env) Q E s := by
  subst hLe
  rw [exec_Assign_Name_used _ _ _ _ hsw]
  refine wpAny_bind (wpAny_standAt (wpAny_bind ?_))
  show wpAny _ A (do let _ ← comprehension (.ListComp elt [⟨.Name x px, iter, [], 0⟩] scope pos) scope env _ (newList []) false (eval iter env) (some (assign (.Name y py) env))) _ _ s
  refine wpAny_bind (wpAny_mono (wpAny_comprehension_free (use := some (assign (.Name y py) env)) (Q := fun _ s' => Q .next s') rfl hs hclos hkind hnames
    (wpAny_mono (wpAny_toks_of (n := lb) hlb h) (fun xv s₁ h₁ => ?_) fun _ _ e => e.2)) (fun _ s' hq => wpAny_pure (wpAny_pure hq)) fun _ _ e => e)
  obtain ⟨hlb₁, r, b, t, u, v, n, news, rfl, hh, F, N, hr, hsm, hn, hsz, turn, fin⟩ := h₁
  refine wpAny_pyIter_range hr hsm ?_
  refine block_lb (R := R) (lb := lb) (n := n) hh hsz hcell hkind hx (by show IsRangeIter _ _ _ _ _; rw [hn]; simpa using Heap.get?_push_size _ rfl) (by rw [Heap.size_push]; exact Nat.lt_succ_self _)
    (F.keeps fun _ _ e => Heap.get?_push_of_some _ e) (N.grown fun _ _ e => Heap.get?_push_of_some _ e) (Nat.ne_of_lt F.ns.lt) (next_is_new F) (fun p hp => Nat.ne_of_lt (Heap.lt_size (N p hp).1)) hlb₁
    (fun i hi t I oI C oC D m₂ ys h tk E' => turn i hi t I oI C oC D m₂ ys h tk E') ?_
  intro D C h' tk m' ys F' N' o1 hn' C₀ D₀ CL DL DC offC htk hys
  show wpAny _ A (assign (.Name y py) env (.ref D)) _ _ _
  refine wpAny_assign_Name (wpAny_storeName_local hy F'.ns (fun h₂ hn₂ hs₂ => ?_) hp)
  have hL₀ : h₀.get? env.locals = none := kts_self F'
  have F₂ : Fr h₀ env.locals h₂ (fun z => if z = y then some (.ref D) else m z) := ⟨hn₂, fun b o e => hs₂.extBut b o (fun q => by rw [q, hL₀] at e; cases e) (F'.keep b o e), F'.above⟩
  refine ⟨m', hn'.sameBut hs₂ CL, fun h'' hs'' => fin ys D h'' _ hys (Nat.le_succ_of_le htk) (F₂.change hs'' CL C₀) (fun p hp => ?_) o1⟩
  have z : h₂.get? p.1 = some p.2 := hs₂.extBut _ _ (N' p hp).2.1 (N' p hp).1
  refine ⟨hs''.extBut _ _ ?_ z, (N' p hp).2⟩
  rcases List.mem_cons.mp hp with rfl | hp
  · exact DC.symm
  · exact offC p hp
end
/-- ints by a function, each with a token above -/
def TokEl (lb : Nat) (g : Int → Int) (k : Int) (v : Value) : Prop := ∃ t, lb ≤ t ∧ v = .int (g k) t
theorem Each.ints {lb : Nat} {g : Int → Int} {ks : List Int} {ys : List Value} (h : Each (TokEl lb g) ks ys) : IntsAre ys (ks.map g) := by
  induction h with
  | nil => exact .nil
  | cons h _ ih =>
    obtain ⟨t, _, rfl⟩ := h
    exact .cons _ t ih
theorem Each.tok {lb : Nat} {g : Int → Int} {ks : List Int} {ys : List Value} (h : Each (TokEl lb g) ks ys) : ∀ {i : Nat} {v : Value}, ys[i]? = some v → ∃ n t, v = .int n t ∧ lb ≤ t ∧ (ks.map g)[i]? = some n := by
  induction h with
  | nil => intro i v hv; simp at hv
  | cons h _ ih =>
    intro i v hv
    obtain ⟨t, ht, e⟩ := h
    cases i with
    | zero =>
      simp at hv
      subst hv
      exact ⟨_, t, e, ht, rfl⟩
    | succ i =>
      obtain ⟨k, u, e, hu, hk⟩ := ih (by simpa using hv)
      exact ⟨k, u, e, hu, by simpa using hk⟩
end Mine
end

/-! MCount -/
section
open PySem PySem.W PyProof.Rows PySem.Calls PySem.Spec
set_option Elab.async false
namespace Mine
theorem is_ints {M : Model} {A : Around} {E : Value → Shared → Prop} {s : Shared} {p q : Int} {t u : Tok} {Q : Value → Shared → Prop} (ht : @LE.le Nat _ 1 t) (hu : @LE.le Nat _ 1 u) (hne : @Ne Nat t u) (hsm : smallInt q = true) (h : Q (.bool (p == q)) s) :
    wpAny M A (compareOp .Is (.int p t) (.int q u)) Q E s := by
  show wpAny M A (do return .bool (← isSame (.int p t) (.int q u))) Q E s
  refine wpAny_bind ?_
  have h0 : (t == 0 || u == 0) = false := by
    have a : (t == 0) = false := by simpa using Nat.ne_of_gt ht
    have b : (u == 0) = false := by simpa using Nat.ne_of_gt hu
    rw [a, b]; rfl
  unfold isSame
  by_cases e : p = q
  · subst e
    simp only [beq_self_eq_true, hsm, Bool.and_self, if_true]
    unfold isSame.cachedInt
    rw [h0]
    simp only [Bool.false_eq_true, if_false]
    exact wpAny_bind (wpAny_rule (wpAny_pure (wpAny_pure (by simpa using h))))
  · have e1 : (p == q) = false := by simpa using e
    have e2 : (t == u) = false := by simpa using hne
    simp only [e1, Bool.false_and, Bool.false_eq_true, if_false]
    unfold isSame.created
    rw [h0, e2]
    simp only [Bool.false_eq_true, if_false, Bool.not_false, if_true]
    rw [e1] at h
    exact wpAny_pure (wpAny_pure h)
theorem count_take {ns : List Int} {b n : Int} {i : Nat} (h : ns[i]? = some n) : (((ns.take (i + 1)).count b : Nat) : Int) = if n = b then ((ns.take i).count b : Int) + 1 else ((ns.take i).count b : Int) := by
  have e : ns.take (i + 1) = ns.take i ++ [n] := by simp [List.take_add_one, h]
  rw [e, List.count_append, List.count_singleton]
  by_cases q : n = b
  · subst q; simp
  · simp [q]
theorem cnt_pos {n b c : Int} {t : Tok} (e : n = b) : some (Value.int (c + 1) t) = some (Value.int (if n = b then c + 1 else c) t) := by rw [if_pos e]
theorem cnt_neg {n b c : Int} {t : Tok} (e : n ≠ b) : some (Value.int c t) = some (Value.int (if n = b then c + 1 else c) t) := by rw [if_neg e]
/-- a list of ints with their tokens above -/
structure TokList (vs : List Value) (ns : List Int) (lb : Nat) : Prop where
  len : vs.length = ns.length
  at_ : ∀ (i : Nat) (v : Value), vs[i]? = some v → ∃ n t, v = Value.int n t ∧ lb ≤ t ∧ ns[i]? = some n
section
variable {prog : Program} {w : World} {A : Around} {E : Value → Shared → Prop} {s : Shared} {env : Env} {h₀ : Heap} {body : List Stmt} {Q : Flow → Shared → Prop}
theorem count_iter {l : Addr} {vs : List Value} {ns : List Int} {b : Int} {lb : Nat} {t₀ : Tok} {m₀ : Str → Option Value} (hh : A.handled = none) (hl : h₀.IsList l vs.toArray)
    (hv : TokList vs ns lb) (_hb : smallInt b = true)
    (F : Fr h₀ env.locals s.heap m₀) (h0 : m₀ (Str.ofString "count") = some (.int 0 t₀))
    (turn : ∀ c tc n t h tk own, lb ≤ t → Fr h₀ env.locals h (fun y => if y = Str.ofString "i" then some (.int n t) else if y = Str.ofString "count" then some (.int c tc) else m₀ y) → News h₀ env.locals h own →
      wpAny (model prog w) A (execs body env) (InvPostN h₀ env.locals (fun m' _ => (∃ tc', m' (Str.ofString "count") = some (.int (if n = b then c + 1 else c) tc')) ∧ ∀ y, y ≠ Str.ofString "i" → y ≠ Str.ofString "count" → m' y = m₀ y) own [] { s with heap := h, toks := tk } Q) E { s with heap := h, toks := tk })
    (done : ∀ tc (u : Str → Option Value) h tk, Fr h₀ env.locals h (fun y => if y = Str.ofString "i" then u y else if y = Str.ofString "count" then some (.int (ns.count b) tc) else m₀ y) → News h₀ env.locals h [] → Q .next { s with heap := h, toks := tk }) :
    wpAny (model prog w) A (pyIter (.ref l)) (fun it s₂ => LoopAtV prog w A h₀ env (Str.ofString "i") body Q E it s₂) E s := by
  have ic : (Str.ofString "i" : Str) ≠ Str.ofString "count" := by decide +kernel
  refine iter_vals (fun i m => (∃ tc, m (Str.ofString "count") = some (.int ((ns.take i).count b : Int) tc)) ∧ ∀ y, y ≠ Str.ofString "i" → y ≠ Str.ofString "count" → m y = m₀ y) hh hl F ⟨⟨t₀, by simpa using h0⟩, fun _ _ _ => rfl⟩ ?_ ?_
  · rintro i v m₁ h tk own hi ⟨⟨tc, hc⟩, hr⟩ F₁ N₁
    obtain ⟨n, t, rfl, ht, hn⟩ := hv.at_ i v hi
    have e : (fun y => if y = Str.ofString "i" then some (Value.int n t) else m₁ y) = fun y => if y = Str.ofString "i" then some (Value.int n t) else if y = Str.ofString "count" then some (.int ((ns.take i).count b : Int) tc) else m₀ y := by
      funext y
      by_cases h1 : y = Str.ofString "i"
      · rw [if_pos h1, if_pos h1]
      · rw [if_neg h1, if_neg h1]
        by_cases h2 : y = Str.ofString "count"
        · rw [if_pos h2, h2, hc]
        · rw [if_neg h2, hr y h1 h2]
    rw [e] at F₁
    rw [count_take hn]
    exact turn _ tc n t h tk own ht F₁ N₁
  · rintro m₁ h tk ⟨⟨tc, hc⟩, hr⟩ F₁ N₁
    rw [hv.len, List.take_length] at hc
    refine done tc m₁ h tk ?_ N₁
    have e : (fun y => if y = Str.ofString "i" then m₁ y else if y = Str.ofString "count" then some (Value.int (ns.count b) tc) else m₀ y) = m₁ := by
      funext y
      by_cases h1 : y = Str.ofString "i"
      · rw [if_pos h1]
      · rw [if_neg h1]
        by_cases h2 : y = Str.ofString "count"
        · rw [if_pos h2, h2, hc]
        · rw [if_neg h2, hr y h1 h2]
    rw [e]
    exact F₁
end
local macro_rules | `(tactic| walk_at "compareOp Is int int") => `(tactic| (k_dflt (refine is_ints ?h1 ?h2 ?h3 ?h4 ?_); (case h1 => omega); (case h2 => omega); (case h3 => omega); (case h4 => assumption)))
local macro_rules | `(tactic| walk_at "pyIter ref") => `(tactic| (k_here; (rename Fr _ _ _ _ => F9); (rename TokList _ _ _ => hv9); (rename smallInt _ = true => hb9); (with_unfolding_all refine count_iter rfl (by assumption) hv9 hb9 F9 (by rfl) ?_ ?_); (all_goals (intros; (try k_fold)))))
local macro_rules | `(tactic| walk_at "exec For Name Name cons nil") => `(tactic| (k_here; (rename Fr _ _ _ _ => lF'); (with_unfolding_all refine' For_invVF lF' ?k1 ?k2 ?_; (case k1 => exact rfl); (case k2 => exact rfl); k_whole)))
set_option maxRecDepth 100000 in
set_option maxHeartbeats 8000000 in
theorem count_call {w : World} {s : Shared} {mean : ExcName → Option Value} {mg mb : Str → Option Value} {news : List (Addr × Obj)} {l : Addr} {vs : List Value} {ns : List Int} {b : Int} {t1 : Tok} {lb : Nat}
    (hl : s.heap.IsList l vs.toArray) (hv : TokList vs ns lb) (hb1 : @LE.le Nat _ 1 t1) (hb2 : @LT.lt Nat _ t1 lb) (hsm : smallInt b = true)
    {cn : Str} {cs : Scope} {a : Addr} {ccd : Value} {cl : List (Str × Addr)} {outer : List Env} {A₀ : Around} {base h₀ : Heap} {L : Addr} {m : Str → Option Value} {Q E : Value → Shared → Prop}
    (B : Below A₀ base outer h₀) (F : Fr h₀ L s.heap m) (X : (hd.heap_39 w.params).In h₀) (N : News h₀ L s.heap news) (T : Top hd.view_39 (looseW hd.view_39 []) mean mg mb h₀) (hk : cs.kind = .function)
    (ret : ∀ t h' tk', Fr h₀ L h' m → News h₀ L h' news → Q (.int (ns.count b) t) { s with heap := h', toks := tk' }) :
    wpAny (model Challenge.rw_wu0028_01.row.prog w) (ktrTop (1 + claimMargin + 1) 7 (some []) cn cs L a ccd cl outer) (call (.ref 100) [.ref l, .int b t1]) Q E s := by
  revert X; k_fill; intro X
  w_on
  w_top on
  refine wpAny_call ?_
  k_dflt (refine' enter_keep B F X T ?kA ?kF ?kK ?k6 ?k7 ?k8 ?k9 ?kB ?_ ?c5 ?c2 ?c3 ?c4)
  case kA => exact rfl
  case kF => exact rfl
  case kK => exact hk
  case k6 => k_is
  case k7 => k_is
  case k8 => ktr_room
  case k9 => exact BindsTo.of_eq rfl
  case kB => exact locs rfl
  case c2 => exact rfl
  case c3 => exact rfl
  case c4 => exact rfl
  case c5 => decide
  intro g' L' h' hkeep F' N' B' X' T'
  have hlg : g'.IsList l vs.toArray := by obtain ⟨o, ho, r⟩ := hl; exact ⟨o, hkeep _ _ ho, r⟩
  (try dsimp only)
  (try k_fold)
  w_strict (k_steps)
  · refine' InvEndN.intro (nx := []) (by assumption) (by assumption) ⟨⟨_, ?c⟩, ?r⟩ rfl (fun _ hp => nomatch hp) (fun p hp => hp)
    case c =>
      exact cnt_pos (by assumption)
    case r =>
      intro y h1 h2
      simp only [if_neg h1, if_neg h2]
  · refine' InvEndN.intro (nx := []) (by assumption) (by assumption) ⟨⟨_, ?c⟩, ?r⟩ rfl (fun _ hp => nomatch hp) (fun p hp => hp)
    case c =>
      exact cnt_neg (by assumption)
    case r =>
      intro y h1 h2
      simp only [if_neg h1, if_neg h2]
  · exact ret _ _ _ (by assumption) (news_keep N fun b o q => Fr.keep (h₀ := g') (by assumption) b o (hkeep b o q))
end Mine
end

/-! MPer -/
section
open PySem PySem.W PyProof.Rows PySem.Calls PySem.Spec
set_option Elab.async false
namespace Mine
def lows : List Int := [13, 3, 7, 9, 11, 17, 19, 21, 27, 31, 33, 37, 39, 41]
def marks : List Nat := [124, 33, 48, 49, 50, 51, 52, 53, 54, 55, 56, 57]
/-- the lap has n figures -/
structure PerN (low first : Int) (n : Nat) : Prop where
  pos : 1 ≤ n
  le : n ≤ 41
  back : remK low first n = first
  none : noBack low first (n - 1)
theorem PerN.len {low first : Int} {n : Nat} (_h : PerN low first n) : (figsN low first n).length = n := figsN_length low first n
theorem lows_bounds {low : Int} (h : low ∈ lows) : 3 ≤ low ∧ low ≤ 41 := by
  simp only [lows, List.mem_cons, List.not_mem_nil, or_false] at h
  omega
theorem ten_back {low : Int} (h : low ∈ lows) : ∃ j : Nat, 1 ≤ j ∧ (j : Int) < low ∧ (10 : Int) ^ j % low = 1 := by
  simp only [lows, List.mem_cons, List.not_mem_nil, or_false] at h
  rcases h with rfl | rfl | rfl | rfl | rfl | rfl | rfl | rfl | rfl | rfl | rfl | rfl | rfl | rfl
  · exact ⟨6, by decide, by decide, by decide⟩
  · exact ⟨1, by decide, by decide, by decide⟩
  · exact ⟨6, by decide, by decide, by decide⟩
  · exact ⟨1, by decide, by decide, by decide⟩
  · exact ⟨2, by decide, by decide, by decide⟩
  · exact ⟨16, by decide, by decide, by decide⟩
  · exact ⟨18, by decide, by decide, by decide⟩
  · exact ⟨6, by decide, by decide, by decide⟩
  · exact ⟨3, by decide, by decide, by decide⟩
  · exact ⟨15, by decide, by decide, by decide⟩
  · exact ⟨2, by decide, by decide, by decide⟩
  · exact ⟨3, by decide, by decide, by decide⟩
  · exact ⟨6, by decide, by decide, by decide⟩
  · exact ⟨5, by decide, by decide, by decide⟩
theorem rem_back {low first : Int} (h1 : 1 ≤ first) (hlt : first < low) {j : Nat} (h : (10 : Int) ^ j % low = 1) : remK low first j = first := by
  unfold remK
  rw [Int.mul_emod, h, Int.mul_one, Int.emod_emod]
  exact Int.emod_eq_of_lt (by omega) hlt
theorem lap_per {low first : Int} {ns : List Int} (hl : low ∈ lows) (h1 : 1 ≤ first) (hlt : first < low) (h : LapIs low first ns) : ∃ n, PerN low first n ∧ ns = figsN low first n := by
  obtain ⟨n, hn1, hn2, hns, hnone, hor⟩ := h
  have hb := lows_bounds hl
  refine ⟨n, ⟨hn1, by omega, ?_, hnone⟩, hns⟩
  rcases hor with h | h
  · exact h
  · obtain ⟨j, hj1, hj2, hj⟩ := ten_back hl
    exact absurd (rem_back h1 hlt hj) (hnone j hj1 (by omega))
theorem remK_nonneg {low first : Int} (hl : low ∈ lows) (k : Nat) : 0 ≤ remK low first k := Int.emod_nonneg _ (by have := lows_bounds hl; omega)
theorem remK_lt {low first : Int} (hl : low ∈ lows) (k : Nat) : remK low first k < low := Int.emod_lt_of_pos _ (by have := lows_bounds hl; omega)
theorem figK_bounds {low first : Int} (hl : low ∈ lows) (k : Nat) : 0 ≤ figK low first k ∧ figK low first k ≤ 9 := by
  have hb := lows_bounds hl
  have h0 := remK_nonneg (first := first) hl k
  have h1 := remK_lt (first := first) hl k
  unfold remK at h0 h1
  unfold figK
  constructor
  · exact Int.ediv_nonneg (by omega) (by omega)
  · have : first * 10 ^ k % low * 10 / low < 10 := Int.ediv_lt_of_lt_mul (by omega) (by omega)
    omega
theorem figsN_mem {low first : Int} (hl : low ∈ lows) {n : Nat} {d : Int} (h : d ∈ figsN low first n) : 0 ≤ d ∧ d ≤ 9 := by
  obtain ⟨k, _, rfl⟩ := List.mem_map.mp h
  exact figK_bounds hl k
theorem remK_add {low first : Int} (i j : Nat) : remK low first (i + j) = remK low first i * 10 ^ j % low := by
  unfold remK
  rw [Int.pow_add, ← Int.mul_assoc, Int.mul_emod (first * 10 ^ i) (10 ^ j), Int.mul_emod (first * 10 ^ i % low) (10 ^ j), Int.emod_emod]
theorem remK_period {low first : Int} {n : Nat} (h : PerN low first n) (k : Nat) : remK low first (n + k) = remK low first k := by
  rw [remK_add, h.back]
  rfl
/-- the figures' worth: how often the lower number goes into the rest, so many figures on -/
def worthOf (ds : List Int) : Int := ds.foldl (fun a d => a * 10 + d) 0
theorem worthOf_snoc (ds : List Int) (d : Int) : worthOf (ds ++ [d]) = worthOf ds * 10 + d := by
  simp [worthOf]
theorem worth_part {low first : Int} (hl : low ∈ lows) (s : Nat) : ∀ w : Nat, worthOf ((List.range w).map fun i => figK low first (s + i)) = remK low first s * 10 ^ w / low
  | 0 => by
    have h0 := remK_nonneg (first := first) hl s
    have h1 := remK_lt (first := first) hl s
    have e : remK low first s / low = 0 := Int.ediv_eq_zero_of_lt h0 h1
    simp [worthOf, e]
  | w + 1 => by
    have hb := lows_bounds hl
    rw [List.range_succ, List.map_append, List.map_singleton, worthOf_snoc, worth_part hl s w]
    have e1 : figK low first (s + w) = remK low first (s + w) * 10 / low := rfl
    rw [e1, remK_add, Int.pow_succ]
    rw [← Int.mul_assoc (remK low first s)]
    generalize remK low first s * 10 ^ w = x
    have e : x * 10 = x % low * 10 + low * (x / low * 10) := by
      have := Int.emod_add_mul_ediv x low
      rw [← Int.mul_assoc, ← Int.add_mul, this]
    rw [e, Int.add_mul_ediv_left _ _ (by omega)]
    omega
/-- a part times the lower number: what the rests give -/
theorem worth_mul {low first : Int} (_hl : low ∈ lows) (s w : Nat) : remK low first s * 10 ^ w / low * low = remK low first s * 10 ^ w - remK low first (s + w) := by
  have := Int.emod_add_mul_ediv (remK low first s * 10 ^ w) low
  rw [remK_add]
  have e : remK low first s * 10 ^ w / low * low = low * (remK low first s * 10 ^ w / low) := Int.mul_comm _ _
  omega
/-- equal parts put together -/
def partSum (low first : Int) (w : Nat) : Nat → Int
  | 0 => 0
  | j + 1 => partSum low first w j + remK low first (j * w) * 10 ^ w / low
def restSum (low first : Int) (w : Nat) : Nat → Int
  | 0 => 0
  | j + 1 => restSum low first w j + remK low first (j * w)
theorem partSum_mul {low first : Int} (hl : low ∈ lows) (w : Nat) : ∀ j : Nat, partSum low first w j * low = (10 ^ w - 1) * restSum low first w j + remK low first 0 - remK low first (j * w)
  | 0 => by simp [partSum, restSum]
  | j + 1 => by
    have h := worth_mul (first := first) hl (j * w) w
    have ih := partSum_mul (first := first) hl w j
    have e : (j + 1) * w = j * w + w := Nat.succ_mul j w
    rw [partSum, restSum, Int.add_mul, ih, h, Int.mul_add, e]
    have e2 : ((10 : Int) ^ w - 1) * remK low first (j * w) = remK low first (j * w) * 10 ^ w - remK low first (j * w) := by
      rw [Int.sub_mul, Int.one_mul, Int.mul_comm]
    omega
theorem partSum_whole {low first : Int} (hl : low ∈ lows) (h1 : 1 ≤ first) (hlt : first < low) {n w m : Nat} (hp : PerN low first n) (hm : m * w = n) : partSum low first w m * low = (10 ^ w - 1) * restSum low first w m := by
  rw [partSum_mul hl w m, hm, hp.back, remK_zero h1 hlt]
  omega
end Mine
end

/-! MUp -/
section
open PySem PySem.W PyProof.Rows PySem.Calls PySem.Spec
set_option Elab.async false
set_option maxRecDepth 100000
namespace Mine
open PyProof.Rows.LCg
def bodyOf : Stmt → List Stmt
  | .FunctionDef _ _ body _ _ _ _ _ _ _ => body
  | _ => []
def scopeOf : Stmt → Scope
  | .FunctionDef _ _ _ _ _ _ scope _ _ _ => scope
  | _ => default
def lawDef : Stmt := (Challenge.pw_wu0028_01.main.body.getLast?).getD (.Pass default)
def lawRest : List Stmt := (bodyOf lawDef).drop 5
def lawScope : Scope := scopeOf lawDef
/-- the tokens have grown so far -/
def TokUp (lb : Nat) (s : Shared) : Prop := lb ≤ s.toks
theorem with_up {α : Type} {M : Model} {A : Around} {s : Shared} {t : Sem α} {Q : α → Shared → Prop} {E : Value → Shared → Prop} {lb : Nat} (hn : TokUp lb s)
    (h : wpAny M A t (fun a s' => TokUp lb s' → Q a s') (fun e s' => TokUp lb s' → E e s') s) : wpAny M A t Q E s := wpAny_with_toks hn h
theorem gen_toks {α : Type} {M : Model} {A : Around} {t : Sem α} {Q : α → Shared → Prop} {E : Value → Shared → Prop} {lb : Nat} {hp : Heap} {g : Array GenState} {d : Drawn} {tk : Nat} {os : OsState} (h : TokUp lb ⟨hp, g, d, tk, os⟩)
    (k : ∀ tk', TokUp lb ⟨hp, g, d, tk', os⟩ → wpAny M A t Q E ⟨hp, g, d, tk', os⟩) : wpAny M A t Q E ⟨hp, g, d, tk, os⟩ := k tk h
section
variable {prog : Program} {w : World} {A : Around} {h₀ : Heap} {L : Addr} {m : Str → Option Value} {env : Env} {elt : Expr} {x : Str} {scope : Scope} {cl : List (Str × Addr)} {s : Shared} {S : List (Addr × Obj) → Prop} {Fin : List Value → List (Addr × Obj) → Prop} {news : List (Addr × Obj)}
/-- a comprehension over a list of ints, its items by a relation -/
theorem each_list {vs : List Value} {ns : List Int} (R : Int → Value → Prop) (hi : IntsAre vs ns)
    (turn : ∀ k t I oI C oC D m₂ ys h tk (E' : Value → Shared → Prop), k ∈ ns → NsObj oC m₂ → m₂ x = some (.int k t) → Fr h₀ L h m → News h₀ L h ((I, oI) :: (C, oC) :: (D, lst ys) :: news) → Off3 I C D news → ((@Ne Nat I C) ∧ (@Ne Nat I D) ∧ (@Ne Nat C D)) →
      wpAny (model prog w) A (eval elt (compEnvC scope cl C env)) (CompEnd h₀ L m { s with heap := h, toks := tk } I oI C oC D (lst ys) S (fun y news' => news' = news ∧ R k y)) E' { s with heap := h, toks := tk })
    (fin : ∀ ys, Each R ns ys → Fin ys news) : CompRest prog w A h₀ L m env elt x scope cl s S (fun i v => vs.toArray[i]? = some v) Fin vs.toArray.size 0 [] news := by
  have go : ∀ (j i : Nat) (ys : List Value), i + j = ns.length → Each R (ns.take i) ys → CompRest prog w A h₀ L m env elt x scope cl s S (fun i v => vs.toArray[i]? = some v) Fin j i ys news := by
    intro j
    induction j with
    | zero =>
      intro i ys hij hys
      rw [List.take_of_length_le (by omega)] at hys
      exact CompRest.zero (fin ys hys)
    | succ j ih =>
      intro i ys hij hys
      refine CompRest.succ fun v I oI C oC D m₂ h tk E' hv hC hx F N off ne => ?_
      obtain ⟨k, t, hkv, hk⟩ := IntsAre.at hi i v (by simpa using hv)
      rw [hkv] at hx
      refine wpAny_mono (turn k t I oI C oC D m₂ ys h tk E' (List.mem_of_getElem? hk) hC hx F N off ne) (fun y s₂ q => ?_) fun _ _ e => e
      obtain ⟨h', tk', nw, e, F', N', off', hS, hn, hR⟩ := q
      subst hn
      refine ⟨h', tk', nw, e, F', N', off', hS, ih (i + 1) _ (by omega) ?_⟩
      rw [List.take_add_one, hk]
      exact hys.snoc hR
  have hsz : vs.toArray.size = ns.length := by rw [List.size_toArray]; exact hi.length
  rw [hsz]
  exact go ns.length 0 [] (by omega) .nil
end
/-- texts by a function -/
def StrEl (g : Int → Str) (k : Int) (v : Value) : Prop := ∃ t, v = .str (g k) t
theorem Each.strs {g : Int → Str} {ks : List Int} {ys : List Value} (h : Each (StrEl g) ks ys) : StrsAre ys (ks.map g) := by
  induction h with
  | nil => exact .nil
  | cons h _ ih =>
    obtain ⟨t, rfl⟩ := h
    exact .cons _ t ih
/-- one figure's text -/
def figS (k : Int) : Str := Str.ofString (toString k)
end Mine
end

/-! MDig -/
section
open PySem PySem.W PyProof.Rows PySem.Calls PySem.Spec
set_option Elab.async false
namespace Mine
/-- the text of figures -/
def digS (ns : List Int) : Str := ⟨(ns.map fun d => (48 + d).toNat).toArray⟩
def Digs (ns : List Int) : Prop := ∀ d ∈ ns, 0 ≤ d ∧ d ≤ 9
theorem figS_eq {d : Int} (h : 0 ≤ d ∧ d ≤ 9) : figS d = ⟨#[(48 + d).toNat]⟩ := by
  have : d = 0 ∨ d = 1 ∨ d = 2 ∨ d = 3 ∨ d = 4 ∨ d = 5 ∨ d = 6 ∨ d = 7 ∨ d = 8 ∨ d = 9 := by omega
  rcases this with rfl | rfl | rfl | rfl | rfl | rfl | rfl | rfl | rfl | rfl <;> decide +kernel
theorem figS_length {d : Int} (h : 0 ≤ d ∧ d ≤ 9) : (figS d).length = 1 := by rw [figS_eq h]; rfl
theorem digs_room : ∀ {ns : List Int}, Digs ns → ((ns.map figS).map (·.length)).sum = ns.length
  | [], _ => rfl
  | d :: r, h => by
    have ih := digs_room (ns := r) fun x hx => h x (List.mem_cons_of_mem _ hx)
    rw [List.map_cons, List.map_cons, List.sum_cons, ih, figS_length (h d List.mem_cons_self), List.length_cons]
    omega
theorem str_append (a b : List Nat) : (⟨a.toArray⟩ : Str) ++ (⟨b.toArray⟩ : Str) = ⟨(a ++ b).toArray⟩ := by
  show Str.mk (a.toArray ++ b.toArray) = _
  simp
theorem join_digs0 : ∀ {ns : List Int}, Digs ns → Str.join (Str.ofString "") (ns.map figS) = digS ns
  | [], _ => rfl
  | [d], h => by
    have hd := h d (by simp)
    show figS d = digS [d]
    rw [figS_eq hd]
    rfl
  | d :: e :: r, h => by
    have ih := join_digs0 (ns := e :: r) fun x hx => h x (List.mem_cons_of_mem _ hx)
    have hd := h d List.mem_cons_self
    show figS d ++ Str.ofString "" ++ Str.join (Str.ofString "") ((e :: r).map figS) = digS (d :: e :: r)
    rw [ih, figS_eq hd]
    have e1 : (Str.ofString "" : Str) = ⟨([] : List Nat).toArray⟩ := by decide +kernel
    rw [e1]
    have e2 : (⟨#[(48 + d).toNat]⟩ : Str) = ⟨([(48 + d).toNat] : List Nat).toArray⟩ := rfl
    rw [e2, digS, str_append, str_append]
    rfl
theorem join_digs {ns : List Int} (h : Digs ns) : Txt.join (Str.ofString "") (ns.map figS) = digS ns := by
  unfold Txt.join
  rw [StrLaws.glued_eq_join]
  exact join_digs0 h
theorem join_figs {prog : Program} {w : World} {A : Around} {E : Value → Shared → Prop} {s : Shared} {Q : Value → Shared → Prop} {D : Addr} {vs : List Value} {ns : List Int} {t : Tok} (hd : Digs ns) (hl : s.heap.IsList D vs.toArray) (hi : StrsAre vs (ns.map figS)) (hlen : ns.length ≤ 100)
    (h : ∀ t' k, Q (.str (digS ns) t') { s with toks := k }) : wpAny (model prog w) A (call (.builtin "str.join") [.str (Str.ofString "") t, .ref D]) Q E s := by
  refine join_listW hl hi (by decide) (by rw [digs_room hd, List.length_map]; omega) fun t' k => ?_
  rw [join_digs hd]
  exact h t' k
theorem digS_length (ns : List Int) : (digS ns).length = ns.length := by simp [digS, Str.length]
theorem digs_figs {low first : Int} {n : Nat} (hl : low ∈ lows) : Digs (figsN low first n) := fun _ h => figsN_mem hl h
theorem PerN.digs {low first : Int} {n : Nat} (_h : PerN low first n) (hl : low ∈ lows) : Digs (figsN low first n) := digs_figs hl
/-- what nine less each figure makes -/
def turnD (ns : List Int) : List Int := ns.map fun k => 9 - k
theorem turned_digs {ns : List Int} (h : Digs ns) : Digs (turnD ns) := by
  intro d hd
  obtain ⟨k, hk, rfl⟩ := List.mem_map.mp hd
  have := h k hk
  omega
theorem turnD_length (ns : List Int) : (turnD ns).length = ns.length := by simp [turnD]
theorem turned_strs {ys : List Value} {ns : List Int} (h : StrsAre ys (ns.map fun k => figS (9 - k))) : StrsAre ys ((turnD ns).map figS) := by
  have e : ((turnD ns).map figS) = ns.map fun k => figS (9 - k) := by simp [turnD, List.map_map, Function.comp_def]
  rw [e]
  exact h
def restF (low first : Int) (k : Int) : Int := remK low first k.toNat
section
variable {prog : Program} {w : World} {A : Around} {E : Value → Shared → Prop} {s : Shared} {h₀ : Heap} {L : Addr} {m : Str → Option Value} {env : Env} {elt iter : Expr} {x : Str} {px : Pos} {scope : Scope} {cl : List (Str × Addr)} {pos : Pos}
theorem assign_rests {lb n : Nat} {low first : Int} {y : Str} {py spos : Pos} {Q : Flow → Shared → Prop} (_per : PerN low first n) (_F : Fr h₀ L s.heap m) (hLe : env.locals = L)
    (hsw : swapsWith (.ListComp elt [⟨.Name x px, iter, [], 0⟩] scope pos) (some (.Name y py)) spos.line env = pure true) (hclos : closureFor scope env = pure cl) (hcell : ∀ z ∈ scope.names, z.2 ≠ .cell) (hkind : scope.kind = .function)
    (hnames : ∀ z ∈ scope.names, z.2 = .local → scope.names.lookup z.1 = some .local) (hx : scope.names.lookup x = some .local) (hy : env.kindOf y = some .local) (hp : (env.scope.kind == .class || (env.scope.kind == .module && env.locals != env.globals)) = false)
    (hlb : TokUp lb s) (h : wpAny (model prog w) A (eval iter env) (SrcA prog w A h₀ L m env elt x y scope cl lb (TokEl lb (restF low first)) Q) E s) (hs : ∀ x, foldedSetIterable iter env x = pure x) :
    wpAny (model prog w) A (exec (.Assign [.Name y py] (.ListComp elt [⟨.Name x px, iter, [], 0⟩] scope pos) spos) env) Q E s := assign_comp_lb hLe hsw hclos hcell hkind hnames hx hy hp hlb h hs
end
theorem rest_eq {low first : Int} (hl : low ∈ lows) (i : Nat) : (first * 10 ^ ((i : Int)).toNat).fmod low = restF low first i := by
  rw [Int.fmod_eq_emod_of_nonneg _ (by have := lows_bounds hl; omega)]
  rfl
theorem range_len {low first : Int} {n : Nat} (_per : PerN low first n) : Builtin.Range.rangeSize 0 (n : Int) 1 = ((n : Nat) : Int) := by
  have h := rangeSize_nat 0 (n : Int)
  simpa using h
theorem Each.tokList {lb : Nat} {g : Int → Int} {ks : List Int} {ys : List Value} (h : Each (TokEl lb g) ks ys) : TokList ys (ks.map g) lb :=
  ⟨by rw [h.length, List.length_map], fun _ _ e => h.tok e⟩
/-- the lap's length -/
theorem len_lap {prog : Program} {w : World} {A : Around} {E : Value → Shared → Prop} {s : Shared} {l : Addr} {vs : List Value} {low first : Int} {n : Nat} {Q : Value → Shared → Prop} (per : PerN low first n) (hl : s.heap.IsList l vs.toArray) (hi : IntsAre vs (figsN low first n))
    (h : Q (.int n (s.toks + 1)) { s with toks := s.toks + 1 + 1 }) : wpAny (model prog w) A (call (.builtin "len") [.ref l]) Q E s := by
  have e : vs.toArray.size = n := by rw [List.size_toArray, hi.length, figsN_length]
  have := per.le
  exact len_list hl (by rw [e]; omega) (by rw [e]; exact h)
/-- the rests of a lap -/
def restsN (low first : Int) (n : Nat) : List Int := (rangeKs 0 n).map (restF low first)
theorem restsN_eq (low first : Int) (n : Nat) : restsN low first n = (List.range n).map (remK low first) := by
  simp [restsN, rangeKs, List.map_map, Function.comp_def, restF]
theorem count_one {low first : Int} {n : Nat} (per : PerN low first n) (h1 : 1 ≤ first) (hlt : first < low) : (restsN low first n).count first = 1 := by
  obtain ⟨m, rfl⟩ : ∃ m, n = m + 1 := ⟨n - 1, by have := per.pos; omega⟩
  rw [restsN_eq, List.range_succ_eq_map, List.map_cons, remK_zero h1 hlt, List.count_cons_self]
  have hz : ((List.map Nat.succ (List.range m)).map (remK low first)).count first = 0 := by
    refine List.count_eq_zero.mpr fun hm => ?_
    obtain ⟨k, hk, e⟩ := List.mem_map.mp hm
    obtain ⟨j, hj, rfl⟩ := List.mem_map.mp hk
    have := List.mem_range.mp hj
    exact per.none (j + 1) (by omega) (by omega) e
  rw [hz]
theorem small_first {low first : Int} (hl : low ≤ 41) (h1 : 1 ≤ first) (hlt : first < low) : smallInt first = true := by
  unfold smallInt
  simp only [Bool.and_eq_true, decide_eq_true_eq]
  omega
theorem tokEl_of {lb : Nat} {g : Int → Int} {k v : Int} {t tk : Nat} (h : lb ≤ tk) (ht : tk ≤ t) (e : v = g k) : TokEl lb g k (.int v t) := ⟨t, Nat.le_trans h ht, by rw [e]⟩
end Mine
end

/-! MLawP -/
section
open PySem PySem.W PyProof.Rows PySem.Calls PySem.Spec
set_option Elab.async false
namespace Mine
theorem lst_isList {h₀ h : Heap} {L a : Addr} {news : List (Addr × Obj)} {xs : List Value} (N : News h₀ L h news) (hm : (a, LCg.lst xs) ∈ news) : h.IsList a xs.toArray := News.isList N hm
theorem PerN.text_len {low first : Int} {n : Nat} (_h : PerN low first n) : (digS (figsN low first n)).length = n := by
  rw [digS_length, figsN_length]
end Mine
end

/-! MLoop -/
section
open PySem PySem.W PyProof.Rows PySem.Calls PySem.Spec
set_option Elab.async false
namespace Mine
def stepKs (a₀ d : Int) (n : Nat) : List Int := (List.range n).map fun (i : Nat) => a₀ + (i : Int) * d
theorem stepKs_length (a₀ d : Int) (n : Nat) : (stepKs a₀ d n).length = n := by simp [stepKs]
section
variable {prog : Program} {w : World} {A : Around} {E : Value → Shared → Prop} {s : Shared} {env : Env} {h₀ : Heap} {x : Str} {body : List Stmt} {Q : Flow → Shared → Prop}
/-- a loop over a range of any step, by its whole state -/
theorem kst_step {σ : Type} {r : Addr} {a₀ b₀ d : Int} {t₀ u₀ v₀ : Tok} {n : Nat} {m₀ : Str → Option Value} (Led : σ → List (Addr × Obj)) (ps : σ → List (Str × Value)) (Facts : σ → Prop) (stored : List Str) (P : List Int → σ → Prop) (c₀ : σ)
    (hh : A.handled = none) (hr : IsRange s.heap r a₀ b₀ d t₀ u₀ v₀) (hsmall : Builtin.Range.small a₀ b₀ d = true) (hn : Builtin.Range.rangeSize a₀ b₀ d = (n : Int)) (F : Fr h₀ env.locals s.heap m₀) (N : News h₀ env.locals s.heap (Led c₀)) (hf : Facts c₀) (hk : ∀ p ∈ ps c₀, m₀ p.1 = some p.2) (hp : P [] c₀)
    (turn : ∀ (c : σ) (pre : List Int) (k : Int) t (u : Str → Option Value) h tk own, k = a₀ + (pre.length : Int) * d → pre.length < n → OwnOff own ((Led c₀).map (·.1)) → Facts c → P pre c →
      Fr h₀ env.locals h (fun y => if y = x then some (.int k t) else kstB (fun z => if stored.contains z then u z else m₀ z) (ps c) y) → News h₀ env.locals h (Led c ++ own) →
      wpAny (model prog w) A (execs body env) (InvPostN h₀ env.locals (KstS Led ps Facts x stored m₀ P (pre ++ [k])) own ((Led c₀).map (·.1)) { s with heap := h, toks := tk } Q) E { s with heap := h, toks := tk })
    (done : ∀ (c : σ) (u : Str → Option Value) h tk, Facts c → P (stepKs a₀ d n) c → Fr h₀ env.locals h (fun y => if y = x then u y else kstB (fun z => if stored.contains z then u z else m₀ z) (ps c) y) → News h₀ env.locals h (Led c) → Q .next { s with heap := h, toks := tk }) :
    wpAny (model prog w) A (pyIter (.ref r)) (fun it s₂ => LoopAtV prog w A h₀ env x body Q E it s₂) E s := by
  refine wpAny_pyIter_range hr hsmall ?_
  have W : Walks prog w A s.heap.objs.size [s.heap.objs.size] [s.heap.objs.size] n (fun i v => i < n ∧ ∃ t, v = .int (a₀ + i * d) t)
      (fun i h => IsRangeIter h s.heap.objs.size (a₀ + (i : Nat) * d) ((n : Int) - (i : Nat)) d) := (Walks.range hh _ a₀ d n).bound
  refine loop_invN (fun i m nx => KstS Led ps Facts x stored m₀ P ((stepKs a₀ d n).take i) m nx) W ?_ ?_ ?_ ?_ (by show IsRangeIter _ _ _ _ _; rw [hn]; simpa using Heap.get?_push_size _ rfl) (F.push _) (fun p hp => ⟨Heap.get?_push_of_some _ (N p hp).1, (N p hp).2⟩) ⟨c₀, rfl, hf, hk, fun _ _ _ _ => rfl, by simpa using hp⟩ ?_ ?_
  · intro hm
    exact absurd F.ns.lt ((List.mem_singleton.mp hm) ▸ Nat.lt_irrefl _)
  · intro b hb
    rw [List.mem_singleton.mp hb]
    exact next_is_new F
  · intro p hp hI
    exact absurd (Heap.lt_size (N p hp).1) ((List.mem_singleton.mp hI) ▸ Nat.lt_irrefl _)
  · intro p hp hI
    exact absurd (Heap.lt_size (N p hp).1) ((List.mem_singleton.mp hI) ▸ Nat.lt_irrefl _)
  · rintro i v m₁ nx h tk own hi ⟨_, t, rfl⟩ _ hoff ⟨c, rfl, hf', h1, h2, hp'⟩ F₁ N₁
    have hk' : (stepKs a₀ d n)[i]? = some (a₀ + (i : Int) * d) := by simp [stepKs, hi]
    have hs : (stepKs a₀ d n).take (i + 1) = (stepKs a₀ d n).take i ++ [a₀ + (i : Int) * d] := by simp [List.take_add_one, hk']
    have hlen : ((stepKs a₀ d n).take i).length = i := by rw [List.length_take, stepKs_length]; omega
    rw [hs]
    exact turn c _ _ t m₁ h tk own (by rw [hlen]) (by rw [hlen]; exact hi) hoff hf' hp' (kst_fr h1 h2 F₁) N₁
  · rintro m₁ nx h tk ⟨c, rfl, hf', h1, h2, hp'⟩ F₁ N₁
    have hl : (stepKs a₀ d n).take n = stepKs a₀ d n := List.take_of_length_le (Nat.le_of_eq (stepKs_length _ _ _))
    rw [hl] at hp'
    exact done c m₁ h tk hf' hp' (kst_frOut h1 h2 F₁) N₁
end
theorem step_size {n w m : Nat} (hw : 1 ≤ w) (hm : m * w = n) (hm1 : 1 ≤ m) : Builtin.Range.rangeSize 0 (n : Int) (w : Int) = (m : Int) := by
  unfold Builtin.Range.rangeSize
  have hn : 0 < n := by rw [← hm]; exact Nat.mul_pos hm1 hw
  rw [if_pos (by omega), if_pos (by omega)]
  have h1 : ((n : Int) - 0 - 1) = ((n - 1 : Nat) : Int) := by omega
  rw [h1, ← Int.natCast_ediv]
  have h2 : (n - 1) / w = m - 1 := by
    obtain ⟨m', rfl⟩ : ∃ m', m = m' + 1 := ⟨m - 1, by omega⟩
    rw [Nat.add_sub_cancel]
    refine Nat.div_eq_of_lt_le ?_ ?_
    · rw [← hm, Nat.add_mul]; omega
    · rw [← hm, Nat.add_mul]; omega
  rw [h2]
  omega
theorem step_small {n w m : Nat} (hn : n ≤ 41) (hw : 1 ≤ w) (hwn : w ≤ n) (hm : m * w = n) (hm1 : 1 ≤ m) : Builtin.Range.small 0 (n : Int) (w : Int) = true := by
  have hmn : m ≤ n := by rw [← hm]; exact Nat.le_mul_of_pos_right _ hw
  unfold Builtin.Range.small
  rw [step_size hw hm hm1, if_pos (by omega)]
  simp only [Builtin.Range.rangeFitsLong, Bool.and_eq_true, Bool.or_eq_true, decide_eq_true_eq, beq_iff_eq]
  omega
/-- what `nines` holds when the cuts 1..j have been looked at -/
def ninesAt (low first : Int) (n j : Nat) : Bool := decide (n % 2 = 0 ∧ n / 2 ≤ j ∧ partSum low first (n / 2) 2 = 10 ^ (n / 2) - 1)
theorem ninesAt_zero {low first : Int} {n : Nat} (hn : 1 ≤ n) : ninesAt low first n 0 = false := by
  unfold ninesAt
  rw [decide_eq_false_iff_not]
  rintro ⟨h1, h2, _⟩
  omega
theorem ninesAt_skip {low first : Int} {n j : Nat} (h : 2 * (j + 1) ≠ n) : ninesAt low first n (j + 1) = ninesAt low first n j := by
  unfold ninesAt
  refine decide_eq_decide.mpr ⟨?_, ?_⟩
  · rintro ⟨h1, h2, h3⟩
    exact ⟨h1, by omega, h3⟩
  · rintro ⟨h1, h2, h3⟩
    exact ⟨h1, by omega, h3⟩
theorem ninesAt_half {low first : Int} {n w : Nat} (h : 2 * w = n) : ninesAt low first n w = decide (partSum low first w 2 = 10 ^ w - 1) := by
  unfold ninesAt
  have e : n / 2 = w := by omega
  rw [e]
  refine decide_eq_decide.mpr ⟨?_, ?_⟩
  · rintro ⟨_, _, h3⟩
    exact h3
  · intro h3
    exact ⟨by omega, Nat.le_refl _, h3⟩
section
variable {prog : Program} {w : World} {A : Around} {E : Value → Shared → Prop} {s : Shared} {env : Env} {h₀ : Heap} {body : List Stmt} {Q : Flow → Shared → Prop} {low first : Int} {n : Nat} {m₀ : Str → Option Value} {r : Addr} {t₀ u₀ v₀ : Tok} {news : List (Addr × Obj)}
theorem wide_loop {L : Addr} (hLe : env.locals = L) (per : PerN low first n) (F : Fr h₀ L s.heap m₀) (N : News h₀ L s.heap news) (hr : IsRange s.heap r 1 ((n : Int) + 1) 1 t₀ u₀ v₀) (hh : A.handled = none) (hk : m₀ (Str.ofString "nines") = some (.bool false))
    (turn : ∀ (c : Bool) (pre : List Int) (k : Nat) t (u : Str → Option Value) h tk own, k = pre.length + 1 → k ≤ n → OwnOff own (news.map (·.1)) → c = ninesAt low first n pre.length →
      Fr h₀ L h (fun y => if y = Str.ofString "wide" then some (.int (k : Int) t) else kstB (fun z => if [Str.ofString "whole", Str.ofString "start", Str.ofString "part", Str.ofString "reply", Str.ofString "heard"].contains z then u z else m₀ z) [(Str.ofString "nines", .bool c)] y) → News h₀ L h (news ++ own) →
      wpAny (model prog w) A (execs body env) (InvPostN h₀ L (KstS (fun _ => news) (fun b : Bool => [(Str.ofString "nines", Value.bool b)]) (fun _ => True) (Str.ofString "wide") [Str.ofString "whole", Str.ofString "start", Str.ofString "part", Str.ofString "reply", Str.ofString "heard"] m₀ (fun pre b => b = ninesAt low first n pre.length) (pre ++ [(k : Int)])) own (news.map (·.1)) { s with heap := h, toks := tk } Q) E { s with heap := h, toks := tk })
    (done : ∀ (c : Bool) (u : Str → Option Value) h tk, c = ninesAt low first n n → Fr h₀ L h (fun y => if y = Str.ofString "wide" then u y else kstB (fun z => if [Str.ofString "whole", Str.ofString "start", Str.ofString "part", Str.ofString "reply", Str.ofString "heard"].contains z then u z else m₀ z) [(Str.ofString "nines", .bool c)] y) → News h₀ L h news → Q .next { s with heap := h, toks := tk }) :
    wpAny (model prog w) A (pyIter (.ref r)) (fun it s₂ => LoopAtV prog w A h₀ env (Str.ofString "wide") body Q E it s₂) E s := by
  have hge := per.pos
  have hle := per.le
  subst hLe
  refine kst_step (fun _ => news) (fun b : Bool => [(Str.ofString "nines", Value.bool b)]) (fun _ => True) [Str.ofString "whole", Str.ofString "start", Str.ofString "part", Str.ofString "reply", Str.ofString "heard"] (fun pre b => b = ninesAt low first n pre.length) false hh hr (small_one (by omega) (by omega) (by omega) (by omega)) (n := n) ?_ F N trivial ?_ ?_ ?_ ?_
  · rw [rangeSize_nat 1 _]
    omega
  · intro p hp
    rw [List.mem_singleton.mp hp]
    exact hk
  · exact (ninesAt_zero hge).symm
  · intro c pre k t u h tk own hk2 hlt hoff _ hp F₁ N₁
    have e : k = ((pre.length + 1 : Nat) : Int) := by omega
    subst e
    exact turn c pre _ t u h tk own rfl hlt hoff hp F₁ N₁
  · intro c u h tk _ hp F₁ N₁
    rw [stepKs_length] at hp
    exact done c u h tk hp F₁ N₁
theorem start_loop {k m : Nat} {L : Addr} (hLe : env.locals = L) (per : PerN low first n) (hk1 : 1 ≤ k) (hm : m * k = n) (F : Fr h₀ L s.heap m₀) (N : News h₀ L s.heap news) (hr : IsRange s.heap r 0 (n : Int) (k : Int) t₀ u₀ v₀) (hh : A.handled = none) (hk : ∃ t, m₀ (Str.ofString "whole") = some (.int 0 t))
    (turn : ∀ (c : Int) (tc : Tok) (pre : List Int) (a : Nat) t (u : Str → Option Value) h tk own, a = pre.length * k → pre.length < m → OwnOff own (news.map (·.1)) → c = partSum low first k pre.length →
      Fr h₀ L h (fun y => if y = Str.ofString "start" then some (.int (a : Int) t) else kstB (fun z => if [Str.ofString "part", Str.ofString "reply", Str.ofString "heard"].contains z then u z else m₀ z) [(Str.ofString "whole", .int c tc)] y) → News h₀ L h (news ++ own) →
      wpAny (model prog w) A (execs body env) (InvPostN h₀ L (KstS (fun _ => news) (fun b : Int × Tok => [(Str.ofString "whole", Value.int b.1 b.2)]) (fun _ => True) (Str.ofString "start") [Str.ofString "part", Str.ofString "reply", Str.ofString "heard"] m₀ (fun pre b => b.1 = partSum low first k pre.length) (pre ++ [(a : Int)])) own (news.map (·.1)) { s with heap := h, toks := tk } Q) E { s with heap := h, toks := tk })
    (done : ∀ (c : Int) (tc : Tok) (u : Str → Option Value) h tk, c = partSum low first k m → Fr h₀ L h (fun y => if y = Str.ofString "start" then u y else kstB (fun z => if [Str.ofString "part", Str.ofString "reply", Str.ofString "heard"].contains z then u z else m₀ z) [(Str.ofString "whole", .int c tc)] y) → News h₀ L h news → Q .next { s with heap := h, toks := tk }) :
    wpAny (model prog w) A (pyIter (.ref r)) (fun it s₂ => LoopAtV prog w A h₀ env (Str.ofString "start") body Q E it s₂) E s := by
  have hge := per.pos
  have hle := per.le
  subst hLe
  have hm1 : 1 ≤ m := by
    rcases Nat.eq_zero_or_pos m with h | h
    · rw [h, Nat.zero_mul] at hm; omega
    · exact h
  have hkn : k ≤ n := by rw [← hm]; exact Nat.le_mul_of_pos_left _ hm1
  obtain ⟨tw, hk⟩ := hk
  refine kst_step (fun _ => news) (fun b : Int × Tok => [(Str.ofString "whole", Value.int b.1 b.2)]) (fun _ => True) [Str.ofString "part", Str.ofString "reply", Str.ofString "heard"] (fun pre b => b.1 = partSum low first k pre.length) (0, tw) hh hr (step_small hle hk1 hkn hm hm1) (step_size hk1 hm hm1) F N trivial ?_ rfl ?_ ?_
  · intro p hp
    rw [List.mem_singleton.mp hp]
    exact hk
  · rintro ⟨c, tc⟩ pre a t u h tk own hk2 hlt hoff _ hp F₁ N₁
    have e : a = ((pre.length * k : Nat) : Int) := by rw [hk2]; simp
    subst e
    exact turn c tc pre _ t u h tk own rfl hlt hoff hp F₁ N₁
  · rintro ⟨c, tc⟩ u h tk _ hp F₁ N₁
    rw [stepKs_length] at hp
    exact done c tc u h tk hp F₁ N₁
end
theorem fmod_parts {n k : Nat} (h : (n : Int).fmod (k : Int) = 0) : ∃ m : Nat, m * k = n := by
  rw [Int.fmod_eq_emod_of_nonneg _ (by omega)] at h
  have h2 : k ∣ n := by
    have := Int.dvd_of_emod_eq_zero h
    exact Int.natCast_dvd_natCast.mp this
  obtain ⟨m, hm⟩ := h2
  exact ⟨m, by rw [hm, Nat.mul_comm]⟩
theorem fmod_none {n k j : Nat} (h : (n : Int).fmod (k : Int) ≠ 0) (e : k = j + 1) : 2 * (j + 1) ≠ n := by
  intro h2
  subst e
  apply h
  rw [Int.fmod_eq_emod_of_nonneg _ (by omega), ← h2]
  simp
end Mine
end

/-! MMul -/
section
open PySem PySem.W PyProof.Rows PySem.Calls PySem.Spec
open Builtin Builtin.Str Builtin.Int
set_option Elab.async false
namespace Mine
section
variable {prog : Program} {w : World} {A : Around} {E : Value → Shared → Prop} {s : Shared} {t u : Tok} {Q : Value → Shared → Prop}
theorem mul_str_left {x : Str} {n : Int} (hok : MulOk x n) (h : ∀ t' k, Q (.str (Txt.mul x n) t') { s with toks := k }) : wpAny (model prog w) A (binaryOp .Mult (.int n u) (.str x t)) Q E s := by
  refine lm_binaryOp_repeat_right (T := "str") (U := "int") (by decide) (fun s' => typeIs_int s' n u) (typeIs_str s x t) F.fills_int_mul noFill_str_mul F.slot_int_mul lm_noRepeat_int repeat_str F.slot_int_index.lookup
    (call_gives F.slot_int_mul (typeIs_int s n u) F.entry_int_mul (F.args_int_mul_2 _ _) (AutoIntG3.int___mul___int_str_0 n u x t) ⟨rfl, typeIs_str _ x t, ?_⟩)
  refine call_gives F.slot_str_mul (typeIs_str s x t) F.entry_str_mul (F.args_str_mul_2 _ _) (gives_str_mul x n t u hok.1 hok.2.1 hok.2.2) ?_
  unfold Txt.mul at h
  by_cases h1 : n < 1
  · rw [if_pos h1]; have h' := h s.toks (s.toks + 1); rw [if_pos h1] at h'; exact ⟨by decide, h'⟩
  · rw [if_neg h1]; refine post_val_or_made (fun hc => fits_reps (hok.2.2 h1 (by simpa using hc))) fun t' k => ?_
    have h' := h t' k; rw [if_neg h1] at h'; exact h'
theorem three_marks {c : Nat} (h : ∀ t' k, Q (.str ⟨#[c, c, c]⟩ t') { s with toks := k }) : wpAny (model prog w) A (binaryOp .Mult (.int 3 u) (.str ⟨#[c]⟩ t)) Q E s := by
  refine mul_str_left (x := ⟨#[c]⟩) ⟨by decide, fun _ _ => by show ¬ (((1 : Nat) : Int) > _); decide, fun _ _ => by show tooLong (1 * 3) = false; decide⟩ ?_
  intro t' k
  have e : Txt.mul ⟨#[c]⟩ 3 = ⟨#[c, c, c]⟩ := rfl
  rw [e]
  exact h t' k
end
end Mine
end

/-! MText -/
section
open PySem PySem.W PyProof.Rows PySem.Calls PySem.Spec PySem.Builtin PySem.Builtin.Str
set_option Elab.async false
namespace Mine
/-- the reply in which a part of a lap stands -/
def replyS (c : Nat) (x : Str) : Str := Str.ofString "229 (" ++ ⟨#[c, c, c]⟩ ++ x ++ ⟨#[c]⟩ ++ Str.ofString ")"
theorem reply_list (c : Nat) (x : Str) : (replyS c x).cps.toList = [50, 50, 57, 32, 40, c, c, c] ++ (x.cps.toList ++ [c, 41]) := by
  have e1 : (Str.ofString "229 (").cps.toList = [50, 50, 57, 32, 40] := by decide +kernel
  have e2 : (Str.ofString ")").cps.toList = [41] := by decide +kernel
  unfold replyS
  simp only [Str.cps_append, Array.toList_append, e1, e2]
  simp
theorem len_toList (x : Str) : x.cps.toList.length = x.length := Array.length_toList
theorem reply_len (c : Nat) (x : Str) : (replyS c x).length = x.length + 10 := by
  rw [← len_toList, reply_list]
  simp only [List.length_append, List.length_cons, List.length_nil, len_toList]
  omega
theorem slice_list (x : Str) {a b : Nat} (hab : a ≤ b) (hb : b ≤ x.length) : (Txt.slice x (some (a : Int)) (some (b : Int))).cps.toList = (x.cps.toList.drop a).take (b - a) := by
  unfold Txt.slice
  split
  · rename_i h
    rw [StrLaws.strSliceIndices_plain hab hb] at h
    have hl : b - a = x.length := by simpa using h
    have h1 : a = 0 := by omega
    subst h1
    rw [List.drop_zero, List.take_of_length_le (by rw [len_toList]; omega)]
  · exact StrLaws.sliced_plain x hab hb
theorem slice_none (x : Str) (j : Option Int) : Txt.slice x none j = Txt.slice x (some ((0 : Nat) : Int)) j := by
  unfold Txt.slice
  have e : strSliceIndices none j 1 x.length = strSliceIndices (some ((0 : Nat) : Int)) j 1 x.length := by
    have e0 : Max.max (0 : Int) (Min.min 0 (x.length : Int)) = 0 := by omega
    cases j <;> simp [strSliceIndices, e0]
  rw [e]
theorem one_find {x : Str} {c k : Nat} (hk : x.cps.toList[k]? = some c) (hb : ∀ i, i < k → x.cps.toList[i]? ≠ some c) : Txt.find x ⟨#[c]⟩ = (k : Int) := by
  unfold Txt.find
  rcases StrLaws.occ_head x ⟨#[c]⟩ 1 (Nat.le_refl 1) with ⟨_, hn⟩ | ⟨i, r, h0, hi, hn⟩
  · exact absurd ((StrLaws.subAt_one x c k).mpr hk) (hn k)
  · rw [h0]
    have h1 : i = k := by
      rcases Nat.lt_trichotomy i k with h | h | h
      · exact absurd ((StrLaws.subAt_one x c i).mp hi) (hb i h)
      · exact h
      · exact absurd ((StrLaws.subAt_one x c k).mpr hk) (hn k h)
    show (i : Int) = k
    rw [h1]
theorem one_find3 {x : Str} {c k : Nat} {i : Int} {lo : Nat} (hi : i = (lo : Int)) (hlk : lo ≤ k) (hk : x.cps.toList[k]? = some c) (hb : ∀ v, lo ≤ v → v < k → x.cps.toList[v]? ≠ some c) : Txt.find3 x ⟨#[c]⟩ i = (k : Int) := by
  have hf : fromIndex x.length i = lo := by rw [hi, fromIndex_nonneg (by omega)]; simp
  unfold Txt.find3
  rcases StrLaws.occ_head_from x ⟨#[c]⟩ (fromIndex x.length i) 1 (Nat.le_refl 1) with ⟨h0, hn⟩ | ⟨j, r, h0, hlo, hj, hn⟩
  · rw [hf] at hn
    exact absurd ((StrLaws.subAt_one x c k).mpr hk) (hn k hlk)
  · rw [h0]
    rw [hf] at hlo hn
    have h1 : j = k := by
      rcases Nat.lt_trichotomy j k with h | h | h
      · exact absurd ((StrLaws.subAt_one x c j).mp hj) (hb j hlo h)
      · exact h
      · exact absurd ((StrLaws.subAt_one x c k).mpr hk) (hn k hlk h)
    show (j : Int) = k
    rw [h1]
theorem one_item {x : Str} {c k : Nat} {i : Int} (hi : i = (k : Int)) (hk : x.cps.toList[k]? = some c) : Txt.item x i = ⟨#[c]⟩ := by
  have hlt : k < x.length := by rw [← len_toList]; exact (List.getElem?_eq_some_iff.mp hk).1
  rw [item_at (n := k) (by omega) (by omega) (by omega)]
  rw [show x.cps.getD k 0 = c from ?_]
  rw [Array.getD_eq_getD_getElem?, ← Array.getElem?_toList, hk]
  rfl
theorem free_cut {c : Nat} : ∀ {p q J J' : List Nat}, c ∉ p → c ∉ q → p ++ c :: J = q ++ c :: J' → p = q ∧ J = J'
  | [], [], _, _, _, _, h => ⟨rfl, by simpa using h⟩
  | [], b :: q, _, _, _, hq, h => by
    have : c = b := by simpa using (List.cons.inj h).1
    exact absurd (this ▸ List.mem_cons_self) hq
  | a :: p, [], _, _, hp, _, h => by
    have : a = c := by simpa using (List.cons.inj h).1
    exact absurd (this ▸ List.mem_cons_self) hp
  | a :: p, b :: q, J, J', hp, hq, h => by
    have h1 := List.cons.inj h
    have := free_cut (fun m => hp (List.mem_cons_of_mem _ m)) (fun m => hq (List.mem_cons_of_mem _ m)) h1.2
    exact ⟨by rw [h1.1, this.1], this.2⟩
theorem join_list (c : Nat) (p q : Str) (r : List Str) : (Str.join ⟨#[c]⟩ (p :: q :: r)).cps.toList = p.cps.toList ++ c :: (Str.join ⟨#[c]⟩ (q :: r)).cps.toList := by
  show (p ++ ⟨#[c]⟩ ++ Str.join ⟨#[c]⟩ (q :: r)).cps.toList = _
  simp only [Str.cps_append, Array.toList_append]
  simp
theorem join_uniq (c : Nat) : ∀ (ps qs : List Str), ps ≠ [] → qs ≠ [] → (∀ p ∈ ps, c ∉ p.cps.toList) → (∀ p ∈ qs, c ∉ p.cps.toList) → Str.join ⟨#[c]⟩ ps = Str.join ⟨#[c]⟩ qs → ps = qs
  | [], _, h, _, _, _, _ => absurd rfl h
  | _, [], _, h, _, _, _ => absurd rfl h
  | [p], [q], _, _, _, _, h => by
    have : p = q := h
    rw [this]
  | [p], q :: q' :: r, _, _, hp, _, h => by
    have e : p.cps.toList = _ := (congrArg (fun z : Str => z.cps.toList) h).trans (join_list c q q' r)
    exact absurd (e ▸ List.mem_append_right _ List.mem_cons_self) (hp p List.mem_cons_self)
  | p :: p' :: r, [q], _, _, _, hq, h => by
    have e : q.cps.toList = _ := (congrArg (fun z : Str => z.cps.toList) h.symm).trans (join_list c p p' r)
    exact absurd (e ▸ List.mem_append_right _ List.mem_cons_self) (hq q List.mem_cons_self)
  | p :: p' :: r, q :: q' :: r', _, _, hp, hq, h => by
    have e := ((join_list c p p' r).symm.trans (congrArg (fun z : Str => z.cps.toList) h)).trans (join_list c q q' r')
    obtain ⟨e1, e2⟩ := free_cut (hp p List.mem_cons_self) (hq q List.mem_cons_self) e
    have h1 : p = q := Str.ext' (Array.toList_inj.mp e1)
    have h2 := join_uniq c (p' :: r) (q' :: r') (by simp) (by simp) (fun a ha => hp a (List.mem_cons_of_mem _ ha)) (fun a ha => hq a (List.mem_cons_of_mem _ ha)) (Str.ext' (Array.toList_inj.mp e2))
    rw [h1, h2]
theorem split_ne (x : Str) (c : Nat) : Txt.split x ⟨#[c]⟩ ≠ [] := by
  intro h
  have h2 := StrLaws.join_split x ⟨#[c]⟩
  have h3 := split_len x c
  rw [h] at h2 h3
  have h4 : x = Str.empty := h2.symm
  rw [h4] at h3
  have h5 : cnt c (Str.empty).cps.toList = 0 := cnt_none c _ (by simp [Str.empty])
  rw [h5] at h3
  simp at h3
section
variable {c : Nat} {ds : List Int}
theorem marks_not {c : Nat} (h : c ∈ marks) : c ≠ 40 ∧ c ≠ 41 := by
  simp only [marks, List.mem_cons, List.not_mem_nil, or_false] at h
  omega
theorem dig_cps (hd : Digs ds) {b : Nat} (h : b ∈ (digS ds).cps.toList) : 48 ≤ b ∧ b ≤ 57 := by
  simp only [digS, List.mem_map] at h
  obtain ⟨d, h1, rfl⟩ := h
  have := hd d h1
  omega
theorem reply_find (x : Str) : Txt.find (replyS c x) (Str.ofString "(") = 4 := by
  have e : Str.ofString "(" = ⟨#[40]⟩ := by decide +kernel
  rw [e]
  refine one_find (k := 4) (by rw [reply_list]; rfl) fun i hi => ?_
  rw [reply_list]
  rcases i with _ | _ | _ | _ | i
  · simp
  · simp
  · simp
  · simp
  · omega
theorem reply_at (c : Nat) (x : Str) {v : Nat} (h1 : 5 ≤ v) (h2 : v < x.length + 9) : (replyS c x).cps.toList[v]? = some c ∨ ∃ b ∈ x.cps.toList, (replyS c x).cps.toList[v]? = some b := by
  rw [reply_list]
  by_cases h3 : v < 8
  · have : v = 5 ∨ v = 6 ∨ v = 7 := by omega
    rcases this with rfl | rfl | rfl <;> exact .inl rfl
  · rw [List.getElem?_append_right (by simp; omega)]
    simp only [List.length_cons, List.length_nil]
    by_cases h4 : v - 8 < x.length
    · rw [List.getElem?_append_left (by rw [len_toList]; omega)]
      have h5 : v - 8 < x.cps.toList.length := by rw [len_toList]; omega
      exact .inr ⟨_, List.getElem_mem h5, List.getElem?_eq_getElem h5⟩
    · rw [List.getElem?_append_right (by rw [len_toList]; omega), len_toList]
      have : v - 8 - x.length = 0 := by omega
      left
      show ([c, 41] : List Nat)[v - 8 - x.length]? = some c
      rw [this]
      rfl
theorem reply_end (c : Nat) (x : Str) : (replyS c x).cps.toList[x.length + 9]? = some 41 := by
  rw [reply_list, List.getElem?_append_right (by simp), List.getElem?_append_right (by rw [len_toList]; simp)]
  simp only [List.length_cons, List.length_nil, len_toList]
  have : x.length + 9 - (0 + 1 + 1 + 1 + 1 + 1 + 1 + 1 + 1) - x.length = 1 := by omega
  rw [this]
  rfl
theorem reply_find3 (hc : c ∈ marks) (hd : Digs ds) {i : Int} (hi : i = 5) : Txt.find3 (replyS c (digS ds)) (Str.ofString ")") i = ((digS ds).length : Int) + 9 := by
  have e : Str.ofString ")" = ⟨#[41]⟩ := by decide +kernel
  rw [e]
  have h := one_find3 (x := replyS c (digS ds)) (c := 41) (k := (digS ds).length + 9) (i := i) (lo := 5) (by omega) (by omega) (reply_end c _) ?_
  · rw [h]; push_cast; rfl
  · intro v h1 h2
    rcases reply_at c (digS ds) h1 h2 with h | ⟨b, hb, h⟩
    · rw [h]
      have := marks_not hc
      simpa using this.2
    · rw [h]
      have := dig_cps hd hb
      simp
      omega
theorem reply_item (x : Str) {i : Int} (hi : i = 5) : Txt.item (replyS c x) i = ⟨#[c]⟩ := one_item (k := 5) (by omega) (by rw [reply_list]; rfl)
theorem reply_item2 (x : Str) {i : Int} (hi : i = (x.length : Int) + 8) : Txt.item (replyS c x) i = ⟨#[c]⟩ := by
  refine one_item (k := x.length + 8) (by omega) ?_
  rw [reply_list, List.getElem?_append_right (by simp), List.getElem?_append_right (by rw [len_toList]; simp)]
  simp only [List.length_cons, List.length_nil, len_toList]
  have : x.length + 8 - (0 + 1 + 1 + 1 + 1 + 1 + 1 + 1 + 1) - x.length = 0 := by omega
  rw [this]
  rfl
theorem reply_pre (x : Str) : Txt.slice (replyS c x) none (some 3) = Str.ofString "229" := by
  rw [slice_none]
  apply Str.ext'
  apply Array.toList_inj.mp
  have h := slice_list (replyS c x) (a := 0) (b := 3) (by omega) (by rw [reply_len]; omega)
  have h2 : (Str.ofString "229").cps.toList = [50, 50, 57] := by decide +kernel
  rw [h2]
  refine (show _ = _ from h).trans ?_
  rw [reply_list]
  rfl
theorem reply_mid (x : Str) {i j : Int} (hi : i = 5) (hj : j = (x.length : Int) + 9) : (Txt.slice (replyS c x) (some i) (some j)).cps.toList = c :: c :: c :: (x.cps.toList ++ [c]) := by
  have h := slice_list (replyS c x) (a := 5) (b := x.length + 9) (by omega) (by rw [reply_len]; omega)
  have e1 : i = ((5 : Nat) : Int) := by omega
  have e2 : j = ((x.length + 9 : Nat) : Int) := by omega
  rw [e1, e2, h, reply_list]
  show ((c :: c :: c :: (x.cps.toList ++ [c, 41])).take (x.length + 9 - 5)) = _
  have e3 : x.length + 9 - 5 = x.length + 1 + 1 + 1 + 1 := by omega
  rw [e3]
  simp only [List.take_succ_cons]
  congr 3
  rw [List.take_append, List.take_of_length_le (by rw [len_toList]; omega), len_toList]
  have e4 : x.length + 1 - x.length = 1 := by omega
  rw [e4]
  rfl
theorem split_good {m x : Str} (hm : m.cps.toList = c :: c :: c :: (x.cps.toList ++ [c])) (hx : c ∉ x.cps.toList) : Txt.split m ⟨#[c]⟩ = [Str.empty, Str.empty, Str.empty, x, Str.empty] := by
  have he : c ∉ (Str.empty).cps.toList := by simp [Str.empty]
  refine join_uniq c _ _ (split_ne m c) (by simp) (StrLaws.split_free m c) ?_ ?_
  · intro p hp
    simp only [List.mem_cons, List.not_mem_nil, or_false] at hp
    rcases hp with rfl | rfl | rfl | rfl | rfl
    · exact he
    · exact he
    · exact he
    · exact hx
    · exact he
  · rw [StrLaws.join_split]
    apply Str.ext'
    apply Array.toList_inj.mp
    rw [hm, join_list, join_list, join_list, join_list]
    simp [Str.empty, Str.join]
theorem split_bad {m x : Str} (hm : m.cps.toList = c :: c :: c :: (x.cps.toList ++ [c])) (hx : c ∈ x.cps.toList) : (Txt.split m ⟨#[c]⟩).length ≠ 5 := by
  intro h5
  have hf := StrLaws.split_free m c
  have hj := StrLaws.join_split m ⟨#[c]⟩
  generalize Txt.split m ⟨#[c]⟩ = ps at h5 hf hj
  match ps, h5 with
  | [a, b, d, e, f], _ =>
    have h1 := congrArg (fun z : Str => z.cps.toList.count c) hj
    simp only [join_list, hm, List.count_append, List.count_cons, List.count_nil, beq_self_eq_true, if_true] at h1
    have ha := List.count_eq_zero.mpr (hf a (by simp))
    have hb := List.count_eq_zero.mpr (hf b (by simp))
    have hd := List.count_eq_zero.mpr (hf d (by simp))
    have he := List.count_eq_zero.mpr (hf e (by simp))
    have hff := List.count_eq_zero.mpr (hf f (by simp))
    have hxx := List.count_pos_iff.mpr hx
    have hjf : (Str.join ⟨#[c]⟩ [f]).cps.toList = f.cps.toList := rfl
    rw [hjf] at h1
    omega
theorem dig_val : ∀ (ds : List Int), Digs ds → ∀ (a : Nat) (b : Int), (a : Int) = b → (((ds.map fun d => (48 + d).toNat).foldl (fun acc c => acc * 10 + (c - 48)) a : Nat) : Int) = ds.foldl (fun a d => a * 10 + d) b
  | [], _, _, _, h => h
  | d :: ds, hd, a, b, h => by
    have := hd d List.mem_cons_self
    refine dig_val ds (fun x hx => hd x (List.mem_cons_of_mem _ hx)) _ _ ?_
    show ((a * 10 + ((48 + d).toNat - 48) : Nat) : Int) = b * 10 + d
    omega
theorem dig_int (hd : Digs ds) (h1 : 1 ≤ ds.length) (h2 : ds.length ≤ 640) : PySem.intText? (digS ds) = some (worthOf ds) := by
  rw [intText_digits ?_ ?_ ?_]
  · congr 1
    exact dig_val ds hd 0 0 rfl
  · intro b hb
    have := dig_cps hd hb
    omega
  · intro h
    have := congrArg List.length h
    rw [len_toList, digS_length, List.length_nil] at this
    omega
  · rw [digS_length]; omega
end
end Mine
end

/-! MReply -/
section
open PySem PySem.W PyProof.Rows PySem.Calls PySem.Spec
set_option Elab.async false
namespace Mine
theorem contains_one (x : Str) (c : Nat) : Txt.contains x ⟨#[c]⟩ = decide (c ∈ x.cps.toList) := StrLaws.found_one x c
/-- what `_law_heard` tells of a reply -/
theorem heard_reply {w : World} {mean : ExcName → Option Value} {mg mb : Str → Option Value} {news : List (Addr × Obj)} {c : Nat} {x : Str} {ds : List Int} {t1 : Tok}
    (hc : c ∈ marks) (hdg : Digs ds) (hx : x = digS ds) (h1 : 1 ≤ ds.length) (h2 : ds.length ≤ 41)
    {cn : Str} {cs : Scope} {a : Addr} {ccd : Value} {cl : List (Str × Addr)} {A₀ : Around} {h₀ : Heap} {L : Addr} {m : Str → Option Value} {s : Shared} {Q E : Value → Shared → Prop}
    (B : Below A₀ h₀ [] h₀) (F : Fr h₀ L s.heap m) (X : (hd.heap_39 w.params).In h₀) (N : News h₀ L s.heap news) (T : Top hd.view_39 (looseW hd.view_39 []) mean mg mb h₀) (hk : cs.kind = .function)
    (retBad : Txt.contains x ⟨#[c]⟩ = true → ∀ t h' tk', Fr h₀ L h' m → News h₀ L h' news → Q (.str (replyS c x) t) { s with heap := h', toks := tk' })
    (retNum : Txt.contains x ⟨#[c]⟩ = false → ∀ l t t' h' tk', Fr h₀ L h' m → News h₀ L h' ((l, { cls := .type "tuple", data := .seq #[.str (Str.ofString "peer") t, .int (worthOf ds) t'] }) :: news) → (∀ p ∈ news, p.1 < l) → Q (.ref l) { s with heap := h', toks := tk' }) :
    wpAny (model Challenge.rw_wu0028_01.row.prog w) (ktrTop (1 + claimMargin + 1) 7 (some []) cn cs L a ccd cl []) (call (.ref 163) [.str (replyS c x) t1]) Q E s := by
  subst hx
  have hln : (digS ds).length = ds.length := digS_length ds
  have hf := reply_find (c := c) (digS ds)
  have hf5 : Txt.find (replyS c (digS ds)) (Str.ofString "(") + 1 = 5 := by rw [hf]; rfl
  have hf3 := reply_find3 hc hdg hf5
  have hmid := reply_mid (c := c) (digS ds) hf5 hf3
  rw [contains_one] at retBad retNum
  by_cases hx : c ∈ (digS ds).cps.toList
  · have hp := split_bad hmid hx
    refine heard_call (k := (digS ds).length) (n := 0) (by omega) (by omega) (reply_len c _) (reply_pre _) hf hf3 ?_ (parts := Txt.split (Txt.slice (replyS c (digS ds)) (some (Txt.find (replyS c (digS ds)) (Str.ofString "(") + 1)) (some (Txt.find3 (replyS c (digS ds)) (Str.ofString ")") (Txt.find (replyS c (digS ds)) (Str.ofString "(") + 1)))) ⟨#[c]⟩) ?_ ?_ B F X N T hk ?_ ?_
    · rw [reply_item _ hf5, reply_item2 _ (by rw [hf3]; omega)]
    · rw [reply_item _ hf5]
    · intro y h5
      exact absurd h5 hp
    · intro _
      exact retBad (decide_eq_true hx)
    · intro h5
      exact absurd h5 hp
  · have hp := split_good hmid hx
    refine heard_call (k := (digS ds).length) (n := worthOf ds) (by omega) (by omega) (reply_len c _) (reply_pre _) hf hf3 ?_ (parts := [Str.empty, Str.empty, Str.empty, digS ds, Str.empty]) ?_ ?_ B F X N T hk ?_ ?_
    · rw [reply_item _ hf5, reply_item2 _ (by rw [hf3]; omega)]
    · rw [reply_item _ hf5, hp]
    · intro y _ hy
      have : digS ds = y := by simpa using hy
      subst this
      exact ⟨dig_int hdg h1 (by omega), by omega⟩
    · intro h5
      exact absurd rfl h5
    · intro _
      exact retNum (decide_eq_false hx)
end Mine
end

/-! MPart -/
section
open PySem PySem.W PyProof.Rows PySem.Calls PySem.Spec
set_option Elab.async false
namespace Mine
/-- the figures s..s+w of a lap -/
def partF (low first : Int) (a w : Nat) : List Int := (List.range w).map fun i => figK low first (a + i)
theorem partF_length (low first : Int) (a w : Nat) : (partF low first a w).length = w := by simp [partF]
theorem part_digs {low first : Int} (hl : low ∈ lows) (a w : Nat) : Digs (partF low first a w) := by
  intro d hd
  obtain ⟨i, _, rfl⟩ := List.mem_map.mp hd
  exact figK_bounds hl _
theorem part_worth {low first : Int} (hl : low ∈ lows) (a w : Nat) : worthOf (partF low first a w) = remK low first a * 10 ^ w / low := worth_part hl a w
theorem part_room {n k m a p : Nat} (hm : m * k = n) (ha : a = p * k) (hlt : p < m) : a + k ≤ n := by
  have h := Nat.mul_le_mul_right k (Nat.succ_le_of_lt hlt)
  rw [Nat.succ_mul] at h
  omega
theorem slice_part {low first : Int} {n a w : Nat} (per : PerN low first n) (h : a + w ≤ n) : Txt.slice (digS (figsN low first n)) (some (a : Int)) (some ((a : Int) + (w : Int))) = digS (partF low first a w) := by
  have e : ((a : Int) + (w : Int)) = ((a + w : Nat) : Int) := by omega
  rw [e]
  apply Str.ext'
  apply Array.toList_inj.mp
  rw [slice_list _ (by omega) (by rw [per.text_len]; omega), Nat.add_sub_cancel_left]
  unfold digS figsN partF
  simp only []
  apply List.ext_getElem?
  intro i
  by_cases hi : i < w
  · have h1 : a + i < n := by omega
    simp [List.getElem?_take, List.getElem?_drop, hi, h1]
  · simp [List.getElem?_take, hi]
theorem slice_one (x : Str) (c : Nat) : Str.ofString "229 (" ++ ⟨#[c, c, c]⟩ ++ x ++ ⟨#[c]⟩ ++ Str.ofString ")" = replyS c x := rfl
theorem heard_part {w : World} {mean : ExcName → Option Value} {mg mb : Str → Option Value} {news : List (Addr × Obj)} {c : Nat} {low first : Int} {n k m a p : Nat} {t1 : Tok}
    (hc : c ∈ marks) (hl : low ∈ lows) (per : PerN low first n) (hk1 : 1 ≤ k) (hm : m * k = n) (ha : a = p * k) (hlt : p < m)
    {cn : Str} {cs : Scope} {ad : Addr} {ccd : Value} {cl : List (Str × Addr)} {A₀ : Around} {h₀ : Heap} {L : Addr} {mm : Str → Option Value} {s : Shared} {Q E : Value → Shared → Prop}
    (B : Below A₀ h₀ [] h₀) (F : Fr h₀ L s.heap mm) (X : (hd.heap_39 w.params).In h₀) (N : News h₀ L s.heap news) (T : Top hd.view_39 (looseW hd.view_39 []) mean mg mb h₀) (hk : cs.kind = .function)
    (retBad : (Builtin.Str.occurrences (Txt.slice (digS (figsN low first n)) (some (a : Int)) (some ((a : Int) + (k : Int)))) ⟨#[c]⟩ 0 (Txt.slice (digS (figsN low first n)) (some (a : Int)) (some ((a : Int) + (k : Int)))).length 1).isEmpty = false → ∀ t h' tk', Fr h₀ L h' mm → News h₀ L h' news → Q (.str (Str.ofString "229 (" ++ ⟨#[c, c, c]⟩ ++ Txt.slice (digS (figsN low first n)) (some (a : Int)) (some ((a : Int) + (k : Int))) ++ ⟨#[c]⟩ ++ Str.ofString ")") t) { s with heap := h', toks := tk' })
    (retNum : (Builtin.Str.occurrences (Txt.slice (digS (figsN low first n)) (some (a : Int)) (some ((a : Int) + (k : Int)))) ⟨#[c]⟩ 0 (Txt.slice (digS (figsN low first n)) (some (a : Int)) (some ((a : Int) + (k : Int)))).length 1).isEmpty = true → ∀ l t t' h' tk', Fr h₀ L h' mm → News h₀ L h' ((l, { cls := .type "tuple", data := .seq #[.str (Str.ofString "peer") t, .int ((remK low first a * 10 ^ ((k : Int)).toNat).fdiv low) t'] }) :: news) → (∀ p ∈ news, p.1 < l) → Q (.ref l) { s with heap := h', toks := tk' }) :
    wpAny (model Challenge.rw_wu0028_01.row.prog w) (ktrTop (1 + claimMargin + 1) 7 (some []) cn cs L ad ccd cl []) (call (.ref 163) [.str (Str.ofString "229 (" ++ ⟨#[c, c, c]⟩ ++ Txt.slice (digS (figsN low first n)) (some (a : Int)) (some ((a : Int) + (k : Int))) ++ ⟨#[c]⟩ ++ Str.ofString ")") t1]) Q E s := by
  have hr := part_room hm ha hlt
  have hle := per.le
  rw [Int.fdiv_eq_ediv_of_nonneg _ (by have := lows_bounds hl; omega), Int.toNat_natCast, ← part_worth hl] at retNum
  exact heard_reply hc (part_digs hl a k) (slice_part per hr) (by rw [partF_length]; exact hk1) (by rw [partF_length]; omega) B F X N T hk (fun h => retBad (by unfold Txt.contains at h; simpa using h)) (fun h => retNum (by unfold Txt.contains at h; simpa using h))
theorem heard_bar {w : World} {mean : ExcName → Option Value} {mg mb : Str → Option Value} {news : List (Addr × Obj)} {low first : Int} {n k m a p : Nat} {t1 : Tok}
    (hl : low ∈ lows) (per : PerN low first n) (hk1 : 1 ≤ k) (hm : m * k = n) (ha : a = p * k) (hlt : p < m)
    {cn : Str} {cs : Scope} {ad : Addr} {ccd : Value} {cl : List (Str × Addr)} {A₀ : Around} {h₀ : Heap} {L : Addr} {mm : Str → Option Value} {s : Shared} {Q E : Value → Shared → Prop}
    (B : Below A₀ h₀ [] h₀) (F : Fr h₀ L s.heap mm) (X : (hd.heap_39 w.params).In h₀) (N : News h₀ L s.heap news) (T : Top hd.view_39 (looseW hd.view_39 []) mean mg mb h₀) (hk : cs.kind = .function)
    (retNum : ∀ l t t' h' tk', Fr h₀ L h' mm → News h₀ L h' ((l, { cls := .type "tuple", data := .seq #[.str (Str.ofString "peer") t, .int ((remK low first a * 10 ^ ((k : Int)).toNat).fdiv low) t'] }) :: news) → (∀ p ∈ news, p.1 < l) → Q (.ref l) { s with heap := h', toks := tk' }) :
    wpAny (model Challenge.rw_wu0028_01.row.prog w) (ktrTop (1 + claimMargin + 1) 7 (some []) cn cs L ad ccd cl []) (call (.ref 163) [.str (Str.ofString "229 (" ++ ⟨#[124, 124, 124]⟩ ++ Txt.slice (digS (figsN low first n)) (some (a : Int)) (some ((a : Int) + (k : Int))) ++ Str.ofString "|" ++ Str.ofString ")") t1]) Q E s := by
  have e : Str.ofString "|" = ⟨#[124]⟩ := by decide +kernel
  rw [e]
  refine heard_part (c := 124) (by decide) hl per hk1 hm ha hlt B F X N T hk ?_ (fun _ => retNum)
  intro h
  exfalso
  have hr := part_room hm ha hlt
  rw [slice_part per hr] at h
  have h2 : Txt.contains (digS (partF low first a k)) ⟨#[124]⟩ = true := by unfold Txt.contains; simpa using h
  rw [contains_one, decide_eq_true_eq] at h2
  have := dig_cps (part_digs hl a k) h2
  omega
theorem three_bars {prog : Program} {w : World} {A : Around} {E : Value → Shared → Prop} {s : Shared} {t u : Tok} {Q : Value → Shared → Prop} (h : ∀ t' k, Q (.str ⟨#[124, 124, 124]⟩ t') { s with toks := k }) : wpAny (model prog w) A (binaryOp .Mult (.int 3 u) (.str (Str.ofString "|") t)) Q E s := by
  have e : Str.ofString "|" = ⟨#[124]⟩ := by decide +kernel
  rw [e]
  exact three_marks h
theorem str_ne_self (x : Str) : (x != x) = false := by simp
theorem rests_item {prog : Program} {w : World} {A : Around} {E : Value → Shared → Prop} {s : Shared} {value slice : Expr} {D : Addr} {ys : List Value} {low first : Int} {n a k m p : Nat} {u : Tok} {Q : Value → Shared → Prop} (hlow : low ∈ lows) (per : PerN low first n) (hk1 : 1 ≤ k) (hm : m * k = n) (ha : a = p * k) (hlt : p < m)
    (hl : s.heap.IsList D ys.toArray) (hi : IntsAre ys ((rangeKs 0 n).map (restF low first))) (h : ∀ t, 0 ≤ remK low first a → remK low first a < low → Q (.int (remK low first a) t) s)
    (hs : subscripted slice false (.ref D) (.int a u) = operate [.ref D, .int a u] (getItem (.ref D) (.int a u))) (hg : ∀ r, letTemporaryGo value (.ref D) r = pure ()) :
    wpAny (model prog w) A (subscriptTail value slice (.ref D) (.int a u)) Q E s := by
  have hr := part_room hm ha hlt
  have hle := per.le
  have e : ((rangeKs 0 n).map (restF low first)).length = n := by simp [rangeKs]
  refine item_list_ints hl hi (by omega) (by rw [e]; omega) (by omega) ?_ hs hg
  intro t
  have e2 : ((rangeKs 0 n).map (restF low first)).getD ((a : Int)).toNat 0 = remK low first a := by
    have e3 : (rangeKs 0 n).map (restF low first) = (List.range n).map (remK low first) := restsN_eq low first n
    rw [e3, Int.toNat_natCast]
    have h3 : a < n := by omega
    simp [List.getD, h3]
  rw [e2]
  exact h t (remK_nonneg hlow _) (remK_lt hlow _)
end Mine
namespace Mine
theorem if_pos_of {b : Bool} {P Q : Prop} (h : b = true) (hp : P) : if b = true then P else Q := by rw [if_pos h]; exact hp
theorem if_neg_of {b : Bool} {P Q : Prop} (h : b = false) (hq : Q) : if b = true then P else Q := by rw [if_neg (by rw [h]; decide)]; exact hq
end Mine
namespace Mine
theorem int_ne_self (x : Int) : (x != x) = false := by simp
theorem int_dec_self (x : Int) : decide (x = x) = true := by simp
theorem int_beq_self (x : Int) : (x == x) = true := by simp
theorem str_beq_self (x : Str) : (x == x) = true := by simp
end Mine
namespace Mine
theorem ne_self_false {x : Int} {P : Prop} (h : x ≠ x) : P := absurd rfl h
end Mine
end

/-! MEnd -/
section
open PySem PySem.W PyProof.Rows PySem.Calls PySem.Spec
set_option Elab.async false
namespace Mine
theorem part_next {low first c : Int} {k p a : Nat} (hl : low ∈ lows) (hc : c = partSum low first k p) (ha : a = p * k) : c + (remK low first a * 10 ^ ((k : Int)).toNat).fdiv low = partSum low first k (p + 1) := by
  rw [Int.fdiv_eq_ediv_of_nonneg _ (by have := lows_bounds hl; omega), Int.toNat_natCast, hc, ha]
  rfl
theorem off3 {z : Str} (h : [Str.ofString "part", Str.ofString "reply", Str.ofString "heard"].contains z = false) : z ≠ Str.ofString "part" ∧ z ≠ Str.ofString "reply" ∧ z ≠ Str.ofString "heard" := by
  simpa using h
theorem off5 {z : Str} (h : [Str.ofString "whole", Str.ofString "start", Str.ofString "part", Str.ofString "reply", Str.ofString "heard"].contains z = false) : z ≠ Str.ofString "whole" ∧ z ≠ Str.ofString "start" ∧ z ≠ Str.ofString "part" ∧ z ≠ Str.ofString "reply" ∧ z ≠ Str.ofString "heard" := by
  simpa using h
theorem start_end {low first : Int} {h₀ h' : Heap} {L L' : Addr} {m₀ m' : Str → Option Value} {news own news' : List (Addr × Obj)} {k a : Nat} {pre : List Int} {c c' : Int} {tc : Tok} {s₁ : Shared} {tk : Nat}
    (hL : L' = L) (hl : low ∈ lows) (F : Fr h₀ L h' m') (N : News h₀ L h' news') (hn : ∀ p ∈ news, p ∈ news') (ho : ∀ p ∈ own, p ∈ news') (hc : c = partSum low first k pre.length) (ha : a = pre.length * k) (hc' : c' = c + (remK low first a * 10 ^ ((k : Int)).toNat).fdiv low)
    (h1 : m' (Str.ofString "whole") = some (.int c' tc)) (h2 : ∀ z, z ≠ Str.ofString "start" → z ≠ Str.ofString "whole" → [Str.ofString "part", Str.ofString "reply", Str.ofString "heard"].contains z = false → m' z = m₀ z) :
    InvEndN h₀ L' (KstS (fun _ => news) (fun b : Int × Tok => [(Str.ofString "whole", Value.int b.1 b.2)]) (fun _ => True) (Str.ofString "start") [Str.ofString "part", Str.ofString "reply", Str.ofString "heard"] m₀ (fun pre b => b.1 = partSum low first k pre.length) (pre ++ [(a : Int)])) own (news.map (·.1)) s₁ { s₁ with heap := h', toks := tk } := by
  subst hL
  refine kst_end (c', tc) F N hn ho rfl trivial ?_ ?_ ?_
  · intro q hq
    rw [List.mem_singleton.mp hq]
    exact h1
  · intro z z1 z2 z3
    exact h2 z z1 (z2 _ List.mem_cons_self) z3
  · show c' = partSum low first k (pre ++ [(a : Int)]).length
    rw [List.length_append, hc']
    exact part_next hl hc ha
theorem wide_end {low first : Int} {n : Nat} {h₀ h' : Heap} {L L' : Addr} {m₀ m' : Str → Option Value} {news own news' : List (Addr × Obj)} {k : Nat} {pre : List Int} {c' : Bool} {s₁ : Shared} {tk : Nat}
    (hL : L' = L) (F : Fr h₀ L h' m') (N : News h₀ L h' news') (hn : ∀ p ∈ news, p ∈ news') (ho : ∀ p ∈ own, p ∈ news') (hc' : c' = ninesAt low first n (pre.length + 1))
    (h1 : m' (Str.ofString "nines") = some (.bool c')) (h2 : ∀ z, z ≠ Str.ofString "wide" → z ≠ Str.ofString "nines" → [Str.ofString "whole", Str.ofString "start", Str.ofString "part", Str.ofString "reply", Str.ofString "heard"].contains z = false → m' z = m₀ z) :
    InvEndN h₀ L' (KstS (fun _ => news) (fun b : Bool => [(Str.ofString "nines", Value.bool b)]) (fun _ => True) (Str.ofString "wide") [Str.ofString "whole", Str.ofString "start", Str.ofString "part", Str.ofString "reply", Str.ofString "heard"] m₀ (fun pre b => b = ninesAt low first n pre.length) (pre ++ [(k : Int)])) own (news.map (·.1)) s₁ { s₁ with heap := h', toks := tk } := by
  subst hL
  refine kst_end c' F N hn ho rfl trivial ?_ ?_ ?_
  · intro q hq
    rw [List.mem_singleton.mp hq]
    exact h1
  · intro z z1 z2 z3
    exact h2 z z1 (z2 _ List.mem_cons_self) z3
  · show c' = ninesAt low first n (pre ++ [(k : Int)]).length
    rw [List.length_append, hc']
    rfl
end Mine
end

/-! MSum -/
section
open PySem PySem.W PyProof.Rows PySem.Calls PySem.Spec PySem.Builtin
set_option Elab.async false
namespace Mine
theorem ints_picked {ys : Array Value} {g : Nat → Int} : ∀ (l : List Nat), (∀ i ∈ l, ∃ t, ys[i]? = some (.int (g i) t)) → IntsAre (l.filterMap (ys[·]?)) (l.map g)
  | [], _ => .nil
  | i :: l, h => by
    obtain ⟨t, ht⟩ := h i List.mem_cons_self
    rw [List.filterMap_cons_some ht, List.map_cons]
    exact .cons _ _ (ints_picked l fun j hj => h j (List.mem_cons_of_mem _ hj))
theorem step_range {n k m : Nat} (hm : m * k = n) (hk : 1 ≤ k) (h0 : 1 ≤ n) : sliceRange 0 (n : Int) (k : Int) = (List.range m).map fun j => j * k := by
  unfold sliceRange
  rw [if_pos (by omega), if_pos (by omega)]
  have e : (((n : Int) - 0 + (k : Int) - 1) / (k : Int)).toNat = m := by
    have e1 : ((n : Int) - 0 + (k : Int) - 1) = ((n + k - 1 : Nat) : Int) := by omega
    rw [e1, ← Int.natCast_ediv, Int.toNat_natCast]
    refine Nat.div_eq_of_lt_le ?_ ?_
    · omega
    · rw [Nat.succ_mul]; omega
  simp only [e]
  refine List.map_congr_left fun j _ => ?_
  rw [Int.zero_add, Int.mul_comm, ← Int.natCast_mul, Int.toNat_natCast]
def restLs (low first : Int) (k m : Nat) : List Int := (List.range m).map fun j => remK low first (j * k)
theorem restLs_sum (low first : Int) (k : Nat) : ∀ m, (restLs low first k m).sum = restSum low first k m
  | 0 => rfl
  | m + 1 => by
    unfold restLs
    rw [List.range_succ, List.map_append, List.sum_append]
    show (restLs low first k m).sum + _ = restSum low first k m + _
    rw [restLs_sum]
    simp
theorem pick_step {ys : List Value} {low first : Int} {n m k : Nat} (per : PerN low first n) (hi : IntsAre ys ((rangeKs 0 n).map (restF low first))) (hm : m * k = n) (hk : 1 ≤ k) : IntsAre (slicePick ys.toArray none none (some (k : Int))).toList (restLs low first k m) := by
  have h0 := per.pos
  have e : (rangeKs 0 n).map (restF low first) = (List.range n).map (remK low first) := restsN_eq low first n
  rw [e] at hi
  have hlen : ys.length = n := by rw [hi.length]; simp
  have hb : sliceBounds none none (some (k : Int)) ys.toArray.size = (0, (n : Int), (k : Int)) := by
    unfold sliceBounds
    simp [hlen]
    omega
  unfold slicePick
  rw [hb]
  show IntsAre ((sliceRange 0 (n : Int) (k : Int)).filterMap (ys.toArray[·]?)) _
  rw [step_range hm hk h0]
  have := ints_picked (ys := ys.toArray) (g := remK low first) ((List.range m).map fun j => j * k) ?_
  · simpa [restLs, List.map_map, Function.comp_def] using this
  · intro i hi'
    obtain ⟨j, hj, rfl⟩ := List.mem_map.mp hi'
    have hjm := List.mem_range.mp hj
    have hlt : j * k < n := by
      have h := Nat.mul_le_mul_right k (Nat.succ_le_of_lt hjm)
      rw [Nat.succ_mul] at h
      omega
    obtain ⟨t, ht⟩ := hi.get (j * k) (remK low first (j * k)) (by simp [hlt])
    exact ⟨t, by simpa using ht⟩
theorem sum_step {prog : Program} {w : World} {A : Around} {E : Value → Shared → Prop} {s : Shared} {h₀ : Heap} {L l : Addr} {mm : Str → Option Value} {news : List (Addr × Obj)} {ys : List Value} {low first : Int} {n m k : Nat} {Q : Value → Shared → Prop}
    (per : PerN low first n) (hi : IntsAre ys ((rangeKs 0 n).map (restF low first))) (hm : m * k = n) (hk : 1 ≤ k) (hh : A.handled = none) (F : Fr h₀ L s.heap mm) (N : News h₀ L s.heap news)
    (hmem : (l, ({ cls := .type "list", data := .seq (slicePick ys.toArray none none (some (k : Int))) } : Obj)) ∈ news)
    (h : ∀ h' tk t', Fr h₀ L h' mm → News h₀ L h' news → Q (.int (restSum low first k m) t') { s with heap := h', toks := tk }) :
    wpAny (model prog w) A (call (.builtin "sum") [.ref l]) Q E s := by
  refine sumK (vs := (slicePick ys.toArray none none (some (k : Int))).toList) hh F N ?_ (pick_step per hi hm hk) ?_
  · rw [Array.toArray_toList]
    exact News.isList N hmem
  · intro h' tk t' F' N'
    rw [restLs_sum]
    exact h h' tk t' F' N'
end Mine
namespace Mine
theorem whole_ne {low first c : Int} {n m k : Nat} (hl : low ∈ lows) (h1 : 1 ≤ first) (hlt : first < low) (per : PerN low first n) (hm : m * k = n) (hc : c = partSum low first k m) : (c * low != (10 ^ ((k : Int)).toNat - 1) * restSum low first k m) = false := by
  rw [hc, partSum_whole hl h1 hlt per hm, Int.toNat_natCast]
  simp
end Mine
namespace Mine
theorem restSum_bound {low first : Int} (hl : low ∈ lows) (k : Nat) : ∀ m : Nat, 0 ≤ restSum low first k m ∧ restSum low first k m ≤ 41 * m
  | 0 => by simp [restSum]
  | m + 1 => by
    have h := restSum_bound (first := first) hl k m
    have h1 := remK_nonneg (first := first) hl (m * k)
    have h2 := remK_lt (first := first) hl (m * k)
    have h3 := (lows_bounds hl).2
    show 0 ≤ restSum low first k m + remK low first (m * k) ∧ restSum low first k m + remK low first (m * k) ≤ 41 * ((m + 1 : Nat) : Int)
    omega
theorem restSum_small {low first : Int} {n k m : Nat} (hl : low ∈ lows) (per : PerN low first n) (hm : m * k = n) (hk : 1 ≤ k) : 0 ≤ restSum low first k m ∧ restSum low first k m ≤ 1681 := by
  have h := restSum_bound (first := first) hl k m
  have h2 : m ≤ n := by rw [← hm]; exact Nat.le_mul_of_pos_right _ hk
  have := per.le
  omega
end Mine
namespace Mine
theorem skip_state {low first : Int} {n w p : Nat} {c : Bool} (hp : c = ninesAt low first n p) (hw : w = p + 1) (h : 2 * (w : Int) ≠ (n : Int)) : c = ninesAt low first n (p + 1) := by
  rw [hp]
  exact (ninesAt_skip (by omega)).symm
theorem half_state {low first x : Int} {n w m p : Nat} (hc : x = partSum low first w m) (hm : m * w = n) (hw : w = p + 1) (h : 2 * (w : Int) = (n : Int)) : (x == 10 ^ ((w : Int)).toNat - 1) = ninesAt low first n (p + 1) := by
  have h2 : 2 * w = n := by omega
  have hm2 : m = 2 := by
    have h3 : m * w = 2 * w := by omega
    exact Nat.eq_of_mul_eq_mul_right (by omega) h3
  subst hm2
  rw [← hw, ninesAt_half h2, hc, Int.toNat_natCast]
  rfl
theorem half_state' {low first x : Int} {n w m p : Nat} (hc : x = partSum low first w m) (hm : m * w = n) (hw : w = p + 1) (h : 2 * (w : Int) = (n : Int)) : decide (x = 10 ^ ((w : Int)).toNat - 1) = ninesAt low first n (p + 1) := half_state hc hm hw h
end Mine
namespace Mine
theorem off5_3 {z : Str} (h : [Str.ofString "whole", Str.ofString "start", Str.ofString "part", Str.ofString "reply", Str.ofString "heard"].contains z = false) : [Str.ofString "part", Str.ofString "reply", Str.ofString "heard"].contains z = false := by
  have := off5 h
  simp [this.2.2.1, this.2.2.2.1, this.2.2.2.2]
end Mine
namespace Mine
abbrev turnEl : Int → Value → Prop := StrEl fun k => figS (9 - k)
end Mine
namespace Mine
theorem turn_len {low first : Int} {n : Nat} (_h : PerN low first n) : (digS (turnD (figsN low first n))).length = n := by
  rw [digS_length, turnD_length, figsN_length]
end Mine
end

/-! MDots -/
section
open PySem PySem.W PyProof.Rows PySem.Calls PySem.Spec PySem.Builtin PySem.Builtin.Str
set_option Elab.async false
namespace Mine
def dotsS : Str := Str.ofString "..."
theorem dots_list : (Str.ofString "...").cps.toList = [46, 46, 46] := by decide +kernel
theorem dots_len : (Str.ofString "...").length = 3 := by decide +kernel
/-- the text that is looked for, between its two ellipses -/
def wantS (x : Str) : Str := Str.ofString "..." ++ x ++ Str.ofString "..."
theorem want_list (x : Str) : (wantS x).cps.toList = [46, 46, 46] ++ (x.cps.toList ++ [46, 46, 46]) := by
  unfold wantS
  simp only [Str.cps_append, Array.toList_append, dots_list]
  simp
theorem want_len (x : Str) : (wantS x).length = x.length + 6 := by
  rw [← len_toList, want_list]
  simp only [List.length_append, List.length_cons, List.length_nil, len_toList]
  omega
/-- the loop of occurrences leaves its state where nothing stands -/
theorem occ_skip (s sub : Str) (hi limit : Nat) : ∀ (l : List Nat) (st : Array Nat × Nat), (∀ i ∈ l, ¬ (st.2 ≤ i ∧ i + sub.length ≤ hi ∧ subAt s sub i = true)) → forIn l st (StrLaws.occBody s sub hi limit) = (pure st : Id _)
  | [], st, _ => rfl
  | a :: l, st, h => by
    rw [List.forIn_cons]
    unfold StrLaws.occBody
    rw [if_neg (fun hc => h a List.mem_cons_self ⟨hc.1.1.2, hc.1.2, hc.2⟩)]
    exact occ_skip s sub hi limit l st fun i hi' => h i (List.mem_cons_of_mem _ hi')
theorem occ_pass (s sub : Str) (hi limit : Nat) (r : List Nat) : ∀ (l : List Nat) (st : Array Nat × Nat), (∀ i ∈ l, ¬ (st.2 ≤ i ∧ i + sub.length ≤ hi ∧ subAt s sub i = true)) → forIn (l ++ r) st (StrLaws.occBody s sub hi limit) = forIn r st (StrLaws.occBody s sub hi limit)
  | [], st, _ => rfl
  | a :: l, st, h => by
    rw [List.cons_append, List.forIn_cons]
    unfold StrLaws.occBody
    rw [if_neg (fun hc => h a List.mem_cons_self ⟨hc.1.1.2, hc.1.2, hc.2⟩)]
    exact occ_pass s sub hi limit r l st fun i hi' => h i (List.mem_cons_of_mem _ hi')
theorem occ_take (s sub : Str) (hi limit : Nat) (a : Nat) (l : List Nat) (st : Array Nat × Nat) (h1 : st.1.size < limit) (h2 : st.2 ≤ a) (h3 : a + sub.length ≤ hi) (h4 : subAt s sub a = true) :
    forIn (a :: l) st (StrLaws.occBody s sub hi limit) = forIn l (st.1.push a, a + sub.length) (StrLaws.occBody s sub hi limit) := by
  rw [List.forIn_cons]
  unfold StrLaws.occBody
  rw [if_pos ⟨⟨⟨h1, h2⟩, h3⟩, h4⟩]
  rfl
theorem want_at (x : Str) (hx : 46 ∉ x.cps.toList) {i : Nat} (h0 : 1 ≤ x.length) (h : i + 3 ≤ x.length + 6) : subAt (wantS x) (Str.ofString "...") i = true ↔ i = 0 ∨ i = x.length + 3 := by
  rw [StrLaws.subAt_eq, want_list, dots_list, dots_len]
  constructor
  · intro he
    have he' : (([46, 46, 46] ++ (x.cps.toList ++ [46, 46, 46])).drop i).take 3 = [46, 46, 46] := by simpa using he
    by_cases h1 : i = 0
    · exact .inl h1
    · right
      by_cases h2 : i = x.length + 3
      · exact h2
      · exfalso
        have hp : ∀ j, j < 3 → ([46, 46, 46] ++ (x.cps.toList ++ [46, 46, 46]))[i + j]? = some 46 := by
          intro j hj
          have := congrArg (fun z : List Nat => z[j]?) he'
          simp only [List.getElem?_take, List.getElem?_drop, hj, if_true] at this
          rw [this]
          have : j = 0 ∨ j = 1 ∨ j = 2 := by omega
          rcases this with rfl | rfl | rfl <;> rfl
        have hl := len_toList x
        have hcase : ∃ j, j < 3 ∧ 3 ≤ i + j ∧ i + j < x.length + 3 := by
          by_cases h3 : i < 3
          · exact ⟨3 - i, by omega, by omega, by omega⟩
          · exact ⟨0, by omega, by omega, by omega⟩
        obtain ⟨j, hj, h4, h5⟩ := hcase
        have h6 := hp j hj
        rw [List.getElem?_append_right (by simpa using h4), List.getElem?_append_left (by simp only [List.length_cons, List.length_nil]; omega)] at h6
        exact hx (List.mem_of_getElem? h6)
  · rintro (rfl | rfl)
    · simp
    · have hl := len_toList x
      have e : ([46, 46, 46] ++ (x.cps.toList ++ [46, 46, 46])).drop (x.length + 3) = [46, 46, 46] := by
        rw [← List.append_assoc]
        have e2 : x.length + 3 = ([46, 46, 46] ++ x.cps.toList).length := by rw [List.length_append, len_toList, List.length_cons, List.length_cons, List.length_cons, List.length_nil]; omega
        rw [e2, List.drop_left]
      rw [e]
      rfl
theorem want_occ (x : Str) (hx : 46 ∉ x.cps.toList) (h0 : 1 ≤ x.length) : occurrences (wantS x) (Str.ofString "...") 0 (wantS x).length ((wantS x).length + 1) = [0, x.length + 3] := by
  rw [StrLaws.occ_eq]
  have hl := want_len x
  have e : List.range' 0 ((wantS x).length + 1 - 0) = 0 :: (List.range' 1 (x.length + 2) ++ (x.length + 3) :: List.range' (x.length + 4) 3) := by
    rw [hl]
    have e1 : x.length + 6 + 1 - 0 = 1 + ((x.length + 2) + (1 + 3)) := by omega
    rw [e1, ← List.range'_append_1, ← List.range'_append_1, ← List.range'_append_1]
    have e2 : 0 + 1 + (x.length + 2) = x.length + 3 := by omega
    have e3 : x.length + 3 + 1 = x.length + 4 := by omega
    rw [e2, e3]
    rfl
  rw [e, occ_take (wantS x) (Str.ofString "...") (wantS x).length ((wantS x).length + 1) 0 _ (#[], 0) (by simp) (Nat.le_refl 0) (by rw [dots_len, hl]; omega) ((want_at x hx h0 (by omega)).mpr (.inl rfl)), occ_pass]
  · rw [occ_take (wantS x) (Str.ofString "...") (wantS x).length ((wantS x).length + 1) (x.length + 3) _ ((#[], 0).fst.push 0, 0 + (Str.ofString "...").length) (by simp; omega) (by rw [dots_len]; simp) (by rw [dots_len, hl]; omega) ((want_at x hx h0 (by omega)).mpr (.inr rfl)), occ_skip]
    · simp
    · intro i hi
      have := List.mem_range'_1.mp hi
      rintro ⟨_, h2, _⟩
      rw [dots_len, hl] at h2
      omega
  · intro i hi
    have := List.mem_range'_1.mp hi
    rintro ⟨_, h2, h3⟩
    rw [dots_len, hl] at h2
    have := (want_at x hx h0 (by omega)).mp h3
    omega
theorem want_split (x : Str) (hx : 46 ∉ x.cps.toList) (h0 : 1 ≤ x.length) (hk : strKind (wantS x) = strKind (Str.ofString "...")) : Txt.split (wantS x) (Str.ofString "...") = [Str.empty, x, Str.empty] := by
  have hl := want_len x
  unfold Txt.split
  rw [want_occ x hx h0, if_neg (by rw [hk, hl, dots_len]; simp), if_neg (by simp)]
  unfold partsBetween
  simp only [List.map_cons, List.map_nil, List.cons_append, List.nil_append, List.zip_cons_cons, List.zip_nil_right, dots_len, hl]
  have hs : ∀ i j (y : Str), (((wantS x).cps.toList.drop i).take (j - i)) = y.cps.toList → strSub (wantS x) i j = y := fun i j y h => Str.ext' (Array.toList_inj.mp (by rw [StrLaws.strSub_toList]; exact h))
  rw [hs 0 0 Str.empty (by simp [Str.empty]), hs (0 + 3) (x.length + 3) x ?_, hs (x.length + 3 + 3) (x.length + 6) Str.empty ?_]
  · have e : x.length + 6 - (x.length + 3 + 3) = 0 := by omega
    rw [e]
    simp [Str.empty]
  · rw [want_list]
    have e : x.length + 3 - (0 + 3) = x.cps.toList.length := by rw [len_toList]; omega
    rw [e]
    show (x.cps.toList ++ [46, 46, 46]).take x.cps.toList.length = _
    rw [List.take_left]
theorem want_first (x : Str) (hx : 46 ∉ x.cps.toList) (h0 : 1 ≤ x.length) : (occurrences (wantS x) (Str.ofString "...") 0 (wantS x).length 1).isEmpty = false := by
  rcases StrLaws.occ_head (wantS x) (Str.ofString "...") 1 (Nat.le_refl 1) with ⟨_, hn⟩ | ⟨i, r, h, _⟩
  · exact absurd ⟨by rw [dots_len, want_len]; omega, (want_at x hx h0 (by omega)).mpr (.inl rfl)⟩ (hn 0)
  · rw [h]
    rfl
end Mine
end

/-! MFound -/
section
open PySem PySem.W PyProof.Rows PySem.Calls PySem.Spec PySem.Builtin PySem.Builtin.Str
set_option Elab.async false
namespace Mine
theorem kind_one {x : Str} (h : ∀ b ∈ x.cps.toList, b < 256) : Builtin.Str.strKind x = 1 := by
  unfold Builtin.Str.strKind
  rw [if_pos]
  rw [← Array.all_toList, List.all_eq_true]
  intro b hb
  exact decide_eq_true (h b hb)
theorem want_kind {ds : List Int} (hd : Digs ds) : Builtin.Str.strKind (wantS (digS ds)) = Builtin.Str.strKind (Str.ofString "...") := by
  rw [kind_one, kind_one]
  · intro b hb
    rw [dots_list] at hb
    simp at hb
    omega
  · intro b hb
    rw [want_list] at hb
    simp only [List.mem_append, List.mem_cons, List.not_mem_nil, or_false] at hb
    rcases hb with h | h | h
    · omega
    · have := dig_cps hd h
      omega
    · omega
theorem dig_free {ds : List Int} (hd : Digs ds) : 46 ∉ (digS ds).cps.toList := fun h => by
  have := dig_cps hd h
  omega
/-- where a text is found in another -/
theorem found_iff (got x : Str) : 0 ≤ Txt.find got x ↔ ∃ i, i + x.length ≤ got.length ∧ (got.cps.toList.drop i).take x.length = x.cps.toList := by
  unfold Txt.find
  rcases StrLaws.occ_head got x 1 (Nat.le_refl 1) with ⟨h0, hn⟩ | ⟨i, r, h0, hi, _⟩
  · rw [h0]
    constructor
    · intro h
      exact absurd h (by decide)
    · rintro ⟨i, h1, h2⟩
      exact absurd ⟨h1, by rw [StrLaws.subAt_eq, h2]; simp⟩ (hn i)
  · rw [h0]
    constructor
    · intro _
      refine ⟨i, hi.1, ?_⟩
      have := hi.2
      rw [StrLaws.subAt_eq] at this
      simpa using this
    · intro _
      exact Int.natCast_nonneg i
theorem dig_at {ds : List Int} {j : Nat} : (digS ds).cps.toList[j]? = (ds[j]?).map fun d => (48 + d).toNat := by
  simp [digS]
/-- a row of figures in a lap laid twice -/
theorem window_iff {low first : Int} {n : Nat} {gs : List Int} (hl : low ∈ lows) (per : PerN low first n) (hg : Digs gs) (hn : gs.length = n) :
    0 ≤ Txt.find (digS (figsN low first n) ++ digS (figsN low first n)) (digS gs) ↔ ∃ i, i ≤ n ∧ ∀ j, j < n → gs[j]? = some (figK low first (i + j)) := by
  have hlen : (digS (figsN low first n) ++ digS (figsN low first n)).length = n + n := by rw [Str.length_append, per.text_len]
  have hx : (digS gs).length = n := by rw [digS_length, hn]
  have hfig : ∀ k, k < n + n → (digS (figsN low first n) ++ digS (figsN low first n)).cps.toList[k]? = some (48 + figK low first k).toNat := by
    intro k hk
    rw [Str.cps_append, Array.toList_append]
    by_cases h : k < n
    · rw [List.getElem?_append_left (by rw [len_toList, per.text_len]; exact h), dig_at]
      simp [figsN, h]
    · rw [List.getElem?_append_right (by rw [len_toList, per.text_len]; omega), len_toList, per.text_len, dig_at]
      have h2 : k - n < n := by omega
      have h3 : figK low first k = figK low first (k - n) := by
        have h4 : remK low first (n + (k - n)) = remK low first (k - n) := remK_period per (k - n)
        have h5 : n + (k - n) = k := by omega
        rw [h5] at h4
        show remK low first k * 10 / low = remK low first (k - n) * 10 / low
        rw [h4]
      simp [figsN, h2, h3]
  rw [found_iff, hlen, hx]
  constructor
  · rintro ⟨i, h1, h2⟩
    refine ⟨i, by omega, fun j hj => ?_⟩
    have h3 := congrArg (fun z : List Nat => z[j]?) h2
    simp only [List.getElem?_take, List.getElem?_drop, hj, if_true] at h3
    rw [hfig (i + j) (by omega), dig_at] at h3
    have h4 : j < gs.length := by omega
    rw [List.getElem?_eq_getElem h4] at h3 ⊢
    have h5 := figK_bounds (first := first) hl (i + j)
    have h6 := hg gs[j] (List.getElem_mem h4)
    have h7 : (48 + figK low first (i + j)).toNat = (48 + gs[j]).toNat := by simpa using h3
    congr 1
    omega
  · rintro ⟨i, h1, h2⟩
    refine ⟨i, by omega, ?_⟩
    apply List.ext_getElem?
    intro j
    by_cases hj : j < n
    · rw [List.getElem?_take, if_pos hj, List.getElem?_drop, hfig (i + j) (by omega), dig_at, h2 j hj]
      rfl
    · rw [List.getElem?_take, if_neg hj, List.getElem?_eq_none (by rw [len_toList, hx]; omega)]
end Mine
end

/-! MLawQ -/
section
open PySem PySem.W PyProof.Rows PySem.Calls PySem.Spec
set_option Elab.async false
namespace Mine
section
variable {low first other : Int} {n : Nat}
theorem lows_odd {low : Int} (h : low ∈ lows) : low % 2 = 1 := by
  simp only [lows, List.mem_cons, List.not_mem_nil, or_false] at h
  rcases h with rfl | rfl | rfl | rfl | rfl | rfl | rfl | rfl | rfl | rfl | rfl | rfl | rfl | rfl <;> rfl
theorem rem_pos (hl : low ∈ lows) (h1 : 1 ≤ first) (per : PerN low first n) (k : Nat) : 0 < remK low first k := by
  have h0 := remK_nonneg (first := first) hl k
  rcases Int.lt_or_eq_of_le h0 with h | h
  · exact h
  · exfalso
    have hz : ∀ j, remK low first (k + j) = 0 := fun j => by
      rw [remK_add, ← h]; simp
    have hm : ∀ j : Nat, remK low first (n * j) = first := by
      intro j
      induction j with
      | zero =>
        have h7 := remK_period per 0
        rw [Nat.add_zero, per.back] at h7
        rw [Nat.mul_zero]
        exact h7.symm
      | succ j ih => rw [Nat.mul_succ, Nat.add_comm, remK_period per, ih]
    have h2 := hm k
    have hk : k ≤ n * k := Nat.le_mul_of_pos_left _ per.pos
    obtain ⟨d, hd⟩ : ∃ d, n * k = k + d := ⟨n * k - k, by omega⟩
    rw [hd, hz] at h2
    omega
theorem rem_step (low first : Int) (k : Nat) : figK low first k * low + remK low first (k + 1) = remK low first k * 10 := by
  have e : remK low first (k + 1) = remK low first k * 10 % low := by
    have := remK_add (low := low) (first := first) k 1
    simpa using this
  rw [e]
  show remK low first k * 10 / low * low + _ = _
  have := Int.mul_ediv_add_emod (remK low first k * 10) low
  rw [Int.mul_comm] at this
  exact this
theorem rem_flip (hl : low ∈ lows) (h1 : 1 ≤ first) (hlt : first < low) (per : PerN low first n) {i : Nat} (hi : remK low first i = low - first) : ∀ j, remK low first (i + j) = low - remK low first j
  | 0 => by rw [Nat.add_zero, hi, remK_zero h1 hlt]
  | j + 1 => by
    have ih := rem_flip hl h1 hlt per hi j
    have h3 := rem_step low first (i + j)
    have h4 := rem_step low first j
    have p1 := rem_pos hl h1 per (j + 1)
    have p2 := rem_pos hl h1 per (i + j + 1)
    have l1 := remK_lt (first := first) hl (j + 1)
    have l2 := remK_lt (first := first) hl (i + j + 1)
    rw [← Nat.add_assoc]
    rw [ih] at h3
    have h5 : (figK low first (i + j) + figK low first j - 10) * low = - (remK low first (i + j + 1) + remK low first (j + 1)) := by
      rw [Int.sub_mul, Int.add_mul]
      omega
    have h6 : figK low first (i + j) + figK low first j - 10 = -1 := by
      rcases Int.lt_trichotomy (figK low first (i + j) + figK low first j - 10) (-1) with h | h | h
      · have : (figK low first (i + j) + figK low first j - 10) * low ≤ -2 * low := Int.mul_le_mul_of_nonneg_right (by omega) (by omega)
        omega
      · exact h
      · have : 0 * low ≤ (figK low first (i + j) + figK low first j - 10) * low := Int.mul_le_mul_of_nonneg_right (by omega) (by omega)
        omega
    rw [h6] at h5
    omega
theorem fig_flip (hl : low ∈ lows) (h1 : 1 ≤ first) (hlt : first < low) (per : PerN low first n) {i : Nat} (hi : remK low first i = low - first) (j : Nat) : figK low first (i + j) = 9 - figK low first j := by
  have h3 := rem_step low first (i + j)
  have h4 := rem_step low first j
  have h5 := rem_flip hl h1 hlt per hi j
  have h6 := rem_flip hl h1 hlt per hi (j + 1)
  rw [← Nat.add_assoc] at h6
  rw [h5, h6] at h3
  have h7 : (figK low first (i + j) + figK low first j - 9) * low = 0 := by
    rw [Int.sub_mul, Int.add_mul]
    omega
  have := (lows_bounds hl).1
  rcases Int.mul_eq_zero.mp h7 with h | h
  · omega
  · omega
theorem ten_pow (n : Nat) (h : 1 ≤ n) : (0 : Int) < 10 ^ n - 1 := by
  obtain ⟨m, rfl⟩ : ∃ m, n = m + 1 := ⟨n - 1, by omega⟩
  have : (0 : Int) < 10 ^ m := Int.pow_pos (by decide)
  rw [Int.pow_succ]
  omega
theorem comp_worth : ∀ (ds : List Int) (a b : Int), (ds.map fun d => 9 - d).foldl (fun a d => a * 10 + d) a + ds.foldl (fun a d => a * 10 + d) b = (a + b) * 10 ^ ds.length + (10 ^ ds.length - 1)
  | [], a, b => by simp
  | d :: ds, a, b => by
    show (ds.map fun d => 9 - d).foldl (fun a d => a * 10 + d) (a * 10 + (9 - d)) + ds.foldl (fun a d => a * 10 + d) (b * 10 + d) = _
    rw [comp_worth ds, List.length_cons, Int.pow_succ]
    have e : a * 10 + (9 - d) + (b * 10 + d) = (a + b) * 10 + 9 := by omega
    rw [e, Int.add_mul, Int.mul_assoc, Int.mul_comm 10 (10 ^ ds.length)]
    omega
theorem window_worth (hl : low ∈ lows) (per : PerN low first n) (i : Nat) : worthOf ((List.range n).map fun j => figK low first (i + j)) * low = remK low first i * (10 ^ n - 1) := by
  rw [worth_part hl, worth_mul hl, Nat.add_comm i n, remK_period per, Int.mul_sub]
  omega
theorem list_window {gs : List Int} (hn : gs.length = n) {i : Nat} (h : ∀ j, j < n → gs[j]? = some (figK low first (i + j))) : gs = (List.range n).map fun j => figK low first (i + j) := by
  apply List.ext_getElem?
  intro j
  by_cases hj : j < n
  · rw [h j hj]; simp [hj]
  · rw [List.getElem?_eq_none (by omega)]; simp [hj]
/-- nine less each figure stands in the lap laid twice just if the halves come together to nines -/
theorem turned_law (hl : low ∈ lows) (h1 : 1 ≤ first) (hlt : first < low) (per : PerN low first n) :
    decide (0 ≤ Txt.find (digS (figsN low first n) ++ digS (figsN low first n)) (digS (turnD (figsN low first n)))) = ninesAt low first n n := by
  unfold ninesAt
  refine decide_eq_decide.mpr ?_
  have hge := per.pos
  have hlb := (lows_bounds hl).1
  rw [window_iff hl per (turned_digs (digs_figs hl)) (by rw [turnD_length, figsN_length])]
  have hz := remK_zero h1 hlt
  constructor
  · rintro ⟨i, hi, h⟩
    have hg := list_window (by rw [turnD_length, figsN_length]) h
    have hw := window_worth hl per i
    rw [← hg] at hw
    have hw0 := window_worth hl per 0
    rw [hz] at hw0
    have hc := comp_worth (figsN low first n) 0 0
    have e0 : (List.range n).map (fun j => figK low first (0 + j)) = figsN low first n := by simp [figsN]
    rw [e0] at hw0
    have hc2 : worthOf (turnD (figsN low first n)) + worthOf (figsN low first n) = 10 ^ n - 1 := by
      have : (figsN low first n).length = n := figsN_length low first n
      rw [this] at hc
      simpa [worthOf, turnD] using hc
    have ht := ten_pow n hge
    have hr : (remK low first i + first - low) * (10 ^ n - 1) = 0 := by
      rw [Int.sub_mul, Int.add_mul, ← hw, ← hw0, ← Int.add_mul, hc2, Int.mul_comm low]
      omega
    have hr2 : remK low first i = low - first := by
      rcases Int.mul_eq_zero.mp hr with h | h
      · omega
      · omega
    have hodd := lows_odd hl
    have h2i : remK low first (i + i) = first := by
      rw [rem_flip hl h1 hlt per hr2 i, hr2]
      omega
    have hi0 : i ≠ 0 := by
      rintro rfl
      rw [hz] at hr2
      omega
    have hin : i ≠ n := by
      intro e
      subst e
      rw [per.back] at hr2
      omega
    have h2n : i + i = n := by
      rcases Nat.lt_trichotomy (i + i) n with h | h | h
      · exact absurd h2i (per.none _ (by omega) (by omega))
      · exact h
      · exfalso
        obtain ⟨d, hd⟩ : ∃ d, i + i = n + d := ⟨i + i - n, by omega⟩
        rw [hd, remK_period per] at h2i
        exact per.none d (by omega) (by omega) h2i
    have hhalf : n / 2 = i := by omega
    rw [hhalf]
    refine ⟨by omega, by omega, ?_⟩
    have hs := partSum_whole hl h1 hlt per (w := i) (m := 2) (by omega)
    have e2 : restSum low first i 2 = low := by
      show 0 + remK low first (0 * i) + remK low first (1 * i) = low
      rw [Nat.zero_mul, Nat.one_mul, hz, hr2]
      omega
    rw [e2] at hs
    exact Int.eq_of_mul_eq_mul_right (by omega) hs
  · rintro ⟨h2, _, h3⟩
    refine ⟨n / 2, by omega, fun j hj => ?_⟩
    have hs := partSum_whole hl h1 hlt per (w := n / 2) (m := 2) (by omega)
    rw [h3] at hs
    have ht := ten_pow (n / 2) (by omega)
    have e2 : restSum low first (n / 2) 2 = low := (Int.eq_of_mul_eq_mul_left (by omega) hs).symm
    have e3 : restSum low first (n / 2) 2 = first + remK low first (n / 2) := by
      show 0 + remK low first (0 * (n / 2)) + remK low first (1 * (n / 2)) = _
      rw [Nat.zero_mul, Nat.one_mul, hz]
      omega
    rw [fig_flip hl h1 hlt per (by omega) j]
    simp [turnD, figsN, hj]
/-- the second lap stands in the first one laid twice, and is as long, just if its upper number is one of the first one's rests -/
theorem second_law {n2 : Nat} (hl : low ∈ lows) (h1 : 1 ≤ first) (hlt : first < low) (h2 : 1 ≤ other) (hlt2 : other < low) (per : PerN low first n) (per2 : PerN low other n2) :
    (0 ≤ Txt.find (digS (figsN low first n) ++ digS (figsN low first n)) (digS (figsN low other n2)) ∧ n2 = n) ↔ other ∈ (List.range n).map (remK low first) := by
  have hge := per.pos
  have hge2 := per2.pos
  constructor
  · rintro ⟨hf, rfl⟩
    rw [window_iff hl per (digs_figs hl) (figsN_length low other n2)] at hf
    obtain ⟨i, hi, h⟩ := hf
    have hg := list_window (figsN_length low other n2) h
    have hw := window_worth hl per i
    rw [← hg] at hw
    have hw0 := window_worth hl per2 0
    have e0 : (List.range n2).map (fun j => figK low other (0 + j)) = figsN low other n2 := by simp [figsN]
    rw [e0, remK_zero h2 hlt2, hw] at hw0
    have ht := ten_pow n2 hge
    have he : remK low first i = other := Int.eq_of_mul_eq_mul_right (by omega) hw0
    by_cases hin : i = n2
    · refine List.mem_map.mpr ⟨0, List.mem_range.mpr (by omega), ?_⟩
      rw [← he, hin, remK_zero h1 hlt, per.back]
    · exact List.mem_map.mpr ⟨i, List.mem_range.mpr (by omega), he⟩
  · intro hm
    obtain ⟨i, hi, he⟩ := List.mem_map.mp hm
    have hin := List.mem_range.mp hi
    have hr : ∀ j, remK low other j = remK low first (i + j) := by
      intro j
      rw [remK_add, he]
      rfl
    have hn : n2 = n := by
      rcases Nat.lt_trichotomy n2 n with h | h | h
      · exfalso
        have hb := per2.back
        rw [hr n2, ← he] at hb
        have h5 : remK low first (i + n2 + (n - i)) = remK low first (i + (n - i)) := by rw [remK_add, hb, ← remK_add]
        have e1 : i + n2 + (n - i) = n + n2 := by omega
        have e2 : i + (n - i) = n := by omega
        rw [e1, e2, remK_period per, per.back] at h5
        exact per.none n2 hge2 (by omega) h5
      · exact h
      · exfalso
        refine per2.none n hge (by omega) ?_
        rw [hr n, Nat.add_comm, remK_period per, he]
    subst hn
    refine ⟨?_, rfl⟩
    rw [window_iff hl per (digs_figs hl) (figsN_length low other n2)]
    refine ⟨i, by omega, fun j hj => ?_⟩
    have hf : figK low other j = figK low first (i + j) := by
      show remK low other j * 10 / low = remK low first (i + j) * 10 / low
      rw [hr j]
    simp [figsN, hj, hf]
end
end Mine
end

/-! MMat -/
section
open PySem PySem.W PyProof.Rows PySem.Calls PySem.Spec
set_option Elab.async false
namespace Mine
section
variable {w : World} {mean : ExcName → Option Value} {mg mb : Str → Option Value} {news : List (Addr × Obj)} {low first other : Int} {n n2 : Nat} {gs : List Int} {t1 t2 : Tok}
    {cn : Str} {cs : Scope} {a : Addr} {ccd : Value} {cl : List (Str × Addr)} {outer : List Env} {A₀ : Around} {base h₀ : Heap} {L : Addr} {m : Str → Option Value} {s : Shared} {Q E : Value → Shared → Prop}
theorem match_digs (hl : low ∈ lows) (per : PerN low first n) (hg : Digs gs) (hg1 : 1 ≤ gs.length) (hg2 : gs.length ≤ 41)
    (B : Below A₀ base outer h₀) (F : Fr h₀ L s.heap m) (X : (hd.heap_39 w.params).In h₀) (N : News h₀ L s.heap news) (T : Top hd.view_39 (looseW hd.view_39 []) mean mg mb h₀) (hk : cs.kind = .function)
    (ret : ∀ h' tk', Fr h₀ L h' m → News h₀ L h' news → Q (.bool (decide (0 ≤ Txt.find (digS (figsN low first n) ++ digS (figsN low first n)) (digS gs)))) { s with heap := h', toks := tk' }) :
    wpAny (model Challenge.rw_wu0028_01.row.prog w) (ktrTop (1 + claimMargin + 1) 7 (some []) cn cs L a ccd cl outer) (call (.ref 65) [.str (Str.ofString "..." ++ digS gs ++ Str.ofString "...") t1, .str (digS (figsN low first n) ++ digS (figsN low first n)) t2]) Q E s := by
  have hx : (digS gs).length = gs.length := digS_length gs
  have hle := per.le
  exact match_call (want := wantS (digS gs)) (x := digS gs) (by rw [want_len]; omega) (by rw [Str.length_append, per.text_len]; omega) (by omega) (want_first _ (dig_free hg) (by omega)) (find_room _ _) (want_split _ (dig_free hg) (by omega) (want_kind hg)) B F X N T hk ret
theorem match_turned (hl : low ∈ lows) (h1 : 1 ≤ first) (hlt : first < low) (per : PerN low first n)
    (B : Below A₀ base outer h₀) (F : Fr h₀ L s.heap m) (X : (hd.heap_39 w.params).In h₀) (N : News h₀ L s.heap news) (T : Top hd.view_39 (looseW hd.view_39 []) mean mg mb h₀) (hk : cs.kind = .function)
    (ret : ∀ h' tk', Fr h₀ L h' m → News h₀ L h' news → Q (.bool (ninesAt low first n n)) { s with heap := h', toks := tk' }) :
    wpAny (model Challenge.rw_wu0028_01.row.prog w) (ktrTop (1 + claimMargin + 1) 7 (some []) cn cs L a ccd cl outer) (call (.ref 65) [.str (Str.ofString "..." ++ digS (turnD (figsN low first n)) ++ Str.ofString "...") t1, .str (digS (figsN low first n) ++ digS (figsN low first n)) t2]) Q E s := by
  have e : (turnD (figsN low first n)).length = n := by rw [turnD_length, figsN_length]
  refine match_digs hl per (turned_digs (digs_figs hl)) (by rw [e]; exact per.pos) (by rw [e]; exact per.le) B F X N T hk ?_
  rw [turned_law hl h1 hlt per]
  exact ret
theorem match_second (hl : low ∈ lows) (h1 : 1 ≤ first) (hlt : first < low) (h2 : 1 ≤ other) (hlt2 : other < low) (per : PerN low first n) (per2 : PerN low other n2)
    (B : Below A₀ base outer h₀) (F : Fr h₀ L s.heap m) (X : (hd.heap_39 w.params).In h₀) (N : News h₀ L s.heap news) (T : Top hd.view_39 (looseW hd.view_39 []) mean mg mb h₀) (hk : cs.kind = .function)
    (ret : ∀ (b : Bool) h' tk', ((b = true ∧ n2 = n) ↔ other ∈ (rangeKs 0 n).map (restF low first)) → Fr h₀ L h' m → News h₀ L h' news → Q (.bool b) { s with heap := h', toks := tk' }) :
    wpAny (model Challenge.rw_wu0028_01.row.prog w) (ktrTop (1 + claimMargin + 1) 7 (some []) cn cs L a ccd cl outer) (call (.ref 65) [.str (Str.ofString "..." ++ digS (figsN low other n2) ++ Str.ofString "...") t1, .str (digS (figsN low first n) ++ digS (figsN low first n)) t2]) Q E s := by
  have e : (figsN low other n2).length = n2 := figsN_length low other n2
  refine match_digs hl per (digs_figs hl) (by rw [e]; exact per2.pos) (by rw [e]; exact per2.le) B F X N T hk fun h' tk' F' N' => ret _ h' tk' ?_ F' N'
  have e3 : (rangeKs 0 n).map (restF low first) = (List.range n).map (remK low first) := restsN_eq low first n
  rw [decide_eq_true_eq, e3]
  exact second_law hl h1 hlt h2 hlt2 per per2
end
end Mine
end

/-! MFin -/
section
open PySem PySem.W PyProof.Rows PySem.Calls PySem.Spec
set_option Elab.async false
namespace Mine
theorem bool_ne_self {x y : Bool} (h : y = x) : (x != y) = false := by subst h; simp
end Mine
namespace Mine
theorem said_eq {low first other : Int} {n n2 : Nat} {b : Bool} (hb : b = true ∧ n2 = n ↔ other ∈ (rangeKs 0 n).map (restF low first)) (h : b = true) :
    ((((digS (figsN low other n2)).length : Int) == (n : Int)) == ((rangeKs 0 n).map (restF low first)).any fun x => x == other) = true := by
  rw [digS_length, figsN_length]
  subst h
  have e : (((rangeKs 0 n).map (restF low first)).any fun x => x == other) = decide (n2 = n) := by
    rw [Bool.eq_iff_iff, decide_eq_true_eq, List.any_eq_true]
    constructor
    · rintro ⟨x, hx, q⟩
      have q' : x = other := by simpa using q
      subst q'
      exact (hb.mpr hx).2
    · intro q
      exact ⟨other, hb.mp ⟨rfl, q⟩, by simp⟩
  rw [e]
  by_cases q : n2 = n
  · subst q; simp
  · have : ((n2 : Int) == (n : Int)) = false := by simp; omega
    rw [this, decide_eq_false q]
    rfl
theorem said_none {low first other : Int} {n n2 : Nat} {b : Bool} (hb : b = true ∧ n2 = n ↔ other ∈ (rangeKs 0 n).map (restF low first)) (h : b = false) :
    (b == ((rangeKs 0 n).map (restF low first)).any fun x => x == other) = true := by
  subst h
  have e : (((rangeKs 0 n).map (restF low first)).any fun x => x == other) = false := by
    rw [List.any_eq_false]
    intro x hx q
    have q' : x = other := by simpa using q
    subst q'
    exact absurd (hb.mpr hx).1 (by decide)
  rw [e]
  rfl
end Mine
end

/-! LAW -/
section
open PySem PySem.W PyProof.Rows PySem.Calls PySem.Spec
set_option Elab.async false
namespace Mine
local macro_rules | `(tactic| kst_facts1) => `(tactic| with_reducible exact IntsAre.nil)
local macro_rules | `(tactic| walk_at "call ref") => `(tactic| (k_here; (with_reducible show wpAny _ _ (call (Value.ref 149) _) _ _ _); k_dflt (refine' lap_call ?h3 ?h41 ?h1 ?hlt ?kB ?kF ?kX ?kN ?kT ?hk ?_); (case h3 => assumption); (case h41 => assumption); (case h1 => assumption); (case hlt => assumption); (case kB => k_asm); (case kF => k_asm); (case kX => k_asm); (case kN => k_asm); (case kT => k_asm); (case hk => exact rfl); intro l9 vs9 nn9 ns9 h9 tk9 F9 N9 hl9 hi9 hp9; k_lt hl9; (have hq9 := lap_per (by assumption) (by assumption) (by assumption) hp9); clear hp9; (obtain ⟨n9, per9, hns9⟩ := hq9); subst hns9; (have hn9 := PerN.len per9); (have hle9 := per9.le); (have hge9 := per9.pos); (have hdg9 := PerN.digs per9 (by assumption))))
local macro_rules | `(tactic| walk_at "CompSrc") => `(tactic| (k_here; (k_dflt (refine LCg.CompSrc.ledger (by rfl) (by k_asm) (by k_asm) (by k_mem) (by size_fits) ?_)); intro g9; (first | (with_reducible show LCg.CompRest _ _ _ _ _ _ _ (Expr.Call _ [Expr.Name _ _] _ _) _ _ _ _ _ _ _ _ _ _ _; (first | (refine' each_list (StrEl figS) ?hi ?turn ?fin; (case' fin => (intro ys9 hys9; (have hst9 := Each.strs hys9)))) | (apply each_list (StrEl figS); (case' fin => (intro ys9 hys9; (have hst9 := Each.strs hys9)))))) | ((apply each_list turnEl); (case' fin => (intro ys9 hys9; (have hst9 := turned_strs (Each.strs hys9)))))); (case hi => assumption); (case' turn => (intro k9 t9 I9 oI9 C9 oC9 D9 m9 ys9 h9 tk9 E9 hk9 hC9 hx9 F9 N9 off9 ne9; (have hb9 := figsN_mem (by assumption) hk9); (simp only [LCg.Off3, and_true] at off9); (try k_fold)))))
local macro_rules | `(tactic| walk_at "CompEnd") => `(tactic| ((refine' LCg.CompEnd.intro ?F ?N _ ?sub ?off ?S ⟨rfl, _, rfl⟩); (case F => assumption); (case N => assumption); (case sub => kcf_all); (case off => (simp only [LCg.Off3, and_true]; assumption)); (case S => lcg_src)))
local macro_rules | `(tactic| walk_at "call builtin:str.join") => `(tactic| (k_here; (rename StrsAre _ (List.map figS _) => st9); (rename PerN _ _ _ => per9); (k_dflt (refine join_figs ?hd (News.isList (by k_asm) (by k_mem)) st9 ?hl ?_)); (case hd => first | assumption | exact turned_digs (by assumption)); (case hl => first | omega | (rw [turnD_length]; omega)); intro t9 tk9; (have htx9 := PerN.text_len per9); (have htx8 := turn_len per9)))
local macro_rules | `(tactic| walk_at "SrcA") => `(tactic| (k_here; (rename IsRange _ _ _ _ _ _ _ _ => rg9); (rename PerN _ _ _ => per9); (k_dflt (refine' SrcA.intro ?hh ?F ?N rg9 ?sm ?rs ?sz ?turn ?fin)); (case hh => rfl); (case F => k_asm); (case N => k_asm); (case sm => exact small_one (by omega) (by omega) (by omega) (by omega)); (case rs => exact range_len per9); (case sz => (rw [PySem.sizeLine_eq]; omega)); (case' turn => (intro i9 hi9 t9 I9 oI9 C9 oC9 D9 m9 ys9 h9 tk9 E9 htk9 hC9 hx9 F9 N9 off9 ne9; (simp only [LCg.Off3, and_true] at off9); (try k_fold))); (case' fin => (intro ys9 D9 h9 tk9 hys9 htk9 F9 N9 o9; (have htl9 := Each.tokList hys9); (have hin9 := Each.ints hys9); (simp only [LCg.Off1, and_true] at o9); (try k_fold)))))
local macro_rules | `(tactic| walk_at "call ref") => `(tactic| (k_here; (with_reducible show wpAny _ _ (call (Value.ref 100) _) _ _ _); (rename TokList _ _ _ => tl9); (rename PerN _ _ _ => per9); (rename News _ _ _ _ => nw9);  k_dflt (refine' count_call ?hl tl9 ?hb1 ?hb2 ?hsm ?kB ?kF ?kX ?kN ?kT ?hk ?_);  (case hl => exact lst_isList nw9 (List.Mem.head _)); (case hb1 => assumption); (case hb2 => exact Nat.lt_succ_self _); (case hsm => exact small_first (by assumption) (by assumption) (by assumption)); (case kB => k_asm); (case kF => k_asm); (case kX => k_asm); (case kN => k_asm); (case kT => k_asm); (case hk => exact rfl); (have hc9 := count_one per9 (by assumption) (by assumption)); (simp only [restsN] at hc9); intro t9 h9 tk9 F9 N9; (rw [hc9])))
local macro_rules | `(tactic| walk_at "TokEl") => `(tactic| ((rename (@LE.le Nat _ (_ + 1) _) => htk9); (k_dflt (refine tokEl_of htk9 ?h (rest_eq (by assumption) _))); (case h => ((try dsimp only); omega))))
local macro_rules | `(tactic| walk_at "exec For Name Call cons nil") => `(tactic| (k_here; (rename Fr _ _ _ _ => lF'); (with_unfolding_all refine' For_invVF lF' ?k1 ?k2 ?_; (case k1 => exact rfl); (case k2 => exact rfl); k_whole)))
local macro_rules | `(tactic| walk_at "pyIter ref") => `(tactic| (k_here; (with_reducible show wpAny _ _ (pyIter (Value.ref _)) (fun it s₂ => LoopAtV _ _ _ _ _ (Str.ofString "wide") _ _ _ it s₂) _ _); (rename Fr _ _ _ _ => F9); (rename News _ _ _ _ => N9); (rename IsRange _ _ _ _ _ _ _ _ => rg9); (rename PerN _ _ _ => per9); (with_unfolding_all refine' wide_loop (by rfl) per9 F9 N9 rg9 ?hh ?hk ?turn ?done); (case hh => rfl); (case hk => rfl); (case' turn => (intro c9 pre9 w9 t9 u9 h9 tk9 own9 hw9 hwn9 off9 hp9 F9' N9'; clear F9 N9; (try k_fold))); (case' done => (intro c9 u9 h9 tk9 hp9 F9' N9'; clear F9 N9; (try k_fold)))))
local macro_rules | `(tactic| walk_at "InvEndN") => `(tactic| (k_here; (with_reducible show InvEndN _ _ (KstS _ _ _ (Str.ofString "start") _ _ _ _) _ _ _ _); (rename (_ = partSum _ _ _ _) => hp9); (rename (_ = List.length _ * _) => ha9); k_dflt (refine' start_end ?hL ?hl ?F ?N ?hn ?ho hp9 ha9 ?hc ?h1 ?h2); (case hl => first | assumption); (case F => first | k_asm); (case N => first | k_asm); (case hL => with_unfolding_all exact rfl); (case hn => first | kst_inAny);  (case ho => first | kst_inAny); (case h1 => first | (with_unfolding_all exact rfl)); (case hc => first | (with_unfolding_all exact rfl)); (case h2 => (intro z9 z1 z2 z3; (have z4 := off3 z3); (simp only [kstB, if_neg z1, if_neg z2, z3, if_neg z4.1, if_neg z4.2.1, if_neg z4.2.2, Bool.false_eq_true, if_false]); (first | done)))))
local macro_rules | `(tactic| walk_at "InvEndN") => `(tactic| (k_here; (with_reducible show InvEndN _ _ (KstS _ _ _ (Str.ofString "wide") _ _ _ _) _ _ _ _); k_dflt (refine' wide_end ?hL ?F ?N ?hn ?ho ?hc ?h1 ?h2); (case F => first | (k_asm)); (case N => first | (k_asm)); (case hL => first | (with_unfolding_all exact rfl)); (case hn => first | (kst_inAny));  (case ho => first | (kst_inAny)); (case h1 => first | (with_unfolding_all exact rfl)); (case hc => first | (rename (_ = List.length _ + 1) => hw9; first | (rename (_ = ninesAt _ _ _ _) => hp9; rename (Int.fmod _ _ ≠ 0) => hf9; rw [hp9]; exact (ninesAt_skip (fmod_none hf9 hw9)).symm) | (rename (_ = ninesAt _ _ _ _) => hp9; exact skip_state hp9 hw9 (by omega)) | (rename (_ = partSum _ _ _ _) => hp9; rename (@Eq Nat (_ * _) _) => hm9; first | exact half_state hp9 hm9 hw9 (by omega) | exact half_state' hp9 hm9 hw9 (by omega)))); (case h2 => (intro z9 z1 z2 z3; (have z4 := off5 z3); (have z5 := off5_3 z3); (simp only [kstB, z5, if_neg z1, if_neg z2, z3, if_neg z4.1, if_neg z4.2.1, if_neg z4.2.2.1, if_neg z4.2.2.2.1, if_neg z4.2.2.2.2, Bool.false_eq_true, if_false]); (first | done)))))
local macro_rules | `(tactic| walk_at "call builtin:sum cons nil") => `(tactic| (k_here; (rename PerN _ _ _ => per9); (rename (_ * _ = _) => hm9); (rename IntsAre _ (List.map (restF _ _) _) => hi9); (rename News _ _ _ _ => nw9); (rename Fr _ _ _ _ => fr9); k_dflt (refine' sum_step per9 hi9 hm9 ?hk ?hh ?F ?N ?hmem ?h); (case hk => omega); (case hh => rfl); (case F => exact fr9); (case N => exact nw9); (case hmem => k_dflt (exact List.Mem.head _)); (case' h => (intro h9 tk9 t9 F9 N9; (obtain ⟨b9, b9'⟩ := restSum_small (by assumption) per9 hm9 (by omega))))))
local macro_rules | `(tactic| walk_at $s:str) => `(tactic| k_extra $s)
set_option maxRecDepth 100000 in
set_option maxHeartbeats 8000000 in
theorem law_rest {w : World} {mean : ExcName → Option Value} {mg mb : Str → Option Value} {low first other : Int} {c : Nat} (hlow : low ∈ lows) (h1 : 1 ≤ first) (hlt : first < low) (ho1 : 1 ≤ other) (holt : other < low) (hc : c ∈ marks)
    {tl tf to tm : Tok} {oA oB : Obj} {L fa : Addr} {ccd : Value} {base : Heap} {m₀ : Str → Option Value} {s : Shared} {Q : Flow → Shared → Prop}
    (htf : @LE.le Nat _ 1 tf) (htok : TokUp (tf + 1) s) (hA : oA.data = .cell (some (.int first tf))) (hB : oB.data = .cell (some (.int low tl)))
    (B : Below callerA base [] base) (X : (hd.heap_39 w.params).In base) (T : Top hd.view_39 (looseW hd.view_39 []) mean mg mb base)
    (F : Fr base L s.heap (fun y => if y = Str.ofString "mark" then some (.str ⟨#[c]⟩ tm) else if y = Str.ofString "other" then some (.int other to) else m₀ y))
    (N : News base L s.heap [(L + 1 + 1, oA), (L + 1, oB)])
    (ret : ∀ m' news' h' tk', Fr base L h' m' → News base L h' news' → Q (.ret (.bool true)) { s with heap := h', toks := tk' }) :
    wpAny (model Challenge.rw_wu0028_01.row.prog w) (callerA.deeper (envOfC (Str.ofString "law") lawScope L fa ccd)) (execs lawRest (envOfC (Str.ofString "law") lawScope L fa ccd)) Q (fun _ _ => False) s := by
  revert X; k_fill; intro X
  w_on
  w_top on
  generalize hsc : lawScope = sc
  conv at hsc => lhs; whnf; zeta
  generalize hbd : lawRest = bd
  conv at hbd => lhs; whnf
  subst hsc hbd
  have hl3 : 3 ≤ low := (lows_bounds hlow).1
  have hl41 : low ≤ 41 := (lows_bounds hlow).2
  k_with_none
  (k_with "exec Assign" => ((with_reducible rename TokUp _ _ => up9); refine with_up up9 ?_; clear up9; refine wpAny_Assign_Name ?_))
  (k_with "execs cons" => ((with_reducible rename TokUp _ _ => up9); (refine gen_toks up9 ?_); clear up9; intro tk9 up9; (refine wpAny_execs_cons ?_); (try dsimp only)))
  (k_with "eval ListComp" => ((with_reducible show wpAny _ _ (eval (Expr.ListComp (Expr.Call (Expr.Name (Str.ofString "str") _) _ _ _) _ _ _) _) _ _ _); (k_dflt (refine LCg.ListComp_U (F₀ := by k_asm) (by with_unfolding_all rfl) (by decide) (by rfl) (by decide) (by rfl) ?_))))
  (k_with "exec Assign cons ListComp" => ((with_reducible show wpAny _ _ (exec (Stmt.Assign _ (Expr.ListComp (Expr.BinOp _ _ _ _) _ _ _) _) _) _ _ _); (with_reducible rename TokUp _ _ => up9); (rename PerN _ _ _ => per9); (k_dflt (refine assign_rests per9 (by k_asm) (by rfl) (by with_unfolding_all rfl) (by with_unfolding_all rfl) (by decide) (by rfl) (by decide) (by rfl) (by rfl) (by rfl) up9 ?_ (by intro _; rfl)))))
  (k_with "call builtin:len" => (k_here; (with_reducible show wpAny _ _ (call (Value.builtin "len") [Value.ref _]) _ _ _); (rename IntsAre _ (figsN _ _ _) => hi9); (rename PerN _ _ _ => per9); (k_dflt (refine len_lap per9 (News.isList (by k_asm) (by k_mem)) hi9 ?_))))
  (k_with "pyIter ref" => (k_here; (with_reducible show wpAny _ _ (pyIter (Value.ref _)) (fun it s₂ => LoopAtV _ _ _ _ _ (Str.ofString "start") _ _ _ it s₂) _ _); (rename Fr _ _ _ _ => F9); (rename News _ _ _ _ => N9); (rename IsRange _ _ _ _ _ _ _ _ => rg9); (rename PerN _ _ _ => per9); (rename (Int.fmod _ _ = 0) => hf9); (obtain ⟨m9, hm9⟩ := fmod_parts hf9); (apply start_loop); (case hLe => rfl); (case per => exact per9); (case hm => exact hm9); (case F => exact F9); (case N => exact N9); (case hr => exact rg9); (case hk1 => omega); (case hh => rfl); (case hk => exact ⟨_, rfl⟩); (case' turn => (intro c9 tc9 pre9 a9 t9 u9 h9 tk9 own9 ha9 hlt9 off9 hp9 F9' N9'; clear F9 N9; (try k_fold))); (case' done => (intro c9 tc9 u9 h9 tk9 hp9 F9' N9'; clear F9 N9; (try k_fold)))))
  (k_with "binaryOp Mult int str" => (k_here; (first | (with_reducible refine three_bars ?_) | (k_dflt (refine three_marks ?_))); intro t9 tk9))
  (k_with "call ref" => (k_here; (with_reducible show wpAny _ _ (call (Value.ref 163) _) _ _ _); (rename PerN _ _ _ => per9); (rename (_ * _ = _) => hm9); (rename (_ = List.length _ * _) => ha9); (rename (List.length _ < _) => hlt9); k_dflt (apply heard_part); (case hc => assumption); (case hl => assumption); (case per => exact per9); (case hm => exact hm9); (case ha => exact ha9); (case hlt => exact hlt9); (case hk1 => omega); (case B => k_asm);  (case F => k_asm); (case X => k_asm); (case N => k_asm); (case T => k_asm); (case hk => exact rfl); (case' retBad => (intro hc9 t9 h9 tk9 F9 N9)); (case' retNum => (intro hc9 l9 t9 u9 h9 tk9 F9 N9 hl9))))
  (k_with "ite" => (k_here; (with_reducible rename List.isEmpty _ = _ => hc9); (first | (with_reducible refine if_pos_of hc9 ?_) | (with_reducible refine if_neg_of hc9 ?_)); clear hc9))
  (k_with "subscriptTail Name Name ref int" => (k_here; (rename PerN _ _ _ => per9); (rename (_ * _ = _) => hm9); (rename (_ = List.length _ * _) => ha9); (rename (List.length _ < _) => hlt9); (rename TokList _ _ _ => tl9); (rename IntsAre _ (List.map (restF _ _) _) => hi9); (rename News _ _ _ _ => nw9); k_dflt (apply rests_item); (case hlow => assumption); (case per => exact per9); (case hm => exact hm9); (case ha => exact ha9); (case hlt => exact hlt9); (case hk1 => omega); (case hi => exact hi9); (case hl => k_dflt (exact lst_isList nw9 (by first | exact List.Mem.head _ | exact List.Mem.tail _ (List.Mem.head _) | exact List.Mem.tail _ (List.Mem.tail _ (List.Mem.head _))))); (case hs => (with_unfolding_all rfl)); (case hg => (intro _; with_unfolding_all rfl)); (case' h => (intro t9 hr9 hs9))))
  (k_with "ite" => (k_here; (with_reducible refine if_neg_of (str_ne_self _) ?_)))
  (k_with "call ref" => (k_here; (with_reducible show wpAny _ _ (call (Value.ref 163) [Value.str (_ ++ _ ++ _ ++ Str.ofString "|" ++ _) _]) _ _ _); (rename PerN _ _ _ => per9); (rename (_ * _ = _) => hm9); (rename (_ = List.length _ * _) => ha9); (rename (List.length _ < _) => hlt9); k_dflt (apply heard_bar); (case hl => assumption); (case per => exact per9); (case hm => exact hm9); (case ha => exact ha9); (case hlt => exact hlt9); (case hk1 => omega); (case B => k_asm);  (case F => k_asm); (case X => k_asm); (case N => k_asm); (case T => k_asm); (case hk => exact rfl); (case' retNum => (intro l9 t9 u9 h9 tk9 F9 N9 hl9))))
  (k_with "ite" => (k_here; (fail_if_success (with_reducible show ite ((@bne Str _ _ _) = true) _ _)); (first | (with_reducible refine if_neg_of (int_ne_self _) ?_) | (with_reducible refine if_pos_of (int_beq_self _) ?_) | (with_reducible refine if_pos_of (int_dec_self _) ?_))))
  (k_with "ite" => (k_here; (with_reducible show ite ((@HMul.hMul Int Int Int _ _ _ != _) = true) _ _); (rename PerN _ _ _ => per9); (rename (_ * _ = _) => hm9); (rename (_ = partSum _ _ _ _) => hp9); (with_reducible refine if_neg_of (whole_ne (by assumption) (by assumption) (by assumption) per9 hm9 hp9) ?_)))
  (k_with "call ref" => (k_here; (with_reducible show wpAny _ _ (call (Value.ref 65) [Value.str (_ ++ digS (turnD _) ++ _) _, Value.str _ _]) _ _ _); (rename PerN _ _ _ => per9); k_dflt (apply match_turned); (case hl => assumption); (case h1 => assumption); (case hlt => assumption); (case per => exact per9); (case B => k_asm); (case F => k_asm); (case X => k_asm); (case N => k_asm); (case T => k_asm); (case hk => exact rfl); (case' ret => (intro h9 tk9 F9 N9))))
  (k_with "call ref" => (k_here; (with_reducible show wpAny _ _ (call (Value.ref 65) [Value.str (_ ++ digS (figsN _ _ _) ++ _) _, Value.str _ _]) _ _ _);  k_dflt (apply match_second); (case hl => assumption); (case h1 => assumption); (case hlt => assumption); (case h2 => assumption); (case hlt2 => assumption); (case per => assumption); (case per2 => assumption); (case B => k_asm); (case F => k_asm); (case X => k_asm); (case N => k_asm); (case T => k_asm); (case hk => exact rfl); (case' ret => (intro b9 h9 tk9 hb9 F9 N9))))
  (k_with "ite" => (k_here; (with_reducible show ite ((ninesAt _ _ _ _ != _) = true) _ _); (with_reducible rename (_ = ninesAt _ _ _ _) => hp9); (with_reducible refine if_neg_of (bool_ne_self hp9) ?_)))
  w_strict (k_steps)
  all_goals ((rename News _ _ _ _ => kN9); (rename Fr _ _ _ _ => kF9); (rename (_ ∧ _ ↔ _) => hb9); (rename (_ = (_ : Bool)) => hq9); first | (rw [said_eq hb9 hq9]; exact ret _ _ _ _ kF9 kN9) | (rw [said_none hb9 hq9]; exact ret _ _ _ _ kF9 kN9))
end Mine
end

/-! MTop -/
section
open PySem PySem.W PyProof.Rows PySem.Calls PySem.Spec
set_option Elab.async false
namespace Mine
/-- the first four numbers of the script, or those that fill up -/
theorem drawn_four (ns : List Int) : ∃ a b c d : Int, ns.take 4 ++ [0, 0, 3, 0].drop (((ns.take 4).length : Int)).toNat = [a, b, c, d] := by
  rcases ns with _ | ⟨a, _ | ⟨b, _ | ⟨c, _ | ⟨d, r⟩⟩⟩⟩
  · exact ⟨0, 0, 3, 0, rfl⟩
  · exact ⟨a, 0, 3, 0, rfl⟩
  · exact ⟨a, b, 3, 0, rfl⟩
  · exact ⟨a, b, c, 0, rfl⟩
  · exact ⟨a, b, c, d, by simp⟩
theorem ints_four {vs : List Value} {ns : List Int} (hi : IntsAre vs ns) (h : ∃ a b c d : Int, ns = [a, b, c, d]) : ∃ (a b c d : Int) (t1 t2 t3 t4 : Tok), vs = [.int a t1, .int b t2, .int c t3, .int d t4] := by
  obtain ⟨a, b, c, d, rfl⟩ := h
  rcases hi with _ | ⟨_, t1, hi⟩
  rcases hi with _ | ⟨_, t2, hi⟩
  rcases hi with _ | ⟨_, t3, hi⟩
  rcases hi with _ | ⟨_, t4, hi⟩
  cases hi
  exact ⟨a, b, c, d, t1, t2, t3, t4, rfl⟩
theorem lows_at {k : Nat} (h : k < 14) : lows.getD k 0 ∈ lows := by
  have : k < lows.length := h
  rw [List.getD_eq_getElem?_getD, List.getElem?_eq_getElem this]
  exact List.getElem_mem this
theorem marks_at {k : Nat} (h : k < 12) : marks.getD k 0 ∈ marks := by
  have : k < marks.length := h
  rw [List.getD_eq_getElem?_getD, List.getElem?_eq_getElem this]
  exact List.getElem_mem this
theorem mark_text {i : Int} (h0 : 0 ≤ i) (h1 : i < 12) : ∃ c ∈ marks, Txt.item (Str.ofString "|!0123456789") i = ⟨#[c]⟩ := by
  have : i = 0 ∨ i = 1 ∨ i = 2 ∨ i = 3 ∨ i = 4 ∨ i = 5 ∨ i = 6 ∨ i = 7 ∨ i = 8 ∨ i = 9 ∨ i = 10 ∨ i = 11 := by omega
  rcases this with rfl | rfl | rfl | rfl | rfl | rfl | rfl | rfl | rfl | rfl | rfl | rfl
  · exact ⟨124, by decide, by decide +kernel⟩
  · exact ⟨33, by decide, by decide +kernel⟩
  · exact ⟨48, by decide, by decide +kernel⟩
  · exact ⟨49, by decide, by decide +kernel⟩
  · exact ⟨50, by decide, by decide +kernel⟩
  · exact ⟨51, by decide, by decide +kernel⟩
  · exact ⟨52, by decide, by decide +kernel⟩
  · exact ⟨53, by decide, by decide +kernel⟩
  · exact ⟨54, by decide, by decide +kernel⟩
  · exact ⟨55, by decide, by decide +kernel⟩
  · exact ⟨56, by decide, by decide +kernel⟩
  · exact ⟨57, by decide, by decide +kernel⟩
section
variable {prog : Program} {w : World} {A : Around} {E : Value → Shared → Prop} {s : Shared}
/-- the lower number -/
theorem low_item {value slice : Expr} {l : Addr} {vs : List Value} {x : Int} {u : Tok} {Q : Value → Shared → Prop} (hl : s.heap.IsList l vs.toArray) (hi : IntsAre vs lows)
    (h : ∀ low t, low ∈ lows → 3 ≤ low → low ≤ 41 → Q (.int low t) s)
    (hs : subscripted slice false (.ref l) (.int (x.fmod 14) u) = operate [.ref l, .int (x.fmod 14) u] (getItem (.ref l) (.int (x.fmod 14) u))) :
    wpAny (model prog w) A (subscriptTail value slice (.ref l) (.int (x.fmod 14) u)) Q E s := by
  refine kba_turn (value' := Expr.Name (Str.ofString "_") ⟨0, 0, 0, 0⟩) (fun _ => rfl) ?_
  have e : x.fmod 14 = x % 14 := Int.fmod_eq_emod_of_nonneg _ (by decide)
  have h0 : 0 ≤ x % 14 := Int.emod_nonneg _ (by decide)
  have h1 : x % 14 < 14 := Int.emod_lt_of_pos _ (by decide)
  have hx := lows_at (k := (x.fmod 14).toNat) (by omega)
  have hb := lows_bounds hx
  refine item_list_ints hl hi (by omega) (by rw [e]; exact h1) (by omega) (fun t => h _ t hx hb.1 hb.2) hs (fun _ => rfl)
theorem mark_item {value slice : Expr} {x : Int} {t u : Tok} {Q : Value → Shared → Prop} (h : ∀ c ∈ marks, Q (.str ⟨#[c]⟩ s.toks) { s with toks := s.toks + 1 })
    (hs : subscripted slice false (.str (Str.ofString "|!0123456789") t) (.int (x.fmod 12) u) = operate [.str (Str.ofString "|!0123456789") t, .int (x.fmod 12) u] (getItem (.str (Str.ofString "|!0123456789") t) (.int (x.fmod 12) u)))
    (ht : ∀ r, letTemporaryGo value (.str (Str.ofString "|!0123456789") t) r = pure ()) :
    wpAny (model prog w) A (subscriptTail value slice (.str (Str.ofString "|!0123456789") t) (.int (x.fmod 12) u)) Q E s := by
  have e : x.fmod 12 = x % 12 := Int.fmod_eq_emod_of_nonneg _ (by decide)
  have h0 : 0 ≤ x % 12 := Int.emod_nonneg _ (by decide)
  have h1 : x % 12 < 12 := Int.emod_lt_of_pos _ (by decide)
  refine KXi.item (n := 12) (by decide +kernel) (by omega) (by rw [e]; exact h1) (by decide) (fun _ => ?_) hs ht
  obtain ⟨c, hc, q⟩ := mark_text (i := x.fmod 12) (by omega) (by omega)
  rw [q]
  exact h c hc
end
end Mine
namespace Mine
section
variable {prog : Program} {w : World} {A : Around} {E : Value → Shared → Prop} {s : Shared}
theorem drawn_item {value slice : Expr} {l : Addr} {vs : List Value} {ns : List Int} {k : Int} {u : Tok} {Q : Value → Shared → Prop} (hl : s.heap.IsList l vs.toArray) (hi : IntsAre vs (ns.take 4 ++ [0, 0, 3, 0].drop (((ns.take 4).length : Int)).toNat)) (h0 : 0 ≤ k) (h1 : k < 4)
    (h : ∀ x t, Q (.int x t) s)
    (hs : subscripted slice false (.ref l) (.int k u) = operate [.ref l, .int k u] (getItem (.ref l) (.int k u))) (hg : ∀ r, letTemporaryGo value (.ref l) r = pure ()) :
    wpAny (model prog w) A (subscriptTail value slice (.ref l) (.int k u)) Q E s := by
  obtain ⟨a, b, c, d, e⟩ := drawn_four ns
  refine item_list_ints hl hi h0 (by rw [e]; exact h1) (by omega) (fun t => h _ t) hs hg
end
theorem upper_bounds {low x : Int} (h3 : 3 ≤ low) : 1 ≤ 1 + x.fmod (low - 1) ∧ 1 + x.fmod (low - 1) < low := by
  rw [Int.fmod_eq_emod_of_nonneg _ (by omega)]
  have h0 : 0 ≤ x % (low - 1) := Int.emod_nonneg _ (by omega)
  have h1 : x % (low - 1) < low - 1 := Int.emod_lt_of_pos _ (by omega)
  omega
end Mine
namespace Mine
theorem ints_fill (t1 t2 t3 t4 : Tok) : IntsAre [.int 0 t1, .int 0 t2, .int 3 t3, .int 0 t4] [0, 0, 3, 0] := .cons _ _ (.cons _ _ (.cons _ _ (.cons _ _ .nil)))
theorem ints_lows (t1 t2 t3 t4 t5 t6 t7 t8 t9 ta tb tc td te : Tok) : IntsAre [.int 13 t1, .int 3 t2, .int 7 t3, .int 9 t4, .int 11 t5, .int 17 t6, .int 19 t7, .int 21 t8, .int 27 t9, .int 31 ta, .int 33 tb, .int 37 tc, .int 39 td, .int 41 te] lows :=
  .cons _ _ (.cons _ _ (.cons _ _ (.cons _ _ (.cons _ _ (.cons _ _ (.cons _ _ (.cons _ _ (.cons _ _ (.cons _ _ (.cons _ _ (.cons _ _ (.cons _ _ (.cons _ _ .nil)))))))))))))
end Mine
end

/-! MRest -/
section
open PySem PySem.W PyProof.Rows PySem.Calls PySem.Spec
set_option Elab.async false
namespace Mine
theorem law_rest_any {w : World} {mean : ExcName → Option Value} {mg mb : Str → Option Value} {low x y : Int} {c : Nat} (hlow : low ∈ lows) (hc : c ∈ marks)
    {tl tf to tm : Tok} {oA oB : Obj} {L fa : Addr} {ccd : Value} {base : Heap} {m m₀ : Str → Option Value} {news : List (Addr × Obj)} {s : Shared} {Q : Flow → Shared → Prop} {E : Value → Shared → Prop}
    (F : Fr base L s.heap m)
    (hm : m = fun z => if z = Str.ofString "mark" then some (.str ⟨#[c]⟩ tm) else if z = Str.ofString "other" then some (.int (1 + y.fmod (low - 1)) to) else m₀ z)
    (N : News base L s.heap news) (hA : oA.data = .cell (some (.int (1 + x.fmod (low - 1)) tf))) (hB : oB.data = .cell (some (.int low tl))) (hNA : (L + 1 + 1, oA) ∈ news) (hNB : (L + 1, oB) ∈ news)
    (htf : @LE.le Nat _ 1 tf) (htok : @LE.le Nat _ (tf + 1) s.toks)
    (B : Below callerA base [] base) (X : (hd.heap_39 w.params).In base) (T : Top hd.view_39 (looseW hd.view_39 []) mean mg mb base)
    (ret : ∀ m' news' h' tk', Fr base L h' m' → News base L h' news' → Q (.ret (.bool true)) { s with heap := h', toks := tk' }) :
    wpAny (model Challenge.rw_wu0028_01.row.prog w) (callerA.deeper (envOfC (Str.ofString "law") lawScope L fa ccd)) (execs lawRest (envOfC (Str.ofString "law") lawScope L fa ccd)) Q E s := by
  have h3 := (lows_bounds hlow).1
  have b1 := upper_bounds (x := x) h3
  have b2 := upper_bounds (x := y) h3
  subst hm
  refine wpAny_mono (law_rest hlow b1.1 b1.2 b2.1 b2.2 hc htf htok hA hB B X T F (fun p hp => ?_) ret) (fun _ _ q => q) fun _ _ f => f.elim
  rcases List.mem_cons.mp hp with rfl | hp
  · exact N _ hNA
  · rw [List.mem_singleton.mp hp]
    exact N _ hNB
end Mine
end

/-! TOP -/
section
open PySem PySem.W PyProof.Rows PySem.Calls PySem.Spec
set_option Elab.async false
namespace Mine

local macro_rules | `(tactic| walk_at $s:str) => `(tactic| k_extra $s)
set_option maxRecDepth 100000 in
set_option maxHeartbeats 8000000 in
theorem law_holds : PySem.Challenge.rw_wu0028_01.Holds := hd (by
  k_with_none
  (k_with "subscriptTail List cons Slice ref ref" => (k_dflt (refine kba_turn (value' := Expr.Name (Str.ofString "_") ⟨0, 0, 0, 0⟩) (fun _ => rfl) ?_)))
  (k_with "subscriptTail Name Slice ref ref" => (k_here; (with_reducible show wpAny _ _ (subscriptTail _ (Expr.Slice _ _ none _) (Value.ref _) (Value.ref _)) _ _ _); k_dflt (apply kmk_slice_ints); (case F => k_asm); (case N => k_asm); (case hl => k_dflt kmk_list); (case hi' => k_dflt (exact ints_fill _ _ _ _)); (case pl => k_dflt kmk_part); (case pu => k_dflt kmk_part); (case hm => k_dflt (exact kmk_from (ints_fill _ _ _ _) (Int.natCast_nonneg _))); (case hc => k_dflt kmk_len); (case hs => with_unfolding_all rfl); (case ht => kmk_pure); (case hz => k_dflt kmk_size); (case' h => (intro D9 ws9 h9 F9 N9 l9 hI9 hC9 hL9; (try k_lt l9)))))
  (k_with "subscriptTail Name Constant ref int" => (k_here; (rename IntsAre _ (_ ++ _) => hi9); k_dflt (apply drawn_item); (case hi => exact hi9); (case hl => k_dflt kmk_list); (case h0 => omega); (case h1 => omega); (case hs => with_unfolding_all rfl); (case hg => (intro _; with_unfolding_all rfl)); (case' h => (intro x9 t9))))
  (k_with "subscriptTail List cons BinOp ref int" => (k_here; k_dflt (apply low_item); (case hl => k_dflt kmk_list); (case hi => k_dflt (exact ints_lows _ _ _ _ _ _ _ _ _ _ _ _ _ _)); (case hs => with_unfolding_all rfl); (case' h => (intro low9 t9 hl9 h39 h419))))
  (k_with "subscriptTail Constant str BinOp str int" => (k_here; k_dflt (apply mark_item); (case hs => with_unfolding_all rfl); (case ht => (intro _; with_unfolding_all rfl)); (case' h => (intro c9 hc9))))
  (k_with "execs cons" => ((with_reducible show wpAny _ _ (execs (Stmt.Assign [Expr.Name (Str.ofString "lap") _] _ _ :: _) _) _ _ _); (rename Fr _ _ _ _ => fr9); (rename News _ _ _ _ => nw9); (k_dflt (have R9 := @law_rest_any)); (generalize hs9 : lawScope = sc9 at R9); (k_dflt (conv at hs9 => (lhs; whnf; zeta))); (generalize hb9 : lawRest = bd9 at R9); (k_dflt (conv at hb9 => (lhs; whnf))); subst hs9; subst hb9; (with_reducible apply R9); (case F => exact fr9); (case N => exact nw9); (case hm => k_dflt (exact rfl)); (case hlow => assumption); (case hc => assumption); (case X => assumption); (case B => assumption); (case T => assumption); (case hA => assumption); (case hB => assumption); (case hNA => k_dflt k_mem); (case hNB => k_dflt k_mem); (case htf => k_dflt (exact Nat.le_add_left _ _)); (case htok => (dsimp only; omega)); (case' ret => (intro m9 news9 h9 tk9 F9 N9; clear fr9 nw9 R9))))
  w_strict (k_go0; (all_goals try k_fold); k_steps; (all_goals (try k_data)); all_goals w_report))
end Mine
end

theorem PySem.Challenge.cw_wu0028_01_holds : PySem.Challenge.rw_wu0028_01.Holds := by
  exact Mine.law_holds
