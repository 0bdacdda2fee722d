import PyProof.Rows.All
import Wide.All
import OpenK.AllK
import Wide.FinOn
import PySem.Challenge.RW_mg0079_01
set_option Elab.async false

section THeadC
open PySem PySem.W PySem.Calls PyProof.Rows
set_option Elab.async false
set_option maxRecDepth 100000
set_option maxHeartbeats 8000000
namespace Mine

/-- the claim's own caller stands somewhere below -/
def HasC (Γ : Ctx) : Prop := (Γ.below.map (·.1)).any Code.isCaller = true
/-- a code's promise, where the claim's own caller stands below -/
def codeC (M : Model) (A : Around) (c : Code) (R : Result → Shared → Prop) (s : Shared) : Prop :=
  ∀ Γ p, Γ.code = c → Γ.Below A → HasC Γ → wpCode M Γ R p s

/-- ask first whether the claim's caller stands on the stack: if so t, else e -/
def asked {α : Type} (t e : Sem α) : Sem α := .stack fun l => if (l.map (·.1)).any Code.isCaller then t else e

/-- under every context: e where the caller is missing, t where it is known to stand -/
theorem wpAny_asked {α : Type} {M : Model} {A : Around} {t e : Sem α} {Q : α → Shared → Prop} {E : Value → Shared → Prop} {s : Shared}
    (he : wpAny M A e Q E s) (ht : ∀ Γ p, Γ.In A → (((Γ.code, p) :: Γ.below).map (·.1)).any Code.isCaller = true → Sem.wp M Γ t (fun a _ s' => Q a s') (fun e _ s' => E e s') p s) :
    wpAny M A (asked t e) Q E s := by
  intro Γ p hΓ
  unfold asked
  rw [Sem.wp_stack]
  by_cases h : (((Γ.code, p) :: Γ.below).map (·.1)).any Code.isCaller = true
  · rw [if_pos h]; exact ht Γ p hΓ h
  · rw [if_neg h]; exact he Γ p hΓ

/-- at the claim's caller the question costs one step and changes nothing -/
theorem sched_asked {den : Code → Sem Fin} {prog : Program} {w : World} {s s' : Shared} {t e : Sem Fin} {p : Pos} {o : Outcome} (hz : s.asleep) {n : Nat}
    (h : schedN den prog w n (.single s ⟨asked t e, .builtin "claim.caller" {}, p, []⟩) = .halted o s') :
    ∃ m, schedN den prog w m (.single s ⟨t, .builtin "claim.caller" {}, p, []⟩) = .halted o s' := by
  cases n with
  | zero => cases h
  | succ n =>
    have e1 : step den prog w s ⟨asked t e, .builtin "claim.caller" {}, p, []⟩ = .go s ⟨t, .builtin "claim.caller" {}, p, []⟩ := by cases s; rfl
    have e2 := (sstep_single den prog w s ⟨asked t e, .builtin "claim.caller" {}, p, []⟩ rfl hz).resolve_right (by rw [e1]; nofun)
    rw [e1] at e2
    refine ⟨n, ?_⟩
    rw [schedN, e2] at h
    exact h

/-- so a claim that holds of the asking stub holds of the stub itself -/
theorem unask {c : ClaimW} {t e : List Value → Sem Fin} {defs keeps : List Str} {writes : Bool}
    (H : c.HoldsOpenBy (fun vs => ⟨asked (t vs) (e vs), .builtin "claim.caller" {}, default, []⟩) defs keeps writes) :
    c.HoldsOpenBy (fun vs => ⟨t vs, .builtin "claim.caller" {}, default, []⟩) defs keeps writes := by
  refine ⟨H.1, H.2.1, fun w => ⟨(H.2.2 w).1, fun s hs => ?_⟩⟩
  obtain ⟨s₀, hf, h0, s₁, hT, hd, hr, hu, hC⟩ := (H.2.2 w).2 s hs
  have hz : s₁.asleep := Shared.asleep_of_life (hT.2.1.trans (fence_lifeW hf)) (AfterImport.life hs)
  refine ⟨s₀, hf, h0, s₁, hT, hd, hr, hu, fun args hp hl ord ho => ?_⟩
  obtain ⟨vs, s₂, hlay, n, o, s', hn, more⟩ := hC args hp hl ord ho
  obtain ⟨m, hm⟩ := sched_asked (Shared.asleep_of_life (layAllW_rest _ _ _ hlay).2.2.2 hz) hn
  exact ⟨vs, s₂, hlay, m, o, s', hm, more⟩

/-- what is to be walked: True is a right answer, and the call under the claim's caller keeps the claim -/
abbrev WalkC (q : Program) (loose : List Str) (XP : (Str → Option Value) → Heap → Prop) (YP : World → Heap → Prop) (r : RowW) : Prop :=
  ∀ (w : World) (s₀ s : Shared) (mg mb : Str → Option Value) (a : Addr) (args : List WData) (vs : List Value) (as : List Addr),
    Ground q loose r.records XP w s₀ mg mb s.heap → YP w s.heap → mg r.name = some (.ref a) → s.gens = #[] →
    r.claim.pre args = true → WData.layableAll args = true → ReadsAllW r.records (classAt s₀.heap) s.heap vs args as → WellAll w.params s.heap vs args → (∀ b ∈ as, (b == sysModules) = false) →
    GoodWG r.claim (classAt s₀.heap) (ExcName.means s₀.heap) args s (.ok (.ret (.bool true))) s ∧
    codeC (model r.prog w) callerA (.call (.ref a) ⟨vs, []⟩) (GoodWG r.claim (classAt s₀.heap) (ExcName.means s₀.heap) args s) s

end Mine

/-- An own head, over the library's `open_anyG`, for WalkC: there the claim's caller is known to stand below; the library's `holds_open` wants a walk under every caller.
It takes the same facts in the same places, and its full name is `Mine.PySem.W.holds_open`, so that `open_top`, run inside `namespace Mine`, finds it. -/
theorem Mine.PySem.W.holds_open {r : OpenRow} {q : Program} {loose : List Str} {Xt : Shared → Bool} {XP : (Str → Option Value) → Heap → Prop} {α : Type} {Yf : Shared → α} {Ya : World → α} {YP : World → Heap → Prop}
    {d : DefRec} {kwd : List (Str × Expr)} {N : Nat} (left : LeftO r.prog q loose Xt Yf Ya N)
    (hY : ∀ w s, Yf s = Ya w → YP w s.heap) (hY' : ∀ w h h', YP w h → (∀ b o, h.get? b = some o → h'.get? b = some o) → YP w h')
    (hX : ∀ s, Xt s = true → XP (s.heap.nsMap mainGlobals) s.heap) (hX' : ∀ mg h h', XP mg h → (∀ b o, h.get? b = some o → h'.get? b = some o) → XP mg h')
    (hd : defOf q r.name = some (d, kwd)) (hp : r.prog.theDef r.name = some (d.params, d.body, d.scope)) (hk : kwWritten? d.params.kwonlyargs d.params.kw_defaults = some kwd)
    (hR : ∀ s, Xt s = true → RecFacts r.records s.heap) (hW : (!r.writes || r.records.isEmpty) = true) (said : r.wellSaid = true)
    (ok : (chainsOk q && opensWell r.prog && (frees r.toRowW && r.within.isEmpty)) = true) (hb : r.prog.bare) (hw : r.toRowW.promised) (walk : WalkC q loose XP YP r.toRowW) : r.Holds := by
  refine ⟨said, hw, unask (e := fun _ => ret (.bool true)) (open_anyG (r := r.toRowW) (run := fun f vs => asked (PySem.call f vs) (pure (.bool true))) left hY hY' hX hX' hR hW ok hb hw ?_ ?_ ?_)⟩
  · intro vs w s mg f Q E hg hf h Γ p hΓ
    have h := h Γ p hΓ
    unfold asked at h ⊢
    rw [Sem.wp_stack] at h ⊢
    split
    · rename_i hc
      rw [if_pos hc] at h
      show Sem.wp _ _ (nsGet mainGlobals r.name >>= _) _ _ _ _
      rw [Sem.wp_bind', Sem.wp_nsGet _ _ _ _ _ hg, hf]
      dsimp only
      rw [Sem.wp_bind']
      exact h
    · rename_i hc
      rw [if_neg hc] at h
      exact h
  · intro w s hg G n hn
    split at hn
    · rw [List.mem_singleton.mp hn]; exact pinned_of_view hg G hd hp hk
    · cases hn
  · intro w s₀ s mg mb G Y args vs as hpre hlay L low
    obtain ⟨a, _, _, _, _, _, _, ha, _⟩ := G.fn hd
    obtain ⟨h1, h2⟩ := walk w s₀ s mg mb a args vs as G Y ha L.gens hpre hlay L.reads L.well (L.low low)
    refine ⟨.ref a, ha, wpAny_asked (wpAny_pure h1) fun Γ p hΓ hc => ?_⟩
    rw [Sem.wp_cmd_call]
    refine wpCode_mono (fun res s' g => ?_) (h2 _ _ rfl (Ctx.In.enter hΓ _ none _ (by simp)) hc)
    rcases g.1 with ⟨v, _, _, rfl, _⟩ | ⟨e, _, _, rfl, _⟩
    · exact g
    · exact g

end THeadC

section THd
open PySem PySem.W PyProof.Rows
set_option Elab.async false
set_option maxRecDepth 100000
set_option maxHeartbeats 8000000
namespace Mine
open_top hd for PySem.Challenge.rw_mg0079_01
end Mine

end THd

section TTop1
open PySem PySem.W PyProof.Rows
set_option Elab.async false
set_option maxRecDepth 100000
set_option maxHeartbeats 8000000
namespace Mine
open PySem PySem.W PySem.Calls PyProof.Rows

abbrev prog := PySem.Challenge.pw_mg0079_01
noncomputable abbrev KK (w : World) : Frag := hd.heap_39 w.params
noncomputable abbrev lz : List Str := looseW hd.view_39 [Str.ofString "_twin_re_1", Str.ofString "_ver_stages", Str.ofString "_norm_version"]
/-- what is known of the heap at the law's call -/
structure Base (w : World) (h : Heap) (mg mb : Str → Option Value) : Prop where
  K : (KK w).In h
  T : TopRead hd.view_39 lz mg mb h
  nolimit : h.NoLimit

def LawGoal : Prop := ∀ (w : World) (s₁ : Shared) (mg mb : Str → Option Value) (l : Addr) (vs : List Value) (ns : List Int),
  Base w s₁.heap mg mb → s₁.heap.IsList l vs.toArray → IntsAre vs ns → ns.length ≤ 63 → s₁.gens = #[] →
  codeC (model prog w) callerA (.call (.ref 87) ⟨[.ref l], []⟩) (fun r s' => r = .ok (.ret (.bool true)) ∧
    (∀ b o, s₁.heap.get? b = some o → s'.heap.get? b = some o) ∧ s'.os = s₁.os ∧ s'.gens = s₁.gens) s₁

theorem top_of (H : LawGoal) : PySem.Challenge.rw_mg0079_01.Holds := hd (by
  k_fill
  intro w s₀ s₁ mg mb fa args vals as G Y hmg hg hpre hlay hrd hwl hlo
  have KX := kIn_of Y
  refine Ground.open G ?_
  intro T B D TE TW
  have hfa : mg (Str.ofString "law") = some (.ref 87) := mg_of KX T.g (by kernel_rfl)
  have hfa' := hmg.symm.trans hfa
  injection hfa' with hfa'
  injection hfa' with hfa'
  subst hfa'
  clear D TE TW B hmg hfa
  have yes : ∀ s' : Shared, (∀ b o, s₁.heap.get? b = some o → s'.heap.get? b = some o) → s'.os = s₁.os → s'.gens = s₁.gens →
      GoodWG PySem.Challenge.rw_mg0079_01.row.toRowW.claim (classAt s₀.heap) (ExcName.means s₀.heap) args s₁ (.ok (.ret (.bool true))) s' := by
    intro s' hk ho hgg
    wrow_args hpre hlay hrd hwl hlo
    refine GoodW.toG ⟨.inl ⟨.bool true, .bool true, [], rfl, ?_, .bool true, ?_, ?_⟩, hk, ho, hgg.trans hg⟩
    · intro cls; rfl
    · exact postW_of (r := PySem.Challenge.rw_mg0079_01.row.toRowW) rfl (w_eq_bool (w_res rfl) w_lit) rfl
    · exact fun _ => ⟨List.nodup_nil, fun _ h => nomatch h⟩
  refine ⟨yes s₁ (fun _ _ h => h) rfl rfl, ?_⟩
  wrow_args hpre hlay hrd hwl hlo
  intro Γ p e1 e2 e3
  refine wpCode_mono ?_ (H w s₁ mg mb _ _ _ ⟨KX, topRead_of T, T.nolimit⟩ (by assumption) (by assumption) (by omega) hg Γ p e1 e2 e3)
  rintro r s' ⟨rfl, hk, ho, hgg⟩
  exact yes s' hk ho hgg)
end Mine

end TTop1

section TPlain0
open PySem PySem.W PyProof.Rows
set_option Elab.async false
namespace Mine
/-! plain functions: texts as lists of code points -/
def isDig (c : Nat) : Bool := 48 ≤ c && c ≤ 57
def isSep (c : Nat) : Bool := c == 46 || c == 43 || c == 45
def kindN (c : Nat) : Int := if isDig c then 2 else if isSep c then 0 else 1
abbrev St (l : List Nat) : Str := ⟨l.toArray⟩
/-- heap kept: all that stood stands as it was -/
def Keep (h h' : Heap) : Prop := ∀ b o, h.get? b = some o → h'.get? b = some o
theorem Keep.refl (h : Heap) : Keep h h := fun _ _ e => e
theorem Keep.trans {a b c : Heap} (x : Keep a b) (y : Keep b c) : Keep a c := fun p o e => y p o (x p o e)
theorem lit_digits : (Str.ofString "0123456789").cps.toList = [48,49,50,51,52,53,54,55,56,57] := by decide +kernel
theorem lit_seps : (Str.ofString ".+-").cps.toList = [46,43,45] := by decide +kernel
theorem in_digits (c : Nat) : Txt.contains (Str.ofString "0123456789") (St [c]) = isDig c := by
  show (!(Builtin.Str.occurrences _ ⟨#[c]⟩ 0 _ 1).isEmpty) = _
  rw [StrLaws.found_one, lit_digits]
  unfold isDig
  rw [Bool.eq_iff_iff]
  simp only [decide_eq_true_eq, List.mem_cons, List.not_mem_nil, or_false, Bool.and_eq_true]
  omega
theorem in_seps (c : Nat) : Txt.contains (Str.ofString ".+-") (St [c]) = isSep c := by
  show (!(Builtin.Str.occurrences _ ⟨#[c]⟩ 0 _ 1).isEmpty) = _
  rw [StrLaws.found_one, lit_seps]
  unfold isSep
  rw [Bool.eq_iff_iff]
  simp only [decide_eq_true_eq, List.mem_cons, List.not_mem_nil, or_false, Bool.or_eq_true, beq_iff_eq, or_assoc]
end Mine

end TPlain0

section TKind
open PySem PySem.W PyProof.Rows
set_option Elab.async false
set_option maxRecDepth 100000
set_option maxHeartbeats 8000000
namespace Mine
open PySem PySem.W PySem.Calls PyProof.Rows

theorem kind_call {w : World} {A : Around} {s : Shared} {c : Nat} {t : Tok} {Q : Value → Shared → Prop} {E : Value → Shared → Prop}
  (KX : (KK w).In s.heap) (hl : s.heap.NoLimit) (hroom : A.depth < recursionLimit)
  (hQ : ∀ h' tk t', Keep s.heap h' → Q (.int (kindN c) t') {s with heap := h', toks := tk}) :
  wpAny (model prog w) A (call (.ref 66) [.str (St [c]) t]) Q E s := by
  refine wpAny_call (codeAny_call_def (binds := [(Str.ofString "c", .str (St [c]) t)]) hroom (KX 66 _ rfl) rfl hl (codeRec_of KX rfl) rfl (BindsTo.of_eq rfl) (by decide) (locs rfl) (fun h₁ hns hk₁ => ?_) rfl rfl rfl)
  dsimp only
  refine wpAny_execs_cons (wpAny_If (wpAny_isTrue_Compare1 (wpAny_Name (wpAny_loadName_local rfl rfl hns rfl (wpAny_Constant_str (SB.contains (wpAny_truthy_bool ?_)))))))
  rw [in_digits]
  cases h1 : isDig c with
  | true =>
    rw [if_pos rfl]
    refine wpAny_execs_cons (wpAny_Return_some (wpAny_Constant_int ?_))
    have := hQ h₁ (s.toks + 3) (s.toks + 2) hk₁
    simp only [kindN, h1, if_true] at this
    exact this
  | false =>
    rw [if_neg (by simp)]
    refine wpAny_execs_nil ?_
    dsimp only
    refine wpAny_execs_cons (wpAny_If (wpAny_isTrue_Compare1 (wpAny_Name (wpAny_loadName_local rfl rfl hns rfl (wpAny_Constant_str (SB.contains (wpAny_truthy_bool ?_)))))))
    rw [in_seps]
    cases h2 : isSep c with
    | true =>
      rw [if_pos rfl]
      refine wpAny_execs_cons (wpAny_Return_some (wpAny_Constant_int ?_))
      have := hQ h₁ (s.toks + 4) (s.toks + 3) hk₁
      simp only [kindN, h1, h2, if_true] at this
      exact this
    | false =>
      rw [if_neg (by simp)]
      refine wpAny_execs_nil ?_
      dsimp only
      refine wpAny_execs_cons (wpAny_Return_some (wpAny_Constant_int ?_))
      have := hQ h₁ (s.toks + 4) (s.toks + 3) hk₁
      simp only [kindN, h1, h2] at this
      exact this
end Mine

end TKind

section TFw
open PySem PySem.W PyProof.Rows
set_option Elab.async false
set_option maxRecDepth 100000
set_option maxHeartbeats 8000000
namespace Mine
open PySem PySem.W PySem.Calls PyProof.Rows

section
variable {w : World} {A : Around} {E : Value → Shared → Prop} {s : Shared} {env : Env}

/-- a loop over a walk, no turn leaves it: the invariant is over the whole state -/
theorem forW {R : Result → Shared → Prop} {v : Str} {pv : Pos} {body : List Stmt} {I : Addr} {fp wr : List Addr} {n : Nat} {P : Nat → Value → Prop} {Stt : Nat → Heap → Prop}
    (W : Walks prog w A I fp wr n P Stt) (J : Nat → Shared → Prop) (hst : Stt 0 s.heap) (h0 : J 0 s)
    (hJ : ∀ i s h' tk, J i s → (∀ b o, b ∉ wr → s.heap.get? b = some o → h'.get? b = some o) → J i { s with heap := h', toks := tk })
    (turn : ∀ i x s, i < n → P i x → Stt (i + 1) s.heap → J i s →
      wpAny (model prog w) A (storeName env v x) (fun _ s₂ => wpAny (model prog w) A (execs body env) (fun f s₃ => f = .next ∧ Stt (i + 1) s₃.heap ∧ J (i + 1) s₃) (fun _ _ => False) s₂) (fun _ _ => False) s)
    (done : ∀ s', J n s' → R (.ok .next) s') :
    codeAny (model prog w) A (.forLoop (.Name v pv) (.ref I) body [] env) R s := by
  refine codeAny_forLoop (fun k s' => ∃ i, Stt i s'.heap ∧ J i s' ∧ i ≤ n ∧ k = n + 1 - i) ?_ (n + 1) ⟨0, hst, h0, Nat.zero_le _, rfl⟩
  rintro k s' ⟨i, hsti, hJi, hi, rfl⟩
  by_cases hlt : i < n
  · refine W.item i _ _ _ hlt hsti fun x h₁ tk₁ hP hst₁ hk₁ => ?_
    refine wpAny_assign_Name (wpAny_mono (turn i x _ hlt hP hst₁ (hJ i s' h₁ tk₁ hJi hk₁)) (fun _ s₂ h₂ => ?_) fun _ _ x => x.elim)
    refine wpAny_mono h₂ (fun f s₃ h₃ => ?_) fun _ _ x => x.elim
    obtain ⟨rfl, h4, h5⟩ := h₃
    exact ⟨n + 1 - (i + 1), by omega, i + 1, h4, h5, hlt, rfl⟩
  · have hin : i = n := by omega
    subst hin
    exact W.done _ _ _ hsti fun h₁ tk₁ hk₁ => wpAny_execs_nil (done _ (hJ i s' h₁ tk₁ hJi hk₁))

/-- the values are these texts -/
inductive TextsAre : List Value → List (List Nat) → Prop
  | nil : TextsAre [] []
  | cons {l : List Nat} {t : Tok} {vs : List Value} {ls : List (List Nat)} : TextsAre vs ls → TextsAre (.str (St l) t :: vs) (l :: ls)
end
end Mine

end TFw

section TRun0
open PySem PySem.W PyProof.Rows
set_option Elab.async false
set_option maxRecDepth 100000
set_option maxHeartbeats 8000000
namespace Mine
open PySem PySem.W PySem.Calls PyProof.Rows

/-- an item of the answers: a number or a text -/
inductive Dt where
  | n (i : Int)
  | s (x : List Nat)
deriving DecidableEq
inductive DtIs : Value → Dt → Prop
  | n (i : Int) (t : Tok) : DtIs (.int i t) (.n i)
  | s (x : List Nat) (t : Tok) : DtIs (.str (St x) t) (.s x)
inductive DtsAre : List Value → List Dt → Prop
  | nil : DtsAre [] []
  | cons {v : Value} {d : Dt} {vs : List Value} {ds : List Dt} : DtIs v d → DtsAre vs ds → DtsAre (v :: vs) (d :: ds)
theorem DtsAre.append {vs vs' : List Value} {ds ds' : List Dt} (h : DtsAre vs ds) (h' : DtsAre vs' ds') : DtsAre (vs ++ vs') (ds ++ ds') := by
  induction h with
  | nil => exact h'
  | cons a _ ih => exact .cons a ih
theorem DtsAre.length {vs : List Value} {ds : List Dt} (h : DtsAre vs ds) : vs.length = ds.length := by
  induction h with
  | nil => rfl
  | cons _ _ ih => simp [ih]

def rankTab : List (PyData × PyData) := [(.str (Str.ofString "dev"), .int 10), (.str (Str.ofString "alpha"), .int 20), (.str (Str.ofString "a"), .int 20), (.str (Str.ofString "beta"), .int 30), (.str (Str.ofString "b"), .int 30),
  (.str (Str.ofString "c"), .int 40), (.str (Str.ofString "RC"), .int 50), (.str (Str.ofString "rc"), .int 50), (.str (Str.ofString "pl"), .int 200), (.str (Str.ofString "p"), .int 200)]
def rankOf (x : List Nat) : Int := match (PySem.Spec.lookup (.str (St x)) rankTab).getD (.int 0) with | .int i => i | _ => 0
theorem rank_int (x : List Nat) : (PySem.Spec.lookup (.str (St x)) rankTab).getD (.int 0) = .int (rankOf x) := by
  unfold rankOf
  have gen : ∀ (D : List (PyData × PyData)), (∀ p ∈ D, ∃ i, p.2 = .int i) → ∀ d, PySem.Spec.lookup (.str (St x)) D = some d → ∃ i, d = .int i := by
    intro D
    induction D with
    | nil => intro _ d hd; cases hd
    | cons p r ih =>
      intro hp d hd
      obtain ⟨a, b⟩ := p
      unfold PySem.Spec.lookup at hd
      split at hd
      · injection hd with hd; subst hd; exact hp _ (.head _)
      · exact ih (fun q hq => hp q (.tail _ hq)) d hd
  have := gen rankTab (by intro p hp; simp only [rankTab, List.mem_cons, List.not_mem_nil, or_false] at hp; rcases hp with rfl | rfl | rfl | rfl | rfl | rfl | rfl | rfl | rfl | rfl <;> exact ⟨_, rfl⟩)
  cases h : PySem.Spec.lookup (.str (St x)) rankTab with
  | none => rfl
  | some d => obtain ⟨i, rfl⟩ := this d h; rfl

def valN (l : List Nat) : Int := l.foldl (fun (n : Int) (c : Nat) => n * 10 + ((c : Int) - 48)) 0
theorem valN_snoc (l : List Nat) (c : Nat) : valN (l ++ [c]) = valN l * 10 + ((c : Int) - 48) := by
  unfold valN; rw [List.foldl_append]; rfl
/-- what is told of one run -/
def runTold (l : List Nat) : List Dt := match l with
  | [] => []
  | c :: _ => if kindN c = 1 then [.n (rankOf l), .s l] else [.n 100, .n (valN l)]

theorem occ_digit (c : Nat) (h : isDig c = true) : Builtin.Str.occurrences (Str.ofString "0123456789") (St [c]) 0 (Str.ofString "0123456789").length 1 = [c - 48] := by
  unfold isDig at h
  simp only [Bool.and_eq_true, decide_eq_true_eq] at h
  have : c = 48 ∨ c = 49 ∨ c = 50 ∨ c = 51 ∨ c = 52 ∨ c = 53 ∨ c = 54 ∨ c = 55 ∨ c = 56 ∨ c = 57 := by omega
  rcases this with rfl | rfl | rfl | rfl | rfl | rfl | rfl | rfl | rfl | rfl <;> decide +kernel
end Mine

end TRun0

section TFw2
open PySem PySem.W PyProof.Rows
set_option Elab.async false
set_option maxRecDepth 100000
set_option maxHeartbeats 400000
namespace Mine
open PySem PySem.W PySem.Calls PyProof.Rows

theorem Base.keeps {w : World} {h h' : Heap} {mg mb : Str → Option Value} (B : Base w h mg mb) (k : Keep h h') : Base w h' mg mb :=
  ⟨B.K.keeps k, B.T.keeps k, B.nolimit.keeps k⟩

/-- what a def's frame looks like from within -/
structure EnvOK (env : Env) (L : Addr) (names : List (Str × NameKind)) : Prop where
  kind : env.scope.kind = .function
  kof : ∀ x, env.kindOf x = names.lookup x
  loc : env.locals = L
  glob : env.globals = mainGlobals
  blt : env.builtins = builtinsNs
  frame : env.frame = some L

def upd (m : Str → Option Value) (x : Str) (v : Value) : Str → Option Value := fun y => if y = x then some v else m y

section
variable {w : World} {M : Model} {A : Around} {E : Value → Shared → Prop} {s : Shared} {env : Env} {L : Addr} {names : List (Str × NameKind)} {g : Heap} {m mg mb : Str → Option Value}

theorem EnvOK.inter (V : EnvOK env L names) : interactive env = false := by unfold interactive; rw [V.kind]; rfl

theorem ldv {x : Str} {pos : Pos} {v : Value} {Q : Value → Shared → Prop} (V : EnvOK env L names) (F : Fr g L s.heap m) (hn : names.lookup x = some .local) (hv : m x = some v) (h : Q v s)
    (hd : (x == ("__debug__" : Str)) = false := by decide) : wpAny M A (eval (.Name x pos) env) Q E s :=
  wpAny_Name (wpAny_loadName_local V.kind ((V.kof x).trans hn) (by rw [V.loc]; exact F.ns) hv h) hd
theorem ldn' {x : Str} {v : Value} {Q : Value → Shared → Prop} (V : EnvOK env L names) (F : Fr g L s.heap m) (hn : names.lookup x = some .local) (hv : m x = some v) (h : Q v s) :
    wpAny M A (loadName env x) Q E s :=
  wpAny_loadName_local V.kind ((V.kof x).trans hn) (by rw [V.loc]; exact F.ns) hv h
theorem stv {x : Str} {v : Value} {Q : Unit → Shared → Prop} (V : EnvOK env L names) (F : Fr g L s.heap m) (hn : names.lookup x = some .local)
    (h : ∀ h', Fr g L h' (upd m x v) → Heap.SameBut L s.heap h' → Q () { s with heap := h', toks := s.toks + 1 }) : wpAny M A (storeName env x v) Q E s :=
  wpAny_storeName_local ((V.kof x).trans hn) (by rw [V.loc]; exact F.ns) (fun h' hn' hs => by
    rw [V.loc] at hn' hs
    exact h h' (F.set hn' hs) hs) (by rw [V.kind]; rfl)
theorem ldg {x : Str} {pos : Pos} {v : Value} {Q : Value → Shared → Prop} (V : EnvOK env L names) (B : Base w s.heap mg mb) (hn : names.lookup x = some .globalImplicit) (e : nsIn (KK w) mainGlobals x = some (some v)) (h : Q v s)
    (hd : (x == ("__debug__" : Str)) = false := by decide) : wpAny M A (eval (.Name x pos) env) Q E s :=
  Name_function_global V.kind ((V.kof x).trans hn) (loadGlobal_global (by rw [V.glob]; exact B.T.g) (mg_of B.K B.T.g e) h) hd
theorem ldb {x : Str} {pos : Pos} {v : Value} {Q : Value → Shared → Prop} (V : EnvOK env L names) (B : Base w s.heap mg mb) (hn : names.lookup x = some .globalImplicit) (e : nsIn (KK w) mainGlobals x = some none) (hv : bootBuiltins x = some v) (hne : x ≠ "__name__") (h : Q v s)
    (hd : (x == ("__debug__" : Str)) = false := by decide) : wpAny M A (eval (.Name x pos) env) Q E s :=
  Name_function_global V.kind ((V.kof x).trans hn) (loadGlobal_builtin (by rw [V.glob]; exact B.T.g) (mg_none_of B.K B.T.g e) (by rw [V.blt]; exact B.T.b) ((B.T.builtins x hne).trans hv) h) hd
end

section
variable {w : World} {A : Around} {E : Value → Shared → Prop} {s : Shared} {mg mb : Str → Option Value}
theorem EnvOK.of_callEnv {fd : FuncData} {L a : Addr} (hc : fd.closure = []) (hg : fd.globals = mainGlobals) (hb : fd.builtins = builtinsNs) (hk : fd.scope.kind = .function) : EnvOK (callEnv fd L a) L fd.scope.names :=
  ⟨hk, fun _ => rfl, rfl, hg, hb, rfl⟩

/-- entering a def that never raises -/
theorem enter {Q : Value → Shared → Prop} {a : Addr} {fd : FuncData} {body : List Stmt} {args : List Value} {binds : List (Str × Value)} {oc : Value} {od : Option Addr} {osl : Array (Option Value)}
    (B : Base w s.heap mg mb) (hroom : A.depth < recursionLimit) (ho : (KK w).lookup a = some ⟨oc, od, .func fd, osl⟩) (hcd : codeIn (KK w) fd.code fd.qualname = true)
    (hbody : fd.body = .stmts body) (hbind : BindsTo s fd ⟨args, []⟩ binds) (hc : fd.closure = []) (hg : fd.globals = mainGlobals) (hb : fd.builtins = builtinsNs)
    (hcell : ∀ x ∈ fd.scope.names, x.2 ≠ .cell) (hloc : ∀ x ∈ binds, fd.scope.names.lookup x.1 = some .local)
    (hco : fd.scope.isCoroutine = false) (hgen : fd.scope.isGenerator = false) (hk : fd.scope.kind = .function)
    (h : ∀ env L h₁, EnvOK env L fd.scope.names → Fr s.heap L h₁ (fun x => binds.reverse.lookup x) →
      wpAny (model prog w) (A.deeper env) (execs body env) (fun f s' => Q (match f with | .ret v => v | _ => .none) s') (fun _ _ => False) { s with heap := h₁, toks := s.toks + binds.length }) :
    wpAny (model prog w) A (call (.ref a) args) Q E s :=
  wpAny_call (codeAny_call_def hroom (B.K a _ ho) rfl B.nolimit (codeRec_of B.K hcd) hbody hbind hcell hloc (fun h₁ hns hk₁ =>
    wpAny_mono (h (callEnv fd s.heap.objs.size a) s.heap.objs.size h₁ (EnvOK.of_callEnv hc hg hb hk) ⟨hns, hk₁, Nat.le_refl _⟩) (fun f s' q => q) fun _ _ x => x.elim) hco hgen hk)
end
end Mine

end TFw2

section TLists
open PySem PySem.W PyProof.Rows
set_option Elab.async false
set_option maxRecDepth 100000
set_option maxHeartbeats 400000
namespace Mine
open PySem PySem.W PySem.Calls PyProof.Rows

/-- a plain list of the call's own -/
def LstAt (h : Heap) (a : Addr) (vs : List Value) : Prop := ∃ n, h.get? a = some { cls := .type "list", dict := none, data := .seq vs.toArray n, slots := #[] }
theorem LstAt.isList {h : Heap} {a : Addr} {vs : List Value} (x : LstAt h a vs) : h.IsList a vs.toArray := let ⟨n, e⟩ := x; ⟨_, e, rfl, n, rfl⟩
theorem LstAt.plain {h : Heap} {a : Addr} {vs : List Value} (x : LstAt h a vs) : PlainL h a vs.toArray := let ⟨n, e⟩ := x; ⟨_, n, e, rfl, rfl, rfl⟩
theorem LstAt.at {h h' : Heap} {a : Addr} {vs : List Value} (x : LstAt h a vs) (e : ∀ o, h.get? a = some o → h'.get? a = some o) : LstAt h' a vs := let ⟨n, q⟩ := x; ⟨n, e _ q⟩
theorem LstAt.keep {h h' : Heap} {a : Addr} {vs : List Value} (x : LstAt h a vs) (k : Keep h h') : LstAt h' a vs := x.at fun o e => k a o e
theorem LstAt.same {h h' : Heap} {a b : Addr} {vs : List Value} (x : LstAt h a vs) (k : Heap.SameBut b h h') (hab : a ≠ b) : LstAt h' a vs := x.at fun _ e => (k.2 a hab).trans e
theorem LstAt.new {h : Heap} {vs : List Value} : LstAt (h.push { cls := .type "list", data := .seq vs.toArray }) h.objs.size vs := ⟨0, Heap.get?_push_size _ rfl⟩
theorem LstAt.lt {h : Heap} {a : Addr} {vs : List Value} (x : LstAt h a vs) : a < h.objs.size := let ⟨_, e⟩ := x; Heap.lt_size e
theorem LstAt.typeIs {s : Shared} {a : Addr} {vs : List Value} (x : LstAt s.heap a vs) : s.TypeIs (.ref a) "list" := x.isList.typeIs
theorem LstAt.ne_ns {h : Heap} {a L : Addr} {vs : List Value} {m : Str → Option Value} (x : LstAt h a vs) (n : h.Ns L m) : a ≠ L := by
  intro e; subst e
  obtain ⟨k, q⟩ := x
  obtain ⟨o, es, ep, ho, hd, _⟩ := n
  rw [q] at ho; cases ho; cases hd

theorem LstAt.upd {h : Heap} {a : Addr} {vs us : List Value} {f : Array Value → Array Value} (x : LstAt h a vs) (e : f vs.toArray = us.toArray) : LstAt (h.update a (Obj.mapSeq f)) a us := by
  obtain ⟨n, q⟩ := x
  have z := Heap.get?_update_self (Obj.mapSeq f) q rfl
  refine ⟨if (f vs.toArray).size == vs.toArray.size then n else n + 1, ?_⟩
  rw [z]
  show some (Obj.mk _ _ (Data.seq (f vs.toArray) _) _) = _
  rw [e]

section
variable {w : World} {A : Around} {E : Value → Shared → Prop} {s : Shared} {a b : Addr} {vs us : List Value} {Q : Value → Shared → Prop}

theorem lst_append {x : Value} (hl : LstAt s.heap a vs) (hsz : vs.length < 1000000) (hQ : ∀ h', LstAt h' a (vs ++ [x]) → Heap.SameBut a s.heap h' → Q .none { s with heap := h' }) :
    wpAny (model prog w) A (call (.builtin "list.append") [.ref a, x]) Q E s := by
  obtain ⟨n, ho⟩ := id hl
  refine wpAny_call_entry slot_list_append hl.typeIs entry_list_append ?_ (args_list_append _ _)
  show wpAny _ _ (updateSeq a (·.push x) >>= fun _ => ret .none) _ _ s
  refine wpAny_bind ?_
  refine wpAny_updateSeq ho rfl (wpAny_pure ⟨.none, rfl, hQ _ (hl.upd (by simp)) (Heap.SameBut.update ..)⟩) (by rw [sizeLine_eq]; simp; omega) (by rw [sizeLine_eq]; simp; omega)

theorem lst_get {k : Int} {t : Tok} {x : Value} (hl : LstAt s.heap a vs) (h0 : 0 ≤ k) (hfit : k < 2 ^ 63) (hx : vs[k.toNat]? = some x) (h : Q x s) : wpAny (model prog w) A (getItem (.ref a) (.int k t)) Q E s :=
  wpAny_getItem_list hl.isList h0 hfit (by simpa using hx) h
theorem lst_last {t : Tok} {x : Value} (hl : LstAt s.heap a (vs ++ [x])) (h : Q x s) : wpAny (model prog w) A (getItem (.ref a) (.int (-1) t)) Q E s :=
  wpAny_getItem_list_neg hl.isList (by decide) (by simp; omega) (by decide) (by
    have e : ((-1 : Int) + ((vs ++ [x]).toArray.size : Int)).toNat = vs.length := by simp; omega
    rw [e]; simp) h

theorem noFill_list_iadd : fillsInplaceSlot (.type "list") "add" (Operator.Add == .Add) = pure false := by
  unfold fillsInplaceSlot
  show (typeLookup (.type "list") (dunderI "add") >>= fun fi => pure (fi.isSome && !isSeqSlot fi)) = pure false
  rw [typeLookup_type, builtinLookup_eq_fast]; kernel_rfl
theorem seq_list_iadd : seqSlot? (.type "list") (dunderI "add") = pure (some (.builtin "list.__iadd__")) := by
  unfold seqSlot?
  rw [typeLookup_type, builtinLookup_eq_fast]; kernel_rfl

theorem small_not_long {n m : Nat} (h : n + m < 1000000) : ¬ ((!(vs.toArray.isEmpty) && Builtin.List.listTooLong (n + m)) = true) := by
  have : Builtin.List.listTooLong (n + m) = false := by
    unfold Builtin.List.listTooLong
    simp only [decide_eq_false_iff_not, sizeLine_eq]
    omega
  rw [this]; simp

theorem lst_iadd (hl : LstAt s.heap a vs) (hu : LstAt s.heap b us) (hsz : vs.length + us.length < 1000000) (hQ : ∀ h', LstAt h' a (vs ++ us) → Heap.SameBut a s.heap h' → Q (.ref a) { s with heap := h' }) :
    wpAny (model prog w) A (inplaceOp .Add (.ref a) (.ref b)) Q E s := by
  obtain ⟨n, ho⟩ := id hl
  obtain ⟨n2, ho2⟩ := id hu
  unfold inplaceOp
  refine wpAny_holding ?_
  refine wpAny_bind (wpAny_typeOf hl.typeIs (wpAny_bind (wpAny_of_eq noFill_list_iadd ?_)))
  show wpAny _ A (if false = true then _ else _) Q E s
  rw [if_neg Bool.false_ne_true]
  refine wpAny_bind (wpAny_binaryOp1_none (nm := "add") hl.typeIs hu.typeIs noFill_list_add ?_)
  refine wpAny_bind (wpAny_of_eq seq_list_iadd ?_)
  refine wpAny_bind (wpAny_rule ?_)
  refine call_meets PySem.F.slot_list_iadd hl.typeIs PySem.F.entry_list_iadd (PySem.F.args_list_iadd_2 _ _) (AutoSeq1.list___iadd___list_list_0 a vs.toArray n b us.toArray n2 (by simpa using small_not_long (vs := vs) hsz) (by rw [sizeLine_eq]; simp; omega) (by rw [sizeLine_eq]; simp; omega)) ?_
  refine ⟨ho, ho2, ?_⟩
  exact hQ _ (hl.upd (by simp)) (Heap.SameBut.update ..)

theorem lst_extend_tuple {n2 : Nat} (hl : LstAt s.heap a vs) (hu : s.heap.get? b = some { cls := .type "tuple", dict := none, data := .seq us.toArray n2, slots := #[] }) (hsz : vs.length + us.length < 1000000) (hQ : ∀ h', LstAt h' a (vs ++ us) → Heap.SameBut a s.heap h' → Q .none { s with heap := h' }) :
    wpAny (model prog w) A (call (.builtin "list.extend") [.ref a, .ref b]) Q E s := by
  obtain ⟨n, ho⟩ := id hl
  refine call_meets PySem.F.slot_list_extend hl.typeIs PySem.F.entry_list_extend (PySem.F.args_list_extend_2 _ _) (AutoSeq1.list_extend_list_tuple_0 a vs.toArray n b us.toArray n2 (by simpa using small_not_long (vs := vs) hsz) (by rw [sizeLine_eq]; simp; omega) (by rw [sizeLine_eq]; simp; omega)) ?_
  refine ⟨ho, hu, ?_⟩
  exact hQ _ (hl.upd (by simp)) (Heap.SameBut.update ..)

/-- a store at a place in bounds -/
theorem lst_set {k : Int} {t : Tok} {j : Nat} {v : Value} {Q : Unit → Shared → Prop} (hl : LstAt s.heap a vs) (hfit : Builtin.List.listFitsIndex k = true) (hj : seqIndex? k vs.length = some j) (hlt : j < vs.length)
    (hQ : ∀ h', LstAt h' a (vs.set j v) → Heap.SameBut a s.heap h' → Q () { s with heap := h' }) :
    wpAny (model prog w) A (setItem (.ref a) (.int k t) v) Q E s := by
  obtain ⟨n, ho⟩ := id hl
  have hf : -(2 ^ 63) ≤ k ∧ k < 2 ^ 63 := by simpa [Builtin.List.listFitsIndex] using hfit
  unfold seqIndex? at hj
  dsimp only at hj
  by_cases h0 : k < 0
  · rw [if_pos h0] at hj
    split at hj
    · rename_i hin
      injection hj with hj
      simp only [Bool.and_eq_true, decide_eq_true_eq] at hin
      refine ki_setBack (n := n) ho h0 (by simp; omega) hf.1 ?_
      rw [show (k + (vs.toArray.size : Int)).toNat = j from by rw [← hj]; simp]
      exact hQ _ (hl.upd (by simp)) (Heap.SameBut.update ..)
    · cases hj
  · rw [if_neg h0] at hj
    split at hj
    · rename_i hin
      injection hj with hj
      simp only [Bool.and_eq_true, decide_eq_true_eq] at hin
      refine ki_setAt (n := n) ho (by omega) hf.2 (by simp; omega) ?_
      rw [hj]
      exact hQ _ (hl.upd (by simp)) (Heap.SameBut.update ..)
    · cases hj
end
end Mine

end TLists

section TRun
open PySem PySem.W PyProof.Rows
set_option Elab.async false
set_option maxRecDepth 100000
set_option maxHeartbeats 400000
namespace Mine
open PySem PySem.W PySem.Calls PyProof.Rows

theorem frKeep {g h h' : Heap} {L : Addr} {m : Str → Option Value} (F : Fr g L h m) (k : Keep h h') : Fr g L h' m :=
  ⟨F.ns.keeps k, fun b o e => k b o (F.keep b o e), F.above⟩
theorem frWalked {g h h' : Heap} {L I : Addr} {m : Str → Option Value} (F : Fr g L h m) (hL : L ≠ I) (hI : g.get? I = none) (k : ∀ b o, b ∉ [I] → h.get? b = some o → h'.get? b = some o) : Fr g L h' m := by
  obtain ⟨o, es, ep, ho, r⟩ := F.ns
  exact ⟨⟨o, es, ep, k _ _ (by simp [hL]) ho, r⟩, fun b o e => k b o (by simp; intro q; rw [q, hI] at e; cases e) (F.keep b o e), F.above⟩
theorem pushKeep (h : Heap) (o : Obj) : Keep h (h.push o) := fun _ _ e => Heap.get?_push_of_some _ e
theorem size_none (h : Heap) : h.get? h.objs.size = none := Heap.get?_none_of_le (Nat.le_refl _)
theorem Keep.none {h h' : Heap} (k : Keep h h') {a : Addr} (e : h'.get? a = none) : h.get? a = none := by
  cases q : h.get? a with
  | none => rfl
  | some o => rw [k a o q] at e; cases e
theorem IsList.new {h : Heap} {vs : List Value} : (h.push { cls := .type "list", data := .seq vs.toArray }).IsList h.objs.size vs.toArray := ⟨_, Heap.get?_push_size _ rfl, rfl, 0, rfl⟩
theorem low_of {w : World} {h : Heap} {mg mb : Str → Option Value} (B : Base w h mg mb) : 87 < h.objs.size := Heap.lt_size (B.K 87 _ rfl)

theorem kind_call' {w : World} {A : Around} {s : Shared} {c : Nat} {t : Tok} {mg mb : Str → Option Value} {Q : Value → Shared → Prop} {E : Value → Shared → Prop}
  (B : Base w s.heap mg mb) (hroom : A.depth < recursionLimit)
  (hQ : ∀ h' tk t', Keep s.heap h' → Q (.int (kindN c) t') {s with heap := h', toks := tk}) :
  wpAny (model prog w) A (call (.ref 66) [.str (St [c]) t]) Q E s := kind_call B.K B.nolimit hroom hQ

theorem callDef {w : World} {A : Around} {E : Value → Shared → Prop} {s : Shared} {env : Env} {mg mb : Str → Option Value} {pos : Pos} {f : Addr} {e : Expr} {rest : List Expr} {Q : Value → Shared → Prop} {oc : Value} {od : Option Addr} {fd : FuncData} {osl : Array (Option Value)}
    (ho : (KK w).lookup f = some ⟨oc, od, .func fd, osl⟩)
    (h : wpAny (model prog w) A (spliced (backTo pos (starEach (e :: rest) env))) (fun vs s₁ => Base w s₁.heap mg mb ∧ wpAny (model prog w) A (call (.ref f) vs) Q E s₁) E s)
    (he : starEach (e :: rest) env = (false, eval e env) :: starEach rest env) :
    wpAny (model prog w) A (callWith pos (.ref f) [] (backTo pos (starEach (e :: rest) env)) []) Q E s :=
  callWith_def rfl (wpAny_mono h (fun _ _ h₁ => ⟨h₁.1.K _ _ ho, h₁.2⟩) fun _ _ x => x) he

theorem charAt_head (c : Nat) (r : List Nat) : Txt.charAt (St (c :: r)) 0 = some c := by
  unfold Txt.charAt
  have : seqIndex? 0 (St (c :: r)).length = some 0 := by
    unfold seqIndex?
    simp [Str.length]
  rw [this]; rfl
theorem item_head (c : Nat) (r : List Nat) : Txt.item (St (c :: r)) 0 = St [c] := by
  unfold Txt.item; rw [charAt_head]; rfl

theorem run_call {w : World} {A : Around} {s : Shared} {l : List Nat} {t : Tok} {mg mb : Str → Option Value} {Q : Value → Shared → Prop} {E : Value → Shared → Prop}
  (BX : Base w s.heap mg mb) (hroom : A.depth + 5 < recursionLimit) (hh : A.handled = none)
  (hl : (∃ c r, l = c :: r ∧ kindN c = 1) ∨ ∀ c ∈ l, isDig c = true)
  (hQ : ∀ h' tk a vs, Keep s.heap h' → s.heap.get? a = none → LstAt h' a vs → DtsAre vs (runTold l) → Q (.ref a) {s with heap := h', toks := tk}) :
  wpAny (model prog w) A (call (.ref 73) [.str (St l) t]) Q E s := by
  have hroom' : A.depth < recursionLimit := Nat.lt_of_le_of_lt (Nat.le_add_right _ 5) hroom
  refine enter (binds := [(Str.ofString "run", .str (St l) t)]) BX hroom' rfl rfl rfl (BindsTo.of_eq rfl) rfl rfl rfl (by decide) (locs rfl) rfl rfl rfl ?_
  intro env L h₁ V F
  dsimp only at V ⊢
  -- ranks = {..}
  refine wpAny_execs_cons ?_
  with_reducible refine wpAny_Assign_Name ?_ ?_
  rotate_left
  with_unfolding_all rfl
  refine Dict_lits_str (D := rankTab) ?a ?b ?c ?d ?e ?f ?g ?h
  case a => rfl
  case b => decide +kernel
  case c => decide +kernel
  case d => rfl
  case e => rfl
  case f => exact List.cons_ne_nil _ _
  case g => decide
  intro da od h₂ tk₂ hda hod htab hk₂
  refine stv V (frKeep F hk₂) rfl fun h₃ F₃ hs₃ => ?_
  have hLd : L ≠ da := Nat.ne_of_lt (Nat.lt_of_lt_of_le F.ns.lt hda)
  have hod₃ : h₃.get? da = some od := (hs₃.2 da (Ne.symm hLd)).trans hod
  have T₃ : StrTab prog w h₃ da rankTab := by
    obtain ⟨kvs, h1, h2⟩ := htab
    refine TabAt.ofObj ?_ hod₃ h1 h2
    have := low_of BX
    have h3 : 87 < da := Nat.lt_of_lt_of_le (Nat.lt_of_lt_of_le (Nat.lt_of_lt_of_le this F.above) (Nat.le_of_lt F.ns.lt)) hda
    exact beq_eq_false_iff_ne.mpr (show da ≠ 1 by omega)
  have B₃ : Base w h₃ mg mb := BX.keeps F₃.keep
  dsimp only
  -- if run == ''
  refine wpAny_execs_cons (wpAny_If (wpAny_isTrue_Compare1 (ldv V F₃ rfl rfl (wpAny_Constant_str (P.eq_str (wpAny_truthy_bool ?_))))))
  rw [show (St l).cps.toList = l from rfl, show (Str.ofString "").cps.toList = [] from by decide +kernel]
  cases l with
  | nil =>
    refine PySem.W.ite_pos rfl ?_
    refine wpAny_execs_cons (wpAny_Return_some (wpAny_List (args_nil ⟨by decide, ?_⟩)))
    exact hQ _ _ _ [] (Keep.trans F₃.keep (pushKeep _ _)) (Keep.none F₃.keep (size_none _)) LstAt.new .nil
  | cons c r =>
  refine PySem.W.ite_neg (by simp) ?_
  refine wpAny_execs_nil ?_
  dsimp only
  -- if _law_kind(run[0]) == 1
  refine wpAny_execs_cons (wpAny_If (wpAny_isTrue_Compare1 (Call_ (ldg V B₃ rfl rfl (callDef (mg := mg) (mb := mb) rfl ?_ rfl)))))
  refine args_cons (Subscript_ (ldv V F₃ rfl rfl (wpAny_Constant_int (subscriptTail_builtin (typeIs_str _ _ _) PySem.F.slot_str_getitem.lookup (SB.getItem rfl (by rw [charAt_head]; rfl) (args_nil ⟨B₃, ?_⟩))))))
  rw [item_head]
  refine kind_call' (c := c) B₃ (show A.depth + 1 < recursionLimit by omega) fun h₄ tk₄ t₄ k₄ => ?_
  have F₄ := frKeep F₃ k₄
  have B₄ := B₃.keeps k₄
  have T₄ := T₃.keep k₄
  refine wpAny_Constant_int (wpAny_eq_int (wpAny_truthy_bool ?_))
  by_cases hk : kindN c = 1
  · refine PySem.W.ite_pos (by rw [hk]; rfl) ?_
    refine wpAny_execs_cons (wpAny_Return_some (wpAny_List ?_))
    refine args_cons (MethodCall_ (ldv V F₄ rfl rfl (getMethod_strTab_get T₄ (callWith_method1 (args_cons (ldv V F₄ rfl rfl (args_cons (wpAny_Constant_int (args_nil (call_get2_strTab T₄ (PyProof.V.Flat.int 0 _) ?_))))))))))
    intro v hv
    rw [rank_int] at hv
    obtain ⟨tv, rfl⟩ := hv.int_inv
    refine args_cons (ldv V F₄ rfl rfl (args_nil ⟨by simp only [List.length_cons, List.length_nil]; decide, ?_⟩))
    refine hQ _ _ _ [_, _] (Keep.trans F₄.keep (pushKeep _ _)) (Keep.none F₄.keep (size_none _)) LstAt.new ?_
    simp only [runTold, hk, if_true]
    exact .cons (.n _ _) (.cons (.s _ _) .nil)
  · refine PySem.W.ite_neg (by simpa using hk) ?_
    have hall : ∀ d ∈ c :: r, isDig d = true := by
      rcases hl with ⟨c', r', e, hk'⟩ | h
      · injection e with e1 e2; subst e1; exact absurd hk' hk
      · exact h
    refine wpAny_execs_nil ?_
    dsimp only
    refine wpAny_execs_cons ?_
    with_reducible refine wpAny_Assign_Name ?_ ?_
    rotate_left
    with_unfolding_all rfl
    refine wpAny_Constant_int (stv V F₄ rfl fun h₅ F₅ hs₅ => ?_)
    dsimp only
    refine wpAny_execs_cons (wpAny_For (ldv V F₅ rfl rfl (wpAny_pyIter_str ?_)))
    intro o Stt W hst
    have hLI : L ≠ h₅.objs.size := Nat.ne_of_lt F₅.ns.lt
    have hgI : s.heap.get? h₅.objs.size = none := Keep.none F₅.keep (size_none _)
    refine forW (W _ hh) (fun i s' => ∃ h tk m tn, s' = { s with heap := h, toks := tk } ∧ Fr s.heap L h m ∧ m (Str.ofString "n") = some (.int (valN ((c :: r).take i)) tn)) hst
      ⟨_, _, _, _, rfl, frKeep F₅ (pushKeep _ _), rfl⟩ ?_ ?_ ?_
    · rintro i s' h' tk ⟨h, tk', m, tn, rfl, Fm, hm⟩ hk
      exact ⟨h', tk, m, tn, rfl, frWalked Fm hLI hgI hk, hm⟩
    · rintro i x s' hi ⟨d, u, hd, rfl⟩ hst' ⟨h, tk', m, tn, rfl, Fm, hm⟩
      refine stv V Fm rfl fun h₆ F₆ hs₆ => ?_
      have hdd : isDig d = true := hall d (List.mem_of_getElem? (i := i) (by simpa using hd))
      refine wpAny_execs_cons ?_
      with_reducible refine wpAny_Assign_Name ?_ ?_
      rotate_left
      with_unfolding_all rfl
      refine wpAny_BinOp (wpAny_BinOp (ldv V F₆ rfl hm (wpAny_Constant_int (mul_int ?_ (IntMulOk.of_right (by decide))))))
      refine MethodCall_ (wpAny_Constant_str (GM.index (callWith_method1 (args_cons (ldv V F₆ rfl rfl (args_nil (SC.index (occ_digit d hdd) (add_int (stv V F₆ rfl fun h₇ F₇ hs₇ => ?_)))))))))
      dsimp only
      refine wpAny_execs_nil ⟨rfl, ?_, ?_⟩
      · refine (W _ hh).frame _ _ _ hst' fun b hb o' e => ?_
        have hbL : b ≠ L := by rw [List.mem_singleton.mp hb]; exact Ne.symm hLI
        exact (hs₇.2 b hbL).trans ((hs₆.2 b hbL).trans e)
      · have e1 : (c :: r).take (i + 1) = (c :: r).take i ++ [d] := by
          rw [List.take_add_one, show (c :: r)[i]? = some d from by simpa using hd]; rfl
        have e2 : 48 ≤ d := by unfold isDig at hdd; simp at hdd; exact hdd.1
        rw [e1, valN_snoc, show (d : Int) - 48 = ((d - 48 : Nat) : Int) by omega]
        exact ⟨_, _, _, _, rfl, F₇, rfl⟩
    · rintro s' ⟨h, tk', m, tn, rfl, Fm, hm⟩
      dsimp only
      refine wpAny_execs_cons (wpAny_Return_some (wpAny_List (args_cons (wpAny_Constant_int (args_cons (ldv V Fm rfl hm (args_nil ⟨by simp only [List.length_cons, List.length_nil]; decide, ?_⟩)))))))
      refine hQ _ _ _ [_, _] (Keep.trans Fm.keep (pushKeep _ _)) (Keep.none Fm.keep (size_none _)) LstAt.new ?_
      simp only [runTold, hk, if_false]
      rw [show (St (c :: r)).cps.size = (c :: r).length from by simp, List.take_length]
      exact .cons (.n _ _) (.cons (.n _ _) .nil)
end Mine

end TRun

section TRanksP
open PySem PySem.W PyProof.Rows
set_option Elab.async false
set_option maxRecDepth 100000
set_option maxHeartbeats 400000
namespace Mine
open PySem PySem.W PySem.Calls PyProof.Rows

theorem snocInd {P : List Nat → Prop} (h0 : P []) (hs : ∀ l c, P l → P (l ++ [c])) (l : List Nat) : P l := by
  rw [← List.reverse_reverse l]
  induction l.reverse with
  | nil => exact h0
  | cons c r ih => rw [List.reverse_cons]; exact hs _ _ ih

theorem St_append (a b : List Nat) : St a ++ St b = St (a ++ b) := by
  show (⟨a.toArray ++ b.toArray⟩ : Str) = _
  simp
theorem St_length (a : List Nat) : (St a).length = a.length := by simp [Str.length]

/-- one sign of a text cut at its dots: what is done, what is under way -/
def pstep (p : List (List Nat) × List Nat) (c : Nat) : List (List Nat) × List Nat := if c = 46 then (p.1 ++ [p.2], []) else (p.1, p.2 ++ [c])
def pst (l : List Nat) : List (List Nat) × List Nat := l.foldl pstep ([], [])
def splitDots (l : List Nat) : List (List Nat) := (pst l).1 ++ [(pst l).2]
theorem pst_snoc (l : List Nat) (c : Nat) : pst (l ++ [c]) = pstep (pst l) c := by unfold pst; rw [List.foldl_append]; rfl
theorem pst_len (l : List Nat) : (pst l).1.length ≤ l.length := by
  induction l using snocInd with
  | h0 => simp [pst]
  | hs l c ih =>
    rw [pst_snoc]; unfold pstep; split <;> simp <;> omega
theorem pst_cur (l : List Nat) : (pst l).2.length ≤ l.length := by
  induction l using snocInd with
  | h0 => simp [pst]
  | hs l c ih =>
    rw [pst_snoc]; unfold pstep; split <;> simp <;> omega
theorem pst_parts (l : List Nat) : ∀ p ∈ (pst l).1, p.length ≤ l.length := by
  induction l using snocInd with
  | h0 => simp [pst]
  | hs l c ih =>
    rw [pst_snoc]; unfold pstep
    have := pst_cur l
    split
    · intro p hp
      simp only [List.mem_append, List.mem_singleton] at hp
      rw [List.length_append]
      rcases hp with hp | rfl
      · have := ih p hp; omega
      · omega
    · intro p hp
      have := ih p hp
      rw [List.length_append]; omega

/-- one sign of a part: the run under way, what is told -/
def tstep (p : List Nat × List Dt) (c : Nat) : List Nat × List Dt :=
  let q := match p.1 with
    | [] => p
    | d :: _ => if kindN d ≠ kindN c then ([], p.2 ++ runTold p.1) else p
  if 0 < kindN c then (q.1 ++ [c], q.2) else q
def tst (l : List Nat) : List Nat × List Dt := l.foldl tstep ([], [])
def tellPart (l : List Nat) : List Dt := (tst l).2 ++ runTold (tst l).1
theorem tst_snoc (l : List Nat) (c : Nat) : tst (l ++ [c]) = tstep (tst l) c := by unfold tst; rw [List.foldl_append]; rfl

def RunOK (l : List Nat) : Prop := ∀ d r, l = d :: r → 0 < kindN d ∧ ∀ c ∈ l, kindN c = kindN d
theorem runOK_nil : RunOK [] := fun _ _ e => by cases e
theorem kind_range (c : Nat) : kindN c = 0 ∨ kindN c = 1 ∨ kindN c = 2 := by unfold kindN; split <;> (try split) <;> simp
theorem kind_two {c : Nat} (h : kindN c = 2) : isDig c = true := by
  unfold kindN at h
  split at h
  · assumption
  · split at h <;> cases h
theorem RunOK.pre {l : List Nat} (h : RunOK l) : (∃ c r, l = c :: r ∧ kindN c = 1) ∨ ∀ c ∈ l, isDig c = true := by
  cases l with
  | nil => exact .inr (by simp)
  | cons d r =>
    obtain ⟨h1, h2⟩ := h d r rfl
    rcases kind_range d with hd | hd | hd
    · omega
    · exact .inl ⟨d, r, rfl, hd⟩
    · exact .inr fun c hc => kind_two ((h2 c hc).trans hd)
theorem tstep_ok {p : List Nat × List Dt} (h : RunOK p.1) (c : Nat) : RunOK (tstep p c).1 := by
  unfold tstep
  obtain ⟨r, t⟩ := p
  dsimp only at h ⊢
  have key : ∀ q : List Nat × List Dt, RunOK q.1 → (∀ d r', q.1 = d :: r' → kindN d = kindN c) → RunOK (if 0 < kindN c then (q.1 ++ [c], q.2) else q).1 := by
    intro q hq hc
    split
    · rename_i hpos
      intro d r' e
      dsimp only at e
      cases hq1 : q.1 with
      | nil =>
        rw [hq1] at e
        simp only [List.nil_append, List.cons.injEq] at e
        obtain ⟨rfl, rfl⟩ := e
        exact ⟨hpos, by simp⟩
      | cons d0 r0 =>
        rw [hq1] at e
        simp only [List.cons_append, List.cons.injEq] at e
        obtain ⟨rfl, rfl⟩ := e
        have h1 := hq d0 r0 hq1
        have h2 := hc d0 r0 hq1
        refine ⟨h1.1, fun x hx => ?_⟩
        dsimp only at hx
        rcases List.mem_append.mp hx with hx | hx
        · exact h1.2 x (by rw [hq1]; exact hx)
        · rw [List.mem_singleton.mp hx]; exact h2.symm
    · exact hq
  cases r with
  | nil => exact key ([], t) runOK_nil (by intro d r' e; cases e)
  | cons d r =>
    dsimp only
    by_cases hne : kindN d ≠ kindN c
    · simp only [if_pos hne]
      exact key ([], _) runOK_nil (by intro d r' e; cases e)
    · simp only [if_neg hne]
      refine key (d :: r, t) h ?_
      intro d' r' e
      injection e with e1 e2
      subst e1
      exact Classical.byContradiction hne
theorem tst_ok (l : List Nat) : RunOK (tst l).1 := by
  induction l using snocInd with
  | h0 => exact runOK_nil
  | hs l c ih => rw [tst_snoc]; exact tstep_ok ih c
theorem runTold_len (l : List Nat) : (runTold l).length ≤ 2 := by
  unfold runTold; split <;> (try split) <;> simp
theorem tst_len (l : List Nat) : (tst l).2.length ≤ 2 * l.length ∧ (tst l).1.length ≤ l.length := by
  induction l using snocInd with
  | h0 => simp [tst]
  | hs l c ih =>
    rw [tst_snoc]
    have hr := runTold_len (tst l).1
    unfold tstep
    generalize tst l = p at ih hr
    obtain ⟨r, t⟩ := p
    dsimp only at ih hr ⊢
    cases r with
    | nil =>
      dsimp only
      split <;> simp <;> simp at ih <;> omega
    | cons d r =>
      dsimp only
      split <;> split <;> simp <;> simp at ih <;> omega

def ranksTold (text build : List Nat) : List Dt := ((splitDots text ++ (if build = [] then [] else [build])).take 3).flatMap tellPart

theorem TextsAre.length {vs : List Value} {ls : List (List Nat)} (h : TextsAre vs ls) : vs.length = ls.length := by
  induction h with
  | nil => rfl
  | cons _ ih => simp [ih]
theorem TextsAre.snoc {vs : List Value} {ls : List (List Nat)} {l : List Nat} {t : Tok} (h : TextsAre vs ls) : TextsAre (vs ++ [.str (St l) t]) (ls ++ [l]) := by
  induction h with
  | nil => exact .cons .nil
  | cons _ ih => exact .cons ih
theorem TextsAre.snoc_inv {vs : List Value} {ls : List (List Nat)} {l : List Nat} (h : TextsAre vs (ls ++ [l])) : ∃ us t, vs = us ++ [.str (St l) t] ∧ TextsAre us ls := by
  induction ls generalizing vs with
  | nil =>
    cases h with
    | cons h' => cases h'; exact ⟨[], _, rfl, .nil⟩
  | cons x r ih =>
    cases h with
    | cons h' =>
      obtain ⟨us, t, rfl, h2⟩ := ih h'
      exact ⟨_ :: us, t, rfl, .cons h2⟩
theorem TextsAre.get {vs : List Value} {ls : List (List Nat)} (h : TextsAre vs ls) {i : Nat} {v : Value} (hv : vs[i]? = some v) : ∃ l t, ls[i]? = some l ∧ v = .str (St l) t := by
  induction h generalizing i with
  | nil => simp at hv
  | cons _ ih =>
    cases i with
    | zero => simp at hv; exact ⟨_, _, rfl, hv.symm⟩
    | succ i => simp at hv; simpa using ih hv
theorem TextsAre.take {vs : List Value} {ls : List (List Nat)} (h : TextsAre vs ls) (n : Nat) : TextsAre (vs.take n) (ls.take n) := by
  induction h generalizing n with
  | nil => simp; exact .nil
  | cons _ ih =>
    cases n with
    | zero => exact .nil
    | succ n => exact .cons (ih n)
end Mine

end TRanksP

section TLists2
open PySem PySem.W PyProof.Rows
set_option Elab.async false
set_option maxRecDepth 100000
set_option maxHeartbeats 400000
namespace Mine
open PySem PySem.W PySem.Calls PyProof.Rows

theorem slice_upto (items : List Value) (b : Nat) : slicePick items.toArray none (some (b : Int)) none = (items.take b).toArray := by
  by_cases hb : b ≤ items.toArray.size
  · rw [slicePick_upto _ _ hb]
  · have e : slicePick items.toArray none (some (b : Int)) none = slicePick items.toArray none (some ((items.toArray.size : Nat) : Int)) none := by
      have : sliceBounds none (some (b : Int)) none items.toArray.size = sliceBounds none (some ((items.toArray.size : Nat) : Int)) none items.toArray.size := by
        simp only [sliceBounds, Option.getD_none]
        have h2 : ¬ ((b : Int) < 0) := by omega
        have h3 : ¬ (((items.toArray.size : Nat) : Int) < 0) := by omega
        simp only [h2, h3, if_false, show (1 : Int) > 0 by decide, if_true]
        congr 1
        congr 1; omega
      unfold slicePick
      rw [this]
    rw [e, slicePick_upto _ _ (Nat.le_refl _)]
    have : items.length ≤ b := by simp at hb; omega
    simp [List.take_of_length_le this]

section
variable {w : World} {M : Model} {A : Around} {E : Value → Shared → Prop} {s : Shared} {env : Env}
theorem slice_list {value : Expr} {b : Nat} {k : Nat} {cp p pos : Pos} {Q : Value → Shared → Prop}
    (h : wpAny (model prog w) A (eval value env) (fun o s₁ => ∃ (l : Addr) (vs : List Value), o = .ref l ∧ s₁.heap.IsList l vs.toArray ∧ vs.length < 1000000 ∧
      ∀ (h' : Heap) (a : Addr), Keep s₁.heap h' → s₁.heap.get? a = none → a < h'.objs.size → LstAt h' a (vs.take b) → Q (.ref a) { s₁ with heap := h', toks := s₁.toks + 1 }) E s)
    (ht : ∀ o r, letTemporaryGo value o r = pure () := by intro _ _; rfl) :
    wpAny (model prog w) A (eval (.Subscript value (.Slice none (some (.Constant (.int (b : Int)) k cp)) none p) pos) env) Q E s := by
  refine wpAny_Subscript_list_slice (wpAny_mono h (fun o s₁ h₁ => ?_) fun _ _ x => x) ht
  obtain ⟨l, vs, rfl, hl, hsz, hQ⟩ := h₁
  refine evalPart_none_step (evalPart_some_step (wpAny_Constant_int ?_))
  refine ⟨l, vs.toArray, none, some (b : Int), rfl, hl, by rw [sizeLine_eq]; simp; omega, .none, .int _ _, ?_⟩
  dsimp only
  rw [slice_upto]
  have e : s₁.heap.objs.size + 1 = (s₁.heap.push { cls := .type "slice", data := .fields #[.none, .int (b : Int) s₁.toks, .none] }).objs.size := (Heap.size_push _ _).symm
  have L := LstAt.new (h := s₁.heap.push { cls := .type "slice", data := .fields #[.none, .int (b : Int) s₁.toks, .none] }) (vs := vs.take b)
  rw [← e] at L
  exact hQ _ _ ((pushKeep _ _).trans (pushKeep _ _)) (Heap.get?_none_of_le (Nat.le_succ _)) L.lt L

theorem seqP {st : Stmt} {rest : List Stmt} {Q : Flow → Shared → Prop} (P : Shared → Prop) (h1 : wpAny M A (exec st env) (fun f s' => f = .next ∧ P s') E s) (h2 : ∀ s', P s' → wpAny M A (execs rest env) Q E s') :
    wpAny M A (execs (st :: rest) env) Q E s :=
  wpAny_execs_cons (wpAny_mono h1 (fun f s' h => by obtain ⟨rfl, p⟩ := h; exact h2 s' p) fun _ _ x => x)
theorem if_merge {b : Prop} [Decidable b] {x y : Sem Flow} {Q : Flow → Shared → Prop} (P : Shared → Prop)
    (h1 : b → wpAny M A x (fun f s' => f = .next ∧ P s') E s) (h2 : ¬ b → wpAny M A y (fun f s' => f = .next ∧ P s') E s) (h3 : ∀ s', P s' → Q .next s') :
    if b then wpAny M A x Q E s else wpAny M A y Q E s := by
  split
  · rename_i hb; exact wpAny_mono (h1 hb) (fun f s' h => by obtain ⟨rfl, p⟩ := h; exact h3 s' p) fun _ _ x => x
  · rename_i hb; exact wpAny_mono (h2 hb) (fun f s' h => by obtain ⟨rfl, p⟩ := h; exact h3 s' p) fun _ _ x => x
end
end Mine

end TLists2

section TRanks
open PySem PySem.W PyProof.Rows
set_option Elab.async false
set_option maxRecDepth 100000
set_option maxHeartbeats 400000
namespace Mine
open PySem PySem.W PySem.Calls PyProof.Rows

theorem frSame {g h h' : Heap} {L a : Addr} {m : Str → Option Value} (F : Fr g L h m) (hs : Heap.SameBut a h h') (hL : L ≠ a) (ha : g.get? a = none) : Fr g L h' m := by
  obtain ⟨o, es, ep, ho, r⟩ := F.ns
  exact ⟨⟨o, es, ep, (hs.2 L hL).trans ho, r⟩, fun b o e => (hs.2 b (by intro q; rw [q, ha] at e; cases e)).trans (F.keep b o e), F.above⟩
theorem LstAt.noDict {h : Heap} {a : Addr} {vs : List Value} (x : LstAt h a vs) : h.NoDictAt (.ref a) := by
  obtain ⟨n, e⟩ := x
  exact ⟨_, e, rfl⟩

/-- the first half of a sign's turn: the run under way is told where the kind changes -/
def tmid (p : List Nat × List Dt) (c : Nat) : List Nat × List Dt := match p.1 with
    | [] => p
    | d :: _ => if kindN d ≠ kindN c then ([], p.2 ++ runTold p.1) else p
theorem tstep_mid (p : List Nat × List Dt) (c : Nat) : tstep p c = if 0 < kindN c then ((tmid p c).1 ++ [c], (tmid p c).2) else tmid p c := rfl
theorem tmid_len (p : List Nat × List Dt) (c : Nat) : (tmid p c).1.length ≤ p.1.length := by
  unfold tmid
  split
  · exact Nat.le_refl _
  · split
    · simp
    · exact Nat.le_refl _
theorem tell_len {ps : List (List Nat)} (h : ∀ p ∈ ps, p.length ≤ 1000) : (ps.flatMap tellPart).length ≤ ps.length * 2002 := by
  induction ps with
  | nil => simp
  | cons p r ih =>
    rw [List.flatMap_cons, List.length_append, List.length_cons]
    have h1 := ih fun q hq => h q (.tail _ hq)
    have h2 := tst_len p
    have h3 := runTold_len (tst p).1
    have h4 := h p (.head _)
    have h5 : (tellPart p).length = (tst p).2.length + (runTold (tst p).1).length := by unfold tellPart; rw [List.length_append]
    omega

theorem ranks_call {w : World} {A : Around} {s : Shared} {text build : List Nat} {t t' : Tok} {mg mb : Str → Option Value} {Q : Value → Shared → Prop} {E : Value → Shared → Prop}
  (BX : Base w s.heap mg mb) (hroom : A.depth + 10 < recursionLimit) (hh : A.handled = none) (hlt : text.length ≤ 1000) (hlb : build.length ≤ 1000)
  (hQ : ∀ h' tk a vs, Keep s.heap h' → s.heap.get? a = none → LstAt h' a vs → DtsAre vs (ranksTold text build) → Q (.ref a) {s with heap := h', toks := tk}) :
  wpAny (model prog w) A (call (.ref 80) [.str (St text) t, .str (St build) t']) Q E s := by
  refine enter (binds := [(Str.ofString "text", .str (St text) t), (Str.ofString "build", .str (St build) t')]) BX (by omega) rfl rfl rfl (BindsTo.of_eq rfl) rfl rfl rfl (by decide) (locs rfl) rfl rfl rfl ?_
  intro env L h₁ V F
  dsimp only at V ⊢
  -- parts = ['']
  refine wpAny_execs_cons ?_
  with_reducible refine wpAny_Assign_Name ?_ ?_
  rotate_left
  with_unfolding_all rfl
  refine wpAny_List (args_cons (wpAny_Constant_str (args_nil ⟨by simp only [List.length_cons, List.length_nil]; decide, ?_⟩)))
  dsimp only
  have hpa0 : s.heap.get? h₁.objs.size = none := Keep.none F.keep (size_none _)
  have hLpa : L ≠ h₁.objs.size := Nat.ne_of_lt F.ns.lt
  refine stv V (frKeep F (pushKeep _ _)) rfl fun h₂ F₂ hs₂ => ?_
  have P₂ : LstAt h₂ h₁.objs.size [.str (Str.ofString "") (s.toks + 2)] := LstAt.new.same hs₂ (Ne.symm hLpa)
  generalize h₁.objs.size = pa at *
  dsimp only at hs₂ ⊢
  -- for c in text
  refine wpAny_execs_cons (wpAny_For (ldv V F₂ rfl rfl (wpAny_pyIter_str ?_)))
  intro o Stt W hst
  have hLI : L ≠ h₂.objs.size := Nat.ne_of_lt F₂.ns.lt
  have hgI : s.heap.get? h₂.objs.size = none := Keep.none F₂.keep (size_none _)
  have hpI : pa ≠ h₂.objs.size := Nat.ne_of_lt P₂.lt
  dsimp only at W hst ⊢
  generalize h₂.objs.size = I at *
  refine forW (W _ hh) (fun i s' => ∃ h tk m vs, s' = { s with heap := h, toks := tk } ∧ Fr s.heap L h m ∧ m (Str.ofString "parts") = some (.ref pa) ∧ m (Str.ofString "build") = some (.str (St build) t') ∧ LstAt h pa vs ∧ TextsAre vs (splitDots (text.take i))) hst
      ⟨_, _, _, _, rfl, frKeep F₂ (pushKeep _ _), rfl, rfl, P₂.keep (pushKeep _ _), ?_⟩ ?_ ?_ ?_
  · have : Str.ofString "" = St [] := by decide +kernel
    rw [this]; exact .cons .nil
  · rintro i s' h' tk ⟨h, tk', m, vs, rfl, Fm, hm1, hm2, hP, hT⟩ hk
    exact ⟨h', tk, m, vs, rfl, frWalked Fm hLI hgI hk, hm1, hm2, hP.at fun o e => hk pa o (by simpa using hpI) e, hT⟩
  · rintro i x s' hi ⟨d, u, hd, rfl⟩ hst' ⟨h, tk', m, vs, rfl, Fm, hm1, hm2, hP, hT⟩
    have hit : text[i]? = some d := by simpa using hd
    have hi' : i < text.length := (List.getElem?_eq_some_iff.mp hit).1
    have e1 : text.take (i + 1) = text.take i ++ [d] := by rw [List.take_add_one, hit]; rfl
    have hvl : vs.length < 100000 := by
      rw [hT.length]; unfold splitDots
      have := pst_len (text.take i)
      simp only [List.length_append, List.length_cons, List.length_nil, List.length_take] at this ⊢
      omega
    have hcur : (pst (text.take i)).2.length ≤ 1000 := Nat.le_trans (pst_cur _) (by simp; omega)
    refine stv V Fm rfl fun h₃ F₃ hs₃ => ?_
    have hpL : pa ≠ L := hP.ne_ns Fm.ns
    have hP₃ := hP.same hs₃ hpL
    have hend : ∀ h₅ tk m₅ us, Fr s.heap L h₅ m₅ → m₅ (Str.ofString "parts") = some (.ref pa) → m₅ (Str.ofString "build") = some (.str (St build) t') → LstAt h₅ pa us → TextsAre us (splitDots (text.take (i + 1))) → Heap.SameBut pa h₃ h₅ →
        (Flow.next = Flow.next ∧ Stt (i + 1) h₅ ∧ ∃ h tk' m vs, ({ s with heap := h₅, toks := tk } : Shared) = { s with heap := h, toks := tk' } ∧ Fr s.heap L h m ∧ m (Str.ofString "parts") = some (.ref pa) ∧ m (Str.ofString "build") = some (.str (St build) t') ∧ LstAt h pa vs ∧ TextsAre vs (splitDots (text.take (i + 1)))) := by
      intro h₅ tk m₅ us F₅ q1 q2 q3 q4 hs₅
      refine ⟨rfl, (W _ hh).frame _ _ _ hst' fun b hb o' e => ?_, _, _, _, _, rfl, F₅, q1, q2, q3, q4⟩
      rw [List.mem_singleton.mp hb] at e ⊢
      exact (hs₅.2 I (Ne.symm hpI)).trans ((hs₃.2 I (Ne.symm hLI)).trans e)
    refine wpAny_execs_cons (wpAny_If (wpAny_isTrue_Compare1 (ldv V F₃ rfl rfl (wpAny_Constant_str (P.eq_str (wpAny_truthy_bool ?_))))))
    rw [show (Str.ofString ".").cps.toList = [46] from by decide +kernel]
    by_cases hdot : d = 46
    · subst hdot
      refine PySem.W.ite_pos rfl ?_
      refine wpAny_execs_cons (wpAny_Expr ?_ V.inter)
      refine MethodCall_ (ldv V F₃ rfl hm1 (getMethod_list_of PySem.F.slot_list_append PySem.F.type_list_append hP₃.isList hP₃.noDict (callWith_method1 (args_cons (wpAny_Constant_str (args_nil (lst_append hP₃ (by omega) fun h₄ hP₄ hs₄ => ?_)))))))
      dsimp only
      refine wpAny_execs_nil (wpAny_execs_nil ?_)
      refine hend _ _ _ _ (frSame F₃ hs₄ (Ne.symm hpL) hpa0) hm1 hm2 hP₄ ?_ hs₄
      rw [show Str.ofString "" = St [] from by decide +kernel, e1]
      unfold splitDots at hT ⊢
      rw [pst_snoc]
      unfold pstep
      rw [if_pos rfl]
      exact hT.snoc
    · refine PySem.W.ite_neg (by simpa using hdot) ?_
      obtain ⟨us, tu, rfl, hus⟩ := TextsAre.snoc_inv hT
      refine wpAny_execs_cons (wpAny_AugAssign_SubscriptAny ?_)
      refine ldv V F₃ rfl hm1 (UnaryOp_ (wpAny_Constant_int (neg_int (lst_last hP₃ (ldv V F₃ rfl rfl (SB.iadd (fun tn kn => ?_) ?_))))))
      · refine lst_set (j := us.length) hP₃ (by decide) ?_ (by simp) fun h₄ hP₄ hs₄ => ?_
        · rw [seqIndex_neg (by decide) (by simp; omega)]
          simp only [List.length_append, List.length_cons, List.length_nil, Option.some.injEq]
          omega
        · dsimp only
          refine wpAny_execs_nil (wpAny_execs_nil ?_)
          refine hend _ _ _ _ (frSame F₃ hs₄ (Ne.symm hpL) hpa0) hm1 hm2 hP₄ ?_ hs₄
          rw [List.set_append_right _ _ (Nat.le_refl _), Nat.sub_self, List.set_cons_zero, e1]
          unfold splitDots
          rw [pst_snoc]
          unfold pstep
          rw [if_neg hdot, show (⟨#[d]⟩ : Str) = St [d] from rfl, St_append]
          exact hus.snoc
      · rw [show (⟨#[d]⟩ : Str) = St [d] from rfl, St_length, St_length, sizeLine_eq]
        simp only [List.length_cons, List.length_nil]
        omega
  · rintro s' ⟨h, tk', m, vs, rfl, Fm, hm1, hm2, hP, hT⟩
    clear hst W
    have hn : (St text).cps.size = text.length := by simp
    rw [hn, List.take_length] at hT
    dsimp only
    -- if build != ''
    refine wpAny_execs_cons (wpAny_If (wpAny_isTrue_Compare1 (ldv V Fm rfl hm2 (wpAny_Constant_str (P.ne_str (wpAny_truthy_bool ?_))))))
    rw [show (St build).cps.toList = build from rfl, show (Str.ofString "").cps.toList = [] from by decide +kernel]
    have hpL : pa ≠ L := hP.ne_ns Fm.ns
    have hvl : vs.length < 100000 := by
      rw [hT.length]; unfold splitDots
      have := pst_len text
      simp only [List.length_append, List.length_cons, List.length_nil] at this ⊢
      omega
    refine if_merge (fun s' => ∃ h tk m vs, s' = { s with heap := h, toks := tk } ∧ Fr s.heap L h m ∧ m (Str.ofString "parts") = some (.ref pa) ∧ LstAt h pa vs ∧ TextsAre vs (splitDots text ++ (if build = [] then [] else [build]))) ?_ ?_ ?_
    · intro hb
      have hb' : ¬ build = [] := by simpa using hb
      refine wpAny_execs_cons (wpAny_Expr ?_ V.inter)
      refine MethodCall_ (ldv V Fm rfl hm1 (getMethod_list_of PySem.F.slot_list_append PySem.F.type_list_append hP.isList hP.noDict (callWith_method1 (args_cons (ldv V Fm rfl hm2 (args_nil (lst_append hP (by omega) fun h₄ hP₄ hs₄ => ?_)))))))
      dsimp only
      refine wpAny_execs_nil ⟨rfl, _, _, _, _, rfl, frSame Fm hs₄ (Ne.symm hpL) hpa0, hm1, hP₄, ?_⟩
      rw [if_neg hb']
      exact hT.snoc
    · intro hb
      have hb' : build = [] := by simpa using hb
      refine wpAny_execs_nil ⟨rfl, _, _, _, _, rfl, Fm, hm1, hP, ?_⟩
      rw [if_pos hb', List.append_nil]
      exact hT
    clear hT hP hm1 hm2 Fm hvl hpL
    rintro s' ⟨h, tk', m, vs, rfl, Fm, hm1, hP, hT⟩
    have hpL : pa ≠ L := hP.ne_ns Fm.ns
    have hparts : ∀ p ∈ splitDots text ++ (if build = [] then [] else [build]), p.length ≤ 1000 := by
      intro p hp
      rcases List.mem_append.mp hp with hp | hp
      · unfold splitDots at hp
        rcases List.mem_append.mp hp with hp | hp
        · exact Nat.le_trans (pst_parts text p hp) hlt
        · rw [List.mem_singleton.mp hp]; exact Nat.le_trans (pst_cur text) hlt
      · split at hp
        · cases hp
        · rw [List.mem_singleton.mp hp]; exact hlb
    have hvl : vs.length < 100000 := by
      rw [hT.length]; unfold splitDots
      have := pst_len text
      rw [List.length_append, List.length_append]
      split <;> simp <;> omega
    have hR : ranksTold text build = ((splitDots text ++ (if build = [] then [] else [build])).take 3).flatMap tellPart := rfl
    rw [hR] at hQ
    clear hR
    generalize hps : splitDots text ++ (if build = [] then [] else [build]) = ps at *
    clear hps
    -- told = []
    dsimp only
    refine wpAny_execs_cons ?_
    with_reducible refine wpAny_Assign_Name ?_ ?_
    rotate_left
    with_unfolding_all rfl
    refine wpAny_List (args_nil ⟨by decide, ?_⟩)
    dsimp only
    have hta0 : s.heap.get? h.objs.size = none := Keep.none Fm.keep (size_none _)
    refine stv V (frKeep Fm (pushKeep _ _)) rfl fun h₅ F₅ hs₅ => ?_
    have hLta : h.objs.size ≠ L := Ne.symm (Nat.ne_of_lt Fm.ns.lt)
    have hpta : pa ≠ h.objs.size := Nat.ne_of_lt hP.lt
    have hP₅ : LstAt h₅ pa vs := (hP.keep (pushKeep _ _)).same hs₅ hpL
    have hTa₅ : LstAt h₅ h.objs.size [] := LstAt.new.same hs₅ hLta
    dsimp only at hs₅ ⊢
    generalize h.objs.size = ta at *
    -- for part in parts[:3]
    refine wpAny_execs_cons (wpAny_For (slice_list (b := 3) (ldv V F₅ rfl hm1 ⟨pa, vs, rfl, hP₅.isList, by omega, fun h₆ la k₆ hla0 hla hL₆ => ?_⟩)))
    have F₆ := frKeep F₅ k₆
    have hTa₆ := hTa₅.keep k₆
    have htala : ta ≠ la := by
      intro q; subst q
      obtain ⟨n, e⟩ := hTa₅
      rw [e] at hla0; cases hla0
    have hLla : L ≠ la := by
      intro q; subst q
      obtain ⟨oL, _, _, e, _⟩ := F₅.ns
      rw [e] at hla0; cases hla0
    have hgla : s.heap.get? la = none := Keep.none F₅.keep hla0
    refine wpAny_pyIter_list hL₆.isList ?_
    dsimp only
    have hLI : L ≠ h₆.objs.size := Nat.ne_of_lt F₆.ns.lt
    have hgI : s.heap.get? h₆.objs.size = none := Keep.none F₆.keep (size_none _)
    have htaI : ta ≠ h₆.objs.size := Nat.ne_of_lt hTa₆.lt
    have hlaI : la ≠ h₆.objs.size := Nat.ne_of_lt hla
    have hit0 : (h₆.push { cls := .type "list_iterator", data := .fields #[.ref la, .int 0 0] }).IsListIter h₆.objs.size la 0 := ⟨_, Heap.get?_push_size _ rfl, rfl, rfl⟩
    have W := Walks.list (prog := prog) (w := w) (A := A.deeper env) hh h₆.objs.size la hlaI (vs.take 3).toArray
    generalize h₆.objs.size = I₂ at *
    have hTx := hT.take 3
    refine forW W (fun i s' => ∃ h tk m us, s' = { s with heap := h, toks := tk } ∧ Fr s.heap L h m ∧ m (Str.ofString "told") = some (.ref ta) ∧ LstAt h ta us ∧ DtsAre us (((ps.take 3).take i).flatMap tellPart)) ⟨hit0, (hL₆.keep (pushKeep _ _)).isList⟩
        ⟨_, _, _, _, rfl, frKeep F₆ (pushKeep _ _), rfl, hTa₆.keep (pushKeep _ _), .nil⟩ ?_ ?_ ?_
    · rintro i s' h' tk ⟨h, tk', m, us, rfl, Fm, hm1, hP, hT⟩ hk
      exact ⟨h', tk, m, us, rfl, frWalked Fm hLI hgI hk, hm1, hP.at fun o e => hk ta o (by simpa using htaI) e, hT⟩
    · rintro i x s' hi hx hst' ⟨h, tk', m, us, rfl, Fm, hm1, hU, hD⟩
      obtain ⟨part, tp, hpt, rfl⟩ := hTx.get (by simpa using hx)
      have hpl : part.length ≤ 1000 := hparts part (List.mem_of_mem_take (List.mem_of_getElem? hpt))
      have hul : (((ps.take 3).take i).flatMap tellPart).length ≤ 6006 := by
        refine Nat.le_trans (tell_len fun p hp => hparts p (List.mem_of_mem_take (List.mem_of_mem_take hp))) ?_
        have : ((ps.take 3).take i).length ≤ 3 := by simp; omega
        omega
      have e0 : ((ps.take 3).take (i + 1)).flatMap tellPart = ((ps.take 3).take i).flatMap tellPart ++ tellPart part := by
        rw [List.take_add_one, hpt, List.flatMap_append]
        simp
      rw [e0]
      generalize ((ps.take 3).take i).flatMap tellPart = told0 at *
      clear e0 hx hpt
      refine stv V Fm rfl fun h₇ F₇ hs₇ => ?_
      have hUL : ta ≠ L := hU.ne_ns Fm.ns
      have hU₇ := hU.same hs₇ hUL
      have hst₇ := W.frame _ _ _ hst' fun b hb o e => (hs₇.2 b (by
        rcases List.mem_cons.mp hb with rfl | hb
        · exact Ne.symm hLI
        · rw [List.mem_singleton.mp hb]; exact Ne.symm hLla)).trans e
      -- run = ''
      dsimp only
      refine wpAny_execs_cons ?_
      with_reducible refine wpAny_Assign_Name ?_ ?_
      rotate_left
      with_unfolding_all rfl
      refine wpAny_Constant_str (stv V F₇ rfl fun h₈ F₈ hs₈ => ?_)
      have hempty : Str.ofString "" = St [] := by decide +kernel
      rw [hempty] at F₈
      have hU₈ := hU₇.same hs₈ hUL
      have hst₈ := W.frame _ _ _ hst₇ fun b hb o e => (hs₈.2 b (by
        rcases List.mem_cons.mp hb with rfl | hb
        · exact Ne.symm hLI
        · rw [List.mem_singleton.mp hb]; exact Ne.symm hLla)).trans e
      dsimp only
      -- for c in part
      refine wpAny_execs_cons (wpAny_For (ldv V F₈ rfl rfl (wpAny_pyIter_str ?_)))
      intro o₃ Stt₃ W₃ hst₃
      have hLI₃ : L ≠ h₈.objs.size := Nat.ne_of_lt F₈.ns.lt
      have hgI₃ : s.heap.get? h₈.objs.size = none := Keep.none F₈.keep (size_none _)
      have htaI₃ : ta ≠ h₈.objs.size := Nat.ne_of_lt hU₈.lt
      have hII₃ : I₂ ≠ h₈.objs.size := by
        obtain ⟨⟨oi, hoi, _⟩, _⟩ := id hst₈
        exact Nat.ne_of_lt (Heap.lt_size hoi)
      have hlaI₃ : la ≠ h₈.objs.size := by
        obtain ⟨_, ⟨oi, hoi, _⟩⟩ := id hst₈
        exact Nat.ne_of_lt (Heap.lt_size hoi)
      have hst₈' := W.frame _ _ (h₈.push o₃) hst₈ fun b _ o e => Heap.get?_push_of_some _ e
      have hU₈' := hU₈.keep (pushKeep h₈ o₃)
      have F₈' := frKeep F₈ (pushKeep h₈ o₃)
      dsimp only at W₃ hst₃ ⊢
      generalize h₈.objs.size = I₃ at *
      refine forW (W₃ _ hh) (fun j s' => ∃ h tk m us tr, s' = { s with heap := h, toks := tk } ∧ Fr s.heap L h m ∧ m (Str.ofString "told") = some (.ref ta) ∧ m (Str.ofString "run") = some (.str (St (tst (part.take j)).1) tr) ∧
          LstAt h ta us ∧ DtsAre us (told0 ++ (tst (part.take j)).2) ∧ (h.IsListIter I₂ la (i + 1) ∧ h.IsList la (vs.take 3).toArray)) hst₃
          ⟨_, _, _, _, _, rfl, F₈', hm1, rfl, hU₈', by simpa [tst] using hD, hst₈'⟩ ?_ ?_ ?_
      · rintro j s' h' tk ⟨h, tk', m, us, tr, rfl, Fm, hm1, hm2, hP, hT, hit⟩ hk
        refine ⟨h', tk, m, us, tr, rfl, frWalked Fm hLI₃ hgI₃ hk, hm1, hm2, hP.at fun o e => hk ta o (by simpa using htaI₃) e, hT, W.frame _ _ _ hit fun b hb o e => hk b o ?_ e⟩
        rcases List.mem_cons.mp hb with rfl | hb
        · simpa using hII₃
        · rw [List.mem_singleton.mp hb]; simpa using hlaI₃
      · rintro j x s' hj ⟨d, u, hd, rfl⟩ hst₉ ⟨h, tk', m, us, tr, rfl, Fm, hm1, hm2, hU, hD, hit⟩
        have hit' : part[j]? = some d := by simpa using hd
        have hj' : j < part.length := (List.getElem?_eq_some_iff.mp hit').1
        have e1 : part.take (j + 1) = part.take j ++ [d] := by rw [List.take_add_one, hit']; rfl
        rw [e1, tst_snoc]
        have hok := tst_ok (part.take j)
        have hlen := tst_len (part.take j)
        have htl : (part.take j).length ≤ 1000 := by simp; omega
        have hul' : us.length ≤ 8100 := by
          rw [hD.length, List.length_append]
          have : told0.length ≤ 6006 := by assumption
          omega
        generalize tst (part.take j) = pq at *
        obtain ⟨run, told⟩ := pq
        dsimp only at hok hlen hm2 hD ⊢
        clear e1 hit' hd
        have hta0' : s.heap.get? ta = none := hta0
        have hnI : ∀ b ∈ [I₂, la], b ≠ L := by
          intro b hb
          rcases List.mem_cons.mp hb with rfl | hb
          · exact Ne.symm hLI
          · rw [List.mem_singleton.mp hb]; exact Ne.symm hLla
        have hnT : ∀ b ∈ [I₂, la], b ≠ ta := by
          intro b hb
          rcases List.mem_cons.mp hb with rfl | hb
          · exact Ne.symm htaI
          · rw [List.mem_singleton.mp hb]; exact Ne.symm htala
        refine stv V Fm rfl fun hB FB hsB => ?_
        have hUB := hU.same hsB hUL
        have hitB := W.frame _ _ _ hit fun b hb o e => (hsB.2 b (hnI b hb)).trans e
        have hstB := (W₃ _ hh).frame _ _ _ hst₉ fun b hb o e => (hsB.2 b (by rw [List.mem_singleton.mp hb]; exact Ne.symm hLI₃)).trans e
        have BB : Base w hB mg mb := BX.keeps FB.keep
        dsimp only at hitB hstB hUB ⊢
        refine seqP (fun s' => ∃ h tk m us tr, s' = { s with heap := h, toks := tk } ∧ Fr s.heap L h m ∧ m (Str.ofString "told") = some (.ref ta) ∧ m (Str.ofString "run") = some (.str (St (tmid (run, told) d).1) tr) ∧ m (Str.ofString "c") = some (.str (St [d]) u) ∧
          LstAt h ta us ∧ DtsAre us (told0 ++ (tmid (run, told) d).2) ∧ (h.IsListIter I₂ la (i + 1) ∧ h.IsList la (vs.take 3).toArray) ∧ Stt₃ (j + 1) h) ?_ ?_
        · refine wpAny_If (isTrue_and (wpAny_isTrue_Compare1 (ldv V FB rfl hm2 (wpAny_Constant_str (P.ne_str (wpAny_truthy_bool ?_))))))
          rw [show (St run).cps.toList = run from rfl, show (Str.ofString "").cps.toList = [] from by decide +kernel]
          cases run with
          | nil =>
            refine PySem.W.ite_neg (by simp) ?_
            refine PySem.W.ite_neg (by simp) ?_
            exact wpAny_execs_nil ⟨rfl, _, _, _, _, _, rfl, FB, hm1, hm2, rfl, hUB, hD, hitB, hstB⟩
          | cons e r =>
            refine PySem.W.ite_pos (by simp) ?_
            refine isTrue_and (wpAny_isTrue_Compare1 (Call_ (ldg V BB rfl rfl (callDef (mg := mg) (mb := mb) rfl ?_ rfl))))
            refine args_cons (Subscript_ (ldv V FB rfl hm2 (wpAny_Constant_int (subscriptTail_builtin (typeIs_str _ _ _) PySem.F.slot_str_getitem.lookup (SB.getItem rfl (by rw [charAt_head]; rfl) (args_nil ⟨BB, ?_⟩))))))
            rw [item_head]
            refine kind_call' (c := e) BB (show A.depth + 1 < recursionLimit by omega) fun hC tkC tC kC => ?_
            have FC := frKeep FB kC
            have BC := BB.keeps kC
            refine Call_ (ldg V BC rfl rfl (callDef (mg := mg) (mb := mb) rfl (args_cons (ldv V FC rfl rfl (args_nil ⟨BC, ?_⟩))) rfl))
            refine kind_call' (c := d) BC (show A.depth + 1 < recursionLimit by omega) fun hE tkE tE kE => ?_
            have FE := frKeep FC kE
            have BE := BC.keeps kE
            have hUE := (hUB.keep kC).keep kE
            have hitE := W.frame _ _ _ hitB fun b _ o e => kE b o (kC b o e)
            have hstE := (W₃ _ hh).frame _ _ _ hstB fun b _ o e => kE b o (kC b o e)
            refine ne_int (wpAny_truthy_bool ?_)
            by_cases hk : kindN e = kindN d
            · refine PySem.W.ite_neg (by simp [hk]) ?_
              refine PySem.W.ite_neg (by simp) ?_
              refine wpAny_execs_nil ?_
              rw [show tmid (e :: r, told) d = (e :: r, told) from by simp [tmid, hk]]
              exact ⟨rfl, _, _, _, _, _, rfl, FE, hm1, hm2, rfl, hUE, hD, hitE, hstE⟩
            · refine PySem.W.ite_pos (by simpa using hk) ?_
              refine isTrue_and_nil ?_
              refine PySem.W.ite_pos rfl ?_
              rw [show tmid (e :: r, told) d = ([], told ++ runTold (e :: r)) from by simp [tmid, hk]]
              refine wpAny_execs_cons (wpAny_AugAssign_Name (ldn' V FE rfl hm1 (Call_ (ldg V BE rfl rfl (callDef (mg := mg) (mb := mb) rfl (args_cons (ldv V FE rfl hm2 (args_nil ⟨BE, ?_⟩))) rfl)))))
              refine run_call BE (show A.depth + 1 + 5 < recursionLimit by omega) hh hok.pre fun hG tkG aG vG kG hG0 hLG hDG => ?_
              have FG := frKeep FE kG
              have hUG := hUE.keep kG
              have hvG : vG.length ≤ 2 := by rw [hDG.length]; exact runTold_len _
              refine lst_iadd hUG hLG (by omega) fun hH hUH hsH => ?_
              have FH := frSame FG hsH (Ne.symm hUL) hta0'
              refine stv V FH rfl fun hJ FJ hsJ => ?_
              have hUJ := hUH.same hsJ hUL
              dsimp only
              refine wpAny_execs_cons ?_
              with_reducible refine wpAny_Assign_Name ?_ ?_
              rotate_left
              with_unfolding_all rfl
              refine wpAny_Constant_str (stv V FJ rfl fun hK FK hsK => ?_)
              rw [hempty] at FK
              have hUK := hUJ.same hsK hUL
              dsimp only at hsK hsJ hsH
              refine wpAny_execs_nil ⟨rfl, _, _, _, _, _, rfl, FK, rfl, rfl, rfl, hUK, ?_, W.frame _ _ _ hitE fun b hb o e => ?_, (W₃ _ hh).frame _ _ _ hstE fun b hb o e => ?_⟩
              · rw [← List.append_assoc]; exact hD.append hDG
              · exact (hsK.2 b (hnI b hb)).trans ((hsJ.2 b (hnI b hb)).trans ((hsH.2 b (hnT b hb)).trans (kG b o e)))
              · have hb' := List.mem_singleton.mp hb
                subst hb'
                exact (hsK.2 _ (Ne.symm hLI₃)).trans ((hsJ.2 _ (Ne.symm hLI₃)).trans ((hsH.2 _ (Ne.symm htaI₃)).trans (kG _ o e)))
        · rw [tstep_mid]
          have hmlen : (tmid (run, told) d).1.length ≤ 1000 := Nat.le_trans (tmid_len _ _) (Nat.le_trans hlen.2 htl)
          generalize tmid (run, told) d = q at *
          obtain ⟨run', told'⟩ := q
          rintro s' ⟨h, tk', m, us, tr, rfl, Fm, hm1, hm2, hm3, hU, hD, hit, hst⟩
          have BM : Base w h mg mb := BX.keeps Fm.keep
          dsimp only at hm2 hD hmlen ⊢
          refine wpAny_execs_cons (wpAny_If (wpAny_isTrue_Compare1 (Call_ (ldg V BM rfl rfl (callDef (mg := mg) (mb := mb) rfl (args_cons (ldv V Fm rfl hm3 (args_nil ⟨BM, ?_⟩))) rfl)))))
          refine kind_call' (c := d) BM (show A.depth + 1 < recursionLimit by omega) fun hN tkN tN kN => ?_
          have FN := frKeep Fm kN
          have hUN := hU.keep kN
          have hitN := W.frame _ _ _ hit fun b _ o e => kN b o e
          have hstN := (W₃ _ hh).frame _ _ _ hst fun b _ o e => kN b o e
          refine wpAny_Constant_int (gt_int (wpAny_truthy_bool ?_))
          by_cases hk : 0 < kindN d
          · refine PySem.W.ite_pos (by simpa using hk) ?_
            rw [if_pos hk]
            refine wpAny_execs_cons (wpAny_AugAssign_Name (ldn' V FN rfl hm2 (ldv V FN rfl hm3 (SB.iadd (fun tn kn => ?_) ?_))))
            · rw [St_append]
              refine stv V FN rfl fun hR FR hsR => ?_
              dsimp only
              refine wpAny_execs_nil (wpAny_execs_nil ⟨rfl, (W₃ _ hh).frame _ _ _ hstN fun b hb o e => ?_, _, _, _, _, _, rfl, FR, hm1, rfl, hUN.same hsR hUL, hD, W.frame _ _ _ hitN fun b hb o e => ?_⟩)
              · have hb' := List.mem_singleton.mp hb
                subst hb'
                exact (hsR.2 _ (Ne.symm hLI₃)).trans e
              · exact (hsR.2 b (hnI b hb)).trans e
            · rw [St_length, St_length, sizeLine_eq]
              simp only [List.length_cons, List.length_nil]
              omega
          · refine PySem.W.ite_neg (by simpa using hk) ?_
            rw [if_neg hk]
            exact wpAny_execs_nil (wpAny_execs_nil ⟨rfl, hstN, _, _, _, _, _, rfl, FN, hm1, hm2, hUN, hD, hitN⟩)
      · rintro s' ⟨h, tk', m, us, tr, rfl, Fm, hm1, hm2, hU, hD, hit⟩
        have e : (St part).cps.size = part.length := by simp
        rw [e, List.take_length] at hm2 hD
        have hok := tst_ok part
        have hlen := tst_len part
        have B₉ : Base w h mg mb := BX.keeps Fm.keep
        dsimp only
        refine wpAny_execs_cons (wpAny_AugAssign_Name (ldn' V Fm rfl hm1 (Call_ (ldg V B₉ rfl rfl (callDef (mg := mg) (mb := mb) rfl (args_cons (ldv V Fm rfl hm2 (args_nil ⟨B₉, ?_⟩))) rfl)))))
        refine run_call B₉ (show A.depth + 1 + 5 < recursionLimit by omega) hh hok.pre fun hA tkA aA vA kA hA0 hLA hDA => ?_
        have FA := frKeep Fm kA
        have hvA : vA.length ≤ 2 := by rw [hDA.length]; exact runTold_len _
        have hul' : us.length ≤ 8100 := by
          rw [hD.length, List.length_append]
          have : told0.length ≤ 6006 := by assumption
          omega
        refine lst_iadd (hU.keep kA) hLA (by omega) fun hC hUC hsC => ?_
        have FC := frSame FA hsC (Ne.symm hUL) hta0
        refine stv V FC rfl fun hE FE hsE => ?_
        dsimp only at hsC hsE ⊢
        refine wpAny_execs_nil ⟨rfl, W.frame _ _ _ hit fun b hb o e => ?_, _, _, _, _, rfl, FE, rfl, hUC.same hsE hUL, ?_⟩
        · have hbL : b ≠ L := by
            rcases List.mem_cons.mp hb with rfl | hb
            · exact Ne.symm hLI
            · rw [List.mem_singleton.mp hb]; exact Ne.symm hLla
          have hbT : b ≠ ta := by
            rcases List.mem_cons.mp hb with rfl | hb
            · exact Ne.symm htaI
            · rw [List.mem_singleton.mp hb]; exact Ne.symm htala
          exact (hsE.2 b hbL).trans ((hsC.2 b hbT).trans (kA b o e))
        · unfold tellPart
          rw [← List.append_assoc]; exact hD.append hDA
    · rintro s' ⟨h, tk', m, us, rfl, Fm, hm1, hU, hD⟩
      dsimp only
      refine wpAny_execs_cons (wpAny_Return_some (ldv V Fm rfl hm1 ?_))
      refine hQ _ _ _ us Fm.keep hta0 hU ?_
      have e : (vs.take 3).toArray.size = (ps.take 3).length := by simp [hT.length]
      rw [e, List.take_length] at hD
      exact hD
end Mine

end TRanks

section TTextsP
open PySem PySem.W PyProof.Rows
set_option Elab.async false
set_option maxRecDepth 100000
set_option maxHeartbeats 400000
namespace Mine
open PySem PySem.W PySem.Calls PyProof.Rows

/-- the signs that the law's texts are made of -/
def alpha (c : Nat) : Bool := isDig c || isSep c || (65 ≤ c && c ≤ 90) || (97 ≤ c && c ≤ 122)
def OkText (l : List Nat) : Prop := ∀ c ∈ l, alpha c = true
theorem lit_0 : Str.ofString "0" = St [48] := by decide +kernel
theorem lit_1 : Str.ofString "1" = St [49] := by decide +kernel
theorem lit_2 : Str.ofString "9" = St [57] := by decide +kernel
theorem lit_3 : Str.ofString "." = St [46] := by decide +kernel
theorem lit_4 : Str.ofString "-" = St [45] := by decide +kernel
theorem lit_5 : Str.ofString "+" = St [43] := by decide +kernel
theorem lit_6 : Str.ofString "a" = St [97] := by decide +kernel
theorem lit_7 : Str.ofString "b" = St [98] := by decide +kernel
theorem lit_8 : Str.ofString "c" = St [99] := by decide +kernel
theorem lit_9 : Str.ofString "rc" = St [114, 99] := by decide +kernel
theorem lit_10 : Str.ofString "dev" = St [100, 101, 118] := by decide +kernel
theorem lit_11 : Str.ofString "p" = St [112] := by decide +kernel
theorem lit_12 : Str.ofString "007" = St [48, 48, 55] := by decide +kernel
theorem lit_13 : Str.ofString ".0" = St [46, 48] := by decide +kernel
theorem lit_14 : Str.ofString "l" = St [108] := by decide +kernel
theorem lit_15 : Str.ofString "alpha" = St [97, 108, 112, 104, 97] := by decide +kernel
theorem lit_16 : Str.ofString "beta" = St [98, 101, 116, 97] := by decide +kernel
theorem lit_17 : Str.ofString "R" = St [82] := by decide +kernel
theorem lit_18 : Str.ofString "C" = St [67] := by decide +kernel
def pieceList : List (List Nat) := [[48], [49], [57], [46], [45], [43], [97], [98], [99], [114, 99], [100, 101, 118], [112], [48, 48, 55], [46, 48], [108], [97, 108, 112, 104, 97], [98, 101, 116, 97], [82], [67]]
theorem pieces_ok : ∀ p ∈ pieceList, p.all alpha = true ∧ p.length ≤ 5 := by decide +kernel
theorem okText_of {p : List Nat} (h : p ∈ pieceList) : OkText p := fun c hc => List.all_eq_true.mp (pieces_ok p h).1 c hc
theorem OkText.append {a b : List Nat} (ha : OkText a) (hb : OkText b) : OkText (a ++ b) := fun c hc => (List.mem_append.mp hc).elim (ha c) (hb c)

/-- a pair of texts as a tuple of the heap's -/
def PairAt (h : Heap) (v : Value) (m b : List Nat) : Prop := ∃ a t u n, v = .ref a ∧ h.get? a = some { cls := .type "tuple", dict := none, data := .seq #[.str (St m) t, .str (St b) u] n, slots := #[] }
theorem PairAt.keep {h h' : Heap} {v : Value} {m b : List Nat} (x : PairAt h v m b) (k : Keep h h') : PairAt h' v m b := let ⟨a, t, u, n, e, q⟩ := x; ⟨a, t, u, n, e, k _ _ q⟩
def NotTup (h : Heap) (c : Addr) : Prop := ∀ o, h.get? c = some o → ¬ (o.cls = .type "tuple" ∧ ∃ xs n, o.data = .seq xs n)
theorem PairAt.same {h h' : Heap} {v : Value} {m b : List Nat} {c : Addr} (x : PairAt h v m b) (k : Heap.SameBut c h h') (hc : NotTup h c) : PairAt h' v m b := by
  obtain ⟨a, t, u, n, e, q⟩ := x
  refine ⟨a, t, u, n, e, (k.2 a ?_).trans q⟩
  intro hac; subst hac; exact hc _ q ⟨rfl, _, _, rfl⟩
def PairsOk (h : Heap) (vs : List Value) (n : Nat) : Prop := ∀ v ∈ vs, ∃ m b, PairAt h v m b ∧ OkText m ∧ OkText b ∧ m.length ≤ n ∧ b.length ≤ n
theorem PairsOk.map {h h' : Heap} {vs : List Value} {n n' : Nat} (x : PairsOk h vs n) (hn : n ≤ n') (k : ∀ v m b, PairAt h v m b → PairAt h' v m b) : PairsOk h' vs n' := fun v hv =>
  let ⟨m, b, p, q, r, l1, l2⟩ := x v hv; ⟨m, b, k v m b p, q, r, Nat.le_trans l1 hn, Nat.le_trans l2 hn⟩
theorem LstAt.notTup {h : Heap} {a : Addr} {vs : List Value} (x : LstAt h a vs) : NotTup h a := by
  obtain ⟨n, e⟩ := x
  intro o q; rw [e] at q; cases q; simp
theorem notTup_ns {h : Heap} {L : Addr} {m : Str → Option Value} (x : h.Ns L m) : NotTup h L := by
  obtain ⟨o', es, ep, e, hd, _⟩ := x
  intro o q; rw [e] at q; cases q
  rintro ⟨_, xs, n, q⟩; rw [hd] at q; cases q
/-- a display of written texts -/
def litStrs : List Expr → Option (List Str)
  | [] => some []
  | .Constant (.str x) _ _ :: r => (litStrs r).map (x :: ·)
  | _ => none
inductive StrsAre : List Value → List Str → Prop
  | nil : StrsAre [] []
  | cons {x : Str} {t : Tok} {vs : List Value} {xs : List Str} : StrsAre vs xs → StrsAre (.str x t :: vs) (x :: xs)
theorem StrsAre.length {vs : List Value} {xs : List Str} (h : StrsAre vs xs) : vs.length = xs.length := by
  induction h with
  | nil => rfl
  | cons _ ih => simp [ih]
theorem StrsAre.texts {vs : List Value} {ls : List (List Nat)} (h : StrsAre vs (ls.map St)) : TextsAre vs ls := by
  induction ls generalizing vs with
  | nil => cases h; exact .nil
  | cons l r ih => cases h with | cons h' => exact .cons (ih h')
theorem lit_display {M : Model} {A : Around} {E : Value → Shared → Prop} {env : Env} {pos : Pos} : ∀ (elts : List Expr) (xs : List Str) (s : Shared) (Q : List Value → Shared → Prop), litStrs elts = some xs →
    (∀ vs tk, StrsAre vs xs → Q vs { s with toks := tk }) → wpAny M A (spliced (backTo pos (starEach elts env))) Q E s
  | [], xs, s, Q, h, hQ => by cases h; exact args_nil (hQ [] s.toks .nil)
  | e :: r, xs, s, Q, h, hQ => by
    unfold litStrs at h
    split at h
    · rename_i q; cases q
    · rename_i x k p r' q
      injection q with q1 q2
      subst q1 q2
      cases hr : litStrs r with
      | none => rw [hr] at h; cases h
      | some ys =>
        rw [hr] at h
        cases h
        exact args_cons (wpAny_Constant_str (lit_display r ys _ _ hr fun vs tk hv => hQ _ tk (.cons hv)))
    · cases h
end Mine

end TTextsP

section TTexts
open PySem PySem.W PyProof.Rows
set_option Elab.async false
set_option maxRecDepth 100000
set_option maxHeartbeats 400000
namespace Mine
open PySem PySem.W PySem.Calls PyProof.Rows

theorem okText_nil : OkText [] := fun _ h => by cases h
theorem PairAt.walked {h h' : Heap} {v : Value} {m b : List Nat} {I : Addr} (x : PairAt h v m b) (hv : v ≠ .ref I) (k : ∀ b o, b ∉ [I] → h.get? b = some o → h'.get? b = some o) : PairAt h' v m b := by
  obtain ⟨a, t, u, n, rfl, q⟩ := x
  exact ⟨a, t, u, n, rfl, k _ _ (by simp; intro e; exact hv (by rw [e])) q⟩
theorem PairsOk.mapv {h h' : Heap} {vs : List Value} {n n' : Nat} (x : PairsOk h vs n) (hn : n ≤ n') (k : ∀ v ∈ vs, ∀ m b, PairAt h v m b → PairAt h' v m b) : PairsOk h' vs n' := fun v hv =>
  let ⟨m, b, p, q, r, l1, l2⟩ := x v hv; ⟨m, b, k v hv m b p, q, r, Nat.le_trans l1 hn, Nat.le_trans l2 hn⟩

theorem texts_call {w : World} {A : Around} {s : Shared} {l : Addr} {vs : List Value} {ns : List Int} {mg mb : Str → Option Value} {Q : Value → Shared → Prop} {E : Value → Shared → Prop}
  (BX : Base w s.heap mg mb) (hroom : A.depth + 10 < recursionLimit) (hh : A.handled = none) (hl : s.heap.IsList l vs.toArray) (hi : IntsAre vs ns) (hn : ns.length ≤ 63)
  (hQ : ∀ h' tk a us, Keep s.heap h' → s.heap.get? a = none → LstAt h' a us → us.length ≤ 13 → PairsOk h' us 60 → Q (.ref a) {s with heap := h', toks := tk}) :
  wpAny (model prog w) A (call (.ref 59) [.ref l]) Q E s := by
  refine enter (binds := [(Str.ofString "script", .ref l)]) BX (by omega) rfl rfl rfl (BindsTo.of_eq rfl) rfl rfl rfl (by decide) (locs rfl) rfl rfl rfl ?_
  intro env L h₁ V F
  dsimp only at V ⊢
  -- pieces = [..]
  refine wpAny_execs_cons ?_
  with_reducible refine wpAny_Assign_Name ?_ ?_
  rotate_left
  with_unfolding_all rfl
  refine wpAny_List ?_
  refine lit_display _ (pieceList.map St) _ _ ?hlit ?_
  case hlit =>
    simp only [litStrs, Option.map_some, lit_0, lit_1, lit_2, lit_3, lit_4, lit_5, lit_6, lit_7, lit_8, lit_9, lit_10, lit_11, lit_12, lit_13, lit_14, lit_15, lit_16, lit_17, lit_18]
    rfl
  intro pvs tk₂ hpv
  have T₂ := hpv.texts
  refine ⟨by rw [T₂.length]; decide, ?_⟩
  dsimp only
  have hpc0 : s.heap.get? h₁.objs.size = none := Keep.none F.keep (size_none _)
  have hLpc : h₁.objs.size ≠ L := Ne.symm (Nat.ne_of_lt F.ns.lt)
  refine stv V (frKeep F (pushKeep _ _)) rfl fun h₂ F₂ hs₂ => ?_
  dsimp only at hs₂ ⊢
  have P₂ : LstAt h₂ h₁.objs.size pvs := LstAt.new.same hs₂ hLpc
  generalize h₁.objs.size = pc at *
  have hempty : Str.ofString "" = St [] := by decide +kernel
  -- pair = ['', '']
  refine wpAny_execs_cons ?_
  with_reducible refine wpAny_Assign_Name ?_ ?_
  rotate_left
  with_unfolding_all rfl
  refine wpAny_List (args_cons (wpAny_Constant_str (args_cons (wpAny_Constant_str (args_nil ⟨by simp only [List.length_cons, List.length_nil]; decide, ?_⟩)))))
  rw [hempty]
  dsimp only
  have hpa0 : s.heap.get? h₂.objs.size = none := Keep.none F₂.keep (size_none _)
  have hLpa : h₂.objs.size ≠ L := Ne.symm (Nat.ne_of_lt F₂.ns.lt)
  have hpcpa : pc ≠ h₂.objs.size := Nat.ne_of_lt P₂.lt
  refine stv V (frKeep F₂ (pushKeep _ _)) rfl fun h₃ F₃ hs₃ => ?_
  dsimp only at hs₃ ⊢
  have P₃ : LstAt h₃ pc pvs := (P₂.keep (pushKeep _ _)).same hs₃ hLpc
  have A₃ : LstAt h₃ h₂.objs.size [.str (St []) tk₂.succ, .str (St []) (tk₂.succ + 1)] := LstAt.new.same hs₃ hLpa
  generalize h₂.objs.size = pa at *
  -- side = 0
  refine wpAny_execs_cons ?_
  with_reducible refine wpAny_Assign_Name ?_ ?_
  rotate_left
  with_unfolding_all rfl
  refine wpAny_Constant_int (stv V F₃ rfl fun h₄ F₄ hs₄ => ?_)
  have P₄ := P₃.same hs₄ hLpc
  have A₄ := A₃.same hs₄ hLpa
  dsimp only
  -- texts = [('', '')]
  refine wpAny_execs_cons ?_
  with_reducible refine wpAny_Assign_Name ?_ ?_
  rotate_left
  with_unfolding_all rfl
  refine wpAny_List (args_cons (wpAny_Tuple (args_cons (wpAny_Constant_str (args_cons (wpAny_Constant_str (args_nil ⟨by simp only [List.length_cons, List.length_nil]; decide, args_nil ⟨by simp only [List.length_cons, List.length_nil]; decide, ?_⟩⟩)))))))
  dsimp only
  generalize htup : h₄.push _ = h₅
  have k₅ : Keep h₄ h₅ := by rw [← htup]; exact pushKeep _ _
  have Tup₅ : PairAt h₅ (.ref h₄.objs.size) [] [] := ⟨_, _, _, _, rfl, by rw [← htup]; exact Heap.get?_push_size _ rfl⟩
  have F₅ := frKeep F₄ k₅
  have hta0 : s.heap.get? h₅.objs.size = none := Keep.none F₅.keep (size_none _)
  have hLta : h₅.objs.size ≠ L := Ne.symm (Nat.ne_of_lt F₅.ns.lt)
  have hpcta : pc ≠ h₅.objs.size := Nat.ne_of_lt (P₄.keep k₅).lt
  have hpata : pa ≠ h₅.objs.size := Nat.ne_of_lt (A₄.keep k₅).lt
  refine stv V (frKeep F₅ (pushKeep _ _)) rfl fun h₆ F₆ hs₆ => ?_
  dsimp only at hs₆ ⊢
  have P₆ := ((P₄.keep k₅).keep (pushKeep _ _)).same hs₆ hLpc
  have A₆ := ((A₄.keep k₅).keep (pushKeep _ _)).same hs₆ hLpa
  have X₆ : LstAt h₆ h₅.objs.size [.ref h₄.objs.size] := LstAt.new.same hs₆ hLta
  have O₆ : PairsOk h₆ [.ref h₄.objs.size] 0 := by
    intro v hv
    rw [List.mem_singleton.mp hv]
    exact ⟨[], [], (Tup₅.keep (pushKeep _ _)).same hs₆ (notTup_ns (F₅.ns.push _)), okText_nil, okText_nil, Nat.le_refl _, Nat.le_refl _⟩
  generalize h₅.objs.size = ta at *
  clear htup Tup₅ k₅
  -- for x in script[:12]
  have hl₆ : h₆.IsList l vs.toArray := hl.at fun o e => F₆.keep l o e
  refine wpAny_execs_cons (wpAny_For (slice_list (b := 12) (ldv V F₆ rfl rfl ⟨l, vs, rfl, hl₆, by rw [hi.length]; omega, fun h₇ la k₇ hla0 hla hL₇ => ?_⟩)))
  have F₇ := frKeep F₆ k₇
  have hne : ∀ {a us}, LstAt h₆ a us → a ≠ la := by
    rintro a us ⟨n, e⟩ q; subst q; rw [e] at hla0; cases hla0
  have hLla : L ≠ la := by
    intro q; subst q
    obtain ⟨oL, _, _, e, _⟩ := F₆.ns
    rw [e] at hla0; cases hla0
  refine wpAny_pyIter_list hL₇.isList ?_
  dsimp only
  have hLI : L ≠ h₇.objs.size := Nat.ne_of_lt F₇.ns.lt
  have hgI : s.heap.get? h₇.objs.size = none := Keep.none F₇.keep (size_none _)
  have hpcI : pc ≠ h₇.objs.size := Nat.ne_of_lt (P₆.keep k₇).lt
  have hpaI : pa ≠ h₇.objs.size := Nat.ne_of_lt (A₆.keep k₇).lt
  have htaI : ta ≠ h₇.objs.size := Nat.ne_of_lt (X₆.keep k₇).lt
  have hlaI : la ≠ h₇.objs.size := Nat.ne_of_lt hla
  have hit0 : (h₇.push { cls := .type "list_iterator", data := .fields #[.ref la, .int 0 0] }).IsListIter h₇.objs.size la 0 := ⟨_, Heap.get?_push_size _ rfl, rfl, rfl⟩
  have W := Walks.list (prog := prog) (w := w) (A := A.deeper env) hh h₇.objs.size la hlaI (vs.take 12).toArray
  have hpcla := hne P₆
  have hpala := hne A₆
  have htala := hne X₆
  have hnI : NotTup (h₇.push { cls := .type "list_iterator", data := .fields #[.ref la, .int 0 0] }) h₇.objs.size := by
    intro o q; rw [Heap.get?_push_size _ rfl] at q; cases q; simp
  have h4I : h₄.objs.size ≠ h₇.objs.size := by
    obtain ⟨m, b, ⟨a, _, _, _, e, q⟩, _⟩ := O₆ (.ref h₄.objs.size) (.head _)
    injection e with e
    rw [e]
    exact Nat.ne_of_lt (Heap.lt_size (k₇ _ _ q))
  generalize h₇.objs.size = I at *
  refine forW W (fun i s' => ∃ h tk m p0 p1 t0 t1 sd ts us, s' = { s with heap := h, toks := tk } ∧ Fr s.heap L h m ∧ m (Str.ofString "pieces") = some (.ref pc) ∧ m (Str.ofString "pair") = some (.ref pa) ∧ m (Str.ofString "texts") = some (.ref ta) ∧
      m (Str.ofString "side") = some (.int sd ts) ∧ (sd = 0 ∨ sd = 1) ∧ LstAt h pc pvs ∧ LstAt h pa [.str (St p0) t0, .str (St p1) t1] ∧ LstAt h ta us ∧ us.length = i + 1 ∧ (∀ v ∈ us, v ≠ .ref I) ∧ PairsOk h us (5 * i) ∧ OkText p0 ∧ OkText p1 ∧ p0.length ≤ 5 * i ∧ p1.length ≤ 5 * i) ⟨hit0, (hL₇.keep (pushKeep _ _)).isList⟩
      ⟨_, _, _, [], [], _, _, _, _, _, rfl, frKeep F₇ (pushKeep _ _), rfl, rfl, rfl, rfl, .inl rfl, (P₆.keep k₇).keep (pushKeep _ _), (A₆.keep k₇).keep (pushKeep _ _), (X₆.keep k₇).keep (pushKeep _ _), rfl, ?_,
        O₆.map (Nat.zero_le _) (fun v m b p => (p.keep k₇).keep (pushKeep _ _)), okText_nil, okText_nil, Nat.le_refl _, Nat.le_refl _⟩ ?_ ?_ ?_
  · intro v hv
    rw [List.mem_singleton.mp hv]
    intro e
    injection e with e
    exact h4I e
  · rintro i s' h' tk ⟨h, tk', m, p0, p1, t0, t1, sd, ts, us, rfl, Fm, m1, m2, m3, m4, hsd, hP, hA, hX, hul, huI, hO, o0, o1, l0, l1⟩ hk
    exact ⟨h', tk, m, p0, p1, t0, t1, sd, ts, us, rfl, frWalked Fm hLI hgI hk, m1, m2, m3, m4, hsd, hP.at fun o e => hk pc o (by simpa using hpcI) e, hA.at fun o e => hk pa o (by simpa using hpaI) e, hX.at fun o e => hk ta o (by simpa using htaI) e,
      hul, huI, hO.mapv (Nat.le_refl _) fun v hv m b p => p.walked (huI v hv) hk, o0, o1, l0, l1⟩
  · rintro i x s' hi' hx hst' ⟨h, tk', m, p0, p1, t0, t1, sd, ts, us, rfl, Fm, m1, m2, m3, m4, hsd, hP, hA, hX, hul, huI, hO, o0, o1, l0, l1⟩
    obtain ⟨n, tn, rfl⟩ : ∃ n tn, x = .int n tn := by
      have hx' : vs[i]? = some x := by
        have : (vs.take 12)[i]? = some x := by simpa using hx
        rw [List.getElem?_take] at this
        split at this
        · exact this
        · cases this
      have hlt : i < ns.length := by rw [← hi.length]; exact (List.getElem?_eq_some_iff.mp hx').1
      obtain ⟨t, ht⟩ := hi.get i ns[i] (by simp [hlt])
      rw [ht] at hx'
      injection hx' with hx'
      exact ⟨_, _, hx'.symm⟩
    clear hx
    have hPL : pc ≠ L := hLpc
    refine stv V Fm rfl fun hB FB hsB => ?_
    have hPB := hP.same hsB hLpc
    have hAB := hA.same hsB hLpa
    have hXB := hX.same hsB hLta
    have hOB : PairsOk hB us (5 * i) := hO.map (Nat.le_refl _) fun v m b p => p.same hsB (notTup_ns Fm.ns)
    have hnL : ∀ b ∈ [I, la], b ≠ L := by
      intro b hb
      rcases List.mem_cons.mp hb with rfl | hb
      · exact Ne.symm hLI
      · rw [List.mem_singleton.mp hb]; exact Ne.symm hLla
    have hnA : ∀ b ∈ [I, la], b ≠ pa := by
      intro b hb
      rcases List.mem_cons.mp hb with rfl | hb
      · exact Ne.symm hpaI
      · rw [List.mem_singleton.mp hb]; exact Ne.symm hpala
    have hnT : ∀ b ∈ [I, la], b ≠ ta := by
      intro b hb
      rcases List.mem_cons.mp hb with rfl | hb
      · exact Ne.symm htaI
      · rw [List.mem_singleton.mp hb]; exact Ne.symm htala
    have hitB := W.frame _ _ _ hst' fun b hb o e => (hsB.2 b (hnL b hb)).trans e
    dsimp only at hitB ⊢
    refine seqP (fun s' => ∃ h tk m p0 p1 t0 t1 sd ts, s' = { s with heap := h, toks := tk } ∧ Fr s.heap L h m ∧ m (Str.ofString "pieces") = some (.ref pc) ∧ m (Str.ofString "pair") = some (.ref pa) ∧ m (Str.ofString "texts") = some (.ref ta) ∧
      m (Str.ofString "side") = some (.int sd ts) ∧ (sd = 0 ∨ sd = 1) ∧ LstAt h pc pvs ∧ LstAt h pa [.str (St p0) t0, .str (St p1) t1] ∧ LstAt h ta us ∧ PairsOk h us (5 * i) ∧ OkText p0 ∧ OkText p1 ∧ p0.length ≤ 5 * (i + 1) ∧ p1.length ≤ 5 * (i + 1) ∧
      (h.IsListIter I la (i + 1) ∧ h.IsList la (vs.take 12).toArray)) ?_ ?_
    · have hm0 : 0 ≤ n.fmod 20 := PySem.W.fmod_lo n (by decide)
      have hm1 : n.fmod 20 < 20 := PySem.W.fmod_hi n (by decide)
      refine wpAny_If (wpAny_isTrue_Compare1 (wpAny_BinOp (ldv V FB rfl rfl (wpAny_Constant_int (mod_int (by decide) (wpAny_Constant_int (wpAny_eq_int (wpAny_truthy_bool ?_))))))))
      by_cases h19 : n.fmod 20 = 19
      · refine PySem.W.ite_pos (by rw [h19]; rfl) ?_
        refine wpAny_execs_cons ?_
        with_reducible refine wpAny_Assign_Name ?_ ?_
        rotate_left
        with_unfolding_all rfl
        refine wpAny_BinOp (wpAny_Constant_int (ldv V FB rfl m4 (sub_int (stv V FB rfl fun hC FC hsC => ?_))))
        refine wpAny_execs_nil ⟨rfl, _, _, _, p0, p1, t0, t1, 1 - sd, _, rfl, FC, m1, m2, m3, rfl, by omega, hPB.same hsC hLpc, hAB.same hsC hLpa, hXB.same hsC hLta, hOB.map (Nat.le_refl _) fun v m b p => p.same hsC (notTup_ns FB.ns), o0, o1, by omega, by omega,
          W.frame _ _ _ hitB fun b hb o e => (hsC.2 b (hnL b hb)).trans e⟩
      · refine PySem.W.ite_neg (by simpa using h19) ?_
        -- pair[side] += pieces[x % 20]
        have hk19 : (n.fmod 20).toNat < pvs.length := by
          rw [T₂.length]; have : pieceList.length = 19 := rfl
          omega
        obtain ⟨pl, tpl, hpl, epv⟩ := T₂.get (i := (n.fmod 20).toNat) (v := pvs[(n.fmod 20).toNat]) (by simp [hk19])
        have hplm : pl ∈ pieceList := List.mem_of_getElem? hpl
        have hplo := okText_of hplm
        have hpll := (pieces_ok pl hplm).2
        have hget : pvs[(n.fmod 20).toNat]? = some (.str (St pl) tpl) := by rw [List.getElem?_eq_getElem hk19, epv]
        refine wpAny_execs_cons (wpAny_AugAssign_SubscriptAny ?_)
        obtain ⟨j, old, told, hj, hold, hset⟩ : ∃ (j : Nat) (old : List Nat) (told : Tok), sd = (j : Int) ∧ ([.str (St p0) t0, .str (St p1) t1] : List Value)[j]? = some (.str (St old) told) ∧
            ((j = 0 ∧ old = p0) ∨ (j = 1 ∧ old = p1)) := by
          rcases hsd with rfl | rfl
          · exact ⟨0, p0, t0, rfl, rfl, .inl ⟨rfl, rfl⟩⟩
          · exact ⟨1, p1, t1, rfl, rfl, .inr ⟨rfl, rfl⟩⟩
        subst hj
        have hj2 : j < 2 := by rcases hset with ⟨rfl, _⟩ | ⟨rfl, _⟩ <;> decide
        have holdl : old.length ≤ 5 * i := by rcases hset with ⟨_, rfl⟩ | ⟨_, rfl⟩ <;> assumption
        have holdo : OkText old := by rcases hset with ⟨_, rfl⟩ | ⟨_, rfl⟩ <;> assumption
        refine ldv V FB rfl m2 (ldv V FB rfl m4 (lst_get hAB (by omega) (by omega) (by simpa using hold) ?_))
        refine Subscript_ (ldv V FB rfl m1 (wpAny_BinOp (ldv V FB rfl rfl (wpAny_Constant_int (mod_int (by decide) ?_)))))
        refine subscriptTail_builtin hPB.typeIs slot_list_getitem.lookup (lst_get hPB hm0 (by omega) hget (SB.iadd (fun tq kq => ?_) ?_))
        · rw [St_append]
          refine lst_set (j := j) hAB (fitsIndex_of (by omega) (by omega)) (by rw [seqIndex_of (by omega) (by simp; omega)]; simp) (by simpa using hj2) fun hD hAD hsD => ?_
          refine wpAny_execs_nil ?_
          have hOD : PairsOk hD us (5 * i) := hOB.map (Nat.le_refl _) fun v m b p => p.same hsD hAB.notTup
          have hXD := hXB.same hsD (Ne.symm hpata)
          have hPD := hPB.same hsD hpcpa
          have FD := frSame FB hsD (Ne.symm hLpa) hpa0
          have hitD := W.frame _ _ _ hitB fun b hb o e => (hsD.2 b (hnA b hb)).trans e
          rcases hset with ⟨rfl, rfl⟩ | ⟨rfl, rfl⟩
          · exact ⟨rfl, _, _, _, old ++ pl, p1, _, _, _, _, rfl, FD, m1, m2, m3, m4, hsd, hPD, hAD, hXD, hOD, holdo.append hplo, o1, by rw [List.length_append]; omega, by omega, hitD⟩
          · exact ⟨rfl, _, _, _, p0, old ++ pl, _, _, _, _, rfl, FD, m1, m2, m3, m4, hsd, hPD, hAD, hXD, hOD, o0, holdo.append hplo, by omega, by rw [List.length_append]; omega, hitD⟩
        · rw [St_length, St_length, sizeLine_eq]
          have : i < 12 := by have := hi'; simp at this; omega
          omega
    · rintro s' ⟨h, tk', m, p0, p1, t0, t1, sd, ts, rfl, Fm, m1, m2, m3, m4, hsd, hP, hA, hX, hO, o0, o1, l0, l1, hit⟩
      refine wpAny_execs_cons (wpAny_Expr ?_ V.inter)
      refine MethodCall_ (ldv V Fm rfl m3 (getMethod_list_of PySem.F.slot_list_append PySem.F.type_list_append hX.isList hX.noDict (callWith_method1 (args_cons (wpAny_Tuple ?_)))))
      refine args_cons (Subscript_ (ldv V Fm rfl m2 (wpAny_Constant_int (subscriptTail_builtin hA.typeIs slot_list_getitem.lookup (lst_get hA (by decide) (by decide) rfl ?_)))))
      refine args_cons (Subscript_ (ldv V Fm rfl m2 (wpAny_Constant_int (subscriptTail_builtin hA.typeIs slot_list_getitem.lookup (lst_get hA (by decide) (by decide) rfl (args_nil ⟨by simp only [List.length_cons, List.length_nil]; decide, ?_⟩))))))
      dsimp only
      generalize htup : h.push _ = hC
      have kC : Keep h hC := by rw [← htup]; exact pushKeep _ _
      have TupC : PairAt hC (.ref h.objs.size) p0 p1 := ⟨_, _, _, _, rfl, by rw [← htup]; exact Heap.get?_push_size _ rfl⟩
      have hXC := hX.keep kC
      have hi12 : i < 12 := by have := hi'; simp at this; omega
      refine args_nil (lst_append hXC (by omega) fun hD hXD hsD => ?_)
      dsimp only
      have FD := frSame (frKeep Fm kC) hsD (Ne.symm hLta) hta0
      have hhI : h.objs.size ≠ I := by
        obtain ⟨⟨oi, hoi, _⟩, _⟩ := hit
        exact Ne.symm (Nat.ne_of_lt (Heap.lt_size hoi))
      refine wpAny_execs_nil ⟨rfl, W.frame _ _ _ hit fun b hb o e => (hsD.2 b (hnT b hb)).trans (kC b o e), _, _, _, p0, p1, _, _, _, _, _, rfl, FD, m1, m2, m3, m4, hsd, (hP.keep kC).same hsD hpcta, (hA.keep kC).same hsD hpata, hXD,
        by rw [List.length_append, hul]; rfl, ?_, ?_, o0, o1, l0, l1⟩
      · intro v hv
        rcases List.mem_append.mp hv with hv | hv
        · exact huI v hv
        · rw [List.mem_singleton.mp hv]
          intro e; injection e with e; exact hhI e
      · intro v hv
        rcases List.mem_append.mp hv with hv | hv
        · exact hO.map (by omega) (fun v m b p => (p.keep kC).same hsD hXC.notTup) v hv
        · rw [List.mem_singleton.mp hv]
          exact ⟨p0, p1, TupC.same hsD hXC.notTup, o0, o1, l0, l1⟩
  · rintro s' ⟨h, tk', m, p0, p1, t0, t1, sd, ts, us, rfl, Fm, m1, m2, m3, m4, hsd, hP, hA, hX, hul, huI, hO, o0, o1, l0, l1⟩
    dsimp only
    have e12 : (vs.take 12).toArray.size ≤ 12 := by simp; omega
    refine wpAny_execs_cons (wpAny_Return_some (ldv V Fm rfl m3 ?_))
    exact hQ _ _ _ us Fm.keep hta0 hX (by omega) (hO.map (by omega) fun v m b p => p)
end Mine

end TTexts

section TSre1
set_option Elab.async false
set_option maxRecDepth 100000
set_option maxHeartbeats 400000
open PySem PySem.Sre
namespace Mine

def reCode : Array Nat := #[14, 4, 0, 1, 4294967295, 17, 0, 7, 14, 24, 10, 1, 4294967295, 13, 5, 22, 48, 57, 0, 1, 15, 17, 15, 13, 11, 9, 0, 26624, 2147483648, 0, 0, 0, 0, 0, 0, 15, 2, 0, 17, 1, 1]
abbrev fNS (s : Nat) (first : Bool) : Sre.Frame := { wait := .nextStart, pc := 5, pos := s, outermost := first }
/-- an attempt at s has begun -/
abbrev att (text : Array Nat) (n s : Nat) (first : Bool) (marks : Array (Option Nat)) (seen : Seen) : M :=
  { code := reCode, text, lim := n, start := s, lastStart := n, pc := 5, pos := s, handed := s, outermost := first, marks, lastmark := -1, lastindex := -1, frames := [fNS s first], weight := 1, seen }
theorem att_1 (text : Array Nat) (n s : Nat) (first : Bool) (a b : Option Nat) (seen : Seen) :
    (att text n s first #[a, b] seen).step = { att text n s first #[some s, b] (seen.add 17) with pc := 7, lastmark := 0 } := by rfl
abbrev k0 : Sre.Kept := { lastmark := 0, lastindex := -1 }
theorem att_2 (text : Array Nat) (n s : Nat) (first : Bool) (b : Option Nat) (seen : Seen) :
    ({ att text n s first #[some s, b] seen with pc := 7, lastmark := 0 } : M).step = { att text n s first #[some s, b] (seen.add 7) with pc := 9, lastmark := 0, frames := [{ wait := .nextBranch, pc := 8, pos := s, outermost := first, kept := k0 }, fNS s first], weight := 2 } := by rfl

def dig (c : Nat) : Bool := 48 ≤ c && c ≤ 57
def sepU (c : Nat) : Bool := c == 46 || c == 43 || c == 45 || c == 95

theorem acc_dig (c : Nat) (seen : Seen) : ∃ seen', accepts reCode 13 c seen = .ok (dig c, seen') := by
  have e : accepts reCode 13 c seen = (if (48 ≤ c && c ≤ 57) = true then .ok (true, seen.add 22) else .ok (false, (seen.add 22).add 0)) := by rfl
  rw [e]
  unfold dig
  cases h : (decide (48 ≤ c) && decide (c ≤ 57)) with
  | true => exact ⟨_, rfl⟩
  | false => exact ⟨_, rfl⟩

theorem charset_ok : ∀ c, c < 256 → (reCode.getD (25 + (1 + c / 32)) 0).testBit (c % 32) = sepU c := by decide +kernel
theorem acc_sep (c : Nat) (seen : Seen) : ∃ seen', accepts reCode 23 c seen = .ok (sepU c, seen') := by
  have e : accepts reCode 23 c seen = (if (decide (c < 256) && (reCode.getD (25 + (1 + c / 32)) 0).testBit (c % 32)) = true then .ok (true, seen.add 9) else .ok (false, (seen.add 9).add 0)) := by rfl
  rw [e]
  by_cases h : c < 256
  · rw [charset_ok c h, decide_eq_true h, Bool.true_and]
    cases sepU c with
    | true => exact ⟨_, rfl⟩
    | false => exact ⟨_, rfl⟩
  · rw [decide_eq_false h, Bool.false_and]
    have : sepU c = false := by
      unfold sepU
      simp only [Bool.or_eq_false_iff, beq_eq_false_iff_ne]
      omega
    rw [this]
    exact ⟨_, rfl⟩

/-- the length of the run of figures that begins at p -/
def digLen (l : List Nat) (p : Nat) : Nat := ((l.drop p).takeWhile dig).length
theorem run_dig (l : List Nat) : ∀ (c p f : Nat) (seen : Seen), l.length ≤ p + c → p ≤ l.length → ∃ seen', Sre.run reCode l.toArray 13 (l.length - p) p f seen = .ok (f + digLen l p, seen')
  | 0, p, f, seen, h1, h2 => by
    have : p = l.length := by omega
    subst this
    rw [Nat.sub_self]
    refine ⟨seen, ?_⟩
    have : digLen l l.length = 0 := by unfold digLen; simp
    rw [this]; rfl
  | c + 1, p, f, seen, h1, h2 => by
    by_cases hp : p = l.length
    · subst hp
      rw [Nat.sub_self]
      refine ⟨seen, ?_⟩
      have : digLen l l.length = 0 := by unfold digLen; simp
      rw [this]; rfl
    · have hlt : p < l.length := by omega
      obtain ⟨m, hm⟩ : ∃ m, l.length - p = m + 1 := ⟨l.length - p - 1, by omega⟩
      rw [hm]
      have hm' : m = l.length - (p + 1) := by omega
      obtain ⟨s1, h3⟩ := acc_dig (l.toArray.getD p 0) seen
      have hg : l.toArray.getD p 0 = l[p] := by simp [Array.getD, hlt]
      have hdrop : l.drop p = l[p] :: l.drop (p + 1) := by rw [List.drop_eq_getElem_cons hlt]
      show ∃ seen', (accepts reCode 13 (l.toArray.getD p 0) seen >>= fun r => if r.1 = true then Sre.run reCode l.toArray 13 m (p + 1) (f + 1) r.2 else pure (f, r.2)) = _
      rw [h3]
      show ∃ seen', (if dig (l.toArray.getD p 0) = true then Sre.run reCode l.toArray 13 m (p + 1) (f + 1) s1 else Except.ok (f, s1)) = _
      rw [hg]
      cases hd : dig l[p] with
      | true =>
        rw [if_pos rfl, hm']
        obtain ⟨s2, h4⟩ := run_dig l c (p + 1) (f + 1) s1 (by omega) (by omega)
        refine ⟨s2, ?_⟩
        rw [h4]
        have : digLen l p = 1 + digLen l (p + 1) := by
          unfold digLen
          rw [hdrop, List.takeWhile_cons, hd]
          simp; omega
        rw [this, Nat.add_assoc]
      | false =>
        rw [if_neg Bool.false_ne_true]
        refine ⟨s1, ?_⟩
        have : digLen l p = 0 := by
          unfold digLen
          rw [hdrop, List.takeWhile_cons, hd]; rfl
        rw [this]; rfl
end Mine

end TSre1

section TSre2
set_option Elab.async false
set_option maxRecDepth 100000
set_option maxHeartbeats 400000
open PySem PySem.Sre
namespace Mine

theorem runFor_succ (k : Nat) (m : M) : M.runFor (k + 1) m = if m.outcome.isSome then m else M.runFor k m.step := rfl
theorem runFor_stay (m : M) (h : m.outcome.isSome = true) (k : Nat) : M.runFor k m = m := by
  cases k with
  | zero => rfl
  | succ k => rw [runFor_succ, if_pos h]
theorem runFor_add : ∀ (a b : Nat) (m : M), M.runFor (a + b) m = M.runFor b (M.runFor a m)
  | 0, b, m => by rw [Nat.zero_add]; rfl
  | a + 1, b, m => by
    rw [show a + 1 + b = (a + b) + 1 by omega, runFor_succ, runFor_succ]
    split
    · rename_i h
      rw [runFor_stay m h]
    · exact runFor_add a b _
theorem runFor_one (m : M) (h : m.outcome = none) : M.runFor 1 m = m.step := by
  rw [runFor_succ, h]; rfl
theorem runFor_step (k : Nat) (m : M) (h : m.outcome = none) : M.runFor (k + 1) m = M.runFor k m.step := by
  rw [Nat.add_comm, runFor_add, runFor_one m h]

abbrev fB (pc s : Nat) (first : Bool) : Sre.Frame := { wait := .nextBranch, pc, pos := s, outermost := first, kept := k0 }
/-- behind the branch's word: the first way is tried -/
abbrev st9 (text : Array Nat) (n s : Nat) (first : Bool) (b : Option Nat) (seen : Seen) : M :=
  { att text n s first #[some s, b] seen with pc := 9, lastmark := 0, frames := [fB 8 s first, fNS s first], weight := 2 }
/-- the second way -/
abbrev st23 (text : Array Nat) (n s : Nat) (first : Bool) (b : Option Nat) (seen : Seen) : M :=
  { att text n s first #[some s, b] seen with pc := 23, lastmark := 0, frames := [fB 22 s first, fNS s first], weight := 2 }

theorem run3 (text : Array Nat) (n s : Nat) (first : Bool) (a b : Option Nat) (seen : Seen) : ∃ seen', M.runFor 2 (att text n s first #[a, b] seen) = st9 text n s first b seen' := by
  rw [runFor_step _ _ rfl, att_1, runFor_step _ _ rfl, att_2]
  exact ⟨_, rfl⟩

theorem rep_no_room (text : Array Nat) (n s : Nat) (first : Bool) (b : Option Nat) (seen : Seen) (h : n ≤ s) :
    (st9 text n s first b seen).step = { st9 text n s first b (seen.add 24) with answer := some false } := by
  show (if ((1 : Nat) : Int) > ((n : Int) - (s : Int)) then _ else _) = _
  rw [if_pos (by omega)]
  rfl

theorem rep_none (l : List Nat) (s : Nat) (first : Bool) (b : Option Nat) (seen : Seen) (h : s < l.length) (hl : l.length < 4000000000) (hd : digLen l s = 0) :
    ∃ seen', (st9 l.toArray l.length s first b seen).step = { st9 l.toArray l.length s first b seen' with answer := some false } := by
  obtain ⟨s1, h1⟩ := run_dig l l.length s 0 ((seen.add 24).add 13) (by omega) (by omega)
  refine ⟨s1, ?_⟩
  show (if ((1 : Nat) : Int) > ((l.length : Int) - (s : Int)) then _ else (match Sre.run reCode l.toArray 13 (min 4294967295 ((l.length : Int) - (s : Int)).toNat) s 0 ((seen.add 24).add 13) with | .error why => _ | .ok (n, seen) => _)) = _
  rw [if_neg (by omega), show min 4294967295 ((l.length : Int) - (s : Int)).toNat = l.length - s by omega, h1, hd]
  rfl

/-- found: from b up to e -/
structure Hit (m : M) (b e : Nat) : Prop where
  out : m.outcome = some .matched
  st : m.start = b
  hd : m.handed = e
  mks : m.marks = #[some b, some e]
  lm : m.lastmark = 1

theorem rep_some (l : List Nat) (s : Nat) (first : Bool) (b : Option Nat) (seen : Seen) (h : s < l.length) (hl : l.length < 4000000000) (hd : 0 < digLen l s) :
    ∃ seen', (st9 l.toArray l.length s first b seen).step = { st9 l.toArray l.length s first b seen' with pc := 20, pos := s + digLen l s, handed := s + digLen l s, frames := [{ wait := .giveBack, pc := 9, pos := s + digLen l s, outermost := first, count := (digLen l s : Nat), kept := k0 }, fB 8 s first, fNS s first], weight := 3 } := by
  obtain ⟨s1, h1⟩ := run_dig l l.length s 0 ((seen.add 24).add 13) (by omega) (by omega)
  refine ⟨s1, ?_⟩
  show (if ((1 : Nat) : Int) > ((l.length : Int) - (s : Int)) then _ else (match Sre.run reCode l.toArray 13 (min 4294967295 ((l.length : Int) - (s : Int)).toNat) s 0 ((seen.add 24).add 13) with | .error why => _ | .ok (n, seen) => _)) = _
  rw [if_neg (by omega), show min 4294967295 ((l.length : Int) - (s : Int)).toNat = l.length - s by omega, h1, Nat.zero_add]
  obtain ⟨k, hk⟩ : ∃ k, digLen l s = k + 1 := ⟨digLen l s - 1, by omega⟩
  rw [hk]
  rfl

/-- at the second mark's word -/
abbrev st38 (text : Array Nat) (n s e h : Nat) (first : Bool) (b : Option Nat) (fr : List Sre.Frame) (wt : Nat) (seen : Seen) : M :=
  { st9 text n s first b seen with pc := 38, pos := e, handed := h, frames := fr, weight := wt }
theorem jump20 (text : Array Nat) (n s e h : Nat) (first : Bool) (b : Option Nat) (fr : List Sre.Frame) (wt : Nat) (seen : Seen) :
    ({ st9 text n s first b seen with pc := 20, pos := e, handed := h, frames := fr, weight := wt } : M).step = st38 text n s e h first b fr wt (seen.add 15) := by rfl
theorem jump35 (text : Array Nat) (n s e h : Nat) (first : Bool) (b : Option Nat) (fr : List Sre.Frame) (wt : Nat) (seen : Seen) :
    ({ st9 text n s first b seen with pc := 35, pos := e, handed := h, frames := fr, weight := wt } : M).step = st38 text n s e h first b fr wt (seen.add 15) := by rfl
theorem mark38 (text : Array Nat) (n s e h : Nat) (first : Bool) (b : Option Nat) (fr : List Sre.Frame) (wt : Nat) (seen : Seen) :
    (st38 text n s e h first b fr wt seen).step = { st38 text n s e h first b fr wt (seen.add 17) with pc := 40, marks := #[some s, some e], lastmark := 1, lastindex := 1 } := by
  show M.mark { st38 text n s e h first b fr wt (seen.add 17) with pc := 38 } 1 = _
  have h1 : (M.mark { st38 text n s e h first b fr wt (seen.add 17) with pc := 38 } 1).marks = #[some s, some e] := by rfl
  have h2 : (M.mark { st38 text n s e h first b fr wt (seen.add 17) with pc := 38 } 1).lastmark = 1 := by rfl
  have h3 : (M.mark { st38 text n s e h first b fr wt (seen.add 17) with pc := 38 } 1).lastindex = 1 := by rfl
  have h4 : (M.mark { st38 text n s e h first b fr wt (seen.add 17) with pc := 38 } 1).pc = 40 := by rfl
  rfl
theorem succ40 (text : Array Nat) (n s e h : Nat) (first : Bool) (b : Option Nat) (fr : List Sre.Frame) (wt : Nat) (seen : Seen) :
    ({ st38 text n s e h first b fr wt seen with pc := 40, marks := #[some s, some e], lastmark := 1, lastindex := 1 } : M).step =
      { st38 text n s e e first b fr wt (seen.add 1) with pc := 40, marks := #[some s, some e], lastmark := 1, lastindex := 1, answer := some true } := by
  cases first <;> rfl
/-- said yes -/
abbrev yes (text : Array Nat) (n s e pc pos : Nat) (o : Bool) (fr : List Sre.Frame) (wt : Nat) (seen : Seen) : M :=
  { code := reCode, text, lim := n, start := s, lastStart := n, pc, pos, handed := e, outermost := o, marks := #[some s, some e], lastmark := 1, lastindex := 1, frames := fr, weight := wt, answer := some true, seen }
theorem yes_gb (text : Array Nat) (n s e pc pos : Nat) (o : Bool) (fr : List Sre.Frame) (wt : Nat) (seen : Seen) (pc' pos' : Nat) (o' : Bool) (k : Int) :
    (yes text n s e pc pos o ({ wait := .giveBack, pc := pc', pos := pos', outermost := o', count := k, kept := k0 } :: fr) (wt + 1) seen).step = yes text n s e pc' pos' o' fr wt seen := by rfl
theorem yes_nb (text : Array Nat) (n s e pc pos : Nat) (o : Bool) (fr : List Sre.Frame) (wt : Nat) (seen : Seen) (pc' pos' : Nat) (o' : Bool) :
    (yes text n s e pc pos o ({ wait := .nextBranch, pc := pc', pos := pos', outermost := o', kept := k0 } :: fr) (wt + 1) seen).step = yes text n s e pc' pos' o' fr wt seen := by rfl
theorem yes_ns (text : Array Nat) (n s e pc pos : Nat) (o : Bool) (fr : List Sre.Frame) (wt : Nat) (seen : Seen) (pc' pos' : Nat) (o' : Bool) :
    (yes text n s e pc pos o ({ wait := .nextStart, pc := pc', pos := pos', outermost := o' } :: fr) (wt + 1) seen).step = yes text n s e pc' pos' o' fr wt seen := by rfl
theorem yes_end (text : Array Nat) (n s e pc pos : Nat) (o : Bool) (wt : Nat) (seen : Seen) :
    (yes text n s e pc pos o [] wt seen).step = { yes text n s e pc pos o [] wt seen with outcome := some .matched } := by rfl

theorem hit_end (text : Array Nat) (n s e pc pos : Nat) (o : Bool) (wt : Nat) (seen : Seen) : Hit { yes text n s e pc pos o [] wt seen with outcome := some .matched } s e := ⟨rfl, rfl, rfl, rfl, rfl⟩

theorem dig_tail (text : Array Nat) (n s e : Nat) (first : Bool) (b : Option Nat) (seen : Seen) (k : Int) :
    Hit (M.runFor 7 { st9 text n s first b seen with pc := 20, pos := e, handed := e, frames := [{ wait := .giveBack, pc := 9, pos := e, outermost := first, count := k, kept := k0 }, fB 8 s first, fNS s first], weight := 3 }) s e := by
  rw [runFor_step _ _ rfl, jump20, runFor_step _ _ rfl, mark38, runFor_step _ _ rfl, succ40, runFor_step _ _ rfl]
  have := yes_gb text n s e 40 e first [fB 8 s first, fNS s first] 2 (((seen.add 15).add 17).add 1) 9 e first k
  rw [show ({ st38 text n s e e first b [{ wait := .giveBack, pc := 9, pos := e, outermost := first, count := k, kept := k0 }, fB 8 s first, fNS s first] 3 (((seen.add 15).add 17).add 1) with pc := 40, marks := #[some s, some e], lastmark := 1, lastindex := 1, answer := some true } : M).step = _ from this]
  rw [runFor_step _ _ rfl, yes_nb, runFor_step _ _ rfl, yes_ns, runFor_step _ _ rfl, yes_end]
  exact hit_end ..

/-- the first way failed: the second is tried -/
theorem alt2 (text : Array Nat) (n s : Nat) (first : Bool) (b : Option Nat) (seen : Seen) :
    M.runFor 1 { st9 text n s first b seen with answer := some false } = st23 text n s first b seen := by rfl

theorem sep_none (l : List Nat) (s : Nat) (first : Bool) (b : Option Nat) (seen : Seen) (h : s < l.length) (hs : sepU l[s] = false) :
    ∃ seen', (st23 l.toArray l.length s first b seen).step = { st23 l.toArray l.length s first b seen' with answer := some false } := by
  obtain ⟨s1, h1⟩ := acc_sep (l.toArray.getD s 0) (seen.add 13)
  have hg : l.toArray.getD s 0 = l[s] := by simp [Array.getD, h]
  refine ⟨s1, ?_⟩
  show (if s ≥ l.length then _ else (match accepts reCode 23 (l.toArray.getD s 0) (seen.add 13) with | .error why => _ | .ok (false, seen) => _ | .ok (true, seen) => _)) = _
  rw [if_neg (by omega), h1, hg, hs]
  rfl
theorem sep_end (text : Array Nat) (n s : Nat) (first : Bool) (b : Option Nat) (seen : Seen) (h : n ≤ s) :
    (st23 text n s first b seen).step = { st23 text n s first b (seen.add 13) with answer := some false } := by
  show (if s ≥ n then _ else _) = _
  rw [if_pos (by omega)]
  rfl
theorem sep_some (l : List Nat) (s : Nat) (first : Bool) (b : Option Nat) (seen : Seen) (h : s < l.length) (hs : sepU l[s] = true) :
    ∃ seen', (st23 l.toArray l.length s first b seen).step = { st23 l.toArray l.length s first b seen' with pc := 35, pos := s + 1 } := by
  obtain ⟨s1, h1⟩ := acc_sep (l.toArray.getD s 0) (seen.add 13)
  have hg : l.toArray.getD s 0 = l[s] := by simp [Array.getD, h]
  refine ⟨s1, ?_⟩
  show (if s ≥ l.length then _ else (match accepts reCode 23 (l.toArray.getD s 0) (seen.add 13) with | .error why => _ | .ok (false, seen) => _ | .ok (true, seen) => _)) = _
  rw [if_neg (by omega), h1, hg, hs]
  rfl
theorem sep_tail (text : Array Nat) (n s : Nat) (first : Bool) (b : Option Nat) (seen : Seen) :
    Hit (M.runFor 6 { st23 text n s first b seen with pc := 35, pos := s + 1 }) s (s + 1) := by
  have h0 := jump35 text n s (s + 1) s first b [fB 22 s first, fNS s first] 2 seen
  rw [runFor_step _ _ rfl, show ({ st23 text n s first b seen with pc := 35, pos := s + 1 } : M).step = _ from h0, runFor_step _ _ rfl, mark38, runFor_step _ _ rfl, succ40, runFor_step _ _ rfl]
  have := yes_nb text n s (s + 1) 40 (s + 1) first [fNS s first] 1 (((seen.add 15).add 17).add 1) 22 s first
  rw [show ({ st38 text n s (s + 1) (s + 1) first b [fB 22 s first, fNS s first] 2 (((seen.add 15).add 17).add 1) with pc := 40, marks := #[some s, some (s + 1)], lastmark := 1, lastindex := 1, answer := some true } : M).step = _ from this]
  rw [runFor_step _ _ rfl, yes_ns, runFor_step _ _ rfl, yes_end]
  exact hit_end ..

/-- nothing here: the next place -/
theorem next_place (text : Array Nat) (n s : Nat) (first : Bool) (b : Option Nat) (seen : Seen) (h : s < n) :
    M.runFor 2 { st23 text n s first b seen with answer := some false } = att text n (s + 1) false #[some s, b] seen := by
  rw [runFor_step _ _ rfl]
  show M.runFor 1 { st23 text n s first b seen with answer := some false, frames := [fNS s first], weight := 1, pc := 22 } = _
  rw [runFor_one _ rfl]
  show (if s < n then _ else _) = _
  rw [if_pos h]
  rfl
theorem no_place (text : Array Nat) (n s : Nat) (first : Bool) (b : Option Nat) (seen : Seen) (h : ¬ s < n) :
    (M.runFor 3 { st23 text n s first b seen with answer := some false }).outcome = some .failed := by
  rw [runFor_step _ _ rfl]
  show (M.runFor 2 { st23 text n s first b seen with answer := some false, frames := [fNS s first], weight := 1, pc := 22 }).outcome = _
  rw [runFor_step _ _ rfl]
  have : ({ st23 text n s first b seen with answer := some false, frames := [fNS s first], weight := 1, pc := 22 } : M).step = { st23 text n s first b seen with answer := some false, frames := [], weight := 0, pc := 5 } := by
    show (if s < n then _ else _) = _
    rw [if_neg h]
    rfl
  rw [this]
  rfl
end Mine

end TSre2

section TSre3
set_option Elab.async false
set_option maxRecDepth 100000
set_option maxHeartbeats 400000
open PySem PySem.Sre
namespace Mine

/-- the first piece that the pattern finds from s on: where it begins, where it ends -/
def findRe (l : List Nat) : Nat → Nat → Option (Nat × Nat)
  | 0, _ => none
  | k + 1, s => if 0 < digLen l s then some (s, s + digLen l s) else if sepU (l.getD s 0) then some (s, s + 1) else findRe l k (s + 1)

def Ends (m : M) : Option (Nat × Nat) → Prop
  | none => m.outcome = some .failed
  | some (b, e) => Hit m b e

theorem search_from (l : List Nat) (hl : l.length < 4000000000) : ∀ (k s : Nat) (first : Bool) (a b : Option Nat) (seen : Seen), s + k = l.length →
    ∃ N, N ≤ 8 * k + 12 ∧ Ends (M.runFor N (att l.toArray l.length s first #[a, b] seen)) (findRe l k s)
  | 0, s, first, a, b, seen, h => by
    obtain ⟨s1, h1⟩ := run3 l.toArray l.length s first a b seen
    refine ⟨2 + (1 + (1 + (1 + 3))), by omega, ?_⟩
    rw [runFor_add, h1, runFor_add, runFor_one _ rfl, rep_no_room _ _ _ _ _ _ (by omega), runFor_add, alt2, runFor_add, runFor_one _ rfl, sep_end _ _ _ _ _ _ (by omega)]
    exact no_place _ _ _ _ _ _ (by omega)
  | k + 1, s, first, a, b, seen, h => by
    have hs : s < l.length := by omega
    obtain ⟨s1, h1⟩ := run3 l.toArray l.length s first a b seen
    unfold findRe
    by_cases hd : 0 < digLen l s
    · rw [if_pos hd]
      obtain ⟨s2, h2⟩ := rep_some l s first b s1 hs hl hd
      refine ⟨2 + (1 + 7), by omega, ?_⟩
      rw [runFor_add, h1, runFor_add, runFor_one _ rfl, h2]
      exact dig_tail ..
    · rw [if_neg hd]
      obtain ⟨s2, h2⟩ := rep_none l s first b s1 hs hl (by omega)
      have hg : l.getD s 0 = l[s] := by simp [hs]
      rw [hg]
      cases hsp : sepU l[s] with
      | true =>
        rw [if_pos rfl]
        obtain ⟨s3, h3⟩ := sep_some l s first b s2 hs hsp
        refine ⟨2 + (1 + (1 + (1 + 6))), by omega, ?_⟩
        rw [runFor_add, h1, runFor_add, runFor_one _ rfl, h2, runFor_add, alt2, runFor_add, runFor_one _ rfl, h3]
        exact sep_tail ..
      | false =>
        rw [if_neg Bool.false_ne_true]
        obtain ⟨s3, h3⟩ := sep_none l s first b s2 hs hsp
        obtain ⟨N, hN, hE⟩ := search_from l hl k (s + 1) false (some s) b s3 (by omega)
        refine ⟨2 + (1 + (1 + (1 + (2 + N)))), by omega, ?_⟩
        rw [runFor_add, h1, runFor_add, runFor_one _ rfl, h2, runFor_add, alt2, runFor_add, runFor_one _ rfl, h3, runFor_add, next_place _ _ _ _ _ _ hs]
        exact hE

theorem forSearch_att (text : Array Nat) (n s : Nat) (h : s < n) : ∃ seen, Sre.forSearch reCode text 1 s n false = att text n s true #[none, none] seen := by
  refine ⟨({} : Seen).add 14, ?_⟩
  show (if (decide (s > n) || decide (n - s < 1)) = true then _ else _) = _
  rw [if_neg (by simp; omega)]
  rfl
theorem forSearch_end (text : Array Nat) (n s : Nat) (h : ¬ s < n) : (M.runFor 1 (Sre.forSearch reCode text 1 s n false)).outcome = some .failed := by
  have : Sre.forSearch reCode text 1 s n false = _ := rfl
  show (M.runFor 1 (if (decide (s > n) || decide (n - s < 1)) = true then _ else _)).outcome = _
  rw [if_pos (by simp; omega)]
  rfl

theorem search_all (l : List Nat) (hl : l.length < 4000000) (s : Nat) (hs : s ≤ l.length) :
    ∃ N, N ≤ 8 * l.length + 12 ∧ Ends (M.runFor N (Sre.forSearch reCode l.toArray 1 s l.length false)) (findRe l (l.length - s) s) := by
  by_cases h : s < l.length
  · obtain ⟨seen, e⟩ := forSearch_att l.toArray l.length s h
    obtain ⟨N, hN, hE⟩ := search_from l (by omega) (l.length - s) s true none none seen (by omega)
    rw [e]
    exact ⟨N, by omega, hE⟩
  · have : s = l.length := by omega
    subst this
    rw [Nat.sub_self]
    exact ⟨1, by omega, forSearch_end _ _ _ (by omega)⟩

theorem Ends.isSome {m : M} {r : Option (Nat × Nat)} (h : Ends m r) : m.outcome.isSome = true := by
  cases r with
  | none => rw [show m.outcome = _ from h]; rfl
  | some p => rw [Hit.out h]; rfl
end Mine

end TSre3

section TSre4
open PySem PySem.W PyProof.Rows
set_option Elab.async false
set_option maxRecDepth 100000
set_option maxHeartbeats 400000
namespace Mine
open PySem PySem.W PySem.Calls PyProof.Rows PySem.Builtin.Re

section
variable {M' : Model} {A : Around} {E : Value → Shared → Prop} {s : Shared}

theorem runFor_eq {m : Sre.M} {a b : Nat} (ha : (Sre.M.runFor a m).outcome.isSome = true) (hb : (Sre.M.runFor b m).outcome.isSome = true) : Sre.M.runFor a m = Sre.M.runFor b m := by
  have key : ∀ {a b : Nat}, a ≤ b → (Sre.M.runFor a m).outcome.isSome = true → Sre.M.runFor b m = Sre.M.runFor a m := by
    intro a b hab h
    obtain ⟨c, rfl⟩ : ∃ c, b = a + c := ⟨b - a, by omega⟩
    rw [runFor_add, runFor_stay _ h]
  rcases Nat.le_total a b with h | h
  · exact (key h ha).symm
  · exact key h hb

theorem drive : ∀ (turns : Nat) (m : Sre.M) (N : Nat) (Q : Sre.M → Shared → Prop), 0 < turns → N ≤ 4 * turns → (Sre.M.runFor N m).outcome.isSome = true → Q (Sre.M.runFor N m) s → wpAny M' A (reDrive turns m) Q E s
  | 0, _, _, _, h, _, _, _ => absurd h (Nat.lt_irrefl _)
  | turns + 1, m, N, Q, _, hN, hS, hQ => by
    show wpAny M' A (if (m.runFor 4).outcome.isSome = true then pure (m.runFor 4) else (do rule "sre.turn"; reDrive turns (m.runFor 4))) Q E s
    by_cases h4 : (m.runFor 4).outcome.isSome = true
    · rw [if_pos h4]
      refine wpAny_pure ?_
      rw [runFor_eq h4 hS]; exact hQ
    · rw [if_neg h4]
      have hgt : 4 < N := by
        apply Classical.byContradiction
        intro hle
        have : Sre.M.runFor 4 m = Sre.M.runFor N m := by
          obtain ⟨c, hc⟩ : ∃ c, 4 = N + c := ⟨4 - N, by omega⟩
          rw [hc, runFor_add, runFor_stay _ hS]
        rw [this] at h4; exact h4 hS
      have e : Sre.M.runFor N m = Sre.M.runFor (N - 4) (Sre.M.runFor 4 m) := by
        rw [← runFor_add]; congr 1; omega
      refine wpAny_bind (wpAny_rule ?_)
      rw [e] at hS hQ
      exact drive turns _ (N - 4) Q (by omega) (by omega) hS hQ

theorem run_to_end {m : Sre.M} {N : Nat} {r : Option (Nat × Nat)} {Q : Option Sre.M → Shared → Prop} (hN : N ≤ 1000000) (hE : Ends (Sre.M.runFor N m) r)
    (hQ : Q (r.map fun _ => Sre.M.runFor N m) s) : wpAny M' A (reRunToEnd m) Q E s := by
  unfold reRunToEnd
  refine wpAny_bind (drive (2 ^ 64) m N _ (by decide) (by omega) hE.isSome ?_)
  refine wpAny_bind (wpAny_forIn_list _ (fun _ _ s' => s' = s) _ (fun x rest b s' e => ?_) (fun b s' e => ?_) _ _ rfl)
  · subst e
    split
    · exact wpAny_bind (wpAny_rule (wpAny_pure rfl))
    · exact wpAny_pure rfl
  · subst e
    cases r with
    | none =>
      rw [show (Sre.M.runFor N m).outcome = _ from hE]
      exact wpAny_pure hQ
    | some p =>
      rw [Hit.out hE]
      exact wpAny_pure hQ

def slc (l : List Nat) (a b : Nat) : List Nat := (l.drop a).take (b - a)
/-- what the pattern's split gives from s on -/
def splitRe (l : List Nat) : Nat → Nat → List (List Nat)
  | 0, s => [slc l s l.length]
  | k + 1, s => match findRe l (l.length - s) s with
    | none => [slc l s l.length]
    | some (b, e) => slc l s b :: slc l b e :: splitRe l k e

theorem digLen_le (l : List Nat) (p : Nat) (h : p ≤ l.length) : p + digLen l p ≤ l.length := by
  unfold digLen
  have h1 : ((l.drop p).takeWhile dig).length ≤ (l.drop p).length := List.Sublist.length_le (List.takeWhile_sublist _)
  simp at h1
  omega
theorem findRe_bounds (l : List Nat) : ∀ (k s b e : Nat), s + k = l.length → findRe l k s = some (b, e) → s ≤ b ∧ b < e ∧ e ≤ l.length
  | 0, _, _, _, _, h => by cases h
  | k + 1, s, b, e, hk, h => by
    unfold findRe at h
    split at h
    · injection h with h; injection h with h1 h2; subst h1 h2
      have := digLen_le l s (by omega)
      omega
    · split at h
      · injection h with h; injection h with h1 h2; subst h1 h2; omega
      · have := findRe_bounds l k (s + 1) b e (by omega) h
        omega
theorem slc_extract (l : List Nat) (a b : Nat) : (⟨l.toArray.extract a b⟩ : Str) = St (slc l a b) := by
  unfold slc
  simp [List.take_drop]
end
end Mine

end TSre4

section TSplit1
open PySem PySem.W PyProof.Rows
set_option Elab.async false
set_option maxRecDepth 100000
set_option maxHeartbeats 400000
namespace Mine
open PySem PySem.W PySem.Calls PyProof.Rows PySem.Builtin.Re

section
variable {w : World} {A : Around} {E : Value → Shared → Prop} {s : Shared} {mg mb : Str → Option Value}

theorem named_one (v : Value) : reNamed "re.Pattern.split" "split" ["string", "maxsplit"] 1 [v] [] = pure [some v, none] := by rfl

theorem whole_target {l : List Nat} {t : Tok} {Q : ReTarget → Shared → Prop} (B : Base w s.heap mg mb)
    (h : Q { pattern := .ref 36, string := .str (St l) t, code := reCode, text := l.toArray, kind := 0, groups := 1, pos := 0, lim := l.toArray.size } s) :
    wpAny (model prog w) A (reWholeTarget (.ref 36) (.str (St l) t)) Q E s := by
  have h36 := B.K 36 _ rfl
  have h35 := B.K 35 _ rfl
  unfold reWholeTarget
  refine wpAny_bind (wpAny_fieldsOf h36 rfl ?_)
  refine wpAny_bind ?_
  show wpAny _ _ (pure (l.toArray, 0)) _ _ _
  refine wpAny_pure ?_
  show wpAny _ _ (reNoCollectionInside (.str (St l) t) 0 >>= fun _ => reRawItems (.ref 35) >>= fun c => pure ({ pattern := .ref 36, string := .str (St l) t, code := c.map (·.toNat), text := l.toArray, kind := 0, groups := 1, pos := 0, lim := l.toArray.size } : ReTarget)) _ _ _
  refine wpAny_bind (wpAny_pure ?_)
  refine wpAny_bind ?_
  unfold reRawItems
  refine wpAny_bind (wpAny_seqItems h35 rfl ?_)
  have key : ∀ c, c = reCode → Q { pattern := .ref 36, string := .str (St l) t, code := c, text := l.toArray, kind := 0, groups := 1, pos := 0, lim := l.toArray.size } s := fun c e => e ▸ h
  exact wpAny_pure (wpAny_pure (key _ (by decide +kernel)))

theorem slice_made {l : List Nat} {a b : Nat} {Q : Value → Shared → Prop} (hl : l.length ≤ 1000000) (h : Q (.str (St (slc l a b)) s.toks) { s with toks := s.toks + 1 }) :
    wpAny (model prog w) A (reSlice l.toArray 0 a b) Q E s := by
  unfold reSlice
  show wpAny _ _ (mkStr _) _ _ _
  rw [slc_extract]
  refine wpAny_mkStr h ?_
  rw [St_length, sizeLine_eq]
  unfold slc
  simp
  omega


/-- the loop's state after some turns -/
structure SplitI (l : List Nat) (s0 : Shared) (n : Nat) (b : Array Value × Nat × Nat × Bool × Int × Bool) (s : Shared) : Prop where
  sh : ∃ tk, s = { s0 with toks := tk }
  eq : b.2.1 = b.2.2.1
  le : b.2.2.1 ≤ l.length
  must : b.2.2.2.1 = false
  on : b.2.2.2.2.2 = false → ∃ done f, TextsAre b.1.toList done ∧ done ++ splitRe l f b.2.1 = splitRe l (l.length + 1) 0 ∧ l.length < b.2.1 + f ∧ f ≤ n ∧ 1 ≤ f
  off : b.2.2.2.2.2 = true → ∃ done, TextsAre b.1.toList done ∧ done ++ [slc l b.2.2.1 l.length] = splitRe l (l.length + 1) 0

theorem group_made {l : List Nat} {T : ReTarget} {m : Sre.M} {b e : Nat} {Q : Value → Shared → Prop} {d : Sem Value} (hm : Hit m b e) (hbe : b ≤ e) (ht : T.text = l.toArray) (hk : T.kind = 0) (hl : l.length ≤ 1000000) (h : Q (.str (St (slc l b e)) s.toks) { s with toks := s.toks + 1 }) :
    wpAny (model prog w) A (reMachineGroup T m 1 d) Q E s := by
  unfold reMachineGroup
  rw [hm.lm, hm.mks]
  show wpAny _ _ (if e < b then reWrongSpan else reSlice T.text T.kind b e) _ _ _
  rw [if_neg (by omega)]
  rw [ht, hk]
  exact slice_made hl h

theorem splitRe_some {l : List Nat} {k s b e : Nat} (h : findRe l (l.length - s) s = some (b, e)) : splitRe l (k + 1) s = slc l s b :: slc l b e :: splitRe l k e := by
  rw [splitRe, h]
theorem splitRe_none {l : List Nat} {k s : Nat} (h : findRe l (l.length - s) s = none) : splitRe l (k + 1) s = [slc l s l.length] := by
  rw [splitRe, h]

theorem splitRe_length (l : List Nat) : ∀ (k s : Nat), (splitRe l k s).length ≤ 2 * k + 1
  | 0, s => by simp [splitRe]
  | k + 1, s => by
    cases h : findRe l (l.length - s) s with
    | none => rw [splitRe_none h]; simp
    | some p => rw [splitRe_some h]; have := splitRe_length l k p.2; simp; omega

theorem split_body {l : List Nat} {t : Tok} {Q : Fin → Shared → Prop} (B : Base w s.heap mg mb) (hl : l.length ≤ 10000)
    (hQ : ∀ h' tk a vs, Keep s.heap h' → s.heap.get? a = none → LstAt h' a vs → TextsAre vs (splitRe l (l.length + 1) 0) → Q (.done (.ret (.ref a))) { s with heap := h', toks := tk }) :
    wpAny (model prog w) A (Builtin.«re.Pattern.split» ⟨[.ref 36, .str (St l) t], []⟩) Q E s := by
  unfold Builtin.«re.Pattern.split»
  dsimp only
  rw [named_one]
  refine wpAny_bind (wpAny_pure ?_)
  dsimp only
  refine wpAny_bind (wpAny_pure ?_)
  refine wpAny_bind (whole_target B ?_)
  dsimp only
  refine wpAny_bind (wpAny_forIn_list _ (fun rest b s' => SplitI l s rest.length b s') _ (fun x rest b s' hI => ?_) (fun b s' hI => ?_) _ _ ?_)
  · obtain ⟨out, start, last, must, n, over⟩ := b
    obtain ⟨⟨tk, rfl⟩, heq, hle, hmu, hon, hoff⟩ := hI
    dsimp only at heq hle hmu hon hoff ⊢
    subst heq hmu
    cases over with
    | true =>
      rw [if_neg (by decide)]
      refine wpAny_pure ?_
      exact ⟨⟨tk, rfl⟩, rfl, hle, rfl, fun h => (nomatch h), hoff⟩
    | false =>
      rw [if_pos (by decide), if_neg (by simp)]
      obtain ⟨done, f, hT, hS, hlf, hfn, hf1⟩ := hon rfl
      unfold reNextFound
      dsimp only
      obtain ⟨N, hN, hE⟩ := search_all l (by omega) start hle
      have hsz : l.toArray.size = l.length := by simp
      rw [hsz]
      refine wpAny_bind (run_to_end (by omega) hE ?_)
      cases hr : findRe l (l.length - start) start with
      | none =>
        refine wpAny_pure ?_
        refine ⟨⟨tk, rfl⟩, rfl, hle, rfl, fun h => (nomatch h), fun _ => ⟨done, hT, ?_⟩⟩
        obtain ⟨f', rfl⟩ : ∃ f', f = f' + 1 := ⟨f - 1, by omega⟩
        rw [splitRe_none hr] at hS
        exact hS
      | some p =>
        obtain ⟨b, e⟩ := p
        rw [hr] at hE
        have hb := findRe_bounds l _ _ _ _ (by omega) hr
        show wpAny _ _ (reSlice _ _ start (Sre.M.runFor N _).start >>= _) _ _ _
        rw [Hit.st hE, Hit.hd hE]
        refine wpAny_bind (slice_made (l := l) (by omega) ?_)
        refine wpAny_bind ?_
        rw [show List.range 1 = [0] from rfl, List.forIn_cons]
        refine wpAny_bind (wpAny_bind (group_made (l := l) hE (by omega) rfl rfl (by omega) (wpAny_pure ?_)))
        dsimp only
        rw [List.forIn_nil]
        refine wpAny_pure (wpAny_pure ?_)
        obtain ⟨f', rfl⟩ : ∃ f', f = f' + 1 := ⟨f - 1, by omega⟩
        rw [splitRe_some hr] at hS
        refine ⟨⟨_, rfl⟩, rfl, hb.2.2, ?_, fun _ => ⟨(done ++ [slc l start b]) ++ [slc l b e], f', ?_, ?_, ?_, ?_, ?_⟩, fun h => (nomatch h)⟩
        · show (e == b) = false
          simp; omega
        · simp only [Array.toList_push]
          exact hT.snoc.snoc
        · rw [← hS]; simp
        · show l.length < e + f'
          omega
        · simp at hfn; omega
        · have : f' ≠ 0 := by
            intro h0; subst h0; omega
          omega
  · obtain ⟨out, start, last, must, n, over⟩ := b
    obtain ⟨⟨tk, rfl⟩, heq, hle, hmu, hon, hoff⟩ := hI
    dsimp only at heq hle hmu hon hoff ⊢
    subst heq hmu
    cases over with
    | false =>
      exfalso
      obtain ⟨_, f, _, _, _, h1, h2⟩ := hon rfl
      simp at h1; omega
    | true =>
      rw [if_neg (by decide)]
      obtain ⟨done, hT, hS⟩ := hoff rfl
      have hsz : l.toArray.size = l.length := by simp
      rw [hsz]
      refine wpAny_bind (slice_made (l := l) (by omega) ?_)
      have hlen := splitRe_length l (l.length + 1) 0
      rw [← hS] at hlen
      have hlo := hT.length
      simp only [List.length_append, List.length_cons, List.length_nil] at hlen
      refine wpAny_bind (wpAny_newList ?_ (by rw [sizeLine_eq]; simp at hlo ⊢; omega))
      refine wpAny_pure ?_
      refine hQ _ _ _ _ (pushKeep _ _) ?_ LstAt.new ?_
      · exact size_none _
      · simp only [Array.toList_push]
        rw [← hS]
        exact hT.snoc
  · refine ⟨⟨_, rfl⟩, rfl, Nat.zero_le _, rfl, fun _ => ⟨[], l.length + 1, .nil, rfl, by simp, ?_, by omega⟩, fun h => (nomatch h)⟩
    unfold reMostMatches
    simp
    omega
end
end Mine

end TSplit1

section TSplit2
open PySem PySem.W PyProof.Rows
set_option Elab.async false
set_option maxRecDepth 100000
set_option maxHeartbeats 400000
namespace Mine
open PySem PySem.W PySem.Calls PyProof.Rows

namespace PatF
theorem plain : PlainAttrs "re.Pattern" :=
  ⟨⟨"object.__getattribute__", by rw [typeLookup_type, builtinLookup_eq_fast]; kernel_rfl, by decide +kernel⟩, by rw [typeLookup_type, builtinLookup_eq_fast]; kernel_rfl⟩
theorem slot : Slot "re.Pattern" "split" "re.Pattern.split" :=
  .of (owner := "re.Pattern") (n := "split") (by rw [typeLookup_type, builtinLookup_eq_fast]; kernel_rfl) (by decide +kernel) (by decide +kernel) (by decide +kernel)
    (by first | exact .inl (by decide +kernel) | exact .inr (by decide +kernel)) (by rw [isSubtype_type]; kernel_rfl)
theorem ty : typeOf (.builtin "re.Pattern.split") = pure (.type "method_descriptor") := by show builtinType _ = _; rw [builtinType_eq_fast]; kernel_rfl
theorem entry : entryFor table "re.Pattern.split" = some Builtin.«re.Pattern.split» := entryFor_of_tree (by kernel_rfl)
end PatF
theorem PatF.args (a b : Value) : argsOk "re.Pattern.split" ⟨[a, b], []⟩ := by
  unfold argsOk
  kernel_rfl
end Mine

end TSplit2

section TCaught
open PySem PySem.W PyProof.Rows
set_option Elab.async false
set_option maxRecDepth 100000
set_option maxHeartbeats 400000
namespace Mine
open PySem PySem.W PySem.Calls PyProof.Rows PyProof.Rows.TI

/-- all kept, but the slots of the frames -/
structure KeptBut (fs : List Addr) (h h' : Heap) : Prop where
  other : ∀ b o, b ∉ fs → h.get? b = some o → h'.get? b = some o
  frame : ∀ b o, b ∈ fs → h.get? b = some o → (∀ vs, o.data ≠ .fields vs) → ∃ sl, h'.get? b = some { o with slots := sl }

section
variable {w : World} {A : Around} {E : Value → Shared → Prop} {s' : Shared} {env envO : Env} {L L0 e : Addr} {names : List (Str × NameKind)} {mg mb : Str → Option Value}

theorem caught {h : Heap} {oL oL0 : Obj} {np pos : Pos} {b₀ : Stmt} {suite : List Stmt} {Q : Flow → Shared → Prop}
    (V : EnvOK env L names) (hO : envO.frame = some L0) (hOk : envO.scope.kind = .function) (hfr : A.frames = some [env, envO])
    (hx : Heap.NewExc h s'.heap e "ValueError") (hL : h.get? L = some oL) (hLd : ∀ vs, oL.data ≠ .fields vs) (hL0 : h.get? L0 = some oL0) (hL0d : ∀ vs, oL0.data ≠ .fields vs)
    (B : Base w (gone h [L, L0]) mg mb) (hn : names.lookup (Str.ofString "ValueError") = some .globalImplicit)
    (k : ∀ h', KeptBut [L, L0] h h' → wpAny (model prog w) (A.mark (some (.ref e))) (execs (b₀ :: suite) env) Q (fun _ _ => False) { s' with heap := h' }) :
    wpAny (model prog w) A (noteFrame (.ref e) env) (fun _ s₂ => wpAny (model prog w) A (setFlight (.ref e) none) (fun _ s₃ =>
      wpAny (model prog w) A (handleBy (.ref e) env [.ExceptHandler (some (.Name (Str.ofString "ValueError") np)) none (b₀ :: suite) pos]) Q E s₃) E s₂) E s' := by
  obtain ⟨ob, tp, he, hcls, hd⟩ := hx.there
  have fresh : (gone h [L, L0]).get? e = none := by
    cases q : (gone h [L, L0]).get? e with
    | none => rfl
    | some o => have := (gone_some q).2; rw [hx.new] at this; cases this
  have hFF : s'.heap.FunFrames (gone h [L, L0]) [env, envO] :=
    ⟨by rw [V.kind]; decide, ⟨L, oL, V.frame, gone_none (by simp), hx.keeps _ _ hL, hLd⟩, by rw [hOk]; decide, ⟨L0, oL0, hO, gone_none (by simp), hx.keeps _ _ hL0, hL0d⟩, trivial⟩
  unfold noteFrame
  simp only [V.frame]
  refine wpAny_bind (wpAny_field he hd (x := .none) rfl ?_)
  rw [if_neg (by decide)]
  refine wpAny_entryW (a0 := tp) hfr hFF V.frame he (fun b o hb => hx.keeps b o (gone_some hb).2) fresh hd (by show 1 < 6; decide) rfl fun h₁ hN => ?_
  obtain ⟨n1, n2, n3, n4⟩ := hN
  refine wpAny_landsW (base := gone h [L, L0]) (l := [env, envO]) (cls := .type "ValueError") (a0 := tp) (L := L) ⟨n1, fresh, n2, by rw [← hcls]; exact n3⟩ fun h₂ hf₂ sm₂ => ?_
  have B₂ : Base w h₂ mg mb := B.keeps hf₂.1
  obtain ⟨ob₂, hob₂, hc₂⟩ := hf₂.there
  refine wpAny_handleBy_builtin (X := "ValueError") (T := "ValueError") (b := true) (by rw [isSubtype_type]; kernel_rfl) (by rw [isSubtype_type]; kernel_rfl) (by rw [isSubtype_type]; kernel_rfl) ?_
  refine ldb V B₂ hn (by kernel_rfl) (v := .type "ValueError") (by decide +kernel) (by decide) ⟨rfl, ⟨ob₂, hob₂, hc₂⟩, ?_⟩
  refine lands_againW hf₂ fun h₃ hf₃ sm₃ => ?_
  have up : h.UpToSlots h₃ := ((Heap.UpToSlots.of_keeps hx.keeps).trans n4).trans (sm₂.trans sm₃)
  refine wpAny_mono (k h₃ ⟨fun b o hb ho => hf₃.1 b o ((gone_get hb).trans ho), fun b o _ ho hnf => up b o ho hnf⟩) (fun _ _ x => x) fun _ _ x => x.elim
end
end Mine

end TCaught

section TWpC
open PySem PySem.W PyProof.Rows
set_option Elab.async false
set_option maxRecDepth 100000
set_option maxHeartbeats 400000
namespace Mine
open PySem PySem.W PySem.Calls PyProof.Rows

/-- as wpAny, under contexts of which something is known beyond their shape -/
def wpC {α : Type} (P : List Code → Prop) (M : Model) (A : Around) (t : Sem α) (Q : α → Shared → Prop) (E : Value → Shared → Prop) (s : Shared) : Prop :=
  ∀ Γ p, Γ.In A → P (Γ.code :: Γ.below.map (·.1)) → Sem.wp M Γ t (fun a _ s' => Q a s') (fun e _ s' => E e s') p s
def codeP (P : List Code → Prop) (M : Model) (A : Around) (c : Code) (R : Result → Shared → Prop) (s : Shared) : Prop :=
  ∀ Γ p, Γ.code = c → Γ.Below A → P (Γ.below.map (·.1)) → wpCode M Γ R p s

section
variable {α β : Type} {P : List Code → Prop} {M : Model} {A : Around} {E : Value → Shared → Prop} {s : Shared}
theorem wpC_of_any {t : Sem α} {Q : α → Shared → Prop} (h : wpAny M A t Q E s) : wpC P M A t Q E s := fun Γ p hΓ _ => h Γ p hΓ
theorem wpC_mono {t : Sem α} {Q Q' : α → Shared → Prop} {E' : Value → Shared → Prop} (h : wpC P M A t Q E s) (hQ : ∀ a s, Q a s → Q' a s) (hE : ∀ e s, E e s → E' e s) : wpC P M A t Q' E' s :=
  fun Γ p hΓ hP => Sem.wp_mono M Γ t (fun a _ s => hQ a s) (fun e _ s => hE e s) p s (h Γ p hΓ hP)
theorem wpC_bind {m : Sem α} {f : α → Sem β} {Q : β → Shared → Prop} (h : wpC P M A m (fun a s' => wpC P M A (f a) Q E s') E s) : wpC P M A (m >>= f) Q E s := fun Γ p hΓ hP => by
  rw [Sem.wp_bind']
  exact Sem.wp_mono M Γ m (fun a p' s' h' => h' Γ p' hΓ hP) (fun _ _ _ h' => h') p s (h Γ p hΓ hP)
theorem wpC_onRaise {m : Sem α} {k : Value → Sem Unit} {Q : α → Shared → Prop} (h : wpC P M A m Q (fun e s' => wpAny M A (k e) (fun _ s'' => E e s'') E s') s) : wpC P M A (m.onRaise k) Q E s := fun Γ p hΓ hP => by
  rw [Sem.wp_onRaise]
  exact Sem.wp_mono M Γ m (fun _ _ _ h' => h') (fun e p' s' h' => h' Γ p' hΓ) p s (h Γ p hΓ hP)
theorem wpC_attempt {m : Sem α} {Q : Except Value α → Shared → Prop} (h : wpC P M A m (fun a => Q (.ok a)) (fun e => Q (.error e)) s) : wpC P M A m.attempt Q E s := fun Γ p hΓ hP => by
  rw [Sem.wp_attempt]; exact h Γ p hΓ hP
theorem wpC_holding {vs : List Value} {m : Sem α} {Q : α → Shared → Prop} (h : wpC P M A m Q E s) : wpC P M A (holding vs m) Q E s := fun Γ p hΓ hP => by
  rw [Sem.wp_holding]; exact h Γ p hΓ hP
theorem wpC_pure {a : α} {Q : α → Shared → Prop} (h : Q a s) : wpC P M A (pure a) Q E s := wpC_of_any (wpAny_pure h)
theorem codeP_mono {c : Code} {R R' : Result → Shared → Prop} (h : codeP P M A c R s) (hR : ∀ r s, R r s → R' r s) : codeP P M A c R' s :=
  fun Γ p hc hΓ hP => wpCode_mono hR (h Γ p hc hΓ hP)
theorem codeP_of_any {c : Code} {R : Result → Shared → Prop} (h : codeAny M A c R s) : codeP P M A c R s := fun Γ p hc hΓ _ => h Γ p hc hΓ
theorem map_below (Γ : Ctx) (c : Code) (h : Option Value) (p : Pos) : (Γ.enter c h p).below.map (·.1) = Γ.code :: Γ.below.map (·.1) := rfl
theorem wpC_run {c : Code} {h : Option Value} {Q : Flow → Shared → Prop}
    (hc : codeP P M (A.mark h) c (fun r s' => match r with | .ok f => Q f s' | .error e => E e s') s) (hnb : h ≠ some byPass := by intro x; cases x) : wpC P M A (run c h) Q E s :=
  fun Γ p hΓ hP => by rw [Sem.wp_run]; exact hc _ p rfl (hΓ.enter c h p hnb) hP
theorem wpC_runValue {c : Code} {Q : Value → Shared → Prop}
    (hc : codeP P M A c (fun r s' => match r with | .ok (.ret v) => Q v s' | .ok _ => False | .error e => E e s') s) : wpC P M A (runValue c) Q E s :=
  fun Γ p hΓ hP => by rw [Sem.wp_runValue]; exact hc _ p rfl (hΓ.enter c none p (by intro x; cases x)) hP
theorem wpC_call {f : Value} {pos : List Value} {kw : List (Str × Value)} {Q : Value → Shared → Prop}
    (hc : codeP P M A (.call f ⟨pos, kw⟩) (fun r s' => match r with | .ok (.ret v) => Q v s' | .ok _ => False | .error e => E e s') s) : wpC P M A (call f pos kw) Q E s := wpC_runValue hc
theorem codeP_of_tree {c : Code} {R : Result → Shared → Prop} (hP' : ∀ st, P st → P (c :: st))
    (h : wpC P M (A.under c) (M.den c) (fun fin s' => match fin with | .done f => R (.ok f) s' | .again c' => c'.quiet = true ∧ codeP P M A c' R s')
      (fun e s' => R (.error e) s') s) : codeP P M A c R s := fun Γ p hc hΓ hP => by
  rw [wpCode_iff_wp, hc]
  refine Sem.wp_mono M Γ _ (fun fin p' s' h' => ?_) (fun _ _ _ h' => h') p s (h Γ p (hc ▸ hΓ.in) (hc ▸ hP' _ hP))
  cases fin with
  | done f => exact h'
  | again c' => exact ⟨h'.1, h'.2 (Γ.goto c') p' rfl (hΓ.goto c') hP⟩
end

section
variable {P : List Code → Prop} {q : Program} {w : World} {A : Around} {s : Shared} {R : Result → Shared → Prop}
theorem codeP_builtin {id : String} {args : Args} {b : Builtin} (hP' : ∀ st, P st → P (.builtin id args :: st)) (hb : entryFor table id = some b)
    (h : wpC P (model q w) (A.under (.builtin id args)) (b args) (fun fin s' => match fin with | .done f => R (.ok f) s' | .again c' => c'.quiet = true ∧ codeP P (model q w) A c' R s') (fun e s' => R (.error e) s') s) :
    codeP P (model q w) A (.builtin id args) R s := by
  refine codeP_of_tree hP' ?_
  have hden : (model q w).den (.builtin id args) = b args := by
    show (match entryFor table id with | some b => b args | none => unsupported ((withoutEnding? id "#data").getD id)) = _
    rw [hb]
  rw [hden]; exact h
end

/-- no refusal of int's is marked above such a stack -/
def Mute (st : List Code) : Prop := st.any Code.isCaller = true ∨ ∃ pre a post, st = pre ++ .builtin "map.__next__" a :: post ∧ ∀ c ∈ pre, c.env? = none
theorem Mute.cons {st : List Code} (h : Mute st) {c : Code} (hc : c.env? = none) : Mute (c :: st) := by
  rcases h with h | ⟨pre, a, post, rfl, hp⟩
  · exact .inl (by simp [h])
  · exact .inr ⟨c :: pre, a, post, rfl, fun x hx => by rcases List.mem_cons.mp hx with rfl | hx; exact hc; exact hp x hx⟩
theorem isCaller_eq (c : Code) : (match c with | .builtin "claim.caller" _ => true | _ => false) = c.isCaller := rfl
theorem Mute.no {st : List Code} (h : Mute st) : pythonCodeMadeTheCall ["int.__new__"] st = false := by
  unfold pythonCodeMadeTheCall
  rcases h with h | ⟨pre, a, post, rfl, hp⟩
  · show ((!st.any Code.isCaller && _) && _) = false
    rw [h]
    rfl
  · have e : ((pre ++ Code.builtin "map.__next__" a :: post).takeWhile (·.env?.isNone)) = pre ++ Code.builtin "map.__next__" a :: post.takeWhile (·.env?.isNone) := by
      rw [List.takeWhile_append_of_pos (fun c hc => by rw [hp c hc]; rfl), List.takeWhile_cons]
      rfl
    rw [e, List.all_append, List.all_cons]
    dsimp only
    rw [show (("map.__next__" : String) == "type.__call__") = false from by decide, show (["int.__new__"].contains "map.__next__") = false from by decide]
    simp
end Mine

end TWpC

section TIntC
open PySem PySem.W PyProof.Rows
set_option Elab.async false
set_option maxRecDepth 100000
set_option maxHeartbeats 400000
namespace Mine
open PySem PySem.W PySem.Calls PyProof.Rows PySem.NumText

theorem spec_none {x : Str} {u : Tok} {n : Str} (h : typeLookup (.type "str") n = pure none) : specialOf (.str x u) n = pure none := by
  unfold specialOf
  show typeLookup (.type "str") n = _
  exact h
theorem csp_none {x : Str} {u : Tok} {n : Str} (h : typeLookup (.type "str") n = pure none) : callSpecial? (.str x u) n = pure none := by
  unfold callSpecial?
  rw [spec_none h]; rfl
theorem obj1 (x : Str) (u : Tok) : (int_private% "intFromObject") (.str x u) = (int_private% "intFromText") (.str x u) (numTextOf x) 10 := by
  show (callSpecial? (.str x u) (Str.ofString "__int__") >>= _) = _
  rw [csp_none KIN.str_int]
  show (specialOf (.str x u) (Str.ofString "__index__") >>= _) = _
  rw [spec_none KIN.str_idx]
  show (specialOf (.str x u) (Str.ofString "__trunc__") >>= _) = _
  rw [spec_none KIN.str_trunc]
  rfl
theorem new1 (x : Str) (u : Tok) : Builtin.«int.__new__» ⟨[.type "int", .str x u], []⟩ = ((int_private% "intFromObject") (.str x u) >>= fun v => ret v) := by
  have f1 := F.conv_sub_int
  have f2 := F.madeHere_int
  unfold Builtin.«int.__new__»
  dsimp only
  rw [f1, f2]
  rfl
theorem new2 (x : Str) (u v : Tok) : Builtin.«int.__new__» ⟨[.type "int", .str x u, .int 10 v], []⟩ = ((int_private% "intFromText") (.str x u) (numTextOf x) 10 >>= fun v => ret v) := by
  have f1 := F.conv_sub_int
  have f2 := F.madeHere_int
  unfold Builtin.«int.__new__»
  dsimp only
  rw [f1, f2]
  rfl
section
variable {w : World} {A : Around} {E : Value → Shared → Prop} {s : Shared} {x : Str} {u : Tok} {Q : Value → Shared → Prop}
theorem wpC_mark {e : Value} {Q : Unit → Shared → Prop} (h : Q () s) : wpC Mute (model prog w) A (markTheRefusal ["int.__new__"] e) Q E s := fun Γ p hΓ hP => by
  unfold markTheRefusal
  show Sem.wp _ Γ (Sem.bind stack _) _ _ p s
  unfold stack
  rw [Sem.wp_bind, Sem.wp_stack]
  show Sem.wp _ Γ (if pythonCodeMadeTheCall ["int.__new__"] (((Γ.code, p) :: Γ.below).map (·.1)) = true then _ else _) _ _ p s
  rw [if_neg (by rw [show pythonCodeMadeTheCall ["int.__new__"] (((Γ.code, p) :: Γ.below).map (·.1)) = false from hP.no]; decide)]
  exact h

theorem text_fail (hh : A.handled = none) (hl : x.length ≤ 640) (hn : PySem.intText? x = none) (hr : (reprText x).length ≤ 100000)
    (hE : ∀ h' tk e, Heap.NewExc s.heap h' e "ValueError" → E (.ref e) { s with heap := h', toks := tk }) :
    wpC Mute (model prog w) A ((int_private% "intFromText") (.str x u) (numTextOf x) 10) Q E s := by
  have hs : (numSeenOf x).length ≤ 640 := Nat.le_trans (seen_length x) hl
  have hread := read0 x hs
  have tail : wpC Mute (model prog w) A (do
      rule "int.__new__.invalid-literal"
      let shown ← pyRepr (.str x u)
      let m ← mkStr (Str.ofString (toString "invalid literal for int() with base " ++ toString (10 : Nat) ++ toString ": ") ++ { cps := shown.cps.extract 0 200 })
      let refusal ← newExc (.type "ValueError") [m]
      markTheRefusal ["int.__new__"] refusal
      raiseNew refusal) Q E s := by
    refine wpC_bind (wpC_of_any (wpAny_rule ?_))
    refine wpC_bind (wpC_of_any (wpAny_pyRepr_str ?_ (by rw [sizeLine_eq]; omega)))
    refine wpC_bind (wpC_of_any (wpAny_mkStr ?_ ?_))
    · refine wpC_bind (wpC_of_any (wpAny_newExc_plain plainExc_ValueError fun h' e hm => ?_))
      refine wpC_bind (wpC_mark ?_)
      refine wpC_of_any (wpAny_raiseNew_none hh ?_)
      exact hE _ _ _ hm.newExc
    · rw [sizeLine_eq]
      have ap : ∀ a b : Str, (a ++ b).length = a.length + b.length := fun a b => Array.size_append
      rw [ap]
      have e1 : (Str.ofString (toString "invalid literal for int() with base " ++ toString (10 : Nat) ++ toString ": ")).length = 40 := by decide +kernel
      have e2 : ({ cps := (reprText x).cps.extract 0 200 } : Str).length ≤ 200 := by
        show ((reprText x).cps.extract 0 200).size ≤ 200
        simp
        omega
      omega
  show wpC _ _ _ (if (numSeenOf x).length ≤ 640 then _ else _) _ _ _
  rw [if_pos hs]
  rcases hread with ⟨n, h1, _⟩ | ⟨_, h2⟩
  · rw [hn] at h1; cases h1
  refine wpC_bind (wpC_pure ?_)
  rcases h2 with h2 | ⟨i, h2, h3⟩
  · dsimp only
    rw [h2]
    exact tail
  · dsimp only
    rw [h2]
    dsimp only
    rw [if_neg h3]
    exact tail

theorem envNone_call (f : Value) (a : Args) : (Code.call f a).env? = none := rfl
theorem envNone_builtin (id : String) (a : Args) : (Code.builtin id a).env? = none := rfl

theorem code_new {args : List Value} {R : Result → Shared → Prop} {B : Sem Fin} (hB : Builtin.«int.__new__» ⟨.type "int" :: args, []⟩ = B) (hck : checkBuiltinCall "int.__new__" ⟨.type "int" :: args, []⟩ = pure ())
    (h : wpC Mute (model prog w) A.in1 B (fun fin s' => match fin with | .done f => R (.ok f) s' | .again c' => c'.quiet = true ∧ codeP Mute (model prog w) A c' R s') (fun e s' => R (.error e) s') s) :
    codeP Mute (model prog w) A (.call (.builtin "int.__new__") ⟨.type "int" :: args, []⟩) R s := by
  refine codeP_of_tree (fun st h => h.cons rfl) ?_
  show wpC _ _ A.in1 (do checkBuiltinCall "int.__new__" ⟨.type "int" :: args, []⟩; again (.builtin "int.__new__" ⟨.type "int" :: args, []⟩)) _ _ s
  refine wpC_bind (wpC_of_any (wpAny_of_eq hck (wpC_pure ⟨plainId_quiet (by decide +kernel) _, ?_⟩)))
  refine codeP_builtin (fun st h => h.cons rfl) F.entry_int_new ?_
  rw [Around.under_plainId (by decide +kernel) _, hB]
  exact h

theorem call_fail {args : List Value} (hck : checkBuiltinCall "int.__new__" ⟨.type "int" :: args, []⟩ = pure ()) (hct : checkTypeCall "int" ⟨args, []⟩ = pure ())
    (h : wpC Mute (model prog w) A.in1.in1 (Builtin.«int.__new__» ⟨.type "int" :: args, []⟩) (fun _ _ => False) E s) :
    wpC Mute (model prog w) A (call (.type "int") args) Q E s := by
  refine wpC_call (codeP_of_tree (fun st h => h.cons rfl) ?_)
  show wpC _ _ _ (callAny (.type "int") _) _ _ _
  refine wpC_pure ⟨Code.quiet_builtin _ (by decide +kernel), codeP_builtin (fun st h => h.cons rfl) F.entry_type_call ?_⟩
  rw [Around.under_plain (weight_type_call_type "int" args []) rfl]
  unfold Builtin.«type.__call__»
  dsimp only
  rw [if_neg (by decide), if_neg (by rw [F.called_int.canCreate]; decide)]
  refine wpC_bind (wpC_of_any (wpAny_of_eq hct ?_))
  refine wpC_bind (wpC_of_any (wpAny_of_eq F.mro_int ?_))
  rw [if_neg (by decide)]
  refine wpC_bind (wpC_of_any (wpAny_of_eq F.called_int.made ?_))
  dsimp only
  refine wpC_bind (wpC_pure ?_)
  refine wpC_bind (wpC_holding (wpC_call (code_new rfl hck ?_)))
  exact wpC_mono h (fun _ _ x => x.elim) fun _ _ x => x

theorem bad1 (hh : A.handled = none) (hl : x.length ≤ 640) (hn : PySem.intText? x = none) (hr : (reprText x).length ≤ 100000)
    (hE : ∀ h' tk e, Heap.NewExc s.heap h' e "ValueError" → E (.ref e) { s with heap := h', toks := tk }) : wpC Mute (model prog w) A (call (.type "int") [.str x u]) Q E s := by
  refine call_fail (F.newCall_int_1 _) (F.typeCall_int_1 _) ?_
  rw [new1, obj1]
  exact wpC_bind (text_fail hh hl hn hr hE)
theorem bad2 {v : Tok} (hh : A.handled = none) (hl : x.length ≤ 640) (hn : PySem.intText? x = none) (hr : (reprText x).length ≤ 100000)
    (hE : ∀ h' tk e, Heap.NewExc s.heap h' e "ValueError" → E (.ref e) { s with heap := h', toks := tk }) : wpC Mute (model prog w) A (call (.type "int") [.str x u, .int 10 v]) Q E s := by
  refine call_fail (by kernel_rfl) (by kernel_rfl) ?_
  rw [new2]
  exact wpC_bind (text_fail hh hl hn hr hE)
theorem good2 {v : Tok} {n : Int} (hl : x.length ≤ 640) (hn : PySem.intText? x = some n) (h : Q (.int n s.toks) { s with toks := s.toks + 1 }) : wpAny (model prog w) A (call (.type "int") [.str x u, .int 10 v]) Q E s := by
  refine callType_new (S := (Made.int n).spec) F.called_int F.newNe_int (by kernel_rfl) (by kernel_rfl) (fun obj => F.args_object_init_3 obj _ _) F.entry_int_new (Gives.meets (.of_wp fun M A E s Q h => ?_)) (show (Made.int n).post _ s from ⟨rfl, h⟩)
  rw [new2]
  have hs : (numSeenOf x).length ≤ 640 := Nat.le_trans (seen_length x) hl
  refine wpAny_bind ?_
  rcases read0 x hs with ⟨m, h1, h2, h3⟩ | ⟨h1, _⟩
  · rw [hn] at h1
    injection h1 with h1
    subst h1
    refine KIN.wp_text hs h3 h2 (wpAny_pure ?_)
    exact ⟨_, rfl, h⟩
  · rw [hn] at h1
    cases h1
end
end Mine

end TIntC

section TMap1
open PySem PySem.W PyProof.Rows
set_option Elab.async false
set_option maxRecDepth 100000
set_option maxHeartbeats 400000
namespace Mine
open PySem PySem.W PySem.Calls PyProof.Rows PySem.NumText

namespace MapF
theorem owner_map : Manifest.owners.lookup (String.ofList ['p', 'a', 'm'].reverse) = some Manifest.sig_map := by kernel_rfl
theorem slot_next : Slot "map" "__next__" "map.__next__" :=
  .of (owner := "map") (n := "__next__") (by rw [typeLookup_type, builtinLookup_eq_fast]; kernel_rfl) (by decide +kernel) (by decide +kernel) (by decide +kernel)
    (by first | exact .inl (by decide +kernel) | exact .inr (by decide +kernel)) (by rw [isSubtype_type]; kernel_rfl)
theorem entry_next : entryFor table "map.__next__" = some Builtin.«map.__next__» := entryFor_of_tree (by kernel_rfl)
theorem args_next (a : Value) : argsOk "map.__next__" ⟨[a], []⟩ := by
  unfold argsOk; rw [signature?_of (id := "map.__next__") (n := ['_', '_', 't', 'x', 'e', 'n', '_', '_']) (o := ['p', 'a', 'm']) (by kernel_rfl) owner_map]; kernel_rfl
theorem slot_iter : Slot "map" "__iter__" "map.__iter__" :=
  .of (owner := "map") (n := "__iter__") (by rw [typeLookup_type, builtinLookup_eq_fast]; kernel_rfl) (by decide +kernel) (by decide +kernel) (by decide +kernel)
    (by first | exact .inl (by decide +kernel) | exact .inr (by decide +kernel)) (by rw [isSubtype_type]; kernel_rfl)
theorem args_iter (a : Value) : argsOk "map.__iter__" ⟨[a], []⟩ := by
  unfold argsOk; rw [signature?_of (id := "map.__iter__") (n := ['_', '_', 'r', 'e', 't', 'i', '_', '_']) (o := ['p', 'a', 'm']) (by kernel_rfl) owner_map]; kernel_rfl
theorem entry_iter : entryFor table "map.__iter__" = some Builtin.«dict_keyiterator.__iter__» :=
  entryFor_alias (id' := "dict_keyiterator.__iter__") (by kernel_rfl) (by first | rfl | decide +kernel | (unfold String.splitOn; simp +decide [String.splitOnAux])) (by decide +kernel) (by kernel_rfl)
theorem slot_init : Slot "map" "__init__" "object.__init__" :=
  .of (owner := "object") (n := "__init__") (by rw [typeLookup_type, builtinLookup_eq_fast]; kernel_rfl) (by decide +kernel) (by decide +kernel) (by decide +kernel)
    (by first | exact .inl (by decide +kernel) | exact .inr (by decide +kernel)) (by rw [isSubtype_type]; kernel_rfl)
theorem mro : mroOf (.type "map") = pure [.type "map", .type "object"] := by rw [mroOf_type]; kernel_rfl
theorem lookup_new : typeLookup (.type "map") "__new__" = pure (some (.builtin "map.__new__")) := by rw [typeLookup_type, builtinLookup_eq_fast]; kernel_rfl
theorem called : TypeCalled "map" "map.__new__" "object.__init__" :=
  ⟨by decide +kernel, by decide +kernel, ⟨_, _, mro⟩, madeBy_type mro lookup_new (by decide +kernel), by decide +kernel, by rw [isSubtype_type]; kernel_rfl, slot_init⟩
theorem typeCall (a b : Value) : checkTypeCall "map" ⟨[a, b], []⟩ = pure () := by kernel_rfl
theorem newCall (a b : Value) : checkBuiltinCall "map.__new__" ⟨[.type "map", a, b], []⟩ = pure () := by kernel_rfl
theorem entry_new : entryFor table "map.__new__" = some Builtin.«map.__new__» := entryFor_of_tree (by kernel_rfl)
theorem sub : isSubtype (.type "map") (.type "map") = pure true := by rw [isSubtype_type]; kernel_rfl
theorem no_len : typeLookup (.type "map") "__len__" = pure none := by rw [typeLookup_type, builtinLookup_eq_fast]; kernel_rfl
theorem no_hint : typeLookup (.type "map") "__length_hint__" = pure none := by rw [typeLookup_type, builtinLookup_eq_fast]; kernel_rfl
end MapF

abbrev IsMap (h : Heap) (z TI : Addr) (f : Value) : Prop := h.get? z = some { cls := .type "map", dict := none, data := .fields #[.ref TI, f], slots := #[] }
abbrev IsOne (h : Heap) (T : Addr) (v : Value) : Prop := h.get? T = some { cls := .type "tuple", data := .seq #[v] }

section
variable {P : List Code → Prop} {w : World} {A : Around} {E : Value → Shared → Prop} {s : Shared} {z TI it : Addr} {f : Value}
theorem map_body {Q : Fin → Shared → Prop} (hz : IsMap s.heap z TI f) (hT : IsOne s.heap TI (.ref it))
    (h : wpAny (model prog w) A (Builtin.SmallTypes.nextOf (.ref it)) (fun x s₁ => IsMap s₁.heap z TI f ∧ wpC P (model prog w) A (call f [x]) (fun r s₂ => Q (.done (.ret r)) s₂) E s₁) E s) :
    wpC P (model prog w) A (Builtin.«map.__next__» ⟨[.ref z], []⟩) Q E s := by
  show wpC _ _ _ (field (.ref z) 0 >>= _) _ _ _
  refine wpC_bind (wpC_of_any (wpAny_field hz rfl (x := .ref TI) rfl ?_))
  refine wpC_bind (wpC_of_any (wpAny_seqItems hT rfl ?_))
  dsimp only
  refine wpC_bind (m := forIn _ _ _) ?_
  simp only [List.forIn_cons, List.forIn_nil, List.forIn_toArray]
  refine wpC_bind (wpC_bind (wpC_of_any (wpAny_holding (wpAny_mono h (fun x s₁ h₁ => ?_) fun _ _ e => e))))
  refine wpC_pure (wpC_pure ?_)
  refine wpC_bind (wpC_of_any (wpAny_field h₁.1 rfl (x := f) rfl ?_))
  refine wpC_bind (wpC_holding (wpC_mono h₁.2 (fun r s₂ h₂ => ?_) fun _ _ e => e))
  exact wpC_bind (wpC_of_any (wpAny_letGo (wpC_pure h₂)))
theorem csp_map {Q : Option Value → Shared → Prop} (hz : IsMap s.heap z TI f) (hT : IsOne s.heap TI (.ref it))
    (h : wpAny (model prog w) A.in1 (Builtin.SmallTypes.nextOf (.ref it)) (fun x s₁ => IsMap s₁.heap z TI f ∧ wpC Mute (model prog w) A.in1 (call f [x]) (fun v => Q (some v)) E s₁) E s) :
    wpAny (model prog w) A (callSpecial? (.ref z) (Str.ofString "__next__")) Q E s := by
  have hTy : s.TypeIs (.ref z) "map" := ⟨_, hz, rfl⟩
  refine wpAny_callSpecial?_slot (name := Str.ofString "__next__") hTy MapF.slot_next (wpAny_call (codeAny_call_builtin_own (plainId_quiet (by decide +kernel) _) MapF.entry_next ?_))
  refine MapF.slot_next.check _ _ _ _ _ _ _ _ hTy (MapF.args_next _) ?_
  have key : wpC Mute (model prog w) A.in1 (Builtin.«map.__next__» ⟨[.ref z], []⟩) (fun fin s' => ∃ v, fin = .done (.ret v) ∧ Q (some v) s') E s :=
    map_body hz hT (wpAny_mono h (fun x s₁ h₁ => ⟨h₁.1, wpC_mono h₁.2 (fun r s₂ h₂ => ⟨r, rfl, h₂⟩) fun _ _ e => e⟩) fun _ _ e => e)
  intro Γ p hc hΓ
  have hin : Γ.In A.in1 := by
    have := hΓ.in
    rw [hc, Around.under_plainId (by decide +kernel) _] at this
    exact this
  refine Sem.wp_mono _ Γ _ (fun fin p' s' h' => ?_) (fun _ _ _ e => e) p s (key Γ p hin (.inr ⟨[], _, _, by rw [hc]; rfl, fun _ h => nomatch h⟩))
  obtain ⟨v, rfl, hv⟩ := h'
  exact hv
theorem nextOf_map {Q : Value → Shared → Prop} (hz : IsMap s.heap z TI f) (hT : IsOne s.heap TI (.ref it))
    (h : wpAny (model prog w) A.in1 (Builtin.SmallTypes.nextOf (.ref it)) (fun x s₁ => IsMap s₁.heap z TI f ∧ wpC Mute (model prog w) A.in1 (call f [x]) Q E s₁) E s) :
    wpAny (model prog w) A (Builtin.SmallTypes.nextOf (.ref z)) Q E s := by
  unfold Builtin.SmallTypes.nextOf
  refine wpAny_bind (csp_map hz hT (wpAny_mono h (fun x s₁ h₁ => ⟨h₁.1, wpC_mono h₁.2 (fun r s₂ h₂ => ?_) fun _ _ e => e⟩) fun _ _ e => e))
  exact wpAny_pure h₂
theorem pyIter_map {q : Program} {Q : Value → Shared → Prop} (hz : IsMap s.heap z TI f) (h : Q (.ref z) s) : wpAny (model q w) A (pyIter (.ref z)) Q E s := by
  have hT : s.TypeIs (.ref z) "map" := ⟨_, hz, rfl⟩
  refine wpAny_pyIter_slot hT MapF.slot_iter (wpAny_call_entry MapF.slot_iter hT MapF.entry_iter ?_ (MapF.args_iter _))
  show wpAny _ _ (ret (.ref z)) _ _ s
  exact wpAny_pure ⟨_, rfl, "map", _, hT, MapF.slot_next.lookup, h⟩

theorem meets_map_new (f v : Value) (it : Addr) : Meets (Builtin.«map.__new__» ⟨[.type "map", f, v], []⟩) (fun _ R s => ∃ s₁ : Shared,
    (∀ (prog : Program) (w : World) (A : Around) (E : Value → Shared → Prop) (Q : Value → Shared → Prop), Q (.ref it) s₁ → wpAny (model prog w) A (pyIter v) Q E s) ∧
    R (.ok (.ret (.ref (s₁.heap.objs.size + 1)))) { s₁ with heap := (s₁.heap.push { cls := .type "tuple", data := .seq #[.ref it] }).push { cls := .type "map", data := .fields #[.ref s₁.heap.objs.size, f] } }) :=
  .of_wp fun prog w A R s h => by
    obtain ⟨s₁, hit, hR⟩ := h
    unfold Builtin.«map.__new__»
    refine wpAny_bind ?_
    show wpAny _ _ (isSubtype (.type "map") (.type "map") >>= _) _ _ _
    refine wpAny_bind (wpAny_of_eq MapF.sub (wpAny_pure ?_))
    show wpAny _ _ (Builtin.SmallTypes.iterAll [v] >>= _) _ _ _
    refine wpAny_bind ?_
    unfold Builtin.SmallTypes.iterAll
    simp only [List.forIn_cons, List.forIn_nil]
    refine wpAny_bind (wpAny_bind (wpAny_bind (wpAny_holding (hit _ _ _ _ _ ?_))))
    refine wpAny_pure (wpAny_pure (wpAny_pure ?_))
    refine wpAny_bind (wpAny_newTuple ?_ (by show 1 ≤ sizeLine; decide))
    refine wpAny_bind ?_
    unfold Builtin.SmallTypes.newRecord
    refine wpAny_newObj_type (wpAny_pure ⟨_, rfl, ?_⟩)
    show R (.ok (.ret (.ref (s₁.heap.push { cls := .type "tuple", data := .seq #[.ref it] }).objs.size))) _
    rw [show (s₁.heap.push { cls := .type "tuple", data := .seq #[.ref it] }).objs.size = s₁.heap.objs.size + 1 from Heap.size_push ..]
    exact hR
theorem call_map {v : Value} {s₁ : Shared} {Q : Value → Shared → Prop} (hit : ∀ (prog : Program) (w : World) (A : Around) (E : Value → Shared → Prop) (Q : Value → Shared → Prop), Q (.ref it) s₁ → wpAny (model prog w) A (pyIter v) Q E s)
    (h : ∀ h', Keep s₁.heap h' → IsOne h' s₁.heap.objs.size (.ref it) → IsMap h' (s₁.heap.objs.size + 1) s₁.heap.objs.size f → h'.objs.size = s₁.heap.objs.size + 2 → Q (.ref (s₁.heap.objs.size + 1)) { s₁ with heap := h' }) :
    wpAny (model prog w) A (call (.type "map") [f, v]) Q E s := by
  refine callType_new MapF.called (by decide) (MapF.typeCall _ _) (MapF.newCall _ _) (fun obj => F.args_object_init_3 obj _ _) MapF.entry_new (meets_map_new f v it) ⟨s₁, hit, ?_⟩
  have z1 : (s₁.heap.push { cls := .type "tuple", data := .seq #[.ref it] }).objs.size = s₁.heap.objs.size + 1 := Heap.size_push ..
  have g1 : ((s₁.heap.push { cls := .type "tuple", data := .seq #[.ref it] }).push { cls := .type "map", data := .fields #[.ref s₁.heap.objs.size, f] }).get? (s₁.heap.push { cls := .type "tuple", data := .seq #[.ref it] }).objs.size = some _ := Heap.get?_push_size _ rfl
  rw [z1] at g1
  refine ⟨⟨_, g1, rfl⟩, h _ (fun b o e => Heap.get?_push_of_some _ (Heap.get?_push_of_some _ e)) (Heap.get?_push_of_some _ (Heap.get?_push_size _ rfl)) g1 ?_⟩
  rw [Heap.size_push, z1]
end
end Mine

end TMap1

section TMap2
open PySem PySem.W PyProof.Rows
set_option Elab.async false
set_option maxRecDepth 100000
set_option maxHeartbeats 400000
namespace Mine
open PySem PySem.W PySem.Calls PyProof.Rows PySem.NumText

/-- list(map(str, map(int, ..))): what stands for it while it is walked -/
structure MapSt (l I T1 M1 T2 M2 : Addr) (vs : List Value) (i : Nat) (h : Heap) : Prop where
  it : h.IsListIter I l i
  ls : LstAt h l vs
  t1 : IsOne h T1 (.ref I)
  m1 : IsMap h M1 T1 (.type "int")
  t2 : IsOne h T2 (.ref M1)
  m2 : IsMap h M2 T2 (.type "str")
structure MapAp (l I T1 M1 T2 M2 : Addr) : Prop where
  l : l ≠ I
  t1 : T1 ≠ I
  m1 : M1 ≠ I
  t2 : T2 ≠ I
  m2 : M2 ≠ I
theorem MapSt.step {l I T1 M1 T2 M2 : Addr} {vs : List Value} {i j : Nat} {h h' : Heap} (S : MapSt l I T1 M1 T2 M2 vs i h) (D : MapAp l I T1 M1 T2 M2) (k : Heap.SameBut I h h') (hi : h'.IsListIter I l j) : MapSt l I T1 M1 T2 M2 vs j h' :=
  ⟨hi, S.ls.same k D.l, (k.2 _ D.t1).trans S.t1, (k.2 _ D.m1).trans S.m1, (k.2 _ D.t2).trans S.t2, (k.2 _ D.m2).trans S.m2⟩
theorem MapSt.keepL {l I T1 M1 T2 M2 : Addr} {vs : List Value} {i : Nat} {h h' : Heap} (S : MapSt l I T1 M1 T2 M2 vs i h) (k : ∀ b ∈ [l, I, T1, M1, T2, M2], ∀ o, h.get? b = some o → h'.get? b = some o) : MapSt l I T1 M1 T2 M2 vs i h' :=
  ⟨let ⟨o, e, r⟩ := S.it; ⟨o, k _ (by simp) o e, r⟩, S.ls.at fun o e => k _ (by simp) o e, k _ (by simp) _ S.t1, k _ (by simp) _ S.m1, k _ (by simp) _ S.t2, k _ (by simp) _ S.m2⟩

def conv (p : List Nat) : Option (List Nat) := (PySem.intText? (St p)).map fun n => (Str.ofString (toString n)).cps.toList
/-- what int and str need to have room -/
def Fine (p : List Nat) : Prop := p.length ≤ 640 ∧ (reprText (St p)).length ≤ 100000 ∧ ∀ n, PySem.intText? (St p) = some n → n.natAbs.log2 < 1920

section
variable {w : World} {A : Around} {E : Value → Shared → Prop} {s : Shared} {l I T1 M1 T2 M2 : Addr} {vs : List Value} {i : Nat}

theorem pyNext_item {p : List Nat} {t : Tok} {Q : Option Value → Shared → Prop} (hh : A.handled = none) (D : MapAp l I T1 M1 T2 M2) (S : MapSt l I T1 M1 T2 M2 vs i s.heap) (hx : vs[i]? = some (.str (St p) t)) (hp : Fine p)
    (h1 : ∀ q h' tk t', conv p = some q → MapSt l I T1 M1 T2 M2 vs (i + 1) h' → Heap.SameBut I s.heap h' → Q (some (.str (St q) t')) { s with heap := h', toks := tk })
    (h2 : ∀ h₁ h' tk e, conv p = none → Heap.SameBut I s.heap h₁ → Heap.NewExc h₁ h' e "ValueError" → E (.ref e) { s with heap := h', toks := tk }) :
    wpAny (model prog w) A (pyNext (.ref M2)) Q E s := by
  unfold pyNext
  refine wpAny_bind (wpAny_attempt (csp_map S.m2 S.t2 (nextOf_map S.m1 S.t1 (wpAny_nextOf_list_item S.it S.ls.isList (x := .str (St p) t) (by simpa using hx) fun h₁ hi₁ k₁ => ?_))))
  have S₁ := S.step D k₁ hi₁
  refine ⟨S₁.m1, ?_⟩
  cases hn : PySem.intText? (St p) with
  | some n =>
    refine wpC_of_any (KIN.call_text hn hp.1 ⟨S₁.m2, wpC_of_any (PySem.P.str_of_int (hp.2.2 n hn) (wpAny_pure ?_))⟩)
    refine h1 (Str.ofString (toString n)).cps.toList h₁ _ _ ?_ S₁ k₁
    unfold conv; rw [hn]; rfl
  | none =>
    refine bad1 hh hp.1 hn hp.2.1 fun h' tk e hx => ?_
    have hxx : Heap.NewExc h₁ h' e "ValueError" := hx
    obtain ⟨ob, tp, he, hc, _⟩ := hxx.there
    refine wpAny_bind (wpAny_isInstance (T := "ValueError") (b := false) ⟨ob, he, hc⟩ (by rw [isSubtype_type]; kernel_rfl) ?_)
    refine wpAny_throw (h2 h₁ h' tk e ?_ k₁ hxx)
    unfold conv; rw [hn]; rfl

theorem pyNext_end {Q : Option Value → Shared → Prop} (hh : A.handled = none) (S : MapSt l I T1 M1 T2 M2 vs i s.heap) (hx : vs[i]? = none)
    (h : ∀ h', Heap.ExtBut I s.heap h' → Q none { s with heap := h' }) :
    wpAny (model prog w) A (pyNext (.ref M2)) Q E s := by
  unfold pyNext
  refine wpAny_bind (wpAny_attempt (csp_map S.m2 S.t2 (nextOf_map S.m1 S.t1 (wpAny_nextOf_list_end hh S.it S.ls.isList (by simpa using hx) fun h₁ e k₁ he => ?_))))
  obtain ⟨o, ho, hc⟩ := he
  refine wpAny_bind (wpAny_isInstance (T := "StopIteration") (b := true) ⟨o, ho, hc⟩ isSubtype_stop ?_)
  exact wpAny_pure (h _ k₁)

theorem mapM_cons (p : List Nat) (r : List (List Nat)) : (p :: r).mapM conv = (conv p).bind fun q => (r.mapM conv).map (q :: ·) := by
  rw [List.mapM_cons]
  cases conv p with
  | none => rfl
  | some q =>
    show ((r.mapM conv).bind fun rs => some (q :: rs)) = _
    cases r.mapM conv <;> rfl

/-- the loop of list.extend over it -/
theorem ext_loop {R : Result → Shared → Prop} {S : Addr} {res : Value} (hh : A.handled = none) (D : MapAp l I T1 M1 T2 M2) (hSI : S ≠ I) (hSf : S ∉ [l, I, T1, M1, T2, M2]) (ps : List (List Nat)) (hT : TextsAre vs ps) (hF : ∀ p ∈ ps, Fine p) (hlen : ps.length ≤ 10000) :
    ∀ (rest done : List (List Nat)) (s : Shared) (acc : List Value) (ds : List (List Nat)), ps = done ++ rest → TextsAre acc ds → ds.length = done.length → MapSt l I T1 M1 T2 M2 vs done.length s.heap → LstAt s.heap S acc →
    (∀ h' tk us qs, rest.mapM conv = some qs → (∀ b o, b ∉ [I, S] → s.heap.get? b = some o → h'.get? b = some o) → LstAt h' S us → TextsAre us (ds ++ qs) → R (.ok (.ret res)) { s with heap := h', toks := tk }) →
    (∀ h₁ h' tk e, rest.mapM conv = none → (∀ b o, b ∉ [I, S] → s.heap.get? b = some o → h₁.get? b = some o) → Heap.NewExc h₁ h' e "ValueError" → R (.error (.ref e)) { s with heap := h', toks := tk }) →
    codeAny (model prog w) A (.builtin "list.extend.loop" ⟨[.ref S, .ref M2, res], []⟩) R s
  | [], done, s, acc, ds, hps, hacc, hdl, hst, hS, h1, _ => by
    refine codeAny_builtin F.entry_extend_loop ?_
    rw [Around.under_plainId F.plain_extend_loop _]
    show wpAny _ A.in1 (pyNext (.ref M2) >>= _) _ _ s
    have hnone : vs[done.length]? = none := by
      rw [List.getElem?_eq_none_iff, hT.length, hps]; simp
    refine wpAny_bind (pyNext_end hh hst hnone fun h' k => ?_)
    refine wpAny_pure ?_
    refine h1 h' _ acc [] rfl (fun b o hb e => k b o (by simp at hb; exact hb.1) e) (hS.at fun o e => k S o hSI e) (by simpa using hacc)
  | p :: rest, done, s, acc, ds, hps, hacc, hdl, hst, hS, h1, h2 => by
    refine codeAny_builtin F.entry_extend_loop ?_
    rw [Around.under_plainId F.plain_extend_loop _]
    show wpAny _ A.in1 (pyNext (.ref M2) >>= _) _ _ s
    have hget : ps[done.length]? = some p := by rw [hps]; simp
    have hvlt : done.length < vs.length := by rw [hT.length, hps]; simp
    obtain ⟨p', t, hp', hv⟩ := hT.get (List.getElem?_eq_getElem hvlt)
    rw [hget] at hp'
    injection hp' with hp'
    subst hp'
    have hFp : Fine p := hF p (by rw [hps]; simp)
    refine wpAny_bind (pyNext_item (t := t) hh D hst ((List.getElem?_eq_getElem hvlt).trans (congrArg some hv)) hFp (fun q h' tk t' hc hst' k => ?_) fun h₁ h' tk e hc k hx => ?_)
    · have hS' : LstAt h' S acc := hS.same k hSI
      obtain ⟨c0, hc0⟩ := hS'
      have hal := hacc.length
      have hle : done.length + 1 ≤ ps.length := by rw [hps]; simp
      show wpAny _ A.in1 (updateSeq S (·.push (.str (St q) t')) >>= _) _ _ _
      refine wpAny_bind (wpAny_updateSeq hc0 rfl (wpAny_pure ⟨plainId_quiet F.plain_extend_loop _, ?_⟩) (by rw [sizeLine_eq]; simp; omega) (by rw [sizeLine_eq]; simp; omega))
      have hS2 : LstAt (h'.update S (Obj.mapSeq (·.push (.str (St q) t')))) S (acc ++ [.str (St q) t']) := LstAt.upd ⟨c0, hc0⟩ (by simp)
      have oth : ∀ b o, b ≠ S → h'.get? b = some o → (h'.update S (Obj.mapSeq (·.push (.str (St q) t')))).get? b = some o := fun b o hb e => (Heap.get?_update_other _ _ (Ne.symm hb)).trans e
      refine ext_loop hh D hSI hSf ps hT hF hlen rest (done ++ [p]) _ (acc ++ [.str (St q) t']) (ds ++ [q]) (by rw [hps]; simp) hacc.snoc (by simp [hdl]) ?_ hS2 (fun h'' tk' us qs hm hk hus hts => ?_) (fun h₁ h'' tk' e hm hk hx => ?_)
      · rw [List.length_append]
        exact hst'.keepL fun b hb o e => oth b o (fun q => hSf (q ▸ hb)) e
      · refine h1 h'' tk' us (q :: qs) (by rw [mapM_cons, hc, hm]; rfl) (fun b o hb e => hk b o hb (oth b o (by simp at hb; exact hb.2) ((k.2 b (by simp at hb; exact hb.1)).trans e))) hus ?_
        simpa using hts
      · exact h2 h₁ h'' tk' e (by rw [mapM_cons, hc, hm]; rfl) (fun b o hb e => hk b o hb (oth b o (by simp at hb; exact hb.2) ((k.2 b (by simp at hb; exact hb.1)).trans e))) hx
    · exact h2 h₁ h' tk e (by rw [mapM_cons, hc]; rfl) (fun b o hb e => (k.2 b (by simp at hb; exact hb.1)).trans e) hx
end
end Mine

end TMap2

section TMap3
open PySem PySem.W PyProof.Rows
set_option Elab.async false
set_option maxRecDepth 100000
set_option maxHeartbeats 400000
namespace Mine
open PySem PySem.W PySem.Calls PyProof.Rows PySem.NumText

section
variable {w : World} {A : Around} {E : Value → Shared → Prop} {s : Shared} {l I T1 M1 T2 M2 : Addr} {vs : List Value}

theorem call_list_map {Q : Value → Shared → Prop} (hh : A.handled = none) (D : MapAp l I T1 M1 T2 M2) (ps : List (List Nat)) (hT : TextsAre vs ps) (hF : ∀ p ∈ ps, Fine p) (hlen : ps.length ≤ 10000) (hst : MapSt l I T1 M1 T2 M2 vs 0 s.heap)
    (h1 : ∀ h' tk a us qs, ps.mapM conv = some qs → (∀ b o, b ≠ I → s.heap.get? b = some o → h'.get? b = some o) → s.heap.get? a = none → LstAt h' a us → TextsAre us qs → Q (.ref a) { s with heap := h', toks := tk })
    (h2 : ∀ h₁ h' tk e, ps.mapM conv = none → (∀ b o, b ≠ I → s.heap.get? b = some o → h₁.get? b = some o) → Heap.NewExc h₁ h' e "ValueError" → E (.ref e) { s with heap := h', toks := tk }) :
    wpAny (model prog w) A (call (.type "list") [.ref M2]) Q E s := by
  refine callType_codes (Q₁ := fun obj s₁ => obj = .ref s.heap.objs.size ∧ s₁ = { s with heap := s.heap.push { cls := .type "list", data := .seq #[] } }) F.called_list (F.typeCall_list_1 _) F.entry_list_init
    (code_list_new _ ⟨rfl, rfl⟩) fun obj s₁ h₁ => ?_
  obtain ⟨rfl, rfl⟩ := h₁
  have hS : (s.heap.push { cls := .type "list", data := .seq #[] }).get? s.heap.objs.size = some { cls := .type "list", data := .seq #[] } := Heap.get?_push_size _ rfl
  refine ⟨⟨_, hS, rfl⟩, F.args_list_init_2 _ _, ?_⟩
  have hlt : ∀ b ∈ [l, I, T1, M1, T2, M2], b < s.heap.objs.size := by
    intro b hb
    obtain ⟨o, e, _⟩ := hst.it
    simp at hb
    rcases hb with rfl | rfl | rfl | rfl | rfl | rfl
    · exact hst.ls.lt
    · exact Heap.lt_size e
    · exact Heap.lt_size hst.t1
    · exact Heap.lt_size hst.m1
    · exact Heap.lt_size hst.t2
    · exact Heap.lt_size hst.m2
  have hSf : s.heap.objs.size ∉ [l, I, T1, M1, T2, M2] := fun hm => Nat.lt_irrefl _ (hlt _ hm)
  have hSI : s.heap.objs.size ≠ I := fun e => hSf (by rw [e]; simp)
  have hSM : s.heap.objs.size ≠ M2 := fun e => hSf (by rw [e]; simp)
  have hnew : s.heap.get? s.heap.objs.size = none := size_none _
  have pk : ∀ b o, s.heap.get? b = some o → (s.heap.push { cls := .type "list", data := .seq #[] }).get? b = some o := fun b o e => Heap.get?_push_of_some _ e
  generalize s.heap.push { cls := .type "list", data := .seq #[] } = hp at *
  generalize s.heap.objs.size = S at *
  show wpAny _ _ (do let old ← Builtin.List.listItems (.ref S); Builtin.List.listUpdate (.ref S) (fun _ => #[]); letGo old.toList.reverse; Builtin.List.listExtendWith (.ref S) (.ref M2) .none) _ _ _
  refine wpAny_bind ?_
  unfold Builtin.List.listItems
  refine wpAny_bind (wpAny_seqItems hS rfl (wpAny_pure ?_))
  show wpAny _ _ (updateSeq S (fun _ => #[]) >>= fun _ => letGo (#[] : Array Value).toList.reverse >>= fun _ => Builtin.List.listExtendWith (.ref S) (.ref M2) .none) _ _ _
  refine wpAny_bind (wpAny_updateSeq hS rfl ?_)
  have hS₂ := Heap.get?_update_self (Obj.mapSeq (fun _ => (#[] : Array Value))) hS rfl
  have oth : ∀ b o, b ≠ S → hp.get? b = some o → (hp.update S (Obj.mapSeq (fun _ => (#[] : Array Value)))).get? b = some o :=
    fun b o hb e => (Heap.get?_update_other _ _ (Ne.symm hb)).trans e
  refine wpAny_bind (wpAny_letGo ?_)
  have hk₂ : ∀ b o, s.heap.get? b = some o → (hp.update S (Obj.mapSeq (fun _ => (#[] : Array Value)))).get? b = some o := fun b o e => oth b o (fun q => by rw [q, hnew] at e; cases e) (pk b o e)
  generalize hp.update S (Obj.mapSeq (fun _ => (#[] : Array Value))) = hp₂ at *
  have st₂ : MapSt l I T1 M1 T2 M2 vs 0 hp₂ := hst.keepL fun b _ o e => hk₂ b o e
  unfold Builtin.List.listExtendWith
  have hTy : ({ s with heap := hp₂ } : Shared).TypeIs (.ref M2) "map" := ⟨_, st₂.m2, rfl⟩
  refine wpAny_bind (wpAny_typeOf hTy ?_)
  have e1 : Builtin.List.listSameRef (.ref S) (.ref M2) = false := by simp [Builtin.List.listSameRef, hSM]
  rw [if_neg (by rw [e1]; decide)]
  refine wpAny_bind (pyIter_map st₂.m2 ?_)
  refine wpAny_bind (wpAny_holding ?_)
  unfold Builtin.List.listLengthHint
  refine wpAny_bind (wpAny_specialOf hTy MapF.no_len ?_)
  show wpAny _ _ (specialOf (Value.ref M2) (Str.ofString "__length_hint__") >>= _) _ _ _
  refine wpAny_bind (wpAny_specialOf hTy MapF.no_hint ?_)
  refine wpAny_pure ?_
  show wpAny _ _ (rule "list.extend.makes-room" >>= fun _ => Builtin.List.listTouch (.ref S) >>= fun _ => again (.builtin "list.extend.loop" ⟨[.ref S, .ref M2, .none], []⟩)) _ _ _
  refine wpAny_bind (wpAny_rule ?_)
  refine wpAny_bind ?_
  show wpAny _ _ (updateSeq S (·.push .none) >>= fun _ => updateSeq S (·.pop)) _ _ _
  refine wpAny_bind (wpAny_updateSeq hS₂ rfl ?_)
  have hS₃ := Heap.get?_update_self (Obj.mapSeq (·.push Value.none)) hS₂ rfl
  refine wpAny_updateSeq (hz := by seq_fits) hS₃ rfl ?_
  have hS₄ := Heap.get?_update_self (Obj.mapSeq (·.pop)) hS₃ rfl
  have oth₄ : ∀ b o, b ≠ S → hp₂.get? b = some o → ((hp₂.update S (Obj.mapSeq (·.push Value.none))).update S (Obj.mapSeq (·.pop))).get? b = some o :=
    fun b o hb e => (Heap.get?_update_other _ _ (Ne.symm hb)).trans ((Heap.get?_update_other _ _ (Ne.symm hb)).trans e)
  have hk₄ : ∀ b o, s.heap.get? b = some o → ((hp₂.update S (Obj.mapSeq (·.push Value.none))).update S (Obj.mapSeq (·.pop))).get? b = some o := fun b o e => oth₄ b o (fun q => by rw [q, hnew] at e; cases e) (hk₂ b o e)
  have hL₄ : LstAt ((hp₂.update S (Obj.mapSeq (·.push Value.none))).update S (Obj.mapSeq (·.pop))) S [] := ⟨_, hS₄⟩
  generalize (hp₂.update S (Obj.mapSeq (·.push Value.none))).update S (Obj.mapSeq (·.pop)) = hp₄ at *
  refine wpAny_pure ⟨plainId_quiet F.plain_extend_loop _, ?_⟩
  refine ext_loop (A := A.in1) hh D hSI hSf ps hT hF hlen ps [] { s with heap := hp₄ } [] [] rfl .nil rfl (hst.keepL fun b _ o e => hk₄ b o e) hL₄ (fun h' tk us qs hm hk hus hts => ?_) (fun h₁ h' tk e hm hk hx => ?_)
  · exact ⟨rfl, h1 h' tk S us qs hm (fun b o hb e => hk b o (by simp [hb]; intro q; rw [q, hnew] at e; cases e) (hk₄ b o e)) hnew hus (by simpa using hts)⟩
  · exact h2 h₁ h' tk e hm (fun b o hb e => hk b o (by simp [hb]; intro q; rw [q, hnew] at e; cases e) (hk₄ b o e)) hx
end
end Mine

end TMap3

section TNormP
open PySem PySem.W PyProof.Rows
set_option Elab.async false
set_option maxRecDepth 100000
set_option maxHeartbeats 400000
namespace Mine
open PySem PySem.W PySem.Calls PyProof.Rows

def joinDots : List (List Nat) → List Nat
  | [] => []
  | [x] => x
  | x :: r => x ++ 46 :: joinDots r
theorem join_St : ∀ ps : List (List Nat), Str.join (St [46]) (ps.map St) = St (joinDots ps)
  | [] => rfl
  | [x] => rfl
  | x :: y :: r => by
    show St x ++ St [46] ++ Str.join (St [46]) ((y :: r).map St) = _
    rw [join_St (y :: r), St_append, St_append]
    show St (x ++ [46] ++ joinDots (y :: r)) = St (x ++ 46 :: joinDots (y :: r))
    simp
theorem fold_free : ∀ (p : List Nat) (d : List (List Nat)) (c : List Nat), 46 ∉ p → p.foldl pstep (d, c) = (d, c ++ p)
  | [], d, c, _ => by simp
  | x :: r, d, c, h => by
    have hx : x ≠ 46 := fun e => h (by simp [e])
    have hr : 46 ∉ r := fun e => h (by simp [e])
    rw [List.foldl_cons]
    unfold pstep
    rw [if_neg hx]
    have := fold_free r d (c ++ [x]) hr
    unfold pstep at this
    rw [this]; simp
theorem fold_join : ∀ (r : List (List Nat)) (p : List Nat) (d : List (List Nat)) (c : List Nat), (∀ q ∈ p :: r, 46 ∉ q) →
    ((joinDots (p :: r)).foldl pstep (d, c)).1 ++ [((joinDots (p :: r)).foldl pstep (d, c)).2] = d ++ (c ++ p) :: r
  | [], p, d, c, h => by
    show ((p.foldl pstep (d, c)).1 ++ [(p.foldl pstep (d, c)).2]) = _
    rw [fold_free p d c (h p (by simp))]
  | q :: r, p, d, c, h => by
    show (((p ++ 46 :: joinDots (q :: r)).foldl pstep (d, c)).1 ++ [((p ++ 46 :: joinDots (q :: r)).foldl pstep (d, c)).2]) = _
    rw [List.foldl_append, fold_free p d c (h p (by simp)), List.foldl_cons]
    rw [show pstep (d, c ++ p) 46 = (d ++ [c ++ p], []) from rfl]
    rw [fold_join r q (d ++ [c ++ p]) [] (fun x hx => h x (List.mem_cons_of_mem _ hx))]
    simp
theorem splitDots_join {ps : List (List Nat)} (hne : ps ≠ []) (h : ∀ q ∈ ps, 46 ∉ q) : splitDots (joinDots ps) = ps := by
  cases ps with
  | nil => exact absurd rfl hne
  | cons p r =>
    unfold splitDots pst
    rw [fold_join r p [] [] h]; simp
theorem St_eta (x : Str) : St x.cps.toList = x := by simp
theorem split_dots (text : List Nat) : (Txt.split (St text) (St [46])).map (·.cps.toList) = splitDots text := by
  have h1 := StrLaws.join_split (St text) (St [46])
  have h2 : ∀ p ∈ Txt.split (St text) (St [46]), 46 ∉ p.cps.toList := StrLaws.split_free (St text) 46
  have h3 := PyProof.Rows.split_pos (St text) (St [46])
  generalize Txt.split (St text) (St [46]) = ps at h1 h2 h3 ⊢
  have e : ps = (ps.map (·.cps.toList)).map St := by
    rw [List.map_map]
    conv => lhs; rw [← List.map_id ps]
    exact List.map_congr_left fun x _ => (St_eta x).symm
  rw [e, join_St] at h1
  have h4 : joinDots (ps.map (·.cps.toList)) = text := by
    have := congrArg (fun x : Str => x.cps.toList) h1
    simpa using this
  rw [← h4]
  refine (splitDots_join ?_ ?_).symm
  · intro q; rw [List.map_eq_nil_iff] at q; rw [q] at h3; cases h3
  · intro q hq
    obtain ⟨x, hx, rfl⟩ := List.mem_map.mp hq
    exact h2 x hx

def partsOf (v b : List Nat) : List (List Nat) := splitDots v ++ (if b = [] then [] else [b])
def normTold (v b : List Nat) : List Nat := joinDots (((partsOf v b).mapM conv).getD (partsOf v b) |>.take 3)
end Mine

end TNormP

section TNorm
open PySem PySem.W PyProof.Rows
set_option Elab.async false
set_option maxRecDepth 100000
set_option maxHeartbeats 400000
namespace Mine
open PySem PySem.W PySem.Calls PyProof.Rows PyProof.Rows.TI

theorem textsAre_values : ∀ (l : List (Str × Tok)), TextsAre (strValues l) (l.map (·.1.cps.toList))
  | [] => .nil
  | (x, t) :: r => by
    show TextsAre (.str x t :: strValues r) (x.cps.toList :: r.map (·.1.cps.toList))
    have := TextsAre.cons (l := x.cps.toList) (t := t) (textsAre_values r)
    rw [St_eta] at this
    exact this
theorem strsAre_of : ∀ {vs : List Value} {ls : List (List Nat)}, TextsAre vs ls → PyProof.Rows.StrsAre vs (ls.map St)
  | _, _, .nil => PyProof.Rows.StrsAre.nil
  | _, _, .cons h => PyProof.Rows.StrsAre.cons _ _ (strsAre_of h)
theorem gone_size (h : Heap) (a : Addr) : (gone h [a]).objs.size = h.objs.size := Heap.size_after_update ..
theorem gone_size2 (h : Heap) (a b : Addr) : (gone h [a, b]).objs.size = h.objs.size := (Heap.size_after_update ..).trans (Heap.size_after_update ..)

theorem mapM_some : ∀ {ps qs : List (List Nat)}, ps.mapM conv = some qs → qs.length = ps.length ∧ ∀ q ∈ qs, ∃ p ∈ ps, conv p = some q
  | [], qs, h => by
    have : qs = [] := (Option.some.inj h).symm
    subst this; exact ⟨rfl, fun _ h => nomatch h⟩
  | p :: r, qs, h => by
    rw [mapM_cons] at h
    cases hp : conv p with
    | none => rw [hp] at h; cases h
    | some q =>
      rw [hp] at h
      cases hr : r.mapM conv with
      | none => rw [hr] at h; cases h
      | some rs =>
        rw [hr] at h
        have : qs = q :: rs := (Option.some.inj h).symm
        subst this
        have ih := mapM_some hr
        refine ⟨by simp [ih.1], fun x hx => ?_⟩
        rcases List.mem_cons.mp hx with rfl | hx
        · exact ⟨p, by simp, hp⟩
        · obtain ⟨p', h1, h2⟩ := ih.2 x hx
          exact ⟨p', List.mem_cons_of_mem _ h1, h2⟩
theorem sum_le {l : List (List Nat)} {n : Nat} (h : ∀ q ∈ l, q.length ≤ n) : ((l.map St).map (·.length)).sum ≤ l.length * n := by
  induction l with
  | nil => simp
  | cons a r ih =>
    have h1 := h a (by simp)
    have h2 := ih fun q hq => h q (List.mem_cons_of_mem _ hq)
    simp only [List.map_cons, List.sum_cons, List.length_cons, St_length]
    rw [Nat.succ_mul]
    omega

section
variable {w : World} {A : Around} {E : Value → Shared → Prop} {s : Shared} {mg mb : Str → Option Value}

theorem norm_body {args : List Value} {v b : List Nat} {tv tb : Tok} {Q : Value → Shared → Prop} {envO : Env} {L0 : Addr} {oL0 : Obj}
    (B : Base w (gone s.heap [L0]) mg mb) (hroom : A.depth < recursionLimit) (hh : A.handled = none) (hfr : A.frames = some [envO]) (hO : envO.frame = some L0) (hOk : envO.scope.kind = .function)
    (hL0 : s.heap.get? L0 = some oL0) (hL0d : ∀ vs, oL0.data ≠ .fields vs)
    (hbind : ∀ fd oc od osl, (KK w).lookup 52 = some ⟨oc, od, .func fd, osl⟩ → BindsTo s fd ⟨args, []⟩ [(Str.ofString "version", .str (St v) tv), (Str.ofString "build", .str (St b) tb)])
    (hv : v.length ≤ 1000) (hF : ∀ p ∈ partsOf v b, Fine p ∧ ∀ q, conv p = some q → q.length ≤ 1000)
    (hQ : ∀ h' tk t', KeptBut [L0] s.heap h' → Q (.str (St (normTold v b)) t') { s with heap := h', toks := tk }) :
    wpAny (model prog w) A (call (.ref 52) args) Q E s := by
  have BX : Base w s.heap mg mb := B.keeps fun b o e => (gone_some e).2
  refine enter (binds := [(Str.ofString "version", .str (St v) tv), (Str.ofString "build", .str (St b) tb)]) BX hroom rfl rfl rfl (hbind _ _ _ _ rfl) rfl rfl rfl (by decide) (locs rfl) rfl rfl rfl ?_
  intro env L h₁ V F
  dsimp only at V ⊢
  have hLL0 : L ≠ L0 := Nat.ne_of_gt (Nat.lt_of_lt_of_le (Heap.lt_size hL0) F.above)
  -- l = version.split('.')
  refine wpAny_execs_cons ?_
  with_reducible refine wpAny_Assign_Name ?_ ?_
  rotate_left
  with_unfolding_all rfl
  refine MethodCall_ (ldv V F rfl rfl (GM.split (callWith_method1 (args_cons (wpAny_Constant_str (args_nil (splitN1 (news := []) F (fun _ h => nomatch h) (by decide +kernel) ?_ ?_)))))))
  rotate_left
  · rw [St_length, sizeLine_eq]; omega
  intro l h₂ tk₂ hl F₂ N₂
  rw [show Str.ofString "." = St [46] from by decide +kernel] at hl
  have hla := (N₂ _ List.mem_cons_self).1
  have hlT : TextsAre (strValues l) (splitDots v) := by
    have := textsAre_values l
    rw [← split_dots, ← hl, List.map_map]
    exact this
  have hga : s.heap.get? h₁.objs.size = none := Keep.none F.keep (size_none _)
  have hL₂ : LstAt h₂ h₁.objs.size (strValues l) := ⟨0, hla⟩
  generalize h₁.objs.size = a at *
  refine stv V F₂ rfl fun h₃ F₃ hs₃ => ?_
  have haL : a ≠ L := hL₂.ne_ns F₂.ns
  have hL₃ := hL₂.same hs₃ haL
  dsimp only
  have hvl : (splitDots v).length ≤ 1001 := by
    unfold splitDots
    have := pst_len v
    simp only [List.length_append, List.length_cons, List.length_nil]
    omega
  have hsl := hlT.length
  have hblen : b.length ≤ 1000 ∨ b = [] := by
    by_cases hb : b = []
    · exact .inr hb
    · have := (hF b (by unfold partsOf; rw [if_neg hb]; simp)).1.1
      exact .inl (by omega)
  -- if build
  refine wpAny_execs_cons (wpAny_If (wpAny_isTrue_value (ldv V F₃ rfl rfl (PySem.P.truthy_str ?_ ?_))))
  · rw [St_length]; rcases hblen with h | h
    · omega
    · rw [h]; decide
  rw [St_length]
  refine if_merge (fun s' => ∃ h tk m vs, s' = { s with heap := h, toks := tk } ∧ Fr s.heap L h m ∧ m (Str.ofString "l") = some (.ref a) ∧ LstAt h a vs ∧ TextsAre vs (partsOf v b)) ?_ ?_ ?_
  · intro hb
    have hb' : ¬ b = [] := by intro e; rw [e] at hb; simp at hb
    refine wpAny_execs_cons (wpAny_Expr ?_ V.inter)
    refine MethodCall_ (ldv V F₃ rfl rfl (getMethod_list_of PySem.F.slot_list_append PySem.F.type_list_append hL₃.isList hL₃.noDict (callWith_method1 (args_cons (ldv V F₃ rfl rfl (args_nil (lst_append hL₃ (by omega) fun h₄ hL₄ hs₄ => ?_)))))))
    dsimp only
    refine wpAny_execs_nil ⟨rfl, _, _, _, _, rfl, frSame F₃ hs₄ (Ne.symm haL) hga, rfl, hL₄, ?_⟩
    unfold partsOf
    rw [if_neg hb']
    exact hlT.snoc
  · intro hb
    have hb' : b = [] := by
      have : b.length = 0 := by simpa using hb
      exact List.length_eq_zero_iff.mp this
    refine wpAny_execs_nil ⟨rfl, _, _, _, _, rfl, F₃, rfl, hL₃, ?_⟩
    unfold partsOf
    rw [if_pos hb', List.append_nil]
    exact hlT
  clear hlT hL₃ hs₃ F₃ hL₂ F₂ N₂ hla hl F hsl
  rintro s' ⟨h, tk, m, vs, rfl, Fm, hm, hL, hT⟩
  dsimp only
  have Bm : Base w h mg mb := BX.keeps Fm.keep
  have hpl : (partsOf v b).length ≤ 1002 := by
    unfold partsOf
    rw [List.length_append]
    split <;> simp <;> omega
  -- try
  refine seqP (fun s' => ∃ h tk m a us sl, s' = { s with heap := h, toks := tk } ∧ Fr (gone s.heap [L0]) L h m ∧ h.get? L0 = some { oL0 with slots := sl } ∧ m (Str.ofString "strings") = some (.ref a) ∧ LstAt h a us ∧
    TextsAre us (((partsOf v b).mapM conv).getD (partsOf v b))) (wpAny_Try_except ?_) ?_
  · refine wpAny_execs_cons ?_
    with_reducible refine wpAny_Assign_Name ?_ ?_
    rotate_left
    with_unfolding_all rfl
    refine Call_ (ldb V Bm rfl (by kernel_rfl) (v := .type "list") (by decide +kernel) (by decide) (PyProof.Rows.callWith_type1 (args_cons ?_)))
    refine Call_ (ldb V Bm rfl (by kernel_rfl) (v := .type "map") (by decide +kernel) (by decide) (PyProof.Rows.callWith_type1 (args_cons ?_)))
    refine ldb V Bm rfl (by kernel_rfl) (v := .type "str") (by decide +kernel) (by decide) (args_cons ?_)
    refine Call_ (ldb V Bm rfl (by kernel_rfl) (v := .type "map") (by decide +kernel) (by decide) (PyProof.Rows.callWith_type1 (args_cons ?_)))
    refine ldb V Bm rfl (by kernel_rfl) (v := .type "int") (by decide +kernel) (by decide) (args_cons ?_)
    refine ldv V Fm rfl hm (args_nil ?_)
    have hI : h.get? h.objs.size = none := size_none _
    have hIs : (h.push { cls := .type "list_iterator", data := .fields #[.ref a, .int 0 0] }).objs.size = h.objs.size + 1 := Heap.size_push ..
    have hIt : (h.push { cls := .type "list_iterator", data := .fields #[.ref a, .int 0 0] }).get? h.objs.size = some { cls := .type "list_iterator", data := .fields #[.ref a, .int 0 0] } := Heap.get?_push_size _ rfl
    have hk1 : Keep h (h.push { cls := .type "list_iterator", data := .fields #[.ref a, .int 0 0] }) := pushKeep _ _
    refine call_map (it := h.objs.size) (s₁ := { s with heap := h.push { cls := .type "list_iterator", data := .fields #[.ref a, .int 0 0] }, toks := tk }) (fun q w A E Q hq => wpAny_pyIter_list (hL.isList) hq) ?_
    intro h₅ k₅ hone₅ hmap₅ hsz₅
    dsimp only at k₅ hone₅ hmap₅ hsz₅ ⊢
    generalize h.push { cls := .type "list_iterator", data := .fields #[.ref a, .int 0 0] } = hp at *
    refine args_nil ?_
    refine call_map (it := hp.objs.size + 1) (s₁ := { s with heap := h₅, toks := tk }) (fun q w A E Q hq => pyIter_map hmap₅ hq) ?_
    intro h₆ k₆ hone₆ hmap₆ hsz₆
    dsimp only at k₆ hone₆ hmap₆ hsz₆ ⊢
    refine args_nil ?_
    have S₆ : MapSt a h.objs.size hp.objs.size (hp.objs.size + 1) h₅.objs.size (h₅.objs.size + 1) vs 0 h₆ :=
      ⟨⟨_, k₆ _ _ (k₅ _ _ hIt), rfl, rfl⟩, hL.at fun o e => k₆ _ _ (k₅ _ _ (hk1 _ _ e)), k₆ _ _ hone₅, k₆ _ _ hmap₅, hone₆, hmap₆⟩
    have hah : a < h.objs.size := hL.lt
    have D : MapAp a h.objs.size hp.objs.size (hp.objs.size + 1) h₅.objs.size (h₅.objs.size + 1) :=
      ⟨Nat.ne_of_lt hah, Nat.ne_of_gt (by omega), Nat.ne_of_gt (by omega), Nat.ne_of_gt (by omega), Nat.ne_of_gt (by omega)⟩
    have hkk : ∀ b' o, h.get? b' = some o → h₆.get? b' = some o := fun b' o e => k₆ _ _ (k₅ _ _ (hk1 _ _ e))
    refine call_list_map (A := A.deeper env) hh D (partsOf v b) hT (fun p hp => (hF p hp).1) (by omega) S₆ ?_ ?_
    · intro h₇ tk₇ a' us qs hq hk₇ ha' hus hts
      have kh : Keep h h₇ := fun b' o e => hk₇ b' o (fun q => by rw [q, hI] at e; cases e) (hkk b' o e)
      have F₇ := frKeep Fm kh
      have haL' : a' ≠ L := hus.ne_ns F₇.ns
      refine stv V F₇ rfl fun h₈ F₈ hs₈ => ?_
      dsimp only
      refine wpAny_execs_nil (wpAny_execs_nil ⟨rfl, h₈, _, _, a', us, oL0.slots, rfl, ⟨F₈.ns, fun b' o e => F₈.keep b' o (gone_some e).2, by rw [gone_size]; exact F₈.above⟩, F₈.keep _ _ hL0, rfl, hus.same hs₈ haL', ?_⟩)
      rw [hq]
      exact hts
    · intro h₇ h₈ tk₈ e hq hk₇ hx
      have kh : Keep h h₇ := fun b' o e => hk₇ b' o (fun q => by rw [q, hI] at e; cases e) (hkk b' o e)
      have F₇ := frKeep Fm kh
      obtain ⟨oL, es, ep, hoL, hdL, _⟩ := id F₇.ns
      have B₇ : Base w (gone h₇ [L, L0]) mg mb := B.keeps fun b' o e => by
        have := gone_some e
        rw [gone_get]
        · exact F₇.keep b' o this.2
        · intro hm
          simp at hm this
          rcases hm with q | q
          · rw [q, kts_self F₇] at this; cases this.2
          · exact this.1 q
      refine caught (h := h₇) (oL := oL) (oL0 := oL0) V hO hOk (Around.frames_deeper hfr) hx hoL (fun vs q => by rw [hdL] at q; cases q) (F₇.keep _ _ hL0) hL0d B₇ rfl fun h₉ K₉ => ?_
      obtain ⟨slL, hL9⟩ := K₉.frame L oL (by simp) hoL (fun vs q => by rw [hdL] at q; cases q)
      obtain ⟨sl0, hL09⟩ := K₉.frame L0 oL0 (by simp) (F₇.keep _ _ hL0) hL0d
      have F₉ : Fr (gone s.heap [L0]) L h₉ m := by
        refine ⟨?_, fun b' o e => ?_, by rw [gone_size]; exact F₇.above⟩
        · obtain ⟨o', es', ep', ho', hd', r'⟩ := F₇.ns
          rw [hoL] at ho'
          cases ho'
          exact ⟨_, es', ep', hL9, hd', r'⟩
        · have := gone_some e
          refine K₉.other b' o ?_ (F₇.keep b' o this.2)
          intro hm
          simp at hm this
          rcases hm with q | q
          · rw [q, kts_self F₇] at this; cases this.2
          · exact this.1 q
      have haL0 : a ≠ L0 := fun q => by rw [q, hL0] at hga; cases hga
      have hL9l : LstAt h₉ a vs := (hL.keep kh).at fun o e => K₉.other a o (by simp; exact ⟨haL, haL0⟩) e
      refine wpAny_execs_cons ?_
      with_reducible refine wpAny_Assign_Name ?_ ?_
      rotate_left
      with_unfolding_all rfl
      refine ldv V F₉ rfl hm (stv V F₉ rfl fun h₁₀ F₁₀ hs₁₀ => ?_)
      dsimp only
      refine wpAny_execs_nil ⟨rfl, h₁₀, _, _, a, vs, sl0, rfl, F₁₀, (hs₁₀.2 L0 (Ne.symm hLL0)).trans hL09, rfl, hL9l.same hs₁₀ haL, ?_⟩
      rw [hq]
      exact hT
  clear Fm hm hL hT Bm
  rintro s' ⟨h, tk, m, a, us, sl, rfl, Fm, hl0, hm, hL, hT⟩
  have hstr : ∀ q ∈ ((partsOf v b).mapM conv).getD (partsOf v b), q.length ≤ 1000 := by
    intro q hq
    cases hm : (partsOf v b).mapM conv with
    | none =>
      rw [hm] at hq
      have := (hF q hq).1.1
      omega
    | some qs =>
      rw [hm] at hq
      obtain ⟨p, hp, hc⟩ := (mapM_some hm).2 q hq
      exact (hF p hp).2 q hc
  have hcount : (((partsOf v b).mapM conv).getD (partsOf v b)).length ≤ 1002 := by
    cases hm : (partsOf v b).mapM conv with
    | none => exact hpl
    | some qs => rw [Option.getD_some, (mapM_some hm).1]; exact hpl
  have hul := hT.length
  refine wpAny_execs_cons ?_
  with_reducible refine wpAny_Assign_Name ?_ ?_
  rotate_left
  with_unfolding_all rfl
  refine MethodCall_ (wpAny_Constant_str (GM.join (callWith_method1 (args_cons (slice_list (b := 3) (ldv V Fm rfl hm ⟨a, us, rfl, hL.isList, by omega, fun h₂ a₂ k₂ hn₂ hlt₂ hL₂ => args_nil ?_⟩))))))
  have hT3 := hT.take 3
  have F₂ := frKeep Fm k₂
  refine join_list (ys := ((((partsOf v b).mapM conv).getD (partsOf v b)).take 3).map St) hL₂.isList (by simpa using strsAre_of hT3) ?_ fun t' k => ?_
  · have := sum_le (n := 1000) (l := (((partsOf v b).mapM conv).getD (partsOf v b)).take 3) fun q hq => hstr q (List.mem_of_mem_take hq)
    have h3 : ((((partsOf v b).mapM conv).getD (partsOf v b)).take 3).length ≤ 3 := by rw [List.length_take]; omega
    rw [List.length_map, show (Str.ofString ".").length = 1 from by decide +kernel]
    omega
  refine stv V F₂ rfl fun h₃ F₃ hs₃ => ?_
  dsimp only
  refine wpAny_execs_cons (wpAny_Return_some (ldv V F₃ rfl rfl ?_))
  have e1 : Txt.join (Str.ofString ".") (((((partsOf v b).mapM conv).getD (partsOf v b)).take 3).map St) = St (normTold v b) := by
    show Builtin.Str.glued _ _ = _
    rw [show Str.ofString "." = St [46] from by decide +kernel, StrLaws.glued_eq_join, join_St]
    rfl
  rw [e1]
  refine hQ _ _ _ ⟨fun b' o hb e => F₃.keep b' o ((gone_get hb).trans e), fun b' o hb e hnf => ?_⟩
  simp at hb
  subst hb
  rw [hL0] at e
  cases e
  exact ⟨sl, (hs₃.2 _ (Ne.symm hLL0)).trans (k₂ _ _ hl0)⟩

theorem norm2 {v b : List Nat} {tv tb : Tok} {Q : Value → Shared → Prop} {envO : Env} {L0 : Addr} {oL0 : Obj}
    (B : Base w (gone s.heap [L0]) mg mb) (hroom : A.depth < recursionLimit) (hh : A.handled = none) (hfr : A.frames = some [envO]) (hO : envO.frame = some L0) (hOk : envO.scope.kind = .function)
    (hL0 : s.heap.get? L0 = some oL0) (hL0d : ∀ vs, oL0.data ≠ .fields vs)
    (hv : v.length ≤ 1000) (hF : ∀ p ∈ partsOf v b, Fine p ∧ ∀ q, conv p = some q → q.length ≤ 1000)
    (hQ : ∀ h' tk t', KeptBut [L0] s.heap h' → Q (.str (St (normTold v b)) t') { s with heap := h', toks := tk }) :
    wpAny (model prog w) A (call (.ref 52) [.str (St v) tv, .str (St b) tb]) Q E s := by
  have hd := B.K 45 _ rfl
  have hd' := (gone_some hd).2
  refine norm_body (tv := tv) (tb := tb) B hroom hh hfr hO hOk hL0 hL0d (fun fd oc od osl e => ?_) hv hF hQ
  cases e
  exact BindsTo.of_defaults rfl hd' rfl rfl rfl
theorem norm1 {v : List Nat} {tv : Tok} {Q : Value → Shared → Prop} {envO : Env} {L0 : Addr} {oL0 : Obj}
    (B : Base w (gone s.heap [L0]) mg mb) (hroom : A.depth < recursionLimit) (hh : A.handled = none) (hfr : A.frames = some [envO]) (hO : envO.frame = some L0) (hOk : envO.scope.kind = .function)
    (hL0 : s.heap.get? L0 = some oL0) (hL0d : ∀ vs, oL0.data ≠ .fields vs)
    (hv : v.length ≤ 1000) (hF : ∀ p ∈ partsOf v [], Fine p ∧ ∀ q, conv p = some q → q.length ≤ 1000)
    (hQ : ∀ h' tk t', KeptBut [L0] s.heap h' → Q (.str (St (normTold v [])) t') { s with heap := h', toks := tk }) :
    wpAny (model prog w) A (call (.ref 52) [.str (St v) tv]) Q E s := by
  have hd := B.K 45 _ rfl
  have hd' := (gone_some hd).2
  refine norm_body (tv := tv) (tb := 373) (b := []) B hroom hh hfr hO hOk hL0 hL0d (fun fd oc od osl e => ?_) hv hF hQ
  cases e
  rw [show St [] = Str.ofString "" from by decide +kernel]
  exact BindsTo.of_defaults rfl hd' rfl rfl rfl
end
end Mine

end TNorm

section TRulesC
open PySem PySem.W PyProof.Rows
set_option Elab.async false
set_option maxRecDepth 100000
set_option maxHeartbeats 400000
namespace Mine
open PySem PySem.W PySem.Calls PyProof.Rows PyProof.Rows.TI

/-- the claim's caller is among them -/
def PC (st : List Code) : Prop := st.any Code.isCaller = true
theorem PC.cons (c : Code) {st : List Code} (h : PC st) : PC (c :: st) := by unfold PC at *; rw [List.any_cons, h, Bool.or_true]
theorem codeC_of {M : Model} {A : Around} {c : Code} {R : Result → Shared → Prop} {s : Shared} (h : codeP PC M A c R s) : codeC M A c R s := fun Γ p e1 e2 e3 => h Γ p e1 e2 e3
theorem wpC_mute {α : Type} {M : Model} {A : Around} {t : Sem α} {Q : α → Shared → Prop} {E : Value → Shared → Prop} {s : Shared} (h : wpC Mute M A t Q E s) : wpC PC M A t Q E s := fun Γ p hΓ hP => h Γ p hΓ (.inl hP)

section
variable {w : World} {A : Around} {E : Value → Shared → Prop} {R : Result → Shared → Prop} {s : Shared} {env : Env}

theorem C_execs_cons {st : Stmt} {rest : List Stmt} {Q : Flow → Shared → Prop}
    (h : wpC PC (model prog w) A (exec st env) (fun f s' => match f with | .next => wpC PC (model prog w) A (execs rest env) Q E s' | f => Q f s') E s) : wpC PC (model prog w) A (execs (st :: rest) env) Q E s := fun Γ p hΓ hP => by
  rw [execs_cons, Sem.wp_bind']
  refine Sem.wp_mono _ Γ _ (fun f p' s' h' => ?_) (fun _ _ _ h' => h') _ _ (h Γ p hΓ hP)
  cases f <;> first | exact h' Γ p' hΓ hP | exact h'
theorem C_seq {st : Stmt} {rest : List Stmt} {Q : Flow → Shared → Prop} (P : Shared → Prop) (h1 : wpC PC (model prog w) A (exec st env) (fun f s' => f = .next ∧ P s') E s) (h2 : ∀ s', P s' → wpC PC (model prog w) A (execs rest env) Q E s') :
    wpC PC (model prog w) A (execs (st :: rest) env) Q E s :=
  C_execs_cons (wpC_mono h1 (fun f s' h => by obtain ⟨rfl, p⟩ := h; exact h2 s' p) fun _ _ x => x)
theorem C_If {test : Expr} {body orelse : List Stmt} {pos : Pos} {Q : Flow → Shared → Prop}
    (h : wpC PC (model prog w) A (isTrue test env (eval test env)) (fun b s₂ => if b then wpC PC (model prog w) A (execs body env) Q E s₂ else wpC PC (model prog w) A (execs orelse env) Q E s₂) E s) :
    wpC PC (model prog w) A (exec (.If test body orelse pos) env) Q E s := fun Γ p hΓ hP => by
  simp only [exec_If, Sem.wp_bind', Sem.wp_cmd_standAt]
  refine Sem.wp_mono _ Γ _ (fun b p₂ s₂ h₂ => ?_) (fun _ _ _ h' => h') _ _ (h Γ _ hΓ hP)
  cases b <;> exact h₂ Γ p₂ hΓ hP
theorem C_Compare1 {l r : Expr} {op : CmpOp} {pos : Pos} {whole : Sem Value} {Q : Bool → Shared → Prop}
    (h : wpC PC (model prog w) A (eval l env) (fun a s₁ => wpAny (model prog w) A (eval r env) (fun b s₂ => wpAny (model prog w) A (compareOp op a b) (fun c s₃ => wpAny (model prog w) A (truthy c) Q E s₃) E s₂) E s₁) E s)
    (hm : behindInMarks op r = false := by with_unfolding_all rfl) : wpC PC (model prog w) A (isTrue (.Compare l [op] [r] pos) env whole) Q E s := fun Γ p hΓ hP => by
  simp only [isTrue_Compare1, markedBehindIn_of_false hm, Sem.wp_bind', Sem.wp_holding, Sem.wp_cmd_standAt, Sem.wp_operate]
  exact Sem.wp_mono _ Γ _ (fun a p₁ s₁ h₁ => Sem.wp_mono _ Γ _ (fun b _ s₂ h₂ => Sem.wp_mono _ Γ _ (fun c p₃ s₃ h₃ => h₃ Γ p₃ hΓ)
    (fun _ _ _ h' => h') _ _ (h₂ Γ _ hΓ)) (fun _ _ _ h' => h') _ _ (h₁ Γ p₁ hΓ)) (fun _ _ _ h' => h') _ _ (h Γ p hΓ hP)
theorem C_Assign_Name {x : Str} {pos' pos : Pos} {value : Expr} {Q : Flow → Shared → Prop}
    (h : wpC PC (model prog w) A (eval value env) (fun v s₁ => wpAny (model prog w) A (storeName env x v) (fun _ => Q .next) E s₁) E s)
    (hs : swapsWith value (some (.Name x pos')) pos.line env = pure false) :
    wpC PC (model prog w) A (exec (.Assign [.Name x pos'] value pos) env) Q E s := fun Γ p hΓ hP => by
  simp only [exec_Assign_Name env x pos' value pos hs, Sem.wp_bind', Sem.wp_cmd_standAt, Sem.wp_bindName, Sem.wp_pure']
  exact Sem.wp_mono _ Γ _ (fun v _ s₁ h₁ => h₁ Γ _ hΓ) (fun _ _ _ h' => h') _ _ (h Γ _ hΓ hP)
theorem C_Call {func : Expr} {args : List Expr} {pos : Pos} {Q : Value → Shared → Prop}
    (h : wpAny (model prog w) A (eval func env) (fun f s₁ => wpC PC (model prog w) A (callWith pos f [] (backTo pos (starEach args env)) []) Q E s₁) E s)
    (he : eval (.Call func args [] pos) env = (do callWith pos (← eval func env) [] (backTo pos (starEach args env)) (backToKw pos (keywordEach [] env))) := by rfl) :
    wpC PC (model prog w) A (eval (.Call func args [] pos) env) Q E s := by
  rw [he]; exact wpC_bind (wpC_of_any h)
theorem C_callType {pos : Pos} {T : String} {e : Expr} {rest : List Expr} {Q : Value → Shared → Prop}
    (h : wpAny (model prog w) A (spliced (backTo pos (starEach (e :: rest) env))) (fun vs s₁ => wpC PC (model prog w) A (call (.type T) vs) Q E s₁) E s)
    (he : starEach (e :: rest) env = (false, eval e env) :: starEach rest env) (hplain : (backTo pos (starEach rest env)).any (·.1) = false) :
    wpC PC (model prog w) A (callWith pos (.type T) [] (backTo pos (starEach (e :: rest) env)) []) Q E s := by
  rw [he] at h ⊢
  have hp : (backTo pos ((false, eval e env) :: starEach rest env)).any (·.1) = false := by show (false || (backTo pos (starEach rest env)).any (·.1)) = false; rw [hplain]; rfl
  have h' : wpAny (model prog w) A (evalArgs (.type T) true (backTo pos ((false, eval e env) :: starEach rest env)) []) (fun a s₁ => wpC PC (model prog w) A (call (.type T) a.pos a.kw) Q E s₁) E s := evalArgs_plain h
  unfold callWith
  refine wpC_bind (wpC_of_any (wpAny_holding (wpAny_mono h' (fun a s₁ h₁ => wpC_bind (wpC_of_any (wpAny_standAt ?_))) fun _ _ x => x)))
  simp only [hp, List.any_nil, Bool.or_false]
  refine wpC_bind (wpC_pure ?_)
  exact wpC_bind (wpC_mono h₁ (fun r s₂ hr => wpC_bind (wpC_of_any (wpAny_holding (wpAny_point (wpC_pure hr))))) fun _ _ x => x)
theorem wpC_keep {α : Type} {vs : List Value} {m : Sem α} {Q : α → Shared → Prop} (h : wpC PC (model prog w) A m Q E s) : wpC PC (model prog w) A (m.keep vs) Q E s :=
  fun Γ p hΓ hP => by rw [Sem.wp_keep]; exact h Γ p hΓ hP
theorem C_callDef {mg mb : Str → Option Value} {pos : Pos} {f : Addr} {e : Expr} {rest : List Expr} {Q : Value → Shared → Prop} {oc : Value} {od : Option Addr} {fd : FuncData} {osl : Array (Option Value)}
    (ho : (KK w).lookup f = some ⟨oc, od, .func fd, osl⟩)
    (h : wpAny (model prog w) A (spliced (backTo pos (starEach (e :: rest) env))) (fun vs s₁ => Base w s₁.heap mg mb ∧ wpC PC (model prog w) A (call (.ref f) vs) Q E s₁) E s)
    (he : starEach (e :: rest) env = (false, eval e env) :: starEach rest env) (hplain : (backTo pos (starEach rest env)).any (·.1) = false) :
    wpC PC (model prog w) A (callWith pos (.ref f) [] (backTo pos (starEach (e :: rest) env)) []) Q E s := by
  rw [he] at h ⊢
  have hp : (backTo pos ((false, eval e env) :: starEach rest env)).any (·.1) = false := by show (false || (backTo pos (starEach rest env)).any (·.1)) = false; rw [hplain]; rfl
  have h' : wpAny (model prog w) A (evalArgs (.ref f) true (backTo pos ((false, eval e env) :: starEach rest env)) []) (fun a s₁ => Base w s₁.heap mg mb ∧ wpC PC (model prog w) A (call (.ref f) a.pos a.kw) Q E s₁) E s := evalArgs_plain h
  unfold callWith
  refine wpC_bind (wpC_of_any (wpAny_holding (wpAny_mono h' (fun a s₁ h₁ => wpC_bind (wpC_of_any (wpAny_standAt ?_))) fun _ _ x => x)))
  simp only [hp, List.any_nil, Bool.or_false]
  have tail : ∀ {t : Sem Value}, wpC PC (model prog w) A t Q E s₁ → wpC PC (model prog w) A (t >>= fun r => holding [r] point >>= fun _ => pure r) Q E s₁ :=
    fun ht => wpC_bind (wpC_mono ht (fun r s₂ hr => wpC_bind (wpC_of_any (wpAny_holding (wpAny_point (wpC_pure hr))))) fun _ _ x => x)
  refine wpC_bind (m := keeperOf (.ref f)) (wpC_of_any ?_)
  unfold keeperOf
  refine wpAny_bind (wpAny_load (h₁.1.K _ _ ho) (wpAny_pure ?_))
  dsimp only
  split <;> first
    | exact tail h₁.2
    | exact tail (by unfold callMarked; exact wpC_keep h₁.2)
theorem C_Try {body orelse : List Stmt} {h₀ : ExceptHandler} {hs : List ExceptHandler} {pos : Pos} {Q : Flow → Shared → Prop}
    (h : wpC PC (model prog w) A (execs body env) (fun f s₁ => match f with | .next => wpAny (model prog w) A (execs orelse env) Q E s₁ | f => Q f s₁)
      (fun e s₁ => wpAny (model prog w) A (noteFrame e env) (fun _ s₂ => wpAny (model prog w) A (setFlight e none) (fun _ s₃ => wpAny (model prog w) A (handleBy e env (h₀ :: hs)) Q E s₃) E s₂) E s₁) s) :
    wpC PC (model prog w) A (exec (.Try body (h₀ :: hs) orelse [] pos) env) Q E s := by
  rw [arm_exec_Try]
  refine wpC_bind (wpC_of_any (wpAny_standAt ?_))
  unfold tryStmt
  simp only [List.isEmpty_nil, if_true, List.isEmpty_cons, Bool.false_and, Bool.false_eq_true, if_false]
  refine wpC_bind (wpC_attempt (wpC_mono h (fun f s₁ h₁ => ?_) fun e s₁ h₁ => ?_))
  · cases f <;> first | exact wpC_of_any h₁ | exact wpC_pure h₁
  · exact wpC_of_any (wpAny_bind (wpAny_mono h₁ (fun _ _ h₂ => wpAny_bind h₂) fun _ _ x => x))
theorem C_For {target iter : Expr} {body orelse : List Stmt} {pos : Pos} {Q : Flow → Shared → Prop}
    (h : wpAny (model prog w) A (eval iter env) (fun x s₁ => wpAny (model prog w) A (pyIter x) (fun it s₂ =>
      codeP PC (model prog w) A (.forLoop target it body orelse env) (fun r s' => match r with | .ok f => Q f s' | .error _ => False) s₂) E s₁) E s)
    (hs : ∀ x, foldedSetIterable iter env x = pure x := by intro _; rfl) :
    wpC PC (model prog w) A (exec (.For target iter body orelse pos) env) Q E s := by
  rw [exec_For]
  refine wpC_bind (wpC_of_any (wpAny_standAt (wpC_bind (wpC_of_any (wpAny_mono h (fun x s₁ h₁ => wpC_bind (wpC_of_any (wpAny_of_eq (hs x) (wpC_bind (wpC_of_any (wpAny_standAt (wpC_bind (wpC_of_any (wpAny_holding
    (wpAny_mono h₁ (fun it s₂ h₂ => ?_) fun _ _ h' => h')))))))))) fun _ _ h' => h')))))
  unfold runOwn
  refine wpC_onRaise (wpC_run (codeP_mono h₂ fun r s' hr => ?_))
  cases r with
  | ok f => exact hr
  | error e => exact hr.elim
theorem C_loop {c : Code} (hq : c.quiet = true) (I : Nat → Shared → Prop)
    (turn : ∀ n s, I n s → wpC PC (model prog w) (A.under c) ((model prog w).den c)
      (fun fin s' => match fin with
        | .done f => R (.ok f) s'
        | .again c' => (c' = c ∧ ∃ m, m < n ∧ I m s') ∨ (c'.quiet = true ∧ codeP PC (model prog w) A c' R s')) (fun e s' => R (.error e) s') s)
    (n : Nat) (h : I n s) : codeP PC (model prog w) A c R s := by
  induction n using Nat.strongRecOn generalizing s with
  | ind n ih =>
    refine codeP_of_tree (fun st h => h.cons c) (wpC_mono (turn n s h) (fun fin s' hf => ?_) fun _ _ h' => h')
    cases fin with
    | done f => exact hf
    | again c' =>
      rcases hf with ⟨rfl, m, hm, hI⟩ | hf
      · exact ⟨hq, ih m hm hI⟩
      · exact hf
theorem C_forLoop {target : Expr} {it : Value} {body orelse : List Stmt} (I : Nat → Shared → Prop)
    (turn : ∀ n s, I n s → wpAny (model prog w) A (pyNext it) (fun r s₁ => match r with
      | none => wpAny (model prog w) A (execs orelse env) (fun f s₃ => R (.ok f) s₃) (fun _ _ => False) s₁
      | some v => wpAny (model prog w) A (letOwnedTupleGo target it v) (fun _ s₁' => wpAny (model prog w) A (assign target env v) (fun _ s₂ => wpC PC (model prog w) A (execs body env) (fun f s₃ => match f with
          | .next | .cont => ∃ m, m < n ∧ I m s₃
          | .brk => R (.ok .next) s₃
          | .ret v => R (.ok (.ret v)) s₃) (fun _ _ => False) s₂) (fun _ _ => False) s₁') (fun _ _ => False) s₁) (fun _ _ => False) s)
    (n : Nat) (h : I n s) : codeP PC (model prog w) A (.forLoop target it body orelse env) R s := by
  refine C_loop rfl I (fun n s hI => ?_) n h
  show wpC _ _ _ ((forTurn target it body orelse env).onRaise (fun x => do noteFrame x env; theTreesLotGoes x)) _ _ s
  refine wpC_onRaise (E := fun e s' => R (.error e) s') ?_
  refine wpC_mono (E := fun _ _ => False) ?_ (fun _ _ x => x) fun _ _ x => x.elim
  simp only [forTurn]
  refine wpC_bind (wpC_of_any (wpAny_standAt (wpC_bind (wpC_of_any (wpAny_onRaise (wpAny_mono (turn n s hI) (fun r s₁ h₁ => ?_) fun _ _ h' => h'.elim))))))
  cases r with
  | none => exact wpC_pure (.inr ⟨rfl, codeP_of_any (codeAny_block (wpAny_mono h₁ (fun _ _ x => x) fun _ _ x => x.elim))⟩)
  | some v =>
    refine wpC_bind (wpC_of_any (wpAny_mono h₁ (fun _ s₁' h₁' => ?_) fun _ _ h' => h'))
    refine wpC_bind (wpC_of_any (wpAny_mono h₁' (fun _ s₂ h₂ => wpC_bind (wpC_mono h₂ (fun f s₃ h₃ => ?_) fun _ _ h' => h')) fun _ _ h' => h'))
    cases f with
    | next => exact wpC_pure (.inl ⟨rfl, h₃⟩)
    | cont => exact wpC_pure (.inl ⟨rfl, h₃⟩)
    | brk => exact wpC_pure h₃
    | ret v => exact wpC_pure h₃
theorem C_func {body : List Stmt} (h : wpC PC (model prog w) (A.deeper env) (execs body env) (fun f s' => R (.ok (.ret (match f with | .ret v => v | _ => .none))) s') (fun _ _ => False) s) :
    codeP PC (model prog w) A (.func body env) R s := by
  refine codeP_of_tree (fun st h => h.cons _) ?_
  show wpC _ _ (A.deeper env) (do point; match ← (execs body env).onRaise (leaving env) with | .ret v => ret v | _ => ret .none) _ _ s
  refine wpC_bind (wpC_of_any (wpAny_point (wpC_bind (wpC_onRaise (wpC_mono h (fun f s' h' => ?_) fun _ _ h' => h'.elim)))))
  cases f <;> exact wpC_pure h'
theorem C_enter {mg mb : Str → Option Value} {a : Addr} {fd : FuncData} {body : List Stmt} {args : List Value} {binds : List (Str × Value)} {oc : Value} {od : Option Addr} {osl : Array (Option Value)}
    (B : Base w s.heap mg mb) (hroom : A.depth < recursionLimit) (ho : (KK w).lookup a = some ⟨oc, od, .func fd, osl⟩) (hcd : codeIn (KK w) fd.code fd.qualname = true)
    (hbody : fd.body = .stmts body) (hbind : BindsTo s fd ⟨args, []⟩ binds) (hc : fd.closure = []) (hg : fd.globals = mainGlobals) (hb : fd.builtins = builtinsNs)
    (hcell : ∀ x ∈ fd.scope.names, x.2 ≠ .cell) (hloc : ∀ x ∈ binds, fd.scope.names.lookup x.1 = some .local)
    (hco : fd.scope.isCoroutine = false) (hgen : fd.scope.isGenerator = false) (hk : fd.scope.kind = .function)
    (h : ∀ env L h₁, EnvOK env L fd.scope.names → Fr s.heap L h₁ (fun x => binds.reverse.lookup x) →
      wpC PC (model prog w) (A.deeper env) (execs body env) (fun f s' => R (.ok (.ret (match f with | .ret v => v | _ => .none))) s') (fun _ _ => False) { s with heap := h₁, toks := s.toks + binds.length }) :
    codeP PC (model prog w) A (.call (.ref a) ⟨args, []⟩) R s := by
  refine codeP_of_tree (fun st h => h.cons _) ?_
  show wpC _ _ A.in1 (callAny (.ref a) ⟨args, []⟩) _ _ s
  simp only [callAny]
  refine wpC_bind (wpC_of_any (wpAny_load (B.K a _ ho) ?_))
  obtain ⟨c, oc', vs, tq, hc', hoc, hdc, hq⟩ := codeRec_of B.K hcd
  simp only [callFunction, hco, hgen, hbody, hc']
  refine wpC_bind (m := field (.ref c) 1) (wpC_of_any (wpAny_field hoc hdc hq (wpC_bind (wpC_pure ?_))))
  refine wpC_bind (wpC_of_any (hbind _ _ _ _ ?_))
  rw [← hc']
  refine wpC_bind (wpC_of_any (wpAny_newFunctionEnv hcell hloc (fun h₀ hns₀ hsb₀ => ?_) hk))
  refine wpC_bind (wpC_of_any (wpAny_enterFrame (B.nolimit.fresh _ hsb₀) hroom (wpC_pure ⟨rfl, C_func ?_⟩)))
  refine h _ _ h₀ (EnvOK.of_callEnv (fd := fd) (a := a) hc hg hb hk) ⟨hns₀, fun b o e => ?_, Nat.le_refl _⟩
  exact hsb₀.extBut b o (Nat.ne_of_lt (Heap.lt_size e)) (Heap.get?_push_of_some _ e)

/-- where a list's iterator stands -/
def ItAt (I la : Addr) (vs : List Value) (i : Nat) (h : Heap) : Prop := h.IsListIter I la i ∧ h.IsList la vs.toArray
theorem ItAt.keep {I la : Addr} {vs : List Value} {i : Nat} {h h' : Heap} (x : ItAt I la vs i h) (k : ∀ b ∈ [I, la], ∀ o, h.get? b = some o → h'.get? b = some o) : ItAt I la vs i h' :=
  ⟨let ⟨o, e, r⟩ := x.1; ⟨o, k _ (by simp) o e, r⟩, let ⟨o, e, r⟩ := x.2; ⟨o, k _ (by simp) o e, r⟩⟩
theorem C_forList {target : Expr} {body : List Stmt} {I la : Addr} {vs : List Value} (hh : A.handled = none) (hne : la ≠ I) (J : Nat → Shared → Prop)
    (hit : ItAt I la vs 0 s.heap) (h0 : J 0 s) (hJ : ∀ i s h', J i s → Heap.ExtBut I s.heap h' → J i { s with heap := h' })
    (turn : ∀ i x s, vs[i]? = some x → ItAt I la vs (i + 1) s.heap → J i s →
      wpAny (model prog w) A (letOwnedTupleGo target (.ref I) x) (fun _ s₁ => wpAny (model prog w) A (assign target env x) (fun _ s₂ => wpC PC (model prog w) A (execs body env) (fun f s₃ => match f with
        | .next | .cont => ItAt I la vs (i + 1) s₃.heap ∧ J (i + 1) s₃
        | .brk => R (.ok .next) s₃
        | .ret v => R (.ok (.ret v)) s₃) (fun _ _ => False) s₂) (fun _ _ => False) s₁) (fun _ _ => False) s)
    (done : ∀ s', J vs.length s' → R (.ok .next) s') :
    codeP PC (model prog w) A (.forLoop target (.ref I) body [] env) R s := by
  refine C_forLoop (fun k s' => ∃ i, ItAt I la vs i s'.heap ∧ J i s' ∧ i ≤ vs.length ∧ k = vs.length + 1 - i) ?_ (vs.length + 1) ⟨0, hit, h0, Nat.zero_le _, rfl⟩
  rintro k s' ⟨i, hi, hJi, hle, rfl⟩
  by_cases hlt : i < vs.length
  · refine wpAny_pyNext_list_item hi.1 hi.2 (x := vs[i]) (by simp [hlt]) fun h' hit' hs' => ?_
    have hit₂ : ItAt I la vs (i + 1) h' := ⟨hit', let ⟨o, e, r⟩ := hi.2; ⟨o, (hs'.2 la hne).trans e, r⟩⟩
    refine wpAny_mono (turn i vs[i] _ (List.getElem?_eq_getElem hlt) hit₂ (hJ i s' h' hJi hs'.extBut)) (fun _ s₁ h₁ => wpAny_mono h₁ (fun _ s₂ h₂ => wpC_mono h₂ (fun f s₃ h₃ => ?_) fun _ _ x => x) fun _ _ x => x) fun _ _ x => x
    cases f with
    | next => exact ⟨vs.length + 1 - (i + 1), by omega, i + 1, h₃.1, h₃.2, hlt, rfl⟩
    | cont => exact ⟨vs.length + 1 - (i + 1), by omega, i + 1, h₃.1, h₃.2, hlt, rfl⟩
    | brk => exact h₃
    | ret v => exact h₃
  · have hin : i = vs.length := by omega
    subst hin
    exact wpAny_pyNext_list_end hh hi.1 hi.2 (by simp) fun h' k => wpAny_execs_nil (done _ (hJ _ s' h' hJi k))
end
end Mine

end TRulesC

section TCompD
open PySem PySem.W PyProof.Rows
set_option Elab.async false
set_option maxRecDepth 100000
set_option maxHeartbeats 400000
namespace Mine
open PySem PySem.W PySem.Calls PyProof.Rows PyProof.Rows.TI

def stageKvs : List (Str × Value) := [(Str.ofString "dev", .int 10 332), (Str.ofString "alpha", .int 20 334), (Str.ofString "a", .int 20 336), (Str.ofString "beta", .int 30 338), (Str.ofString "b", .int 30 340),
  (Str.ofString "c", .int 40 342), (Str.ofString "RC", .int 50 344), (Str.ofString "rc", .int 50 346), (Str.ofString "pl", .int 200 348), (Str.ofString "p", .int 200 350)]
theorem stages_tab {w : World} {h : Heap} {mg mb : Str → Option Value} (B : Base w h mg mb) : StrTab prog w h 37 rankTab := by
  have h37 := B.K 37 _ rfl
  refine TabAt.ofObj (by decide) h37 (kvs := stageKvs) ?_ ?_
  · refine ⟨_, _, ⟨rfl, rfl, rfl⟩, rfl, ?_, ?_, ?_⟩
    · intro e he
      have key := fun hk => KeysLit.all (P := w.params) hk e (Array.mem_toList_iff.mpr he)
      obtain ⟨x, t, e1, e2⟩ := key (by repeat (first | exact trivial | refine ⟨⟨_, _, rfl, rfl⟩, ?_⟩))
      exact ⟨x, by rw [e1]; exact strKind_is prog w x t, e2⟩
    · repeat (first | exact .nil | refine .cons (strKind_is prog w _ _) rfl ?_)
    · decide +kernel
  · repeat (first | exact .nil | refine .cons (.int _ _) ?_)
end Mine

end TCompD

section TComp
open PySem PySem.W PyProof.Rows
set_option Elab.async false
set_option maxRecDepth 100000
set_option maxHeartbeats 400000
namespace Mine
open PySem PySem.W PySem.Calls PyProof.Rows PyProof.Rows.TI

/-- what is told of one token -/
def tokTold (v : List Nat) : List Dt := if Txt.contains (Str.ofString "._+-") (St v) = true then [] else match PySem.intText? (St v) with
  | some n => [.n 100, .n n]
  | none => [.n (rankOf v), .s v]
def compTold (l : List Nat) : List Dt := (splitRe l (l.length + 1) 0).flatMap tokTold

theorem tokTold_len (v : List Nat) : (tokTold v).length ≤ 2 := by
  unfold tokTold
  split
  · simp
  · split <;> simp
theorem flat_len (ps : List (List Nat)) : (ps.flatMap tokTold).length ≤ 2 * ps.length := by
  induction ps with
  | nil => simp
  | cons p r ih =>
    have := tokTold_len p
    rw [List.flatMap_cons, List.length_append, List.length_cons]
    omega

theorem frCaught {G h h' : Heap} {L L0 : Addr} {m : Str → Option Value} {oL0 : Obj} {sl : Array (Option Value)} (F : Fr G L h m) (hG : G.get? L0 = none) (l0 : h.get? L0 = some { oL0 with slots := sl }) (hd0 : ∀ vs, oL0.data ≠ .fields vs) (K : KeptBut [L, L0] h h') :
    Fr G L h' m ∧ ∃ sl', h'.get? L0 = some { oL0 with slots := sl' } := by
  obtain ⟨oL, es, ep, hoL, hdL, r⟩ := F.ns
  obtain ⟨slL, hL9⟩ := K.frame L oL (by simp) hoL (fun vs q => by rw [hdL] at q; cases q)
  obtain ⟨sl0, hL09⟩ := K.frame L0 _ (by simp) l0 hd0
  refine ⟨⟨⟨_, es, ep, hL9, hdL, r⟩, fun b o e => K.other b o ?_ (F.keep b o e), F.above⟩, sl0, hL09⟩
  intro hm
  simp at hm
  rcases hm with q | q
  · rw [q, kts_self F] at e; cases e
  · rw [q, hG] at e; cases e
theorem baseGone {w : World} {G h : Heap} {L L0 : Addr} {m mg mb : Str → Option Value} (B : Base w G mg mb) (F : Fr G L h m) (hG : G.get? L0 = none) : Base w (gone h [L, L0]) mg mb := B.keeps fun b o e => by
  rw [gone_get]
  · exact F.keep b o e
  · intro hm
    simp at hm
    rcases hm with q | q
    · rw [q, kts_self F] at e; cases e
    · rw [q, hG] at e; cases e
theorem noFields_ns {h : Heap} {L : Addr} {m : Str → Option Value} (n : h.Ns L m) : ∃ o, h.get? L = some o ∧ ∀ vs, o.data ≠ .fields vs :=
  let ⟨o, _, _, ho, hd, _⟩ := n; ⟨o, ho, fun vs q => by rw [hd] at q; cases q⟩

section
variable {w : World} {A : Around} {E : Value → Shared → Prop} {s : Shared} {mg mb : Str → Option Value}

theorem split_call {l : List Nat} {t : Tok} {Q : Value → Shared → Prop} (B : Base w s.heap mg mb) (hl : l.length ≤ 10000)
    (hQ : ∀ h' tk a vs, Keep s.heap h' → s.heap.get? a = none → LstAt h' a vs → TextsAre vs (splitRe l (l.length + 1) 0) → Q (.ref a) { s with heap := h', toks := tk }) :
    wpAny (model prog w) A (call (.builtin "re.Pattern.split") [.ref 36, .str (St l) t]) Q E s :=
  wpAny_call_entry PatF.slot ⟨_, B.K 36 _ rfl, rfl⟩ PatF.entry (split_body B hl fun h' tk a vs h1 h2 h3 h4 => ⟨_, rfl, hQ h' tk a vs h1 h2 h3 h4⟩) (PatF.args _ _)

theorem comp_code {l : List Nat} {t : Tok} {R : Result → Shared → Prop} {envO : Env} {L0 : Addr} {oL0 : Obj}
    (B : Base w (gone s.heap [L0]) mg mb) (hroom : A.depth < recursionLimit) (hh : A.handled = none) (hfr : A.frames = some [envO]) (hO : envO.frame = some L0) (hOk : envO.scope.kind = .function)
    (hL0 : s.heap.get? L0 = some oL0) (hL0d : ∀ vs, oL0.data ≠ .fields vs)
    (hl : l.length ≤ 10000) (hF : ∀ p ∈ splitRe l (l.length + 1) 0, p.length ≤ 640 ∧ (reprText (St p)).length ≤ 100000)
    (hQ : ∀ h' tk a vs, KeptBut [L0] s.heap h' → s.heap.get? a = none → LstAt h' a vs → DtsAre vs (compTold l) → R (.ok (.ret (.ref a))) { s with heap := h', toks := tk }) :
    codeP PC (model prog w) A (.call (.ref 44) ⟨[.str (St l) t], []⟩) R s := by
  have BX : Base w s.heap mg mb := B.keeps fun b o e => (gone_some e).2
  refine C_enter (binds := [(Str.ofString "version", .str (St l) t)]) BX hroom rfl rfl rfl (BindsTo.of_eq rfl) rfl rfl rfl (by decide) (locs rfl) rfl rfl rfl ?_
  intro env L h₁ V F
  dsimp only at V ⊢
  have hLL0 : L ≠ L0 := Nat.ne_of_gt (Nat.lt_of_lt_of_le (Heap.lt_size hL0) F.above)
  -- component_re = _twin_re_1
  refine C_execs_cons (wpC_of_any ?_)
  with_reducible refine wpAny_Assign_Name ?_ ?_
  rotate_left
  with_unfolding_all rfl
  refine ldg V (BX.keeps F.keep) rfl (by kernel_rfl) (v := .ref 36) (stv V F rfl fun h₂ F₂ hs₂ => ?_)
  dsimp only
  -- result = []
  refine C_execs_cons (wpC_of_any ?_)
  with_reducible refine wpAny_Assign_Name ?_ ?_
  rotate_left
  with_unfolding_all rfl
  refine wpAny_List (args_nil ⟨by decide, ?_⟩)
  have kp := pushKeep h₂ { cls := .type "list", data := .seq ([] : List Value).toArray }
  have hra : LstAt (h₂.push { cls := .type "list", data := .seq ([] : List Value).toArray }) h₂.objs.size [] := LstAt.new
  have hg0 : s.heap.get? h₂.objs.size = none := Keep.none F₂.keep (size_none _)
  refine stv V (frKeep F₂ kp) rfl fun h₃ F₃ hs₃ => ?_
  have hraL : h₂.objs.size ≠ L := hra.ne_ns (frKeep F₂ kp).ns
  have hra₃ := hra.same hs₃ hraL
  generalize h₂.objs.size = ra at *
  dsimp only
  -- the loop
  have hGL0 : (gone s.heap [L0]).get? L0 = none := gone_none (by simp)
  have hgG : (gone s.heap [L0]).get? ra = none := by
    cases q : (gone s.heap [L0]).get? ra with
    | none => rfl
    | some o => have := (gone_some q).2; rw [hg0] at this; cases this
  refine C_seq (fun s' => ∃ h tk m us sl, s' = { s with heap := h, toks := tk } ∧ Fr (gone s.heap [L0]) L h m ∧ h.get? L0 = some { oL0 with slots := sl } ∧ m (Str.ofString "result") = some (.ref ra) ∧ LstAt h ra us ∧ DtsAre us (compTold l)) (C_For ?_) ?_
  · refine MethodCall_ (ldv V F₃ rfl rfl (getMethod_builtin ⟨_, (BX.keeps F₃.keep).K 36 _ rfl, rfl⟩ PatF.plain PatF.slot PatF.ty (fun a e => ?_) (callWith_method1 (args_cons (ldv V F₃ rfl rfl (args_nil ?_))))))
    · cases e; exact ⟨_, (BX.keeps F₃.keep).K 36 _ rfl, rfl⟩
    refine split_call (BX.keeps F₃.keep) hl fun h₄ tk₄ a vs k₄ ha hL₄ hT => ?_
    have F₄ := frKeep F₃ k₄
    refine wpAny_pyIter_list hL₄.isList ?_
    dsimp only
    have hLI : L ≠ h₄.objs.size := Nat.ne_of_lt F₄.ns.lt
    have hL0I : L0 ≠ h₄.objs.size := Nat.ne_of_lt (Heap.lt_size (F₄.keep _ _ hL0))
    have haI : a ≠ h₄.objs.size := Nat.ne_of_lt hL₄.lt
    have hra₄ := hra₃.keep k₄
    have hraI : ra ≠ h₄.objs.size := Nat.ne_of_lt hra₄.lt
    have haL : a ≠ L := hL₄.ne_ns F₄.ns
    have hara : a ≠ ra := fun q => by obtain ⟨n, e⟩ := hra₃; rw [q, e] at ha; cases ha
    have haL0 : a ≠ L0 := fun q => by rw [q, F₃.keep _ _ hL0] at ha; cases ha
    have hgI : (gone s.heap [L0]).get? h₄.objs.size = none := by
      cases q : (gone s.heap [L0]).get? h₄.objs.size with
      | none => rfl
      | some o => have := F₄.keep _ _ (gone_some q).2; rw [size_none] at this; cases this
    have hit0 : ItAt h₄.objs.size a vs 0 (h₄.push { cls := .type "list_iterator", data := .fields #[.ref a, .int 0 0] }) := ⟨⟨_, Heap.get?_push_size _ rfl, rfl, rfl⟩, (hL₄.keep (pushKeep _ _)).isList⟩
    have kI := pushKeep h₄ { cls := .type "list_iterator", data := .fields #[.ref a, .int 0 0] }
    have F₅ := frKeep F₄ kI
    have hra₅ := hra₄.keep kI
    have hL05 : (h₄.push { cls := .type "list_iterator", data := .fields #[.ref a, .int 0 0] }).get? L0 = some { oL0 with slots := oL0.slots } := F₅.keep _ _ hL0
    have FG : Fr (gone s.heap [L0]) L (h₄.push { cls := .type "list_iterator", data := .fields #[.ref a, .int 0 0] }) _ := ⟨F₅.ns, fun b o e => F₅.keep b o (gone_some e).2, by rw [gone_size]; exact F₅.above⟩
    generalize h₄.push { cls := .type "list_iterator", data := .fields #[.ref a, .int 0 0] } = h₅ at *
    generalize h₄.objs.size = I at *
    refine C_forList (A := A.deeper env) hh haI (fun i s' => ∃ h tk m us sl, s' = { s with heap := h, toks := tk } ∧ Fr (gone s.heap [L0]) L h m ∧ h.get? L0 = some { oL0 with slots := sl } ∧ m (Str.ofString "result") = some (.ref ra) ∧ LstAt h ra us ∧
        DtsAre us (((splitRe l (l.length + 1) 0).take i).flatMap tokTold)) hit0 ⟨_, _, _, _, _, rfl, FG, hL05, rfl, hra₅, .nil⟩ ?_ ?_ ?_
    · rintro i s' h' ⟨h, tk, m, us, sl, rfl, Fm, l0, hm, hR, hD⟩ k
      refine ⟨h', tk, m, us, sl, rfl, ⟨?_, fun b o e => k b o (fun q => by rw [q, hgI] at e; cases e) (Fm.keep b o e), Fm.above⟩, k _ _ hL0I l0, hm, hR.at fun o e => k _ _ hraI e, hD⟩
      obtain ⟨o, es, ep, ho, r⟩ := Fm.ns
      exact ⟨o, es, ep, k _ _ hLI ho, r⟩
    · rintro i x s' hx hit ⟨h, tk, m, us, sl, rfl, Fm, l0, hm, hR, hD⟩
      obtain ⟨p, tp, hp, rfl⟩ := hT.get hx
      have hpm : p ∈ splitRe l (l.length + 1) 0 := List.mem_of_getElem? hp
      have htake : ((splitRe l (l.length + 1) 0).take (i + 1)).flatMap tokTold = ((splitRe l (l.length + 1) 0).take i).flatMap tokTold ++ tokTold p := by
        rw [List.take_add_one, hp]; simp
      have hul : us.length ≤ 2 * i := by
        rw [hD.length]
        have h1 := flat_len ((splitRe l (l.length + 1) 0).take i)
        have h2 : ((splitRe l (l.length + 1) 0).take i).length ≤ i := by rw [List.length_take]; omega
        omega
      have hi2 : i < 20003 := by
        have h1 := (List.getElem?_eq_some_iff.mp hx).1
        rw [hT.length] at h1
        have h2 := splitRe_length l (l.length + 1) 0
        omega
      refine wpAny_of_eq (a := ()) rfl ?_
      refine wpAny_assign_Name (stv V Fm rfl fun h₆ F₆ hs₆ => ?_)
      have l06 := (hs₆.2 L0 (Ne.symm hLL0)).trans l0
      have hR₆ := hR.same hs₆ hraL
      have hit₆ : ItAt I a vs (i + 1) h₆ := hit.keep fun b hb o e => (hs₆.2 b (by simp at hb; rcases hb with rfl | rfl; exact Ne.symm hLI; exact haL)).trans e
      dsimp only
      refine C_execs_cons (C_If (wpC_of_any (wpAny_isTrue_Compare1 (ldv V F₆ rfl rfl (wpAny_Constant_str (SB.notContains (wpAny_truthy_bool ?_)))))))
      by_cases hin : Txt.contains (Str.ofString "._+-") (St p) = true
      · refine PySem.W.ite_neg (by rw [hin]; decide) ?_
        refine wpC_of_any (wpAny_execs_nil (wpC_of_any (wpAny_execs_nil ⟨hit₆, _, _, _, _, _, rfl, F₆, l06, hm, hR₆, ?_⟩)))
        rw [htake]
        unfold tokTold
        rw [if_pos hin, List.append_nil]
        exact hD
      · refine PySem.W.ite_pos (by simpa using hin) ?_
        refine C_seq (fun s' => ∃ h tk m sl tv vv, s' = { s with heap := h, toks := tk } ∧ Fr (gone s.heap [L0]) L h m ∧ h.get? L0 = some { oL0 with slots := sl } ∧ m (Str.ofString "result") = some (.ref ra) ∧ LstAt h ra us ∧
          ItAt I a vs (i + 1) h ∧ m (Str.ofString "t") = some tv ∧ m (Str.ofString "v") = some vv ∧ DtsAre [tv, vv] (tokTold p)) (C_Try ?_) ?_
        · have B₆ : Base w h₆ mg mb := B.keeps F₆.keep
          refine C_execs_cons ?_
          with_reducible refine C_Assign_Name ?_ ?_
          rotate_left
          with_unfolding_all rfl
          refine C_Call (ldb V B₆ rfl (by kernel_rfl) (v := .type "int") (by decide +kernel) (by decide) (C_callType (args_cons (ldv V F₆ rfl rfl (args_cons (wpAny_Constant_int (args_nil ?_))))) rfl rfl))
          cases hn : PySem.intText? (St p) with
          | some n =>
            refine wpC_of_any (good2 (by rw [St_length]; exact (hF p hpm).1) hn (stv V F₆ rfl fun h₇ F₇ hs₇ => ?_))
            dsimp only
            refine C_execs_cons (wpC_of_any ?_)
            with_reducible refine wpAny_Assign_Name ?_ ?_
            rotate_left
            with_unfolding_all rfl
            refine wpAny_Constant_int (stv V F₇ rfl fun h₈ F₈ hs₈ => ?_)
            dsimp only
            have up : ∀ b o, b ≠ L → h₆.get? b = some o → h₈.get? b = some o := fun b o hb e => (hs₈.2 b hb).trans ((hs₇.2 b hb).trans e)
            refine wpC_of_any (wpAny_execs_nil (wpAny_execs_nil ⟨rfl, h₈, _, _, sl, _, _, rfl, F₈, up _ _ (Ne.symm hLL0) l06, hm, hR₆.at fun o e => up _ o hraL e, hit₆.keep fun b hb o e => up b o (by simp at hb; rcases hb with rfl | rfl; exact Ne.symm hLI; exact haL) e, rfl, rfl, ?_⟩))
            unfold tokTold
            rw [if_neg hin, hn]
            exact .cons (.n _ _) (.cons (.n _ _) .nil)
          | none =>
            refine wpC_mute (bad2 hh (by rw [St_length]; exact (hF p hpm).1) hn (hF p hpm).2 fun h₇ tk₇ e hx => ?_)
            obtain ⟨oL, hoL, hdL⟩ := noFields_ns F₆.ns
            refine caught (h := h₆) (oL := oL) (oL0 := { oL0 with slots := sl }) V hO hOk (Around.frames_deeper hfr) hx hoL hdL l06 hL0d (baseGone B F₆ hGL0) rfl fun h₉ K₉ => ?_
            obtain ⟨F₉, sl₉, l09⟩ := frCaught F₆ hGL0 l06 hL0d K₉
            have B₉ : Base w h₉ mg mb := B.keeps F₉.keep
            have hraL0 : ra ≠ L0 := fun q => by rw [q, hL0] at hg0; cases hg0
            have k₉ : ∀ b o, b ≠ L → b ≠ L0 → h₆.get? b = some o → h₉.get? b = some o := fun b o h1 h2 e => K₉.other b o (by simp; exact ⟨h1, h2⟩) e
            refine wpAny_execs_cons ?_
            with_reducible refine wpAny_Assign_Name ?_ ?_
            rotate_left
            with_unfolding_all rfl
            refine MethodCall_ (ldg V B₉ rfl (by kernel_rfl) (v := .ref 37) (getMethod_strTab_get (stages_tab B₉) (callWith_method1 (args_cons (ldv V F₉ rfl rfl (args_cons (wpAny_Constant_int (args_nil (call_get2_strTab (stages_tab B₉) (PyProof.V.Flat.int 0 _) ?_)))))))))
            intro v hv
            rw [rank_int] at hv
            obtain ⟨tv, rfl⟩ := hv.int_inv
            refine stv V F₉ rfl fun h₁₀ F₁₀ hs₁₀ => ?_
            dsimp only
            have up : ∀ b o, b ≠ L → b ≠ L0 → h₆.get? b = some o → h₁₀.get? b = some o := fun b o h1 h2 e => (hs₁₀.2 b h1).trans (k₉ b o h1 h2 e)
            refine wpAny_execs_nil ⟨rfl, h₁₀, _, _, sl₉, _, _, rfl, F₁₀, (hs₁₀.2 L0 (Ne.symm hLL0)).trans l09, hm, hR₆.at fun o e => up _ o hraL hraL0 e, hit₆.keep fun b hb o e => up b o (by simp at hb; rcases hb with rfl | rfl; exact Ne.symm hLI; exact haL) (by simp at hb; rcases hb with rfl | rfl; exact Ne.symm hL0I; exact haL0) e, rfl, rfl, ?_⟩
            unfold tokTold
            rw [if_neg hin, hn]
            exact .cons (.n _ _) (.cons (.s _ _) .nil)
        · rintro s' ⟨h, tk, m, sl, tv, vv, rfl, Fm, l0, hm, hR, hit, ht, hv, hDD⟩
          refine wpC_of_any (wpAny_execs_cons (wpAny_Expr ?_ V.inter))
          refine MethodCall_ (ldv V Fm rfl hm (getMethod_list_of PySem.F.slot_list_extend PySem.F.type_list_extend hR.isList hR.noDict (callWith_method1 (args_cons (wpAny_Tuple ?_)))))
          refine args_cons (ldv V Fm rfl ht (args_cons (ldv V Fm rfl hv (args_nil ⟨by simp only [List.length_cons, List.length_nil]; decide, ?_⟩))))
          dsimp only
          have kC := pushKeep h { cls := .type "tuple", data := .seq [tv, vv].toArray }
          have hC : (h.push { cls := .type "tuple", data := .seq [tv, vv].toArray }).get? h.objs.size = some { cls := .type "tuple", dict := none, data := .seq [tv, vv].toArray 0, slots := #[] } := Heap.get?_push_size _ rfl
          refine args_nil (lst_extend_tuple (us := [tv, vv]) (hR.keep kC) hC (by simp only [List.length_cons, List.length_nil]; omega) fun h₇ hR₇ hs₇ => ?_)
          dsimp only
          refine wpAny_execs_nil (wpC_of_any (wpAny_execs_nil ⟨hit.keep fun b hb o e => ?_, h₇, _, _, _, sl, rfl, frSame (frKeep Fm kC) hs₇ (Ne.symm hraL) hgG, (hs₇.2 L0 ?_).trans (kC _ _ l0), hm, hR₇, ?_⟩))
          · refine (hs₇.2 b ?_).trans (kC b o e)
            simp at hb
            rcases hb with rfl | rfl
            · exact Ne.symm hraI
            · exact hara
          · intro q; rw [← q, hL0] at hg0; cases hg0
          · rw [htake]
            exact hD.append hDD
    · rintro s' ⟨h, tk, m, us, sl, rfl, Fm, l0, hm, hR, hD⟩
      rw [hT.length, List.take_length] at hD
      exact ⟨rfl, h, tk, m, us, sl, rfl, Fm, l0, hm, hR, hD⟩
  · rintro s' ⟨h, tk, m, us, sl, rfl, Fm, l0, hm, hR, hD⟩
    refine C_execs_cons (wpC_of_any (wpAny_Return_some (ldv V Fm rfl hm ?_)))
    refine hQ _ _ _ us ⟨fun b' o hb e => Fm.keep b' o ((gone_get hb).trans e), fun b' o hb e hnf => ?_⟩ hg0 hR hD
    simp at hb
    subst hb
    rw [hL0] at e
    cases e
    exact ⟨sl, l0⟩
end
end Mine

end TComp

section TNeD
open PySem PySem.W PyProof.Rows
set_option Elab.async false
set_option maxRecDepth 100000
set_option maxHeartbeats 400000
namespace Mine
open PySem PySem.W PySem.Calls PyProof.Rows PyProof.V PySem.Spec PySem.SeqAt

def dtP : Dt → PyData
  | .n i => .int i
  | .s x => .str (St x)
theorem dts_reads {h : Heap} : ∀ {vs : List Value} {ds : List Dt}, DtsAre vs ds → ReadsAll h vs (ds.map dtP) []
  | _, _, .nil => .nil
  | _, _, .cons (.n k t) r => by
    have := ReadsAll.cons (Reads.int (h := h) k t) (dts_reads (h := h) r)
    simpa [dtP] using this
  | _, _, .cons (.s x t) r => by
    have := ReadsAll.cons (Reads.str (h := h) (St x) t) (dts_reads (h := h) r)
    simpa [dtP] using this
/-- its texts are plain -/
def Asc (ds : List Dt) : Prop := ∀ x, Dt.s x ∈ ds → ∀ c ∈ x, c < 128
theorem strOk_of {x : List Nat} (h : ∀ c ∈ x, c < 128) : PyData.strOk (St x) = true := by
  unfold PyData.strOk
  simp
  intro c hc
  have := h c hc
  omega
theorem dts_lay : ∀ ds : List Dt, Asc ds → PyData.canLayAll0 (ds.map dtP) = true
  | [], _ => by simp [PyData.canLayAll0]
  | .n i :: r, h => by simp [dtP, PyData.canLayAll0, PyData.canLay0, dts_lay r fun x hx => h x (List.mem_cons_of_mem _ hx)]
  | .s x :: r, h => by simp [dtP, PyData.canLayAll0, PyData.canLay0, dts_lay r fun x hx => h x (List.mem_cons_of_mem _ hx), strOk_of (h x (by simp))]
theorem dts_depth : ∀ ds : List Dt, PyData.depthAll (ds.map dtP) ≤ 1
  | [] => by simp [PyData.depthAll]
  | .n i :: r => by
    have := dts_depth r
    simp only [List.map_cons, dtP, PyData.depthAll, PyData.depth]
    omega
  | .s x :: r => by
    have := dts_depth r
    simp only [List.map_cons, dtP, PyData.depthAll, PyData.depth]
    omega
theorem dts_shaped (ds : List Dt) (hA : Asc ds) : shaped (.list (ds.map dtP)) = true := by
  have h1 := dts_depth ds
  have h2 : PyData.depth (.list (ds.map dtP)) ≤ 64 := by simp only [PyData.depth]; omega
  show (PyData.canLay0 (.list (ds.map dtP)) && decide (PyData.depth (.list (ds.map dtP)) ≤ 64)) = true
  rw [Bool.and_eq_true]
  exact ⟨by simp only [PyData.canLay0]; exact dts_lay ds hA, decide_eq_true h2⟩
theorem dts_eqv : ∀ ds : List Dt, PyData.eqvAll (ds.map dtP) (ds.map dtP) = true
  | [] => by simp [PyData.eqvAll]
  | .n i :: r => by simp [dtP, PyData.eqvAll, PyData.eqv, dts_eqv r]
  | .s x :: r => by simp [dtP, PyData.eqvAll, PyData.eqv, dts_eqv r]
theorem ne_dts {w : World} {A : Around} {E : Value → Shared → Prop} {s : Shared} {a b : Addr} {vs us : List Value} {ds : List Dt} {Q : Value → Shared → Prop} (ha : LstAt s.heap a vs) (hb : LstAt s.heap b us) (h1 : DtsAre vs ds) (h2 : DtsAre us ds) (hA : Asc ds) (hu : A.units + 64 < cLine)
    (h : Q (.bool false) s) : wpAny (model prog w) A (compareOp .NotEq (.ref a) (.ref b)) Q E s := by
  obtain ⟨n, ea⟩ := ha
  obtain ⟨k, eb⟩ := hb
  refine ne_dataH (Reads.list ea rfl rfl (by simpa using dts_reads h1)) (Reads.list eb rfl rfl (by simpa using dts_reads h2)) (dts_shaped ds hA) (dts_shaped ds hA) hu ?_
  have : PyData.eqv (.list (ds.map dtP)) (.list (ds.map dtP)) = true := by simp only [PyData.eqv]; exact dts_eqv ds
  rw [this]; exact h
end Mine

end TNeD

section TLaw
open PySem PySem.W PyProof.Rows
set_option Elab.async false
set_option maxRecDepth 100000
set_option maxHeartbeats 400000
namespace Mine
open PySem PySem.W PySem.Calls PyProof.Rows PyProof.Rows.TI

/-- what the walk asks of the plain side -/
structure Good (v b : List Nat) : Prop where
  hv : v.length ≤ 1000
  hb : b.length ≤ 1000
  parts : ∀ p ∈ partsOf v b, Fine p ∧ ∀ q, conv p = some q → q.length ≤ 1000
  len : (normTold v b).length ≤ 10000
  toks : ∀ p ∈ splitRe (normTold v b) ((normTold v b).length + 1) 0, p.length ≤ 640 ∧ (reprText (St p)).length ≤ 100000
  eq : compTold (normTold v b) = ranksTold v b
  asc : Asc (ranksTold v b)
def PlainLaw : Prop := ∀ v b, OkText v → OkText b → v.length ≤ 70 → b.length ≤ 70 → Good v b

theorem PairAt.kept {h h' : Heap} {v : Value} {m b : List Nat} {L : Addr} (x : PairAt h v m b) (k : KeptBut [L] h h') (hc : NotTup h L) : PairAt h' v m b := by
  obtain ⟨a, t, u, n, e, q⟩ := x
  refine ⟨a, t, u, n, e, k.other a _ ?_ q⟩
  intro hac; simp at hac; subst hac; exact hc _ q ⟨rfl, _, _, rfl⟩
theorem frKept {g h h' : Heap} {L : Addr} {m : Str → Option Value} (F : Fr g L h m) (k : KeptBut [L] h h') : Fr g L h' m := by
  obtain ⟨o, es, ep, ho, hd, r⟩ := F.ns
  obtain ⟨sl, hs⟩ := k.frame L o (by simp) ho (fun vs q => by rw [hd] at q; cases q)
  exact ⟨⟨_, es, ep, hs, hd, r⟩, fun b o e => k.other b o (by simp; intro q; rw [q, kts_self F] at e; cases e) (F.keep b o e), F.above⟩
theorem ItAt.kept {I la L : Addr} {vs : List Value} {i : Nat} {h h' : Heap} (x : ItAt I la vs i h) (k : KeptBut [L] h h') (h1 : I ≠ L) (h2 : la ≠ L) : ItAt I la vs i h' :=
  x.keep fun b hb o e => k.other b o (by simp at hb ⊢; rcases hb with rfl | rfl; exact h1; exact h2) e
theorem baseOne {w : World} {g h : Heap} {L : Addr} {m mg mb : Str → Option Value} (B : Base w g mg mb) (F : Fr g L h m) : Base w (gone h [L]) mg mb := B.keeps fun b o e => by
  rw [gone_get]
  · exact F.keep b o e
  · intro hm
    simp at hm
    rw [hm, kts_self F] at e; cases e

section
variable {w : World} {A : Around} {E : Value → Shared → Prop} {s : Shared} {mg mb : Str → Option Value}

/-- one question of the law's: the left side's call (comparable of norm) -/
theorem comp_call {l : List Nat} {t : Tok} {Q : Value → Shared → Prop} {envO : Env} {L0 : Addr} {oL0 : Obj}
    (B : Base w (gone s.heap [L0]) mg mb) (hroom : A.depth < recursionLimit) (hh : A.handled = none) (hfr : A.frames = some [envO]) (hO : envO.frame = some L0) (hOk : envO.scope.kind = .function)
    (hL0 : s.heap.get? L0 = some oL0) (hL0d : ∀ vs, oL0.data ≠ .fields vs)
    (hl : l.length ≤ 10000) (hF : ∀ p ∈ splitRe l (l.length + 1) 0, p.length ≤ 640 ∧ (reprText (St p)).length ≤ 100000)
    (hQ : ∀ h' tk a vs, KeptBut [L0] s.heap h' → s.heap.get? a = none → LstAt h' a vs → DtsAre vs (compTold l) → Q (.ref a) { s with heap := h', toks := tk }) :
    wpC PC (model prog w) A (call (.ref 44) [.str (St l) t]) Q E s :=
  wpC_call (comp_code B hroom hh hfr hO hOk hL0 hL0d hl hF hQ)
end

theorem law_goal (PL : PlainLaw) : LawGoal := by
  intro w s₁ mg mb l vs ns B hl hi hn hg
  refine codeC_of (C_enter (binds := [(Str.ofString "script", .ref l)]) B (by decide) rfl rfl rfl (BindsTo.of_eq rfl) rfl rfl rfl (by decide) (locs rfl) rfl rfl rfl ?_)
  intro env L h₁ V F
  dsimp only at V ⊢
  have hroomD : (callerA.deeper env).depth + 10 < recursionLimit := by show callerA.depth + 1 + 10 < recursionLimit; decide
  have hroom' : (callerA.deeper env).depth < recursionLimit := by show callerA.depth + 1 < recursionLimit; decide
  have hunits : (callerA.deeper env).units + 64 < cLine := by show callerA.units + 3 + 64 < cLine; decide
  have hfr : (callerA.deeper env).frames = some [env] := rfl
  have hh : (callerA.deeper env).handled = none := rfl
  generalize callerA.deeper env = A at *
  have B₁ : Base w h₁ mg mb := B.keeps F.keep
  -- the loop
  refine C_seq (fun s' => ∃ h tk m, s' = { s₁ with heap := h, toks := tk } ∧ Fr s₁.heap L h m) (C_For ?_) ?_
  · refine Call_ (ldg V B₁ rfl (by kernel_rfl) (v := .ref 59) (callDef (mg := mg) (mb := mb) rfl (args_cons (ldv V F rfl rfl (args_nil ⟨B₁, ?_⟩))) rfl))
    refine texts_call B₁ hroomD hh (hl.at fun o e => F.keep _ o e) hi hn fun h₂ tk₂ a us k₂ ha hL₂ hul hP => ?_
    have F₂ := frKeep F k₂
    refine wpAny_pyIter_list hL₂.isList ?_
    dsimp only
    have hIL : h₂.objs.size ≠ L := Ne.symm (Nat.ne_of_lt F₂.ns.lt)
    have haI : a ≠ h₂.objs.size := Nat.ne_of_lt hL₂.lt
    have haL : a ≠ L := hL₂.ne_ns F₂.ns
    have hit0 : ItAt h₂.objs.size a us 0 (h₂.push { cls := .type "list_iterator", data := .fields #[.ref a, .int 0 0] }) := ⟨⟨_, Heap.get?_push_size _ rfl, rfl, rfl⟩, (hL₂.keep (pushKeep _ _)).isList⟩
    have kI := pushKeep h₂ { cls := .type "list_iterator", data := .fields #[.ref a, .int 0 0] }
    have hgI : s₁.heap.get? h₂.objs.size = none := Keep.none F₂.keep (size_none _)
    have hP₃ : PairsOk (h₂.push { cls := .type "list_iterator", data := .fields #[.ref a, .int 0 0] }) us 60 := hP.map (Nat.le_refl _) fun v m b p => p.keep kI
    have hnt : ∀ v ∈ us, v ≠ .ref h₂.objs.size := by
      intro v hv e
      obtain ⟨m, b, ⟨a', t, u, n, e', q⟩, _⟩ := hP v hv
      rw [e'] at e
      injection e with e
      rw [e, size_none] at q; cases q
    generalize h₂.push { cls := .type "list_iterator", data := .fields #[.ref a, .int 0 0] } = h₃ at *
    generalize h₂.objs.size = I at *
    refine C_forList (A := A) hh haI (fun i s' => ∃ h tk m, s' = { s₁ with heap := h, toks := tk } ∧ Fr s₁.heap L h m ∧ PairsOk h us 60) hit0 ⟨_, _, _, rfl, frKeep F₂ kI, hP₃⟩ ?_ ?_ ?_
    · rintro i s' h' ⟨h, tk, m, rfl, Fm, hp⟩ k
      refine ⟨h', tk, m, rfl, ⟨?_, fun b o e => k b o (fun q => by rw [q, hgI] at e; cases e) (Fm.keep b o e), Fm.above⟩, fun v hv => ?_⟩
      · obtain ⟨o, es, ep, ho, r⟩ := Fm.ns
        exact ⟨o, es, ep, k _ _ (Ne.symm hIL) ho, r⟩
      · obtain ⟨m, b, ⟨a', t, u, n, e', q⟩, r⟩ := hp v hv
        exact ⟨m, b, ⟨a', t, u, n, e', k _ _ (fun z => hnt v hv (by rw [e', z])) q⟩, r⟩
    · rintro i x s' hx hit ⟨h, tk, m, rfl, Fm, hp⟩
      obtain ⟨v, b, ⟨ta, t1, u1, n1, rfl, hq⟩, ok1, ok2, l1, l2⟩ := hp x (List.mem_of_getElem? hx)
      refine wpAny_letOwnedTupleGo_listiter hit.1 ?_
      refine assign_Tuple_tuple hh ⟨_, hq, rfl, _, rfl⟩ rfl rfl fun h₄ k₄ => ?_
      have k4 : Keep h h₄ := fun b o e => k₄ b o (Nat.ne_of_lt (Heap.lt_size e)) e
      refine assignInOrder_cons (wpAny_assign_Name (stv V (frKeep Fm k4) rfl fun h₅ F₅ hs₅ => ?_))
      refine assignInOrder_cons (wpAny_assign_Name (stv V F₅ rfl fun h₆ F₆ hs₆ => assignInOrder_nil ?_))
      have hp₆ : PairsOk h₆ us 60 := hp.map (Nat.le_refl _) fun v m b p => ((p.keep k4).same hs₅ (notTup_ns (frKeep Fm k4).ns)).same hs₆ (notTup_ns F₅.ns)
      have hit₆ : ItAt I a us (i + 1) h₆ := hit.keep fun b hb o e => by
        have hbL : b ≠ L := by simp at hb; rcases hb with rfl | rfl; exact hIL; exact haL
        exact (hs₆.2 b hbL).trans ((hs₅.2 b hbL).trans (k4 b o e))
      clear hs₅ hs₆ F₅ k₄ k4
      dsimp only
      refine C_seq (fun s' => ∃ h tk m, s' = { s₁ with heap := h, toks := tk } ∧ Fr s₁.heap L h m ∧ m (Str.ofString "made") = some (.str (St v) t1) ∧ PairsOk h us 60 ∧ ItAt I a us (i + 1) h) (C_If (C_Compare1 ?_)) ?_
      · have G := PL v b ok1 ok2 (by omega) (by omega)
        have B₆ : Base w h₆ mg mb := B.keeps F₆.keep
        obtain ⟨o6, ho6, hd6⟩ := noFields_ns F₆.ns
        refine C_Call (ldg V B₆ rfl (by kernel_rfl) (v := .ref 44) (C_callDef (mg := mg) (mb := mb) rfl (args_cons ?_) rfl rfl))
        refine Call_ (ldg V B₆ rfl (by kernel_rfl) (v := .ref 52) (callDef (mg := mg) (mb := mb) rfl (args_cons (ldv V F₆ rfl rfl (args_cons (ldv V F₆ rfl rfl (args_nil ⟨B₆, ?_⟩))))) rfl))
        refine norm2 (baseOne B F₆) hroom' hh hfr V.frame V.kind ho6 hd6 G.hv G.parts fun h₇ tk₇ t₇ k₇ => ?_
        have F₇ := frKept F₆ k₇
        have B₇ : Base w h₇ mg mb := B.keeps F₇.keep
        obtain ⟨o7, ho7, hd7⟩ := noFields_ns F₇.ns
        refine args_nil ⟨B₇, comp_call (baseOne B F₇) hroom' hh hfr V.frame V.kind ho7 hd7 G.len G.toks fun h₈ tk₈ a₈ vs₈ k₈ hn₈ hL₈ hD₈ => ?_⟩
        have F₈ := frKept F₇ k₈
        have B₈ : Base w h₈ mg mb := B.keeps F₈.keep
        refine Call_ (ldg V B₈ rfl (by kernel_rfl) (v := .ref 80) (callDef (mg := mg) (mb := mb) rfl (args_cons (ldv V F₈ rfl rfl (args_cons (ldv V F₈ rfl rfl (args_nil ⟨B₈, ?_⟩))))) rfl))
        refine ranks_call B₈ hroomD hh G.hv G.hb fun h₉ tk₉ a₉ vs₉ k₉ hn₉ hL₉ hD₉ => ?_
        rw [G.eq] at hD₈
        refine ne_dts (hL₈.keep k₉) hL₉ hD₈ hD₉ G.asc hunits (wpAny_truthy_bool ?_)
        refine PySem.W.ite_neg (by decide) ?_
        refine wpC_of_any (wpAny_execs_nil ⟨rfl, h₉, _, _, rfl, frKeep F₈ k₉, rfl, ?_, ?_⟩)
        · exact hp₆.map (Nat.le_refl _) fun v m b p => ((p.kept k₇ (notTup_ns F₆.ns)).kept k₈ (notTup_ns F₇.ns)).keep k₉
        · exact ((hit₆.kept k₇ hIL haL).kept k₈ hIL haL).keep fun b _ o e => k₉ b o e
      · clear hp₆ hit₆ F₆
        rintro s' ⟨h₆, tk, m, rfl, F₆, hmv, hp₆, hit₆⟩
        have okk : OkText (v ++ [48, 56]) := ok1.append (by intro c hc; simp at hc; rcases hc with rfl | rfl <;> decide)
        have G := PL (v ++ [48, 56]) [] okk okText_nil (by simp; omega) (by simp)
        have B₆ : Base w h₆ mg mb := B.keeps F₆.keep
        obtain ⟨o6, ho6, hd6⟩ := noFields_ns F₆.ns
        have e08 : Str.ofString "08" = St [48, 56] := by decide +kernel
        have e0 : Str.ofString "" = St [] := by decide +kernel
        refine C_execs_cons (C_If (C_Compare1 ?_))
        refine C_Call (ldg V B₆ rfl (by kernel_rfl) (v := .ref 44) (C_callDef (mg := mg) (mb := mb) rfl (args_cons ?_) rfl rfl))
        refine Call_ (ldg V B₆ rfl (by kernel_rfl) (v := .ref 52) (callDef (mg := mg) (mb := mb) rfl (args_cons ?_) rfl))
        refine wpAny_BinOp (ldv V F₆ rfl hmv (wpAny_Constant_str (SB.add (fun tn kn => args_nil ⟨B₆, ?_⟩) ?_)))
        rotate_left
        · rw [e08, St_length, St_length, sizeLine_eq]; simp; omega
        rw [e08, St_append]
        refine norm1 (baseOne B F₆) hroom' hh hfr V.frame V.kind ho6 hd6 G.hv G.parts fun h₇ tk₇ t₇ k₇ => ?_
        have F₇ := frKept F₆ k₇
        have B₇ : Base w h₇ mg mb := B.keeps F₇.keep
        obtain ⟨o7, ho7, hd7⟩ := noFields_ns F₇.ns
        refine args_nil ⟨B₇, comp_call (baseOne B F₇) hroom' hh hfr V.frame V.kind ho7 hd7 G.len G.toks fun h₈ tk₈ a₈ vs₈ k₈ hn₈ hL₈ hD₈ => ?_⟩
        have F₈ := frKept F₇ k₈
        have B₈ : Base w h₈ mg mb := B.keeps F₈.keep
        refine Call_ (ldg V B₈ rfl (by kernel_rfl) (v := .ref 80) (callDef (mg := mg) (mb := mb) rfl (args_cons ?_) rfl))
        refine wpAny_BinOp (ldv V F₈ rfl hmv (wpAny_Constant_str (SB.add (fun tn kn => args_cons (wpAny_Constant_str (args_nil ⟨B₈, ?_⟩))) ?_)))
        rotate_left
        · rw [St_length, St_length, sizeLine_eq]; simp; omega
        rw [St_append, e0]
        refine ranks_call B₈ hroomD hh G.hv G.hb fun h₉ tk₉ a₉ vs₉ k₉ hn₉ hL₉ hD₉ => ?_
        rw [G.eq] at hD₈
        refine ne_dts (hL₈.keep k₉) hL₉ hD₈ hD₉ G.asc hunits (wpAny_truthy_bool ?_)
        refine PySem.W.ite_neg (by decide) ?_
        refine wpC_of_any (wpAny_execs_nil (wpC_of_any (wpAny_execs_nil ⟨?_, h₉, _, _, rfl, frKeep F₈ k₉, ?_⟩)))
        · exact ((hit₆.kept k₇ hIL haL).kept k₈ hIL haL).keep fun b _ o e => k₉ b o e
        · exact hp₆.map (Nat.le_refl _) fun v m b p => ((p.kept k₇ (notTup_ns F₆.ns)).kept k₈ (notTup_ns F₇.ns)).keep k₉
    · rintro s' ⟨h, tk, m, rfl, Fm, hp⟩
      exact ⟨rfl, h, tk, m, rfl, Fm⟩
  · rintro s' ⟨h, tk, m, rfl, Fm⟩
    refine C_execs_cons (wpC_of_any (wpAny_Return_some (wpAny_Constant_bool ?_)))
    exact ⟨rfl, Fm.keep, rfl, rfl⟩
end Mine

end TLaw

section TPlainA
open PySem PySem.W PyProof.Rows
set_option Elab.async false
set_option maxRecDepth 100000
set_option maxHeartbeats 400000
namespace Mine
open PySem PySem.W PySem.Calls PyProof.Rows

/-- what is told of what follows, a run being under way -/
def U : List Nat → List Nat → List Dt
  | run, [] => runTold run
  | [], c :: l => if 0 < kindN c then U [c] l else U [] l
  | d :: r, c :: l => if kindN d ≠ kindN c then runTold (d :: r) ++ (if 0 < kindN c then U [c] l else U [] l) else if 0 < kindN c then U (d :: r ++ [c]) l else U (d :: r) l
termination_by _ l => l.length

theorem U_nil (run : List Nat) : U run [] = runTold run := by rw [U]
theorem U_start (c : Nat) (l : List Nat) : U [] (c :: l) = if 0 < kindN c then U [c] l else U [] l := by rw [U]
theorem U_run (d c : Nat) (r l : List Nat) : U (d :: r) (c :: l) = if kindN d ≠ kindN c then runTold (d :: r) ++ (if 0 < kindN c then U [c] l else U [] l) else if 0 < kindN c then U (d :: r ++ [c]) l else U (d :: r) l := by rw [U]

theorem tell_U : ∀ (l run : List Nat) (told : List Dt), (l.foldl tstep (run, told)).2 ++ runTold (l.foldl tstep (run, told)).1 = told ++ U run l
  | [], run, told => by rw [U_nil]; rfl
  | c :: l, [], told => by
    rw [List.foldl_cons, U_start]
    show ((l.foldl tstep (if 0 < kindN c then ([c], told) else ([], told))).2 ++ runTold (l.foldl tstep (if 0 < kindN c then ([c], told) else ([], told))).1) = _
    split
    · exact tell_U l [c] told
    · exact tell_U l [] told
  | c :: l, d :: r, told => by
    rw [List.foldl_cons, U_run]
    by_cases h : kindN d ≠ kindN c
    · have e : tstep (d :: r, told) c = if 0 < kindN c then ([c], told ++ runTold (d :: r)) else ([], told ++ runTold (d :: r)) := by
        unfold tstep
        simp only [if_pos h]
        split <;> rfl
      rw [e, if_pos h]
      split
      · rw [tell_U l [c] _, List.append_assoc]
      · rw [tell_U l [] _, List.append_assoc]
    · have e : tstep (d :: r, told) c = if 0 < kindN c then (d :: r ++ [c], told) else (d :: r, told) := by
        unfold tstep
        simp only [if_neg h]
      rw [e, if_neg h]
      split
      · exact tell_U l _ told
      · exact tell_U l _ told
theorem tellPart_U (s : List Nat) : tellPart s = U [] s := by
  have := tell_U s [] []
  simpa [tellPart, tst] using this

/-- a run under way is of one kind, and of no separator's -/
def Led (run : List Nat) : Prop := ∀ d r, run = d :: r → 0 < kindN d
theorem U_sep (c : Nat) (hc : kindN c = 0) : ∀ (p run : List Nat) (r : List Nat), Led run → U run (p ++ c :: r) = U run p ++ U [] r
  | [], [], r, _ => by
    rw [List.nil_append, U_start, U_nil, if_neg (by omega)]; rfl
  | [], d :: t, r, h => by
    have := h d t rfl
    rw [List.nil_append, U_run, U_nil, if_pos (by omega), if_neg (by omega)]
  | x :: p, [], r, h => by
    rw [List.cons_append, U_start, U_start]
    split
    · rename_i hx
      exact U_sep c hc p [x] r (by intro d t e; cases e; exact hx)
    · exact U_sep c hc p [] r h
  | x :: p, d :: t, r, h => by
    rw [List.cons_append, U_run, U_run]
    split
    · rw [List.append_assoc]
      congr 1
      split
      · rename_i hx
        exact U_sep c hc p [x] r (by intro d t e; cases e; exact hx)
      · exact U_sep c hc p [] r (by intro d t e; cases e)
    · split
      · exact U_sep c hc p (d :: t ++ [x]) r (by intro d' t' e; cases e; exact h d t rfl)
      · exact U_sep c hc p (d :: t) r h
theorem led_nil : Led [] := fun _ _ e => nomatch e
theorem tell_join : ∀ ps : List (List Nat), U [] (joinDots ps) = ps.flatMap tellPart
  | [] => by rw [show joinDots [] = [] from rfl, U_nil]; rfl
  | [x] => by rw [show joinDots [x] = x from rfl]; simp [tellPart_U]
  | x :: y :: r => by
    show U [] (x ++ 46 :: joinDots (y :: r)) = _
    rw [U_sep 46 (by decide) x [] _ led_nil, tell_join (y :: r), ← tellPart_U x]
    rfl

/-- a run of one kind is taken whole -/
theorem U_same (k : Nat) (hk : 0 < k) : ∀ (w run rest : List Nat), (∀ c ∈ w, kindN c = k) → (∀ d r, run = d :: r → kindN d = k) → U run (w ++ rest) = U (run ++ w) rest
  | [], run, rest, _, _ => by simp
  | c :: w, [], rest, hw, hr => by
    have hc : kindN c = k := hw c (by simp)
    rw [List.cons_append, U_start, if_pos (by omega), U_same k hk w [c] rest (fun x hx => hw x (List.mem_cons_of_mem _ hx)) (by intro d r e; cases e; exact hc)]
    rfl
  | c :: w, d :: r, rest, hw, hr => by
    have hc : kindN c = k := hw c (by simp)
    have hd : kindN d = k := hr d r rfl
    rw [List.cons_append, U_run, if_neg (by omega), if_pos (by omega), U_same k hk w (d :: r ++ [c]) rest (fun x hx => hw x (List.mem_cons_of_mem _ hx)) (by intro d' r' e; cases e; exact hd)]
    simp
theorem U_break {run rest : List Nat} (h : ∀ d r c l, run = d :: r → rest = c :: l → kindN d ≠ kindN c) : U run rest = runTold run ++ U [] rest := by
  cases run with
  | nil => rfl
  | cons d r =>
    cases rest with
    | nil => rw [U_nil, U_nil]; simp [runTold]
    | cons c l => rw [U_run, if_pos (h d r c l rfl rfl), U_start]
end Mine

end TPlainA

section TPlainB
open PySem PySem.W PyProof.Rows
set_option Elab.async false
set_option maxRecDepth 100000
set_option maxHeartbeats 400000
namespace Mine
open PySem PySem.W PySem.Calls PyProof.Rows

def letr (c : Nat) : Bool := !dig c && !sepU c
theorem dig_eq (c : Nat) : dig c = isDig c := rfl
theorem sep_ok {c : Nat} (h : alpha c = true) : sepU c = isSep c := by
  unfold sepU isSep
  have : (c == 95) = false := by
    unfold alpha isDig isSep at h
    simp at h ⊢
    omega
  rw [this, Bool.or_false]
theorem kind_dig {c : Nat} (h : dig c = true) : kindN c = 2 := by unfold kindN; rw [← dig_eq, h]; rfl
theorem kind_sep {c : Nat} (hd : dig c = false) (ha : alpha c = true) (h : sepU c = true) : kindN c = 0 := by unfold kindN; rw [← dig_eq, hd, ← sep_ok ha, h]; rfl
theorem kind_letr {c : Nat} (ha : alpha c = true) (h : letr c = true) : kindN c = 1 := by
  unfold letr at h
  simp at h
  unfold kindN; rw [← dig_eq, h.1, ← sep_ok ha, h.2]; rfl

/-- where the pattern finds its first piece -/
theorem findRe_eq (l : List Nat) : ∀ (k s : Nat), s + k = l.length → findRe l k s = match (l.drop s).dropWhile letr with
    | [] => none
    | c :: r => if dig c then some (s + ((l.drop s).takeWhile letr).length, s + ((l.drop s).takeWhile letr).length + ((c :: r).takeWhile dig).length) else some (s + ((l.drop s).takeWhile letr).length, s + ((l.drop s).takeWhile letr).length + 1)
  | 0, s, h => by
    have : l.drop s = [] := List.drop_eq_nil_of_le (by omega)
    rw [this]; rfl
  | k + 1, s, h => by
    have hs : s < l.length := by omega
    have hd : l.drop s = l[s] :: l.drop (s + 1) := List.drop_eq_getElem_cons hs
    have hg : l.getD s 0 = l[s] := by simp [hs]
    unfold findRe digLen
    rw [hg, hd]
    cases hdg : dig l[s] with
    | true =>
      have hl : letr l[s] = false := by unfold letr; rw [hdg]; rfl
      rw [List.takeWhile_cons_of_pos hdg, List.dropWhile_cons_of_neg (by rw [hl]; decide), List.takeWhile_cons_of_neg (by rw [hl]; decide)]
      simp [hdg]
      rw [hd, List.takeWhile_cons_of_pos hdg]
      rfl
    | false =>
      rw [List.takeWhile_cons_of_neg (by rw [hdg]; decide)]
      cases hsp : sepU l[s] with
      | true =>
        have hl : letr l[s] = false := by unfold letr; rw [hsp]; simp
        rw [List.dropWhile_cons_of_neg (by rw [hl]; decide), List.takeWhile_cons_of_neg (by rw [hl]; decide)]
        simp [hdg]
      | false =>
        have hl : letr l[s] = true := by unfold letr; rw [hsp, hdg]; rfl
        rw [List.dropWhile_cons_of_pos hl, List.takeWhile_cons_of_pos hl]
        simp only [List.length_nil, Nat.lt_irrefl, if_false, Bool.false_eq_true]
        rw [findRe_eq l k (s + 1) (by omega)]
        split
        · rfl
        · rw [List.length_cons]
          split <;> (congr 2 <;> omega)
theorem takeWhile_sat {p : Nat → Bool} : ∀ {l : List Nat} {c : Nat}, c ∈ l.takeWhile p → p c = true
  | x :: r, c, h => by
    rw [List.takeWhile_cons] at h
    split at h
    · rcases List.mem_cons.mp h with rfl | h
      · assumption
      · exact takeWhile_sat h
    · cases h
theorem dropWhile_head {p : Nat → Bool} : ∀ {l : List Nat} {c : Nat} {r : List Nat}, l.dropWhile p = c :: r → p c = false
  | x :: t, c, r, h => by
    rw [List.dropWhile_cons] at h
    split at h
    · exact dropWhile_head h
    · cases h
      rename_i hx
      simpa using hx
theorem take_tw (p : Nat → Bool) : ∀ l : List Nat, l.take (l.takeWhile p).length = l.takeWhile p
  | [] => rfl
  | c :: r => by
    rw [List.takeWhile_cons]
    split
    · rw [List.length_cons, List.take_succ_cons, take_tw p r]
    · rfl
theorem drop_tw (p : Nat → Bool) : ∀ l : List Nat, l.drop (l.takeWhile p).length = l.dropWhile p
  | [] => rfl
  | c :: r => by
    rw [List.takeWhile_cons, List.dropWhile_cons]
    split
    · rw [List.length_cons, List.drop_succ_cons, drop_tw p r]
    · rfl
theorem slc_take (l : List Nat) (s n : Nat) : slc l s (s + n) = (l.drop s).take n := by unfold slc; rw [Nat.add_sub_cancel_left]

/-- tokens tell what runs tell -/
structure TokLaw : Prop where
  letters : ∀ w : List Nat, (∀ c ∈ w, alpha c = true ∧ letr c = true) → w.length ≤ 640 → tokTold w = runTold w
  digits : ∀ w : List Nat, w ≠ [] → (∀ c ∈ w, dig c = true) → w.length ≤ 640 → tokTold w = runTold w
  sep : ∀ c : Nat, sepU c = true → tokTold [c] = []

theorem comp_U (T : TokLaw) (l : List Nat) (hok : OkText l) (hl : l.length ≤ 640) : ∀ (k s : Nat), s ≤ l.length → l.length < s + k → (splitRe l k s).flatMap tokTold = U [] (l.drop s)
  | 0, s, h1, h2 => absurd h2 (by omega)
  | k + 1, s, h1, h2 => by
    have hf := findRe_eq l (l.length - s) s (by omega)
    have hlen : (l.drop s).length ≤ 640 := by rw [List.length_drop]; omega
    have hokd : ∀ c ∈ l.drop s, alpha c = true := fun c hc => hok c (List.mem_of_mem_drop hc)
    have hsplit : (l.drop s).takeWhile letr ++ (l.drop s).dropWhile letr = l.drop s := List.takeWhile_append_dropWhile ..
    have hw : ∀ c ∈ (l.drop s).takeWhile letr, alpha c = true ∧ letr c = true := fun c hc => ⟨hokd c (List.takeWhile_subset _ hc), takeWhile_sat hc⟩
    have hwl : ((l.drop s).takeWhile letr).length ≤ 640 := Nat.le_trans (List.Sublist.length_le (List.takeWhile_sublist _)) hlen
    have hwt : (l.drop s).take ((l.drop s).takeWhile letr).length = (l.drop s).takeWhile letr := take_tw _ _
    cases hr : (l.drop s).dropWhile letr with
    | nil =>
      rw [hr] at hf
      rw [splitRe_none hf]
      have e1 : slc l s l.length = l.drop s := by
        unfold slc; rw [List.take_of_length_le (by rw [List.length_drop]; omega)]
      rw [hr, List.append_nil] at hsplit
      rw [List.flatMap_cons, List.flatMap_nil, List.append_nil, e1, ← hsplit, T.letters _ hw hwl]
      have := U_same 1 (by decide) ((l.drop s).takeWhile letr) [] [] (fun c hc => kind_letr (hw c hc).1 (hw c hc).2) (fun d r e => nomatch e)
      rw [List.append_nil, List.nil_append, U_nil] at this
      exact this.symm
    | cons c r =>
      rw [hr] at hf hsplit
      have hnl := dropWhile_head hr
      have hca : alpha c = true := hokd c (by rw [← hsplit]; simp)
      have hU1 : U [] (l.drop s) = runTold ((l.drop s).takeWhile letr) ++ U [] (c :: r) := by
        conv => lhs; rw [← hsplit]
        rw [U_same 1 (by decide) _ [] _ (fun x hx => kind_letr (hw x hx).1 (hw x hx).2) (fun d r e => nomatch e), List.nil_append]
        refine U_break fun d r' c' l' e1 e2 => ?_
        cases e2
        have hd1 : kindN d = 1 := by
          have hm : d ∈ (l.drop s).takeWhile letr := by rw [e1]; simp
          exact kind_letr (hw d hm).1 (hw d hm).2
        rw [hd1]
        cases hdg : dig c with
        | true => rw [kind_dig hdg]; decide
        | false =>
          have : sepU c = true := by unfold letr at hnl; rw [hdg] at hnl; simpa using hnl
          rw [kind_sep hdg hca this]; decide
      rw [hU1]
      have hcr : (l.drop s).drop ((l.drop s).takeWhile letr).length = c :: r := (drop_tw _ _).trans hr
      cases hdg : dig c with
      | true =>
        simp only [hdg, if_true] at hf
        rw [splitRe_some hf]
        have hb := findRe_bounds l _ _ _ _ (by omega) hf
        have e2 : l.drop (s + ((l.drop s).takeWhile letr).length) = c :: r := by rw [← List.drop_drop]; exact hcr
        have hds : (c :: r).takeWhile dig ++ (c :: r).dropWhile dig = c :: r := List.takeWhile_append_dropWhile ..
        have e3 : l.drop (s + ((l.drop s).takeWhile letr).length + ((c :: r).takeWhile dig).length) = (c :: r).dropWhile dig := by
          rw [← List.drop_drop, e2]
          exact drop_tw _ _
        have hdl : ((c :: r).takeWhile dig).length ≤ 640 := by omega
        rw [List.flatMap_cons, List.flatMap_cons, comp_U T l hok hl k _ hb.2.2 (by omega), slc_take, slc_take, hwt, e2, e3, T.letters _ hw hwl]
        have e4 : (c :: r).take ((c :: r).takeWhile dig).length = (c :: r).takeWhile dig := take_tw _ _
        have hne : (c :: r).takeWhile dig ≠ [] := by rw [List.takeWhile_cons_of_pos hdg]; simp
        rw [e4, T.digits _ hne (fun x hx => takeWhile_sat hx) hdl]
        congr 1
        conv => rhs; rw [← hds]
        rw [U_same 2 (by decide) _ [] _ (fun x hx => kind_dig (takeWhile_sat hx)) (fun d r e => nomatch e), List.nil_append]
        refine (U_break fun d r' c' l' e5 e6 => ?_).symm
        have hd2 : kindN d = 2 := kind_dig (takeWhile_sat (l := c :: r) (by rw [e5]; simp))
        have hc' := dropWhile_head e6
        rw [hd2]
        unfold kindN
        rw [← dig_eq, hc']
        simp only [Bool.false_eq_true, if_false]
        split <;> decide
      | false =>
        simp only [hdg, Bool.false_eq_true, if_false] at hf
        have hsp : sepU c = true := by unfold letr at hnl; rw [hdg] at hnl; simpa using hnl
        rw [splitRe_some hf]
        have hb := findRe_bounds l _ _ _ _ (by omega) hf
        have e2 : l.drop (s + ((l.drop s).takeWhile letr).length) = c :: r := by rw [← List.drop_drop]; exact hcr
        have e3 : l.drop (s + ((l.drop s).takeWhile letr).length + 1) = r := by rw [← List.drop_drop, e2]; rfl
        rw [List.flatMap_cons, List.flatMap_cons, comp_U T l hok hl k _ hb.2.2 (by omega), slc_take, slc_take, hwt, e2, e3, T.letters _ hw hwl]
        rw [show (c :: r).take 1 = [c] from rfl, T.sep c hsp, List.nil_append, U_start, if_neg (by rw [kind_sep hdg hca hsp]; decide)]
end Mine

end TPlainB

section TPlainC
open PySem PySem.W PyProof.Rows
set_option Elab.async false
set_option maxRecDepth 100000
set_option maxHeartbeats 400000
namespace Mine
open PySem PySem.W PySem.Calls PyProof.Rows PySem.NumText

theorem lit_sepU : (Str.ofString "._+-").cps.toList = [46, 95, 43, 45] := by decide +kernel
theorem contains_head {c : Nat} {r : List Nat} (h : sepU c = false) : Txt.contains (Str.ofString "._+-") (St (c :: r)) = false := by
  cases q : Txt.contains (Str.ofString "._+-") (St (c :: r)) with
  | false => rfl
  | true =>
    obtain ⟨i, _, hs⟩ := (StrLaws.found_iff _ _).mp q
    unfold Builtin.Str.subAt at hs
    have e := eq_of_beq hs
    have hc : c ∈ (Str.ofString "._+-").cps.extract i (i + (St (c :: r)).length) := by rw [e]; simp
    have hc' : c ∈ (Str.ofString "._+-").cps.toList := by
      have h2 : c ∈ ((Str.ofString "._+-").cps.extract i (i + (St (c :: r)).length)).toList := Array.mem_toList_iff.mpr hc
      rw [Array.toList_extract] at h2
      exact List.mem_of_mem_drop (List.mem_of_mem_take (by simpa [List.extract] using h2))
    rw [lit_sepU] at hc'
    simp at hc'
    unfold sepU at h
    simp at h
    omega
theorem contains_sep {c : Nat} (h : sepU c = true) : Txt.contains (Str.ofString "._+-") (St [c]) = true := by
  show (!(Builtin.Str.occurrences _ ⟨#[c]⟩ 0 _ 1).isEmpty) = _
  rw [StrLaws.found_one, lit_sepU]
  unfold sepU at h
  simp at h ⊢
  omega

theorem alpha_cases {c : Nat} (h : alpha c = true) : (48 ≤ c ∧ c ≤ 57) ∨ c = 46 ∨ c = 43 ∨ c = 45 ∨ (65 ≤ c ∧ c ≤ 90) ∨ (97 ≤ c ∧ c ≤ 122) := by
  unfold alpha isDig isSep at h
  simp at h
  omega
theorem step_alpha {c : Nat} (h : alpha c = true) (acc : Array Nat) (f : Bool) : step 10 (acc, f) c = if isDig c = true then some (acc.push (c - 48), true) else none := by
  rcases alpha_cases h with h | h | h | h | h | h
  · rw [step_digit h, if_pos (by unfold isDig; simp; exact h)]
  · subst h; rfl
  · subst h; rfl
  · subst h; rfl
  · have hd : isDig c = false := by unfold isDig; simp; omega
    rw [hd]
    unfold NumText.step digit?
    rw [if_neg (by simp; omega), if_neg (by simp; omega), if_neg (by simp; omega), if_pos (by simp; omega)]
    dsimp only
    rw [if_neg (by omega)]; rfl
  · have hd : isDig c = false := by unfold isDig; simp; omega
    rw [hd]
    unfold NumText.step digit?
    rw [if_neg (by simp; omega), if_neg (by simp; omega), if_pos (by simp; omega)]
    dsimp only
    rw [if_neg (by omega)]; rfl
theorem fold_alpha : ∀ (cs : List Nat) (acc : Array Nat) (f : Bool), OkText cs → cs.foldlM (step 10) (acc, f) = if cs.all isDig = true then some (cs.foldl (fun acc c => acc.push (c - 48)) acc, f || !cs.isEmpty) else none
  | [], acc, f, _ => by simp
  | c :: r, acc, f, h => by
    rw [List.foldlM_cons, step_alpha (h c (by simp))]
    cases hd : isDig c with
    | false => simp [hd]
    | true =>
      rw [if_pos rfl]
      show r.foldlM (step 10) (acc.push (c - 48), true) = _
      rw [fold_alpha r _ _ fun x hx => h x (List.mem_cons_of_mem _ hx)]
      simp [hd]
theorem digits_alpha {cs : List Nat} (h : OkText cs) : digits? 10 cs = if cs.all isDig = true ∧ cs ≠ [] then some (cs.foldl (fun acc c => acc.push (c - 48)) #[]) else none := by
  unfold digits?
  rw [fold_alpha cs #[] false h]
  by_cases ha : cs.all isDig = true
  · rw [if_pos ha]
    by_cases hn : cs = []
    · subst hn; rfl
    · rw [if_pos ⟨ha, hn⟩]
      cases cs with
      | nil => exact absurd rfl hn
      | cons c r => rfl
  · rw [if_neg ha, if_neg (fun q => ha q.1)]; rfl
theorem val_digits : ∀ (cs : List Nat) (a : Nat), cs.all isDig = true → cs.foldl (fun (n : Int) (c : Nat) => n * 10 + ((c : Int) - 48)) (a : Int) = ((cs.foldl (fun acc c => acc * 10 + (c - 48)) a : Nat) : Int)
  | [], a, _ => rfl
  | c :: r, a, h => by
    simp only [List.all_cons, Bool.and_eq_true] at h
    have hc : 48 ≤ c := by have := h.1; unfold isDig at this; simp at this; exact this.1
    rw [List.foldl_cons, List.foldl_cons, show (a : Int) * 10 + ((c : Int) - 48) = ((a * 10 + (c - 48) : Nat) : Int) by omega]
    exact val_digits r _ h.2
theorem sign_ok {p : List Nat} (h : OkText p) : OkText (sign p).2 := by
  intro c hc
  unfold sign at hc
  split at hc
  · exact h c (List.mem_cons_of_mem _ hc)
  · exact h c (List.mem_cons_of_mem _ hc)
  · exact h c hc
theorem drop_alpha : ∀ {p : List Nat}, OkText p → p.dropWhile blank = p
  | [], _ => rfl
  | c :: r, h => by
    have := alpha_cases (h c (by simp))
    exact dropWhile_of (by omega)
theorem intText_ok {p : List Nat} (hok : OkText p) (hl : p.length ≤ 640) :
    PySem.intText? (St p) = if (sign p).2.all isDig = true ∧ (sign p).2 ≠ [] then some (if (sign p).1 then -(valN (sign p).2) else valN (sign p).2) else none := by
  have h1 : numTextOf (St p) = p := by
    show (if (St p).cps.all (· < 128) then (St p).cps.toList else _) = _
    rw [if_pos]
    simp
    intro c hc
    have := alpha_cases (hok c hc)
    omega
  have h2 : numSeenOf (St p) = p := by
    show (numTextOf (St p)).takeWhile (· != 0) = _
    rw [h1]
    refine takeWhile_all fun c hc => ?_
    have := alpha_cases (hok c hc)
    simp; omega
  have h3 : core p = (sign p).2 := by
    unfold core
    rw [drop_alpha hok, drop_alpha (p := (sign p).2.reverse) (fun c hc => sign_ok hok c (List.mem_reverse.mp hc)), List.reverse_reverse]
  unfold PySem.intText?
  rw [h2, h1, h3, drop_alpha hok, digits_alpha (sign_ok hok)]
  rw [if_pos (by simp)]
  by_cases hq : (sign p).2.all isDig = true ∧ (sign p).2 ≠ []
  · rw [if_pos hq, if_pos hq]
    dsimp only
    have hsz : ((sign p).2.foldl (fun acc c => acc.push (c - 48)) (#[] : Array Nat)).size = (sign p).2.length := by rw [push_size]; simp
    have hle := sign_length p
    rw [if_pos (by omega)]
    unfold worth
    rw [push_foldl]
    have hv := val_digits (sign p).2 0 hq.1
    unfold valN
    rw [show ((0 : Int)) = ((0 : Nat) : Int) from rfl, hv]
    rfl
  · rw [if_neg hq, if_neg hq]

theorem sign_plain {c : Nat} {r : List Nat} (h1 : c ≠ 45) (h2 : c ≠ 43) : sign (c :: r) = (false, c :: r) := sign_of h1 h2
theorem tok_law : TokLaw := by
  refine ⟨fun w hw hl => ?_, fun w hne hw hl => ?_, fun c hc => ?_⟩
  · cases w with
    | nil => decide +kernel
    | cons c r =>
      have hc := hw c (by simp)
      have hls : dig c = false ∧ sepU c = false := by have := hc.2; unfold letr at this; simpa using this
      have hns : c ≠ 45 ∧ c ≠ 43 := by have := hls.2; unfold sepU at this; simp at this; omega
      unfold tokTold
      rw [contains_head hls.2, if_neg Bool.false_ne_true, intText_ok (fun x hx => (hw x hx).1) hl, sign_plain hns.1 hns.2, if_neg (by simp [← dig_eq, hls.1])]
      simp only [runTold, kind_letr hc.1 hc.2, if_true]
  · cases w with
    | nil => exact absurd rfl hne
    | cons c r =>
      have hc := hw c (by simp)
      have hcr : 48 ≤ c ∧ c ≤ 57 := by unfold dig at hc; simpa using hc
      have hok : OkText (c :: r) := fun x hx => by unfold alpha; rw [show isDig x = true from hw x hx]; rfl
      unfold tokTold
      rw [contains_head (by unfold sepU; simp; omega), if_neg Bool.false_ne_true, intText_ok hok hl, sign_plain (by omega) (by omega)]
      have hall : (c :: r).all isDig = true := List.all_eq_true.mpr fun x hx => hw x hx
      rw [if_pos ⟨hall, by simp⟩]
      simp only [runTold, kind_dig hc]
      rfl
  · unfold tokTold
    rw [contains_sep hc]; rfl
end Mine

end TPlainC

section TPlainD
open PySem PySem.W PyProof.Rows
set_option Elab.async false
set_option maxRecDepth 100000
set_option maxHeartbeats 400000
namespace Mine
open PySem PySem.W PySem.Calls PyProof.Rows PySem.NumText

theorem tell_digits {r : List Nat} (hne : r ≠ []) (h : r.all isDig = true) : U [] r = [.n 100, .n (valN r)] := by
  have := U_same 2 (by decide) r [] [] (fun c hc => kind_dig (List.all_eq_true.mp h c hc)) (fun d t e => nomatch e)
  rw [List.append_nil, List.nil_append, U_nil] at this
  rw [this]
  cases r with
  | nil => exact absurd rfl hne
  | cons c t =>
    have hc : kindN c = 2 := kind_dig (List.all_eq_true.mp h c (by simp))
    simp only [runTold, hc]
    rfl
theorem tell_sign (p : List Nat) : U [] p = U [] (sign p).2 := by
  unfold sign
  split
  · rw [U_start, if_neg (by decide)]
  · rw [U_start, if_neg (by decide)]
  · rfl
theorem digits_lt : ∀ (r : List Nat) (a : Nat), r.all isDig = true → r.foldl (fun acc c => acc * 10 + (c - 48)) a < (a + 1) * 10 ^ r.length
  | [], a, _ => by simp
  | c :: r, a, h => by
    simp only [List.all_cons, Bool.and_eq_true] at h
    have hc : c ≤ 57 := by have := h.1; unfold isDig at this; simp at this; exact this.2
    have ih := digits_lt r (a * 10 + (c - 48)) h.2
    rw [List.foldl_cons, List.length_cons]
    refine Nat.lt_of_lt_of_le ih ?_
    rw [Nat.pow_succ, Nat.mul_comm (10 ^ r.length) 10, ← Nat.mul_assoc]
    exact Nat.mul_le_mul_right _ (by omega)
theorem valN_eq {r : List Nat} (h : r.all isDig = true) : valN r = ((digitsVal r : Nat) : Int) := val_digits r 0 h

def numL (m : Nat) : List Nat := (Nat.toDigits 10 m).map Char.toNat
theorem numL_dig (m : Nat) : (numL m).all isDig = true := by
  refine List.all_eq_true.mpr fun c hc => ?_
  obtain ⟨ch, hch, e⟩ := List.mem_map.mp hc
  have r := digit_range (Nat.isDigit_of_mem_toDigits (by decide) (by decide) hch)
  unfold isDig
  rw [← e]
  simp
  exact r
theorem numL_ne (m : Nat) : numL m ≠ [] := by
  intro e
  have h := toDigits_len_ge 10 m
  rw [List.map_eq_nil_iff.mp e] at h
  exact absurd h (by decide)
theorem numL_val (m : Nat) : valN (numL m) = (m : Int) := by rw [valN_eq (numL_dig m)]; exact congrArg _ (KIN.val_back m)
theorem numL_len {m k : Nat} (hk : 0 < k) (h : m < 10 ^ k) : (numL m).length ≤ k := by
  unfold numL
  rw [List.length_map]
  exact (Nat.length_toDigits_le_iff (by decide) hk).mpr h
theorem neg_text {m : Nat} (h : 0 < m) : (Str.ofString (toString (-(m : Int)))).cps.toList = 45 :: numL m := by
  obtain ⟨k, rfl⟩ : ∃ k, m = k + 1 := ⟨m - 1, by omega⟩
  rw [signs_ofString]
  show (("-" ++ Nat.repr (k + 1)).toList).map Char.toNat = _
  rw [String.toList_append, List.map_append, Nat.toList_repr]
  rfl
theorem pos_text (m : Nat) : (Str.ofString (toString (m : Int))).cps.toList = numL m := KIN.signs_num m

/-- what norming does to one part -/
structure ConvLaw (p q : List Nat) : Prop where
  tell : U [] q = U [] p
  ok : OkText q
  len : q.length ≤ p.length + 1
theorem conv_law {p q : List Nat} (hok : OkText p) (hl : p.length ≤ 640) (h : conv p = some q) : ConvLaw p q ∧ ∀ n, PySem.intText? (St p) = some n → n.natAbs < 10 ^ p.length := by
  unfold conv at h
  rw [intText_ok hok hl] at h ⊢
  by_cases hq : (sign p).2.all isDig = true ∧ (sign p).2 ≠ []
  · rw [if_pos hq] at h ⊢
    have hv := valN_eq hq.1
    have hlt := digits_lt (sign p).2 0 hq.1
    have hle := sign_length p
    have hlen0 : 0 < (sign p).2.length := List.length_pos_iff.mpr hq.2
    have hlt' : digitsVal (sign p).2 < 10 ^ (sign p).2.length := by rw [Nat.zero_add, Nat.one_mul] at hlt; exact hlt
    have hpow : 10 ^ (sign p).2.length ≤ 10 ^ p.length := Nat.pow_le_pow_right (by decide) hle
    have hnl := numL_len hlen0 hlt'
    have hnok : OkText (numL (digitsVal (sign p).2)) := fun c hc => by unfold alpha; rw [List.all_eq_true.mp (numL_dig _) c hc]; rfl
    have hp : U [] p = [.n 100, .n (valN (sign p).2)] := by rw [tell_sign, tell_digits hq.2 hq.1]
    have ht : U [] (numL (digitsVal (sign p).2)) = U [] p := by rw [tell_digits (numL_ne _) (numL_dig _), numL_val, hp, hv]
    have e : (Str.ofString (toString (if (sign p).1 = true then -(valN (sign p).2) else valN (sign p).2))).cps.toList = q := Option.some.inj h
    refine ⟨?_, fun n hn => ?_⟩
    · by_cases hs : (sign p).1 = true ∧ 0 < digitsVal (sign p).2
      · rw [if_pos hs.1, hv, neg_text hs.2] at e
        rw [← e]
        exact ⟨by rw [U_start, if_neg (by decide)]; exact ht, fun c hc => by rcases List.mem_cons.mp hc with rfl | hc; decide; exact hnok c hc, by rw [List.length_cons]; omega⟩
      · have : (if (sign p).1 = true then -(valN (sign p).2) else valN (sign p).2) = ((digitsVal (sign p).2 : Nat) : Int) := by
          rw [hv]
          split
          · rename_i h1
            have : digitsVal (sign p).2 = 0 := by
              apply Classical.byContradiction
              intro h2
              exact hs ⟨h1, by omega⟩
            rw [this]; rfl
          · rfl
        rw [this, pos_text] at e
        rw [← e]
        exact ⟨ht, hnok, by omega⟩
    · have e2 := Option.some.inj hn
      rw [← e2, hv]
      split <;> simp <;> omega
  · rw [if_neg hq] at h; cases h
end Mine

end TPlainD

section TPlainE
open PySem PySem.W PyProof.Rows
set_option Elab.async false
set_option maxRecDepth 100000
set_option maxHeartbeats 400000
namespace Mine
open PySem PySem.W PySem.Calls PyProof.Rows PySem.NumText

theorem pst_mem (l : List Nat) : (∀ p ∈ (pst l).1, ∀ c ∈ p, c ∈ l) ∧ ∀ c ∈ (pst l).2, c ∈ l := by
  induction l using snocInd with
  | h0 => simp [pst]
  | hs l c ih =>
    rw [pst_snoc]; unfold pstep
    split
    · refine ⟨fun p hp x hx => ?_, fun x hx => nomatch hx⟩
      simp only [List.mem_append, List.mem_singleton] at hp
      rcases hp with hp | rfl
      · exact List.mem_append_left _ (ih.1 p hp x hx)
      · exact List.mem_append_left _ (ih.2 x hx)
    · refine ⟨fun p hp x hx => List.mem_append_left _ (ih.1 p hp x hx), fun x hx => ?_⟩
      rcases List.mem_append.mp hx with hx | hx
      · exact List.mem_append_left _ (ih.2 x hx)
      · exact List.mem_append_right _ hx
theorem split_ok {v : List Nat} (h : OkText v) : ∀ p ∈ splitDots v, OkText p ∧ p.length ≤ v.length := by
  intro p hp
  unfold splitDots at hp
  rcases List.mem_append.mp hp with hp | hp
  · exact ⟨fun c hc => h c ((pst_mem v).1 p hp c hc), pst_parts v p hp⟩
  · rw [List.mem_singleton.mp hp]
    exact ⟨fun c hc => h c ((pst_mem v).2 c hc), pst_cur v⟩
theorem parts_ok {v b : List Nat} (h1 : OkText v) (h2 : OkText b) (l1 : v.length ≤ 70) (l2 : b.length ≤ 70) : ∀ p ∈ partsOf v b, OkText p ∧ p.length ≤ 70 := by
  intro p hp
  unfold partsOf at hp
  rcases List.mem_append.mp hp with hp | hp
  · have := split_ok h1 p hp
    exact ⟨this.1, by omega⟩
  · split at hp
    · cases hp
    · rw [List.mem_singleton.mp hp]; exact ⟨h2, l2⟩
theorem join_ok : ∀ {ps : List (List Nat)} {n : Nat}, (∀ p ∈ ps, OkText p ∧ p.length ≤ n) → OkText (joinDots ps) ∧ (joinDots ps).length ≤ ps.length * (n + 1)
  | [], _, _ => by
    refine ⟨fun c h => ?_, ?_⟩
    · cases h
    · exact Nat.zero_le _
  | [x], n, h => by
    have := h x (by simp)
    refine ⟨this.1, ?_⟩
    show x.length ≤ 1 * (n + 1)
    omega
  | x :: y :: r, n, h => by
    have ih := join_ok (ps := y :: r) (n := n) fun p hp => h p (List.mem_cons_of_mem _ hp)
    have hx := h x (by simp)
    show OkText (x ++ 46 :: joinDots (y :: r)) ∧ (x ++ 46 :: joinDots (y :: r)).length ≤ _
    refine ⟨fun c hc => ?_, ?_⟩
    · rcases List.mem_append.mp hc with hc | hc
      · exact hx.1 c hc
      · rcases List.mem_cons.mp hc with rfl | hc
        · decide
        · exact ih.1 c hc
    · rw [List.length_append, List.length_cons, List.length_cons, Nat.succ_mul]
      have := ih.2
      omega
theorem slc_mem {l : List Nat} {a b c : Nat} (h : c ∈ slc l a b) : c ∈ l := by unfold slc at h; exact List.mem_of_mem_drop (List.mem_of_mem_take h)
theorem slc_len (l : List Nat) (a b : Nat) : (slc l a b).length ≤ l.length := by unfold slc; simp; omega
theorem splitRe_mem (l : List Nat) : ∀ (k s : Nat), ∀ p ∈ splitRe l k s, p.length ≤ l.length ∧ ∀ c ∈ p, c ∈ l
  | 0, s, p, hp => by
    simp [splitRe] at hp; subst hp; exact ⟨slc_len _ _ _, fun c hc => slc_mem hc⟩
  | k + 1, s, p, hp => by
    cases hf : findRe l (l.length - s) s with
    | none =>
      rw [splitRe_none hf] at hp
      rw [List.mem_singleton.mp hp]; exact ⟨slc_len _ _ _, fun c hc => slc_mem hc⟩
    | some q =>
      obtain ⟨b, e⟩ := q
      rw [splitRe_some hf] at hp
      rcases List.mem_cons.mp hp with rfl | hp
      · exact ⟨slc_len _ _ _, fun c hc => slc_mem hc⟩
      · rcases List.mem_cons.mp hp with rfl | hp
        · exact ⟨slc_len _ _ _, fun c hc => slc_mem hc⟩
        · exact splitRe_mem l k e p hp
theorem mapM_tell : ∀ {ps qs : List (List Nat)}, ps.mapM conv = some qs → (∀ p ∈ ps, OkText p ∧ p.length ≤ 640) → ∀ n, (qs.take n).flatMap tellPart = (ps.take n).flatMap tellPart
  | [], qs, h, _, n => by
    have : qs = [] := (Option.some.inj h).symm
    subst this; rfl
  | p :: r, qs, h, hp, n => by
    rw [mapM_cons] at h
    cases hc : conv p with
    | none => rw [hc] at h; cases h
    | some q =>
      rw [hc] at h
      cases hr : r.mapM conv with
      | none => rw [hr] at h; cases h
      | some rs =>
        rw [hr] at h
        have : qs = q :: rs := (Option.some.inj h).symm
        subst this
        cases n with
        | zero => rfl
        | succ n =>
          have hpp := hp p (by simp)
          rw [List.take_succ_cons, List.take_succ_cons, List.flatMap_cons, List.flatMap_cons, mapM_tell hr (fun x hx => hp x (List.mem_cons_of_mem _ hx)) n, tellPart_U, tellPart_U, (conv_law hpp.1 hpp.2 hc).1.tell]
theorem runTold_mem {run x : List Nat} (h : Dt.s x ∈ runTold run) : x = run := by
  cases run with
  | nil => cases h
  | cons c r =>
    simp only [runTold] at h
    split at h
    · simpa using h
    · simp at h
theorem U_mem : ∀ (l run x : List Nat), Dt.s x ∈ U run l → ∀ c ∈ x, c ∈ run ∨ c ∈ l
  | [], run, x, h, c, hc => by
    rw [U_nil] at h
    rw [runTold_mem h] at hc; exact .inl hc
  | d :: l, [], x, h, c, hc => by
    rw [U_start] at h
    split at h
    · rcases U_mem l [d] x h c hc with q | q
      · simp at q; exact .inr (by simp [q])
      · exact .inr (List.mem_cons_of_mem _ q)
    · rcases U_mem l [] x h c hc with q | q
      · cases q
      · exact .inr (List.mem_cons_of_mem _ q)
  | d :: l, e :: r, x, h, c, hc => by
    rw [U_run] at h
    split at h
    · rcases List.mem_append.mp h with h | h
      · rw [runTold_mem h] at hc; exact .inl hc
      · split at h
        · rcases U_mem l [d] x h c hc with q | q
          · simp at q; exact .inr (by simp [q])
          · exact .inr (List.mem_cons_of_mem _ q)
        · rcases U_mem l [] x h c hc with q | q
          · cases q
          · exact .inr (List.mem_cons_of_mem _ q)
    · split at h
      · rcases U_mem l (e :: r ++ [d]) x h c hc with q | q
        · rcases List.mem_append.mp q with q | q
          · exact .inl q
          · simp at q; exact .inr (by simp [q])
        · exact .inr (List.mem_cons_of_mem _ q)
      · rcases U_mem l (e :: r) x h c hc with q | q
        · exact .inl q
        · exact .inr (List.mem_cons_of_mem _ q)
theorem alpha_lt {c : Nat} (h : alpha c = true) : c < 128 := by have := alpha_cases h; omega
theorem repr_small {p : List Nat} (h : OkText p) (hl : p.length ≤ 640) : (reprText (St p)).length ≤ 100000 := by
  have := StrLaws.reprText_len (St p) fun c hc => by
    have h1 := alpha_lt (h c (by simpa using hc))
    have h2 : (128 : Nat) < 16 ^ 8 := by decide
    omega
  have e : (St p).length = p.length := St_length p
  exact Nat.le_trans this (by omega)
theorem pow_small : (10 : Nat) ^ 70 < 2 ^ 1920 := by decide +kernel
theorem plain_law : PlainLaw := by
  intro v b h1 h2 l1 l2
  have hP := parts_ok h1 h2 l1 l2
  have hS : ∀ q ∈ ((partsOf v b).mapM conv).getD (partsOf v b), OkText q ∧ q.length ≤ 71 := by
    intro q hq
    cases hm : (partsOf v b).mapM conv with
    | none => rw [hm] at hq; have := hP q hq; exact ⟨this.1, by omega⟩
    | some qs =>
      rw [hm] at hq
      obtain ⟨p, hp, hc⟩ := (mapM_some hm).2 q hq
      have hpp := hP p hp
      have := (conv_law hpp.1 (by omega) hc).1
      exact ⟨this.ok, by have := this.len; omega⟩
  have hJ := join_ok (ps := (((partsOf v b).mapM conv).getD (partsOf v b)).take 3) (n := 71) fun p hp => hS p (List.mem_of_mem_take hp)
  have h3 : ((((partsOf v b).mapM conv).getD (partsOf v b)).take 3).length ≤ 3 := by rw [List.length_take]; omega
  have hN : OkText (normTold v b) ∧ (normTold v b).length ≤ 216 := ⟨hJ.1, Nat.le_trans hJ.2 (by omega)⟩
  refine ⟨by omega, by omega, fun p hp => ?_, by omega, fun p hp => ?_, ?_, ?_⟩
  · have hpp := hP p hp
    refine ⟨⟨by omega, repr_small hpp.1 (by omega), fun n hn => ?_⟩, fun q hq => ?_⟩
    · have hc : conv p = some (Str.ofString (toString n)).cps.toList := by unfold conv; rw [hn]; rfl
      have hlt := (conv_law hpp.1 (by omega) hc).2 n hn
      have hle : (10 : Nat) ^ p.length ≤ 10 ^ 70 := Nat.pow_le_pow_right (by decide) hpp.2
      by_cases h0 : n.natAbs = 0
      · rw [h0]; decide
      · rw [Nat.log2_lt h0]
        have := pow_small
        omega
    · have := (conv_law hpp.1 (by omega) hq).1.len
      omega
  · have hm := splitRe_mem _ _ _ p hp
    have hok : OkText p := fun c hc => hN.1 c (hm.2 c hc)
    exact ⟨by omega, repr_small hok (by omega)⟩
  · unfold compTold
    rw [comp_U tok_law (normTold v b) hN.1 (by omega) _ 0 (Nat.zero_le _) (by omega), List.drop_zero]
    show U [] (joinDots ((((partsOf v b).mapM conv).getD (partsOf v b)).take 3)) = ((partsOf v b).take 3).flatMap tellPart
    rw [tell_join]
    cases hm : (partsOf v b).mapM conv with
    | none => rfl
    | some qs => exact mapM_tell hm (fun p hp => ⟨(hP p hp).1, by have := (hP p hp).2; omega⟩) 3
  · intro x hx c hc
    have hx' : Dt.s x ∈ ((partsOf v b).take 3).flatMap tellPart := hx
    obtain ⟨p, hp, hxp⟩ := List.mem_flatMap.mp hx'
    rw [tellPart_U] at hxp
    rcases U_mem p [] x hxp c hc with q | q
    · cases q
    · exact alpha_lt ((hP p (List.mem_of_mem_take hp)).1 c q)
end Mine

end TPlainE

theorem PySem.Challenge.cw_mg0079_01_holds : PySem.Challenge.rw_mg0079_01.Holds :=
  Mine.top_of (Mine.law_goal Mine.plain_law)
