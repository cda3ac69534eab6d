import PyProof.Rows.All
import Wide.All
import OpenK.AllK
import Wide.FinOn
import PySem.Challenge.RW_pg0074_01
set_option Elab.async false
section
open PySem PySem.W PyProof.Rows
set_option Elab.async false
set_option maxRecDepth 100000
set_option maxHeartbeats 0
namespace Mine
open_top hd for PySem.Challenge.rw_pg0074_01
end Mine
end

section
open PySem PySem.W PySem.Calls PyProof.Rows
set_option Elab.async false
set_option maxRecDepth 100000
set_option maxHeartbeats 0
namespace Mine
noncomputable abbrev PR : Program := Challenge.rw_pg0074_01.row.prog
noncomputable abbrev KF (w : World) : Frag := hd.heap_39 w.params
noncomputable abbrev LO : List Str := looseW hd.view_39 [Str.ofString "_twin_re_1", Str.ofString "_twin_re_2"] ++ (recsOf hd.view_39).map (·.name) ++ (litsOf hd.view_39).map (·.1) ++ (clssOf hd.view_39 (looseW hd.view_39 [Str.ofString "_twin_re_1", Str.ofString "_twin_re_2"])).map (·.name)

/-- a call's contract -/
abbrev Spec (lv : Nat) (f : Addr) (w : World) (vs : List Value) (news : List (Addr × Obj)) (Ret : Heap → Addr → Heap → Value → Prop) : Prop :=
  ∀ (mean : ExcName → Option Value) (mg mb : Str → Option Value) (dp un : Nat) (gd : Option (List Code)) (cn : Str) (cs : Scope) (a : Addr) (ccd : Value) (cl : List (Str × Addr)) (outer : List Env) (A₀ : Around) (base h₀ : Heap) (L : Addr) (m : Str → Option Value) (s : Shared) (Q E : Value → Shared → Prop),
    Below A₀ base outer h₀ → Fr h₀ L s.heap m → (KF w).In h₀ → News h₀ L s.heap news → Top topProg LO mean mg mb h₀ → cs.kind = .function →
    dp + lv < recursionLimit → un + 20 * lv + 20 < cLine →
    (∀ v h' tk', Fr h₀ L h' m → Ret h₀ L h' v → Q v { s with heap := h', toks := tk' }) →
      wpAny (model PR w) (ktrTop dp un gd cn cs L a ccd cl outer) (call (.ref f) vs) Q E s

theorem allLt_mem {d : Nat} {l : List (Addr × Obj)} (h : AllLt d l) : ∀ p ∈ l, p.1 < d := by
  induction l with
  | nil => intro p hp; cases hp
  | cons q r ih =>
    intro p hp
    rcases List.mem_cons.mp hp with e | e
    · rw [e]; exact h.1
    · exact ih h.2 p e
theorem allLt_ne {d a : Nat} {l : List (Addr × Obj)} (h : AllLt d l) (hd : d ≤ a) : ∀ p ∈ l, p.1 ≠ a :=
  fun p hp => Nat.ne_of_lt (Nat.lt_of_lt_of_le (allLt_mem h p hp) hd)

theorem all_ne {d a : Nat} {l : List (Addr × Obj)} (h : ∀ p ∈ l, p.1 < d) (hd : d ≤ a) : ∀ p ∈ l, p.1 ≠ a :=
  fun p hp => Nat.ne_of_lt (Nat.lt_of_lt_of_le (h p hp) hd)

/-- as the library's, with the ledger's place told -/
theorem code_defL {prog : Program} {w : World} {A A₀ : Around} {s : Shared} {K : Frag} {L : Addr} {h₀ base : Heap} {m mg mb : Str → Option Value} {news : List (Addr × Obj)} {p : Program} {loose : List Str} {mean : ExcName → Option Value}
    {env : Env} {outer : List Env} {R : Result → Shared → Prop} {name qual : Str} {params : Arguments} {body : List Stmt} {scope : Scope} {dV kV doc pm cdv ct oc : Value} {an od : Option Addr} {osl : Array (Option Value)} {f : Addr} {args : Args} {binds : List (Str × Value)}
    (B : Below A₀ base outer h₀) (F : Fr h₀ L s.heap m) (X₀ : K.In h₀) (N : News h₀ L s.heap news) (T : Top p loose mean mg mb h₀) (hA : A.frames = some (env :: outer)) (hf : env.frame = some L) (hke : env.scope.kind = .function)
    (ho : K.lookup f = some ⟨oc, od, .func (fnOf name qual params body scope dV kV doc pm an cdv ct), osl⟩) (hcd : codeIn K cdv qual = true) (hroom : A.depth < recursionLimit)
    (hbind : BindsTo s (fnOf name qual params body scope dV kV doc pm an cdv ct) args binds) (hloc : ∀ y ∈ binds, scope.names.lookup y.1 = some .local)
    (h : ∀ g L' h₁, Fr h₀ L g m → Fr g L' h₁ (fun y => binds.reverse.lookup y) → News g L' h₁ news → Below A base (env :: outer) g → K.In g → Top p loose mean mg mb g → (∀ p ∈ news, p.1 < L') →
      wpAny (model prog w) (A.deeper (envOf qual scope L' f cdv)) (execs body (envOf qual scope L' f cdv))
        (fun fl s' => LeaveK h₀ L m g R (match fl with | .ret v => v | _ => .none) s')
        (fun e s' => wpAny (model prog w) (A.deeper (envOf qual scope L' f cdv)) (leaving (envOf qual scope L' f cdv) e) (fun _ s'' => R (.error e) s'') (fun e' s'' => R (.error e') s'') s')
        { s with heap := h₁, toks := s.toks + binds.length })
    (hco : scope.isCoroutine = false) (hgen : scope.isGenerator = false) (hk : scope.kind = .function)
    (hcell : ∀ x ∈ scope.names, x.2 ≠ .cell) : codeAny (model prog w) A (.call (.ref f) args) R s :=
  callX_plain (cl := []) B F N T.nolimit hA hf hke ((X₀.keeps F.keep) _ _ ho) rfl (codeRec_of (X₀.keeps F.keep) hcd) hroom hbind hloc (fun g L' h₁ FG F' N' B' st l => h g L' h₁ FG F' N' B' (X₀.keeps st) (T.keeps st) l) hcell hco hgen hk
/-- a call that leaves all that stood as it stood -/
abbrev PSpec (lv : Nat) (f : Addr) (w : World) (vs : List Value) (Ret : Heap → Heap → Value → Prop) : Prop :=
  ∀ (mean : ExcName → Option Value) (mg mb : Str → Option Value) (dp un : Nat) (gd : Option (List Code)) (cn : Str) (cs : Scope) (a : Addr) (ccd : Value) (cl : List (Str × Addr)) (outer : List Env) (A₀ : Around) (base h₀ : Heap) (L : Addr) (m : Str → Option Value) (s : Shared) (Q E : Value → Shared → Prop),
    Below A₀ base outer h₀ → Fr h₀ L s.heap m → (KF w).In h₀ → Top topProg LO mean mg mb h₀ → cs.kind = .function →
    dp + lv < recursionLimit → un + 20 * lv + 20 < cLine →
    (∀ v h' tk', (∀ b o, s.heap.get? b = some o → h'.get? b = some o) → Ret s.heap h' v → Q v { s with heap := h', toks := tk' }) →
      wpAny (model PR w) (ktrTop dp un gd cn cs L a ccd cl outer) (call (.ref f) vs) Q E s

section
variable {prog : Program} {w : World} {A A₀ : Around} {s : Shared} {K : Frag} {L : Addr} {h₀ base : Heap} {m mg mb : Str → Option Value} {p : Program} {loose : List Str} {mean : ExcName → Option Value}
    {env : Env} {outer : List Env} {R : Result → Shared → Prop} {name qual : Str} {params : Arguments} {body : List Stmt} {scope : Scope} {dV kV doc pm cdv ct oc : Value} {an od : Option Addr} {osl : Array (Option Value)} {f : Addr} {args : Args} {binds : List (Str × Value)}
theorem code_defP
    (B : Below A₀ base outer h₀) (F : Fr h₀ L s.heap m) (X₀ : K.In h₀) (T : Top p loose mean mg mb h₀) (hA : A.frames = some (env :: outer)) (hf : env.frame = some L) (hke : env.scope.kind = .function)
    (ho : K.lookup f = some ⟨oc, od, .func (fnOf name qual params body scope dV kV doc pm an cdv ct), osl⟩) (hcd : codeIn K cdv qual = true) (hroom : A.depth < recursionLimit)
    (hbind : BindsTo s (fnOf name qual params body scope dV kV doc pm an cdv ct) args binds) (hloc : ∀ y ∈ binds, scope.names.lookup y.1 = some .local)
    (h : ∀ g L' h₁, s.heap = g → Fr h₀ L g m → Fr g L' h₁ (fun y => binds.reverse.lookup y) → News g L' h₁ [] → Below A base (env :: outer) g → K.In g → Top p loose mean mg mb g →
      wpAny (model prog w) (A.deeper (envOf qual scope L' f cdv)) (execs body (envOf qual scope L' f cdv))
        (fun fl s' => LeaveK h₀ L m g R (match fl with | .ret v => v | _ => .none) s')
        (fun e s' => wpAny (model prog w) (A.deeper (envOf qual scope L' f cdv)) (leaving (envOf qual scope L' f cdv) e) (fun _ s'' => R (.error e) s'') (fun e' s'' => R (.error e') s'') s')
        { s with heap := h₁, toks := s.toks + binds.length })
    (hco : scope.isCoroutine = false) (hgen : scope.isGenerator = false) (hk : scope.kind = .function)
    (hcell : ∀ x ∈ scope.names, x.2 ≠ .cell) : codeAny (model prog w) A (.call (.ref f) args) R s := by
  obtain ⟨FG, BG, st, lv⟩ := groundX (news := []) (R := R) B F News.nil hA hf hke
  refine codeAny_call_def (fd := fnX name qual params body scope [] dV kV doc pm an cdv ct) (body := body) (binds := binds) hroom ((X₀.keeps F.keep) _ _ ho) rfl (T.nolimit.keeps F.keep) (codeRec_of (X₀.keeps F.keep) hcd) rfl hbind hcell hloc (fun h₁ hns hk₁ => ?_) hco hgen hk
  exact wpAny_mono (h s.heap s.heap.objs.size h₁ rfl FG ⟨hns, hk₁, Nat.le_refl _⟩ News.nil BG (X₀.keeps F.keep) (T.keeps F.keep)) (fun fl s' hl => lv _ _ hl) fun _ _ y => y

theorem code_defCP
    (B : Below A₀ base outer h₀) (F : Fr h₀ L s.heap m) (X₀ : K.In h₀) (T : Top p loose mean mg mb h₀) (hA : A.frames = some (env :: outer)) (hf : env.frame = some L) (hke : env.scope.kind = .function)
    (ho : K.lookup f = some ⟨oc, od, .func (fnOf name qual params body scope dV kV doc pm an cdv ct), osl⟩) (hcd : codeIn K cdv qual = true) (hroom : A.depth < recursionLimit)
    (hbind : BindsTo s (fnOf name qual params body scope dV kV doc pm an cdv ct) args binds) (hkind : (binds.all fun y => scope.names.lookup y.1 == some .local || scope.names.lookup y.1 == some .cell) = true)
    (hnd : ((cellsFrom 0 scope.names []).map (·.1)).Nodup)
    (h : ∀ g L' h₁ tk cells, s.heap = g → Fr h₀ L g m → Fr g L' h₁ (bindL (envOfC qual scope L' f cdv).kindOf binds fun _ => none) → News g L' h₁ (cells ++ []) →
      CellsAre (bindC (envOfC qual scope L' f cdv).kindOf binds fun _ => none) (cellsFrom (L' + 1) scope.names []) cells → Below A base (env :: outer) g → K.In g → Top p loose mean mg mb g →
      wpAny (model prog w) (A.deeper (envOfC qual scope L' f cdv)) (execs body (envOfC qual scope L' f cdv))
        (fun fl s' => LeaveK h₀ L m g R (match fl with | .ret v => v | _ => .none) s')
        (fun e s' => wpAny (model prog w) (A.deeper (envOfC qual scope L' f cdv)) (leaving (envOfC qual scope L' f cdv) e) (fun _ s'' => R (.error e) s'') (fun e' s'' => R (.error e') s'') s')
        { s with heap := h₁, toks := tk })
    (hco : scope.isCoroutine = false) (hgen : scope.isGenerator = false) (hk : scope.kind = .function) : codeAny (model prog w) A (.call (.ref f) args) R s := by
  obtain ⟨FG, BG, st, lv⟩ := groundX (news := []) (R := R) B F News.nil hA hf hke
  refine codeAny_call_function hroom ((X₀.keeps F.keep) _ _ ho) rfl hco hgen rfl (codeRec_of (X₀.keeps F.keep) hcd) (hbind _ _ _ _ ?_)
  refine wpAny_newFunctionEnv_cells hk (kindsX hkind _) fun env' he s' x => ?_
  subst he
  refine ⟨(T.nolimit.keeps F.keep).keeps x.toInCall.keep, codeAny_func ?_⟩
  obtain ⟨h₁, tk, rfl, _⟩ := x.done
  have hk₁ := x.toInCall.keep
  obtain ⟨cells, NC, Y⟩ := Cl.news (h₀ := s.heap) (Nat.le_refl _) fun n c hm => ⟨x.cell n c (lookup_of_mem_nodup (cellsFrom_names scope.names 0 (s.heap.objs.size + 1) [] [] rfl ▸ hnd) hm), x.above n c hm⟩
  refine wpAny_mono (h s.heap s.heap.objs.size h₁ tk cells rfl FG ⟨x.toInCall.ns, hk₁, Nat.le_refl _⟩ (fun p hp => ?_) Y BG (X₀.keeps F.keep) (T.keeps F.keep)) (fun fl s' hl => lv _ _ hl) fun _ _ y => y
  rcases List.mem_append.mp hp with hp | hp
  · exact ⟨(NC p hp).1, (NC p hp).2.1, (NC p hp).2.2⟩
  · cases hp
theorem news_add {h h' : Heap} {news : List (Addr × Obj)} {D : Addr} {o : Obj} (F : Fr h₀ L h m) (N : News h₀ L h news) (hk : ∀ b o, h.get? b = some o → h'.get? b = some o) (hD : h'.get? D = some o) (hn : h.get? D = none) :
    News h₀ L h' ((D, o) :: news) := fun q hq => by
  rcases List.mem_cons.mp hq with rfl | hq
  · refine ⟨hD, fun e => ?_, ?_⟩
    · obtain ⟨oL, _, _, hL, _⟩ := F.ns
      have e' : D = L := e
      rw [← e', hn] at hL; cases hL
    · cases e : h₀.get? D with
      | none => rfl
      | some o' => have := F.keep D o' e; rw [hn] at this; cases this
  · exact ⟨hk _ _ (N q hq).1, (N q hq).2⟩
theorem news_off {h : Heap} {D : Addr} (hn : h.get? D = none) : ∀ {news : List (Addr × Obj)}, News h₀ L h news → LCg.Off1 D news
  | [], _ => trivial
  | p :: r, N => by
    refine ⟨fun e => ?_, news_off hn fun q hq => N q (.tail _ hq)⟩
    have h1 := (N p (.head _)).1
    have e' : p.1 = D := e
    rw [e', hn] at h1
    cases h1
theorem news_lt {h : Heap} {news : List (Addr × Obj)} {D : Addr} (N : News h₀ L h news) (hn : h.objs.size ≤ D) : ∀ p ∈ news, p.1 < D := fun p hp => Nat.lt_of_lt_of_le (Heap.lt_size (N p hp).1) hn
end
end Mine
end

section
open PySem PySem.W PySem.Calls PyProof.Rows
set_option Elab.async false
set_option maxRecDepth 100000
set_option maxHeartbeats 2000000
namespace Mine
/-- r sixths of the wheel, as the division says it -/
def hue (r : Int) : UInt64 := Float64.ofFrac (decide (r < 0) != decide ((6 : Int) < 0)) r.natAbs (Int.natAbs 6)
def one64 : UInt64 := 4607182418800017408
/-- the colour's parts: 1.0 or 0.0 -/
def rgb (r : Int) : UInt64 × UInt64 × UInt64 :=
  if r = 0 then (one64, 0, 0) else if r = 1 then (one64, one64, 0) else if r = 2 then (0, one64, 0) else if r = 3 then (0, one64, one64) else if r = 4 then (0, 0, one64) else (one64, 0, one64)
theorem six_cases {r : Int} (h0 : 0 ≤ r) (h6 : r < 6) : r = 0 ∨ r = 1 ∨ r = 2 ∨ r = 3 ∨ r = 4 ∨ r = 5 := by
  obtain ⟨n, rfl⟩ := Int.eq_ofNat_of_zero_le h0
  exact (by decide : ∀ d : Fin 6, (d.1 : Int) = 0 ∨ (d.1 : Int) = 1 ∨ (d.1 : Int) = 2 ∨ (d.1 : Int) = 3 ∨ (d.1 : Int) = 4 ∨ (d.1 : Int) = 5) ⟨n, Int.ofNat_lt.mp h6⟩
theorem hue_nan {r : Int} (h0 : 0 ≤ r) (h6 : r < 6) : Float64.isNaN (Float64.mul (hue r) 4618441417868443648) = false := by
  rcases six_cases h0 h6 with rfl | rfl | rfl | rfl | rfl | rfl <;> decide +kernel
theorem hue_inf {r : Int} (h0 : 0 ≤ r) (h6 : r < 6) : Float64.isInf (Float64.mul (hue r) 4618441417868443648) = false := by
  rcases six_cases h0 h6 with rfl | rfl | rfl | rfl | rfl | rfl <;> decide +kernel
theorem hue_int {r : Int} (h0 : 0 ≤ r) (h6 : r < 6) : Flt.toInt Float64.truncOf (Float64.mul (hue r) 4618441417868443648) = r := by
  rcases six_cases h0 h6 with rfl | rfl | rfl | rfl | rfl | rfl <;> decide +kernel
theorem hue_big {r : Int} (h0 : 0 ≤ r) (h6 : r < 6) : ¬ (2 ^ 1024 - 2 ^ 970 ≤ (Flt.toInt Float64.truncOf (Float64.mul (hue r) 4618441417868443648)).natAbs) := by
  rw [hue_int h0 h6]
  have h1 : r.natAbs < 6 := by omega
  have h2 : 6 ≤ 2 ^ 1024 - 2 ^ 970 := by decide +kernel
  exact fun h => absurd (Nat.lt_of_lt_of_le (Nat.lt_of_lt_of_le h1 h2) h) (Nat.lt_irrefl _)
theorem hue_mod {r : Int} (h0 : 0 ≤ r) (h6 : r < 6) : (Flt.toInt Float64.truncOf (Float64.mul (hue r) 4618441417868443648)).fmod 6 = r := by
  rw [hue_int h0 h6]; rcases six_cases h0 h6 with rfl | rfl | rfl | rfl | rfl | rfl <;> rfl

theorem hsv_spec (w : World) (r : Int) (h0 : 0 ≤ r) (h6 : r < 6) (t1 t2 t3 : Tok) :
    PSpec 1 80 w [.float (hue r) t1, .float 4607182418800017408 t2, .float 4607182418800017408 t3]
      (fun h h' v => ∃ D x y z tx ty tz, v = .ref D ∧ h'.get? D = some { cls := .type "tuple", data := .seq #[.float x tx, .float y ty, .float z tz] } ∧ h.get? D = none ∧ x = (rgb r).1 ∧ y = (rgb r).2.1 ∧ z = (rgb r).2.2) := by
  have e1 := hue_nan h0 h6
  have e2 := hue_inf h0 h6
  have e3 := hue_big h0 h6
  have e4 := hue_mod h0 h6
  generalize hhb : hue r = hb at *
  unfold PSpec PR KF LO
  k_fill
  intro mean mg mb dp un gd cn scp a ccd cl outer A₀ base h₀ L m s Q E B F X T hk hroom hunits hret
  refine wpAny_call ?_
  k_dflt (refine' code_defP ?k1 ?k2 ?k3 ?k5 ?kA ?kF ?kK ?k6 ?k7 ?k8 ?k9 ?kB ?_ ?c2 ?c3 ?c4 ?c5; (case kA => exact rfl); (case kF => exact rfl); (case kK => assumption); (case k1 => k_asm); (case k2 => k_asm); (case k3 => k_asm); (case k5 => k_asm); (case k6 => k_is); (case k7 => k_is); (case k8 => ktr_room); (case k9 => exact BindsTo.of_eq rfl); (case c5 => decide); (case kB => exact locs rfl); (case c2 => exact rfl); (case c3 => exact rfl); (case c4 => exact rfl); k_whole; intro g' L' h' hg' FG' F' N' B' X' T'; (try dsimp only); (try k_lift B'); (try k_fold))
  k_steps
  · exact absurd ‹(Float64.cmp _ _ == _) = true› (by decide +kernel)
  all_goals (first | (exfalso; omega) | (exfalso; simp_all; done) | skip)
  all_goals (
    have hr : r = _ := e4.symm.trans (by assumption)
    subst hr
    subst hhb
    subst hg'
    rename Fr s.heap _ _ _ => F8
    rename News s.heap _ _ _ => N8
    refine hret _ _ _ F8.keep ⟨_, _, _, _, _, _, _, rfl, News.get N8 (by k_mem), News.fresh N8 (by k_mem), ?_, ?_, ?_⟩ <;> decide +kernel)
end Mine
end

section
open PySem PySem.W PySem.Calls PyProof.Rows
set_option Elab.async false
set_option maxRecDepth 100000
set_option maxHeartbeats 2000000
namespace Mine
open PyProof.Rows.LCg
section
variable {prog : Program} {w : World} {A : Around} {E : Value → Shared → Prop} {s : Shared} {h₀ : Heap} {L : Addr} {m : Str → Option Value} {env : Env} {news : List (Addr × Obj)}

/-- what the turn wants: the element, read at two names -/
def EltAt (prog : Program) (w : World) (A : Around) (h₀ : Heap) (L : Addr) (m : Str → Option Value) (env : Env) (elt : PySem.Expr) (a b : Str) (scope : Scope) (cl : List (Str × Addr)) (news : List (Addr × Obj)) (v₁ v₂ : Value) (z : Int) : Prop :=
  ∀ (C : Addr) (oC : Obj) (m₂ : Str → Option Value) (s' : Shared) (E' : Value → Shared → Prop) (Q' : Value → Shared → Prop), NsObj oC m₂ → m₂ a = some v₁ → m₂ b = some v₂ → Fr h₀ L s'.heap m → News h₀ L s'.heap ((C, oC) :: news) → (∀ p ∈ news, p.1 < C) →
    (∀ t tk, Q' (.int z t) { s' with toks := tk }) → wpAny (model prog w) A (eval elt (compEnvC scope cl C env)) Q' E' s'

/-- what the iterable is to be -/
def SrcT (prog : Program) (w : World) (A : Around) (h₀ : Heap) (L : Addr) (m : Str → Option Value) (env : Env) (elt : PySem.Expr) (a b : Str) (scope : Scope) (cl : List (Str × Addr)) (news : List (Addr × Obj)) (f : Nat → Int) (n : Nat) (Q : Value → Shared → Prop) (v : Value) (s₁ : Shared) : Prop :=
  ∃ z fp wr Pt St Mid, v = .ref z ∧ WalksT prog w A z fp wr n Pt St Mid ∧ St 0 s₁.heap ∧ (∀ b ∈ fp, b < s₁.heap.objs.size) ∧
      (∀ b ∈ wr, h₀.get? b = none ∧ b ≠ L ∧ ∀ p ∈ news, p.1 ≠ b) ∧ Fr h₀ L s₁.heap m ∧ News h₀ L s₁.heap news ∧
      (∀ i, i < n → ∀ vals, Pt i vals → ∃ v₁ v₂, vals = #[v₁, v₂] ∧ EltAt prog w A h₀ L m env elt a b scope cl news v₁ v₂ (f i)) ∧
      (∀ D h tk ys, Fr h₀ L h m → News h₀ L h ((D, lst ys) :: news) → (∀ p ∈ news, p.1 < D) → ys.length = n → (∀ j, j < n → ∃ t, ys[j]? = some (.int (f j) t)) → Q (.ref D) { s₁ with heap := h, toks := tk })

theorem comp_T {elt iter : PySem.Expr} {a b : Str} {pa pb tp : Pos} {kk : Nat} {scope : Scope} {cl : List (Str × Addr)} {pos : Pos} {Q : Value → Shared → Prop} {f : Nat → Int} {n : Nat}
    (hclos : closureFor scope env = pure cl) (hcell : ∀ y ∈ scope.names, y.2 ≠ .cell) (hkind : scope.kind = .function)
    (hnames : ∀ y ∈ scope.names, y.2 = .local → scope.names.lookup y.1 = some .local) (hxa : scope.names.lookup a = some .local) (hxb : scope.names.lookup b = some .local) (hab : a ≠ b) (_F₀ : Fr h₀ L s.heap m) (_N₀ : News h₀ L s.heap news) (hh : A.handled = none) (hn : n ≤ sizeLine)
    (h : wpAny (model prog w) A (eval iter env) (SrcT prog w A h₀ L m env elt a b scope cl news f n Q) E s)
    (hs : ∀ x, foldedSetIterable iter env x = pure x := by intro _; rfl) :
    wpAny (model prog w) A (eval (.ListComp elt [⟨.Tuple [.Name a pa, .Name b pb] kk tp, iter, [], 0⟩] scope pos) env) Q E s := by
  rw [eval_ListComp]
  refine wpAny_comprehension_free (use := none) rfl hs hclos hkind hnames (wpAny_mono h (fun xv s₁ h₁ => ?_) fun _ _ e => e)
  obtain ⟨z, fp, wr, Pt, St, Mid, rfl, W, hst, hfp, hwr, F, N, helt, hQ⟩ := h₁
  refine W.self 0 _ _ _ hst ?_
  refine wpAny_newObj_type (wpAny_newFunctionEnv hcell (by intro y hy; simp at hy) (fun h₁ hns₁ hsb₁ => ?_) hkind)
  dsimp only at hns₁ hsb₁ ⊢
  generalize hH2 : s₁.heap.push { cls := .type "list", dict := none, data := .seq ([] : List Value).toArray } = H2 at hns₁ hsb₁ ⊢
  have hC : H2.objs.size = s₁.heap.objs.size + 1 := by rw [← hH2, Heap.size_push]
  have hDC : s₁.heap.objs.size ≠ H2.objs.size := by rw [hC]; exact Nat.ne_of_lt (Nat.lt_succ_self _)
  have below : ∀ b, b < s₁.heap.objs.size → b ≠ H2.objs.size ∧ b ≠ s₁.heap.objs.size := fun b hb => ⟨by rw [hC]; exact Nat.ne_of_lt (Nat.lt_succ_of_lt hb), Nat.ne_of_lt hb⟩
  have hDf : s₁.heap.objs.size ∉ fp := fun hm => Nat.lt_irrefl _ (hfp _ hm)
  have hCf : H2.objs.size ∉ fp := fun hm => by have := hfp _ hm; rw [hC] at this; exact Nat.lt_irrefl _ (Nat.lt_of_succ_lt this)
  have hDw : s₁.heap.objs.size ∉ wr := fun hm => hDf (W.sub _ hm)
  have hCw : H2.objs.size ∉ wr := fun hm => hCf (W.sub _ hm)
  have old : ∀ b o, s₁.heap.get? b = some o → h₁.get? b = some o := fun b o e => hsb₁.extBut b o (below b (Heap.lt_size e)).1 (Heap.get?_push_of_some _ (hH2 ▸ Heap.get?_push_of_some _ e))
  have hacc : h₁.get? s₁.heap.objs.size = some (lst []) := hsb₁.extBut _ _ hDC (Heap.get?_push_of_some _ (hH2 ▸ Heap.get?_push_size _ rfl))
  have hst₁ : St 0 h₁ := W.frame _ _ _ hst fun b _ o e => old b o e
  have fresh₀ : ∀ a, s₁.heap.objs.size ≤ a → h₀.get? a = none := fun a ha => by
    cases e : h₀.get? a with
    | none => rfl
    | some o' => exact absurd (Heap.lt_size (F.keep a o' e)) (Nat.not_lt.mpr ha)
  have hD₀ : h₀.get? s₁.heap.objs.size = none := fresh₀ _ (Nat.le_refl _)
  have hC₀ : h₀.get? H2.objs.size = none := fresh₀ _ (by rw [hC]; exact Nat.le_succ _)
  have hLlt : L < s₁.heap.objs.size := F.ns.lt
  have hDL : s₁.heap.objs.size ≠ L := Ne.symm (below L hLlt).2
  have hCL : H2.objs.size ≠ L := Ne.symm (below L hLlt).1
  have hlt : ∀ p ∈ news, p.1 < s₁.heap.objs.size := fun p hp => Heap.lt_size (N p hp).1
  -- what a change within wr keeps
  have frw : ∀ {g g' : Heap}, Fr h₀ L g m → (∀ b o, b ∉ wr → g.get? b = some o → g'.get? b = some o) → Fr h₀ L g' m := fun {g g'} Fg hk =>
    ⟨Fg.ns.at' fun o e => hk L o (fun hm => (hwr _ hm).2.1 rfl) e, fun b o e => hk b o (fun hm => by rw [(hwr _ hm).1] at e; cases e) (Fg.keep b o e), Fg.above⟩
  have nsw : ∀ {g g' : Heap}, News h₀ L g news → (∀ b o, b ∉ wr → g.get? b = some o → g'.get? b = some o) → News h₀ L g' news := fun {g g'} Ng hk p hp =>
    ⟨hk _ _ (fun hm => (hwr _ hm).2.2 p hp rfl) (Ng p hp).1, (Ng p hp).2⟩
  have loop : ∀ s₃ : Shared, s₃ = { s₁ with heap := h₁, toks := s₁.toks + ([] : List (Str × Value)).length } →
      codeAny (model prog w) A (.compLoop (.ListComp elt [⟨.Tuple [.Name a pa, .Name b pb] kk tp, iter, [], 0⟩] scope pos) 0 (.ref z) (.ref s₁.heap.objs.size) (compEnvC scope cl H2.objs.size env))
        (compPost (model prog w) A E none Q (.ref s₁.heap.objs.size) H2.objs.size) s₃ := by
    rintro s₃ rfl
    refine kcp_loop
      (fun k s' => ∃ h' tk i ys m', s' = { s₁ with heap := h', toks := tk } ∧ i ≤ n ∧ k = n + 1 - i ∧ ys.length = i ∧ (∀ j, j < i → ∃ t, ys[j]? = some (.int (f j) t)) ∧ St i h' ∧ Fr h₀ L h' m ∧ h'.Ns H2.objs.size m' ∧ News h₀ L h' news ∧ h'.get? s₁.heap.objs.size = some (lst ys)) ?_ (n + 1)
      ⟨h₁, _, 0, [], _, rfl, Nat.zero_le _, rfl, rfl, fun j hj => absurd hj (Nat.not_lt_zero _), hst₁, F.keeps old, hns₁, N.grown old, hacc⟩
    rintro k s' ⟨h', tk, i, ys, m', rfl, hi, rfl, hyl, hys, hst', F', hn', N', hD'⟩
    by_cases hlt' : i < n
    · refine W.item i _ _ _ hlt' hst' fun T vals h₂ tk₂ hP hTs hT hM hk₂ => ?_
      obtain ⟨v₁, v₂, rfl, hE⟩ := helt i hlt' vals hP
      refine W.go _ _ _ i T _ _ _ hM fun h₃ hst₃ hk₃ => ?_
      have hTw : T ∉ wr := W.apart _ _ _ hM
      have hT₃ : h₃.IsTuple T #[v₁, v₂] := by obtain ⟨o, e, r⟩ := hT; exact ⟨o, hk₃ _ _ hTw e, r⟩
      have F₃ := frw (frw F' hk₂) hk₃
      have N₃ := nsw (nsw N' hk₂) hk₃
      have hn₃ : h₃.Ns H2.objs.size m' := (hn'.at' fun o e => hk₂ _ o hCw e).at' fun o e => hk₃ _ o hCw e
      have hD₃ : h₃.get? s₁.heap.objs.size = some (lst ys) := hk₃ _ _ hDw (hk₂ _ _ hDw hD')
      refine kcp_assign hh hT₃ (lookup_relabel_local hxa) (lookup_relabel_local hxb) (by simp [compEnvC, relabel, hkind]) hn₃ fun h₄ tk₄ hn₄ hk₄ => ?_
      have F₄ : Fr h₀ L h₄ m := ⟨F₃.ns.at' fun o e => hk₄ L o (Ne.symm hCL) e, fun b o e => hk₄ b o (fun q => by have q' : b = H2.objs.size := q; rw [q', hC₀] at e; cases e) (F₃.keep b o e), F₃.above⟩
      have N₄ : News h₀ L h₄ news := fun p hp => ⟨hk₄ _ _ (fun q => (below p.1 (hlt p hp)).1 q) (N₃ p hp).1, (N₃ p hp).2⟩
      have hD₄ : h₄.get? s₁.heap.objs.size = some (lst ys) := hk₄ _ _ hDC hD₃
      have hst₄ : St (i + 1) h₄ := W.frame _ _ _ hst₃ fun b hb o e => hk₄ b o (fun q => hCf (by have q' : b = H2.objs.size := q; rw [← q']; exact hb)) e
      obtain ⟨oC, heC, hoC⟩ := ns_obj hn₄
      refine hE H2.objs.size oC _ _ _ _ hoC (by simp [hab]) (by simp) F₄ (fun p hp => ?_) (fun p hp => by show p.1 < H2.objs.size; rw [hC]; exact Nat.lt_succ_of_lt (hlt p hp)) fun t tk₅ => ?_
      · rcases List.mem_cons.mp hp with rfl | hp
        · exact ⟨heC, hCL, hC₀⟩
        · exact N₄ p hp
      refine append_at (hsz := by show ys.toArray.size ≤ sizeLine; rw [List.size_toArray, hyl]; exact Nat.le_trans hi hn) hD₄ fun h₅ hs₅ hD₅ => ?_
      refine ⟨n + 1 - (i + 1), by omega, h₅, _, i + 1, ys ++ [.int (f i) t], _, rfl, hlt', rfl, by rw [List.length_append, List.length_singleton, hyl], fun j hj => ?_, W.frame _ _ _ hst₄ fun b hb o e => hs₅.extBut b o (fun q => hDf (q ▸ hb)) e,
        F₄.change hs₅ hDL hD₀, hn₄.sameBut hs₅ (Ne.symm hDC), fun p hp => ⟨hs₅.extBut _ _ (Nat.ne_of_lt (hlt p hp)) (N₄ p hp).1, (N₄ p hp).2⟩, hD₅.trans (congrArg some (lst_snoc ys _))⟩
      by_cases hji : j < i
      · obtain ⟨t', e⟩ := hys j hji
        exact ⟨t', by rw [List.getElem?_append_left (by omega)]; exact e⟩
      · obtain rfl : j = i := by omega
        exact ⟨t, by rw [List.getElem?_append_right (by omega), hyl, Nat.sub_self]; rfl⟩
    · obtain rfl : i = n := Nat.le_antisymm hi (Nat.not_lt.mp hlt')
      refine W.done _ _ _ hst' fun h₂ tk₂ hk₂ => ?_
      refine ⟨m', hn'.at' fun o e => hk₂ _ o hCw e, fun h'' hs'' => ?_⟩
      have F₂ := frw F' hk₂
      have N₂ := nsw N' hk₂
      refine hQ _ h'' tk₂ ys (F₂.change hs'' hCL hC₀) (fun p hp => ?_) hlt hyl hys
      rcases List.mem_cons.mp hp with rfl | hp
      · exact ⟨hs''.extBut _ _ hDC (hk₂ _ _ hDw hD'), hDL, hD₀⟩
      · exact ⟨hs''.extBut _ _ (below p.1 (hlt p hp)).1 (N₂ p hp).1, (N₂ p hp).2⟩
  exact codeAny_compStart_list (loop _ rfl) (W.self 0 _ _ _ hst₁ (loop _ rfl))
end
end Mine
end

section
open PySem PySem.W PySem.Calls PyProof.Rows
set_option Elab.async false
set_option maxRecDepth 100000
set_option maxHeartbeats 2000000
namespace Mine
section
variable {prog : Program} {w : World} {A : Around} {E : Value → Shared → Prop} {s : Shared}
theorem isTuple_at {h h' : Heap} {a : Addr} {items : Array Value} (x : h.IsTuple a items) (k : ∀ o, h.get? a = some o → h'.get? a = some o) : h'.IsTuple a items := let ⟨o, e, r⟩ := x; ⟨o, k o e, r⟩
theorem isTupleIter_at {h h' : Heap} {a t : Addr} {i : Nat} (x : h.IsTupleIter a t i) (k : ∀ o, h.get? a = some o → h'.get? a = some o) : h'.IsTupleIter a t i := let ⟨o, e, r⟩ := x; ⟨o, k o e, r⟩

theorem nextOf_tuple_item {it t : Addr} {i : Nat} {items : Array Value} {x : Value} {Q : Value → Shared → Prop} (hit : s.heap.IsTupleIter it t i)
    (ht : s.heap.IsTuple t items) (hx : items[i]? = some x)
    (hQ : ∀ h', h'.IsTupleIter it t (i + 1) → Heap.SameBut it s.heap h' → Q x { s with heap := h' }) :
    wpAny (model prog w) A (Builtin.SmallTypes.nextOf (.ref it)) Q E s := by
  obtain ⟨o, ho, hc, hd⟩ := id hit
  obtain ⟨ol, hol, _, nl, hdl⟩ := ht
  unfold Builtin.SmallTypes.nextOf
  refine wpAny_bind (wpAny_callSpecial?_slot (name := Str.ofString "__next__") hit.typeIs F.slot_tuple_iterator_next
    (wpAny_call_entry F.slot_tuple_iterator_next hit.typeIs F.entry_tuple_iterator_next ?_ (F.args_tuple_iterator_next_1 _)))
  show wpAny _ _ (field (.ref it) 0 >>= _) _ _ s
  refine wpAny_bind (wpAny_field ho hd (x := .ref t) rfl ?_)
  show wpAny _ _ (if (Value.ref t == Value.none) = true then _ else _) _ _ s
  rw [if_neg (show ¬ ((Value.ref t == Value.none) = true) from Bool.false_ne_true)]
  show wpAny _ _ (field (.ref it) 1 >>= _) _ _ s
  refine wpAny_bind (wpAny_field ho hd (x := .int i 0) rfl ?_)
  show wpAny _ _ (seqItems? (.ref t) >>= _) _ _ s
  refine wpAny_bind (wpAny_seqItems hol hdl ?_)
  simp only [Int.toNat_natCast, hx]
  refine wpAny_bind (wpAny_setField ho hd (by simp) (wpAny_pure ⟨x, rfl, wpAny_pure (hQ _ ?_ (Heap.SameBut.update ..))⟩))
  exact ⟨_, Heap.get?_update_self _ ho (Obj.isFreed_of_fields (Obj.data_mapFields hd _)), (Obj.cls_mapFields ..).trans hc, by
    rw [Obj.data_mapFields hd]; simp [rawInt]⟩

theorem zipLT_item {z TI TO i1 i2 l1 l2 : Addr} {k1 k2 : Nat} {xs ys : Array Value} {x y a b : Value} {Q : Value → Shared → Prop} (D : ZipApart z TI TO i1 i2 l1 l2)
    (hz : IsZip s.heap z TI TO .none) (hTI : IsPair s.heap TI (.ref i1) (.ref i2)) (hTO : IsPair s.heap TO a b)
    (h1 : s.heap.IsListIter i1 l1 k1) (h2 : s.heap.IsTupleIter i2 l2 k2) (hl1 : s.heap.IsList l1 xs) (hl2 : s.heap.IsTuple l2 ys) (hx : xs[k1]? = some x) (hy : ys[k2]? = some y)
    (hQ : ∀ h', IsZip h' z TI TO (rawInt s.heap.objs.size) → IsPair h' TO x y → h'.IsListIter i1 l1 (k1 + 1) → h'.IsTupleIter i2 l2 (k2 + 1) → IsPair h' s.heap.objs.size x y → h'.objs.size = s.heap.objs.size + 1 →
      (∀ c o, c ≠ z → c ≠ TO → c ≠ i1 → c ≠ i2 → s.heap.get? c = some o → h'.get? c = some o) → Q (.ref s.heap.objs.size) { s with heap := h' }) :
    wpAny (model prog w) A (Builtin.«zip.__next__» ⟨[.ref z], []⟩) (fun fin s' => ∃ v, fin = .done (.ret v) ∧ Q v s') E s := by
  show wpAny _ _ (field (.ref z) 2 >>= _) _ _ _
  refine wpAny_bind (wpAny_field hz rfl (x := .bool false) rfl ?_)
  show wpAny _ _ (field (.ref z) 3 >>= _) _ _ _
  refine wpAny_bind (wpAny_field hz rfl (x := .ref TI) rfl ?_)
  refine wpAny_bind (wpAny_seqItems hTI rfl ?_)
  show wpAny _ _ (Builtin.SmallTypes.ownedTupleIsFree (.ref z) >>= _) _ _ _
  refine wpAny_bind ?_
  unfold Builtin.SmallTypes.ownedTupleIsFree
  refine wpAny_bind (wpAny_field hz rfl (x := .none) rfl (wpAny_pure ?_))
  simp only [if_true]
  refine wpAny_bind (wpAny_rule ?_)
  refine wpAny_bind (wpAny_field hz rfl (x := .ref TO) rfl ?_)
  refine wpAny_bind (wpAny_setField_rec hz (by simp) fun h₁ hz₁ hs₁ => ?_)
  replace hz₁ : IsZip h₁ z TI TO .ellipsis := hz₁
  refine wpAny_bind ?_
  simp only [List.zipIdx_cons, List.zipIdx_nil, List.forIn_cons, List.forIn_nil]
  refine wpAny_bind (wpAny_bind (wpAny_onRaise ?_))
  show wpAny _ _ (Builtin.SmallTypes.nextOf (.ref i1) >>= _) _ _ _
  refine wpAny_bind (wpAny_nextOf_list_item (h1.extBut hs₁.extBut D.i1z) (hl1.extBut hs₁.extBut D.l1z) hx fun h₂ h1₂ hs₂ => wpAny_pure ?_)
  have hTO₂ : IsPair h₂ TO a b := hs₂.extBut _ _ D.TOi1 (hs₁.extBut _ _ D.TOz hTO)
  refine wpAny_bind (wpAny_seqItems hTO₂ rfl ?_)
  refine wpAny_bind (wpAny_updateSeq_pair hTO₂ fun h₃ hTO₃ hs₃ => ?_)
  replace hTO₃ : IsPair h₃ TO x b := hTO₃
  refine wpAny_bind (wpAny_letGo (wpAny_pure ?_))
  refine wpAny_bind (wpAny_bind (wpAny_onRaise ?_))
  show wpAny _ _ (Builtin.SmallTypes.nextOf (.ref i2) >>= _) _ _ _
  refine wpAny_bind (nextOf_tuple_item (((h2.extBut hs₁.extBut D.i2z).extBut hs₂.extBut D.i12.symm).extBut hs₃.extBut D.TOi2.symm)
    (((hl2.extBut hs₁.extBut D.l2z).extBut hs₂.extBut D.l2i1).extBut hs₃.extBut D.l2TO) hy fun h₄ h2₄ hs₄ => wpAny_pure ?_)
  have hTO₄ : IsPair h₄ TO x b := hs₄.extBut _ _ D.TOi2 hTO₃
  refine wpAny_bind (wpAny_seqItems hTO₄ rfl ?_)
  refine wpAny_bind (wpAny_updateSeq_pair hTO₄ fun h₅ hTO₅ hs₅ => ?_)
  replace hTO₅ : IsPair h₅ TO x y := hTO₅
  refine wpAny_bind (wpAny_letGo (wpAny_pure (wpAny_pure ?_)))
  refine wpAny_bind (wpAny_seqItems hTO₅ rfl ?_)
  refine wpAny_bind (wpAny_newTuple ?_)
  have hsz : h₅.objs.size = s.heap.objs.size := by rw [hs₅.1, hs₄.1, hs₃.1, hs₂.1, hs₁.1]
  have hz₅ : IsZip h₅ z TI TO .ellipsis := hs₅.extBut _ _ D.TOz.symm (hs₄.extBut _ _ D.i2z.symm (hs₃.extBut _ _ D.TOz.symm (hs₂.extBut _ _ D.i1z.symm hz₁)))
  have hk₅ : ∀ c o, c ≠ z → c ≠ TO → c ≠ i1 → c ≠ i2 → s.heap.get? c = some o → h₅.get? c = some o := fun c o c1 c2 c3 c4 e =>
    hs₅.extBut _ _ c2 (hs₄.extBut _ _ c4 (hs₃.extBut _ _ c2 (hs₂.extBut _ _ c3 (hs₁.extBut _ _ c1 e))))
  have h1₅ : h₅.IsListIter i1 l1 (k1 + 1) := ((h1₂.extBut hs₃.extBut D.TOi1.symm).extBut hs₄.extBut D.i12).extBut hs₅.extBut D.TOi1.symm
  have h2₅ : h₅.IsTupleIter i2 l2 (k2 + 1) := h2₄.extBut hs₅.extBut D.TOi2.symm
  have hzlt : z < h₅.objs.size := Heap.lt_size hz₅
  show wpAny _ _ (Builtin.SmallTypes.ownedTupleHandOut (.ref z) (.ref h₅.objs.size) >>= _) _ _ _
  refine wpAny_bind ?_
  unfold Builtin.SmallTypes.ownedTupleHandOut
  have hz₆ : IsZip (h₅.push { cls := .type "tuple", data := .seq #[x, y] }) z TI TO .ellipsis := Heap.get?_push_of_some _ hz₅
  refine wpAny_bind (wpAny_setField_rec hz₆ (by simp) fun h₇ hz₇ hs₇ => ?_)
  replace hz₇ : IsZip h₇ z TI TO (rawInt h₅.objs.size) := hz₇
  refine wpAny_setField_rec hz₇ (by simp) fun h₈ hz₈ hs₈ => ?_
  replace hz₈ : IsZip h₈ z TI TO (rawInt h₅.objs.size) := hz₈
  have up : ∀ c o, c ≠ z → h₅.get? c = some o → h₈.get? c = some o := fun c o c1 e => hs₈.extBut _ _ c1 (hs₇.extBut _ _ c1 (Heap.get?_push_of_some _ e))
  have hT₈ : IsPair h₈ h₅.objs.size x y := hs₈.extBut _ _ (Nat.ne_of_gt hzlt) (hs₇.extBut _ _ (Nat.ne_of_gt hzlt) (Heap.get?_push_size _ rfl))
  have hz8 : h₈.objs.size = h₅.objs.size + 1 := by rw [hs₈.1, hs₇.1, Heap.size_push]
  rw [hsz] at hz₈ hT₈ hz8
  refine wpAny_pure ⟨_, rfl, ?_⟩
  show Q (.ref h₅.objs.size) _
  rw [hsz]
  exact hQ h₈ hz₈ (up _ _ D.TOz hTO₅) (h1₅.at fun o e => up _ o D.i1z e) (isTupleIter_at h2₅ fun o e => up _ o D.i2z e) hT₈ hz8 fun c o c1 c2 c3 c4 e => up c o c1 (hk₅ c o c1 c2 c3 c4 e)

theorem zipLT_end {z TI TO i1 i2 l1 l2 : Addr} {k1 : Nat} {xs : Array Value} {a b : Value} {Q : Fin → Shared → Prop} (hh : A.handled = none) (D : ZipApart z TI TO i1 i2 l1 l2)
    (hz : IsZip s.heap z TI TO .none) (hTI : IsPair s.heap TI (.ref i1) (.ref i2)) (hTO : IsPair s.heap TO a b)
    (h1 : s.heap.IsListIter i1 l1 k1) (hl1 : s.heap.IsList l1 xs) (hx : xs[k1]? = none)
    (hE : ∀ h' e, (∀ c o, c ≠ z → c ≠ TO → c ≠ i1 → c ≠ i2 → s.heap.get? c = some o → h'.get? c = some o) → (∃ o, h'.get? e = some o ∧ o.cls = .type "StopIteration") → E (.ref e) { s with heap := h' }) :
    wpAny (model prog w) A (Builtin.«zip.__next__» ⟨[.ref z], []⟩) Q E s := by
  show wpAny _ _ (field (.ref z) 2 >>= _) _ _ _
  refine wpAny_bind (wpAny_field hz rfl (x := .bool false) rfl ?_)
  show wpAny _ _ (field (.ref z) 3 >>= _) _ _ _
  refine wpAny_bind (wpAny_field hz rfl (x := .ref TI) rfl ?_)
  refine wpAny_bind (wpAny_seqItems hTI rfl ?_)
  show wpAny _ _ (Builtin.SmallTypes.ownedTupleIsFree (.ref z) >>= _) _ _ _
  refine wpAny_bind ?_
  unfold Builtin.SmallTypes.ownedTupleIsFree
  refine wpAny_bind (wpAny_field hz rfl (x := .none) rfl (wpAny_pure ?_))
  simp only [if_true]
  refine wpAny_bind (wpAny_rule ?_)
  refine wpAny_bind (wpAny_field hz rfl (x := .ref TO) rfl ?_)
  refine wpAny_bind (wpAny_setField_rec hz (by simp) fun h₁ hz₁ hs₁ => ?_)
  replace hz₁ : IsZip h₁ z TI TO .ellipsis := hz₁
  refine wpAny_bind ?_
  simp only [List.zipIdx_cons, List.zipIdx_nil, List.forIn_cons, List.forIn_nil]
  refine wpAny_bind (wpAny_bind (wpAny_onRaise ?_))
  show wpAny _ _ (Builtin.SmallTypes.nextOf (.ref i1) >>= _) _ _ _
  refine wpAny_bind (wpAny_nextOf_list_end hh (h1.extBut hs₁.extBut D.i1z) (hl1.extBut hs₁.extBut D.l1z) hx fun h₂ e hs₂ he => ?_)
  obtain ⟨oe, hoe, hce⟩ := he
  have hz₂ : IsZip h₂ z TI TO .ellipsis := hs₂ _ _ D.i1z.symm hz₁
  have hez : e ≠ z := fun x => by subst x; rw [hz₂] at hoe; cases hoe; simp at hce
  refine wpAny_setField_rec hz₂ (by simp) fun h₃ _ hs₃ => hE h₃ e (fun c o c1 _ c3 _ x => hs₃.extBut _ _ c1 (hs₂ _ _ c3 (hs₁.extBut _ _ c1 x))) ⟨oe, hs₃.extBut _ _ hez hoe, hce⟩

theorem zipLT_next {z TI TO i1 i2 l1 l2 : Addr} {k1 k2 : Nat} {xs ys : Array Value} {x y a b : Value} {Q : Option Value → Shared → Prop} (D : ZipApart z TI TO i1 i2 l1 l2)
    (hz : IsZip s.heap z TI TO .none) (hTI : IsPair s.heap TI (.ref i1) (.ref i2)) (hTO : IsPair s.heap TO a b)
    (h1 : s.heap.IsListIter i1 l1 k1) (h2 : s.heap.IsTupleIter i2 l2 k2) (hl1 : s.heap.IsList l1 xs) (hl2 : s.heap.IsTuple l2 ys) (hx : xs[k1]? = some x) (hy : ys[k2]? = some y)
    (hQ : ∀ h', IsZip h' z TI TO (rawInt s.heap.objs.size) → IsPair h' TO x y → h'.IsListIter i1 l1 (k1 + 1) → h'.IsTupleIter i2 l2 (k2 + 1) → IsPair h' s.heap.objs.size x y → h'.objs.size = s.heap.objs.size + 1 →
      (∀ c o, c ≠ z → c ≠ TO → c ≠ i1 → c ≠ i2 → s.heap.get? c = some o → h'.get? c = some o) → Q (some (.ref s.heap.objs.size)) { s with heap := h' }) :
    wpAny (model prog w) A (pyNext (.ref z)) Q E s := by
  have hT : s.TypeIs (.ref z) "zip" := ⟨_, hz, rfl⟩
  unfold pyNext
  exact wpAny_bind (wpAny_attempt (wpAny_callSpecial?_slot (name := Str.ofString "__next__") hT F.slot_zip_next
    (wpAny_call_entry F.slot_zip_next hT F.entry_zip_next
      (zipLT_item D hz hTI hTO h1 h2 hl1 hl2 hx hy fun h' a1 a2 a3 a4 a5 a6 a7 => wpAny_pure (hQ h' a1 a2 a3 a4 a5 a6 a7)) (F.args_zip_next_1 _))))

theorem zipLT_done {z TI TO i1 i2 l1 l2 : Addr} {k1 : Nat} {xs : Array Value} {a b : Value} {Q : Option Value → Shared → Prop} (hh : A.handled = none) (D : ZipApart z TI TO i1 i2 l1 l2)
    (hz : IsZip s.heap z TI TO .none) (hTI : IsPair s.heap TI (.ref i1) (.ref i2)) (hTO : IsPair s.heap TO a b)
    (h1 : s.heap.IsListIter i1 l1 k1) (hl1 : s.heap.IsList l1 xs) (hx : xs[k1]? = none)
    (hQ : ∀ h', (∀ c o, c ≠ z → c ≠ TO → c ≠ i1 → c ≠ i2 → s.heap.get? c = some o → h'.get? c = some o) → Q none { s with heap := h' }) : wpAny (model prog w) A (pyNext (.ref z)) Q E s := by
  have hT : s.TypeIs (.ref z) "zip" := ⟨_, hz, rfl⟩
  unfold pyNext
  refine wpAny_bind (wpAny_attempt (wpAny_callSpecial?_slot (name := Str.ofString "__next__") hT F.slot_zip_next
    (wpAny_call_entry F.slot_zip_next hT F.entry_zip_next (zipLT_end hh D hz hTI hTO h1 hl1 hx fun h' e hk he => ?_) (F.args_zip_next_1 _))))
  obtain ⟨o, ho, hc⟩ := he
  refine wpAny_bind (wpAny_isInstance (T := "StopIteration") (b := true) ⟨o, ho, hc⟩ isSubtype_stop ?_)
  exact wpAny_pure (hQ _ hk)

theorem walks_zipLT (hh : A.handled = none) (z TI TO i1 i2 l1 l2 : Addr) (D : ZipApart z TI TO i1 i2 l1 l2) (xs ys : Array Value) (hle : xs.size ≤ ys.size) :
    WalksT prog w A z [z, TI, TO, i1, i2, l1, l2] [z, TO, i1, i2] xs.size
      (fun i vals => ∃ x y, xs[i]? = some x ∧ ys[i]? = some y ∧ vals = #[x, y])
      (fun i h => IsZip h z TI TO .none ∧ IsPair h TI (.ref i1) (.ref i2) ∧ (∃ a b, IsPair h TO a b) ∧ h.IsListIter i1 l1 i ∧ h.IsTupleIter i2 l2 i ∧ h.IsList l1 xs ∧ h.IsTuple l2 ys)
      (fun i T h => IsZip h z TI TO (rawInt T) ∧ IsPair h TI (.ref i1) (.ref i2) ∧ (∃ a b, IsPair h TO a b) ∧ h.IsListIter i1 l1 (i + 1) ∧ h.IsTupleIter i2 l2 (i + 1) ∧ h.IsList l1 xs ∧ h.IsTuple l2 ys ∧
        T ≠ z ∧ T ≠ TO ∧ T ≠ i1 ∧ T ≠ i2) where
  sub := fun c hc => by simp at hc ⊢; rcases hc with rfl | rfl | rfl | rfl <;> simp
  frame := fun i h h' hst hk => by
    obtain ⟨hz, hTI, ⟨a, b, hTO⟩, h1, h2, hl1, hl2⟩ := hst
    exact ⟨hk z (by simp) _ hz, hk TI (by simp) _ hTI, ⟨a, b, hk TO (by simp) _ hTO⟩, h1.at fun o e => hk i1 (by simp) o e, isTupleIter_at h2 fun o e => hk i2 (by simp) o e,
      hl1.at fun o e => hk l1 (by simp) o e, isTuple_at hl2 fun o e => hk l2 (by simp) o e⟩
  item := fun i s Q E hi hst hQ => by
    obtain ⟨hz, hTI, ⟨a, b, hTO⟩, h1, h2, hl1, hl2⟩ := hst
    have hiy : i < ys.size := Nat.lt_of_lt_of_le hi hle
    refine zipLT_next D hz hTI hTO h1 h2 hl1 hl2 (Array.getElem?_eq_getElem hi) (Array.getElem?_eq_getElem hiy) fun h' a1 a2 a3 a4 a5 a6 hk => ?_
    have lt : ∀ {c o}, s.heap.get? c = some o → s.heap.objs.size ≠ c := fun e => Nat.ne_of_gt (Heap.lt_size e)
    exact hQ s.heap.objs.size #[xs[i], ys[i]] h' s.toks ⟨_, _, Array.getElem?_eq_getElem hi, Array.getElem?_eq_getElem hiy, rfl⟩ (Nat.le_refl _) ⟨_, a5, rfl, _, rfl⟩
      ⟨a1, hk _ _ D.TIz D.TITO D.TIi1 D.TIi2 hTI, ⟨_, _, a2⟩, a3, a4, hl1.at fun o e => hk _ o D.l1z D.l1TO D.l1i1 D.l1i2 e, isTuple_at hl2 fun o e => hk _ o D.l2z D.l2TO D.l2i1 D.l2i2 e,
        lt hz, lt hTO, (by obtain ⟨_, e, _⟩ := h1; exact lt e), (by obtain ⟨_, e, _⟩ := h2; exact lt e)⟩
      fun c o hc e => hk c o (fun x => hc (by simp [x])) (fun x => hc (by simp [x])) (fun x => hc (by simp [x])) (fun x => hc (by simp [x])) e
  go := fun elts k pos i T s Q E hm hQ => by
    obtain ⟨hz, hTI, ⟨a, b, hTO⟩, h1, h2, hl1, hl2, _⟩ := hm
    refine wpAny_letOwnedTupleGo_zip hz fun h' hz' hs' => hQ h' ⟨hz', hs'.extBut _ _ D.TIz hTI, ⟨a, b, hs'.extBut _ _ D.TOz hTO⟩, h1.extBut hs'.extBut D.i1z, h2.extBut hs'.extBut D.i2z,
      hl1.extBut hs'.extBut D.l1z, hl2.extBut hs'.extBut D.l2z⟩ fun c o hc e => hs'.extBut _ _ (fun x => hc (by simp [x])) e
  apart := fun i T h hm hT => by
    obtain ⟨_, _, _, _, _, _, _, t1, t2, t3, t4⟩ := hm
    simp at hT
    rcases hT with rfl | rfl | rfl | rfl
    · exact t1 rfl
    · exact t2 rfl
    · exact t3 rfl
    · exact t4 rfl
  done := fun s Q E hst hQ => by
    obtain ⟨hz, hTI, ⟨a, b, hTO⟩, h1, h2, hl1, hl2⟩ := hst
    exact zipLT_done hh D hz hTI hTO h1 hl1 (Array.getElem?_eq_none (Nat.le_refl _)) fun h' hk => hQ h' s.toks fun c o hc e =>
      hk c o (fun x => hc (by simp [x])) (fun x => hc (by simp [x])) (fun x => hc (by simp [x])) (fun x => hc (by simp [x])) e
  self := fun i s Q E hst hQ => wpAny_pyIter_zip hst.1 hQ
end

abbrev ltH1 (h : Heap) (l1 : Addr) : Heap := h.push { cls := .type "list_iterator", data := .fields #[.ref l1, .int 0 0] }
abbrev ltH2 (h : Heap) (l1 l2 : Addr) : Heap := (ltH1 h l1).push { cls := .type "tuple_iterator", data := .fields #[.ref l2, .int 0 0] }
abbrev ltH3 (h : Heap) (l1 l2 : Addr) : Heap := (ltH2 h l1 l2).push { cls := .type "tuple", data := .seq #[.ref h.objs.size, .ref (ltH1 h l1).objs.size] }
abbrev ltH4 (h : Heap) (l1 l2 : Addr) : Heap := (ltH3 h l1 l2).push { cls := .type "tuple", data := .seq #[.none, .none] }
abbrev ltH5 (h : Heap) (l1 l2 : Addr) : Heap := (ltH4 h l1 l2).push { cls := .type "zip", data := .fields #[.none, .bool false, .bool false, .ref (ltH2 h l1 l2).objs.size, .ref (ltH3 h l1 l2).objs.size] }

theorem meets_zipLT (l1 l2 : Addr) (xs ys : Array Value) :
    Meets (Builtin.«zip.__new__» ⟨[.type "zip", .ref l1, .ref l2], []⟩) (fun _ R s => s.heap.IsList l1 xs ∧ s.heap.IsTuple l2 ys ∧
      R (.ok (.ret (.ref (ltH4 s.heap l1 l2).objs.size))) { s with heap := ltH5 s.heap l1 l2 }) :=
  .of_wp fun prog w A R s h => by
    obtain ⟨hp, g, d, tk, os⟩ := s; obtain ⟨hl1, hl2, h⟩ := h
    have hsub := sub_zip
    have hL1 : Heap.IsList (Shared.heap ⟨hp, g, d, tk, os⟩) l1 xs := hl1
    have hL2 : Heap.IsTuple (Shared.heap ⟨hp.push { cls := .type "list_iterator", data := .fields #[.ref l1, .int 0 0] }, g, d, tk, os⟩) l2 ys := Heap.IsTuple.push hl2 _
    wp_walk using wpAny_pyIter_list hL1, wpAny_pyIter_tuple hL2
    exact ⟨_, rfl, h⟩

section
variable {prog : Program} {w : World} {A : Around} {E : Value → Shared → Prop} {s : Shared}
theorem call_zipLT {l1 l2 : Addr} {xs ys : Array Value} {Q : Value → Shared → Prop} (hl1 : s.heap.IsList l1 xs) (hl2 : s.heap.IsTuple l2 ys)
    (h : ∀ h', IsZip h' (s.heap.objs.size + 4) (s.heap.objs.size + 2) (s.heap.objs.size + 3) .none → IsPair h' (s.heap.objs.size + 2) (.ref s.heap.objs.size) (.ref (s.heap.objs.size + 1)) →
      IsPair h' (s.heap.objs.size + 3) .none .none → h'.IsListIter s.heap.objs.size l1 0 → h'.IsTupleIter (s.heap.objs.size + 1) l2 0 → h'.objs.size = s.heap.objs.size + 5 →
      (∀ c o, s.heap.get? c = some o → h'.get? c = some o) → Q (.ref (s.heap.objs.size + 4)) { s with heap := h' }) :
    wpAny (model prog w) A (call (.type "zip") [.ref l1, .ref l2]) Q E s := by
  refine callType_new F.called_zip (by decide) (F.typeCall_zip_2 _ _) (F.newCall_zip_2 _ _) (fun obj => F.args_object_init_3 obj _ _) F.entry_zip_new
    (meets_zipLT l1 l2 xs ys) ⟨hl1, hl2, ?_⟩
  have z1 : (ltH1 s.heap l1).objs.size = s.heap.objs.size + 1 := Heap.size_push ..
  have z2 : (ltH2 s.heap l1 l2).objs.size = s.heap.objs.size + 2 := by rw [Heap.size_push, z1]
  have z3 : (ltH3 s.heap l1 l2).objs.size = s.heap.objs.size + 3 := by rw [Heap.size_push, z2]
  have z4 : (ltH4 s.heap l1 l2).objs.size = s.heap.objs.size + 4 := by rw [Heap.size_push, z3]
  have z5 : (ltH5 s.heap l1 l2).objs.size = s.heap.objs.size + 5 := by rw [Heap.size_push, z4]
  have g5 : (ltH5 s.heap l1 l2).get? (ltH4 s.heap l1 l2).objs.size = some _ := Heap.get?_push_size _ rfl
  have g4 : (ltH5 s.heap l1 l2).get? (ltH3 s.heap l1 l2).objs.size = some _ := Heap.get?_push_of_some _ (Heap.get?_push_size _ rfl)
  have g3 : (ltH5 s.heap l1 l2).get? (ltH2 s.heap l1 l2).objs.size = some _ := Heap.get?_push_of_some _ (Heap.get?_push_of_some _ (Heap.get?_push_size _ rfl))
  have g2 : (ltH5 s.heap l1 l2).get? (ltH1 s.heap l1).objs.size = some _ := Heap.get?_push_of_some _ (Heap.get?_push_of_some _ (Heap.get?_push_of_some _ (Heap.get?_push_size _ rfl)))
  have g1 : (ltH5 s.heap l1 l2).get? s.heap.objs.size = some _ := Heap.get?_push_of_some _ (Heap.get?_push_of_some _ (Heap.get?_push_of_some _ (Heap.get?_push_of_some _ (Heap.get?_push_size _ rfl))))
  show _ ∧ _
  rw [z2, z3, z4] at g5
  rw [z1, z2] at g3
  rw [z3] at g4
  rw [z1] at g2
  rw [z4]
  exact ⟨⟨_, g5, rfl⟩, h _ g5 g3 g4 ⟨_, g1, rfl, rfl⟩ ⟨_, g2, rfl, rfl⟩ z5 fun c o x =>
    Heap.get?_push_of_some _ (Heap.get?_push_of_some _ (Heap.get?_push_of_some _ (Heap.get?_push_of_some _ (Heap.get?_push_of_some _ x))))⟩
end
end Mine
end

section
open PySem PySem.W PySem.Calls PyProof.Rows
set_option Elab.async false
set_option maxRecDepth 100000
set_option maxHeartbeats 2000000
namespace Mine
/-- a number's signs -/
abbrev num (n : Int) : Str := Str.ofString (toString n)
/-- a cell's name -/
def enc (a b c : Int) : Str := Txt.join (Str.ofString ",") [num a, num b, num c]
theorem comma_is : Str.ofString "," = ⟨#[44]⟩ := by decide +kernel
theorem num_signs {n : Int} (h0 : 0 ≤ n) : (num n).cps.toList = (Nat.toDigits 10 n.toNat).map Char.toNat := by
  obtain ⟨m, rfl⟩ := Int.eq_ofNat_of_zero_le h0
  exact KIN.signs_num m
theorem num_digit {n : Int} (h0 : 0 ≤ n) : ∀ c ∈ (num n).cps.toList, 48 ≤ c ∧ c ≤ 57 := by
  intro c hc
  rw [num_signs h0] at hc
  obtain ⟨ch, hch, e⟩ := List.mem_map.mp hc
  have r := Nat.isDigit_of_mem_toDigits (b := 10) (by decide) (by decide) hch
  rw [← e]
  simp only [Char.isDigit, Bool.and_eq_true, decide_eq_true_eq] at r
  exact ⟨UInt32.le_iff_toNat_le.mp r.1, UInt32.le_iff_toNat_le.mp r.2⟩
theorem num_inj {a b : Int} (ha : 0 ≤ a) (hb : 0 ≤ b) (ha' : a < 10 ^ 10) (hb' : b < 10 ^ 10) (h : num a = num b) : a = b := by
  have e1 := KIN.num_reads ha ha'
  have e2 := KIN.num_reads hb hb'
  have e3 : PySem.intText? (num a) = PySem.intText? (num b) := by rw [h]
  exact Option.some.inj (e1.symm.trans (e3.trans e2))
theorem str_ext {x y : Str} (h : x.cps.toList = y.cps.toList) : x = y := by
  cases x; cases y; congr 1; exact Array.toList_inj.mp h
theorem enc_signs (a b c : Int) : (enc a b c).cps.toList = (num a).cps.toList ++ 44 :: ((num b).cps.toList ++ 44 :: (num c).cps.toList) := by
  unfold enc
  show (Builtin.Str.glued _ _).cps.toList = _
  rw [StrLaws.glued_eq_join, comma_is]
  show (((num a).cps ++ #[44] ++ ((num b).cps ++ #[44] ++ (num c).cps))).toList = _
  simp
/-- cut at the first comma -/
theorem cut_first {p q r s : List Nat} (hp : 44 ∉ p) (hq : 44 ∉ q) (h : p ++ 44 :: r = q ++ 44 :: s) : p = q ∧ r = s := by
  induction p generalizing q with
  | nil =>
    cases q with
    | nil => simpa using h
    | cons y q => simp at h; exact absurd h.1 (fun e => hq (by rw [← e]; exact List.mem_cons_self))
  | cons x p ih =>
    cases q with
    | nil => simp at h; exact absurd h.1 (fun e => hp (by rw [e]; exact List.mem_cons_self))
    | cons y q =>
      simp at h
      obtain ⟨e1, e2⟩ := ih (fun m => hp (List.mem_cons_of_mem _ m)) (fun m => hq (List.mem_cons_of_mem _ m)) h.2
      exact ⟨by rw [h.1, e1], e2⟩
theorem num_free {n : Int} (h0 : 0 ≤ n) : 44 ∉ (num n).cps.toList := fun h => by have := num_digit h0 44 h; omega
theorem enc_inj {a b c a' b' c' : Int} (ha : 0 ≤ a) (hb : 0 ≤ b) (hc : 0 ≤ c) (ha' : 0 ≤ a') (hb' : 0 ≤ b') (hc' : 0 ≤ c') (la : a < 1000) (lb : b < 1000) (lc : c < 1000) (la' : a' < 1000) (lb' : b' < 1000) (lc' : c' < 1000)
    (h : enc a b c = enc a' b' c') : a = a' ∧ b = b' ∧ c = c' := by
  have e : (enc a b c).cps.toList = (enc a' b' c').cps.toList := by rw [h]
  rw [enc_signs, enc_signs] at e
  obtain ⟨e1, e2⟩ := cut_first (num_free ha) (num_free ha') e
  obtain ⟨e2, e3⟩ := cut_first (num_free hb) (num_free hb') e2
  exact ⟨num_inj ha ha' (by omega) (by omega) (str_ext e1), num_inj hb hb' (by omega) (by omega) (str_ext e2), num_inj hc hc' (by omega) (by omega) (str_ext e3)⟩
theorem join_cps : ∀ (x : Str) (l : List Str), (Str.join ⟨#[44]⟩ (x :: l)).cps.toList = x.cps.toList ++ l.flatMap (fun y => 44 :: y.cps.toList)
  | x, [] => by show x.cps.toList = _; simp
  | x, y :: r => by
    show (x ++ ⟨#[44]⟩ ++ Str.join ⟨#[44]⟩ (y :: r)).cps.toList = _
    show (x.cps ++ #[44] ++ (Str.join ⟨#[44]⟩ (y :: r)).cps).toList = _
    rw [Array.toList_append, Array.toList_append, join_cps y r]
    simp
theorem last_free {p q : List Nat} {l : List Str} (hq : 44 ∉ q) (h : p ++ l.flatMap (fun y => 44 :: y.cps.toList) = q) : l = [] ∧ p = q := by
  cases l with
  | nil => exact ⟨rfl, by simpa using h⟩
  | cons y r => exact absurd (by rw [← h]; simp) hq
theorem enc_split {a b c : Int} (ha : 0 ≤ a) (hb : 0 ≤ b) (hc : 0 ≤ c) : Txt.split (enc a b c) (Str.ofString ",") = [num a, num b, num c] := by
  rw [comma_is]
  have hj := StrLaws.join_split (enc a b c) ⟨#[44]⟩
  have hf := StrLaws.split_free (enc a b c) 44
  generalize Txt.split (enc a b c) ⟨#[44]⟩ = l at hj hf
  have hj' : (Str.join ⟨#[44]⟩ l).cps.toList = (num a).cps.toList ++ 44 :: ((num b).cps.toList ++ 44 :: (num c).cps.toList) := by rw [hj, enc_signs]
  match l, hj', hf with
  | [], h, _ => exact absurd h (by show ([] : List Nat) = _ → False; simp)
  | x :: r, h, hf =>
    rw [join_cps] at h
    have hx := hf x List.mem_cons_self
    match r, h, hf with
    | [], h, hf => simp at h; exact absurd (by rw [h]; simp) hx
    | y :: r, h, hf =>
      rw [List.flatMap_cons, List.cons_append] at h
      obtain ⟨e1, h⟩ := cut_first hx (num_free ha) h
      have hy := hf y (by simp)
      match r, h, hf with
      | [], h, hf => simp at h; exact absurd (by rw [h]; simp) hy
      | z :: r, h, hf =>
        rw [List.flatMap_cons, List.cons_append] at h
        obtain ⟨e2, h⟩ := cut_first hy (num_free hb) h
        obtain ⟨e3, e4⟩ := last_free (num_free hc) h
        rw [e3, str_ext e1, str_ext e2, str_ext e4]
theorem num_len {n : Int} (h0 : 0 ≤ n) (h1 : n < 1000) : (num n).length ≤ 10 := KT.len_num h0 (by omega)
theorem enc_len {a b c : Int} (ha : 0 ≤ a) (hb : 0 ≤ b) (hc : 0 ≤ c) (la : a < 1000) (lb : b < 1000) (lc : c < 1000) : (enc a b c).length ≤ 32 := by
  have e : (enc a b c).cps.toList.length = _ := congrArg List.length (enc_signs a b c)
  simp only [List.length_append, List.length_cons, Array.length_toList] at e
  have h1 := num_len ha la
  have h2 := num_len hb lb
  have h3 := num_len hc lc
  show (enc a b c).cps.size ≤ 32
  show _
  unfold Str.length at h1 h2 h3
  omega
end Mine
end

section
open PySem PySem.W PySem.Calls PyProof.Rows
set_option Elab.async false
set_option maxRecDepth 100000
set_option maxHeartbeats 2000000
namespace Mine
open PyProof.Rows.LCg
section
variable {prog : Program} {w : World} {A : Around} {E : Value → Shared → Prop} {s : Shared} {h₀ : Heap} {L : Addr} {m : Str → Option Value} {env : Env} {news : List (Addr × Obj)}
theorem three_list {f : Nat → Int} {ys : List Value} (hl : ys.length = 3) (h : ∀ j, j < 3 → ∃ t, ys[j]? = some (.int (f j) t)) : ∃ t0 t1 t2, ys = [.int (f 0) t0, .int (f 1) t1, .int (f 2) t2] := by
  obtain ⟨t0, e0⟩ := h 0 (by decide)
  obtain ⟨t1, e1⟩ := h 1 (by decide)
  obtain ⟨t2, e2⟩ := h 2 (by decide)
  refine ⟨t0, t1, t2, List.ext_getElem? fun i => ?_⟩
  by_cases hi : i < 3
  · have hi' : i = 0 ∨ i = 1 ∨ i = 2 := by omega
    rcases hi' with rfl | rfl | rfl
    · exact e0
    · exact e1
    · exact e2
  · rw [List.getElem?_eq_none (by omega), List.getElem?_eq_none (by simp; omega)]
theorem three_toks {α β : Type} {l : List (α × β)} {x y z : α} (h : l.map (·.1) = [x, y, z]) : ∃ u1 u2 u3, l = [(x, u1), (y, u2), (z, u3)] := by
  cases l with
  | nil => cases h
  | cons a l =>
    cases l with
    | nil => cases h
    | cons b l =>
      cases l with
      | nil => cases h
      | cons c l =>
        cases l with
        | nil => cases h; exact ⟨_, _, _, rfl⟩
        | cons d l => cases h
theorem new_none {h : Heap} {b : Addr} (F : Fr h₀ L h m) (hb : h.objs.size ≤ b) : h₀.get? b = none := by
  cases e : h₀.get? b with
  | none => rfl
  | some o' => exact absurd (Heap.lt_size (F.keep b o' e)) (Nat.not_lt.mpr hb)

theorem zip_srcLT {elt : PySem.Expr} {a b : Str} {scope : Scope} {cl : List (Str × Addr)} {Q : Value → Shared → Prop} {f : Nat → Int} {l1 l2 : Addr} {x0 x1 x2 y0 y1 y2 : Value}
    (hl1 : s.heap.IsList l1 #[x0, x1, x2]) (hl2 : s.heap.IsTuple l2 #[y0, y1, y2]) (hh : A.handled = none) (F : Fr h₀ L s.heap m) (N : News h₀ L s.heap news)
    (he0 : EltAt prog w A h₀ L m env elt a b scope cl news x0 y0 (f 0)) (he1 : EltAt prog w A h₀ L m env elt a b scope cl news x1 y1 (f 1)) (he2 : EltAt prog w A h₀ L m env elt a b scope cl news x2 y2 (f 2))
    (hQ : ∀ D h tk t0 t1 t2, Fr h₀ L h m → News h₀ L h ((D, lst [.int (f 0) t0, .int (f 1) t1, .int (f 2) t2]) :: news) → (∀ p ∈ news, p.1 < D) → Q (.ref D) { s with heap := h, toks := tk }) :
    wpAny (model prog w) A (call (.type "zip") [.ref l1, .ref l2]) (SrcT prog w A h₀ L m env elt a b scope cl news f 3 Q) E s := by
  have hlt1 : l1 < s.heap.objs.size := by obtain ⟨_, e, _⟩ := hl1; exact Heap.lt_size e
  have hlt2 : l2 < s.heap.objs.size := by obtain ⟨_, e, _⟩ := hl2; exact Heap.lt_size e
  have hLlt : L < s.heap.objs.size := F.ns.lt
  refine call_zipLT hl1 hl2 fun h' hz hTI hTO hi1 hi2 hsz hk => ?_
  have D := zipApart_new hlt1 hlt2
  refine ⟨_, _, _, _, _, _, rfl, walks_zipLT hh _ _ _ _ _ l1 l2 D #[x0, x1, x2] #[y0, y1, y2] (Nat.le_refl 3), ⟨hz, hTI, ⟨_, _, hTO⟩, hi1, hi2, hl1.at fun o e => hk _ o e, isTuple_at hl2 fun o e => hk _ o e⟩, ?_, ?_, F.keeps hk, N.grown hk, ?_, ?_⟩
  · intro c hc
    show c < h'.objs.size
    rw [hsz]
    simp at hc
    rcases hc with rfl | rfl | rfl | rfl | rfl | rfl | rfl <;> first | exact Nat.add_lt_add_left (by decide) _ | exact Nat.lt_add_of_pos_right (by decide) | exact Nat.lt_of_lt_of_le hlt1 (Nat.le_add_right _ _) | exact Nat.lt_of_lt_of_le hlt2 (Nat.le_add_right _ _)
  · intro c hc
    have hge : s.heap.objs.size ≤ c := by
      simp at hc
      rcases hc with rfl | rfl | rfl | rfl <;> first | exact Nat.le_add_right _ _ | exact Nat.le_refl _
    exact ⟨new_none F hge, Nat.ne_of_gt (Nat.lt_of_lt_of_le hLlt hge), fun p hp => Nat.ne_of_lt (Nat.lt_of_lt_of_le (Heap.lt_size (N p hp).1) hge)⟩
  · rintro i hi vals ⟨x, y, hx, hy, rfl⟩
    refine ⟨x, y, rfl, ?_⟩
    match i, hi, hx, hy with
    | 0, _, hx, hy => simp at hx hy; rw [← hx, ← hy]; exact he0
    | 1, _, hx, hy => simp at hx hy; rw [← hx, ← hy]; exact he1
    | 2, _, hx, hy => simp at hx hy; rw [← hx, ← hy]; exact he2
  · intro D h tk ys F' N' l hl hys
    obtain ⟨t0, t1, t2, rfl⟩ := three_list hl hys
    exact hQ D h tk t0 t1 t2 F' N' l

theorem zip_srcLL {elt : PySem.Expr} {a b : Str} {scope : Scope} {cl : List (Str × Addr)} {Q : Value → Shared → Prop} {f : Nat → Int} {l1 l2 : Addr} {x0 x1 x2 y0 y1 y2 : Value}
    (hl1 : s.heap.IsList l1 #[x0, x1, x2]) (hl2 : s.heap.IsList l2 #[y0, y1, y2]) (hh : A.handled = none) (F : Fr h₀ L s.heap m) (N : News h₀ L s.heap news)
    (he0 : EltAt prog w A h₀ L m env elt a b scope cl news x0 y0 (f 0)) (he1 : EltAt prog w A h₀ L m env elt a b scope cl news x1 y1 (f 1)) (he2 : EltAt prog w A h₀ L m env elt a b scope cl news x2 y2 (f 2))
    (hQ : ∀ D h tk t0 t1 t2, Fr h₀ L h m → News h₀ L h ((D, lst [.int (f 0) t0, .int (f 1) t1, .int (f 2) t2]) :: news) → (∀ p ∈ news, p.1 < D) → Q (.ref D) { s with heap := h, toks := tk }) :
    wpAny (model prog w) A (call (.type "zip") [.ref l1, .ref l2]) (SrcT prog w A h₀ L m env elt a b scope cl news f 3 Q) E s := by
  have hlt1 : l1 < s.heap.objs.size := by obtain ⟨_, e, _⟩ := hl1; exact Heap.lt_size e
  have hlt2 : l2 < s.heap.objs.size := by obtain ⟨_, e, _⟩ := hl2; exact Heap.lt_size e
  have hLlt : L < s.heap.objs.size := F.ns.lt
  refine call_zip_2 hl1 hl2 fun h' hz hTI hTO hi1 hi2 hsz hk => ?_
  have D := zipApart_new hlt1 hlt2
  refine ⟨_, _, _, _, _, _, rfl, WalksT.zip2 hh _ _ _ _ _ l1 l2 D #[x0, x1, x2] #[y0, y1, y2], ⟨hz, hTI, ⟨_, _, hTO⟩, hi1, hi2, hl1.at fun o e => hk _ o e, hl2.at fun o e => hk _ o e⟩, ?_, ?_, F.keeps hk, N.grown hk, ?_, ?_⟩
  · intro c hc
    show c < h'.objs.size
    rw [hsz]
    simp at hc
    rcases hc with rfl | rfl | rfl | rfl | rfl | rfl | rfl <;> first | exact Nat.add_lt_add_left (by decide) _ | exact Nat.lt_add_of_pos_right (by decide) | exact Nat.lt_of_lt_of_le hlt1 (Nat.le_add_right _ _) | exact Nat.lt_of_lt_of_le hlt2 (Nat.le_add_right _ _)
  · intro c hc
    have hge : s.heap.objs.size ≤ c := by
      simp at hc
      rcases hc with rfl | rfl | rfl | rfl <;> first | exact Nat.le_add_right _ _ | exact Nat.le_refl _
    exact ⟨new_none F hge, Nat.ne_of_gt (Nat.lt_of_lt_of_le hLlt hge), fun p hp => Nat.ne_of_lt (Nat.lt_of_lt_of_le (Heap.lt_size (N p hp).1) hge)⟩
  · rintro i hi vals ⟨x, y, hx, hy, rfl⟩
    refine ⟨x, y, rfl, ?_⟩
    match i, hi, hx, hy with
    | 0, _, hx, hy => simp at hx hy; rw [← hx, ← hy]; exact he0
    | 1, _, hx, hy => simp at hx hy; rw [← hx, ← hy]; exact he1
    | 2, _, hx, hy => simp at hx hy; rw [← hx, ← hy]; exact he2
  · intro D h tk ys F' N' l hl hys
    obtain ⟨t0, t1, t2, rfl⟩ := three_list hl hys
    exact hQ D h tk t0 t1 t2 F' N' l
end
end Mine
end

section
open PySem PySem.W PySem.Calls PyProof.Rows
set_option Elab.async false
set_option maxRecDepth 100000
set_option maxHeartbeats 2000000
namespace Mine
local macro_rules | `(tactic| k_ne) => `(tactic| (refine neN ?_; (try dsimp only); first | assumption | exact Ne.symm (by assumption) | exact Nat.ne_of_lt (by assumption) | exact Nat.ne_of_gt (by assumption) | omega))
theorem fmod6 (k : Int) : 0 ≤ k.fmod 6 ∧ k.fmod 6 < 6 := ⟨Int.fmod_nonneg_of_pos k (by decide), Int.fmod_lt_of_pos k (by decide)⟩
theorem hue_fin {r : Int} (h0 : 0 ≤ r) (h6 : r < 6) : Float64.isInf (hue r) = false := by
  rcases six_cases h0 h6 with rfl | rfl | rfl | rfl | rfl | rfl <;> decide +kernel

/-- the six directions -/
def dirv (r : Int) : Int × Int × Int :=
  if r = 0 then (1, 0, 0) else if r = 1 then (1, 1, 0) else if r = 2 then (0, 1, 0) else if r = 3 then (0, 1, 1) else if r = 4 then (0, 0, 1) else (1, 0, 1)
/-- a cell's numbers and a step's -/
def sumF (a b c r : Int) : Nat → Int
  | 0 => a + (dirv r).1
  | 1 => b + (dirv r).2.1
  | _ => c + (dirv r).2.2
theorem rgb_facts {r : Int} (h0 : 0 ≤ r) (h6 : r < 6) :
    (Float64.isNaN (rgb r).1 = false ∧ Float64.isInf (rgb r).1 = false ∧ Flt.toInt Float64.truncOf (rgb r).1 = (dirv r).1) ∧
    (Float64.isNaN (rgb r).2.1 = false ∧ Float64.isInf (rgb r).2.1 = false ∧ Flt.toInt Float64.truncOf (rgb r).2.1 = (dirv r).2.1) ∧
    (Float64.isNaN (rgb r).2.2 = false ∧ Float64.isInf (rgb r).2.2 = false ∧ Flt.toInt Float64.truncOf (rgb r).2.2 = (dirv r).2.2) := by
  rcases six_cases h0 h6 with rfl | rfl | rfl | rfl | rfl | rfl <;> decide +kernel
theorem dirv_bounds (r : Int) : (0 ≤ (dirv r).1 ∧ (dirv r).1 ≤ 1) ∧ (0 ≤ (dirv r).2.1 ∧ (dirv r).2.1 ≤ 1) ∧ (0 ≤ (dirv r).2.2 ∧ (dirv r).2.2 ≤ 1) := by
  unfold dirv
  repeat' split
  all_goals decide
theorem sumF_bounds {a b c : Int} (ha : 0 ≤ a) (hb : 0 ≤ b) (hc : 0 ≤ c) (la : a < 1000) (lb : b < 1000) (lc : c < 1000) (r : Int) :
    (0 ≤ sumF a b c r 0 ∧ sumF a b c r 0 ≤ 1000) ∧ (0 ≤ sumF a b c r 1 ∧ sumF a b c r 1 ≤ 1000) ∧ (0 ≤ sumF a b c r 2 ∧ sumF a b c r 2 ≤ 1000) := by
  obtain ⟨⟨h1, h2⟩, ⟨h3, h4⟩, ⟨h5, h6⟩⟩ := dirv_bounds r
  exact ⟨⟨Int.add_nonneg ha h1, Int.add_le_add (Int.le_sub_one_of_lt la) h2⟩, ⟨Int.add_nonneg hb h3, Int.add_le_add (Int.le_sub_one_of_lt lb) h4⟩, ⟨Int.add_nonneg hc h5, Int.add_le_add (Int.le_sub_one_of_lt lc) h6⟩⟩
theorem isTup_tuple {h : Heap} {a : Addr} {items : Array Value} (x : IsTup h a items) : h.IsTuple a items := x

/-- a cell's numbers -/
structure Ok (a b c : Int) : Prop where
  a0 : 0 ≤ a
  b0 : 0 ≤ b
  c0 : 0 ≤ c
  a1 : a < 1000
  b1 : b < 1000
  c1 : c < 1000
/-- the least of a cell's numbers and a step's -/
def minF (a b c r : Int) : Int := min (sumF a b c r 0) (min (sumF a b c r 1) (sumF a b c r 2))
/-- the cell beside, by name -/
def nextTo (a b c r : Int) : Str := enc (sumF a b c r 0 - minF a b c r) (sumF a b c r 1 - minF a b c r) (sumF a b c r 2 - minF a b c r)
theorem minF_le (a b c r : Int) : minF a b c r ≤ sumF a b c r 0 ∧ minF a b c r ≤ sumF a b c r 1 ∧ minF a b c r ≤ sumF a b c r 2 :=
  ⟨Int.min_le_left _ _, Int.le_trans (Int.min_le_right _ _) (Int.min_le_left _ _), Int.le_trans (Int.min_le_right _ _) (Int.min_le_right _ _)⟩
theorem min_two (a b : Int) : min a b = a ∨ min a b = b := by
  rw [Int.min_def]; split
  · exact .inl rfl
  · exact .inr rfl
theorem minF_mem (a b c r : Int) : minF a b c r = sumF a b c r 0 ∨ minF a b c r = sumF a b c r 1 ∨ minF a b c r = sumF a b c r 2 := by
  rcases min_two (sumF a b c r 0) (min (sumF a b c r 1) (sumF a b c r 2)) with h | h
  · exact .inl h
  · rcases min_two (sumF a b c r 1) (sumF a b c r 2) with h' | h'
    · exact .inr (.inl (h.trans h'))
    · exact .inr (.inr (h.trans h'))
theorem minF_of {a b c r M : Int} (h : M = sumF a b c r 0 ∨ M = sumF a b c r 1 ∨ M = sumF a b c r 2) (h' : M ≤ sumF a b c r 0 ∧ M ≤ sumF a b c r 1 ∧ M ≤ sumF a b c r 2) : M = minF a b c r := by
  have h2 := minF_le a b c r
  refine Int.le_antisymm ?_ ?_
  · rcases minF_mem a b c r with e | e | e <;> rw [e]
    · exact h'.1
    · exact h'.2.1
    · exact h'.2.2
  · rcases h with e | e | e <;> rw [e]
    · exact h2.1
    · exact h2.2.1
    · exact h2.2.2
/-- the least of three, as one term -/
theorem min_F {prog : Program} {w : World} {A : Around} {E : Value → Shared → Prop} {s : Shared} {h₀ : Heap} {L l : Addr} {m : Str → Option Value} {news : List (Addr × Obj)} {vs : List Value} {a b c r : Int} {Q : Value → Shared → Prop}
    (F : Fr h₀ L s.heap m) (N : News h₀ L s.heap news) (hl : s.heap.IsList l vs.toArray) (hi : IntsAre vs [sumF a b c r 0, sumF a b c r 1, sumF a b c r 2]) (hh : A.handled = none)
    (h : ∀ h' (t : Tok) tk, Fr h₀ L h' m → News h₀ L h' news → Q (.int (minF a b c r) t) { s with heap := h', toks := tk }) : wpAny (model prog w) A (call (.builtin "min") [.ref l]) Q E s := by
  refine kso_min F N hl hi (show 0 < 3 by decide) hh fun h' M t tk F' N' hm hle => ?_
  have e : M = minF a b c r := minF_of (by simpa using hm) ⟨hle _ (by simp), hle _ (by simp), hle _ (by simp)⟩
  rw [e]
  exact h h' t tk F' N'
theorem minF_nonneg {a b c : Int} (ha : 0 ≤ a) (hb : 0 ≤ b) (hc : 0 ≤ c) (r : Int) : 0 ≤ minF a b c r := by
  obtain ⟨⟨h1, h2⟩, ⟨h3, h4⟩, ⟨h5, h6⟩⟩ := dirv_bounds r
  rcases minF_mem a b c r with e | e | e <;> rw [e]
  · exact Int.add_nonneg ha h1
  · exact Int.add_nonneg hb h3
  · exact Int.add_nonneg hc h5
theorem sub_le9 {s m B : Int} (h : s ≤ B) (hm : 0 ≤ m) : s - m ≤ B := by omega
theorem num_len' {n : Int} (h0 : 0 ≤ n) (h1 : n ≤ 1000) : (num n).length ≤ 10 := KT.len_num h0 (by omega)
theorem part_ok {a b c : Int} (ok : Ok a b c) (r : Int) : (0 ≤ sumF a b c r 0 - minF a b c r ∧ sumF a b c r 0 - minF a b c r ≤ 1000) ∧ (0 ≤ sumF a b c r 1 - minF a b c r ∧ sumF a b c r 1 - minF a b c r ≤ 1000) ∧ (0 ≤ sumF a b c r 2 - minF a b c r ∧ sumF a b c r 2 - minF a b c r ≤ 1000) := by
  obtain ⟨q0, q1, q2⟩ := minF_le a b c r
  have p0 := minF_nonneg ok.a0 ok.b0 ok.c0 r
  obtain ⟨⟨_, b0⟩, ⟨_, b1⟩, ⟨_, b2⟩⟩ := sumF_bounds ok.a0 ok.b0 ok.c0 ok.a1 ok.b1 ok.c1 r
  exact ⟨⟨Int.sub_nonneg_of_le q0, sub_le9 b0 p0⟩, ⟨Int.sub_nonneg_of_le q1, sub_le9 b1 p0⟩, ⟨Int.sub_nonneg_of_le q2, sub_le9 b2 p0⟩⟩
theorem jz_sum {x y z : Nat} (h1 : x ≤ 10) (h2 : y ≤ 10) (h3 : z ≤ 10) : x + (y + (z + 0)) + (0 + 1 + 1 + 1) * 64 ≤ 16777216 := by omega
theorem jz_fits {a b c : Int} (ok : Ok a b c) (r : Int) : ([num (sumF a b c r 0 - minF a b c r), num (sumF a b c r 1 - minF a b c r), num (sumF a b c r 2 - minF a b c r)].map (·.length)).sum + [num (sumF a b c r 0 - minF a b c r), num (sumF a b c r 1 - minF a b c r), num (sumF a b c r 2 - minF a b c r)].length * 64 ≤ 16777216 := by
  obtain ⟨h0, h1, h2⟩ := part_ok ok r
  exact jz_sum (num_len' h0.1 h0.2) (num_len' h1.1 h1.2) (num_len' h2.1 h2.2)
local macro_rules | `(tactic| walk_at "call builtin:min") => `(tactic| (k_here; (with_reducible show wpAny _ _ (call (Value.builtin _) [Value.ref _]) _ _ _); (with_unfolding_all refine' min_F ?k1 ?k2 ?k3 ?k4 ?k6 ?_; (case k1 => k_asm); (case k2 => k_asm); (case k3 => kso_list); (case k4 => l_ints); (case k6 => with_unfolding_all rfl); k_whole); intro h' t' k' F' N'; (try k_sweep)))
theorem beside_spec (w : World) (a1 a2 a3 : Int) (ok : Ok a1 a2 a3) (k : Int) (t1 t2 : Tok) :
    PSpec 2 109 w [.str (enc a1 a2 a3) t1, .int k t2]
      (fun h h' v => ∃ t, v = .str (nextTo a1 a2 a3 (k.fmod 6)) t) := by
  obtain ⟨ha, hb, hc, la, lb, lc⟩ := ok
  have hlen := enc_len ha hb hc la lb lc
  have hsp := enc_split ha hb hc
  have hrf := rgb_facts (fmod6 k).1 (fmod6 k).2
  obtain ⟨⟨hz0, hz0'⟩, ⟨hz1, hz1'⟩, ⟨hz2, hz2'⟩⟩ := sumF_bounds ha hb hc la lb lc (k.fmod 6)
  generalize hce : enc a1 a2 a3 = c at *
  unfold PSpec PR KF LO
  k_fill
  intro mean mg mb dp un gd cn scp a ccd cl outer A₀ base h₀ L m s Q E B F X T hk hroom hunits hret
  refine wpAny_call ?_
  k_dflt (refine' code_defCP ?k1 ?k2 ?k3 ?k5 ?kA ?kF ?kK ?k6 ?k7 ?k8 ?k9 ?kB ?kD ?_ ?c2 ?c3 ?c4; (case kA => exact rfl); (case kF => exact rfl); (case kK => assumption); (case k1 => k_asm); (case k2 => k_asm); (case k3 => k_asm); (case k5 => k_asm); (case k6 => k_is); (case k7 => k_is); (case k8 => ktr_room); (case k9 => exact BindsTo.of_eq rfl); (case kB => exact rfl); (case kD => decide +kernel); (case c2 => exact rfl); (case c3 => exact rfl); (case c4 => exact rfl); k_whole; intro g' L' h' tk' cells' hg' FG' F' N' Y' B' X' T'; k_cells Y'; (try simp only [List.cons_append, List.nil_append, List.append_nil] at N'); (try dsimp only); (try k_lift B'); (try k_fold))
  w_on
  k_steps
  · exact absurd ‹Float64.isInf _ = true› (Bool.eq_false_iff.mp (hue_fin (fmod6 k).1 (fmod6 k).2))
  ((refine' (hsv_spec _ (k.fmod 6) (fmod6 k).1 (fmod6 k).2 _ _ _) _ _ _ _ _ _ _ _ _ _ _ _ _ _ _ _ _ _ _ _ ?sB ?sF ?sX ?sT ?sK ?sd ?su ?_); (case sB => k_asm); (case sF => k_asm); (case sX => k_asm); (case sT => k_asm); (case sK => first | exact rfl | assumption); (case sd => ktr_room); (case su => ktr_units); intro v9 h9 tk9 hk9 R9; (have F9 := Fr.keeps (by k_asm) hk9); (have N9 := News.grown (by k_asm) hk9))
  obtain ⟨D, x, y, z, tx, ty, tz, rfl, hD9, hn9, rfl, rfl, rfl⟩ := R9
  have l9 := news_off hn9 (by k_asm)
  replace N9 := news_add (by k_asm) (by k_asm) hk9 hD9 hn9
  simp only [LCg.Off1, and_true] at l9
  iterate 3 (first | walk1 | (dsimp only; walk1))
  refine wpAny_Assign_Name ?_
  refine comp_T (f := sumF a1 a2 a3 (k.fmod 6)) (n := 3) (by with_unfolding_all rfl) (by decide) (by rfl) (by decide) (by rfl) (by rfl) (by decide) (by k_asm) (by k_asm) (by rfl) (by decide) ?_
  k_steps
  rename_i l hm k9 hl9 hA hlen9 hL9 hF9 hN9
  rw [hsp] at hl9
  obtain ⟨u1, u2, u3, rfl⟩ := three_toks hl9
  dsimp only at hN9 hL9
  refine' zip_srcLT ?hL ?hT ?hh ?hF ?hN ?e0 ?e1 ?e2 ?_
  case hL => exact hL9
  case hF => exact hF9
  case hT => exact isTup_tuple (News.isTup hN9 (by k_mem))
  case hh => rfl
  case hN => exact cb_drop hN9 fun p hp => List.mem_cons_of_mem _ hp
  case e0 =>
    intro C oC m₂ s' E' Q' hC h1 h2 F' N' hlt hq
    k_steps
    all_goals first
      | exact absurd ‹Float64.isNaN _ = true› (by rw [hrf.1.1]; decide)
      | exact absurd ‹Float64.isInf _ = true› (by rw [hrf.1.2.1]; decide)
      | (rw [hrf.1.2.2]; exact hq _ _)
  case e1 =>
    intro C oC m₂ s' E' Q' hC h1 h2 F' N' hlt hq
    k_steps
    all_goals first
      | exact absurd ‹Float64.isNaN _ = true› (by rw [hrf.2.1.1]; decide)
      | exact absurd ‹Float64.isInf _ = true› (by rw [hrf.2.1.2.1]; decide)
      | (rw [hrf.2.1.2.2]; exact hq _ _)
  case e2 =>
    intro C oC m₂ s' E' Q' hC h1 h2 F' N' hlt hq
    k_steps
    all_goals first
      | exact absurd ‹Float64.isNaN _ = true› (by rw [hrf.2.2.1]; decide)
      | exact absurd ‹Float64.isInf _ = true› (by rw [hrf.2.2.2.1]; decide)
      | (rw [hrf.2.2.2.2]; exact hq _ _)
  intro D2 h2 tk2 w0 w1 w2 F2 N2 l2
  k_lt l2
  walk1
  dsimp only
  iterate 7 (first | walk1 | (dsimp only; walk1))
  (k_dflt (refine LCg.ListComp_U (F₀ := by k_asm) (by with_unfolding_all rfl) (by decide) (by rfl) (by decide) (by rfl) ?_))
  walk1
  obtain ⟨qq0, qq1, qq2⟩ := minF_le a1 a2 a3 (k.fmod 6)
  have pp0 := minF_nonneg ha hb hc (k.fmod 6)
  k_dflt (refine LCg.CompSrc.ledger (by rfl) (by k_asm) (by k_asm) (by k_mem) (by first | size_fits | exact Nat.le_of_ble_eq_true rfl) ?_; intro g'; lcg_lit)
  iterate 3 (walk1; (rename ((_ ∧ _ ∧ _) ∧ _) => hof9); (obtain ⟨⟨o1, o2, o3⟩, ⟨o4, o5, o6⟩, o7, o8, o9⟩ := hof9); (rename (_ ≠ _ ∧ _ ≠ _ ∧ _ ≠ _) => hof9); (obtain ⟨p1, p2, p3⟩ := hof9); (repeat ((fail_if_success (with_reducible show LCg.CompRest _ _ _ _ _ _ _ _ _ _ _ _ _ _ _ _ _ _ _)); (first | walk1 | (dsimp only; walk1)))))
  k_steps
  (show wpAny _ _ (call (Value.builtin "str.join") [Value.str _ _, Value.ref _]) _ _ _)
  refine' join_listC (ys := [num (sumF a1 a2 a3 (k.fmod 6) 0 - minF a1 a2 a3 (k.fmod 6)), num (sumF a1 a2 a3 (k.fmod 6) 1 - minF a1 a2 a3 (k.fmod 6)), num (sumF a1 a2 a3 (k.fmod 6) 2 - minF a1 a2 a3 (k.fmod 6))]) ?jl ?ja ?js ?jz ?_
  case jl => exact News.isList (by k_asm) (by k_mem)
  case ja => exact .cons _ _ (.cons _ _ (.cons _ _ .nil))
  case js => decide
  case jz =>
    exact jz_fits ⟨ha, hb, hc, la, lb, lc⟩ (k.fmod 6)
  intro t5 k5
  k_steps
  subst hg'
  exact hret _ _ _ (Fr.keep (by assumption)) ⟨t5, rfl⟩
end Mine
end

section
open PySem PySem.W PySem.Calls PyProof.Rows
set_option Elab.async false
set_option maxRecDepth 100000
set_option maxHeartbeats 2000000
namespace Mine
local macro_rules | `(tactic| k_ne) => `(tactic| (refine neN ?_; (try dsimp only); first | assumption | exact Ne.symm (by assumption) | exact Nat.ne_of_lt (by assumption) | exact Nat.ne_of_gt (by assumption) | omega))
local macro_rules | `(tactic| walk_at "call builtin:min") => `(tactic| (k_here; (with_reducible show wpAny _ _ (call (Value.builtin _) [Value.ref _]) _ _ _); (with_unfolding_all refine' min_F ?k1 ?k2 ?k3 ?k4 ?k6 ?_; (case k1 => k_asm); (case k2 => k_asm); (case k3 => kso_list); (case k4 => l_ints); (case k6 => with_unfolding_all rfl); k_whole); intro h' t' k' F' N'; (try k_sweep)))
theorem plain_spec (w : World) (a1 a2 a3 : Int) (ok : Ok a1 a2 a3) (k : Int) (t1 t2 : Tok) :
    PSpec 2 114 w [.str (enc a1 a2 a3) t1, .int k t2]
      (fun h h' v => ∃ t, v = .str (nextTo a1 a2 a3 (k.fmod 6)) t) := by
  obtain ⟨ha, hb, hc, la, lb, lc⟩ := ok
  have hlen := enc_len ha hb hc la lb lc
  have hsp := enc_split ha hb hc
  obtain ⟨⟨hz0, hz0'⟩, ⟨hz1, hz1'⟩, ⟨hz2, hz2'⟩⟩ := sumF_bounds ha hb hc la lb lc (k.fmod 6)
  generalize hce : enc a1 a2 a3 = c at *
  unfold PSpec PR KF LO
  k_fill
  intro mean mg mb dp un gd cn scp a ccd cl outer A₀ base h₀ L m s Q E B F X T hk hroom hunits hret
  refine wpAny_call ?_
  k_dflt (refine' code_defCP ?k1 ?k2 ?k3 ?k5 ?kA ?kF ?kK ?k6 ?k7 ?k8 ?k9 ?kB ?kD ?_ ?c2 ?c3 ?c4; (case kA => exact rfl); (case kF => exact rfl); (case kK => assumption); (case k1 => k_asm); (case k2 => k_asm); (case k3 => k_asm); (case k5 => k_asm); (case k6 => k_is); (case k7 => k_is); (case k8 => ktr_room); (case k9 => exact BindsTo.of_eq rfl); (case kB => exact rfl); (case kD => decide +kernel); (case c2 => exact rfl); (case c3 => exact rfl); (case c4 => exact rfl); k_whole; intro g' L' h' tk' cells' hg' FG' F' N' Y' B' X' T'; k_cells Y'; (try simp only [List.cons_append, List.nil_append, List.append_nil] at N'); (try dsimp only); (try k_lift B'); (try k_fold))
  w_on
  iterate 70 (first | walk1 | (dsimp only; walk1))
  rename_i oc dc lA hA _ lB hB _ lC hC _ lD hD _ lE hE _ lF hF _ lG hG FG NG lG1
  have hpick : ∃ S s0 s1 s2, [Value.ref lA, Value.ref lB, Value.ref lC, Value.ref lD, Value.ref lE, Value.ref lF][(k.fmod 6).toNat]? = some (.ref S) ∧
      News g' L' hG [(S, W.listOf #[.int (dirv (k.fmod 6)).1 s0, .int (dirv (k.fmod 6)).2.1 s1, .int (dirv (k.fmod 6)).2.2 s2] 0), (L' + 1, oc)] ∧ @Ne Nat (L' + 1) S := by
    rcases six_cases (fmod6 k).1 (fmod6 k).2 with e | e | e | e | e | e <;> rw [e]
    · exact ⟨lA, _, _, _, rfl, cb_drop NG (List.forall_mem_cons.mpr ⟨by k_mem, List.forall_mem_cons.mpr ⟨by k_mem, List.forall_mem_nil _⟩⟩), by omega⟩
    · exact ⟨lB, _, _, _, rfl, cb_drop NG (List.forall_mem_cons.mpr ⟨by k_mem, List.forall_mem_cons.mpr ⟨by k_mem, List.forall_mem_nil _⟩⟩), by omega⟩
    · exact ⟨lC, _, _, _, rfl, cb_drop NG (List.forall_mem_cons.mpr ⟨by k_mem, List.forall_mem_cons.mpr ⟨by k_mem, List.forall_mem_nil _⟩⟩), by omega⟩
    · exact ⟨lD, _, _, _, rfl, cb_drop NG (List.forall_mem_cons.mpr ⟨by k_mem, List.forall_mem_cons.mpr ⟨by k_mem, List.forall_mem_nil _⟩⟩), by omega⟩
    · exact ⟨lE, _, _, _, rfl, cb_drop NG (List.forall_mem_cons.mpr ⟨by k_mem, List.forall_mem_cons.mpr ⟨by k_mem, List.forall_mem_nil _⟩⟩), by omega⟩
    · exact ⟨lF, _, _, _, rfl, cb_drop NG (List.forall_mem_cons.mpr ⟨by k_mem, List.forall_mem_cons.mpr ⟨by k_mem, List.forall_mem_nil _⟩⟩), by omega⟩
  obtain ⟨S, s0, s1, s2, hS, NS, lS⟩ := hpick
  with_unfolding_all refine' item_litK ?i1 ?i2 ?i3 hS ?_ ?i6
  case i1 => exact News.isList NG (by k_mem)
  case i2 => exact (fmod6 k).1
  case i3 => exact Int.lt_of_lt_of_le (fmod6 k).2 (by decide)
  case i6 => with_unfolding_all rfl
  clear NG
  iterate 2 (first | walk1 | (dsimp only; walk1))
  refine wpAny_Assign_Name ?_
  refine comp_T (f := sumF a1 a2 a3 (k.fmod 6)) (n := 3) (by with_unfolding_all rfl) (by decide) (by rfl) (by decide) (by rfl) (by rfl) (by decide) (by k_asm) (by k_asm) (by rfl) (by decide) ?_
  iterate 15 (first | walk1 | (dsimp only; walk1))
  rename_i l hm k9 hl9 hA hlen9 hL9 hF9 hN9
  rw [hsp] at hl9
  obtain ⟨u1, u2, u3, rfl⟩ := three_toks hl9
  dsimp only at hN9 hL9
  refine' zip_srcLL ?hL ?hT ?hh ?hF ?hN ?e0 ?e1 ?e2 ?_
  case hL => exact hL9
  case hF => exact hF9
  case hT => exact News.isList hN9 (by k_mem)
  case hh => rfl
  case hN => exact cb_drop hN9 fun p hp => List.mem_cons_of_mem _ hp
  case e0 =>
    intro C oC m₂ s' E' Q' hC h1 h2 F' N' hlt hq
    k_steps
    exact hq _ _
  case e1 =>
    intro C oC m₂ s' E' Q' hC h1 h2 F' N' hlt hq
    k_steps
    exact hq _ _
  case e2 =>
    intro C oC m₂ s' E' Q' hC h1 h2 F' N' hlt hq
    k_steps
    exact hq _ _
  intro D2 h2 tk2 w0 w1 w2 F2 N2 l2
  k_lt l2
  walk1
  dsimp only
  iterate 7 (first | walk1 | (dsimp only; walk1))
  (k_dflt (refine LCg.ListComp_U (F₀ := by k_asm) (by with_unfolding_all rfl) (by decide) (by rfl) (by decide) (by rfl) ?_))
  walk1
  obtain ⟨qq0, qq1, qq2⟩ := minF_le a1 a2 a3 (k.fmod 6)
  have pp0 := minF_nonneg ha hb hc (k.fmod 6)
  k_dflt (refine LCg.CompSrc.ledger (by rfl) (by k_asm) (by k_asm) (by k_mem) (by first | size_fits | exact Nat.le_of_ble_eq_true rfl) ?_; intro g'; lcg_lit)
  iterate 3 (walk1; (rename ((_ ∧ _ ∧ _) ∧ _) => hof9); (obtain ⟨⟨o1, o2, o3⟩, ⟨o4, o5, o6⟩, o7, o8, o9⟩ := hof9); (rename (_ ≠ _ ∧ _ ≠ _ ∧ _ ≠ _) => hof9); (obtain ⟨p1, p2, p3⟩ := hof9); (repeat ((fail_if_success (with_reducible show LCg.CompRest _ _ _ _ _ _ _ _ _ _ _ _ _ _ _ _ _ _ _)); (first | walk1 | (dsimp only; walk1)))))
  k_steps
  (show wpAny _ _ (call (Value.builtin "str.join") [Value.str _ _, Value.ref _]) _ _ _)
  refine' join_listC (ys := [num (sumF a1 a2 a3 (k.fmod 6) 0 - minF a1 a2 a3 (k.fmod 6)), num (sumF a1 a2 a3 (k.fmod 6) 1 - minF a1 a2 a3 (k.fmod 6)), num (sumF a1 a2 a3 (k.fmod 6) 2 - minF a1 a2 a3 (k.fmod 6))]) ?jl ?ja ?js ?jz ?_
  case jl => exact News.isList (by k_asm) (by k_mem)
  case ja => exact .cons _ _ (.cons _ _ (.cons _ _ .nil))
  case js => decide
  case jz =>
    exact jz_fits ⟨ha, hb, hc, la, lb, lc⟩ (k.fmod 6)
  intro t5 k5
  k_steps
  subst hg'
  exact hret _ _ _ (Fr.keep (by assumption)) ⟨t5, rfl⟩
end Mine
end

section
open PySem PySem.W PySem.Calls PyProof.Rows
set_option Elab.async false
set_option maxRecDepth 100000
set_option maxHeartbeats 2000000
namespace Mine
def code1 : Array Nat := #[14, 4, 0, 1, 1, 6, 1, 16, 46, 1]
def code2 : Array Nat := #[14, 9, 4, 1, 2, 16, 10, 16, 13, 0, 7, 7, 16, 13, 16, 10, 15, 18, 5, 16, 10, 15, 13, 11, 16, 13, 5, 5, 0, 16, 10, 1, 15, 2, 0, 1]
/-- a row of dots -/
def dotsA (n : Nat) : Array Nat := (List.replicate n 46).toArray
def failsAt (code : Array Nat) (n start k : Nat) : Bool :=
  match ((Sre.forSearch code (dotsA n) 0 start n false).runFor k).outcome with
  | some .failed => true
  | _ => false
def findsAt (code : Array Nat) (n start k b e : Nat) : Bool :=
  let m := (Sre.forSearch code (dotsA n) 0 start n false).runFor k
  (match m.outcome with
  | some .matched => true
  | _ => false) && m.start == b && m.handed == e
set_option maxRecDepth 1000000 in
theorem re2_fails : (List.range 45).all (fun n => failsAt code2 n 0 8) = true := by decide +kernel
theorem re1_finds : (List.range 44).all (fun n => findsAt code1 (n + 1) 0 8 0 1) = true := by decide +kernel
theorem re1_fails : (List.range 44).all (fun n => failsAt code1 (n + 1) 1 (4 * (n + 3))) = true := by decide +kernel
end Mine
end

section
open PySem PySem.W PySem.Calls PyProof.Rows
set_option Elab.async false
set_option maxRecDepth 100000
set_option maxHeartbeats 2000000
namespace Mine
open PySem.Builtin PySem.Builtin.Re
theorem runFor_stop {m : Sre.M} (h : m.outcome.isSome = true) : ∀ n, Sre.M.runFor n m = m
  | 0 => rfl
  | n + 1 => by unfold Sre.M.runFor; rw [if_pos h]
theorem runFor_add (a b : Nat) (m : Sre.M) : Sre.M.runFor (a + b) m = Sre.M.runFor b (Sre.M.runFor a m) := by
  induction a generalizing m with
  | zero => rw [Nat.zero_add]; rfl
  | succ a ih =>
    rw [Nat.succ_add]
    show (if m.outcome.isSome then m else Sre.M.runFor (a + b) m.step) = Sre.M.runFor b (if m.outcome.isSome then m else Sre.M.runFor a m.step)
    by_cases h : m.outcome.isSome = true
    · rw [if_pos h, if_pos h, runFor_stop h]
    · rw [if_neg h, if_neg h]; exact ih _
section
variable {M : Model} {A : Around} {E : Value → Shared → Prop} {s : Shared}
theorem drive_wp {Q : Sre.M → Shared → Prop} : ∀ (k turns : Nat) (m : Sre.M), k < turns → (Sre.M.runFor (4 * (k + 1)) m).outcome.isSome = true → Q (Sre.M.runFor (4 * (k + 1)) m) s → wpAny M A (reDrive turns m) Q E s := by
  intro k
  induction k with
  | zero =>
    intro turns m hk ho hq
    obtain ⟨t, rfl⟩ : ∃ t, turns = t + 1 := ⟨turns - 1, by omega⟩
    show wpAny M A (if (Sre.M.runFor reTurnSteps m).outcome.isSome then pure (Sre.M.runFor reTurnSteps m) else do rule "sre.turn"; reDrive t (Sre.M.runFor reTurnSteps m)) Q E s
    have ho' : (Sre.M.runFor reTurnSteps m).outcome.isSome = true := ho
    rw [if_pos ho']
    exact wpAny_pure hq
  | succ k ih =>
    intro turns m hk ho hq
    obtain ⟨t, rfl⟩ : ∃ t, turns = t + 1 := ⟨turns - 1, by omega⟩
    show wpAny M A (if (Sre.M.runFor reTurnSteps m).outcome.isSome then pure (Sre.M.runFor reTurnSteps m) else do rule "sre.turn"; reDrive t (Sre.M.runFor reTurnSteps m)) Q E s
    have e : 4 * (k + 1 + 1) = 4 + 4 * (k + 1) := by omega
    rw [e, runFor_add] at ho hq
    by_cases h : (Sre.M.runFor reTurnSteps m).outcome.isSome = true
    · rw [if_pos h]
      have h' : (Sre.M.runFor 4 m).outcome.isSome = true := h
      rw [runFor_stop h'] at hq
      exact wpAny_pure hq
    · rw [if_neg h]
      exact wpAny_bind (wpAny_rule (ih t _ (by omega) ho hq))
theorem runToEnd_wp {Q : Option Sre.M → Shared → Prop} (k : Nat) (m : Sre.M) (hk : k < 2 ^ 64)
    (h : match (Sre.M.runFor (4 * (k + 1)) m).outcome with | some .matched => Q (some (Sre.M.runFor (4 * (k + 1)) m)) s | some .failed => Q none s | _ => False) : wpAny M A (reRunToEnd m) Q E s := by
  unfold reRunToEnd
  refine wpAny_bind (drive_wp k _ m hk (by split at h <;> first | (rename_i e; rw [e]; rfl) | exact h.elim) ?_)
  refine wpAny_bind ?_
  refine wpAny_forIn_list _ (fun _ _ s' => s' = s) _ (fun x rest b s' e => ?_) (fun b s' e => ?_) _ _ rfl
  · subst e
    split
    · exact wpAny_bind (wpAny_rule (wpAny_pure (by exact rfl)))
    · exact wpAny_pure (by exact rfl)
  · subst e
    split at h
    · rename_i e; rw [e]; exact wpAny_pure h
    · rename_i e; rw [e]; exact wpAny_pure h
    · exact h.elim
end
end Mine
end

section
open PySem PySem.W PySem.Calls PyProof.Rows
set_option Elab.async false
set_option maxRecDepth 100000
set_option maxHeartbeats 2000000
namespace Mine
open PySem.Builtin PySem.Builtin.Re
theorem slot_sub : Slot "re.Pattern" "sub" "re.Pattern.sub" :=
  .of (owner := "re.Pattern") (n := "sub") (by rw [typeLookup_type, builtinLookup_eq_fast]; kernel_rfl) (by decide +kernel) (by decide +kernel) (by decide +kernel)
    (by first | exact .inl (by decide +kernel) | exact .inr (by decide +kernel)) (by rw [isSubtype_type]; kernel_rfl)
theorem type_sub : typeOf (.builtin "re.Pattern.sub") = pure (.type "method_descriptor") := by show builtinType _ = _; rw [builtinType_eq_fast]; kernel_rfl
theorem entry_sub : entryFor table "re.Pattern.sub" = some Builtin.«re.Pattern.sub» := entryFor_of_tree (by kernel_rfl)
theorem entry_subloop : entryFor table "re.Pattern.sub.loop" = some Builtin.«re.Pattern.sub.loop» := entryFor_of_tree (by kernel_rfl)
theorem plainAttrs_re : PlainAttrs "re.Pattern" :=
  ⟨⟨"object.__getattribute__", by rw [typeLookup_type, builtinLookup_eq_fast]; kernel_rfl, by decide +kernel⟩, by rw [typeLookup_type, builtinLookup_eq_fast]; kernel_rfl⟩
theorem owner_re : Manifest.owners.lookup (String.ofList ['n', 'r', 'e', 't', 't', 'a', 'P', '.', 'e', 'r'].reverse) = some Manifest.sig_re_Pattern := by kernel_rfl
theorem args_sub (a b c : Value) : argsOk "re.Pattern.sub" ⟨[a, b, c], []⟩ := by
  unfold argsOk; rw [signature?_of (id := "re.Pattern.sub") (n := ['b', 'u', 's']) (o := ['n', 'r', 'e', 't', 't', 'a', 'P', '.', 'e', 'r']) (by kernel_rfl) owner_re]; kernel_rfl

abbrev patObj (ps : Str) (pt : Tok) (fl : Int) (ft : Tok) (C : Addr) : Obj := { cls := .type "re.Pattern", data := .fields #[.str ps pt, .int fl ft, .int 0 0, .none, .none, .ref C, .int 0 0] }
section
variable {prog : Program} {w : World} {A : Around} {E : Value → Shared → Prop} {s : Shared} {R : Result → Shared → Prop}
theorem strs_len {vs : List Value} {ys : List Str} (h : StrsAre vs ys) : vs.length = ys.length := by
  induction h with
  | nil => rfl
  | cons y t _ ih => simp [ih]
theorem strs_snoc {vs : List Value} {ys : List Str} (h : StrsAre vs ys) (y : Str) (t : Tok) : StrsAre (vs ++ [.str y t]) (ys ++ [y]) := by
  induction h with
  | nil => exact .cons y t .nil
  | cons z u _ ih => exact .cons z u ih
theorem code_entry {id : String} {args : Args} {b : Builtin} (hb : entryFor table id = some b)
    (h : wpAny (model prog w) (A.under (.builtin id args)) (b args)
      (fun fin s' => match fin with | .done f => R (.ok f) s' | .again c' => c'.quiet = true ∧ codeAny (model prog w) A c' R s') (fun e s' => R (.error e) s') s) :
    codeAny (model prog w) A (.builtin id args) R s := by
  refine codeAny_of_tree ?_
  show wpAny _ _ (match entryFor table id with | some b => b args | none => unsupported ((withoutEnding? id "#data").getD id)) _ _ s
  rw [hb]; exact h
theorem whole_wp {P C : Addr} {ps : Str} {pt : Tok} {fl : Int} {ft : Tok} {codes : Array Value} {x : Str} {tx : Tok} {Q : ReTarget → Shared → Prop}
    (hP : s.heap.get? P = some (patObj ps pt fl ft C)) (hC : s.heap.get? C = some { cls := .type "tuple", data := .seq codes })
    (h : Q { pattern := .ref P, string := .str x tx, code := (codes.map reRawOf).map (·.toNat), text := x.cps, kind := 0, groups := 0, pos := 0, lim := x.cps.size } s) :
    wpAny (model prog w) A (reWholeTarget (.ref P) (.str x tx)) Q E s := by
  unfold reWholeTarget
  repeat (any_goals (first | assumption | wp_step))
theorem str_no_call : typeLookup (.type "str") "__call__" = pure none := by rw [typeLookup_type, builtinLookup_eq_fast]; kernel_rfl
theorem named_sub (a b : Value) : reNamed "re.Pattern.sub" "sub" ["repl", "string", "count"] 2 [a, b] [] = pure [some a, some b, none] := by rfl
theorem special_str {x : Str} {t : Tok} {Q : Option Value → Shared → Prop} (h : Q none s) : wpAny (model prog w) A (specialOf (.str x t) "__call__") Q E s := by
  unfold specialOf
  repeat (any_goals (first | assumption | (with_reducible refine wpAny_of_eq str_no_call ?_) | wp_step))
theorem sub_wp {P C : Addr} {ps : Str} {pt : Tok} {fl : Int} {ft : Tok} {codes : Array Value} {x r : Str} {tx tr : Tok}
    (hP : s.heap.get? P = some (patObj ps pt fl ft C)) (hC : s.heap.get? C = some { cls := .type "tuple", data := .seq codes }) (hr : r.cps.contains 92 = false)
    (h : codeAny (model prog w) A (.builtin "re.Pattern.sub.loop" ⟨[.ref P, .str x tx, .str r tr, rawInt 0, rawInt 0, rawInt 0, rawInt 0, rawInt 0, .bool false, .ref s.heap.objs.size, .bool false], []⟩) R
      { s with heap := s.heap.push { cls := .type "list", data := .seq #[] } }) :
    codeAny (model prog w) A (.call (.builtin "re.Pattern.sub") ⟨[.ref P, .str r tr, .str x tx], []⟩) R s := by
  refine codeAny_call_builtin slot_sub.plain entry_sub (slot_sub.check _ _ _ _ _ _ _ _ ⟨_, hP, rfl⟩ (args_sub _ _ _) ?_)
  unfold Builtin.«re.Pattern.sub» reSubstitute
  dsimp only
  rw [named_sub]
  refine wpAny_bind (wpAny_pure ?_)
  dsimp only
  refine wpAny_bind (wpAny_pure ?_)
  refine wpAny_bind (special_str ?_)
  simp only [Option.isSome_none, Bool.false_eq_true, if_false, asStr?]
  refine wpAny_bind (wpAny_pure ?_)
  dsimp only
  rw [hr]
  refine wpAny_bind (wpAny_pure ?_)
  simp only [Bool.not_false, if_true]
  refine wpAny_bind (wpAny_pure ?_)
  dsimp only
  refine wpAny_bind (wpAny_holding (whole_wp hP hC ?_))
  rw [if_neg (by decide)]
  refine wpAny_bind (wpAny_newObj_type ?_)
  exact wpAny_pure ⟨Code.quiet_builtin _ (by decide +kernel), h⟩

/-- a turn that finds -/
theorem subloop_found {P C l : Addr} {ps : Str} {pt : Tok} {fl : Int} {ft : Tok} {codes : Array Value} {x r : Str} {tx tr : Tok} {n : Int} {its : Array Value} {ep k : Nat} {m : Sre.M}
    (hP : s.heap.get? P = some (patObj ps pt fl ft C)) (hC : s.heap.get? C = some { cls := .type "tuple", data := .seq codes })
    (hl : s.heap.get? l = some { cls := .type "list", data := .seq its ep }) (hsz : its.size ≤ sizeLine) (hk : k < 2 ^ 64)
    (hm : (Sre.M.runFor (4 * (k + 1)) (Sre.forSearch ((codes.map reRawOf).map (·.toNat)) x.cps 0 0 x.cps.size false)) = m) (ho : m.outcome = some .matched) (h0 : m.start = 0) (h1 : m.handed = 1)
    (h : ∀ h', Heap.SameBut l s.heap h' → h'.get? l = some { cls := .type "list", data := .seq (its.push (.str r tr)) (ep + 1) } →
      codeAny (model prog w) A (.builtin "re.Pattern.sub.loop" ⟨[.ref P, .str x tx, .str r tr, rawInt 0, rawInt 0, rawInt (n + 1), rawInt 1, rawInt 1, .bool false, .ref l, .bool false], []⟩) R { s with heap := h' }) :
    codeAny (model prog w) A (.builtin "re.Pattern.sub.loop" ⟨[.ref P, .str x tx, .str r tr, rawInt 0, rawInt 0, rawInt n, rawInt 0, rawInt 0, .bool false, .ref l, .bool false], []⟩) R s := by
  refine code_entry entry_subloop ?_
  unfold Builtin.«re.Pattern.sub.loop» rawInt
  dsimp only
  refine wpAny_bind (whole_wp hP hC ?_)
  simp only [show ((0 : Int) == 0) = true from rfl, if_true, reLiteralCannotBeTurned, asStr?]
  refine wpAny_bind (wpAny_bind (wpAny_pure ?_))
  rw [if_neg (show ¬ ((some r).isNone = true) from Bool.false_ne_true)]
  refine wpAny_pure ?_
  rw [if_neg (show ¬ (((0 : Int) != 0 && decide (n ≥ 0)) = true) from Bool.false_ne_true)]
  refine wpAny_bind ?_
  unfold reNextFound
  refine runToEnd_wp k _ hk ?_
  dsimp only
  rw [show Int.toNat 0 = 0 from rfl, hm, ho]
  dsimp only
  rw [h0, if_neg (Nat.lt_irrefl 0)]
  refine wpAny_bind (wpAny_pure ?_)
  rw [if_pos (show (Value.str r tr != Value.none) = true from rfl)]
  refine wpAny_bind (wpAny_updateSeq hl rfl ?_)
  refine wpAny_pure ⟨Code.quiet_builtin _ (by decide +kernel), ?_⟩
  rw [h1]
  refine h _ (Heap.SameBut.update ..) ?_
  rw [Heap.get?_update_self _ hl rfl]
  simp [Obj.mapSeq]

/-- a turn that does not find -/
theorem subloop_end {P C l : Addr} {ps : Str} {pt : Tok} {fl : Int} {ft : Tok} {codes : Array Value} {x r : Str} {tx tr : Tok} {n : Int} {its : Array Value} {ep k d : Nat} {ys : List Str}
    (hP : s.heap.get? P = some (patObj ps pt fl ft C)) (hC : s.heap.get? C = some { cls := .type "tuple", data := .seq codes })
    (hl : s.heap.get? l = some { cls := .type "list", data := .seq its ep }) (hi : StrsAre its.toList ys) (hk : k < 2 ^ 64) (hx : x.cps.size ≤ 1000) (hy : (ys.map (·.length)).sum + ys.length ≤ 1000)
    (ho : (Sre.M.runFor (4 * (k + 1)) (Sre.forSearch ((codes.map reRawOf).map (·.toNat)) x.cps 0 d x.cps.size false)).outcome = some .failed) (hd : d < x.cps.size ∨ ys ≠ [])
    (h : ∀ h' t tk, Heap.SameBut l s.heap h' → R (.ok (.ret (.str (Txt.join Str.empty (ys ++ (if d < x.cps.size then [⟨x.cps.extract d x.cps.size⟩] else []))) t))) { s with heap := h', toks := tk }) :
    codeAny (model prog w) A (.builtin "re.Pattern.sub.loop" ⟨[.ref P, .str x tx, .str r tr, rawInt 0, rawInt 0, rawInt n, rawInt d, rawInt d, .bool false, .ref l, .bool false], []⟩) R s := by
  refine code_entry entry_subloop ?_
  unfold Builtin.«re.Pattern.sub.loop» rawInt
  dsimp only
  refine wpAny_bind (whole_wp hP hC ?_)
  simp only [show ((0 : Int) == 0) = true from rfl, if_true, reLiteralCannotBeTurned, asStr?]
  refine wpAny_bind (wpAny_bind (wpAny_pure ?_))
  rw [if_neg (show ¬ ((some r).isNone = true) from Bool.false_ne_true)]
  refine wpAny_pure ?_
  rw [if_neg (show ¬ (((0 : Int) != 0 && decide (n ≥ 0)) = true) from Bool.false_ne_true)]
  refine wpAny_bind ?_
  unfold reNextFound
  refine runToEnd_wp k _ hk ?_
  dsimp only
  rw [Int.toNat_natCast, ho]
  dsimp only
  have hemp : (⟨x.cps.extract 0 0⟩ : Str) = Str.empty := by simp [Str.empty]
  have hsl : ∀ (b e : Nat), reSlice x.cps 0 b e = mkStr ⟨x.cps.extract b e⟩ := fun _ _ => rfl
  generalize (A.under (Code.builtin "re.Pattern.sub.loop" { pos := [Value.ref P, Value.str x tx, Value.str r tr, Value.int 0 0, Value.int 0 0, Value.int n 0, Value.int (↑d) 0, Value.int (↑d) 0, Value.bool false, Value.ref l, Value.bool false] })) = A'
  have hil := strs_len hi
  have hits : its.size ≤ sizeLine := by
    rw [sizeLine_eq, ← Array.length_toList, hil]; omega
  by_cases hlt : d < x.cps.size
  · rw [if_pos hlt, hsl, hsl, hemp]
    rw [if_pos hlt] at h
    have hex : (⟨x.cps.extract d x.cps.size⟩ : Str).length ≤ x.cps.size := by show (x.cps.extract d x.cps.size).size ≤ _; rw [Array.size_extract]; omega
    refine wpAny_bind (wpAny_mkStr ?_ (by rw [sizeLine_eq]; omega))
    refine wpAny_bind (wpAny_updateSeq hl rfl ?_)
    have hl2 := Heap.get?_update_self (Obj.mapSeq fun z => z.push (.str ⟨x.cps.extract d x.cps.size⟩ s.toks)) hl rfl
    simp only [Obj.mapSeq, Array.size_push] at hl2
    rw [if_neg (by simp)] at hl2
    refine wpAny_bind (wpAny_mkStr ?_ (Nat.zero_le _))
    refine wpAny_bind (wpAny_seqItems hl2 rfl ?_)
    rw [if_neg (by simp)]
    refine wpAny_bind ?_
    show wpAny _ _ (call (.builtin "str.join") [_, _]) _ _ _
    refine join_listC (ys := ys ++ [⟨x.cps.extract d x.cps.size⟩]) ⟨_, hl2, rfl, _, rfl⟩ ?_ (by decide) ?_ fun t' k' => ?_
    · rw [Array.toList_push]; exact strs_snoc hi _ _
    · simp only [List.map_append, List.map_cons, List.map_nil, List.sum_append, List.sum_cons, List.sum_nil, List.length_append, List.length_cons, List.length_nil]
      omega
    · rw [if_neg Bool.false_ne_true]
      exact wpAny_pure (h _ _ _ (Heap.SameBut.update ..))
  · rw [if_neg hlt, hsl, hemp]
    rw [if_neg hlt] at h
    have hne : ys ≠ [] := hd.resolve_left hlt
    refine wpAny_bind (wpAny_mkStr ?_ (Nat.zero_le _))
    refine wpAny_bind (wpAny_seqItems hl rfl ?_)
    rw [if_neg (show ¬ (((some its).getD #[]).isEmpty = true) from by
      intro e
      have e' : its = #[] := by simpa using e
      rw [e'] at hil
      exact hne (List.length_eq_zero_iff.mp hil.symm))]
    refine wpAny_bind ?_
    show wpAny _ _ (call (.builtin "str.join") [_, _]) _ _ _
    refine join_listC (ys := ys ++ []) ⟨_, hl, rfl, _, rfl⟩ ?_ (by decide) ?_ fun t' k' => ?_
    · rw [List.append_nil]; exact hi
    · rw [List.append_nil]; omega
    · rw [if_neg Bool.false_ne_true]
      exact wpAny_pure (h _ _ _ ⟨rfl, fun _ _ => rfl⟩)
end
end Mine
end

section
open PySem PySem.W PySem.Calls PyProof.Rows
set_option Elab.async false
set_option maxRecDepth 100000
set_option maxHeartbeats 2000000
namespace Mine
open PySem.Builtin PySem.Builtin.Re
/-- a row of dots, as a text -/
def dots (n : Nat) : Str := ⟨dotsA n⟩
theorem dots_size (n : Nat) : (dots n).cps.size = n := by simp [dots, dotsA]
theorem dots_len (n : Nat) : (dots n).length = n := dots_size n
theorem re1_fail {n : Nat} (h1 : 1 ≤ n) (h2 : n ≤ 44) : (Sre.M.runFor (4 * (n + 1 + 1)) (Sre.forSearch code1 (dots n).cps 0 1 n false)).outcome = some .failed := by
  have h := List.all_eq_true.mp re1_fails (n - 1) (List.mem_range.mpr (by omega))
  rw [show n - 1 + 1 = n by omega, show n - 1 + 3 = n + 1 + 1 by omega] at h
  unfold failsAt at h
  split at h
  · assumption
  · cases h
theorem re1_find {n : Nat} (h1 : 1 ≤ n) (h2 : n ≤ 44) : (Sre.M.runFor (4 * (1 + 1)) (Sre.forSearch code1 (dots n).cps 0 0 n false)).outcome = some .matched ∧
    (Sre.M.runFor (4 * (1 + 1)) (Sre.forSearch code1 (dots n).cps 0 0 n false)).start = 0 ∧ (Sre.M.runFor (4 * (1 + 1)) (Sre.forSearch code1 (dots n).cps 0 0 n false)).handed = 1 := by
  have h := List.all_eq_true.mp re1_finds (n - 1) (List.mem_range.mpr (by omega))
  rw [show n - 1 + 1 = n by omega] at h
  unfold findsAt at h
  simp only [Bool.and_eq_true, beq_iff_eq] at h
  obtain ⟨⟨h, h3⟩, h4⟩ := h
  refine ⟨?_, h3, h4⟩
  split at h
  · assumption
  · cases h
theorem re2_fail {n : Nat} (h2 : n ≤ 44) : (Sre.M.runFor (4 * (1 + 1)) (Sre.forSearch code2 (dots n).cps 0 0 n false)).outcome = some .failed := by
  have h := List.all_eq_true.mp re2_fails n (List.mem_range.mpr (by omega))
  unfold failsAt at h
  split at h
  · assumption
  · cases h
theorem join_dots (n : Nat) (h1 : 1 ≤ n) : Txt.join Str.empty ([dots 2] ++ (if 1 < n then [⟨(dots n).cps.extract 1 n⟩] else [])) = dots (n + 1) := by
  have e : (dots n).cps.extract 1 n = dotsA (n - 1) := by
    unfold dots dotsA
    simp
  by_cases h : 1 < n
  · rw [if_pos h, e]
    show Builtin.Str.glued _ _ = _
    rw [StrLaws.glued_eq_join]
    show (⟨dotsA 2 ++ #[] ++ dotsA (n - 1)⟩ : Str) = ⟨dotsA (n + 1)⟩
    congr 1
    unfold dotsA
    simp only [Array.append_empty, List.append_toArray, List.replicate_append_replicate]
    rw [show 2 + (n - 1) = n + 1 by omega]
  · obtain rfl : n = 1 := by omega
    rfl
theorem join_one (n : Nat) (h1 : 1 ≤ n) : Txt.join Str.empty ([] ++ (if 0 < n then [⟨(dots n).cps.extract 0 n⟩] else [])) = dots n := by
  have e : (dots n).cps.extract 0 n = dotsA n := by
    unfold dots dotsA
    simp
  rw [if_pos (by omega), e]
  rfl

def codeV1 : Array Value := #[.int 14 0, .int 4 0, .int 0 0, .int 1 0, .int 1 0, .int 6 0, .int 1 0, .int 16 0, .int 46 0, .int 1 0]
def codeV2 : Array Value := #[.int 14 0, .int 9 0, .int 4 0, .int 1 0, .int 2 0, .int 16 0, .int 10 0, .int 16 0, .int 13 0, .int 0 0, .int 7 0, .int 7 0, .int 16 0, .int 13 0, .int 16 0, .int 10 0, .int 15 0, .int 18 0, .int 5 0, .int 16 0, .int 10 0, .int 15 0, .int 13 0, .int 11 0, .int 16 0, .int 13 0, .int 5 0, .int 5 0, .int 0 0, .int 16 0, .int 10 0, .int 1 0, .int 15 0, .int 2 0, .int 0 0, .int 1 0]
theorem codeV1_is : (codeV1.map reRawOf).map (·.toNat) = code1 := by decide +kernel
theorem codeV2_is : (codeV2.map reRawOf).map (·.toNat) = code2 := by decide +kernel
theorem pat1_in {w : World} {h : Heap} (X : (KF w).In h) : h.get? 85 = some (patObj (Str.ofString "(?m)^\\.") 361 40 374 84) ∧ h.get? 84 = some { cls := .type "tuple", data := .seq codeV1 } :=
  ⟨X 85 _ rfl, X 84 _ rfl⟩
theorem pat2_in {w : World} {h : Heap} (X : (KF w).In h) : h.get? 90 = some (patObj (Str.ofString "(?:\\r\\n|\\n|\\r(?!\\n))") 377 32 416 89) ∧ h.get? 89 = some { cls := .type "tuple", data := .seq codeV2 } :=
  ⟨X 90 _ rfl, X 89 _ rfl⟩
section
variable {prog : Program} {w : World} {A : Around} {E : Value → Shared → Prop} {s : Shared} {Q : Value → Shared → Prop}
theorem sub_method {P C : Addr} {ps : Str} {pt : Tok} {fl : Int} {ft : Tok} {pl : Sem Bool} {Q : Value × List Value → Shared → Prop} (hP : s.heap.get? P = some (patObj ps pt fl ft C))
    (h : Q (.builtin "re.Pattern.sub", [.ref P]) s) : wpAny (model prog w) A (getMethod (.ref P) "sub" pl) Q E s :=
  getMethod_builtin ⟨_, hP, rfl⟩ plainAttrs_re slot_sub type_sub (fun a e => by cases e; exact ⟨_, hP, rfl⟩) h
theorem push_keep {h : Heap} (o : Obj) : ∀ b x, h.get? b = some x → (h.push o).get? b = some x := fun _ _ e => Heap.get?_push_of_some _ e
theorem sub2_call (X : (KF w).In s.heap) {n : Nat} (h1 : 1 ≤ n) (h2 : n ≤ 44) {t1 t2 : Tok}
    (h : ∀ h' t tk, (∀ b o, s.heap.get? b = some o → h'.get? b = some o) → Q (.str (dots n) t) { s with heap := h', toks := tk }) :
    wpAny (model prog w) A (call (.builtin "re.Pattern.sub") [.ref 90, .str (Str.ofString "\r\n") t1, .str (dots n) t2]) Q E s := by
  obtain ⟨hP, hC⟩ := pat2_in X
  refine wpAny_call (sub_wp hP hC (by decide +kernel) ?_)
  have hk := push_keep (h := s.heap) { cls := .type "list", data := .seq #[] }
  refine subloop_end (ys := []) (k := 1) (d := 0) (ep := 0) (hk _ _ hP) (hk _ _ hC) (Heap.get?_push_size _ rfl) .nil (by decide) (by rw [dots_size]; omega) (by decide) ?_ (.inl (by rw [dots_size]; omega)) fun h' t tk hs => ?_
  · rw [codeV2_is, dots_size]; exact re2_fail h2
  · rw [dots_size, join_one n h1]
    exact h h' t tk fun b o e => hs.extBut _ _ (Nat.ne_of_lt (Heap.lt_size e)) (hk _ _ e)
theorem sub1_call (X : (KF w).In s.heap) {n : Nat} (h1 : 1 ≤ n) (h2 : n ≤ 44) {t1 t2 : Tok}
    (h : ∀ h' t tk, (∀ b o, s.heap.get? b = some o → h'.get? b = some o) → Q (.str (dots (n + 1)) t) { s with heap := h', toks := tk }) :
    wpAny (model prog w) A (call (.builtin "re.Pattern.sub") [.ref 85, .str (Str.ofString "..") t1, .str (dots n) t2]) Q E s := by
  obtain ⟨hP, hC⟩ := pat1_in X
  refine wpAny_call (sub_wp hP hC (by decide +kernel) ?_)
  have hk := push_keep (h := s.heap) { cls := .type "list", data := .seq #[] }
  obtain ⟨f1, f2, f3⟩ := re1_find h1 h2
  refine subloop_found (k := 1) (ep := 0) (hk _ _ hP) (hk _ _ hC) (Heap.get?_push_size _ rfl) (by decide) (by decide) rfl (by rw [codeV1_is, dots_size]; exact f1) (by rw [codeV1_is, dots_size]; exact f2) (by rw [codeV1_is, dots_size]; exact f3) fun h' hs hl => ?_
  have hk2 : ∀ b o, s.heap.get? b = some o → h'.get? b = some o := fun b o e => hs.extBut _ _ (Nat.ne_of_lt (Heap.lt_size e)) (hk _ _ e)
  refine subloop_end (ys := [dots 2]) (k := n + 1) (d := 1) (hk2 _ _ hP) (hk2 _ _ hC) hl (.cons _ _ .nil) (by omega) (by rw [dots_size]; omega) (by decide) ?_ (.inr (by simp)) fun h'' t tk hs2 => ?_
  · rw [codeV1_is, dots_size]; exact re1_fail h1 h2
  · rw [dots_size, join_dots n h1]
    exact h h'' t tk fun b o e => hs2.extBut _ _ (Nat.ne_of_lt (Heap.lt_size e)) (hk2 _ _ e)
end

theorem quote_spec (w : World) (n : Nat) (h1 : 1 ≤ n) (h2 : n ≤ 44) (t : Tok) :
    PSpec 1 97 w [.str (dots n) t] (fun _ _ v => ∃ t', v = .str (dots (n + 1)) t') := by
  unfold PSpec PR KF LO
  k_fill
  intro mean mg mb dp un gd cn scp a ccd cl outer A₀ base h₀ L m s Q E B F X T hk hroom hunits hret
  refine wpAny_call ?_
  k_dflt (refine' code_defP ?k1 ?k2 ?k3 ?k5 ?kA ?kF ?kK ?k6 ?k7 ?k8 ?k9 ?kB ?_ ?c2 ?c3 ?c4 ?c5; (case kA => exact rfl); (case kF => exact rfl); (case kK => assumption); (case k1 => k_asm); (case k2 => k_asm); (case k3 => k_asm); (case k5 => k_asm); (case k6 => k_is); (case k7 => k_is); (case k8 => ktr_room); (case k9 => exact BindsTo.of_eq rfl); (case c5 => decide); (case kB => exact locs rfl); (case c2 => exact rfl); (case c3 => exact rfl); (case c4 => exact rfl); k_whole; intro g' L' h' hg' FG' F' N' B' X' T'; (try dsimp only); (try k_lift B'); (try k_fold))
  w_on
  iterate 5 (first | walk1 | (dsimp only; walk1))
  refine sub_method (pat1_in (Frag.In.keeps X' (Fr.keep F'))).1 ?_
  dsimp only
  iterate 6 (first | walk1 | (dsimp only; walk1))
  refine sub_method (pat2_in (Frag.In.keeps X' (Fr.keep F'))).1 ?_
  dsimp only
  iterate 6 (first | walk1 | (dsimp only; walk1))
  (show wpAny _ _ (call (Value.builtin "re.Pattern.sub") [Value.ref 90, Value.str _ _, Value.str _ _]) _ _ _)
  refine sub2_call (Frag.In.keeps X' (Fr.keep F')) h1 h2 fun h7 t7 tk7 hk7 => ?_
  have F7 := Fr.keeps F' hk7
  have N7 : News g' L' h7 [] := News.nil
  iterate 1 (first | walk1 | (dsimp only; walk1))
  (show wpAny _ _ (call (Value.builtin "re.Pattern.sub") [Value.ref 85, Value.str _ _, Value.str _ _]) _ _ _)
  refine sub1_call (Frag.In.keeps X' (Fr.keep F7)) h1 h2 fun h8 t8 tk8 hk8 => ?_
  have F8 := Fr.keeps F7 hk8
  have N8 : News g' L' h8 [] := News.nil
  k_steps
  subst hg'
  exact hret _ _ _ F8.keep ⟨_, rfl⟩
end Mine
end

section
open PySem PySem.W PySem.Calls PyProof.Rows
set_option Elab.async false
set_option maxRecDepth 100000
set_option maxHeartbeats 2000000
namespace Mine
/-- the same, with a word on the heap that is met -/
abbrev HSpec (lv : Nat) (f : Addr) (w : World) (vs : List Value) (Pre : Heap → Prop) (Ret : Heap → Heap → Value → Prop) : Prop :=
  ∀ (mean : ExcName → Option Value) (mg mb : Str → Option Value) (dp un : Nat) (gd : Option (List Code)) (cn : Str) (cs : Scope) (a : Addr) (ccd : Value) (cl : List (Str × Addr)) (outer : List Env) (A₀ : Around) (base h₀ : Heap) (L : Addr) (m : Str → Option Value) (s : Shared) (Q E : Value → Shared → Prop),
    Below A₀ base outer h₀ → Fr h₀ L s.heap m → (KF w).In h₀ → Top topProg LO mean mg mb h₀ → cs.kind = .function →
    dp + lv < recursionLimit → un + 20 * lv + 20 < cLine → Pre s.heap →
    (∀ v h' tk', (∀ b o, s.heap.get? b = some o → h'.get? b = some o) → Ret s.heap h' v → Q v { s with heap := h', toks := tk' }) →
      wpAny (model PR w) (ktrTop dp un gd cn cs L a ccd cl outer) (call (.ref f) vs) Q E s

section
variable {prog : Program} {w : World} {A : Around} {E : Value → Shared → Prop} {s : Shared} {h₀ : Heap} {m : Str → Option Value} {env : Env} {news : List (Addr × Obj)} {Q : Flow → Shared → Prop}

/-- the end of a turn -/
def TurnEnd (h₀ : Heap) (L : Addr) (s : Shared) (I : Addr) (oI : Obj) (J : (Str → Option Value) → List (Addr × Obj) → Prop) (f : Flow) (s₃ : Shared) : Prop :=
  (f = .next ∨ f = .cont) ∧ ∃ h' tk' m₂ news₂, s₃ = { s with heap := h', toks := tk' } ∧ J m₂ news₂ ∧ Fr h₀ L h' m₂ ∧ News h₀ L h' ((I, oI) :: news₂) ∧ LCg.Off1 I news₂
theorem turn_end {L : Addr} {I : Addr} {oI : Obj} {J : (Str → Option Value) → List (Addr × Obj) → Prop} {h' : Heap} {tk' : Nat} {m₂ : Str → Option Value} {news₂ all : List (Addr × Obj)}
    (hj : J m₂ news₂) (F : Fr h₀ L h' m₂) (N : News h₀ L h' all) (hs : ∀ p ∈ (I, oI) :: news₂, p ∈ all) (ho : LCg.Off1 I news₂) : TurnEnd h₀ L s I oI J .next { s with heap := h', toks := tk' } :=
  ⟨.inl rfl, h', tk', m₂, news₂, rfl, hj, F, fun p hp => N p (hs p hp), ho⟩
theorem off_mem {I : Addr} : ∀ {l : List (Addr × Obj)}, LCg.Off1 I l → ∀ p ∈ l, p.1 ≠ I
  | [], _, _, h => nomatch h
  | _ :: _, x, p, h => by
    rcases List.mem_cons.mp h with rfl | h
    · exact x.1
    · exact off_mem x.2 p h
theorem off_of {I : Addr} : ∀ {l : List (Addr × Obj)}, (∀ p ∈ l, p.1 ≠ I) → LCg.Off1 I l
  | [], _ => trivial
  | _ :: _, h => ⟨h _ (.head _), off_of fun p hp => h p (.tail _ hp)⟩

theorem for_core {x : Str} {px : Pos} {body : List Stmt} {I : Addr} {fp : List Addr} {n : Nat} {P : Nat → Value → Prop} {St : Nat → Heap → Prop} {R : Result → Shared → Prop}
    (J : Nat → (Str → Option Value) → List (Addr × Obj) → Prop) (W : Walks prog w A I fp [I] n P St)
    (hIo : ∀ i h, St i h → ∃ o, h.get? I = some o)
    (hSt : ∀ i h h' o m₁ news₁, St i h → h.get? I = some o → h'.get? I = some o → Fr h₀ env.locals h' m₁ → News h₀ env.locals h' news₁ → J i m₁ news₁ → St i h')
    (hSt' : ∀ i h h' v, St i h → env.locals ≠ I → Heap.SameBut env.locals h h' → Fr h₀ env.locals h v → St i h')
    (hx : env.kindOf x = some .local) (hp : (env.scope.kind == .class || (env.scope.kind == .module && env.locals != env.globals)) = false)
    (hst : St 0 s.heap) (F : Fr h₀ env.locals s.heap m) (N : News h₀ env.locals s.heap news) (hI : I ≠ env.locals) (hI₀ : h₀.get? I = none) (off : ∀ p ∈ news, p.1 ≠ I) (hj : J 0 m news)
    (turn : ∀ i v m₁ news₁ h tk oI, i < n → P i v → J i m₁ news₁ → LCg.Off1 I news₁ → Fr h₀ env.locals h (fun y => if y = x then some v else m₁ y) → News h₀ env.locals h ((I, oI) :: news₁) →
      wpAny (model prog w) A (execs body env) (TurnEnd h₀ env.locals { s with heap := h, toks := tk } I oI (J (i + 1))) (fun _ _ => False) { s with heap := h, toks := tk })
    (done : ∀ m₁ news₁ h tk, J n m₁ news₁ → Fr h₀ env.locals h m₁ → News h₀ env.locals h news₁ → R (.ok .next) { s with heap := h, toks := tk }) :
    codeAny (model prog w) A (.forLoop (.Name x px) (.ref I) body [] env) R s := by
  refine codeAny_forLoop_any
    (fun k s' => ∃ h' tk i m₁ news₁, s' = { s with heap := h', toks := tk } ∧ i ≤ n ∧ k = n + 1 - i ∧ St i h' ∧ J i m₁ news₁ ∧ Fr h₀ env.locals h' m₁ ∧ News h₀ env.locals h' news₁ ∧ ∀ p ∈ news₁, p.1 ≠ I) ?_ (n + 1)
    ⟨s.heap, s.toks, 0, m, news, rfl, Nat.zero_le _, rfl, hst, hj, F, N, off⟩
  rintro k s' ⟨h', tk, i, m₁, news₁, rfl, hi, rfl, hst', hJ, F', N', off'⟩
  by_cases hlt : i < n
  · refine W.item i _ _ _ hlt hst' fun v h₂ tk₂ hP hst₂ hk₂ => ?_
    refine wpAny_of_eq (rfl : letOwnedTupleGo (.Name x px) (.ref I) v = pure ()) ?_
    have F₂ : Fr h₀ env.locals h₂ m₁ := ⟨F'.ns.at' fun o e => hk₂ _ o (by simpa using Ne.symm hI) e, fun b o e => hk₂ b o (fun hm => by rw [List.mem_singleton.mp hm, hI₀] at e; cases e) (F'.keep b o e), F'.above⟩
    have N₂ : News h₀ env.locals h₂ news₁ := fun p hp => ⟨hk₂ _ _ (by simpa using off' p hp) (N' p hp).1, (N' p hp).2⟩
    refine wpAny_assign_Name (wpAny_storeName_local hx F₂.ns (fun h₃ hn₃ hs₃ => ?_) hp)
    have F₃ := F₂.set hn₃ hs₃
    have N₃ := N₂.set hs₃
    have hst₃ : St (i + 1) h₃ := hSt' _ _ _ _ hst₂ (Ne.symm hI) hs₃ F₂
    obtain ⟨oI, heI⟩ := hIo _ _ hst₃
    have N₄ : News h₀ env.locals h₃ ((I, oI) :: news₁) := fun p hp => by
      rcases List.mem_cons.mp hp with rfl | hp
      · exact ⟨heI, hI, hI₀⟩
      · exact N₃ p hp
    refine wpAny_mono (turn i v m₁ news₁ h₃ _ oI hlt hP hJ (off_of off') F₃ N₄) (fun f s₃ hf => ?_) fun _ _ e => e.elim
    obtain ⟨hf, h₅, tk₅, m₂, news₂, rfl, hJ₂, F₅, N₅, off₅⟩ := hf
    have hI₅ : h₅.get? I = some oI := (N₅ _ (.head _)).1
    have N₆ : News h₀ env.locals h₅ news₂ := fun p hp => N₅ p (.tail _ hp)
    have fin : ∃ k', k' < n + 1 - i ∧ ∃ h' tk i m₁ news₁, ({ s with heap := h₅, toks := tk₅ } : Shared) = { s with heap := h', toks := tk } ∧ i ≤ n ∧ k' = n + 1 - i ∧ St i h' ∧ J i m₁ news₁ ∧ Fr h₀ env.locals h' m₁ ∧ News h₀ env.locals h' news₁ ∧ ∀ p ∈ news₁, p.1 ≠ I :=
      ⟨n + 1 - (i + 1), by omega, h₅, tk₅, i + 1, m₂, news₂, rfl, hlt, rfl, hSt _ _ _ _ _ _ hst₃ heI hI₅ F₅ N₆ hJ₂, hJ₂, F₅, N₆, off_mem off₅⟩
    rcases hf with rfl | rfl
    · exact fin
    · exact fin
  · obtain rfl : i = n := Nat.le_antisymm hi (Nat.not_lt.mp hlt)
    refine W.done _ _ _ hst' fun h₂ tk₂ hk₂ => ?_
    have F₂ : Fr h₀ env.locals h₂ m₁ := ⟨F'.ns.at' fun o e => hk₂ _ o (by simpa using Ne.symm hI) e, fun b o e => hk₂ b o (fun hm => by rw [List.mem_singleton.mp hm, hI₀] at e; cases e) (F'.keep b o e), F'.above⟩
    have N₂ : News h₀ env.locals h₂ news₁ := fun p hp => ⟨hk₂ _ _ (by simpa using off' p hp) (N' p hp).1, (N' p hp).2⟩
    exact wpAny_execs_nil (done m₁ news₁ h₂ tk₂ hJ F₂ N₂)

/-- for x in a list: what holds between the turns -/
theorem for_list {x : Str} {px : Pos} {iter : PySem.Expr} {body : List Stmt} {pos : Pos} {l : Addr} {its : Array Value}
    (J : Nat → (Str → Option Value) → List (Addr × Obj) → Prop) (hh : A.handled = none) (hx : env.kindOf x = some .local) (hp : (env.scope.kind == .class || (env.scope.kind == .module && env.locals != env.globals)) = false)
    (F : Fr h₀ env.locals s.heap m) (N : News h₀ env.locals s.heap news) (hl : s.heap.IsList l its) (hlL : l ≠ env.locals) (hj : J 0 m news)
    (hsrc : ∀ i m₁ news₁ h, J i m₁ news₁ → Fr h₀ env.locals h m₁ → News h₀ env.locals h news₁ → h.IsList l its)
    (turn : ∀ i v m₁ news₁ h tk I oI, i < its.size → its[i]? = some v → J i m₁ news₁ → LCg.Off1 I news₁ → Fr h₀ env.locals h (fun y => if y = x then some v else m₁ y) → News h₀ env.locals h ((I, oI) :: news₁) →
      wpAny (model prog w) A (execs body env) (TurnEnd h₀ env.locals { s with heap := h, toks := tk } I oI (J (i + 1))) (fun _ _ => False) { s with heap := h, toks := tk })
    (done : ∀ m₁ news₁ h tk, J its.size m₁ news₁ → Fr h₀ env.locals h m₁ → News h₀ env.locals h news₁ → Q .next { s with heap := h, toks := tk })
    (hev : ∀ Q' : Value → Shared → Prop, Q' (.ref l) s → wpAny (model prog w) A (eval iter env) Q' E s)
    (hs : ∀ x, foldedSetIterable iter env x = pure x := by intro _; rfl) :
    wpAny (model prog w) A (exec (.For (.Name x px) iter body [] pos) env) Q E s := by
  refine wpAny_For (hev _ ?_) hs
  have hlt : l < s.heap.objs.size := by obtain ⟨_, e, _⟩ := hl; exact Heap.lt_size e
  have hne : l ≠ s.heap.objs.size := Nat.ne_of_lt hlt
  refine wpAny_pyIter_list hl ?_
  refine for_core (s := { s with heap := _ }) J (Walks.list hh s.heap.objs.size l hne its) (fun i h st => by obtain ⟨o, e, _⟩ := st.1; exact ⟨o, e⟩)
    (fun i h h' o m₁ news₁ st e e' F₁ N₁ hJ => ⟨by obtain ⟨o', q, r⟩ := st.1; rw [e] at q; cases q; exact ⟨o, e', r⟩, hsrc i m₁ news₁ h' hJ F₁ N₁⟩)
    (fun i h h' v st hne' hs' F₁ => ⟨st.1.extBut hs'.extBut (Ne.symm hne'), st.2.extBut hs'.extBut hlL⟩)
    hx hp ⟨⟨_, Heap.get?_push_size _ rfl, rfl, rfl⟩, hl.push _⟩ (F.push _) (fun p hp => ⟨Heap.get?_push_of_some _ (N p hp).1, (N p hp).2⟩) (Nat.ne_of_gt F.ns.lt) (next_is_new F) (fun p hp => Nat.ne_of_lt (Heap.lt_size (N p hp).1)) hj ?_ ?_
  · intro i v m₁ news₁ h tk oI hi hP hJ off F₁ N₁
    exact turn i v m₁ news₁ h tk _ oI hi hP hJ off F₁ N₁
  · intro m₁ news₁ h tk hJ F₁ N₁
    exact done m₁ news₁ h tk hJ F₁ N₁

/-- for x in range(n), the range made here -/
theorem for_range {x : Str} {px : Pos} {iter : PySem.Expr} {body : List Stmt} {pos : Pos} {n : Nat}
    (J : Nat → (Str → Option Value) → List (Addr × Obj) → Prop) (hh : A.handled = none) (hx : env.kindOf x = some .local) (hp : (env.scope.kind == .class || (env.scope.kind == .module && env.locals != env.globals)) = false)
    (hn : n < 100) (_F : Fr h₀ env.locals s.heap m) (_N : News h₀ env.locals s.heap news) (hj : J 0 m news)
    (hev : wpAny (model prog w) A (eval iter env) (fun v s₁ => ∃ r h' tk t u t', v = .ref r ∧ s₁ = { s with heap := h', toks := tk } ∧ IsRange h' r 0 n 1 t u t' ∧ Fr h₀ env.locals h' m ∧ News h₀ env.locals h' news) E s)
    (turn : ∀ i m₁ news₁ h tk t I oI, i < n → J i m₁ news₁ → LCg.Off1 I news₁ → Fr h₀ env.locals h (fun y => if y = x then some (.int i t) else m₁ y) → News h₀ env.locals h ((I, oI) :: news₁) →
      wpAny (model prog w) A (execs body env) (TurnEnd h₀ env.locals { s with heap := h, toks := tk } I oI (J (i + 1))) (fun _ _ => False) { s with heap := h, toks := tk })
    (done : ∀ m₁ news₁ h tk, J n m₁ news₁ → Fr h₀ env.locals h m₁ → News h₀ env.locals h news₁ → Q .next { s with heap := h, toks := tk })
    (hs : ∀ x, foldedSetIterable iter env x = pure x := by intro _; rfl) :
    wpAny (model prog w) A (exec (.For (.Name x px) iter body [] pos) env) Q E s := by
  refine wpAny_For (wpAny_mono hev (fun v s₁ h₁ => ?_) fun _ _ e => e) hs
  obtain ⟨r, h', tk, t, u, t', rfl, rfl, hr, F, N⟩ := h₁
  have hsz : Builtin.Range.rangeSize 0 (n : Int) 1 = ((n : Nat) : Int) := by
    unfold Builtin.Range.rangeSize
    split <;> (try split) <;> omega
  have hsm : Builtin.Range.small 0 (n : Int) 1 = true := by
    unfold Builtin.Range.small
    rw [hsz]
    unfold Builtin.Range.rangeFitsLong
    simp only [Bool.and_eq_true, Bool.or_eq_true, decide_eq_true_eq, beq_iff_eq]
    refine ⟨⟨⟨⟨?_, ?_⟩, ?_⟩, ?_⟩, ?_⟩ <;> (try split) <;> simp <;> omega
  refine wpAny_pyIter_range hr hsm ?_
  refine for_core (s := { s with heap := _, toks := tk }) J (LCg.range_walks hh 0 n) (fun i h st => ⟨_, st⟩)
    (fun i h h' o m₁ news₁ st e e' F₁ N₁ hJ => by
      have st' : h.get? _ = some _ := st
      show h'.get? _ = some _
      rw [e', ← e]; exact st')
    (fun i h h' v st hne' hs' F₁ => hs'.extBut _ _ (Ne.symm hne') st)
    hx hp (by show IsRangeIter _ _ _ _ _; rw [hsz]; simpa using Heap.get?_push_size _ rfl) (F.push _) (fun p hp => ⟨Heap.get?_push_of_some _ (N p hp).1, (N p hp).2⟩) (Nat.ne_of_gt F.ns.lt) (next_is_new F) (fun p hp => Nat.ne_of_lt (Heap.lt_size (N p hp).1)) hj ?_ ?_
  · intro i v m₁ news₁ h tk oI hi hP hJ off F₁ N₁
    obtain ⟨t9, rfl⟩ := hP
    rw [Int.zero_add] at F₁
    exact turn i m₁ news₁ h tk t9 _ oI hi hJ off F₁ N₁
  · intro m₁ news₁ h tk hJ F₁ N₁
    exact done m₁ news₁ h tk hJ F₁ N₁

/-- the end of a while's turn -/
def LoopEnd (h₀ : Heap) (L : Addr) (s : Shared) (J : Nat → (Str → Option Value) → List (Addr × Obj) → Prop) (k : Nat) (f : Flow) (s₃ : Shared) : Prop :=
  (f = .next ∨ f = .cont) ∧ ∃ h' tk' m₂ news₂ k', s₃ = { s with heap := h', toks := tk' } ∧ k' < k ∧ J k' m₂ news₂ ∧ Fr h₀ L h' m₂ ∧ News h₀ L h' news₂
theorem loop_end {L : Addr} {J : Nat → (Str → Option Value) → List (Addr × Obj) → Prop} {k k' : Nat} {h' : Heap} {tk' : Nat} {m₂ : Str → Option Value} {news₂ all : List (Addr × Obj)}
    (hk : k' < k) (hj : J k' m₂ news₂) (F : Fr h₀ L h' m₂) (N : News h₀ L h' all) (hs : ∀ p ∈ news₂, p ∈ all) : LoopEnd h₀ L s J k .next { s with heap := h', toks := tk' } :=
  ⟨.inl rfl, h', tk', m₂, news₂, k', rfl, hk, hj, F, fun p hp => N p (hs p hp)⟩
/-- while: what holds between the turns, and a measure -/
theorem while_inv {test : PySem.Expr} {body : List Stmt} {pos : Pos} (J : Nat → (Str → Option Value) → List (Addr × Obj) → Prop) {n : Nat}
    (F : Fr h₀ env.locals s.heap m) (N : News h₀ env.locals s.heap news) (hj : J n m news)
    (turn : ∀ k m₁ news₁ h tk, J k m₁ news₁ → Fr h₀ env.locals h m₁ → News h₀ env.locals h news₁ →
      wpAny (model prog w) A (isTrue test env (eval test env)) (fun b s₂ =>
        if b then wpAny (model prog w) A (execs body env) (LoopEnd h₀ env.locals s J k) (fun _ _ => False) s₂
        else Q .next s₂) (fun _ _ => False) { s with heap := h, toks := tk }) :
    wpAny (model prog w) A (exec (.While test body [] pos) env) Q E s := by
  refine wpAny_While (codeAny_whileLoop (fun k s' => ∃ h' tk m₁ news₁, s' = { s with heap := h', toks := tk } ∧ J k m₁ news₁ ∧ Fr h₀ env.locals h' m₁ ∧ News h₀ env.locals h' news₁) ?_ n ⟨s.heap, s.toks, m, news, rfl, hj, F, N⟩)
  rintro k s' ⟨h', tk, m₁, news₁, rfl, hJ, F', N'⟩
  refine wpAny_mono (turn k m₁ news₁ h' tk hJ F' N') (fun b s₂ hb => ?_) fun _ _ e => e.elim
  cases b with
  | false => exact wpAny_execs_nil hb
  | true =>
    refine wpAny_mono hb (fun f s₃ hf => ?_) fun _ _ e => e.elim
    obtain ⟨hf, h₃, tk₃, m₂, news₂, k', rfl, hk, hJ₂, F₃, N₃⟩ := hf
    rcases hf with rfl | rfl
    · exact ⟨k', hk, h₃, tk₃, m₂, news₂, rfl, hJ₂, F₃, N₃⟩
    · exact ⟨k', hk, h₃, tk₃, m₂, news₂, rfl, hJ₂, F₃, N₃⟩
end
end Mine
end

section
open PySem PySem.W PySem.Calls PyProof.Rows
set_option Elab.async false
set_option maxRecDepth 100000
set_option maxHeartbeats 2000000
namespace Mine
/-- a cell: three numbers -/
structure Cell where
  a : Int
  b : Int
  c : Int
  deriving DecidableEq
def Cell.name (x : Cell) : Str := enc x.a x.b x.c
/-- the least number is 0, none is above B -/
structure Good (B : Int) (x : Cell) : Prop where
  a0 : 0 ≤ x.a
  b0 : 0 ≤ x.b
  c0 : 0 ≤ x.c
  aB : x.a ≤ B
  bB : x.b ≤ B
  cB : x.c ≤ B
  z : x.a = 0 ∨ x.b = 0 ∨ x.c = 0
theorem Good.mono {B B' : Int} {x : Cell} (g : Good B x) (h : B ≤ B') : Good B' x := ⟨g.a0, g.b0, g.c0, Int.le_trans g.aB h, Int.le_trans g.bB h, Int.le_trans g.cB h, g.z⟩
theorem Good.ok {B : Int} {x : Cell} (g : Good B x) (h : B < 1000) : Ok x.a x.b x.c := ⟨g.a0, g.b0, g.c0, Int.lt_of_le_of_lt g.aB h, Int.lt_of_le_of_lt g.bB h, Int.lt_of_le_of_lt g.cB h⟩
/-- the cell beside, r sixths round -/
def nb (x : Cell) (r : Int) : Cell := ⟨sumF x.a x.b x.c r 0 - minF x.a x.b x.c r, sumF x.a x.b x.c r 1 - minF x.a x.b x.c r, sumF x.a x.b x.c r 2 - minF x.a x.b x.c r⟩
theorem nb_name (x : Cell) (r : Int) : nextTo x.a x.b x.c r = (nb x r).name := rfl
theorem nb_good {B : Int} {x : Cell} (g : Good B x) (r : Int) : Good (B + 1) (nb x r) := by
  obtain ⟨⟨h1, h2⟩, ⟨h3, h4⟩, ⟨h5, h6⟩⟩ := dirv_bounds r
  obtain ⟨q0, q1, q2⟩ := minF_le x.a x.b x.c r
  have p0 := minF_nonneg g.a0 g.b0 g.c0 r
  refine ⟨Int.sub_nonneg_of_le q0, Int.sub_nonneg_of_le q1, Int.sub_nonneg_of_le q2, sub_le9 (Int.add_le_add g.aB h2) p0, sub_le9 (Int.add_le_add g.bB h4) p0, sub_le9 (Int.add_le_add g.cB h6) p0, ?_⟩
  show sumF x.a x.b x.c r 0 - minF x.a x.b x.c r = 0 ∨ sumF x.a x.b x.c r 1 - minF x.a x.b x.c r = 0 ∨ sumF x.a x.b x.c r 2 - minF x.a x.b x.c r = 0
  rcases minF_mem x.a x.b x.c r with e | e | e <;> rw [e]
  · exact .inl (Int.sub_self _)
  · exact .inr (.inl (Int.sub_self _))
  · exact .inr (.inr (Int.sub_self _))
theorem name_inj {B : Int} {x y : Cell} (hx : Good B x) (hy : Good B y) (hB : B < 1000) (h : x.name = y.name) : x = y := by
  obtain ⟨h1, h2, h3⟩ := enc_inj hx.a0 hx.b0 hx.c0 hy.a0 hy.b0 hy.c0 (Int.lt_of_le_of_lt hx.aB hB) (Int.lt_of_le_of_lt hx.bB hB) (Int.lt_of_le_of_lt hx.cB hB) (Int.lt_of_le_of_lt hy.aB hB) (Int.lt_of_le_of_lt hy.bB hB) (Int.lt_of_le_of_lt hy.cB hB) h
  cases x; cases y; simp at h1 h2 h3; simp [h1, h2, h3]
theorem any_name {B : Int} {x : Cell} {cs : List Cell} (hB : B < 1000) (hx : Good B x) (hc : ∀ y ∈ cs, Good B y) : ((cs.map Cell.name).any (· == x.name)) = decide (x ∈ cs) := by
  rw [Bool.eq_iff_iff]
  simp only [List.any_eq_true, List.mem_map, beq_iff_eq, decide_eq_true_eq]
  constructor
  · rintro ⟨_, ⟨y, hy, rfl⟩, e⟩
    rw [name_inj hx (hc y hy) hB e.symm]; exact hy
  · intro h; exact ⟨_, ⟨x, h, rfl⟩, rfl⟩
theorem name_len {B : Int} {x : Cell} (hx : Good B x) (hB : B < 1000) : x.name.length ≤ 32 := enc_len hx.a0 hx.b0 hx.c0 (Int.lt_of_le_of_lt hx.aB hB) (Int.lt_of_le_of_lt hx.bB hB) (Int.lt_of_le_of_lt hx.cB hB)
/-- a place in the plane as one number -/
def Cell.code (x : Cell) : Int := 64 * (x.a - x.c) + (x.b - x.c)
/-- a step as one number -/
def stepN (r : Int) : Int := if r = 0 then 64 else if r = 1 then 65 else if r = 2 then 1 else if r = 3 then -64 else if r = 4 then -65 else -1
theorem code_nb (x : Cell) {r : Int} (h0 : 0 ≤ r) (h6 : r < 6) : (nb x r).code = x.code + stepN r := by
  have e0 : sumF x.a x.b x.c r 0 = x.a + (dirv r).1 := rfl
  have e1 : sumF x.a x.b x.c r 1 = x.b + (dirv r).2.1 := rfl
  have e2 : sumF x.a x.b x.c r 2 = x.c + (dirv r).2.2 := rfl
  have key : 64 * ((dirv r).1 - (dirv r).2.2) + ((dirv r).2.1 - (dirv r).2.2) = stepN r := by
    rcases six_cases h0 h6 with rfl | rfl | rfl | rfl | rfl | rfl <;> decide
  simp only [Cell.code, nb, e0, e1, e2]
  omega
theorem code_two {p q p' q' B : Int} (hB : B ≤ 15) (h1 : -B ≤ q) (h2 : q ≤ B) (h3 : -B ≤ q') (h4 : q' ≤ B) (h : 64 * p + q = 64 * p' + q') : p = p' ∧ q = q' := by omega
theorem sub_low {b c B : Int} (hb : 0 ≤ b) (hc : c ≤ B) : -B ≤ b - c := by omega
theorem least_eq {a b c a' b' c' p : Int} (a0 : 0 ≤ a) (b0 : 0 ≤ b) (c0 : 0 ≤ c) (z : a = 0 ∨ b = 0 ∨ c = 0) (ha : a' = a + p) (hb : b' = b + p) (hc : c' = c + p) (a0' : 0 ≤ a') (b0' : 0 ≤ b') (c0' : 0 ≤ c') : 0 ≤ p := by
  rcases z with rfl | rfl | rfl <;> omega
theorem code_inj {B : Int} {x y : Cell} (hB : B ≤ 15) (hx : Good B x) (hy : Good B y) (h : x.code = y.code) : x = y := by
  obtain ⟨h2, h1⟩ := code_two hB (sub_low hx.b0 hx.cB) (sub_le9 hx.bB hx.c0) (sub_low hy.b0 hy.cB) (sub_le9 hy.bB hy.c0) h
  have ea : y.a = x.a + (y.c - x.c) := by omega
  have eb : y.b = x.b + (y.c - x.c) := by omega
  have ec : y.c = x.c + (y.c - x.c) := by omega
  have fa : x.a = y.a + (x.c - y.c) := by omega
  have fb : x.b = y.b + (x.c - y.c) := by omega
  have fc : x.c = y.c + (x.c - y.c) := by omega
  have k1 := least_eq hx.a0 hx.b0 hx.c0 hx.z ea eb ec hy.a0 hy.b0 hy.c0
  have k2 := least_eq hy.a0 hy.b0 hy.c0 hy.z fa fb fc hx.a0 hx.b0 hx.c0
  have e3 : x.c = y.c := by omega
  have e1 : x.a = y.a := by omega
  have e2 : x.b = y.b := by omega
  cases x; cases y; simp at e1 e2 e3; simp [e1, e2, e3]
/-- the contracts, by cells -/
theorem beside_cell (w : World) {B : Int} (hB : B < 1000) (x : Cell) (g : Good B x) (k : Int) (t1 t2 : Tok) :
    PSpec 2 109 w [.str x.name t1, .int k t2] (fun _ _ v => ∃ t, v = .str (nb x (k.fmod 6)).name t) := beside_spec w x.a x.b x.c (g.ok hB) k t1 t2
theorem plain_cell (w : World) {B : Int} (hB : B < 1000) (x : Cell) (g : Good B x) (k : Int) (t1 t2 : Tok) :
    PSpec 2 114 w [.str x.name t1, .int k t2] (fun _ _ v => ∃ t, v = .str (nb x (k.fmod 6)).name t) := plain_spec w x.a x.b x.c (g.ok hB) k t1 t2
/-- frames' maps -/
theorem map_eta {m : Str → Option Value} {k : Str} {v : Value} (h : m k = some v) : m = fun y => if y = k then some v else m y := by
  funext y
  by_cases e : y = k
  · rw [if_pos e, e, h]
  · rw [if_neg e]
theorem map_eta2 {m : Str → Option Value} {k k' : Str} {v v' : Value} (h : m k = some v) (h' : m k' = some v') : m = fun y => if y = k then some v else if y = k' then some v' else m y := by
  funext y
  by_cases e : y = k
  · rw [if_pos e, e, h]
  · rw [if_neg e]
    by_cases e' : y = k'
    · rw [if_pos e', e', h']
    · rw [if_neg e']
end Mine
end

section
open PySem PySem.W PySem.Calls PyProof.Rows
set_option Elab.async false
set_option maxRecDepth 100000
set_option maxHeartbeats 2000000
namespace Mine
/-- a list of cells, by name -/
structure CellsAt (B : Int) (vs : List Value) (cs : List Cell) : Prop where
  txt : StrsAre vs (cs.map Cell.name)
  nd : cs.Nodup
  gd : ∀ x ∈ cs, Good B x
inductive DrawnInv (D : Addr) (i : Nat) (m : Str → Option Value) (news : List (Addr × Obj)) : Prop
  | mk (m' : Str → Option Value) (vs : List Value) (cs : List Cell) (ep : Nat)
    (_ : m = (fun y => if y = Str.ofString "cells" then some (.ref D) else m' y)) (_ : news = [(D, W.listOf vs.toArray ep)]) (_ : CellsAt (2 * i) vs cs) (_ : 1 ≤ cs.length) (_ : cs.length ≤ i + 1)
theorem ints_at {ws : List Value} {ns : List Int} (h : IntsAre ws ns) {i : Nat} {v : Value} (hv : ws.toArray[i]? = some v) : ∃ n t, v = .int n t := by
  have hv' : ws[i]? = some v := by simpa using hv
  clear hv
  induction h generalizing i with
  | nil => cases hv'
  | cons n t _ ih =>
    cases i with
    | zero => simp at hv'; exact ⟨_, _, hv'.symm⟩
    | succ i => exact ih (by simpa using hv')
theorem strs_get {vs : List Value} {ys : List Str} (h : StrsAre vs ys) {i : Nat} (hi : i < ys.length) : ∃ t, vs[i]? = some (.str ys[i] t) := by
  induction h generalizing i with
  | nil => cases hi
  | cons y t _ ih =>
    cases i with
    | zero => exact ⟨t, rfl⟩
    | succ i => exact ih (by simpa using hi)
theorem cell_at {vs : List Value} {cs : List Cell} (h : StrsAre vs (cs.map Cell.name)) {i : Nat} (hi : i < cs.length) : ∃ c ∈ cs, ∃ t, vs[i]? = some (.str c.name t) := by
  obtain ⟨t, e⟩ := strs_get h (i := i) (by simpa using hi)
  exact ⟨cs[i], List.getElem_mem _, t, by simpa using e⟩
theorem cells_snoc {B : Int} {vs : List Value} {cs : List Cell} (h : CellsAt B vs cs) {x : Cell} (hx : Good B x) (hn : x ∉ cs) (t : Tok) : CellsAt B (vs ++ [.str x.name t]) (cs ++ [x]) := by
  refine ⟨?_, ?_, fun y hy => ?_⟩
  · rw [List.map_append]; exact strs_snoc h.txt _ _
  · refine List.nodup_append.mpr ⟨h.nd, by simp, fun a ha b hb => ?_⟩
    rw [List.mem_singleton.mp hb]; exact fun e => hn (e ▸ ha)
  · rcases List.mem_append.mp hy with hy | hy
    · exact h.gd y hy
    · rw [List.mem_singleton.mp hy]; exact hx
inductive DrawnRet (h h' : Heap) (v : Value) : Prop
  | mk (D : Addr) (vs : List Value) (cs : List Cell) (ep : Nat) (_ : v = .ref D) (_ : h'.get? D = some (W.listOf vs.toArray ep)) (_ : h.get? D = none) (_ : CellsAt 10 vs cs) (_ : 1 ≤ cs.length) (_ : cs.length ≤ 6)
theorem drawn_spec (w : World) (l : Addr) (ws : List Value) (ns : List Int) (hi : IntsAre ws ns) (hn : ns.length ≤ 5) :
    HSpec 3 121 w [.ref l] (fun h => h.IsList l ws.toArray) DrawnRet := by
  unfold HSpec PR KF LO
  k_fill
  intro mean mg mb dp un gd cn scp a ccd cl outer A₀ base h₀ L m s Q E B F X T hk hroom hunits hpre hret
  refine wpAny_call ?_
  k_dflt (refine' code_defP ?k1 ?k2 ?k3 ?k5 ?kA ?kF ?kK ?k6 ?k7 ?k8 ?k9 ?kB ?_ ?c2 ?c3 ?c4 ?c5; (case kA => exact rfl); (case kF => exact rfl); (case kK => assumption); (case k1 => k_asm); (case k2 => k_asm); (case k3 => k_asm); (case k5 => k_asm); (case k6 => k_is); (case k7 => k_is); (case k8 => ktr_room); (case k9 => exact BindsTo.of_eq rfl); (case c5 => decide); (case kB => exact locs rfl); (case c2 => exact rfl); (case c3 => exact rfl); (case c4 => exact rfl); k_whole; intro g' L' h' hg' FG' F' N' B' X' T'; (try dsimp only); (try k_lift B'); (try k_fold))
  w_on
  iterate 10 (first | walk1 | (dsimp only; walk1))
  rename_i D hD0 lD h1 F1 N1
  rw [hg'] at hpre
  have hlL : l < L' := by
    obtain ⟨o, e, _⟩ := hpre
    exact Nat.lt_of_lt_of_le (Heap.lt_size e) F1.above
  refine for_list (its := ws.toArray) (l := l) (DrawnInv D) (by rfl) (by rfl) (by rfl) F1 N1 (hpre.at fun o e => F1.keep _ o e) (Nat.ne_of_lt hlL) ?hj ?hsrc ?turn ?done ?hev
  case hj => exact ⟨_, [_], [⟨0, 0, 0⟩], 0, rfl, rfl, ⟨.cons _ _ .nil, by simp, fun x hx => by rw [List.mem_singleton.mp hx]; constructor <;> decide⟩, by decide, by decide⟩
  case hsrc => exact fun i m₁ news₁ h _ F₁ _ => hpre.at fun o e => F₁.keep _ o e
  case hev => exact fun Q' hq => ld F1 rfl hq
  case turn =>
    rintro i v m₁ news₁ h tk I oI hi0 hv ⟨m', vs, cs, ep, rfl, rfl, hC, hc1, hc2⟩ off F2 N2
    simp only [LCg.Off1, and_true] at off
    replace F2 : Fr g' L' h _ := F2
    replace N2 : News g' L' h _ := N2
    obtain ⟨n, t0, rfl⟩ := ints_at hi hv
    have hw5 : ws.toArray.size ≤ 5 := by rw [List.size_toArray, IntsAre.length hi]; exact hn
    have hlen : vs.length = cs.length := by rw [strs_len hC.txt, List.length_map]
    iterate 14 (first | walk1 | (dsimp only; walk1))
    refine len_list (News.isList N2 (by k_mem)) (by rw [List.size_toArray, hlen]; omega) ?_
    rw [List.size_toArray, hlen]
    iterate 1 (first | walk1 | (dsimp only; walk1))
    refine divmod_N F2 N2 (by omega) (fun h3 F3 N3 => ?_) (Or.inl (PyProof.noPylong_small (by omega)))
    dsimp only at N3
    have hp0 : 0 ≤ n.fmod (cs.length : Int) := Int.fmod_nonneg_of_pos n (by omega)
    have hp1 : n.fmod (cs.length : Int) < cs.length := Int.fmod_lt_of_pos n (by omega)
    generalize hq : n.fdiv (cs.length : Int) = q at *
    generalize hpl : n.fmod (cs.length : Int) = p at *
    iterate 17 (first | walk1 | (dsimp only; walk1))
    obtain ⟨c, hcm, tc, hct⟩ := cell_at hC.txt (i := p.toNat) (by omega)
    have hg := hC.gd c hcm
    rename Fr g' L' _ _ => F4
    rename News g' L' _ _ => N4
    replace N4 := cb_drop (news := [(I, oI), (D, W.listOf vs.toArray ep)]) N4 (List.forall_mem_cons.mpr ⟨by k_mem, List.forall_mem_cons.mpr ⟨by k_mem, List.forall_mem_nil _⟩⟩)
    with_unfolding_all refine' item_litK ?i1 ?i2 ?i3 hct ?_ ?i6
    case i1 => exact News.isList N4 (by k_mem)
    case i2 => exact hp0
    case i3 => omega
    case i6 => with_unfolding_all rfl
    iterate 4 (first | walk1 | (dsimp only; walk1))
    ((refine' (beside_cell w (B := 2 * i) (by omega) c hg q _ _) _ _ _ _ _ _ _ _ _ _ _ _ _ _ _ _ _ _ _ _ ?sB ?sF ?sX ?sT ?sK ?sd ?su ?_); (case sB => k_asm); (case sF => k_asm); (case sX => k_asm); (case sT => k_asm); (case sK => first | exact rfl | assumption); (case sd => ktr_room); (case su => ktr_units); intro v9 h9 tk9 hk9 R9; (have F9 := Fr.keeps (by k_asm) hk9); (have N9 := News.grown (by k_asm) hk9))
    obtain ⟨t9, rfl⟩ := R9
    have hg1 := nb_good hg (q.fmod 6)
    generalize nb c (q.fmod 6) = c1 at *
    k_steps
    case' _ =>
      ((refine' (beside_cell w (B := 2 * i + 1) (by omega) c1 hg1 q _ _) _ _ _ _ _ _ _ _ _ _ _ _ _ _ _ _ _ _ _ _ ?sB ?sF ?sX ?sT ?sK ?sd ?su ?_); (case sB => k_asm); (case sF => k_asm); (case sX => k_asm); (case sT => k_asm); (case sK => first | exact rfl | assumption); (case sd => ktr_room); (case su => ktr_units); intro v9 h9 tk9 hk9 R9; (have F9 := Fr.keeps (by k_asm) hk9); (have N9 := News.grown (by k_asm) hk9))
      obtain ⟨t8, rfl⟩ := R9
      have hg2 := nb_good hg1 (q.fmod 6)
      generalize nb c1 (q.fmod 6) = c2 at *
      k_steps
    · have hgx : Good (2 * ((i + 1 : Nat) : Int)) c2 := hg2.mono (by omega)
      have hcs : ∀ y ∈ cs, Good (2 * ((i + 1 : Nat) : Int)) y := fun y hy => (hC.gd y hy).mono (by omega)
      refine notin_list_strs (News.isList (by k_asm) (by k_mem)) hC.txt ?_
      rw [any_name (by omega) hgx hcs]
      k_steps
      · exact turn_end (J := DrawnInv D (i + 1)) ⟨_, vs, cs, ep, map_eta rfl, rfl, ⟨hC.txt, hC.nd, hcs⟩, hc1, by omega⟩ (by k_asm) (by k_asm) (fun p hp => hp) ⟨off, trivial⟩
      · (show wpAny _ _ (call (Value.builtin "list.append") [Value.ref D, Value.str _ _]) _ _ _)
        k_dflt (refine' append_K ?k1 ?k2 ?k3 ?_ ?apsz; (case k1 => k_asm); (case k2 => k_asm); (case k3 => k_upd); (case apsz => rw [List.size_toArray, hlen, sizeLine_eq]; omega))
        intro h5 F5 N5
        k_steps
        rw [List.push_toArray] at N5
        exact turn_end (J := DrawnInv D (i + 1)) ⟨_, vs ++ [.str c2.name t8], cs ++ [c2], ep + 1, map_eta rfl, rfl, cells_snoc ⟨hC.txt, hC.nd, hcs⟩ hgx (by assumption) _, by simp, by simp; omega⟩ (by k_asm) N5 (fun p hp => hp) ⟨off, trivial⟩
    · have hgx : Good (2 * ((i + 1 : Nat) : Int)) c1 := hg1.mono (by omega)
      have hcs : ∀ y ∈ cs, Good (2 * ((i + 1 : Nat) : Int)) y := fun y hy => (hC.gd y hy).mono (by omega)
      refine notin_list_strs (News.isList (by k_asm) (by k_mem)) hC.txt ?_
      rw [any_name (by omega) hgx hcs]
      k_steps
      · exact turn_end (J := DrawnInv D (i + 1)) ⟨_, vs, cs, ep, map_eta rfl, rfl, ⟨hC.txt, hC.nd, hcs⟩, hc1, by omega⟩ (by k_asm) (by k_asm) (fun p hp => hp) ⟨off, trivial⟩
      · (show wpAny _ _ (call (Value.builtin "list.append") [Value.ref D, Value.str _ _]) _ _ _)
        k_dflt (refine' append_K ?k1 ?k2 ?k3 ?_ ?apsz; (case k1 => k_asm); (case k2 => k_asm); (case k3 => k_upd); (case apsz => rw [List.size_toArray, hlen, sizeLine_eq]; omega))
        intro h5 F5 N5
        k_steps
        rw [List.push_toArray] at N5
        exact turn_end (J := DrawnInv D (i + 1)) ⟨_, vs ++ [.str c1.name t9], cs ++ [c1], ep + 1, map_eta rfl, rfl, cells_snoc ⟨hC.txt, hC.nd, hcs⟩ hgx (by assumption) _, by simp, by simp; omega⟩ (by k_asm) N5 (fun p hp => hp) ⟨off, trivial⟩
  case done =>
    rintro m₁ news₁ h tk ⟨m', vs, cs, ep, rfl, rfl, hC, hc1, hc2⟩ F2 N2
    replace F2 : Fr g' L' h _ := F2
    replace N2 : News g' L' h _ := N2
    have hw5 : ws.toArray.size ≤ 5 := by rw [List.size_toArray, IntsAre.length hi]; exact hn
    dsimp only
    k_steps
    subst hg'
    exact hret _ _ _ F2.keep ⟨D, vs, cs, ep, rfl, News.get N2 (by k_mem), News.fresh N2 (by k_mem), ⟨hC.txt, hC.nd, fun y hy => (hC.gd y hy).mono (by omega)⟩, hc1, by omega⟩
end Mine
end

section
set_option Elab.async false
set_option maxRecDepth 100000
namespace Mine
/-- the six steps, as numbers -/
def e6 (d : Nat) : Int := match d with | 0 => 64 | 1 => 65 | 2 => 1 | 3 => -64 | 4 => -65 | _ => -1
/-- a walker: where, and whither -/
abbrev Wk := Int × Nat
def ahead (σ : Wk) : Int := σ.1 + e6 ((σ.2 + 1) % 6)
def phi (S : List Int) (σ : Wk) : Wk := if ahead σ ∈ S then (ahead σ, (σ.2 + 5) % 6) else (σ.1, (σ.2 + 1) % 6)
def trn (S : List Int) (σ : Wk) : Int := if ahead σ ∈ S then -1 else 1
/-- a side behind which there is no cell -/
def Bnd (S : List Int) (σ : Wk) : Prop := σ.2 < 6 ∧ σ.1 ∈ S ∧ σ.1 + e6 σ.2 ∉ S
theorem six {d : Nat} (h : d < 6) : d = 0 ∨ d = 1 ∨ d = 2 ∨ d = 3 ∨ d = 4 ∨ d = 5 :=
  (by decide : ∀ d : Fin 6, d.1 = 0 ∨ d.1 = 1 ∨ d.1 = 2 ∨ d.1 = 3 ∨ d.1 = 4 ∨ d.1 = 5) ⟨d, h⟩
theorem e6_tri {d : Nat} (h : d < 6) : e6 ((d + 1) % 6) + e6 ((d + 5) % 6) = e6 d := by
  rcases six h with rfl | rfl | rfl | rfl | rfl | rfl <;> decide
theorem phi_bnd {S : List Int} {σ : Wk} (h : Bnd S σ) : Bnd S (phi S σ) := by
  obtain ⟨x, d⟩ := σ
  obtain ⟨h1, h2, h3⟩ := h
  dsimp only at h1 h2 h3
  unfold phi
  split
  · rename_i ha
    refine ⟨Nat.mod_lt _ (by decide), ha, ?_⟩
    show x + e6 ((d + 1) % 6) + e6 ((d + 5) % 6) ∉ S
    rw [Int.add_assoc, e6_tri h1]; exact h3
  · rename_i ha
    exact ⟨Nat.mod_lt _ (by decide), h2, ha⟩
/-- the way back -/
def psi (S : List Int) (σ : Wk) : Wk := if σ.1 + e6 ((σ.2 + 5) % 6) ∈ S then (σ.1 + e6 ((σ.2 + 5) % 6), (σ.2 + 1) % 6) else (σ.1, (σ.2 + 5) % 6)
theorem psi_phi {S : List Int} {σ : Wk} (h : Bnd S σ) : psi S (phi S σ) = σ := by
  obtain ⟨x, d⟩ := σ
  obtain ⟨h1, h2, h3⟩ := h
  dsimp only at h1 h2 h3
  unfold phi
  split
  · rename_i ha
    have e1 : x + e6 ((d + 1) % 6) + e6 (((d + 5) % 6 + 5) % 6) = x := by
      have : e6 ((d + 1) % 6) + e6 (((d + 5) % 6 + 5) % 6) = 0 := by rcases six h1 with rfl | rfl | rfl | rfl | rfl | rfl <;> decide
      omega
    have e2 : ((d + 5) % 6 + 1) % 6 = d := by omega
    unfold psi ahead
    dsimp only
    rw [e1, if_pos h2, e2]
  · have e1 : ((d + 1) % 6 + 5) % 6 = d := by omega
    unfold psi
    dsimp only
    rw [e1, if_neg h3]
theorem phi_inj {S : List Int} {σ τ : Wk} (h : Bnd S σ) (h' : Bnd S τ) (e : phi S σ = phi S τ) : σ = τ := by
  rw [← psi_phi h, ← psi_phi h', e]
/-- n steps -/
def it (S : List Int) : Nat → Wk → Wk
  | 0, σ => σ
  | n + 1, σ => phi S (it S n σ)
/-- what n steps turn -/
def sumT (S : List Int) : Nat → Wk → Int
  | 0, _ => 0
  | n + 1, σ => sumT S n σ + trn S (it S n σ)
theorem it_bnd {S : List Int} {σ : Wk} (h : Bnd S σ) : ∀ n, Bnd S (it S n σ)
  | 0 => h
  | n + 1 => phi_bnd (it_bnd h n)
theorem it_add (S : List Int) (σ : Wk) (a : Nat) : ∀ b, it S (a + b) σ = it S b (it S a σ)
  | 0 => rfl
  | b + 1 => by show phi S (it S (a + b) σ) = phi S (it S b (it S a σ)); rw [it_add S σ a b]
/-- the walk closes after n steps, not before -/
structure Closed (S : List Int) (σ : Wk) (n : Nat) : Prop where
  pos : 0 < n
  back : it S n σ = σ
  first : ∀ j, 0 < j → j < n → it S j σ ≠ σ
/-- the walk's places -/
def orb (S : List Int) (n : Nat) (σ : Wk) : List Wk := (List.range n).map fun j => it S j σ
theorem mem_orb {S : List Int} {n : Nat} {σ τ : Wk} : τ ∈ orb S n σ ↔ ∃ j, j < n ∧ it S j σ = τ := by
  unfold orb; simp [List.mem_map, List.mem_range]
theorem orb_succ (S : List Int) (n : Nat) (σ : Wk) : orb S (n + 1) σ = orb S n σ ++ [it S n σ] := by
  unfold orb; rw [List.range_succ, List.map_append]; rfl
theorem it_eq_back {S : List Int} {σ : Wk} (h : Bnd S σ) : ∀ {i j : Nat}, i ≤ j → it S i σ = it S j σ → it S (j - i) σ = σ
  | 0, j, _, e => e.symm
  | i + 1, 0, h', _ => absurd h' (Nat.not_succ_le_zero _)
  | i + 1, j + 1, h', e => by
    have e' := phi_inj (it_bnd h i) (it_bnd h j) e
    rw [Nat.succ_sub_succ]
    exact it_eq_back h (Nat.le_of_succ_le_succ h') e'
theorem orb_nodup {S : List Int} {σ : Wk} {n : Nat} (h : Bnd S σ) (hc : Closed S σ n) : (orb S n σ).Nodup := by
  unfold orb
  refine List.Pairwise.map _ (fun a b hab => hab) ?_
  refine (List.pairwise_lt_range).imp_of_mem fun {a b} ha hb hlt => ?_
  have hb' := List.mem_range.mp hb
  intro e
  exact hc.first (b - a) (by omega) (by omega) (it_eq_back h (Nat.le_of_lt hlt) e)
/-- what is passed is closed, backwards -/
def BackClosed (S : List Int) (P : List Wk) : Prop := ∀ σ, Bnd S σ → phi S σ ∈ P → σ ∈ P
theorem back_it {S : List Int} {P : List Wk} (hP : BackClosed S P) {σ : Wk} (h : Bnd S σ) : ∀ n, it S n σ ∈ P → σ ∈ P
  | 0, e => e
  | n + 1, e => back_it hP h n (hP _ (it_bnd h n) e)
theorem stop_at {S : List Int} {P : List Wk} (hP : BackClosed S P) {σ : Wk} (h : Bnd S σ) (hn : σ ∉ P) {n k : Nat} (hc : Closed S σ n) (hk : k ≤ n) : it S k σ ∈ P ++ orb S k σ ↔ k = n := by
  constructor
  · intro hm
    rcases List.mem_append.mp hm with hm | hm
    · exact absurd (back_it hP h k hm) hn
    · obtain ⟨j, hj, e⟩ := mem_orb.mp hm
      have e2 := it_eq_back h (Nat.le_of_lt hj) e
      by_cases hkn : k - j < n
      · exact absurd e2 (hc.first _ (by omega) hkn)
      · omega
  · rintro rfl
    refine List.mem_append.mpr (.inr (mem_orb.mpr ⟨0, hc.pos, ?_⟩))
    rw [hc.back]; rfl
theorem back_append {S : List Int} {P : List Wk} (hP : BackClosed S P) {σ : Wk} (h : Bnd S σ) {n : Nat} (hc : Closed S σ n) : BackClosed S (P ++ orb S n σ) := by
  intro τ ht hm
  rcases List.mem_append.mp hm with hm | hm
  · exact List.mem_append.mpr (.inl (hP τ ht hm))
  · obtain ⟨j, hj, e⟩ := mem_orb.mp hm
    refine List.mem_append.mpr (.inr (mem_orb.mpr ?_))
    cases j with
    | zero =>
      refine ⟨n - 1, by omega, phi_inj (it_bnd h _) ht ?_⟩
      have : it S (n - 1 + 1) σ = σ := by rw [show n - 1 + 1 = n by have := hc.pos; omega]; exact hc.back
      rw [← e]; exact this
    | succ j => exact ⟨j, by omega, phi_inj (it_bnd h _) ht e⟩
/-- what the finite look must show of a walk -/
structure Fine (S : List Int) (σ : Wk) (n : Nat) : Prop where
  closed : Closed S σ n
  short : n ≤ 26
  room : ∀ j, j ≤ n → -11 ≤ sumT S j σ
  turn : sumT S n σ = 6 ∨ sumT S n σ = -6
theorem sumT_le (S : List Int) (σ : Wk) : ∀ n, sumT S n σ ≤ n
  | 0 => by simp [sumT]
  | n + 1 => by
    have h := sumT_le S σ n
    have : trn S (it S n σ) ≤ 1 := by unfold trn; split <;> decide
    simp only [sumT]; omega
/-- the whole: walks one behind the other -/
structure Walked (S : List Int) (os : List (Wk × Nat)) : Prop where
  each : ∀ p ∈ os, Bnd S p.1 ∧ Fine S p.1 p.2
  nodup : (os.flatMap fun p => orb S p.2 p.1).Nodup
  back : BackClosed S (os.flatMap fun p => orb S p.2 p.1)
theorem Walked.nil (S : List Int) : Walked S [] := ⟨fun _ h => (nomatch h), List.Pairwise.nil, fun _ _ h => (nomatch h)⟩
theorem Walked.snoc {S : List Int} {os : List (Wk × Nat)} (h : Walked S os) {σ : Wk} {n : Nat} (hb : Bnd S σ) (hf : Fine S σ n) (hn : σ ∉ os.flatMap fun p => orb S p.2 p.1) : Walked S (os ++ [(σ, n)]) := by
  have ef : ((os ++ [(σ, n)]).flatMap fun p => orb S p.2 p.1) = (os.flatMap fun p => orb S p.2 p.1) ++ orb S n σ := by simp
  refine ⟨fun p hp => ?_, ?_, ?_⟩
  · rcases List.mem_append.mp hp with hp | hp
    · exact h.each p hp
    · rw [List.mem_singleton.mp hp]; exact ⟨hb, hf⟩
  · rw [ef]
    refine List.nodup_append.mpr ⟨h.nodup, orb_nodup hb hf.closed, fun a ha b hb' e => ?_⟩
    subst e
    obtain ⟨j, hj, rfl⟩ := mem_orb.mp hb'
    exact hn (back_it h.back hb j ha)
  · rw [ef]; exact back_append h.back hb hf.closed
end Mine
end

section
open PySem PySem.W PySem.Calls PyProof.Rows
set_option Elab.async false
set_option maxRecDepth 100000
set_option maxHeartbeats 2000000
namespace Mine
/-- a frame's names ahead of the others -/
def ovl (l : List (Str × Value)) (m : Str → Option Value) : Str → Option Value := fun y => (l.lookup y).or (m y)
theorem ovl_eta {l : List (Str × Value)} {m : Str → Option Value} (h : ∀ p ∈ l, m p.1 = some p.2) : m = ovl l m := by
  funext y
  unfold ovl
  cases e : l.lookup y with
  | none => rfl
  | some v =>
    show m y = some v
    induction l with
    | nil => cases e
    | cons p r ih =>
      obtain ⟨k, u⟩ := p
      rw [List.lookup_cons] at e
      split at e
      · rename_i hk
        cases e
        rw [beq_iff_eq.mp hk]
        exact h _ (.head _)
      · exact ih (fun q hq => h q (.tail _ hq)) e
/-- a walker's name -/
def key (p : Cell × Nat) : Str := p.1.name ++ Str.ofString ":" ++ num (p.2 : Int)
def codeS (p : Cell × Nat) : Wk := (p.1.code, p.2)
theorem colon_is : Str.ofString ":" = ⟨#[58]⟩ := by decide +kernel
theorem name_signs {B : Int} {x : Cell} (hx : Good B x) : ∀ c ∈ x.name.cps.toList, c ≤ 57 := by
  intro c hc
  unfold Cell.name at hc
  rw [enc_signs] at hc
  simp only [List.mem_append, List.mem_cons] at hc
  rcases hc with hc | rfl | hc | rfl | hc
  · exact (num_digit hx.a0 c hc).2
  · decide
  · exact (num_digit hx.b0 c hc).2
  · decide
  · exact (num_digit hx.c0 c hc).2
theorem cut_at {v : Nat} {p q r s : List Nat} (hp : v ∉ p) (hq : v ∉ q) (h : p ++ v :: r = q ++ v :: s) : p = q ∧ r = s := by
  induction p generalizing q with
  | nil =>
    cases q with
    | nil => simpa using h
    | cons y q => simp at h; exact absurd h.1 (fun e => hq (by rw [← e]; exact List.mem_cons_self))
  | cons x p ih =>
    cases q with
    | nil => simp at h; exact absurd h.1 (fun e => hp (by rw [e]; exact List.mem_cons_self))
    | cons y q =>
      simp at h
      obtain ⟨e1, e2⟩ := ih (fun m => hp (List.mem_cons_of_mem _ m)) (fun m => hq (List.mem_cons_of_mem _ m)) h.2
      exact ⟨by rw [h.1, e1], e2⟩
theorem key_signs (p : Cell × Nat) : (key p).cps.toList = p.1.name.cps.toList ++ 58 :: (num (p.2 : Int)).cps.toList := by
  unfold key
  rw [colon_is]
  show ((p.1.name.cps ++ #[58]) ++ (num (p.2 : Int)).cps).toList = _
  simp
theorem key_inj {B : Int} {p q : Cell × Nat} (hB : B < 1000) (hp : Good B p.1) (hq : Good B q.1) (hp6 : p.2 < 6) (hq6 : q.2 < 6) (h : key p = key q) : p = q := by
  have e : (key p).cps.toList = (key q).cps.toList := by rw [h]
  rw [key_signs, key_signs] at e
  obtain ⟨e1, e2⟩ := cut_at (fun m => by have := name_signs hp 58 m; omega) (fun m => by have := name_signs hq 58 m; omega) e
  have h1 := name_inj hp hq hB (str_ext e1)
  have h2 := num_inj (by omega) (by omega) (by omega) (by omega) (str_ext e2)
  obtain ⟨a, b⟩ := p
  obtain ⟨c, d⟩ := q
  dsimp only at h1 h2
  have h3 : b = d := by omega
  rw [h1, h3]
/-- what is passed, by name and by number -/
structure PassedAt (cs : List Cell) (pvs : List Value) (ps : List (Cell × Nat)) (P : List Wk) : Prop where
  txt : StrsAre pvs (ps.map key)
  ins : ∀ p ∈ ps, p.1 ∈ cs ∧ p.2 < 6
  codes : ps.map codeS = P
theorem key_any {cs : List Cell} {pvs : List Value} {ps : List (Cell × Nat)} {P : List Wk} (h : PassedAt cs pvs ps P) (hc : ∀ x ∈ cs, Good 10 x) {p : Cell × Nat} (hp : p.1 ∈ cs) (hp6 : p.2 < 6) :
    ((ps.map key).any (· == key p)) = decide (codeS p ∈ P) := by
  rw [Bool.eq_iff_iff]
  simp only [List.any_eq_true, List.mem_map, beq_iff_eq, decide_eq_true_eq]
  rw [← h.codes, List.mem_map]
  constructor
  · rintro ⟨_, ⟨q, hq, rfl⟩, e⟩
    exact ⟨q, hq, by rw [key_inj (B := 10) (by decide) (hc _ (h.ins q hq).1) (hc _ hp) (h.ins q hq).2 hp6 e]⟩
  · rintro ⟨q, hq, e⟩
    refine ⟨_, ⟨q, hq, rfl⟩, ?_⟩
    unfold codeS at e
    simp only [Prod.mk.injEq] at e
    have h1 := code_inj (B := 10) (by decide) (hc _ (h.ins q hq).1) (hc _ hp) e.1
    obtain ⟨a, b⟩ := q
    obtain ⟨c, d⟩ := p
    simp at h1 e
    rw [h1, e.2]
theorem PassedAt.snoc {cs : List Cell} {pvs : List Value} {ps : List (Cell × Nat)} {P : List Wk} (h : PassedAt cs pvs ps P) {p : Cell × Nat} (hp : p.1 ∈ cs) (hp6 : p.2 < 6) (t : Tok) :
    PassedAt cs (pvs ++ [.str (key p) t]) (ps ++ [p]) (P ++ [codeS p]) := by
  refine ⟨?_, fun q hq => ?_, ?_⟩
  · rw [List.map_append]; exact strs_snoc h.txt _ _
  · rcases List.mem_append.mp hq with hq | hq
    · exact h.ins q hq
    · rw [List.mem_singleton.mp hq]; exact ⟨hp, hp6⟩
  · rw [List.map_append, h.codes]; rfl
/-- the number's cell -/
theorem stepN_e6 {r : Nat} (h : r < 6) : stepN (r : Int) = e6 r := by
  rcases six h with rfl | rfl | rfl | rfl | rfl | rfl <;> decide
theorem code_nb' (x : Cell) {r : Nat} (h : r < 6) : (nb x (r : Int)).code = x.code + e6 r := by rw [code_nb x (by omega) (by omega), stepN_e6 h]
theorem code_mem {cs : List Cell} (hc : ∀ x ∈ cs, Good 10 x) {y : Cell} (hy : Good 11 y) : y.code ∈ cs.map Cell.code ↔ y ∈ cs := by
  constructor
  · intro h
    obtain ⟨x, hx, e⟩ := List.mem_map.mp h
    rw [← code_inj (B := 11) (by decide) ((hc x hx).mono (by decide)) hy e]; exact hx
  · intro h; exact List.mem_map.mpr ⟨y, h, rfl⟩
end Mine
end

section
open PySem PySem.W PySem.Calls PyProof.Rows
set_option Elab.async false
set_option maxRecDepth 100000
set_option maxHeartbeats 4000000
namespace Mine
local macro_rules | `(tactic| k_ne) => `(tactic| (refine neN ?_; (try dsimp only); (repeat (rename (_ ≠ _ ∧ _) => hcc9; obtain ⟨hcc8, hcc7⟩ := hcc9)); first | assumption | exact Ne.symm (by assumption) | omega))
theorem md_a (R : Nat) : (R % 6 + 1) % 6 = (R + 1) % 6 := by omega
theorem md_b {R : Nat} (h : 1 ≤ R) : (R % 6 + 5) % 6 = (R - 1) % 6 := by omega
theorem fm_nat (n : Nat) : (n : Int).fmod 6 = ((n % 6 : Nat) : Int) := by rw [Int.fmod_eq_emod_of_nonneg _ (by decide)]; omega
theorem fm_lt {d : Nat} (h : d < 6) : (d : Int).fmod 6 = (d : Int) := by rw [fm_nat]; omega
theorem lp_lt {k n : Nat} (h : k ≤ n) (h' : ¬ k = n) : n - (k + 1) < n - k := by omega
theorem lp_le {k n : Nat} (h : k ≤ n) (h' : ¬ k = n) : k + 1 ≤ n := by omega
theorem md_c {d : Nat} (h : d < 6) : (12 + d) % 6 = d := by omega
theorem sm_r {R : Nat} {d S : Int} (h1 : 1 ≤ R) (h : (R : Int) = 12 + d + S) : ((R - 1 : Nat) : Int) = 12 + d + (S + -1) := by omega
theorem sm_l {R : Nat} {d S : Int} (h : (R : Int) = 12 + d + S) : ((R + 1 : Nat) : Int) = 12 + d + (S + 1) := by omega
abbrev flat (S : List Int) (os : List (Wk × Nat)) : List Wk := os.flatMap fun p => orb S p.2 p.1
theorem flat_len {S : List Int} : ∀ {os : List (Wk × Nat)}, (∀ p ∈ os, Bnd S p.1 ∧ Fine S p.1 p.2) → (flat S os).length ≤ 26 * os.length
  | [], _ => Nat.zero_le _
  | p :: r, h => by
    have h1 := (h p (.head _)).2.short
    have h2 := flat_len (os := r) fun q hq => h q (.tail _ hq)
    have e : (flat S (p :: r)).length = (orb S p.2 p.1).length + (flat S r).length := by simp [flat]
    have e2 : (orb S p.2 p.1).length = p.2 := by simp [orb]
    rw [e, e2, List.length_cons]; omega
theorem mul_dots {d : Nat} (h : d < 6) : Txt.mul (Str.ofString ".") (12 + (d : Int)) = dots (12 + d) := by
  rcases six h with rfl | rfl | rfl | rfl | rfl | rfl <;> decide +kernel
theorem ints_len {vs : List Value} {ns : List Int} (h : IntsAre vs ns) : vs.length = ns.length := by
  induction h with
  | nil => rfl
  | cons _ _ _ ih => simp [ih]
theorem ints_snoc {vs : List Value} {ns : List Int} (h : IntsAre vs ns) (n : Int) (t : Tok) : IntsAre (vs ++ [.int n t]) (ns ++ [n]) := by
  induction h with
  | nil => exact .cons _ _ .nil
  | cons _ _ _ ih => exact .cons _ _ ih
theorem slice_dots {R : Nat} (h : 1 ≤ R ∧ R ≤ 44) : Txt.slice (dots R) (some 1) none = dots (R - 1) := by
  have hx : ∀ r : Fin 45, 1 ≤ r.1 → Txt.slice (dots r.1) (some 1) none = dots (r.1 - 1) := by decide +kernel
  exact hx ⟨R, by omega⟩ h.1
inductive WInv (cs : List Cell) (c : Cell) (tc td : Tok) (d : Nat) (l P T : Addr) (rest : List (Addr × Obj)) (Pa : List Wk) (n : Nat) (k' : Nat) (m : Str → Option Value) (news : List (Addr × Obj)) : Prop
  | mk (k : Nat) (m' : Str → Option Value) (pvs : List Value) (ps : List (Cell × Nat)) (cc : Cell) (tcc tr : Tok) (e1 R : Nat)
    (_ : k ≤ n) (_ : k' = n - k) (_ : m = ovl [(Str.ofString "cells", .ref l), (Str.ofString "passed", .ref P), (Str.ofString "turnings", .ref T), (Str.ofString "first", .str c.name tc), (Str.ofString "sixths", .int d td), (Str.ofString "cell", .str cc.name tcc), (Str.ofString "row", .str (dots R) tr)] m') (_ : news = rest ++ [(P, W.listOf pvs.toArray e1)]) (_ : PassedAt cs pvs ps (Pa ++ orb (cs.map Cell.code) k (c.code, d))) (_ : cc ∈ cs) (_ : it (cs.map Cell.code) k (c.code, d) = (cc.code, R % 6)) (_ : (R : Int) = 12 + d + sumT (cs.map Cell.code) k (c.code, d))
/-- what holds between the turns of both fors -/

inductive TInv (cs : List Cell) (l P T : Addr) (N : Nat) (cover : Wk → Prop) (extra : List (Str × Value)) (m : Str → Option Value) (news : List (Addr × Obj)) : Prop
  | mk (m' : Str → Option Value) (pvs tvs : List Value) (ps : List (Cell × Nat)) (os : List (Wk × Nat)) (e1 e2 : Nat)
    (_ : m = ovl ([(Str.ofString "cells", .ref l), (Str.ofString "passed", .ref P), (Str.ofString "turnings", .ref T)] ++ extra) m') (_ : news = [(T, W.listOf tvs.toArray e2), (P, W.listOf pvs.toArray e1)]) (_ : Walked (cs.map Cell.code) os) (_ : IntsAre tvs (os.map fun p => sumT (cs.map Cell.code) p.2 p.1)) (_ : PassedAt cs pvs ps (flat (cs.map Cell.code) os)) (_ : os.length ≤ N) (_ : ∀ σ, Bnd (cs.map Cell.code) σ → cover σ → σ ∈ flat (cs.map Cell.code) os)
def Cov (cs : List Cell) (i : Nat) (σ : Wk) : Prop := ∃ j c, j < i ∧ cs[j]? = some c ∧ σ.1 = c.code
inductive TurnRet (cs : List Cell) (h h' : Heap) (v : Value) : Prop
  | mk (D : Addr) (tvs : List Value) (os : List (Wk × Nat)) (ep : Nat) (_ : v = .ref D) (_ : h'.get? D = some (W.listOf tvs.toArray ep)) (_ : h.get? D = none) (_ : IntsAre tvs (os.map fun p => sumT (cs.map Cell.code) p.2 p.1)) (_ : os.length ≤ 36)
    (_ : Walked (cs.map Cell.code) os) (_ : ∀ σ, Bnd (cs.map Cell.code) σ → σ ∈ flat (cs.map Cell.code) os)
theorem turnings_spec (w : World) (l : Addr) (vs : List Value) (cs : List Cell) (hC : CellsAt 10 vs cs) (hn : cs.length ≤ 6) (hfin : ∀ σ, Bnd (cs.map Cell.code) σ → ∃ n, Fine (cs.map Cell.code) σ n) :
    HSpec 3 128 w [.ref l] (fun h => h.IsList l vs.toArray) (TurnRet cs) := by
  unfold HSpec PR KF LO
  k_fill
  intro mean mg mb dp un gd cn scp a ccd cl outer A₀ base h₀ L m s Q E B F X T hk hroom hunits hpre hret
  refine wpAny_call ?_
  k_dflt (refine' code_defP ?k1 ?k2 ?k3 ?k5 ?kA ?kF ?kK ?k6 ?k7 ?k8 ?k9 ?kB ?_ ?c2 ?c3 ?c4 ?c5; (case kA => exact rfl); (case kF => exact rfl); (case kK => assumption); (case k1 => k_asm); (case k2 => k_asm); (case k3 => k_asm); (case k5 => k_asm); (case k6 => k_is); (case k7 => k_is); (case k8 => ktr_room); (case k9 => exact BindsTo.of_eq rfl); (case c5 => decide); (case kB => exact locs rfl); (case c2 => exact rfl); (case c3 => exact rfl); (case c4 => exact rfl); k_whole; intro g' L' h' hg' FG' F' N' B' X' T'; (try dsimp only); (try k_lift B'); (try k_fold))
  w_on
  iterate 14 (first | walk1 | (dsimp only; walk1))
  rename_i P hP0 _ hP1 T hT0 lPT h1 F1 N1
  rw [hg'] at hpre
  have hlL : l < L' := by
    obtain ⟨o, e, _⟩ := hpre
    exact Nat.lt_of_lt_of_le (Heap.lt_size e) F1.above
  have hlen : vs.length = cs.length := by rw [strs_len hC.txt, List.length_map]
  refine for_list (its := vs.toArray) (l := l) (fun i => TInv cs l P T (6 * i) (Cov cs i) []) (by rfl) (by rfl) (by rfl) F1 N1 (hpre.at fun o e => F1.keep _ o e) (Nat.ne_of_lt hlL) ?hj ?hsrc ?turn ?done ?hev
  case hj =>
    exact ⟨_, [], [], [], [], 0, 0, ovl_eta (List.forall_mem_cons.mpr ⟨rfl, List.forall_mem_cons.mpr ⟨rfl, List.forall_mem_cons.mpr ⟨rfl, List.forall_mem_nil _⟩⟩⟩), rfl, Walked.nil _, .nil, ⟨.nil, fun _ h => (nomatch h), rfl⟩, Nat.zero_le _, fun σ _ ⟨j, c, hj, _⟩ => absurd hj (Nat.not_lt_zero _)⟩
  case hsrc => exact fun i m₁ news₁ h _ F₁ _ => hpre.at fun o e => F₁.keep _ o e
  case hev => exact fun Q' hq => ld F1 rfl hq
  case done =>
    rintro m₁ news₁ h tk ⟨m', pvs, tvs, ps, os, e1, e2, rfl, rfl, hW, hI, hP, hN, hcov⟩ F2 N2
    replace F2 : Fr g' L' h _ := F2
    replace N2 : News g' L' h _ := N2
    dsimp only
    k_steps
    subst hg'
    refine hret _ _ _ F2.keep ⟨T, tvs, os, e2, rfl, News.get N2 (by k_mem), News.fresh N2 (by k_mem), hI, ?_, hW, fun σ hb => hcov σ hb ?_⟩
    · rw [List.size_toArray, hlen] at hN; omega
    · obtain ⟨c, hc, e⟩ := List.mem_map.mp hb.2.1
      obtain ⟨j, hj, e'⟩ := List.getElem_of_mem hc
      exact ⟨j, c, by rw [List.size_toArray, hlen]; exact hj, by rw [List.getElem?_eq_getElem hj, e'], e.symm⟩
  case turn =>
    rintro i v m₁ news₁ h tk I oI hi0 hv ⟨m', pvs, tvs, ps, os, e1, e2, rfl, rfl, hW, hI, hP, hN, hcov⟩ off F2 N2
    simp only [LCg.Off1, and_true] at off
    replace F2 : Fr g' L' h _ := F2
    replace N2 : News g' L' h _ := N2
    have hi1 : i < cs.length := by rw [List.size_toArray, hlen] at hi0; exact hi0
    obtain ⟨tc, rfl⟩ : ∃ t, v = .str (cs[i]).name t := by
      obtain ⟨t, e⟩ := strs_get hC.txt (i := i) (by simpa using hi1)
      refine ⟨t, ?_⟩
      have hv' : vs[i]? = some v := by simpa using hv
      rw [e] at hv'
      simpa using (Option.some.inj hv').symm
    have hci : cs[i]? = some cs[i] := List.getElem?_eq_getElem hi1
    have hcm : cs[i] ∈ cs := List.getElem_mem _
    generalize cs[i] = c at *
    iterate 1 (first | walk1 | (dsimp only; walk1))
    refine for_range (n := 6) (fun d m news => ∃ news', news = (I, oI) :: news' ∧ TInv cs l P T (6 * i + d) (fun σ => Cov cs i σ ∨ (σ.1 = c.code ∧ σ.2 < d)) [(Str.ofString "first", .str c.name tc)] m news') (by rfl) (by rfl) (by rfl) (by decide) F2 N2 ?jj ?rev ?rturn ?rdone
    case jj =>
      exact ⟨_, rfl, _, pvs, tvs, ps, os, e1, e2, ovl_eta (List.forall_mem_cons.mpr ⟨rfl, List.forall_mem_cons.mpr ⟨rfl, List.forall_mem_cons.mpr ⟨rfl, List.forall_mem_cons.mpr ⟨rfl, List.forall_mem_nil _⟩⟩⟩⟩), rfl, hW, hI, hP, hN, fun σ hb hc => hcov σ hb (hc.elim id fun hx => absurd hx.2 (Nat.not_lt_zero _))⟩
    case rev =>
      iterate 6 (first | walk1 | (dsimp only; walk1))
      exact range1_rows F2 N2 fun h' tk t₁ u₁ v₁ hr F' N' _ => ⟨_, h', tk, t₁, u₁, v₁, rfl, rfl, hr, F', N'⟩
    case rdone =>
      rintro m₁ news₁ h3 tk3 ⟨news', rfl, m'', pvs, tvs, ps, os, e1, e2, rfl, rfl, hW, hI, hP, hN, hcov⟩ F3 N3
      replace F3 : Fr g' L' h3 _ := F3
      replace N3 : News g' L' h3 _ := N3
      dsimp only
      k_steps
      refine turn_end (J := TInv cs l P T (6 * (i + 1)) (Cov cs (i + 1)) []) ⟨_, pvs, tvs, ps, os, e1, e2, ovl_eta (List.forall_mem_cons.mpr ⟨rfl, List.forall_mem_cons.mpr ⟨rfl, List.forall_mem_cons.mpr ⟨rfl, List.forall_mem_nil _⟩⟩⟩), rfl, hW, hI, hP, by omega, fun σ hb hc => hcov σ hb ?_⟩ F3 N3 (fun p hp => hp) ⟨off.1, off.2, trivial⟩
      obtain ⟨j, c', hj, he, hx⟩ := hc
      by_cases hji : j < i
      · exact .inl ⟨j, c', hji, he, hx⟩
      · obtain rfl : j = i := by omega
        rw [hci] at he
        cases he
        exact .inr ⟨hx, hb.1⟩
    case rturn =>
      rintro d m₁ news₁ h3 tk3 td I2 oI2 hd6 ⟨news', rfl, m'', pvs, tvs, ps, os, e1, e2, rfl, rfl, hW, hI, hP, hN, hcov⟩ off2 F3 N3
      simp only [LCg.Off1, and_true] at off2
      replace F3 : Fr g' L' h3 _ := F3
      replace N3 : News g' L' h3 _ := N3
      iterate 13 (first | walk1 | (dsimp only; walk1))
      have hgc := hC.gd c hcm
      have hmod : ((d : Nat) : Int).fmod 6 = (d : Int) := fm_lt hd6
      ((refine' (beside_cell w (B := 10) (by decide) c hgc (d : Int) _ _) _ _ _ _ _ _ _ _ _ _ _ _ _ _ _ _ _ _ _ _ ?sB ?sF ?sX ?sT ?sK ?sd ?su ?_); (case sB => k_asm); (case sF => k_asm); (case sX => k_asm); (case sT => k_asm); (case sK => first | exact rfl | assumption); (case sd => ktr_room); (case su => ktr_units); intro v9 h9 tk9 hk9 R9; (have F9 := Fr.keeps (by k_asm) hk9); (have N9 := News.grown (by k_asm) hk9))
      obtain ⟨t9, rfl⟩ := R9
      rw [hmod]
      have hgn := nb_good hgc (d : Int)
      have hcd := code_nb' c hd6
      have hmem := code_mem hC.gd hgn
      rw [hcd] at hmem
      generalize nb c (d : Int) = cn9 at *
      iterate 1 (first | walk1 | (dsimp only; walk1))
      refine notin_list_strs (hpre.at fun o e => (Fr.keep F9) _ o e) hC.txt ?_
      rw [any_name (B := 11) (by decide) hgn fun y hy => (hC.gd y hy).mono (by decide)]
      have hnl := name_len hgc (by decide)
      k_steps
      · refine turn_end (J := fun m news => ∃ news', news = (I, oI) :: news' ∧ TInv cs l P T (6 * i + (d + 1)) (fun σ => Cov cs i σ ∨ σ.fst = c.code ∧ σ.snd < d + 1) [(Str.ofString "first", Value.str c.name tc)] m news') ⟨_, rfl, _, pvs, tvs, ps, os, e1, e2, ovl_eta (List.forall_mem_cons.mpr ⟨rfl, List.forall_mem_cons.mpr ⟨rfl, List.forall_mem_cons.mpr ⟨rfl, List.forall_mem_cons.mpr ⟨rfl, List.forall_mem_nil _⟩⟩⟩⟩), rfl, hW, hI, hP, by omega, fun σ hb hc => hcov σ hb ?_⟩ F9 N9 (fun p hp => hp) ⟨off2.1, off2.2.1, off2.2.2, trivial⟩
        rcases hc with hc | ⟨h1, h2⟩
        · exact .inl hc
        · by_cases hdd : σ.2 < d
          · exact .inr ⟨h1, hdd⟩
          · have e : σ.2 = d := by omega
            have := hb.2.2
            rw [h1, e] at this
            exact absurd (hmem.mpr (by assumption)) this
      (show wpAny _ _ (compareOp CmpOp.NotIn (Value.str (key (c, d)) _) (Value.ref P)) _ _ _)
      refine notin_list_strs (News.isList N9 (by k_mem)) hP.txt ?_
      rw [key_any hP hC.gd (p := (c, d)) hcm hd6]
      by_cases hps : codeS (c, d) ∈ flat (List.map Cell.code cs) os
      · rw [decide_eq_true hps]
        k_steps
        refine turn_end (J := fun m news => ∃ news', news = (I, oI) :: news' ∧ TInv cs l P T (6 * i + (d + 1)) (fun σ => Cov cs i σ ∨ σ.fst = c.code ∧ σ.snd < d + 1) [(Str.ofString "first", Value.str c.name tc)] m news') ⟨_, rfl, _, pvs, tvs, ps, os, e1, e2, ovl_eta (List.forall_mem_cons.mpr ⟨rfl, List.forall_mem_cons.mpr ⟨rfl, List.forall_mem_cons.mpr ⟨rfl, List.forall_mem_cons.mpr ⟨rfl, List.forall_mem_nil _⟩⟩⟩⟩), rfl, hW, hI, hP, by omega, fun σ hb hc => ?_⟩ F9 N9 (fun p hp => hp) ⟨off2.1, off2.2.1, off2.2.2, trivial⟩
        rcases hc with hc | ⟨h1, h2⟩
        · exact hcov σ hb (.inl hc)
        · by_cases hdd : σ.2 < d
          · exact hcov σ hb (.inr ⟨h1, hdd⟩)
          · have e : σ.2 = d := by omega
            have e' : σ = codeS (c, d) := Prod.ext h1 e
            rw [e']; exact hps
      rw [decide_eq_false hps]
      repeat ((fail_if_success (with_reducible show wpAny _ _ (exec (Stmt.While _ _ _ _) _) _ _ _)); (first | walk1 | (dsimp only; walk1)))
      have hσ : Bnd (cs.map Cell.code) (c.code, d) := ⟨hd6, List.mem_map.mpr ⟨c, hcm, rfl⟩, fun hx => (by assumption : cn9 ∉ cs) (hmem.mp hx)⟩
      obtain ⟨n, hF⟩ := hfin _ hσ
      rw [mul_dots hd6] at *
      refine while_inv (n := n) (WInv cs c tc td d l P T [(I2, oI2), (I, oI), (T, W.listOf tvs.toArray e2)] (flat (cs.map Cell.code) os) n) (by assumption) (by assumption) ?wj ?wturn
      case wj =>
        refine ⟨0, _, pvs, ps, c, tc, _, e1, 12 + d, Nat.zero_le _, rfl, ovl_eta (List.forall_mem_cons.mpr ⟨rfl, List.forall_mem_cons.mpr ⟨rfl, List.forall_mem_cons.mpr ⟨rfl, List.forall_mem_cons.mpr ⟨rfl, List.forall_mem_cons.mpr ⟨rfl, List.forall_mem_cons.mpr ⟨rfl, List.forall_mem_cons.mpr ⟨rfl, List.forall_mem_nil _⟩⟩⟩⟩⟩⟩⟩), rfl, ?_, hcm, ?_, ?_⟩
        · simpa [orb] using hP
        · show (c.code, d) = (c.code, (12 + d) % 6)
          rw [md_c hd6]
        · show ((12 + d : Nat) : Int) = 12 + (d : Int) + 0
          omega
      case wturn =>
        rintro k' m₅ news₅ h5 tk5 ⟨k, m5, pvs5, ps5, cc, tcc, tr, e15, R, hkn, rfl, rfl, rfl, hP5, hcc, hit, hR⟩ F5 N5
        replace F5 : Fr g' L' h5 _ := F5
        replace N5 : News g' L' h5 _ := N5
        simp only [List.cons_append, List.nil_append] at N5
        have hgcc := hC.gd cc hcc
        have hnl5 := name_len hgcc (by decide)
        have hlR := dots_len R
        have hRb : 1 ≤ R ∧ R ≤ 44 := by
          have h1 := hF.room k hkn
          have h2 := sumT_le (cs.map Cell.code) (c.code, d) k
          have h3 := hF.short
          omega
        have hR6 : R % 6 < 6 := Nat.mod_lt _ (by decide)
        repeat ((fail_if_success (with_reducible show wpAny _ _ (compareOp CmpOp.NotIn _ _) _ _ _)); (first | walk1 | (dsimp only; walk1)))
        have hfm : (((dots R).length : Nat) : Int).fmod 6 = ((R % 6 : Nat) : Int) := by rw [hlR]; exact fm_nat R
        rw [hfm] at *
        (show wpAny _ _ (compareOp CmpOp.NotIn (Value.str (key (cc, R % 6)) _) (Value.ref P)) _ _ _)
        refine notin_list_strs (News.isList N5 (by k_mem)) hP5.txt ?_
        rw [key_any hP5 hC.gd (p := (cc, R % 6)) hcc hR6]
        have hstop := stop_at hW.back hσ hps hF.closed hkn
        by_cases hkk : k = n
        · subst hkk
          have hin := hstop.mpr rfl
          rw [hit] at hin
          rw [decide_eq_true (show codeS (cc, R % 6) ∈ _ from hin)]
          k_steps
          have hlt := ints_len hI
          rw [List.length_map] at hlt
          (show wpAny _ _ (call (Value.builtin "list.append") [Value.ref T, Value.int _ _]) _ _ _)
          k_dflt (refine' append_K ?k1 ?k2 ?k3 ?_ ?apsz; (case k1 => k_asm); (case k2 => k_asm); (case k3 => k_upd); (case apsz => rw [List.size_toArray, hlt, sizeLine_eq]; omega))
          intro h6 F6 N6
          k_steps
          rw [List.push_toArray] at N6
          have hval : ((dots R).length : Int) - 12 - (d : Int) = sumT (cs.map Cell.code) k (c.code, d) := by rw [hlR]; omega
          rw [hval] at N6
          have hfl : flat (cs.map Cell.code) (os ++ [((c.code, d), k)]) = flat (cs.map Cell.code) os ++ orb (cs.map Cell.code) k (c.code, d) := by simp [flat]
          refine turn_end (J := fun m news => ∃ news', news = (I, oI) :: news' ∧ TInv cs l P T (6 * i + (d + 1)) (fun σ => Cov cs i σ ∨ σ.fst = c.code ∧ σ.snd < d + 1) [(Str.ofString "first", Value.str c.name tc)] m news') ⟨_, rfl, _, pvs5, tvs ++ [.int (sumT (cs.map Cell.code) k (c.code, d)) _], ps5, os ++ [((c.code, d), k)], e15, e2 + 1, ovl_eta (List.forall_mem_cons.mpr ⟨rfl, List.forall_mem_cons.mpr ⟨rfl, List.forall_mem_cons.mpr ⟨rfl, List.forall_mem_cons.mpr ⟨rfl, List.forall_mem_nil _⟩⟩⟩⟩), rfl, hW.snoc hσ hF hps, ?_, ?_, by simp; omega, fun σ hb hc => ?_⟩ F6 N6 (fun p hp => hp) ⟨off2.1, off2.2.1, off2.2.2, trivial⟩
          · rw [List.map_append]; exact ints_snoc hI _ _
          · rw [hfl]; exact hP5
          · rw [hfl]
            rcases hc with hc | ⟨h1, h2⟩
            · exact List.mem_append.mpr (.inl (hcov σ hb (.inl hc)))
            · by_cases hdd : σ.2 < d
              · exact List.mem_append.mpr (.inl (hcov σ hb (.inr ⟨h1, hdd⟩)))
              · have e : σ.2 = d := by omega
                have e' : σ = (c.code, d) := Prod.ext h1 e
                rw [e']
                exact List.mem_append.mpr (.inr (mem_orb.mpr ⟨0, hF.closed.pos, rfl⟩))
        · have hin := fun hx => hkk (hstop.mp hx)
          rw [hit] at hin
          rw [decide_eq_false (show codeS (cc, R % 6) ∉ _ from hin)]
          repeat ((fail_if_success (with_reducible show wpAny _ _ (call (Value.builtin "list.append") _) _ _ _)); (first | walk1 | (dsimp only; walk1)))
          have hfm' : (((dots R).length : Nat) : Int).fmod 6 = ((R % 6 : Nat) : Int) := by rw [hlR]; exact fm_nat R
          rw [hfm'] at *
          have hlp : pvs5.length ≤ 962 := by
            have h1 := strs_len hP5.txt
            have h2 : (ps5.map codeS).length = (flat (cs.map Cell.code) os).length + k := by rw [hP5.codes, List.length_append]; simp [orb]
            have h3 := flat_len hW.each
            rw [List.length_map] at h1 h2
            have h4 := hF.short
            omega
          (show wpAny _ _ (call (Value.builtin "list.append") [Value.ref P, Value.str (key (cc, R % 6)) _]) _ _ _)
          k_dflt (refine' append_K ?k1 ?k2 ?k3 ?_ ?apsz; (case k1 => k_asm); (case k2 => k_asm); (case k3 => k_upd); (case apsz => rw [List.size_toArray, sizeLine_eq]; omega))
          intro h6 F6 N6
          rw [List.push_toArray] at N6
          repeat ((fail_if_success (with_reducible show wpAny _ _ (call (Value.ref _) _) _ _ _)); (first | walk1 | (dsimp only; walk1)))
          ((refine' (quote_spec w R hRb.1 hRb.2 _) _ _ _ _ _ _ _ _ _ _ _ _ _ _ _ _ _ _ _ _ ?sB ?sF ?sX ?sT ?sK ?sd ?su ?_); (case sB => k_asm); (case sF => k_asm); (case sX => k_asm); (case sT => k_asm); (case sK => first | exact rfl | assumption); (case sd => ktr_room); (case su => ktr_units); intro v9 h9 tk9 hk9 R9; (have F9 := Fr.keeps (by k_asm) hk9); (have N9 := News.grown (by k_asm) hk9))
          obtain ⟨t7, rfl⟩ := R9
          have hlR1 := dots_len (R + 1)
          repeat ((fail_if_success (with_reducible show wpAny _ _ (call (Value.ref _) _) _ _ _)); (first | walk1 | (dsimp only; walk1)))
          ((refine' (beside_cell w (B := 10) (by decide) cc hgcc _ _ _) _ _ _ _ _ _ _ _ _ _ _ _ _ _ _ _ _ _ _ _ ?sB ?sF ?sX ?sT ?sK ?sd ?su ?_); (case sB => k_asm); (case sF => k_asm); (case sX => k_asm); (case sT => k_asm); (case sK => first | exact rfl | assumption); (case sd => ktr_room); (case su => ktr_units); intro v9 h9 tk9 hk9 R9; (have F9 := Fr.keeps (by k_asm) hk9); (have N9 := News.grown (by k_asm) hk9))
          obtain ⟨t8, rfl⟩ := R9
          have hfm2 : (((dots (R + 1)).length : Nat) : Int).fmod 6 = (((R + 1) % 6 : Nat) : Int) := by rw [hlR1]; exact fm_nat (R + 1)
          rw [hfm2]
          have hgn2 := nb_good hgcc (((R + 1) % 6 : Nat) : Int)
          have hcd2 := code_nb' cc (r := (R + 1) % 6) (Nat.mod_lt _ (by decide))
          have hmem2 := code_mem hC.gd hgn2
          rw [hcd2] at hmem2
          generalize nb cc (((R + 1) % 6 : Nat) : Int) = ca at *
          repeat ((fail_if_success (with_reducible show wpAny _ _ (compareOp CmpOp.In _ _) _ _ _)); (first | walk1 | (dsimp only; walk1)))
          refine in_list_strs (hpre.at fun o e => (Fr.keep (by k_asm)) _ o e) hC.txt ?_
          rw [any_name (B := 11) (by decide) hgn2 fun y hy => (hC.gd y hy).mono (by decide)]
          k_steps
          · rw [slice_dots hRb] at *
            rename_i F7 N7
            have hph : it (cs.map Cell.code) (k + 1) (c.code, d) = (ca.code, (R - 1) % 6) := by
              show phi _ (it (cs.map Cell.code) k (c.code, d)) = _
              rw [hit, hcd2]
              unfold phi ahead
              dsimp only
              rw [md_a R, if_pos (hmem2.mpr (by assumption)), md_b hRb.1]
            have hsm : ((R - 1 : Nat) : Int) = 12 + d + sumT (cs.map Cell.code) (k + 1) (c.code, d) := by
              show _ = 12 + (d : Int) + (sumT (cs.map Cell.code) k (c.code, d) + trn _ (it (cs.map Cell.code) k (c.code, d)))
              rw [hit]
              unfold trn ahead
              dsimp only
              rw [md_a R, if_pos (hmem2.mpr (by assumption))]
              omega
            refine loop_end (k' := n - (k + 1)) (lp_lt hkn hkk) ⟨k + 1, _, _, ps5 ++ [(cc, R % 6)], ca, _, _, _, R - 1, lp_le hkn hkk, rfl, ovl_eta (List.forall_mem_cons.mpr ⟨rfl, List.forall_mem_cons.mpr ⟨rfl, List.forall_mem_cons.mpr ⟨rfl, List.forall_mem_cons.mpr ⟨rfl, List.forall_mem_cons.mpr ⟨rfl, List.forall_mem_cons.mpr ⟨rfl, List.forall_mem_cons.mpr ⟨rfl, List.forall_mem_nil _⟩⟩⟩⟩⟩⟩⟩), rfl, ?_, by assumption, hph, hsm⟩ F7 N7 (fun p hp => .tail _ hp)
            rw [orb_succ, hit, ← List.append_assoc]
            exact hP5.snoc hcc hR6 _
          · rename_i F7 N7
            have hph : it (cs.map Cell.code) (k + 1) (c.code, d) = (cc.code, (R + 1) % 6) := by
              show phi _ (it (cs.map Cell.code) k (c.code, d)) = _
              rw [hit]
              unfold phi ahead
              dsimp only
              rw [md_a R, if_neg (fun hx => (by assumption : ca ∉ cs) (hmem2.mp hx))]
            have hsm : ((R + 1 : Nat) : Int) = 12 + d + sumT (cs.map Cell.code) (k + 1) (c.code, d) := by
              show _ = 12 + (d : Int) + (sumT (cs.map Cell.code) k (c.code, d) + trn _ (it (cs.map Cell.code) k (c.code, d)))
              rw [hit]
              unfold trn ahead
              dsimp only
              rw [md_a R, if_neg (fun hx => (by assumption : ca ∉ cs) (hmem2.mp hx))]
              omega
            refine loop_end (k' := n - (k + 1)) (lp_lt hkn hkk) ⟨k + 1, _, _, ps5 ++ [(cc, R % 6)], cc, _, _, _, R + 1, lp_le hkn hkk, rfl, ovl_eta (List.forall_mem_cons.mpr ⟨rfl, List.forall_mem_cons.mpr ⟨rfl, List.forall_mem_cons.mpr ⟨rfl, List.forall_mem_cons.mpr ⟨rfl, List.forall_mem_cons.mpr ⟨rfl, List.forall_mem_cons.mpr ⟨rfl, List.forall_mem_cons.mpr ⟨rfl, List.forall_mem_nil _⟩⟩⟩⟩⟩⟩⟩), rfl, ?_, hcc, hph, hsm⟩ F7 N7 (fun p hp => .tail _ hp)
            rw [orb_succ, hit, ← List.append_assoc]
            exact hP5.snoc hcc hR6 _
end Mine
end

section
open PySem PySem.W PySem.Calls PyProof.Rows
set_option Elab.async false
set_option maxRecDepth 100000
set_option maxHeartbeats 2000000
namespace Mine
/-- a call that changes but what the list names -/
abbrev MSpec (lv : Nat) (f : Addr) (w : World) (vs : List Value) (fp : List (Addr × Obj)) (Pre : Heap → Prop) (Ret : Heap → Heap → Value → Prop) : Prop :=
  ∀ (mean : ExcName → Option Value) (mg mb : Str → Option Value) (dp un : Nat) (gd : Option (List Code)) (cn : Str) (cs : Scope) (a : Addr) (ccd : Value) (cl : List (Str × Addr)) (outer : List Env) (A₀ : Around) (base h₀ : Heap) (L : Addr) (m : Str → Option Value) (s : Shared) (Q E : Value → Shared → Prop),
    Below A₀ base outer h₀ → Fr h₀ L s.heap m → (KF w).In h₀ → News h₀ L s.heap fp → Top topProg LO mean mg mb h₀ → cs.kind = .function →
    dp + lv < recursionLimit → un + 20 * lv + 20 < cLine → Pre s.heap →
    (∀ v h' tk', (∀ b o, b ∉ fp.map (·.1) → s.heap.get? b = some o → h'.get? b = some o) → Ret s.heap h' v → Q v { s with heap := h', toks := tk' }) →
      wpAny (model PR w) (ktrTop dp un gd cn cs L a ccd cl outer) (call (.ref f) vs) Q E s

section
variable {prog : Program} {w : World} {A A₀ : Around} {s : Shared} {K : Frag} {L : Addr} {h₀ base : Heap} {m mg mb : Str → Option Value} {news : List (Addr × Obj)} {p : Program} {loose : List Str} {mean : ExcName → Option Value}
    {env : Env} {outer : List Env} {R : Result → Shared → Prop} {name qual : Str} {params : Arguments} {body : List Stmt} {scope : Scope} {dV kV doc pm cdv ct oc : Value} {an od : Option Addr} {osl : Array (Option Value)} {f : Addr} {args : Args} {binds : List (Str × Value)}
theorem code_defM
    (B : Below A₀ base outer h₀) (F : Fr h₀ L s.heap m) (X₀ : K.In h₀) (N : News h₀ L s.heap news) (T : Top p loose mean mg mb h₀) (hA : A.frames = some (env :: outer)) (hf : env.frame = some L) (hke : env.scope.kind = .function)
    (ho : K.lookup f = some ⟨oc, od, .func (fnOf name qual params body scope dV kV doc pm an cdv ct), osl⟩) (hcd : codeIn K cdv qual = true) (hroom : A.depth < recursionLimit)
    (hbind : BindsTo s (fnOf name qual params body scope dV kV doc pm an cdv ct) args binds) (hloc : ∀ y ∈ binds, scope.names.lookup y.1 = some .local)
    (h : ∀ g L' h₁, hideAll s.heap (news.map (·.1)) = g → Fr h₀ L g m → Fr g L' h₁ (fun y => binds.reverse.lookup y) → News g L' h₁ news → Below A base (env :: outer) g → K.In g → Top p loose mean mg mb g → (∀ p ∈ news, p.1 < L') →
      wpAny (model prog w) (A.deeper (envOf qual scope L' f cdv)) (execs body (envOf qual scope L' f cdv))
        (fun fl s' => LeaveK h₀ L m g R (match fl with | .ret v => v | _ => .none) s')
        (fun e s' => wpAny (model prog w) (A.deeper (envOf qual scope L' f cdv)) (leaving (envOf qual scope L' f cdv) e) (fun _ s'' => R (.error e) s'') (fun e' s'' => R (.error e') s'') s')
        { s with heap := h₁, toks := s.toks + binds.length })
    (hco : scope.isCoroutine = false) (hgen : scope.isGenerator = false) (hk : scope.kind = .function)
    (hcell : ∀ x ∈ scope.names, x.2 ≠ .cell) : codeAny (model prog w) A (.call (.ref f) args) R s := by
  obtain ⟨FG, BG, st, lv⟩ := groundX (R := R) B F N hA hf hke
  refine codeAny_call_def (fd := fnX name qual params body scope [] dV kV doc pm an cdv ct) (body := body) (binds := binds) hroom ((X₀.keeps F.keep) _ _ ho) rfl (T.nolimit.keeps F.keep) (codeRec_of (X₀.keeps F.keep) hcd) rfl hbind hcell hloc (fun h₁ hns hk₁ => ?_) hco hgen hk
  exact wpAny_mono (h _ s.heap.objs.size h₁ rfl FG ⟨hns, fun b o e => hk₁ b o (of_hideAll _ e), Nat.le_of_eq (hideAll_size _ _)⟩
    (fun p hp => ⟨hk₁ _ _ (N p hp).1, Nat.ne_of_lt (Heap.lt_size (N p hp).1), hideAll_none _ (List.mem_map_of_mem hp)⟩) BG (X₀.keeps st) (T.keeps st) (fun p hp => Heap.lt_size (N p hp).1)) (fun fl s' hl => lv _ _ hl) fun _ _ y => y
/-- the same, for a function that is no part of the given heap -/
theorem code_nestM {cl : List (Str × Addr)} {fo : Obj}
    (B : Below A₀ base outer h₀) (F : Fr h₀ L s.heap m) (X₀ : K.In h₀) (N : News h₀ L s.heap news) (T : Top p loose mean mg mb h₀) (hA : A.frames = some (env :: outer)) (hf : env.frame = some L) (hke : env.scope.kind = .function)
    (ho : s.heap.get? f = some fo) (hd : fo.data = .func (fnX name qual params body scope cl dV kV doc pm an cdv ct)) (hcd : s.heap.CodeRec cdv qual) (hroom : A.depth < recursionLimit)
    (hbind : BindsTo s (fnX name qual params body scope cl dV kV doc pm an cdv ct) args binds) (hloc : ∀ y ∈ binds, scope.names.lookup y.1 = some .local)
    (h : ∀ g L' h₁, hideAll s.heap (news.map (·.1)) = g → Fr h₀ L g m → Fr g L' h₁ (fun y => binds.reverse.lookup y) → News g L' h₁ news → Below A base (env :: outer) g → K.In g → Top p loose mean mg mb g → (∀ p ∈ news, p.1 < L') →
      wpAny (model prog w) (A.deeper (envX qual scope L' f cdv cl)) (execs body (envX qual scope L' f cdv cl))
        (fun fl s' => LeaveK h₀ L m g R (match fl with | .ret v => v | _ => .none) s')
        (fun e s' => wpAny (model prog w) (A.deeper (envX qual scope L' f cdv cl)) (leaving (envX qual scope L' f cdv cl) e) (fun _ s'' => R (.error e) s'') (fun e' s'' => R (.error e') s'') s')
        { s with heap := h₁, toks := s.toks + binds.length })
    (hco : scope.isCoroutine = false) (hgen : scope.isGenerator = false) (hk : scope.kind = .function)
    (hcell : ∀ x ∈ scope.names, x.2 ≠ .cell) : codeAny (model prog w) A (.call (.ref f) args) R s := by
  obtain ⟨FG, BG, st, lv⟩ := groundX (R := R) B F N hA hf hke
  refine codeAny_call_def (fd := fnX name qual params body scope cl dV kV doc pm an cdv ct) (body := body) (binds := binds) hroom ho hd (T.nolimit.keeps F.keep) hcd rfl hbind hcell hloc (fun h₁ hns hk₁ => ?_) hco hgen hk
  exact wpAny_mono (h _ s.heap.objs.size h₁ rfl FG ⟨hns, fun b o e => hk₁ b o (of_hideAll _ e), Nat.le_of_eq (hideAll_size _ _)⟩
    (fun p hp => ⟨hk₁ _ _ (N p hp).1, Nat.ne_of_lt (Heap.lt_size (N p hp).1), hideAll_none _ (List.mem_map_of_mem hp)⟩) BG (X₀.keeps st) (T.keeps st) (fun p hp => Heap.lt_size (N p hp).1)) (fun fl s' hl => lv _ _ hl) fun _ _ y => y
theorem code_defCM
    (B : Below A₀ base outer h₀) (F : Fr h₀ L s.heap m) (X₀ : K.In h₀) (N : News h₀ L s.heap news) (T : Top p loose mean mg mb h₀) (hA : A.frames = some (env :: outer)) (hf : env.frame = some L) (hke : env.scope.kind = .function)
    (ho : K.lookup f = some ⟨oc, od, .func (fnOf name qual params body scope dV kV doc pm an cdv ct), osl⟩) (hcd : codeIn K cdv qual = true) (hroom : A.depth < recursionLimit)
    (hbind : BindsTo s (fnOf name qual params body scope dV kV doc pm an cdv ct) args binds) (hkind : (binds.all fun y => scope.names.lookup y.1 == some .local || scope.names.lookup y.1 == some .cell) = true)
    (hnd : ((cellsFrom 0 scope.names []).map (·.1)).Nodup)
    (h : ∀ g L' h₁ tk cells, hideAll s.heap (news.map (·.1)) = g → Fr h₀ L g m → Fr g L' h₁ (bindL (envOfC qual scope L' f cdv).kindOf binds fun _ => none) → News g L' h₁ (cells ++ news) →
      CellsAre (bindC (envOfC qual scope L' f cdv).kindOf binds fun _ => none) (cellsFrom (L' + 1) scope.names []) cells → Below A base (env :: outer) g → K.In g → Top p loose mean mg mb g → (∀ p ∈ news, p.1 < L') →
      wpAny (model prog w) (A.deeper (envOfC qual scope L' f cdv)) (execs body (envOfC qual scope L' f cdv))
        (fun fl s' => LeaveK h₀ L m g R (match fl with | .ret v => v | _ => .none) s')
        (fun e s' => wpAny (model prog w) (A.deeper (envOfC qual scope L' f cdv)) (leaving (envOfC qual scope L' f cdv) e) (fun _ s'' => R (.error e) s'') (fun e' s'' => R (.error e') s'') s')
        { s with heap := h₁, toks := tk })
    (hco : scope.isCoroutine = false) (hgen : scope.isGenerator = false) (hk : scope.kind = .function) : codeAny (model prog w) A (.call (.ref f) args) R s := by
  obtain ⟨FG, BG, st, lv⟩ := groundX (R := R) B F N hA hf hke
  refine codeAny_call_function hroom ((X₀.keeps F.keep) _ _ ho) rfl hco hgen rfl (codeRec_of (X₀.keeps F.keep) hcd) (hbind _ _ _ _ ?_)
  refine wpAny_newFunctionEnv_cells hk (kindsX hkind _) fun env' he s' x => ?_
  subst he
  refine ⟨(T.nolimit.keeps F.keep).keeps x.toInCall.keep, codeAny_func ?_⟩
  obtain ⟨h₁, tk, rfl, _⟩ := x.done
  have hk₁ := x.toInCall.keep
  obtain ⟨cells, NC, Y⟩ := Cl.news (h₀ := s.heap) (Nat.le_refl _) fun n c hm => ⟨x.cell n c (lookup_of_mem_nodup (cellsFrom_names scope.names 0 (s.heap.objs.size + 1) [] [] rfl ▸ hnd) hm), x.above n c hm⟩
  refine wpAny_mono (h _ s.heap.objs.size h₁ tk cells rfl FG ⟨x.toInCall.ns, fun b o e => hk₁ b o (of_hideAll _ e), Nat.le_of_eq (hideAll_size _ _)⟩ (fun p hp => ?_) Y BG (X₀.keeps st) (T.keeps st) (fun p hp => Heap.lt_size (N p hp).1)) (fun fl s' hl => lv _ _ hl) fun _ _ y => y
  rcases List.mem_append.mp hp with hp | hp
  · refine ⟨(NC p hp).1, (NC p hp).2.1, ?_⟩
    cases q : (hideAll s.heap (news.map (·.1))).get? p.1 with
    | none => rfl
    | some o => have := of_hideAll _ q; rw [(NC p hp).2.2] at this; cases this
  · exact ⟨hk₁ _ _ (N p hp).1, Nat.ne_of_lt (Heap.lt_size (N p hp).1), hideAll_none _ (List.mem_map_of_mem hp)⟩
theorem news_put {h : Heap} {D : Addr} {its : Array Value} (F : Fr h₀ L h m) (N : News h₀ L h news) (hp : NewPlain h news D its) (hf : h₀.get? D = none) :
    ∃ ep, News h₀ L h ((D, W.listOf its ep) :: news) := by
  have hL := hp.ne_locals F
  obtain ⟨⟨ep, hD⟩, _⟩ := hp
  refine ⟨ep, fun q hq => ?_⟩
  rcases List.mem_cons.mp hq with rfl | hq
  · exact ⟨hD, hL, hf⟩
  · exact N q hq
/-- what the caller keeps -/
theorem fr_but {h h' : Heap} {fp : List (Addr × Obj)} (F : Fr h₀ L h m) (N : News h₀ L h fp) (hk : ∀ b o, b ∉ fp.map (·.1) → h.get? b = some o → h'.get? b = some o) : Fr h₀ L h' m := by
  have nm : ∀ b o, h₀.get? b = some o → b ∉ fp.map (·.1) := fun b o e q => by
    obtain ⟨p, hp, rfl⟩ := List.mem_map.mp q
    rw [(N p hp).2.2] at e; cases e
  have nL : L ∉ fp.map (·.1) := fun q => by
    obtain ⟨p, hp, e⟩ := List.mem_map.mp q
    exact (N p hp).2.1 e
  exact ⟨F.ns.at' fun o e => hk _ o nL e, fun b o e => hk b o (nm b o e) (F.keep b o e), F.above⟩
theorem news_but {h h' : Heap} {fp rest : List (Addr × Obj)} (N : News h₀ L h rest) (hk : ∀ b o, b ∉ fp.map (·.1) → h.get? b = some o → h'.get? b = some o) (hd : ∀ p ∈ rest, p.1 ∉ fp.map (·.1)) : News h₀ L h' rest :=
  fun p hp => ⟨hk _ _ (hd p hp) (N p hp).1, (N p hp).2⟩
theorem keep_but {h h' : Heap} {fp : List (Addr × Obj)} {g : Heap} {L' : Addr} {m' : Str → Option Value} (hg : hideAll h (fp.map (·.1)) = g) (F : Fr g L' h' m') : ∀ b o, b ∉ fp.map (·.1) → h.get? b = some o → h'.get? b = some o :=
  fun b o n e => F.keep b o (by rw [← hg]; exact hideAll_get _ e n)
end
end Mine
end

section
open PySem PySem.W PySem.Calls PyProof.Rows
set_option Elab.async false
set_option maxRecDepth 100000
set_option maxHeartbeats 2000000
namespace Mine
theorem slot_ci_next : Slot "callable_iterator" "__next__" "callable_iterator.__next__" :=
  .of (owner := "callable_iterator") (n := "__next__") (by rw [typeLookup_type, builtinLookup_eq_fast]; kernel_rfl) (by decide +kernel) (by decide +kernel) (by decide +kernel)
    (by first | exact .inl (by decide +kernel) | exact .inr (by decide +kernel)) (by rw [isSubtype_type]; kernel_rfl)
theorem slot_ci_iter : Slot "callable_iterator" "__iter__" "callable_iterator.__iter__" :=
  .of (owner := "callable_iterator") (n := "__iter__") (by rw [typeLookup_type, builtinLookup_eq_fast]; kernel_rfl) (by decide +kernel) (by decide +kernel) (by decide +kernel)
    (by first | exact .inl (by decide +kernel) | exact .inr (by decide +kernel)) (by rw [isSubtype_type]; kernel_rfl)
theorem entry_ci_next : entryFor table "callable_iterator.__next__" = some Builtin.«callable_iterator.__next__» := entryFor_of_tree (by kernel_rfl)
theorem entry_ci_iter : entryFor table "callable_iterator.__iter__" = some Builtin.«dict_keyiterator.__iter__» :=
  entryFor_alias (id' := "dict_keyiterator.__iter__") (by rw [fastTable_eq_tree]; kernel_rfl) rfl (by decide +kernel) (by rw [fastTable_eq_tree]; kernel_rfl)
theorem args_ci_next (a : Value) : argsOk "callable_iterator.__next__" ⟨[a], []⟩ := by unfold argsOk; kernel_rfl
theorem args_ci_iter (a : Value) : argsOk "callable_iterator.__iter__" ⟨[a], []⟩ := by unfold argsOk; kernel_rfl
theorem args_iter2 (a b : Value) : argsOk "iter" ⟨[a, b], []⟩ := by unfold argsOk; kernel_rfl
theorem slot_method_call : ∃ id, Slot "method" "__call__" id :=
  ⟨"method.__call__", .of (owner := "method") (n := "__call__") (by rw [typeLookup_type, builtinLookup_eq_fast]; kernel_rfl) (by decide +kernel) (by decide +kernel) (by decide +kernel)
    (by first | exact .inl (by decide +kernel) | exact .inr (by decide +kernel)) (by rw [isSubtype_type]; kernel_rfl)⟩
/-- the iterator's object -/
abbrev ciObj (f u e : Value) : Obj := { cls := .type "callable_iterator", data := .fields #[f, u, e] }
abbrev methObj (f : Addr) (x : Value) : Obj := { cls := .type "method", data := .fields #[.ref f, x] }
section
variable {prog : Program} {w : World} {A : Around} {E : Value → Shared → Prop} {s : Shared}
theorem iter_two {Mt f : Addr} {x u : Value} {Q : Value → Shared → Prop} (hm : s.heap.get? Mt = some (methObj f x))
    (h : Q (.ref s.heap.objs.size) { s with heap := s.heap.push (ciObj (.ref Mt) u (.bool false)) }) :
    wpAny (model prog w) A (call (.builtin "iter") [.ref Mt, u]) Q E s := by
  refine call_function_entry (by decide +kernel) (by decide +kernel) kdk_entry_iter (args_iter2 _ _) ?_
  unfold Builtin.«iter»
  refine wpAny_bind (m := someArgs "iter" 1 2 _) (wpAny_of_eq (a := [Value.ref Mt, u]) (by first | rfl | kernel_rfl!) ?_)
  dsimp only
  obtain ⟨id, sl⟩ := slot_method_call
  refine wpAny_bind (wpAny_specialOf (name := Str.ofString "__call__") (T := "method") ⟨_, hm, rfl⟩ sl.lookup ?_)
  refine wpAny_ite_split (fun hab => absurd hab (by simp)) (fun _ => ?_)
  refine wpAny_bind (wpAny_rule ?_)
  refine wpAny_bind ?_
  unfold newFields
  refine wpAny_newObj_type ?_ (by size_fits)
  exact wpAny_pure ⟨_, rfl, h⟩
theorem iter_self {I : Addr} {f u e : Value} {Q : Value → Shared → Prop} (hI : s.heap.get? I = some (ciObj f u e)) (h : Q (.ref I) s) :
    wpAny (model prog w) A (pyIter (.ref I)) Q E s := by
  have hT : s.TypeIs (.ref I) "callable_iterator" := ⟨_, hI, rfl⟩
  refine wpAny_pyIter_slot hT slot_ci_iter (wpAny_call_entry slot_ci_iter hT entry_ci_iter ?_ (args_ci_iter _))
  show wpAny _ _ (ret (.ref I)) _ _ s
  exact wpAny_pure ⟨_, rfl, "callable_iterator", _, hT, slot_ci_next.lookup, h⟩
theorem borrowed_call {f : Value} {pos : List Value} {Q : Value → Shared → Prop}
    (h : codeAny (model prog w) A (.call f ⟨pos, []⟩) (fun r s' => match r with | .ok (.ret v) => Q v s' | .ok _ => False | .error e => E e s') s) :
    wpAny (model prog w) A (callBorrowed f pos) Q E s := fun Γ p hΓ => by
  unfold callBorrowed
  rw [Sem.wp_call]
  have h1 := h (Γ.enter (.call f ⟨pos, []⟩) none p) p rfl (hΓ.enter _ none p (by intro x; cases x))
  refine wpCode_mono (fun r s' hr => ?_) h1
  rcases r with e | fl
  · exact hr
  · cases fl <;> exact hr
theorem borrows_meth {Mt f : Addr} {x : Value} {of : Obj} {fd : FuncData} {Q : Bool → Shared → Prop} (hm : s.heap.get? Mt = some (methObj f x)) (hf : s.heap.get? f = some of) (hfd : of.data = .func fd) (h : Q true s) :
    wpAny (model prog w) A (borrowsExactly (.ref Mt)) Q E s := by
  unfold borrowsExactly
  refine wpAny_bind (wpAny_load hm ?_)
  dsimp only
  refine wpAny_ite_split (fun _ => ?_) (fun hab => absurd (by decide) hab)
  show wpAny _ _ (load f >>= _) _ _ _
  refine wpAny_bind (wpAny_load hf ?_)
  rw [hfd]
  exact wpAny_pure h
/-- what a turn's call gives back -/
theorem ci_next {I Mt f : Addr} {x : Value} {of : Obj} {fd : FuncData} {u : Str} {tu : Tok} {Q : Option Value → Shared → Prop} (hh : A.handled = none)
    (hI : s.heap.get? I = some (ciObj (.ref Mt) (.str u tu) (.bool false))) (hm : s.heap.get? Mt = some (methObj f x)) (hf : s.heap.get? f = some of) (hfd : of.data = .func fd)
    (hc : codeAny (model prog w) A.in1 (.call (.ref f) ⟨[x], []⟩) (fun r s₁ => ∃ y t, r = .ok (.ret (.str y t)) ∧ s₁.heap.get? I = some (ciObj (.ref Mt) (.str u tu) (.bool false)) ∧ s₁.heap.get? Mt = some (methObj f x) ∧ s₁.heap.get? f = some of ∧
      (y ≠ u → Q (some (.str y t)) s₁) ∧
      (y = u → ∀ h', h'.get? I = some (ciObj .none .none (.bool true)) → (∀ b o, b ≠ I → s₁.heap.get? b = some o → h'.get? b = some o) → Q none { s₁ with heap := h' })) s) :
    wpAny (model prog w) A (pyNext (.ref I)) Q E s := by
  have hT : s.TypeIs (.ref I) "callable_iterator" := ⟨_, hI, rfl⟩
  unfold pyNext
  refine wpAny_bind (wpAny_attempt (wpAny_callSpecial?_slot (name := Str.ofString "__next__") hT slot_ci_next
    (wpAny_call_entry slot_ci_next hT entry_ci_next ?_ (args_ci_next _))))
  unfold Builtin.«callable_iterator.__next__»
  refine wpAny_bind (m := slotArgs "__next__" 0 _) (wpAny_of_eq (a := (Value.ref I, [])) (by first | rfl | kernel_rfl!) ?_)
  dsimp only
  refine wpAny_bind (wpAny_field hI rfl (x := .bool false) rfl ?_)
  refine wpAny_ite_split (fun hab => absurd hab (by decide)) (fun _ => ?_)
  refine wpAny_bind (wpAny_field hI rfl (x := .ref Mt) rfl ?_)
  refine wpAny_bind (wpAny_attempt ?_)
  unfold callOutOfASlot
  refine wpAny_bind (borrows_meth hm hf hfd ?_)
  refine wpAny_ite_split (fun _ => ?_) (fun hab => absurd rfl hab)
  refine borrowed_call (ks_codeAny_call_bound hm (codeAny_mono hc (fun r s₁ h₁ => ?_)))
  obtain ⟨y, t, rfl, hI1, hm1, hf1, hy, hn⟩ := h₁
  dsimp only
  refine wpAny_bind (wpAny_field hI1 rfl (x := .bool false) rfl ?_)
  refine wpAny_ite_split (fun hab => absurd hab (by decide)) (fun _ => ?_)
  refine wpAny_bind (wpAny_field hI1 rfl (x := .str u tu) rfl ?_)
  refine wpAny_bind (wpAny_holding (wpAny_eqBool_str ?_))
  by_cases e : y = u
  · subst e
    refine wpAny_ite_split (fun hab => absurd hab (by simp)) (fun _ => ?_)
    refine wpAny_bind (wpAny_rule ?_)
    refine wpAny_bind ?_
    show wpAny _ _ (field (.ref I) 0 >>= _) _ _ _
    refine wpAny_bind (wpAny_field hI1 rfl (x := .ref Mt) rfl ?_)
    refine wpAny_bind ?_
    unfold slotLetsGo
    dsimp only
    refine wpAny_bind (borrows_meth hm1 hf1 hfd ?_)
    refine wpAny_ite_split (fun _ => ?_) (fun hab => absurd rfl hab)
    refine wpAny_pure ?_
    refine wpAny_bind (wpAny_setField_rec hI1 (by simp) fun h1 e1 s1 => ?_)
    refine wpAny_bind (wpAny_setField_rec e1 (by simp) fun h2 e2 s2 => ?_)
    refine wpAny_setField_rec e2 (by simp) fun h3 e3 s3 => ?_
    unfold Builtin.SmallTypes.stopIteration
    refine wpAny_bind ?_
    simp only [newExc, newTuple]
    refine wpAny_bind (wpAny_newObj_type ?_ (by size_fits))
    refine wpAny_bind (m := firstArgMember _ _) (wpAny_of_eq (a := Value.none) (by first | rfl | (simp only [firstArgMember]; rfl)) ?_)
    refine wpAny_newObj_type ?_ (by size_fits)
    simp only [raiseNew]
    refine wpAny_bind (wpAny_handled ?_)
    first | rw [show A.in1.handled = none from hh] | rw [hh]
    refine wpAny_bind (wpAny_pure (wpAny_throw ?_))
    refine wpAny_bind (wpAny_isInstance (T := "StopIteration") (b := true) ⟨_, Heap.get?_push_size _ rfl, rfl⟩ isSubtype_stop ?_)
    refine wpAny_pure (hn rfl _ (Heap.get?_push_of_some _ (Heap.get?_push_of_some _ (by simpa using e3))) fun b o hb eo => Heap.get?_push_of_some _ (Heap.get?_push_of_some _ ?_))
    exact (s3.2 b hb).trans ((s2.2 b hb).trans ((s1.2 b hb).trans eo))
  · refine wpAny_ite_split (fun _ => ?_) (fun hab => absurd (by simp [Ne.symm e]) hab)
    exact wpAny_pure ⟨_, rfl, wpAny_pure (hy e)⟩
end
end Mine
end

section
open PySem PySem.W PySem.Calls PyProof.Rows
set_option Elab.async false
set_option maxRecDepth 100000
set_option maxHeartbeats 4000000
namespace Mine
theorem seq0 (n : Nat) : seqIndex? 0 (n + 1) = some 0 := by
  unfold seqIndex?
  simp
  try omega
inductive NextRet (LE CE : Addr) (oC : Obj) (xs : List Str) (h' : Heap) (v : Value) : Prop
  | mk (ch' : List Value) (ys : List Str) (ep' : Nat) (y : Str) (t' : Tok) (_ : h'.get? LE = some (W.listOf ch'.toArray ep')) (_ : h'.get? CE = some oC) (_ : StrsAre ch' ys) (_ : v = .str y t') (_ : (xs = [] ∧ ys = [] ∧ y = Str.ofString "") ∨ xs = y :: ys)
/-- what the stream's reader does: it takes the first sign -/
def NextFn (w : World) (fo : Obj) (CE CO : Addr) (qual : Str) : Prop :=
  (∃ oc od fd sl, fo = ⟨oc, od, .func fd, sl⟩) ∧ ∀ (FN LE : Addr) (oC : Obj) (chars : List Value) (xs : List Str) (ep : Nat) (t : Tok), oC.data = .cell (some (.ref LE)) → CE ≠ LE → StrsAre chars xs → xs.length ≤ 250 →
    MSpec 1 FN w [.int 1 t] [(CE, oC), (LE, W.listOf chars.toArray ep)] (fun h => h.get? FN = some fo ∧ h.CodeRec (.ref CO) qual) (fun _ h' v => NextRet LE CE oC xs h' v)
/-- an entry of an object's dict -/
abbrev ent (w : World) (n : String) (t : Tok) (v : Value) : DictEntry := { hash := PyData.keyHash w.params (Str.ofString n), key := .str (Str.ofString n) t, val := v }
/-- a lexer: what it keeps -/
structure LexAds where
  (PB X DX FN PS S DS LE CE : Nat)
def LexAds.list (a : LexAds) : List Nat := [a.PB, a.X, a.DX, a.FN, a.PS, a.S, a.DS, a.LE, a.CE]
inductive LexAt (w : World) (CO : Addr) (qual : Str) (a : LexAds) (pb xs : List Str) (lst : List (Addr × Obj)) : Prop
  | mk (fo oC : Obj) (pvs chars : List Value) (e1 e2 : Nat) (ln : Int) (t1 t2 t3 t4 t5 t6 t7 t8 t9 t10 t11 t12 t13 : Tok)
    (_ : NextFn w fo a.CE CO qual) (_ : oC.data = .cell (some (.ref a.LE))) (_ : StrsAre pvs pb) (_ : StrsAre chars xs) (_ : xs.length ≤ 250) (_ : 0 ≤ ln) (_ : ln + xs.length ≤ 300) (_ : a.CE < a.LE ∧ a.LE < a.DS ∧ a.DS < a.S ∧ a.S < a.PS ∧ a.PS < a.FN ∧ a.FN < a.DX ∧ a.DX < a.X ∧ a.X < a.PB) (_ : lst = [(a.PB, W.listOf pvs.toArray e1), (a.X, instObj 69 a.DX), (a.DX, dictOf [ent w "lineno" t1 (.int ln t2), ent w "instream" t3 (.ref a.S), ent w "whitespace" t4 (.str (Str.ofString "\n\t\r ") t5), ent w "pushback" t6 (.ref a.PB)] 4), (a.FN, fo), (a.PS, W.listOf #[] 0), (a.S, instObj 69 a.DS), (a.DS, dictOf [ent w "lineno" t7 (.int 1 t8), ent w "instream" t9 .none, ent w "whitespace" t10 (.str (Str.ofString "\n\t\r ") t11), ent w "pushback" t12 (.ref a.PS), ent w "read" t13 (.ref a.FN)] 5), (a.LE, W.listOf chars.toArray e2), (a.CE, oC)])
inductive LexRet (w : World) (qual : Str) (xs : List Str) (h h' : Heap) (v : Value) : Prop
  | mk (CO : Nat) (oc : Obj) (a : LexAds) (lst : List (Addr × Obj)) (vs : Array Value) (t : Tok)
    (_ : h'.get? 99 = some (tabObj #[rawInt ((79 : Nat) : Int), rawInt ((4 : Nat) : Int), .ref CO])) (_ : v = .ref a.X) (_ : h'.get? CO = some oc) (_ : h.get? CO = none) (_ : oc.data = .fields vs) (_ : vs[1]? = some (.str qual t)) (_ : LexAt w CO qual a [] xs lst) (_ : ∀ p ∈ lst, h'.get? p.1 = some p.2 ∧ h.get? p.1 = none) (_ : CO ∉ a.list)
theorem lex_made {w : World} {xs : List Str} {h h' g : Heap} {L CO PB X DX FN PS S DS LE CE : Nat} {fo oC oc : Obj} {chars : List Value} {e2 : Nat} {t1 t2 t3 t4 t5 t6 t7 t8 t9 t10 t11 t12 t13 t : Tok} {qual : Str} {vs : Array Value}
    (hg : hideAll h [99] = g) (N : News g L h' [(PB, W.listOf #[] 0), (X, instObj 69 DX),
      (DX, dictOf [ent w "lineno" t1 (.int 1 t2), ent w "instream" t3 (.ref S), ent w "whitespace" t4 (.str (Str.ofString "\n\t\r ") t5), ent w "pushback" t6 (.ref PB)] 4),
      (FN, fo), (CO, oc), (PS, W.listOf #[] 0), (S, instObj 69 DS),
      (DS, dictOf [ent w "lineno" t7 (.int 1 t8), ent w "instream" t9 .none, ent w "whitespace" t10 (.str (Str.ofString "\n\t\r ") t11), ent w "pushback" t12 (.ref PS), ent w "read" t13 (.ref FN)] 5),
      (LE, W.listOf chars.toArray e2), (CE, oC), (99, tabObj #[rawInt ((79 : Nat) : Int), rawInt ((4 : Nat) : Int), .ref CO])])
    (ho : oc.data = .fields vs) (hv : vs[1]? = some (.str qual t)) (hC : oC.data = .cell (some (.ref LE))) (hc : StrsAre chars xs) (hx : xs.length ≤ 250)
    (hlt : CE < LE ∧ LE < DS ∧ DS < S ∧ S < PS ∧ PS < CO ∧ CO < FN ∧ FN < DX ∧ DX < X ∧ X < PB) (h99 : 99 < CE) (hnx : NextFn w fo CE CO qual) : LexRet w qual xs h h' (.ref X) := by
  have fr : ∀ (b : Nat) (o : Obj), (b, o) ∈ _ → 99 < b → h.get? b = none := fun b o hm hne => by
    have h1 := (N (b, o) hm).2.2
    cases e : h.get? b with
    | none => rfl
    | some o' => rw [← hg, hideAll_get [99] e (fun hh => Nat.ne_of_gt hne (List.mem_singleton.mp hh))] at h1; cases h1
  refine ⟨CO, oc, ⟨PB, X, DX, FN, PS, S, DS, LE, CE⟩, _, vs, t, News.get N (by k_mem), rfl, News.get N (by k_mem), fr CO oc (by k_mem) (by omega), ho, hv, ⟨fo, oC, [], chars, 0, e2, 1, t1, t2, t3, t4, t5, t6, t7, t8, t9, t10, t11, t12, t13, hnx, hC, .nil, hc, hx, by decide, by omega, ?_, rfl⟩, fun p hp => ?_, ?_⟩
  · exact ⟨hlt.1, hlt.2.1, hlt.2.2.1, hlt.2.2.2.1, Nat.lt_trans hlt.2.2.2.2.1 hlt.2.2.2.2.2.1, hlt.2.2.2.2.2.2.1, hlt.2.2.2.2.2.2.2.1, hlt.2.2.2.2.2.2.2.2⟩
  · simp only [List.mem_cons, List.not_mem_nil, or_false] at hp
    rcases hp with rfl | rfl | rfl | rfl | rfl | rfl | rfl | rfl | rfl <;> exact ⟨News.get N (by k_mem), fr _ _ (by k_mem) (by dsimp only; omega)⟩
  · show CO ∉ [PB, X, DX, FN, PS, S, DS, LE, CE]
    simp only [List.mem_cons, List.not_mem_nil, or_false, not_or]
    omega
abbrev LQ : Str := Str.ofString "_law_lexer.<locals>._law_next"
theorem lexer_spec (w : World) (x : Str) (t : Tok) (hx : x.length ≤ 250) :
    MSpec 2 104 w [.str x t] [(99, tabObj #[])] (fun h => CodeHd h 103 99) (LexRet w LQ (signs x)) := by
  unfold MSpec PR KF LO
  k_fill
  intro mean mg mb dp un gd cn scp a ccd cl outer A₀ base h₀ L m s Q E B F X N T hk hroom hunits hpre hret
  refine wpAny_call ?_
  k_dflt (refine' code_defCM ?k1 ?k2 ?k3 ?k4 ?k5 ?kA ?kF ?kK ?k6 ?k7 ?k8 ?k9 ?kB ?kD ?_ ?c2 ?c3 ?c4; (case kA => exact rfl); (case kF => exact rfl); (case kK => assumption); (case k1 => k_asm); (case k2 => k_asm); (case k3 => k_asm); (case k4 => k_asm); (case k5 => k_asm); (case k6 => k_is); (case k7 => k_is); (case k8 => ktr_room); (case k9 => exact BindsTo.of_eq rfl); (case kB => exact rfl); (case kD => decide +kernel); (case c2 => exact rfl); (case c3 => exact rfl); (case c4 => exact rfl); k_whole; intro g0 L0 h0 tk0 cells' hg0 FG0 F' N' Y' B' X' T' l1; (try k_lt l1); k_cells Y'; (try simp only [List.cons_append, List.nil_append] at N'); (try dsimp only); (try k_lift B'); (try k_fold))
  have C' : CodeHd g0 103 99 := by
    obtain ⟨o, vs, file, tf, flags, tg, inF, text, tt, e, r⟩ := hpre
    exact ⟨o, vs, file, tf, flags, tg, inF, text, tt, by rw [← hg0]; exact hideAll_get _ e (by decide), r⟩
  have lD0 : L0 + 1 < h0.objs.size ∧ 99 < h0.objs.size := ⟨Heap.lt_size (N' _ (.head _)).1, Heap.lt_size (N' _ (.tail _ (.head _))).1⟩
  w_on
  repeat ((fail_if_success (with_reducible show wpAny _ _ (storeName _ _ _) _ _ _)); (first | walk1 | (dsimp only; walk1)))
  rename_i tk1 ys hk1 hf1 hl1 hp1 hc1 _
  have lD : L0 + 1 < h0.objs.size ∧ 99 < h0.objs.size := lD0
  rename Fr _ _ _ _ => F1
  rename News _ _ _ _ => N1
  obtain ⟨ep, N2⟩ := news_put F1 N1 hp1 hf1
  dsimp only at N2 lD hc1 ⊢
  generalize h0.objs.size = D at *
  clear N1 hf1 hl1 hp1 hk1
  walk1
  simp only [List.cons_append, List.nil_append] at *
  k_steps
  k_dflt (refine' call_cls ?k1 ?k2 ?k3 ?k4 ?k5 ?k6 ?_; (case k1 => k_asm); (case k2 => k_asm); (case k3 => k_asm); (case k4 => k_is); (case k5 => k_is); (case k6 => k_is); k_whole; intro x' d' h' F' N' l1 l2; (try k_lt l1); (try k_lt2 l2); (try k_sweep); (k_dflt (refine' code_defL ?k1 ?k2 ?k3 ?k4 ?k5 ?kA ?kF ?kK ?k6 ?k7 ?k8 ?k9 ?kB ?_ ?c2 ?c3 ?c4 ?c5; (case kA => exact rfl); (case kF => exact rfl); (case kK => first | exact rfl | assumption); (case k1 => k_asm); (case k2 => k_asm); (case k3 => k_asm); (case k4 => k_asm); (case k5 => k_asm); (case k6 => k_is); (case k7 => k_is); (case k8 => ktr_room); (case k9 => exact BindsTo.of_eq rfl); (case c5 => decide); (case kB => exact locs rfl); (case c2 => exact rfl); (case c3 => exact rfl); (case c4 => exact rfl); k_whole; intro g' L' h' FG' F' N' B' X' T' l1; (try k_lt l1); (try dsimp only); (try k_lift B'); (try k_fold))))
  k_steps
  k_dflt (refine' call_cls ?k1 ?k2 ?k3 ?k4 ?k5 ?k6 ?_; (case k1 => k_asm); (case k2 => k_asm); (case k3 => k_asm); (case k4 => k_is); (case k5 => k_is); (case k6 => k_is); k_whole; intro x' d' h' F' N' l1 l2; (try k_lt l1); (try k_lt2 l2); (try k_sweep); (k_dflt (refine' code_defL ?k1 ?k2 ?k3 ?k4 ?k5 ?kA ?kF ?kK ?k6 ?k7 ?k8 ?k9 ?kB ?_ ?c2 ?c3 ?c4 ?c5; (case kA => exact rfl); (case kF => exact rfl); (case kK => first | exact rfl | assumption); (case k1 => k_asm); (case k2 => k_asm); (case k3 => k_asm); (case k4 => k_asm); (case k5 => k_asm); (case k6 => k_is); (case k7 => k_is); (case k8 => ktr_room); (case k9 => exact BindsTo.of_eq rfl); (case c5 => decide); (case kB => exact locs rfl); (case c2 => exact rfl); (case c3 => exact rfl); (case c4 => exact rfl); k_whole; intro g' L' h' FG' F' N' B' X' T' l1; (try k_lt l1); (try dsimp only); (try k_lift B'); (try k_fold))))
  k_steps
  refine hret _ _ _ (keep_but hg0 (by assumption)) ?_
  refine lex_made (g := g0) (L := L0) hg0 (by assumption) (by assumption) (by assumption) (by assumption) ?ch ?sz ?lts ?h99 ?nx
  case ch => exact StrsAre.ofCarried (by assumption)
  case sz => rw [signs_length]; exact hx
  case lts => refine ⟨lD.1, ?_⟩; omega
  case h99 => omega
  unfold NextFn
  refine ⟨⟨_, _, _, _, rfl⟩, ?_⟩
  intro FN2 LE2 oC2 chars2 xs2 ep2 t2 hC2 hne2 hs2 hx2
  clear hret hroom hunits hpre hk B F X N T
  unfold MSpec PR KF LO
  k_fill
  intro mean mg mb dp un gd cn scp a ccd cl outer A₀ base h₀ L m s Q E B F X N T hk hroom hunits hpre hret
  refine wpAny_call ?_
  k_dflt (refine' code_nestM ?k1 ?k2 ?k3 ?k4 ?k5 ?kA ?kF ?kK ?k6 ?k6d ?k7 ?k8 ?k9 ?kB ?_ ?c2 ?c3 ?c4 ?c5; (case kA => exact rfl); (case kF => exact rfl); (case kK => assumption); (case k1 => k_asm); (case k2 => k_asm); (case k3 => k_asm); (case k4 => k_asm); (case k5 => k_asm); (case k6 => exact hpre.1); (case k6d => exact rfl); (case k7 => exact hpre.2); (case k8 => ktr_room); (case k9 => exact BindsTo.of_eq rfl); (case c5 => decide); (case kB => exact locs rfl); (case c2 => exact rfl); (case c3 => exact rfl); (case c4 => exact rfl); k_whole; intro g' L' h' hg' FG' F' N' B' X' T' l1; (try k_lt l1); (try dsimp only); (try k_lift B'); (try k_fold))
  repeat ((fail_if_success (with_reducible show wpAny _ _ (truthy _) _ _ _)); (first | walk1 | (dsimp only; walk1)))
  have hl2 := hs2.len_eq
  refine wpAny_truthy_list (News.isList N' (by k_mem)) (by rw [List.size_toArray, hl2]; omega) ?_
  cases hs2 with
  | nil =>
    k_steps
    exact hret _ _ _ (keep_but hg' (by assumption)) ⟨[], [], _, _, _, News.get (by assumption : News g' _ _ _) (by k_mem), News.get (by assumption : News g' _ _ _) (by k_mem), .nil, rfl, .inl ⟨rfl, rfl, rfl⟩⟩
  | @cons y0 t0 vr yr hr0 =>
    rw [show ((Value.str y0 t0 :: vr).toArray.isEmpty) = false from rfl]
    repeat ((fail_if_success (with_reducible show wpAny _ _ (call _ _) _ _ _)); (first | walk1 | (dsimp only; walk1)))
    refine' kl_popAt (its := (Value.str y0 t0 :: vr).toArray) (p := []) (k := 0) (q := vr) (y := .str y0 t0) ?F ?N rfl (seq0 vr.length) rfl ?U ?z ?_
    case F => k_asm
    case N => k_asm
    case U => k_upd
    case z => (show (Value.str y0 t0 :: vr).length ≤ sizeLine); rw [hl2, sizeLine_eq]; omega
    intro h6 F6 N6
    k_steps
    exact hret _ _ _ (keep_but hg' F6) ⟨vr, yr, _, _, _, News.get N6 (by k_mem), News.get N6 (by k_mem), hr0, rfl, .inr rfl⟩
end Mine
end

section
open PySem PySem.W PySem.Calls PyProof.Rows
set_option Elab.async false
set_option maxRecDepth 100000
set_option maxHeartbeats 4000000
namespace Mine
inductive LexRet2 (w : World) (CO : Nat) (qual : Str) (T : Array Value) (xs : List Str) (h h' : Heap) (v : Value) : Prop
  | mk (a : LexAds) (lst : List (Addr × Obj))
    (_ : h'.get? 99 = some (tabObj T)) (_ : v = .ref a.X) (_ : LexAt w CO qual a [] xs lst) (_ : ∀ p ∈ lst, h'.get? p.1 = some p.2 ∧ h.get? p.1 = none)
theorem lex_made2 {w : World} {xs : List Str} {h h' g : Heap} {L CO PB X DX FN PS S DS LE CE : Nat} {fo oC : Obj} {chars : List Value} {T : Array Value} {e2 : Nat} {t1 t2 t3 t4 t5 t6 t7 t8 t9 t10 t11 t12 t13 : Tok} {qual : Str}
    (hg : hideAll h [99] = g) (N : News g L h' [(PB, W.listOf #[] 0), (X, instObj 69 DX),
      (DX, dictOf [ent w "lineno" t1 (.int 1 t2), ent w "instream" t3 (.ref S), ent w "whitespace" t4 (.str (Str.ofString "\n\t\r ") t5), ent w "pushback" t6 (.ref PB)] 4),
      (FN, fo), (PS, W.listOf #[] 0), (S, instObj 69 DS),
      (DS, dictOf [ent w "lineno" t7 (.int 1 t8), ent w "instream" t9 .none, ent w "whitespace" t10 (.str (Str.ofString "\n\t\r ") t11), ent w "pushback" t12 (.ref PS), ent w "read" t13 (.ref FN)] 5),
      (LE, W.listOf chars.toArray e2), (CE, oC), (99, tabObj T)])
    (hC : oC.data = .cell (some (.ref LE))) (hc : StrsAre chars xs) (hx : xs.length ≤ 250)
    (hlt : CE < LE ∧ LE < DS ∧ DS < S ∧ S < PS ∧ PS < FN ∧ FN < DX ∧ DX < X ∧ X < PB) (h99 : 99 < CE) (hnx : NextFn w fo CE CO qual) : LexRet2 w CO qual T xs h h' (.ref X) := by
  have fr : ∀ (b : Nat) (o : Obj), (b, o) ∈ _ → 99 < b → h.get? b = none := fun b o hm hne => by
    have h1 := (N (b, o) hm).2.2
    cases e : h.get? b with
    | none => rfl
    | some o' => rw [← hg, hideAll_get [99] e (fun hh => Nat.ne_of_gt hne (List.mem_singleton.mp hh))] at h1; cases h1
  refine ⟨⟨PB, X, DX, FN, PS, S, DS, LE, CE⟩, _, News.get N (by k_mem), rfl, ⟨fo, oC, [], chars, 0, e2, 1, t1, t2, t3, t4, t5, t6, t7, t8, t9, t10, t11, t12, t13, hnx, hC, .nil, hc, hx, by decide, by omega, hlt, rfl⟩, fun p hp => ?_⟩
  simp only [List.mem_cons, List.not_mem_nil, or_false] at hp
  rcases hp with rfl | rfl | rfl | rfl | rfl | rfl | rfl | rfl | rfl <;> exact ⟨News.get N (by k_mem), fr _ _ (by k_mem) (by dsimp only; omega)⟩
theorem lexer_spec2 (w : World) (x : Str) (t : Tok) (hx : x.length ≤ 250) (CO : Nat) :
    MSpec 2 104 w [.str x t] [(99, tabObj #[rawInt ((79 : Nat) : Int), rawInt ((4 : Nat) : Int), .ref CO])] (fun h => CodeHd h 103 99) (LexRet2 w CO LQ #[rawInt ((79 : Nat) : Int), rawInt ((4 : Nat) : Int), .ref CO] (signs x)) := by
  unfold MSpec PR KF LO
  k_fill
  intro mean mg mb dp un gd cn scp a ccd cl outer A₀ base h₀ L m s Q E B F X N T hk hroom hunits hpre hret
  refine wpAny_call ?_
  k_dflt (refine' code_defCM ?k1 ?k2 ?k3 ?k4 ?k5 ?kA ?kF ?kK ?k6 ?k7 ?k8 ?k9 ?kB ?kD ?_ ?c2 ?c3 ?c4; (case kA => exact rfl); (case kF => exact rfl); (case kK => assumption); (case k1 => k_asm); (case k2 => k_asm); (case k3 => k_asm); (case k4 => k_asm); (case k5 => k_asm); (case k6 => k_is); (case k7 => k_is); (case k8 => ktr_room); (case k9 => exact BindsTo.of_eq rfl); (case kB => exact rfl); (case kD => decide +kernel); (case c2 => exact rfl); (case c3 => exact rfl); (case c4 => exact rfl); k_whole; intro g0 L0 h0 tk0 cells' hg0 FG0 F' N' Y' B' X' T' l1; (try k_lt l1); k_cells Y'; (try simp only [List.cons_append, List.nil_append] at N'); (try dsimp only); (try k_lift B'); (try k_fold))
  have C' : CodeHd g0 103 99 := by
    obtain ⟨o, vs, file, tf, flags, tg, inF, text, tt, e, r⟩ := hpre
    exact ⟨o, vs, file, tf, flags, tg, inF, text, tt, by rw [← hg0]; exact hideAll_get [99] e (by decide), r⟩
  have lD0 : L0 + 1 < h0.objs.size ∧ 99 < h0.objs.size := ⟨Heap.lt_size (N' _ (.head _)).1, Heap.lt_size (N' _ (.tail _ (.head _))).1⟩
  w_on
  repeat ((fail_if_success (with_reducible show wpAny _ _ (storeName _ _ _) _ _ _)); (first | walk1 | (dsimp only; walk1)))
  rename_i tk1 ys hk1 hf1 hl1 hp1 hc1 _
  have lD : L0 + 1 < h0.objs.size ∧ 99 < h0.objs.size := lD0
  rename Fr _ _ _ _ => F1
  rename News _ _ _ _ => N1
  obtain ⟨ep, N2⟩ := news_put F1 N1 hp1 hf1
  dsimp only at N2 lD hc1 ⊢
  generalize h0.objs.size = D at *
  clear N1 hf1 hl1 hp1 hk1
  walk1
  simp only [List.cons_append, List.nil_append] at *
  k_steps
  k_dflt (refine' call_cls ?k1 ?k2 ?k3 ?k4 ?k5 ?k6 ?_; (case k1 => k_asm); (case k2 => k_asm); (case k3 => k_asm); (case k4 => k_is); (case k5 => k_is); (case k6 => k_is); k_whole; intro x' d' h' F' N' l1 l2; (try k_lt l1); (try k_lt2 l2); (try k_sweep); (k_dflt (refine' code_defL ?k1 ?k2 ?k3 ?k4 ?k5 ?kA ?kF ?kK ?k6 ?k7 ?k8 ?k9 ?kB ?_ ?c2 ?c3 ?c4 ?c5; (case kA => exact rfl); (case kF => exact rfl); (case kK => first | exact rfl | assumption); (case k1 => k_asm); (case k2 => k_asm); (case k3 => k_asm); (case k4 => k_asm); (case k5 => k_asm); (case k6 => k_is); (case k7 => k_is); (case k8 => ktr_room); (case k9 => exact BindsTo.of_eq rfl); (case c5 => decide); (case kB => exact locs rfl); (case c2 => exact rfl); (case c3 => exact rfl); (case c4 => exact rfl); k_whole; intro g' L' h' FG' F' N' B' X' T' l1; (try k_lt l1); (try dsimp only); (try k_lift B'); (try k_fold))))
  k_steps
  k_dflt (refine' call_cls ?k1 ?k2 ?k3 ?k4 ?k5 ?k6 ?_; (case k1 => k_asm); (case k2 => k_asm); (case k3 => k_asm); (case k4 => k_is); (case k5 => k_is); (case k6 => k_is); k_whole; intro x' d' h' F' N' l1 l2; (try k_lt l1); (try k_lt2 l2); (try k_sweep); (k_dflt (refine' code_defL ?k1 ?k2 ?k3 ?k4 ?k5 ?kA ?kF ?kK ?k6 ?k7 ?k8 ?k9 ?kB ?_ ?c2 ?c3 ?c4 ?c5; (case kA => exact rfl); (case kF => exact rfl); (case kK => first | exact rfl | assumption); (case k1 => k_asm); (case k2 => k_asm); (case k3 => k_asm); (case k4 => k_asm); (case k5 => k_asm); (case k6 => k_is); (case k7 => k_is); (case k8 => ktr_room); (case k9 => exact BindsTo.of_eq rfl); (case c5 => decide); (case kB => exact locs rfl); (case c2 => exact rfl); (case c3 => exact rfl); (case c4 => exact rfl); k_whole; intro g' L' h' FG' F' N' B' X' T' l1; (try k_lt l1); (try dsimp only); (try k_lift B'); (try k_fold))))
  k_steps
  refine hret _ _ _ (keep_but hg0 (by assumption)) ?_
  refine lex_made2 (g := g0) (L := L0) hg0 (by assumption) (by assumption) ?ch ?sz ?lts ?h99 ?nx
  case ch => exact StrsAre.ofCarried (by assumption)
  case sz => rw [signs_length]; exact hx
  case lts => refine ⟨lD.1, ?_⟩; omega
  case h99 => omega
  unfold NextFn
  refine ⟨⟨_, _, _, _, rfl⟩, ?_⟩
  intro FN2 LE2 oC2 chars2 xs2 ep2 t2 hC2 hne2 hs2 hx2
  clear hret hroom hunits hpre hk B F X N T
  unfold MSpec PR KF LO
  k_fill
  intro mean mg mb dp un gd cn scp a ccd cl outer A₀ base h₀ L m s Q E B F X N T hk hroom hunits hpre hret
  refine wpAny_call ?_
  k_dflt (refine' code_nestM ?k1 ?k2 ?k3 ?k4 ?k5 ?kA ?kF ?kK ?k6 ?k6d ?k7 ?k8 ?k9 ?kB ?_ ?c2 ?c3 ?c4 ?c5; (case kA => exact rfl); (case kF => exact rfl); (case kK => assumption); (case k1 => k_asm); (case k2 => k_asm); (case k3 => k_asm); (case k4 => k_asm); (case k5 => k_asm); (case k6 => exact hpre.1); (case k6d => exact rfl); (case k7 => exact hpre.2); (case k8 => ktr_room); (case k9 => exact BindsTo.of_eq rfl); (case c5 => decide); (case kB => exact locs rfl); (case c2 => exact rfl); (case c3 => exact rfl); (case c4 => exact rfl); k_whole; intro g' L' h' hg' FG' F' N' B' X' T' l1; (try k_lt l1); (try dsimp only); (try k_lift B'); (try k_fold))
  repeat ((fail_if_success (with_reducible show wpAny _ _ (truthy _) _ _ _)); (first | walk1 | (dsimp only; walk1)))
  have hl2 := hs2.len_eq
  refine wpAny_truthy_list (News.isList N' (by k_mem)) (by rw [List.size_toArray, hl2]; omega) ?_
  cases hs2 with
  | nil =>
    k_steps
    exact hret _ _ _ (keep_but hg' (by assumption)) ⟨[], [], _, _, _, News.get (by assumption : News g' _ _ _) (by k_mem), News.get (by assumption : News g' _ _ _) (by k_mem), .nil, rfl, .inl ⟨rfl, rfl, rfl⟩⟩
  | @cons y0 t0 vr yr hr0 =>
    rw [show ((Value.str y0 t0 :: vr).toArray.isEmpty) = false from rfl]
    repeat ((fail_if_success (with_reducible show wpAny _ _ (call _ _) _ _ _)); (first | walk1 | (dsimp only; walk1)))
    refine' kl_popAt (its := (Value.str y0 t0 :: vr).toArray) (p := []) (k := 0) (q := vr) (y := .str y0 t0) ?F ?N rfl (seq0 vr.length) rfl ?U ?z ?_
    case F => k_asm
    case N => k_asm
    case U => k_upd
    case z => (show (Value.str y0 t0 :: vr).length ≤ sizeLine); rw [hl2, sizeLine_eq]; omega
    intro h6 F6 N6
    k_steps
    exact hret _ _ _ (keep_but hg' F6) ⟨vr, yr, _, _, _, News.get N6 (by k_mem), News.get N6 (by k_mem), hr0, rfl, .inr rfl⟩
end Mine
end

section
open PySem PySem.W PySem.Calls PyProof.Rows
set_option Elab.async false
set_option maxRecDepth 100000
set_option maxHeartbeats 4000000
namespace Mine
/-- what a call on a lexer leaves -/
def LexTo (w : World) (CO : Nat) (a : LexAds) (pb xs : List Str) (h' : Heap) : Prop := ∃ lst, LexAt w CO LQ a pb xs lst ∧ ∀ p ∈ lst, h'.get? p.1 = some p.2
theorem push_spec (w : World) (CO : Nat) (a : LexAds) (pb xs : List Str) (lst : List (Addr × Obj)) (hL : LexAt w CO LQ a pb xs lst) (hp : pb.length ≤ 200) (y : Str) (t : Tok) :
    MSpec 1 66 w [.ref a.X, .str y t] lst (fun _ => True) (fun _ h' v => v = .none ∧ LexTo w CO a (pb ++ [y]) xs h') := by
  obtain ⟨PB, X, DX, FN, PS, S, DS, LE, CE⟩ := a
  obtain ⟨fo, oC, pvs, chars, e1, e2, ln, t1, t2, t3, t4, t5, t6, t7, t8, t9, t10, t11, t12, t13, hnx, hC, hpv, hch, hx, hl0, hl1, hlt, rfl⟩ := hL
  dsimp only at hnx hC hlt ⊢
  unfold MSpec PR KF LO
  k_fill
  intro mean mg mb dp un gd cn scp a ccd cl outer A₀ base h₀ L m s Q E B F X N T hk hroom hunits hpre hret
  refine wpAny_call ?_
  k_dflt (refine' code_defM ?k1 ?k2 ?k3 ?k4 ?k5 ?kA ?kF ?kK ?k6 ?k7 ?k8 ?k9 ?kB ?_ ?c2 ?c3 ?c4 ?c5; (case kA => exact rfl); (case kF => exact rfl); (case kK => assumption); (case k1 => k_asm); (case k2 => k_asm); (case k3 => k_asm); (case k4 => k_asm); (case k5 => k_asm); (case k6 => k_is); (case k7 => k_is); (case k8 => ktr_room); (case k9 => exact BindsTo.of_eq rfl); (case c5 => decide); (case kB => exact locs rfl); (case c2 => exact rfl); (case c3 => exact rfl); (case c4 => exact rfl); k_whole; intro g' L' h' hg' FG' F' N' B' X' T' l1; (try k_lt l1); (try dsimp only); (try k_lift B'); (try k_fold))
  repeat ((fail_if_success (with_reducible show wpAny _ _ (call (Value.builtin "list.append") _) _ _ _)); (first | walk1 | (dsimp only; walk1)))
  have hlp := hpv.len_eq
  k_dflt (refine' append_K ?k1 ?k2 ?k3 ?_ ?apsz; (case k1 => k_asm); (case k2 => k_asm); (case k3 => k_upd); (case apsz => rw [List.size_toArray, hlp, sizeLine_eq]; omega))
  intro h6 F6 N6
  rw [List.push_toArray] at N6
  k_steps
  exact hret _ _ _ (keep_but hg' F6) ⟨rfl, _, ⟨fo, oC, pvs ++ [.str y t], chars, e1 + 1, e2, ln, t1, t2, t3, t4, t5, t6, t7, t8, t9, t10, t11, t12, t13, hnx, hC, strs_snoc hpv _ _, hch, hx, hl0, hl1, hlt, rfl⟩, fun p hp => (N6 p hp).1⟩
theorem get_pushed (w : World) (CO : Nat) (a : LexAds) (y : Str) (pb xs : List Str) (lst : List (Addr × Obj)) (hL : LexAt w CO LQ a (y :: pb) xs lst) (hp : pb.length ≤ 200) :
    MSpec 1 59 w [.ref a.X] lst (fun _ => True) (fun _ h' v => (∃ t, v = .str y t) ∧ LexTo w CO a pb xs h') := by
  obtain ⟨PB, X, DX, FN, PS, S, DS, LE, CE⟩ := a
  obtain ⟨fo, oC, pvs, chars, e1, e2, ln, t1, t2, t3, t4, t5, t6, t7, t8, t9, t10, t11, t12, t13, hnx, hC, hpv, hch, hx, hl0, hl1, hlt, rfl⟩ := hL
  dsimp only at hnx hC hlt ⊢
  have hlp := hpv.len_eq
  cases hpv with
  | @cons _ ty pvr _ hpr =>
  unfold MSpec PR KF LO
  k_fill
  intro mean mg mb dp un gd cn scp a ccd cl outer A₀ base h₀ L m s Q E B F X N T hk hroom hunits hpre hret
  refine wpAny_call ?_
  k_dflt (refine' code_defM ?k1 ?k2 ?k3 ?k4 ?k5 ?kA ?kF ?kK ?k6 ?k7 ?k8 ?k9 ?kB ?_ ?c2 ?c3 ?c4 ?c5; (case kA => exact rfl); (case kF => exact rfl); (case kK => assumption); (case k1 => k_asm); (case k2 => k_asm); (case k3 => k_asm); (case k4 => k_asm); (case k5 => k_asm); (case k6 => k_is); (case k7 => k_is); (case k8 => ktr_room); (case k9 => exact BindsTo.of_eq rfl); (case c5 => decide); (case kB => exact locs rfl); (case c2 => exact rfl); (case c3 => exact rfl); (case c4 => exact rfl); k_whole; intro g' L' h' hg' FG' F' N' B' X' T' l1; (try k_lt l1); (try dsimp only); (try k_lift B'); (try k_fold))
  repeat ((fail_if_success (with_reducible show wpAny _ _ (truthy _) _ _ _)); (first | walk1 | (dsimp only; walk1)))
  refine wpAny_truthy_list (News.isList N' (by k_mem)) (by rw [List.size_toArray, hlp, List.length_cons]; omega) ?_
  rw [show ((Value.str y ty :: pvr).toArray.isEmpty) = false from rfl]
  repeat ((fail_if_success (with_reducible show wpAny _ _ (call _ _) _ _ _)); (first | walk1 | (dsimp only; walk1)))
  refine' kl_popAt (its := (Value.str y ty :: pvr).toArray) (p := []) (k := 0) (q := pvr) (y := .str y ty) ?F ?N rfl (seq0 pvr.length) rfl ?U ?z ?_
  case F => k_asm
  case N => k_asm
  case U => k_upd
  case z => (show (Value.str y ty :: pvr).length ≤ sizeLine); rw [hlp, sizeLine_eq, List.length_cons]; omega
  intro h6 F6 N6
  k_steps
  exact hret _ _ _ (keep_but hg' F6) ⟨⟨ty, rfl⟩, _, ⟨fo, oC, pvr, chars, e1 + 1, e2, ln, t1, t2, t3, t4, t5, t6, t7, t8, t9, t10, t11, t12, t13, hnx, hC, hpr, hch, hx, hl0, hl1, hlt, rfl⟩, fun p hp => (N6 p hp).1⟩
end Mine
end

section
open PySem PySem.W PySem.Calls PyProof.Rows
set_option Elab.async false
set_option maxRecDepth 100000
set_option maxHeartbeats 4000000
namespace Mine
/-- as MSpec, the call's code itself -/
abbrev MCode (lv : Nat) (f : Addr) (w : World) (vs : List Value) (fp : List (Addr × Obj)) (Pre : Heap → Prop) (Ret : Heap → Heap → Value → Prop) : Prop :=
  ∀ (mean : ExcName → Option Value) (mg mb : Str → Option Value) (dp un : Nat) (gd : Option (List Code)) (cn : Str) (cs : Scope) (a : Addr) (ccd : Value) (cl : List (Str × Addr)) (outer : List Env) (A₀ : Around) (base h₀ : Heap) (L : Addr) (m : Str → Option Value) (s : Shared) (R : Result → Shared → Prop),
    Below A₀ base outer h₀ → Fr h₀ L s.heap m → (KF w).In h₀ → News h₀ L s.heap fp → Top topProg LO mean mg mb h₀ → cs.kind = .function →
    dp + lv < recursionLimit → un + 20 * lv + 20 < cLine → Pre s.heap →
    (∀ v h' tk', (∀ b o, b ∉ fp.map (·.1) → s.heap.get? b = some o → h'.get? b = some o) → Ret s.heap h' v → R (.ok (.ret v)) { s with heap := h', toks := tk' }) →
      codeAny (model PR w) (ktrTop dp un gd cn cs L a ccd cl outer) (.call (.ref f) ⟨vs, []⟩) R s
theorem MCode.spec {lv : Nat} {f : Addr} {w : World} {vs : List Value} {fp : List (Addr × Obj)} {Pre : Heap → Prop} {Ret : Heap → Heap → Value → Prop} (h : MCode lv f w vs fp Pre Ret) : MSpec lv f w vs fp Pre Ret := by
  intro mean mg mb dp un gd cn cs a ccd cl outer A₀ base h₀ L m s Q E B F X N T hk hroom hunits hpre hret
  exact wpAny_call (h mean mg mb dp un gd cn cs a ccd cl outer A₀ base h₀ L m s _ B F X N T hk hroom hunits hpre hret)
/-- one sign is read -/
inductive ReadRet (w : World) (CO : Nat) (a : LexAds) (pb xs : List Str) (h' : Heap) (v : Value) : Prop
  | mk y t ys
    (_ : v = .str y t) (_ : LexTo w CO a pb ys h') (_ : (xs = [] ∧ ys = [] ∧ y = Str.ofString "") ∨ xs = y :: ys)
theorem codeRec_but {h h' : Heap} {ads : List Addr} {CO : Addr} {q : Str} (hk : ∀ b o, b ∉ ads → h.get? b = some o → h'.get? b = some o) (hc : h.CodeRec (.ref CO) q) (hn : CO ∉ ads) : h'.CodeRec (.ref CO) q := by
  obtain ⟨c, o, vs, t, e, g, r⟩ := hc
  cases e
  exact ⟨CO, o, vs, t, rfl, hk _ _ hn g, r⟩
theorem readc_code (w : World) (CO : Nat) (a : LexAds) (pb xs : List Str) (lst : List (Addr × Obj)) (hL : LexAt w CO LQ a pb xs lst) :
    MCode 2 52 w [.ref a.X] lst (fun h => h.CodeRec (.ref CO) LQ ∧ CO ∉ a.list) (fun _ h' v => ReadRet w CO a pb xs h' v) := by
  obtain ⟨PB, X, DX, FN, PS, S, DS, LE, CE⟩ := a
  obtain ⟨fo, oC, pvs, chars, e1, e2, ln, t1, t2, t3, t4, t5, t6, t7, t8, t9, t10, t11, t12, t13, hnx, hC, hpv, hch, hx, hl0, hl1, hlt, rfl⟩ := hL
  dsimp only at hnx hC hlt ⊢
  generalize hXX : X = XX at *
  unfold MCode PR KF LO
  k_fill
  intro mean mg mb dp un gd cn scp a ccd cl outer A₀ base h₀ L m s Q B F X N T hk hroom hunits hpre hret
  k_dflt (refine' code_defM ?k1 ?k2 ?k3 ?k4 ?k5 ?kA ?kF ?kK ?k6 ?k7 ?k8 ?k9 ?kB ?_ ?c2 ?c3 ?c4 ?c5; (case kA => exact rfl); (case kF => exact rfl); (case kK => assumption); (case k1 => k_asm); (case k2 => k_asm); (case k3 => k_asm); (case k4 => k_asm); (case k5 => k_asm); (case k6 => k_is); (case k7 => k_is); (case k8 => ktr_room); (case k9 => exact BindsTo.of_eq rfl); (case c5 => decide); (case kB => exact locs rfl); (case c2 => exact rfl); (case c3 => exact rfl); (case c4 => exact rfl); k_whole; intro g' L' h' hg' FG' F' N' B' X' T' l1; (try k_lt l1); (try dsimp only); (try k_lift B'); (try k_fold))
  repeat ((fail_if_success (with_reducible show wpAny _ _ (call _ _) _ _ _)); (first | walk1 | (dsimp only; walk1)))
  obtain ⟨⟨oc9, od9, fd9, sl9, rfl⟩, hnx⟩ := hnx
  refine callWith_F ⟨_, _, _, _, News.get N' (by k_mem)⟩ ?_
  repeat ((fail_if_success (with_reducible show wpAny _ _ (call _ _) _ _ _)); (first | walk1 | (dsimp only; walk1)))
  · exact ⟨_, _, _, _, News.get N' (by k_mem)⟩
  have hcr := codeRec_but (keep_but hg' F') hpre.1 hpre.2
  ((refine' (hnx FN LE oC chars xs e2 _ hC (Nat.ne_of_lt hlt.1) hch hx) _ _ _ _ _ _ _ _ _ _ _ _ _ _ _ _ _ _ _ _ ?sB ?sF ?sX ?sN ?sT ?sK ?sd ?su ?sP ?_); (case sB => k_asm); (case sF => k_asm); (case sX => k_asm); (case sN => exact fun p hp => N' p (by simp only [List.mem_cons, List.not_mem_nil, or_false] at hp ⊢; rcases hp with rfl | rfl <;> simp)); (case sT => k_asm); (case sK => first | exact rfl | assumption); (case sd => ktr_room); (case su => ktr_units); (case sP => exact ⟨News.get N' (by k_mem), hcr⟩); intro v9 h9 tk9 hk9 R9)
  obtain ⟨ch', ys, ep', y, t', hle, hce, hys, rfl, hcase⟩ := R9
  have hsub : News g' L' h' [(CE, oC), (LE, W.listOf chars.toArray e2)] := fun p hp => N' p (by simp only [List.mem_cons, List.not_mem_nil, or_false] at hp ⊢; rcases hp with rfl | rfl <;> simp)
  have F9 := fr_but F' hsub hk9
  have N9 : News g' L' h9 [(PB, W.listOf pvs.toArray e1), (XX, instObj 69 DX),
      (DX, dictOf [ent w "lineno" t1 (.int ln t2), ent w "instream" t3 (.ref S), ent w "whitespace" t4 (.str (Str.ofString "\n\t\r ") t5), ent w "pushback" t6 (.ref PB)] 4),
      (FN, ⟨oc9, od9, .func fd9, sl9⟩), (PS, W.listOf #[] 0), (S, instObj 69 DS),
      (DS, dictOf [ent w "lineno" t7 (.int 1 t8), ent w "instream" t9 .none, ent w "whitespace" t10 (.str (Str.ofString "\n\t\r ") t11), ent w "pushback" t12 (.ref PS), ent w "read" t13 (.ref FN)] 5),
      (LE, W.listOf ch'.toArray ep'), (CE, oC)] := by
    have old : ∀ (b : Nat) (o : Obj), b ≠ CE → b ≠ LE → (b, o) ∈ _ → h9.get? b = some o ∧ b ≠ L' ∧ g'.get? b = none := fun b o h1 h2 hm => ⟨hk9 b o (by simp [h1, h2]) (N' (b, o) hm).1, (N' (b, o) hm).2⟩
    intro p hp
    simp only [List.mem_cons, List.not_mem_nil, or_false] at hp
    rcases hp with rfl | rfl | rfl | rfl | rfl | rfl | rfl | rfl | rfl
    · exact old _ _ (by omega) (by omega) (by k_mem)
    · exact old _ _ (by omega) (by omega) (by k_mem)
    · exact old _ _ (by omega) (by omega) (by k_mem)
    · exact old _ _ (by omega) (by omega) (by k_mem)
    · exact old _ _ (by omega) (by omega) (by k_mem)
    · exact old _ _ (by omega) (by omega) (by k_mem)
    · exact old _ _ (by omega) (by omega) (by k_mem)
    · exact ⟨hle, (N' (LE, W.listOf chars.toArray e2) (by k_mem)).2⟩
    · exact ⟨hce, (N' (CE, oC) (by k_mem)).2⟩
  clear hsub hk9 hle hce N'
  dsimp only [ent] at N9
  k_steps
  · rename Fr g' L' _ _ => F8
    rename News g' L' _ _ => N8
    have hy : (y == Str.ofString "\n") = true := by assumption
    have hxs : xs = y :: ys := by
      rcases hcase with ⟨_, _, rfl⟩ | h
      · exact absurd hy (by decide +kernel)
      · exact h
    subst hxs
    rw [List.length_cons] at hx hl1
    exact hret _ _ _ (keep_but hg' F8) ⟨y, t', ys, rfl, ⟨_, ⟨_, oC, pvs, ch', e1, ep', ln + 1, _, _, _, _, _, _, _, _, _, _, _, _, _, ⟨⟨_, _, _, _, rfl⟩, hnx⟩, hC, hpv, hys, by omega, by omega, by omega, hlt, rfl⟩, fun p hp => (N8 p hp).1⟩, .inr rfl⟩
  · rename Fr g' L' _ _ => F8
    rename News g' L' _ _ => N8
    have hz : ys.length ≤ 250 ∧ ln + ys.length ≤ 300 := by
      rcases hcase with ⟨_, rfl, _⟩ | rfl
      · simp; omega
      · rw [List.length_cons] at hx hl1; omega
    exact hret _ _ _ (keep_but hg' F8) ⟨y, t', ys, rfl, ⟨_, ⟨_, oC, pvs, ch', e1, ep', ln, _, _, _, _, _, _, _, _, _, _, _, _, _, ⟨⟨_, _, _, _, rfl⟩, hnx⟩, hC, hpv, hys, hz.1, hl0, hz.2, hlt, rfl⟩, fun p hp => (N8 p hp).1⟩, hcase⟩
end Mine
end

section
open PySem PySem.W PySem.Calls PyProof.Rows
set_option Elab.async false
set_option maxRecDepth 100000
set_option maxHeartbeats 4000000
namespace Mine
theorem lex_map {w : World} {CO : Nat} {a : LexAds} {pb xs : List Str} {lst : List (Addr × Obj)} (h : LexAt w CO LQ a pb xs lst) : lst.map (·.1) = a.list := by
  obtain ⟨fo, oC, pvs, chars, e1, e2, ln, t1, t2, t3, t4, t5, t6, t7, t8, t9, t10, t11, t12, t13, hnx, hC, hpv, hch, hx, hl0, hl1, hlt, rfl⟩ := h
  rfl
/-- what stands in front of a lexer's objects -/
inductive LexFront (w : World) (a : LexAds) (lst : List (Addr × Obj)) : Prop
  | mk (pvs : List Value) (e1 : Nat) (ln : Int) (t1 t2 t3 t4 t5 t6 : Tok) (rest : List (Addr × Obj)) (_ : lst = (a.PB, W.listOf pvs.toArray e1) :: (a.X, instObj 69 a.DX) ::
      (a.DX, dictOf [ent w "lineno" t1 (.int ln t2), ent w "instream" t3 (.ref a.S), ent w "whitespace" t4 (.str (Str.ofString "\n\t\r ") t5), ent w "pushback" t6 (.ref a.PB)] 4) :: rest)
theorem lex_front {w : World} {CO : Nat} {a : LexAds} {pb xs : List Str} {lst : List (Addr × Obj)} (h : LexAt w CO LQ a pb xs lst) : LexFront w a lst := by
  obtain ⟨fo, oC, pvs, chars, e1, e2, ln, t1, t2, t3, t4, t5, t6, t7, t8, t9, t10, t11, t12, t13, hnx, hC, hpv, hch, hx, hl0, hl1, hlt, rfl⟩ := h
  exact ⟨_, _, _, _, _, _, _, _, _, _, rfl⟩
theorem lex_news {w : World} {CO : Nat} {a : LexAds} {pb xs pb' xs' : List Str} {lst lst' : List (Addr × Obj)} (h : LexAt w CO LQ a pb xs lst) (h' : LexAt w CO LQ a pb' xs' lst') {h₀ H H' : Heap} {L : Addr} (N : News h₀ L H lst)
    (hg : ∀ p ∈ lst', H'.get? p.1 = some p.2) : News h₀ L H' lst' := fun p hp => by
  refine ⟨hg p hp, ?_⟩
  have hm : p.1 ∈ lst.map (·.1) := by rw [lex_map h, ← lex_map h']; exact List.mem_map_of_mem hp
  obtain ⟨q, hq, e⟩ := List.mem_map.mp hm
  rw [← e]; exact (N q hq).2
/-- an ended iterator -/
theorem ci_ended {prog : Program} {w : World} {A : Around} {E : Value → Shared → Prop} {s : Shared} {I : Addr} {f u : Value} {Q : Option Value → Shared → Prop} (hh : A.handled = none)
    (hI : s.heap.get? I = some (ciObj f u (.bool true))) (hQ : ∀ h', (∀ b o, s.heap.get? b = some o → h'.get? b = some o) → Q none { s with heap := h' }) :
    wpAny (model prog w) A (pyNext (.ref I)) Q E s := by
  have hT : s.TypeIs (.ref I) "callable_iterator" := ⟨_, hI, rfl⟩
  unfold pyNext
  refine wpAny_bind (wpAny_attempt (wpAny_callSpecial?_slot (name := Str.ofString "__next__") hT slot_ci_next
    (wpAny_call_entry slot_ci_next hT entry_ci_next ?_ (args_ci_next _))))
  unfold Builtin.«callable_iterator.__next__»
  refine wpAny_bind (m := slotArgs "__next__" 0 _) (wpAny_of_eq (a := (Value.ref I, [])) (by first | rfl | kernel_rfl!) ?_)
  dsimp only
  refine wpAny_bind (wpAny_field hI rfl (x := .bool true) rfl ?_)
  refine wpAny_ite_split (fun _ => ?_) (fun hab => absurd (by decide) hab)
  refine wpAny_bind (wpAny_rule ?_)
  refine wpAny_bind ?_
  unfold Builtin.SmallTypes.stopIteration
  refine wpAny_bind ?_
  simp only [newExc, newTuple]
  refine wpAny_bind (wpAny_newObj_type ?_ (by size_fits))
  refine wpAny_bind (m := firstArgMember _ _) (wpAny_of_eq (a := Value.none) (by first | rfl | (simp only [firstArgMember]; rfl)) ?_)
  refine wpAny_newObj_type ?_ (by size_fits)
  simp only [raiseNew]
  refine wpAny_bind (wpAny_handled ?_)
  first | rw [show A.in1.handled = none from hh] | rw [hh]
  refine wpAny_bind (wpAny_pure (wpAny_throw ?_))
  refine wpAny_bind (wpAny_isInstance (T := "StopIteration") (b := true) ⟨_, Heap.get?_push_size _ rfl, rfl⟩ isSubtype_stop ?_)
  exact wpAny_pure (hQ _ fun b o eo => Heap.get?_push_of_some _ (Heap.get?_push_of_some _ eo))
theorem fn52 (w : World) : PR = PR ∧ ∃ of fd, (KF w).lookup 52 = some of ∧ of.data = .func fd := by
  unfold KF PR
  k_fill
  exact ⟨rfl, _, _, by k_is, rfl⟩
/-- the next sign, by the iterator -/
theorem lex_next (w : World) (CO : Nat) (a : LexAds) (pb xs : List Str) (lst : List (Addr × Obj)) (hL : LexAt w CO LQ a pb xs lst)
    {mean : ExcName → Option Value} {mg mb : Str → Option Value} {dp un : Nat} {gd : Option (List Code)} {cn : Str} {cs : Scope} {ad : Addr} {ccd : Value} {cl : List (Str × Addr)} {outer : List Env} {A₀ : Around} {base h₀ : Heap} {L : Addr} {m : Str → Option Value} {s : Shared}
    {Q : Option Value → Shared → Prop} {E : Value → Shared → Prop} {I Mt : Addr} {tu : Tok}
    (B : Below A₀ base outer h₀) (F : Fr h₀ L s.heap m) (X : (KF w).In h₀) (N : News h₀ L s.heap ((I, ciObj (.ref Mt) (.str (Str.ofString "") tu) (.bool false)) :: (Mt, methodObj (.ref 52) (.ref a.X)) :: lst)) (T : Top topProg LO mean mg mb h₀) (hk : cs.kind = .function)
    (hroom : dp + 2 < recursionLimit) (hunits : un + 1 + 20 * 2 + 20 < cLine) (hCR : s.heap.CodeRec (.ref CO) LQ) (hCO : CO ∉ a.list) (hIM : I ≠ Mt) (hI : I ∉ a.list) (hM : Mt ∉ a.list) (hxs : ∀ y ∈ xs, y ≠ Str.ofString "")
    (item : ∀ y t ys lst' h' tk', xs = y :: ys → LexAt w CO LQ a pb ys lst' → Fr h₀ L h' m → News h₀ L h' ((I, ciObj (.ref Mt) (.str (Str.ofString "") tu) (.bool false)) :: (Mt, methodObj (.ref 52) (.ref a.X)) :: lst') → Q (some (.str y t)) { s with heap := h', toks := tk' })
    (fin : ∀ lst' h' tk', xs = [] → LexAt w CO LQ a pb [] lst' → Fr h₀ L h' m → News h₀ L h' ((I, ciObj .none .none (.bool true)) :: (Mt, methodObj (.ref 52) (.ref a.X)) :: lst') → Q none { s with heap := h', toks := tk' }) :
    wpAny (model PR w) (ktrTop dp un gd cn cs L ad ccd cl outer) (pyNext (.ref I)) Q E s := by
  have NL : News h₀ L s.heap lst := fun p hp => N p (.tail _ (.tail _ hp))
  have NI := N _ (.head _)
  have NM := N _ (.tail _ (.head _))
  obtain ⟨of, fd, hf, hfd⟩ := (fn52 w).2
  have hf' := (X.keeps F.keep) _ _ hf
  have hlm := lex_map hL
  refine ci_next rfl NI.1 NM.1 hf' hfd ?_
  refine readc_code w CO a pb xs lst hL mean mg mb dp (un + 1) gd cn cs ad ccd cl outer A₀ base h₀ L m s _ B F X NL T hk hroom hunits ⟨hCR, hCO⟩ ?_
  rintro v h' tk' hkp ⟨y, t, ys, rfl, ⟨lst', hL', hg'⟩, hcase⟩
  rw [hlm] at hkp
  have F' : Fr h₀ L h' m := fr_but F NL (by rw [hlm]; exact hkp)
  have NL' := lex_news hL hL' NL hg'
  refine ⟨y, t, rfl, hkp _ _ hI NI.1, hkp _ _ hM NM.1, hkp _ _ ?_ hf', fun hne => ?_, fun he h2 h2I h2k => ?_⟩
  · intro hc
    have h3 := (X _ _ hf : h₀.get? 52 = some of)
    rw [← hlm] at hc
    obtain ⟨p, hp, e⟩ := List.mem_map.mp hc
    have h4 := (NL p hp).2.2
    rw [e, h3] at h4; cases h4
  · rcases hcase with ⟨_, _, rfl⟩ | h
    · exact absurd rfl hne
    · refine item y t ys lst' h' tk' h hL' F' fun p hp => ?_
      rcases List.mem_cons.mp hp with rfl | hp
      · exact ⟨hkp _ _ hI NI.1, NI.2⟩
      · rcases List.mem_cons.mp hp with rfl | hp
        · exact ⟨hkp _ _ hM NM.1, NM.2⟩
        · exact NL' p hp
  · rcases hcase with ⟨h1, rfl, _⟩ | h
    · refine fin lst' h2 tk' h1 hL' ⟨F'.ns.at' fun o e => h2k _ o (Ne.symm NI.2.1) e, fun b o e => h2k b o (fun q => by rw [q, NI.2.2] at e; cases e) (F'.keep b o e), F'.above⟩ fun p hp => ?_
      rcases List.mem_cons.mp hp with rfl | hp
      · exact ⟨h2I, NI.2⟩
      · rcases List.mem_cons.mp hp with rfl | hp
        · exact ⟨h2k _ _ (Ne.symm hIM) (hkp _ _ hM NM.1), NM.2⟩
        · refine ⟨h2k _ _ (fun q => hI ?_) (NL' p hp).1, (NL' p hp).2⟩
          rw [← q, ← lex_map hL']; exact List.mem_map_of_mem hp
    · exact absurd he (hxs y (by rw [h]; exact .head _))
/-- the end of a turn under an iterator -/
def CiEnd (h₀ : Heap) (L : Addr) (s : Shared) (J : Nat → (Str → Option Value) → List (Addr × Obj) → Prop) (k : Nat) (Q : Flow → Shared → Prop) (f : Flow) (s₃ : Shared) : Prop :=
  ((f = .next ∨ f = .cont) ∧ ∃ h' tk' m₂ news₂ k', s₃ = { s with heap := h', toks := tk' } ∧ k' < k ∧ J k' m₂ news₂ ∧ Fr h₀ L h' m₂ ∧ News h₀ L h' news₂) ∨ ∃ v, f = .ret v ∧ Q (.ret v) s₃
section
variable {prog : Program} {w : World} {A : Around} {E : Value → Shared → Prop} {s : Shared} {h₀ : Heap} {m : Str → Option Value} {env : Env} {news : List (Addr × Obj)} {Q : Flow → Shared → Prop}
theorem for_ci {x : Str} {px : Pos} {iter : PySem.Expr} {body : List Stmt} {pos : Pos} {I : Addr} (J : Nat → (Str → Option Value) → List (Addr × Obj) → Prop) {n : Nat}
    (hx : env.kindOf x = some .local) (hp : (env.scope.kind == .class || (env.scope.kind == .module && env.locals != env.globals)) = false)
    (F : Fr h₀ env.locals s.heap m) (N : News h₀ env.locals s.heap news) (hj : J n m news)
    (hev : ∀ Q' : Value → Shared → Prop, Q' (.ref I) s → wpAny (model prog w) A (eval iter env) Q' E s) (hI : ∃ f u e, s.heap.get? I = some (ciObj f u e))
    (turn : ∀ k m₁ news₁ h tk, J k m₁ news₁ → Fr h₀ env.locals h m₁ → News h₀ env.locals h news₁ →
      wpAny (model prog w) A (pyNext (.ref I)) (fun r s₂ => match r with
        | none => Q .next s₂
        | some v => ∃ h₁ tk₁ news₂, s₂ = { s with heap := h₁, toks := tk₁ } ∧ Fr h₀ env.locals h₁ m₁ ∧ News h₀ env.locals h₁ news₂ ∧
            ∀ h₂ tk₂, Fr h₀ env.locals h₂ (fun y => if y = x then some v else m₁ y) → News h₀ env.locals h₂ news₂ →
              wpAny (model prog w) A (execs body env) (CiEnd h₀ env.locals { s with heap := h₂, toks := tk₂ } J k Q) (fun _ _ => False) { s with heap := h₂, toks := tk₂ }) (fun _ _ => False) { s with heap := h, toks := tk })
    (hs : ∀ x, foldedSetIterable iter env x = pure x := by intro _; rfl) :
    wpAny (model prog w) A (exec (.For (.Name x px) iter body [] pos) env) Q E s := by
  refine wpAny_For (hev _ ?_) hs
  obtain ⟨f, u, e, hI⟩ := hI
  refine iter_self hI ?_
  refine codeAny_forLoop_any (fun k s' => ∃ h' tk m₁ news₁, s' = { s with heap := h', toks := tk } ∧ J k m₁ news₁ ∧ Fr h₀ env.locals h' m₁ ∧ News h₀ env.locals h' news₁) ?_ n ⟨s.heap, s.toks, m, news, rfl, hj, F, N⟩
  rintro k s' ⟨h', tk, m₁, news₁, rfl, hJ, F', N'⟩
  refine wpAny_mono (turn k m₁ news₁ h' tk hJ F' N') (fun r s₂ hr => ?_) fun _ _ e => e.elim
  cases r with
  | none => exact wpAny_execs_nil hr
  | some v =>
    obtain ⟨h₁, tk₁, news₂, rfl, F₁, N₁, hb⟩ := hr
    dsimp only
    refine wpAny_of_eq (rfl : letOwnedTupleGo (.Name x px) (.ref I) v = pure ()) ?_
    refine wpAny_assign_Name (wpAny_storeName_local hx F₁.ns (fun h₃ hn₃ hs₃ => ?_) hp)
    refine wpAny_mono (hb h₃ _ (F₁.set hn₃ hs₃) (N₁.set hs₃)) (fun f s₃ hf => ?_) fun _ _ e => e.elim
    rcases hf with ⟨hf, h₄, tk₄, m₂, news₃, k', rfl, hk, hJ₂, F₄, N₄⟩ | ⟨v', rfl, hq⟩
    · rcases hf with rfl | rfl
      · exact ⟨k', hk, h₄, tk₄, m₂, news₃, rfl, hJ₂, F₄, N₄⟩
      · exact ⟨k', hk, h₄, tk₄, m₂, news₃, rfl, hJ₂, F₄, N₄⟩
    · exact hq
end
end Mine
end

section
open PySem PySem.W PySem.Calls PyProof.Rows
set_option Elab.async false
set_option maxRecDepth 100000
set_option maxHeartbeats 4000000
namespace Mine
abbrev chs (cs : List Nat) : List Str := cs.map fun n => ⟨#[n]⟩
abbrev tkm (a : LexAds) (I : Addr) (done : List Nat) (t : Tok) (m' : Str → Option Value) : Str → Option Value :=
  ovl [(Str.ofString "self", .ref a.X), (Str.ofString "token", .str ⟨done.toArray⟩ t), (Str.ofString "fiter", .ref I)] m'
abbrev live (a : LexAds) (I Mt : Addr) (tu : Tok) (lst : List (Addr × Obj)) : List (Addr × Obj) := (I, ciObj (.ref Mt) (.str (Str.ofString "") tu) (.bool false)) :: (Mt, methodObj (.ref 52) (.ref a.X)) :: lst
abbrev over (a : LexAds) (I Mt : Addr) (lst : List (Addr × Obj)) : List (Addr × Obj) := (I, ciObj .none .none (.bool true)) :: (Mt, methodObj (.ref 52) (.ref a.X)) :: lst
inductive OInv (w : World) (CO : Nat) (a : LexAds) (I Mt : Addr) (tu : Tok) (cs : List Nat) (tail : List Str) (k : Nat) (m : Str → Option Value) (news : List (Addr × Obj)) : Prop
  | live (m' : Str → Option Value) (t : Tok) (lst : List (Addr × Obj)) (_ : m = tkm a I [] t m') (_ : k = 1) (_ : news = live a I Mt tu lst) (_ : LexAt w CO LQ a [] (chs cs ++ tail) lst)
  | over (m' : Str → Option Value) (t : Tok) (lst : List (Addr × Obj)) (_ : m = tkm a I cs t m') (_ : k = 0) (_ : tail = []) (_ : news = over a I Mt lst) (_ : LexAt w CO LQ a [] [] lst)
inductive IInv (w : World) (CO : Nat) (a : LexAds) (I Mt : Addr) (tu : Tok) (cs : List Nat) (tail : List Str) (k : Nat) (m : Str → Option Value) (news : List (Addr × Obj)) : Prop
  | mk (m' : Str → Option Value) (done rest : List Nat) (t : Tok) (lst : List (Addr × Obj))
    (_ : m = tkm a I done t m') (_ : done ++ rest = cs) (_ : k = rest.length) (_ : news = live a I Mt tu lst) (_ : LexAt w CO LQ a [] (chs rest ++ tail) lst)
def PlainC (c : Nat) : Prop := c = 44 ∨ (48 ≤ c ∧ c ≤ 57)
theorem one_ne (c : Nat) : (⟨#[c]⟩ : Str) ≠ Str.ofString "" := by
  rw [show Str.ofString "" = Str.mk #[] by decide +kernel]
  intro e
  simp at e
theorem notin9 {PB XX DX FN PS S DS LE CE q : Nat} (h : PB < q ∧ XX < q ∧ DX < q ∧ FN < q ∧ PS < q ∧ S < q ∧ DS < q ∧ LE < q ∧ CE < q) : q ∉ [PB, XX, DX, FN, PS, S, DS, LE, CE] := by
  simp only [List.mem_cons, List.not_mem_nil, or_false, not_or]
  exact ⟨Nat.ne_of_gt h.1, Nat.ne_of_gt h.2.1, Nat.ne_of_gt h.2.2.1, Nat.ne_of_gt h.2.2.2.1, Nat.ne_of_gt h.2.2.2.2.1, Nat.ne_of_gt h.2.2.2.2.2.1, Nat.ne_of_gt h.2.2.2.2.2.2.1, Nat.ne_of_gt h.2.2.2.2.2.2.2.1, Nat.ne_of_gt h.2.2.2.2.2.2.2.2⟩
theorem plain_fin {c : Nat} (h : PlainC c) : c ∈ [44, 48, 49, 50, 51, 52, 53, 54, 55, 56, 57] := by
  have h8 : c < 58 := by rcases h with rfl | h; exact (by decide); exact Nat.lt_succ_of_le h.2
  exact (by decide : ∀ d : Fin 58, (d.1 = 44 ∨ (48 ≤ d.1 ∧ d.1 ≤ 57)) → d.1 ∈ [44, 48, 49, 50, 51, 52, 53, 54, 55, 56, 57]) ⟨c, h8⟩ h
theorem ws_plain {c : Nat} (h : PlainC c) : (!(Builtin.Str.occurrences (Str.ofString "\n\t\r ") ⟨#[c]⟩ 0 (Str.ofString "\n\t\r ").length 1).isEmpty) = false := by
  have hx : ∀ c ∈ [44, 48, 49, 50, 51, 52, 53, 54, 55, 56, 57], (!(Builtin.Str.occurrences (Str.ofString "\n\t\r ") ⟨#[c]⟩ 0 (Str.ofString "\n\t\r ").length 1).isEmpty) = false := by decide +kernel
  exact hx c (plain_fin h)
theorem ws_line : (!(Builtin.Str.occurrences (Str.ofString "\n\t\r ") (Str.ofString "\n") 0 (Str.ofString "\n\t\r ").length 1).isEmpty) = true := by decide +kernel
theorem quo_plain {c : Nat} (h : PlainC c) : ((⟨#[c]⟩ : Str) == Str.ofString "\"") = false := by
  have hx : ∀ c ∈ [44, 48, 49, 50, 51, 52, 53, 54, 55, 56, 57], ((⟨#[c]⟩ : Str) == Str.ofString "\"") = false := by decide +kernel
  exact hx c (plain_fin h)
theorem bsl_plain {c : Nat} (h : PlainC c) : ((⟨#[c]⟩ : Str) == Str.ofString "\\") = false := by
  have hx : ∀ c ∈ [44, 48, 49, 50, 51, 52, 53, 54, 55, 56, 57], ((⟨#[c]⟩ : Str) == Str.ofString "\\") = false := by decide +kernel
  exact hx c (plain_fin h)
theorem tok_one (c : Nat) : (Str.ofString "" ++ ⟨#[c]⟩ : Str) = ⟨[c].toArray⟩ := by
  rw [show Str.ofString "" = Str.mk #[] by decide +kernel]
  show Str.mk (#[] ++ #[c]) = _
  simp
theorem tok_snoc (d : List Nat) (c : Nat) : ((⟨d.toArray⟩ : Str) ++ ⟨#[c]⟩ : Str) = ⟨(d ++ [c]).toArray⟩ := by
  show Str.mk (d.toArray ++ #[c]) = _
  simp
theorem get_read (w : World) (CO : Nat) (a : LexAds) (cs : List Nat) (tail : List Str) (lst : List (Addr × Obj)) (hL : LexAt w CO LQ a [] (chs cs ++ tail) lst) (hcs : ∀ c ∈ cs, PlainC c) (hlen : cs.length ≤ 40)
    (htl : tail = [] ∨ (cs ≠ [] ∧ ∃ r, tail = Str.ofString "\n" :: r ∧ ∀ y ∈ r, y ≠ Str.ofString "")) :
    MSpec 4 59 w [.ref a.X] lst (fun h => h.CodeRec (.ref CO) LQ ∧ CO ∉ a.list) (fun _ h' v => (∃ t, v = .str ⟨cs.toArray⟩ t) ∧ LexTo w CO a [] (tail.drop 1) h') := by
  have hL0 := hL
  have hlm := lex_map hL
  obtain ⟨PB, XX, DX, FN, PS, S, DS, LE, CE⟩ := a
  obtain ⟨fo, oC, pvs, chars, e1, e2, ln, t1, t2, t3, t4, t5, t6, t7, t8, t9, t10, t11, t12, t13, hnx, hC, hpv, hch, hx, hl0, hl1, hlt, hlst⟩ := hL
  cases hpv
  dsimp only at hnx hC hlt hlst ⊢
  subst hlst
  unfold MSpec PR KF LO
  k_fill
  intro mean mg mb dp un gd cn scp a ccd cl outer A₀ base h₀ L m s Q E B F X N T hk hroom hunits hpre hret
  refine wpAny_call ?_
  k_dflt (refine' code_defM ?k1 ?k2 ?k3 ?k4 ?k5 ?kA ?kF ?kK ?k6 ?k7 ?k8 ?k9 ?kB ?_ ?c2 ?c3 ?c4 ?c5; (case kA => exact rfl); (case kF => exact rfl); (case kK => assumption); (case k1 => k_asm); (case k2 => k_asm); (case k3 => k_asm); (case k4 => k_asm); (case k5 => k_asm); (case k6 => k_is); (case k7 => k_is); (case k8 => ktr_room); (case k9 => exact BindsTo.of_eq rfl); (case c5 => decide); (case kB => exact locs rfl); (case c2 => exact rfl); (case c3 => exact rfl); (case c4 => exact rfl); k_whole; intro g' L' h' hg' FG' F' N' B' X' T' l1; (try k_lt l1); (try dsimp only); (try k_lift B'); (try k_fold))
  repeat ((fail_if_success (with_reducible show wpAny _ _ (call _ _) _ _ _)); (first | walk1 | (dsimp only; walk1)))
  rename_i hqq q h6 F6 N6 l6
  refine iter_two (News.get N6 (.head _)) ?_
  have F7 := Fr.push F6 (ciObj (.ref q) (.str (Str.ofString "") (tk + 1 + 1 + 1)) (.bool false))
  have N7 := News.push F6 N6 (ciObj (.ref q) (.str (Str.ofString "") (tk + 1 + 1 + 1)) (.bool false)) rfl
  have lI : @LT.lt Nat instLTNat q h6.objs.size := Heap.lt_size (News.get N6 (.head _))
  generalize h6.push (ciObj (.ref q) (.str (Str.ofString "") (tk + 1 + 1 + 1)) (.bool false)) = h7 at F7 N7 ⊢
  generalize h6.objs.size = I at N7 lI ⊢
  generalize tk + 1 + 1 + 1 = tu at N7 ⊢
  clear N6 F6
  repeat ((fail_if_success (with_reducible show wpAny _ _ (exec (Stmt.For _ _ _ _ _) _) _ _ _)); (first | walk1 | (dsimp only; walk1)))
  rename Fr g' L' _ _ => F8
  rename News g' L' _ _ => N8
  have hIq : I ≠ q := Nat.ne_of_gt lI
  have hIa : I ∉ ((⟨PB, XX, DX, FN, PS, S, DS, LE, CE⟩ : LexAds)).list := by
    exact notin9 ⟨Nat.lt_trans l6.1 lI, Nat.lt_trans l6.2.1 lI, Nat.lt_trans l6.2.2.1 lI, Nat.lt_trans l6.2.2.2.1 lI, Nat.lt_trans l6.2.2.2.2.1 lI, Nat.lt_trans l6.2.2.2.2.2.1 lI, Nat.lt_trans l6.2.2.2.2.2.2.1 lI, Nat.lt_trans l6.2.2.2.2.2.2.2.1 lI, Nat.lt_trans l6.2.2.2.2.2.2.2.2 lI⟩
  have hqa : q ∉ ((⟨PB, XX, DX, FN, PS, S, DS, LE, CE⟩ : LexAds)).list := by
    exact notin9 l6
  have htne : ∀ y ∈ tail, y ≠ Str.ofString "" := by
    rcases htl with rfl | ⟨_, r, rfl, hr⟩
    · exact fun y hy => (nomatch hy)
    · intro y hy
      rcases List.mem_cons.mp hy with rfl | hy
      · decide +kernel
      · exact hr y hy
  have hcne : ∀ ds : List Nat, ∀ y ∈ chs ds ++ tail, y ≠ Str.ofString "" := fun ds y hy => by
    rcases List.mem_append.mp hy with hy | hy
    · obtain ⟨c, _, rfl⟩ := List.mem_map.mp hy
      exact one_ne c
    · exact htne y hy
  refine for_ci (I := I) (OInv w CO (⟨PB, XX, DX, FN, PS, S, DS, LE, CE⟩ : LexAds) I q tu cs tail) (n := 1) (by rfl) (by rfl) F8 N8 ?oj ?ohev ⟨_, _, _, News.get N8 (.head _)⟩ ?oturn
  case oj =>
    exact .live _ _ _ (ovl_eta (List.forall_mem_cons.mpr ⟨rfl, List.forall_mem_cons.mpr ⟨rfl, List.forall_mem_cons.mpr ⟨rfl, List.forall_mem_nil _⟩⟩⟩)) rfl rfl hL0
  case ohev => exact fun Q' hq => ld F8 rfl hq
  case oturn =>
    rintro k m₁ news₁ h tk2 (⟨m', t, lst, rfl, rfl, rfl, hL2⟩ | ⟨m', t, lst, rfl, rfl, rfl, rfl, hL2⟩) F2 N2
    all_goals replace F2 : Fr g' L' h _ := F2
    all_goals replace N2 : News g' L' h _ := N2
    · refine lex_next w CO (⟨PB, XX, DX, FN, PS, S, DS, LE, CE⟩ : LexAds) [] _ lst hL2 B' F2 X' N2 T' rfl (by ktr_room) (by ktr_units) (codeRec_but (keep_but hg' F2) hpre.1 hpre.2) hpre.2 hIq hIa hqa (hcne cs) ?item ?fin
      case fin =>
        rintro lst' h3 tk3 hxs hL3 F3 N3
        obtain ⟨hx1, rfl⟩ := List.append_eq_nil_iff.mp hxs
        obtain rfl : cs = [] := List.map_eq_nil_iff.mp hx1
        dsimp only
        k_steps
        exact hret _ _ _ (keep_but hg' F3) ⟨⟨_, rfl⟩, lst', hL3, fun p hp => (N3 p (.tail _ (.tail _ hp))).1⟩
      case item =>
        rintro y ty ys lst' h3 tk3 hxs hL3 F3 N3
        obtain ⟨c, cr, rfl⟩ : ∃ c cr, cs = c :: cr := by
          cases cs with
          | nil => 
            rcases htl with rfl | ⟨hn, _⟩
            · cases hxs
            · exact absurd rfl hn
          | cons c cr => exact ⟨c, cr, rfl⟩
        have hxs' : (⟨#[c]⟩ : Str) = y ∧ chs cr ++ tail = ys := by simpa using hxs
        obtain ⟨rfl, rfl⟩ := hxs'
        have hc := hcs c (.head _)
        dsimp only
        refine ⟨h3, tk3, _, rfl, F3, N3, fun h4 tk4 F4 N4 => ?_⟩
        have hL3' := hL3
        obtain ⟨pvs, e1, ln, t1, t2, t3, t4, t5, t6, lrest, rfl⟩ := lex_front hL3
        dsimp only at N4
        replace F4 : Fr g' L' h4 _ := F4
        replace N4 : News g' L' h4 _ := N4
        repeat ((fail_if_success (with_reducible show wpAny _ _ (compareOp CmpOp.In _ _) _ _ _)); (first | walk1 | (dsimp only; walk1)))
        walk1
        rw [ws_plain hc]
        have hq1 := quo_plain hc
        have hq2 := bsl_plain hc
        repeat ((fail_if_success (with_reducible show wpAny _ _ (truthy (Value.bool (_ == _))) _ _ _)); (first | walk1 | (dsimp only; walk1)))
        rw [hq1]
        repeat ((fail_if_success (with_reducible show wpAny _ _ (truthy (Value.bool (_ == _))) _ _ _)); (first | walk1 | (dsimp only; walk1)))
        rw [hq2]
        repeat ((fail_if_success (with_reducible show wpAny _ _ (exec (Stmt.For _ _ _ _ _) _) _ _ _)); (first | walk1 | (dsimp only; walk1)))
        rename Fr g' L' _ _ => F7
        rename News g' L' _ _ => N7
        rw [tok_one] at F7
        refine for_ci (I := I) (IInv w CO (⟨PB, XX, DX, FN, PS, S, DS, LE, CE⟩ : LexAds) I q tu (c :: cr) tail) (n := cr.length) (by rfl) (by rfl) F7 N7 ?ij ?ihev ⟨_, _, _, News.get N7 (.head _)⟩ ?iturn
        case ij => exact ⟨_, [c], cr, _, _, ovl_eta (List.forall_mem_cons.mpr ⟨rfl, List.forall_mem_cons.mpr ⟨rfl, List.forall_mem_cons.mpr ⟨rfl, List.forall_mem_nil _⟩⟩⟩), rfl, rfl, rfl, hL3'⟩
        case ihev => exact fun Q' hq => ld F7 rfl hq
        case iturn =>
          rintro k m₁ news₁ h5 tk5 ⟨m5, done5, rest5, t5, lst5, rfl, hdr, rfl, rfl, hL5⟩ F5 N5
          replace F5 : Fr g' L' h5 _ := F5
          replace N5 : News g' L' h5 _ := N5
          refine lex_next w CO (⟨PB, XX, DX, FN, PS, S, DS, LE, CE⟩ : LexAds) [] _ lst5 hL5 B' F5 X' N5 T' rfl (by ktr_room) (by ktr_units) (codeRec_but (keep_but hg' F5) hpre.1 hpre.2) hpre.2 hIq hIa hqa (hcne rest5) ?item2 ?fin2
          case fin2 =>
            rintro lst' h6 tk6 hxs hL6 F6 N6
            obtain ⟨hx1, rfl⟩ := List.append_eq_nil_iff.mp hxs
            obtain rfl : rest5 = [] := List.map_eq_nil_iff.mp hx1
            rw [List.append_nil] at hdr
            subst hdr
            dsimp only
            k_steps
            exact .inl ⟨.inl rfl, _, _, _, _, 0, rfl, by decide, .over m5 _ lst' rfl rfl rfl rfl hL6, F6, N6⟩
          case item2 =>
            rintro y ty5 ys lst' h6 tk6 hxs hL6 F6 N6
            dsimp only
            refine ⟨h6, tk6, _, rfl, F6, N6, fun h8 tk8 F8 N8 => ?_⟩
            have hL6' := hL6
            obtain ⟨pvs, e1, ln, t1, t2, t3, t4, t7, t6, lrest, rfl⟩ := lex_front hL6
            dsimp only at N8
            replace F8 : Fr g' L' h8 _ := F8
            replace N8 : News g' L' h8 _ := N8
            cases rest5 with
            | nil =>
              obtain ⟨r, rfl⟩ : ∃ r, tail = Str.ofString "\n" :: r := by
                rcases htl with rfl | ⟨_, r, h, _⟩
                · cases hxs
                · exact ⟨r, h⟩
              have hxs' : Str.ofString "\n" = y ∧ r = ys := by simpa using hxs
              obtain ⟨rfl, rfl⟩ := hxs'
              rw [List.append_nil] at hdr
              repeat ((fail_if_success (with_reducible show wpAny _ _ (compareOp CmpOp.In _ _) _ _ _)); (first | walk1 | (dsimp only; walk1)))
              walk1
              rw [ws_line]
              k_steps
              dsimp only
              refine .inr ⟨_, rfl, ?_⟩
              dsimp only
              refine .inr ⟨_, rfl, ?_⟩
              dsimp only
              k_steps
              exact hret _ _ _ (keep_but hg' F8) ⟨⟨_, by rw [hdr]⟩, _, hL6', fun p hp => (N8 p (.tail _ (.tail _ hp))).1⟩
            | cons c5 r5 =>
              have hxs' : (⟨#[c5]⟩ : Str) = y ∧ chs r5 ++ tail = ys := by simpa using hxs
              obtain ⟨rfl, rfl⟩ := hxs'
              have hc5 := hcs c5 (by rw [← hdr]; simp)
              have hd5 : done5.length + (r5.length + 1) ≤ 40 := by
                have := congrArg List.length hdr
                rw [List.length_append, List.length_cons] at this
                omega
              repeat ((fail_if_success (with_reducible show wpAny _ _ (compareOp CmpOp.In _ _) _ _ _)); (first | walk1 | (dsimp only; walk1)))
              walk1
              rw [ws_plain hc5]
              have hq3 := bsl_plain hc5
              repeat ((fail_if_success (with_reducible show wpAny _ _ (truthy (Value.bool (_ == _))) _ _ _)); (first | walk1 | (dsimp only; walk1)))
              rw [hq3]
              k_steps
              rename Fr g' L' _ _ => F9
              rename News g' L' _ _ => N9
              rw [tok_snoc] at F9
              exact .inl ⟨.inl rfl, _, _, _, _, r5.length, rfl, Nat.lt_succ_self _, ⟨_, done5 ++ [c5], r5, _, _, ovl_eta (List.forall_mem_cons.mpr ⟨rfl, List.forall_mem_cons.mpr ⟨rfl, List.forall_mem_cons.mpr ⟨rfl, List.forall_mem_nil _⟩⟩⟩), by simpa using hdr, rfl, rfl, hL6'⟩, F9, N9⟩
    · refine ci_ended rfl (News.get N2 (.head _)) fun h3 hk3 => ?_
      have F3 := Fr.keeps F2 hk3
      have N3 := News.grown N2 hk3
      dsimp only
      k_steps
      exact hret _ _ _ (keep_but hg' F3) ⟨⟨_, rfl⟩, lst, hL2, fun p hp => (N3 p (.tail _ (.tail _ hp))).1⟩
end Mine
end

section
open PySem PySem.W PySem.Calls PyProof.Rows
set_option Elab.async false
set_option maxRecDepth 100000
set_option maxHeartbeats 4000000
namespace Mine
/-- pigeons -/
theorem len_of_sub {α : Type} [DecidableEq α] : ∀ {l l' : List α}, l.Nodup → (∀ x ∈ l, x ∈ l') → l.length ≤ l'.length
  | [], _, _, _ => Nat.zero_le _
  | x :: r, l', hn, hs => by
    have hx := hs x (.head _)
    obtain ⟨hx1, hr⟩ := List.nodup_cons.mp hn
    have h := len_of_sub (l' := l'.erase x) hr fun y hy => (List.mem_erase_of_ne (a := y) (b := x) (fun e => hx1 (e ▸ hy))).mpr (hs y (.tail _ hy))
    rw [List.length_erase_of_mem hx] at h
    have : 0 < l'.length := List.length_pos_of_mem hx
    rw [List.length_cons]; omega
/-- a piece that hangs together, cell by cell -/
inductive Conn : List Int → Prop
  | one (x : Int) : Conn [x]
  | add {C : List Int} {x : Int} {d : Nat} : Conn C → x ∈ C → d < 6 → x + e6 d ∉ C → Conn (C ++ [x + e6 d])
theorem Conn.ne {C : List Int} (h : Conn C) : C ≠ [] := by cases h <;> simp
/-- pieces found so far, whole ones -/
structure Comps (S : List Int) (Cs : List (List Int)) : Prop where
  conn : ∀ C ∈ Cs, Conn C
  sub : ∀ x ∈ Cs.flatten, x ∈ S
  nd : Cs.flatten.Nodup
  closed : ∀ C ∈ Cs, ∀ x ∈ C, ∀ d, d < 6 → x + e6 d ∈ S → x + e6 d ∈ C
theorem e6_back {d : Nat} (h : d < 6) : e6 d + e6 ((d + 3) % 6) = 0 := by
  rcases six h with rfl | rfl | rfl | rfl | rfl | rfl <;> decide
/-- a piece under way: whose sides are still to be looked at -/
structure Fill (S : List Int) (Cs : List (List Int)) (C : List Int) (todo : Int → Nat → Prop) : Prop where
  comps : Comps S Cs
  conn : Conn C
  sub : ∀ x ∈ C, x ∈ S
  nd : (Cs.flatten ++ C).Nodup
  seen : ∀ x ∈ C, ∀ d, d < 6 → ¬ todo x d → x + e6 d ∈ S → x + e6 d ∈ C
theorem Fill.done {S : List Int} {Cs : List (List Int)} {C : List Int} {todo : Int → Nat → Prop} (h : Fill S Cs C todo) (ht : ∀ x d, ¬ todo x d) : Comps S (Cs ++ [C]) := by
  have ef : (Cs ++ [C]).flatten = Cs.flatten ++ C := by simp
  refine ⟨fun D hD => ?_, fun x hx => ?_, ef ▸ h.nd, fun D hD x hx d hd hm => ?_⟩
  · rcases List.mem_append.mp hD with hD | hD
    · exact h.comps.conn D hD
    · rw [List.mem_singleton.mp hD]; exact h.conn
  · rw [ef] at hx
    rcases List.mem_append.mp hx with hx | hx
    · exact h.comps.sub x hx
    · exact h.sub x hx
  · rcases List.mem_append.mp hD with hD | hD
    · exact h.comps.closed D hD x hx d hd hm
    · rw [List.mem_singleton.mp hD] at hx ⊢; exact h.seen x hx d hd (ht x d) hm
/-- a neighbour that was met belongs to the piece -/
theorem Fill.own {S : List Int} {Cs : List (List Int)} {C : List Int} {todo : Int → Nat → Prop} (h : Fill S Cs C todo) {x : Int} (hx : x ∈ C) {d : Nat} (hd : d < 6) (hm : x + e6 d ∈ Cs.flatten ++ C) : x + e6 d ∈ C := by
  rcases List.mem_append.mp hm with hm | hm
  · exfalso
    obtain ⟨D, hD, hxd⟩ := List.mem_flatten.mp hm
    have h1 := h.comps.closed D hD _ hxd ((d + 3) % 6) (Nat.mod_lt _ (by decide))
    have e : x + e6 d + e6 ((d + 3) % 6) = x := by have := e6_back hd; omega
    rw [e] at h1
    have h2 := h1 (h.sub x hx)
    exact (List.nodup_append.mp h.nd).2.2 x (List.mem_flatten.mpr ⟨D, hD, h2⟩) x hx rfl
  · exact hm
theorem Fill.start {S : List Int} {Cs : List (List Int)} {x : Int} (h : Comps S Cs) (hx : x ∈ S) (hn : x ∉ Cs.flatten) : Fill S Cs [x] (fun y _ => y = x) := by
  refine ⟨h, .one x, fun y hy => by rw [List.mem_singleton.mp hy]; exact hx, ?_, fun y hy d _ ht => absurd (List.mem_singleton.mp hy) ht⟩
  refine List.nodup_append.mpr ⟨h.nd, by simp, fun a ha b hb => ?_⟩
  rw [List.mem_singleton.mp hb]; exact fun e => hn (e ▸ ha)
theorem Fill.add {S : List Int} {Cs : List (List Int)} {C : List Int} {todo todo' : Int → Nat → Prop} (h : Fill S Cs C todo) {x : Int} (hx : x ∈ C) {d : Nat} (hd : d < 6) (hS : x + e6 d ∈ S) (hn : x + e6 d ∉ Cs.flatten ++ C)
    (ht : ∀ y ∈ C, ∀ k, k < 6 → ¬ todo' y k → ¬ todo y k ∨ (y = x ∧ k = d)) (ht' : ∀ k, k < 6 → todo' (x + e6 d) k) : Fill S Cs (C ++ [x + e6 d]) todo' := by
  have hnC : x + e6 d ∉ C := fun m => hn (List.mem_append_right _ m)
  refine ⟨h.comps, .add h.conn hx hd hnC, fun y hy => ?_, ?_, fun y hy k hk hnt hm => ?_⟩
  · rcases List.mem_append.mp hy with hy | hy
    · exact h.sub y hy
    · rw [List.mem_singleton.mp hy]; exact hS
  · rw [← List.append_assoc]
    refine List.nodup_append.mpr ⟨h.nd, by simp, fun a ha b hb => ?_⟩
    rw [List.mem_singleton.mp hb]; exact fun e => hn (e ▸ ha)
  · rcases List.mem_append.mp hy with hy | hy
    · rcases ht y hy k hk hnt with h1 | ⟨rfl, rfl⟩
      · exact List.mem_append_left _ (h.seen y hy k hk h1 hm)
      · exact List.mem_append_right _ (by simp)
    · rw [List.mem_singleton.mp hy] at hnt; exact absurd (ht' k hk) hnt
theorem Fill.pass {S : List Int} {Cs : List (List Int)} {C : List Int} {todo todo' : Int → Nat → Prop} (h : Fill S Cs C todo) {x : Int} (hx : x ∈ C) {d : Nat} (hd : d < 6) (hS : x + e6 d ∈ S → x + e6 d ∈ Cs.flatten ++ C)
    (ht : ∀ y ∈ C, ∀ k, k < 6 → ¬ todo' y k → ¬ todo y k ∨ (y = x ∧ k = d)) : Fill S Cs C todo' := by
  refine ⟨h.comps, h.conn, h.sub, h.nd, fun y hy k hk hnt hm => ?_⟩
  rcases ht y hy k hk hnt with h1 | ⟨rfl, rfl⟩
  · exact h.seen y hy k hk h1 hm
  · exact h.own hx hd (hS hm)
theorem Fill.mono {S : List Int} {Cs : List (List Int)} {C : List Int} {todo todo' : Int → Nat → Prop} (h : Fill S Cs C todo) (ht : ∀ y ∈ C, ∀ k, k < 6 → todo y k → todo' y k) : Fill S Cs C todo' :=
  ⟨h.comps, h.conn, h.sub, h.nd, fun y hy k hk hnt hm => h.seen y hy k hk (fun q => hnt (ht y hy k hk q)) hm⟩
/-- the cells' text -/
def textOf : List Cell → List Str
  | [] => []
  | [c] => signs c.name
  | c :: r => signs c.name ++ Str.ofString "\n" :: textOf r
def tailOf : List Cell → List Str
  | [] => []
  | r => Str.ofString "\n" :: textOf r
theorem textOf_cons (c : Cell) (r : List Cell) : textOf (c :: r) = signs c.name ++ tailOf r := by
  cases r with
  | nil => simp [textOf, tailOf]
  | cons y r => rfl
theorem tailOf_drop (r : List Cell) : (tailOf r).drop 1 = textOf r := by cases r <;> rfl
theorem textOf_ne : ∀ r : List Cell, ∀ y ∈ textOf r, y ≠ Str.ofString ""
  | [], _, h => nomatch h
  | c :: r, y, h => by
    rw [textOf_cons] at h
    rcases List.mem_append.mp h with h | h
    · obtain ⟨n, _, rfl⟩ := List.mem_map.mp h; exact one_ne n
    · cases r with
      | nil => cases h
      | cons z r =>
        rcases List.mem_cons.mp h with rfl | h
        · decide +kernel
        · exact textOf_ne (z :: r) y h
theorem name_plain {B : Int} {x : Cell} (hx : Good B x) : ∀ c ∈ x.name.cps.toList, PlainC c := by
  intro c hc
  unfold Cell.name at hc
  rw [enc_signs] at hc
  simp only [List.mem_append, List.mem_cons] at hc
  rcases hc with hc | rfl | hc | rfl | hc
  · exact .inr (num_digit hx.a0 c hc)
  · exact .inl rfl
  · exact .inr (num_digit hx.b0 c hc)
  · exact .inl rfl
  · exact .inr (num_digit hx.c0 c hc)
theorem name_ne (x : Cell) : x.name.cps.toList ≠ [] := by unfold Cell.name; rw [enc_signs]; simp
theorem get_cell (w : World) (CO : Nat) (a : LexAds) (c : Cell) (r : List Cell) {B : Int} (hB : B < 1000) (hc : Good B c) (lst : List (Addr × Obj)) (hL : LexAt w CO LQ a [] (textOf (c :: r)) lst) :
    MSpec 4 59 w [.ref a.X] lst (fun h => h.CodeRec (.ref CO) LQ ∧ CO ∉ a.list) (fun _ h' v => (∃ t, v = .str c.name t) ∧ LexTo w CO a [] (textOf r) h') := by
  have h := get_read w CO a c.name.cps.toList (tailOf r) lst (by rw [← show textOf (c :: r) = chs c.name.cps.toList ++ tailOf r from textOf_cons c r]; exact hL) (name_plain hc)
    (by have := name_len hc hB; simpa [Str.length] using Nat.le_trans this (by decide)) (by
      cases r with
      | nil => exact .inl rfl
      | cons z r => exact .inr ⟨name_ne c, textOf (z :: r), rfl, textOf_ne _⟩)
  rw [tailOf_drop] at h
  exact h
theorem get_none (w : World) (CO : Nat) (a : LexAds) (lst : List (Addr × Obj)) (hL : LexAt w CO LQ a [] [] lst) :
    MSpec 4 59 w [.ref a.X] lst (fun h => h.CodeRec (.ref CO) LQ ∧ CO ∉ a.list) (fun _ h' v => (∃ t, v = .str (Str.ofString "") t) ∧ LexTo w CO a [] [] h') := by
  have h := get_read w CO a [] [] lst hL (fun _ h => nomatch h) (Nat.zero_le _) (.inl rfl)
  rw [show Str.ofString "" = ⟨([] : List Nat).toArray⟩ by decide +kernel]
  exact h
theorem signs_append (x y : Str) : signs (x ++ y) = signs x ++ signs y := by
  show List.map _ (x.cps ++ y.cps).toList = _
  rw [Array.toList_append, List.map_append]; rfl
theorem line_is : Str.ofString "\n" = ⟨#[10]⟩ := by decide +kernel
theorem join_text : ∀ cs : List Cell, signs (Str.join (Str.ofString "\n") (cs.map Cell.name)) = textOf cs
  | [] => rfl
  | [c] => rfl
  | c :: y :: r => by
    show signs (c.name ++ Str.ofString "\n" ++ Str.join (Str.ofString "\n") ((y :: r).map Cell.name)) = _
    rw [signs_append, signs_append, join_text (y :: r)]
    show _ = signs c.name ++ Str.ofString "\n" :: textOf (y :: r)
    rw [List.append_assoc, line_is]; rfl
theorem text_len {B : Int} (hB : B < 1000) : ∀ cs : List Cell, (∀ c ∈ cs, Good B c) → (textOf cs).length ≤ 33 * cs.length
  | [], _ => Nat.zero_le _
  | c :: r, h => by
    have h1 := name_len (h c (.head _)) hB
    have h2 := text_len hB r fun x hx => h x (.tail _ hx)
    rw [textOf_cons, List.length_append, signs_length, List.length_cons]
    have h3 : (tailOf r).length ≤ (textOf r).length + 1 := by cases r <;> simp [tailOf]
    omega
/-- objects made in a call -/
theorem news_new {h₀ h h' : Heap} {L : Addr} {m : Str → Option Value} {lst : List (Addr × Obj)} (F : Fr h₀ L h m) (hl : ∀ p ∈ lst, h'.get? p.1 = some p.2 ∧ h.get? p.1 = none) : News h₀ L h' lst := fun p hp => by
  obtain ⟨h1, h2⟩ := hl p hp
  refine ⟨h1, fun e => ?_, ?_⟩
  · obtain ⟨o, _, _, ho, _⟩ := F.ns
    rw [← e, h2] at ho; cases ho
  · cases e : h₀.get? p.1 with
    | none => rfl
    | some o => rw [F.keep _ o e] at h2; cases h2
theorem news_app {h₀ h : Heap} {L : Addr} {l₁ l₂ : List (Addr × Obj)} (N₁ : News h₀ L h l₁) (N₂ : News h₀ L h l₂) : News h₀ L h (l₁ ++ l₂) := fun p hp => (List.mem_append.mp hp).elim (N₁ p) (N₂ p)
theorem news_sub {h₀ h : Heap} {L : Addr} {l l' : List (Addr × Obj)} (N : News h₀ L h l) (hs : ∀ p ∈ l', p ∈ l) : News h₀ L h l' := fun p hp => N p (hs p hp)
/-- the code object and the table that holds it -/
abbrev tlo (CO : Nat) (oc : Obj) : List (Addr × Obj) := [(CO, oc), (99, tabObj #[rawInt ((79 : Nat) : Int), rawInt ((4 : Nat) : Int), .ref CO])]
theorem tlo_cases {CO : Nat} {oc : Obj} {p : Addr × Obj} (h : p ∈ tlo CO oc) : p.1 = CO ∨ p.1 = 99 := by
  rcases List.mem_cons.mp h with rfl | h
  · exact .inl rfl
  · rw [List.mem_singleton.mp h]; exact .inr rfl
/-- what lies where -/
structure PW (w : World) (CO D : Nat) (oc : Obj) (a1 a2 : LexAds) : Prop where
  d1 : D ∉ a1.list
  d2 : D ∉ a2.list
  d12 : ∀ x ∈ a1.list, x ∉ a2.list
  c1 : CO ∉ a1.list
  c2 : CO ∉ a2.list
  dc : D ≠ CO
  n1 : 99 ∉ a1.list
  n2 : 99 ∉ a2.list
  dn : D ≠ 99
  code : ∃ vs t, oc.data = .fields vs ∧ vs[1]? = some (.str LQ t)
theorem PW.cr {w : World} {CO D : Nat} {oc : Obj} {a1 a2 : LexAds} (P : PW w CO D oc a1 a2) {h : Heap} (e : h.get? CO = some oc) : h.CodeRec (.ref CO) LQ := by
  obtain ⟨vs, t, h1, h2⟩ := P.code
  exact ⟨CO, oc, vs, t, rfl, e, h1, h2⟩
theorem PW.off1 {w : World} {CO D : Nat} {oc : Obj} {a1 a2 : LexAds} (P : PW w CO D oc a1 a2) {pb xs : List Str} {lst2 : List (Addr × Obj)} (hL : LexAt w CO LQ a2 pb xs lst2) {o : Obj} : ∀ p ∈ [(D, o)] ++ (lst2 ++ tlo CO oc), p.1 ∉ a1.list := by
  intro p hp
  rcases List.mem_append.mp hp with hp | hp
  · rw [List.mem_singleton.mp hp]; exact P.d1
  · rcases List.mem_append.mp hp with hp | hp
    · exact fun q => P.d12 _ q (by rw [← lex_map hL]; exact List.mem_map_of_mem hp)
    · rcases tlo_cases hp with e | e <;> rw [e]
      · exact P.c1
      · exact P.n1
theorem PW.off2 {w : World} {CO D : Nat} {oc : Obj} {a1 a2 : LexAds} (P : PW w CO D oc a1 a2) {pb xs : List Str} {lst1 : List (Addr × Obj)} (hL : LexAt w CO LQ a1 pb xs lst1) {o : Obj} : ∀ p ∈ [(D, o)] ++ (lst1 ++ tlo CO oc), p.1 ∉ a2.list := by
  intro p hp
  rcases List.mem_append.mp hp with hp | hp
  · rw [List.mem_singleton.mp hp]; exact P.d2
  · rcases List.mem_append.mp hp with hp | hp
    · exact P.d12 _ (by rw [← lex_map hL]; exact List.mem_map_of_mem hp)
    · rcases tlo_cases hp with e | e <;> rw [e]
      · exact P.c2
      · exact P.n2
def cname : Option Cell → Str
  | none => Str.ofString ""
  | some c => c.name
/-- a piece, or none -/
def FillE (S : List Int) (Cs : List (List Int)) (C : List Int) (todo : Int → Nat → Prop) : Prop := (C = [] ∧ Comps S Cs) ∨ Fill S Cs C todo
theorem FillE.done {S : List Int} {Cs : List (List Int)} {C : List Int} {todo : Int → Nat → Prop} (h : FillE S Cs C todo) (ht : ∀ x d, ¬ todo x d) :
    ∃ Cs', Comps S Cs' ∧ Cs'.flatten = Cs.flatten ++ C ∧ Cs'.length = Cs.length + (if C = [] then 0 else 1) := by
  rcases h with ⟨rfl, h⟩ | h
  · exact ⟨Cs, h, by simp, by simp⟩
  · refine ⟨Cs ++ [C], h.done ht, by simp, ?_⟩
    have : C ≠ [] := h.conn.ne
    simp [this]
abbrev pml (l D : Addr) (a1 a2 : LexAds) (p : Int) (tp : Tok) (c : Option Cell) (tc : Tok) : List (Str × Value) :=
  [(Str.ofString "cells", .ref l), (Str.ofString "lexer", .ref a1.X), (Str.ofString "waiting", .ref a2.X), (Str.ofString "met", .ref D), (Str.ofString "parts", .int p tp), (Str.ofString "cell", .str (cname c) tc)]
abbrev pnews (D CO : Nat) (oc : Obj) (metv : List Value) (ep : Nat) (lst1 lst2 : List (Addr × Obj)) : List (Addr × Obj) := (D, W.listOf metv.toArray ep) :: (lst2 ++ (lst1 ++ tlo CO oc))
structure MetAt (cs : List Cell) (metv : List Value) (mets : List Cell) : Prop where
  txt : StrsAre metv (mets.map Cell.name)
  sub : ∀ x ∈ mets, x ∈ cs
  nd : mets.Nodup
abbrev inK (no : Option Cell) (n : Nat) : Nat := match no with
  | none => 0
  | some _ => n + 1
inductive OutI (w : World) (CO D : Nat) (oc : Obj) (a1 a2 : LexAds) (l : Addr) (cs : List Cell) (k : Nat) (m : Str → Option Value) (news : List (Addr × Obj)) : Prop
  | mk (m' : Str → Option Value) (done rem : List Cell) (co : Option Cell) (mets : List Cell) (metv : List Value) (ep : Nat) (Cs : List (List Int)) (p : Int) (tp tc : Tok) (lst1 lst2 : List (Addr × Obj))
    (_ : p = ((Cs.length : Nat) : Int)) (_ : m = ovl (pml l D a1 a2 p tp co tc) m') (_ : news = pnews D CO oc metv ep lst1 lst2) (_ : LexAt w CO LQ a1 [] (textOf rem) lst1) (_ : LexAt w CO LQ a2 [] [] lst2) (_ : MetAt cs metv mets) (_ : mets.map Cell.code = Cs.flatten) (_ : Comps (cs.map Cell.code) Cs) (_ : cs = done ++ (co.toList ++ rem)) (_ : ∀ x ∈ done, x ∈ mets) (_ : k = (co.toList ++ rem).length) (_ : co = none → rem = [])
inductive InI (w : World) (CO D : Nat) (oc : Obj) (a1 a2 : LexAds) (l : Addr) (cs : List Cell) (c : Cell) (done rem : List Cell) (k : Nat) (m : Str → Option Value) (news : List (Addr × Obj)) : Prop
  | mk (m' : Str → Option Value) (no : Option Cell) (q mets : List Cell) (metv : List Value) (ep : Nat) (Cs : List (List Int)) (C : List Int) (p : Int) (tp tc tn : Tok) (lst1 lst2 : List (Addr × Obj))
    (_ : p = ((Cs.length + (if C = [] then 0 else 1) : Nat) : Int)) (_ : m = ovl (pml l D a1 a2 p tp (some c) tc ++ [(Str.ofString "now", .str (cname no) tn)]) m') (_ : news = pnews D CO oc metv ep lst1 lst2) (_ : LexAt w CO LQ a1 [] (textOf rem) lst1) (_ : LexAt w CO LQ a2 (q.map Cell.name) [] lst2) (_ : MetAt cs metv mets) (_ : mets.map Cell.code = Cs.flatten ++ C) (_ : FillE (cs.map Cell.code) Cs C (fun x _ => x ∈ (no.toList ++ q).map Cell.code)) (_ : ∀ x ∈ no.toList ++ q, x ∈ cs ∧ x.code ∈ C) (_ : c ∈ mets) (_ : ∀ x ∈ done, x ∈ mets) (_ : k = (inK no ((cs.length - mets.length) + q.length))) (_ : no = none → q = []) (_ : (cs.length - mets.length) + q.length ≤ 6)
inductive ForI (w : World) (CO D : Nat) (oc : Obj) (a1 a2 : LexAds) (l : Addr) (cs : List Cell) (c : Cell) (done rem : List Cell) (x : Cell) (Cs : List (List Int)) (p : Int) (tp tc tn : Tok) (K : Nat) (d : Nat) (m : Str → Option Value) (news : List (Addr × Obj)) : Prop
  | mk (m' : Str → Option Value) (q mets : List Cell) (metv : List Value) (ep : Nat) (C : List Int) (lst1 lst2 : List (Addr × Obj))
    (_ : m = ovl (pml l D a1 a2 p tp (some c) tc ++ [(Str.ofString "now", .str x.name tn)]) m') (_ : news = pnews D CO oc metv ep lst1 lst2) (_ : LexAt w CO LQ a1 [] (textOf rem) lst1) (_ : LexAt w CO LQ a2 (q.map Cell.name) [] lst2) (_ : MetAt cs metv mets) (_ : mets.map Cell.code = Cs.flatten ++ C) (_ : Fill (cs.map Cell.code) Cs C (fun y k => y ∈ q.map Cell.code ∨ (y = x.code ∧ d ≤ k))) (_ : x ∈ cs) (_ : x.code ∈ C) (_ : ∀ y ∈ q, y ∈ cs ∧ y.code ∈ C) (_ : c ∈ mets) (_ : ∀ y ∈ done, y ∈ mets) (_ : (cs.length - mets.length) + q.length = K) (_ : K ≤ 6)
theorem sw3 {α : Type} {l₁ l₂ l₃ : List α} : ∀ p ∈ l₁ ++ (l₂ ++ l₃), p ∈ l₂ ++ (l₁ ++ l₃) := fun p hp => by
  rcases List.mem_append.mp hp with h | h
  · exact List.mem_append_right _ (List.mem_append_left _ h)
  · rcases List.mem_append.mp h with h | h
    · exact List.mem_append_left _ h
    · exact List.mem_append_right _ (List.mem_append_right _ h)
theorem sw4 {α : Type} {a : α} {l₁ l₂ l₃ : List α} : ∀ p ∈ a :: (l₁ ++ (l₂ ++ l₃)), p ∈ a :: (l₂ ++ (l₁ ++ l₃)) := fun p hp => by
  rcases List.mem_cons.mp hp with rfl | h
  · exact .head _
  · exact .tail _ (sw3 p h)
theorem sw5 {α : Type} {a : α} {l₁ l₂ l₃ : List α} : ∀ p ∈ [a] ++ (l₁ ++ (l₂ ++ l₃)), p ∈ a :: (l₂ ++ (l₁ ++ l₃)) := fun p hp => sw4 p hp
theorem sw6 {α : Type} {a : α} {l₁ l₂ l₃ : List α} : ∀ p ∈ [a] ++ (l₁ ++ (l₂ ++ l₃)), p ∈ a :: (l₁ ++ (l₂ ++ l₃)) := fun p hp => hp
theorem sw7 {α : Type} {a : α} {l₁ l₂ l₃ : List α} : ∀ p ∈ a :: (l₁ ++ (l₂ ++ l₃)), p ∈ [a] ++ (l₁ ++ (l₂ ++ l₃)) := fun p hp => hp
theorem sw8 {α : Type} {a : α} {l₁ l₂ l₃ : List α} : ∀ p ∈ a :: (l₁ ++ (l₂ ++ l₃)), p ∈ [a] ++ (l₂ ++ (l₁ ++ l₃)) := fun p hp => (show p ∈ a :: (l₂ ++ (l₁ ++ l₃)) from sw4 p hp)
theorem name_pos (x : Cell) : 1 ≤ x.name.length := by
  have h := name_ne x
  have e : x.name.length = x.name.cps.toList.length := by simp [Str.length]
  rw [e]
  exact List.length_pos_iff.mpr h
theorem pn_co {D CO : Nat} {oc : Obj} {metv : List Value} {ep : Nat} {lst1 lst2 : List (Addr × Obj)} : (CO, oc) ∈ pnews D CO oc metv ep lst1 lst2 := .tail _ (List.mem_append_right _ (List.mem_append_right _ (.head _)))
theorem pn_1 {D CO : Nat} {oc : Obj} {metv : List Value} {ep : Nat} {lst1 lst2 : List (Addr × Obj)} {h₀ h : Heap} {L : Addr} (N : News h₀ L h (pnews D CO oc metv ep lst1 lst2)) : News h₀ L h lst1 := fun p hp => N p (.tail _ (List.mem_append_right _ (List.mem_append_left _ hp)))
theorem pn_2 {D CO : Nat} {oc : Obj} {metv : List Value} {ep : Nat} {lst1 lst2 : List (Addr × Obj)} {h₀ h : Heap} {L : Addr} (N : News h₀ L h (pnews D CO oc metv ep lst1 lst2)) : News h₀ L h lst2 := fun p hp => N p (.tail _ (List.mem_append_left _ hp))
/-- none of the others lies at D -/
theorem PW.offD {w : World} {CO D : Nat} {oc : Obj} {a1 a2 : LexAds} (P : PW w CO D oc a1 a2) {pb xs pb' xs' : List Str} {lst1 lst2 : List (Addr × Obj)} (h1 : LexAt w CO LQ a1 pb xs lst1) (h2 : LexAt w CO LQ a2 pb' xs' lst2) : ∀ p ∈ lst2 ++ (lst1 ++ tlo CO oc), p.1 ≠ D := by
  intro p hp e
  rcases List.mem_append.mp hp with hp | hp
  · exact P.d2 (by rw [← e, ← lex_map h2]; exact List.mem_map_of_mem hp)
  · rcases List.mem_append.mp hp with hp | hp
    · exact P.d1 (by rw [← e, ← lex_map h1]; exact List.mem_map_of_mem hp)
    · rcases tlo_cases hp with e' | e'
      · exact P.dc (e.symm.trans e')
      · exact P.dn (e.symm.trans e')
theorem pn_off {w : World} {D CO : Nat} {oc : Obj} {a2 : LexAds} {metv metv' : List Value} {ep ep' : Nat} {pb xs pb' xs' : List Str} {lst1 lst2 lst2' : List (Addr × Obj)} (h : LexAt w CO LQ a2 pb xs lst2) (h' : LexAt w CO LQ a2 pb' xs' lst2') {I : Addr}
    (ho : ∀ p ∈ pnews D CO oc metv ep lst1 lst2, p.1 ≠ I) : ∀ p ∈ pnews D CO oc metv' ep' lst1 lst2', p.1 ≠ I := by
  intro p hp
  rcases List.mem_cons.mp hp with rfl | hp
  · exact ho (D, W.listOf metv.toArray ep) (.head _)
  · rcases List.mem_append.mp hp with hp | hp
    · have hm : p.1 ∈ lst2.map (·.1) := by rw [lex_map h, ← lex_map h']; exact List.mem_map_of_mem hp
      obtain ⟨q, hq, e⟩ := List.mem_map.mp hm
      rw [← e]; exact ho q (.tail _ (List.mem_append_left _ hq))
    · exact ho p (.tail _ (List.mem_append_right _ hp))
theorem MetAt.snoc {cs : List Cell} {metv : List Value} {mets : List Cell} (h : MetAt cs metv mets) {x : Cell} (hx : x ∈ cs) (hn : x ∉ mets) (t : Tok) : MetAt cs (metv ++ [.str x.name t]) (mets ++ [x]) := by
  refine ⟨?_, fun y hy => ?_, ?_⟩
  · rw [List.map_append]; exact strs_snoc h.txt _ _
  · rcases List.mem_append.mp hy with hy | hy
    · exact h.sub y hy
    · rw [List.mem_singleton.mp hy]; exact hx
  · refine List.nodup_append.mpr ⟨h.nd, by simp, fun a ha b hb => ?_⟩
    rw [List.mem_singleton.mp hb]; exact fun e => hn (e ▸ ha)
theorem MetAt.len {cs : List Cell} {metv : List Value} {mets : List Cell} (h : MetAt cs metv mets) : mets.length ≤ cs.length := len_of_sub h.nd h.sub
theorem MSpec.mono {lv lv' : Nat} {f : Addr} {w : World} {vs : List Value} {fp : List (Addr × Obj)} {Pre Pre' : Heap → Prop} {Ret : Heap → Heap → Value → Prop} (h : MSpec lv f w vs fp Pre Ret) (hl : lv ≤ lv') (hp : ∀ H, Pre' H → Pre H) : MSpec lv' f w vs fp Pre' Ret := by
  intro mean mg mb dp un gd cn cs a ccd cl outer A₀ base h₀ L m s Q E B F X N T hk hroom hunits hpre hret
  exact h mean mg mb dp un gd cn cs a ccd cl outer A₀ base h₀ L m s Q E B F X N T hk (by omega) (by omega) (hp _ hpre) hret
theorem get_opt (w : World) (CO : Nat) (a : LexAds) (r : List Cell) (hc : ∀ c ∈ r, Good 10 c) (lst : List (Addr × Obj)) (hL : LexAt w CO LQ a [] (textOf r) lst) :
    MSpec 4 59 w [.ref a.X] lst (fun h => h.CodeRec (.ref CO) LQ ∧ CO ∉ a.list) (fun _ h' v => (∃ t, v = .str (cname r.head?) t) ∧ LexTo w CO a [] (textOf r.tail) h') := by
  cases r with
  | nil => exact get_none w CO a lst hL
  | cons c r => exact get_cell w CO a c r (B := 10) (by decide) (hc c (.head _)) lst hL
theorem get_q (w : World) (CO : Nat) (a : LexAds) (q : List Cell) (hq : q.length ≤ 200) (lst : List (Addr × Obj)) (hL : LexAt w CO LQ a (q.map Cell.name) [] lst) :
    MSpec 4 59 w [.ref a.X] lst (fun h => h.CodeRec (.ref CO) LQ ∧ CO ∉ a.list) (fun _ h' v => (∃ t, v = .str (cname q.head?) t) ∧ LexTo w CO a (q.tail.map Cell.name) [] h') := by
  cases q with
  | nil => exact get_none w CO a lst hL
  | cons c q => exact (get_pushed w CO a c.name (q.map Cell.name) [] lst hL (by rw [List.length_map]; rw [List.length_cons] at hq; omega)).mono (by decide) fun _ _ => trivial
theorem join_fits : ∀ cs : List Cell, (∀ c ∈ cs, Good 10 c) → cs.length ≤ 100 → ((cs.map Cell.name).map (·.length)).sum + (cs.map Cell.name).length * 64 ≤ 16777216 := by
  intro cs hc hn
  have h : ∀ cs : List Cell, (∀ c ∈ cs, Good 10 c) → ((cs.map Cell.name).map (·.length)).sum ≤ 32 * cs.length := by
    intro cs
    induction cs with
    | nil => intro _; exact Nat.zero_le _
    | cons c r ih =>
      intro h
      have h1 := name_len (h c (.head _)) (by decide)
      have h2 := ih fun x hx => h x (.tail _ hx)
      simp only [List.map_cons, List.sum_cons, List.length_cons]
      omega
  have := h cs hc
  rw [List.length_map]
  omega
def MidEnd (h₀ : Heap) (L : Addr) (s : Shared) (J : (Str → Option Value) → List (Addr × Obj) → Prop) (f : Flow) (s₃ : Shared) : Prop :=
  f = .next ∧ ∃ h' tk' m₂ news₂, s₃ = { s with heap := h', toks := tk' } ∧ J m₂ news₂ ∧ Fr h₀ L h' m₂ ∧ News h₀ L h' news₂
theorem if_mid {prog : Program} {w : World} {A : Around} {E : Value → Shared → Prop} {s : Shared} {h₀ : Heap} {env : Env} {Q : Flow → Shared → Prop} {st : Stmt} (J : (Str → Option Value) → List (Addr × Obj) → Prop)
    (h1 : wpAny (model prog w) A (exec st env) (MidEnd h₀ env.locals s J) (fun _ _ => False) s)
    (h2 : ∀ h' tk' m₂ news₂, J m₂ news₂ → Fr h₀ env.locals h' m₂ → News h₀ env.locals h' news₂ → Q .next { s with heap := h', toks := tk' }) :
    wpAny (model prog w) A (exec st env) Q E s := by
  refine wpAny_mono h1 (fun f s₃ hf => ?_) fun _ _ e => e.elim
  obtain ⟨rfl, h', tk', m₂, news₂, rfl, hJ, F, N⟩ := hf
  exact h2 h' tk' m₂ news₂ hJ F N
inductive MidI (w : World) (CO D : Nat) (oc : Obj) (a1 a2 : LexAds) (l : Addr) (cs : List Cell) (c : Cell) (done rem : List Cell) (m : Str → Option Value) (news : List (Addr × Obj)) : Prop
  | mk (m' : Str → Option Value) (q mets : List Cell) (metv : List Value) (ep : Nat) (Cs : List (List Int)) (C : List Int) (p : Int) (tp tc : Tok) (lst1 lst2 : List (Addr × Obj))
    (_ : p = ((Cs.length + (if C = [] then 0 else 1) : Nat) : Int)) (_ : m = ovl (pml l D a1 a2 p tp (some c) tc) m') (_ : news = pnews D CO oc metv ep lst1 lst2) (_ : LexAt w CO LQ a1 [] (textOf rem) lst1) (_ : LexAt w CO LQ a2 (q.map Cell.name) [] lst2) (_ : MetAt cs metv mets) (_ : mets.map Cell.code = Cs.flatten ++ C) (_ : FillE (cs.map Cell.code) Cs C (fun x _ => x ∈ q.map Cell.code)) (_ : ∀ x ∈ q, x ∈ cs ∧ x.code ∈ C) (_ : c ∈ mets) (_ : ∀ x ∈ done, x ∈ mets) (_ : (cs.length - mets.length) + q.length ≤ 6)
theorem FillE.mono {S : List Int} {Cs : List (List Int)} {C : List Int} {todo todo' : Int → Nat → Prop} (h : FillE S Cs C todo) (ht : ∀ y ∈ C, ∀ k, k < 6 → todo y k → todo' y k) : FillE S Cs C todo' := by
  rcases h with h | h
  · exact .inl h
  · exact .inr (h.mono ht)
end Mine
end

section
open PySem PySem.W PySem.Calls PyProof.Rows
set_option Elab.async false
set_option maxRecDepth 100000
set_option maxHeartbeats 4000000
namespace Mine
def PartsRet (cs : List Cell) (v : Value) : Prop := ∃ Cs t, v = .int ((Cs.length : Nat) : Int) t ∧ Comps (cs.map Cell.code) Cs ∧ ∀ x ∈ cs.map Cell.code, x ∈ Cs.flatten
theorem after_lex {w : World} {CO : Nat} {a : LexAds} {pb xs pb' xs' : List Str} {lst lst' pre post : List (Addr × Obj)} (hL : LexAt w CO LQ a pb xs lst) (hL' : LexAt w CO LQ a pb' xs' lst') {h₀ H H' : Heap} {L : Addr}
    (N : News h₀ L H (pre ++ (lst ++ post))) (hk : ∀ b o, b ∉ lst.map (·.1) → H.get? b = some o → H'.get? b = some o) (hg : ∀ p ∈ lst', H'.get? p.1 = some p.2) (hd : ∀ p ∈ pre ++ post, p.1 ∉ a.list) : News h₀ L H' (pre ++ (lst' ++ post)) := by
  rw [lex_map hL] at hk
  have NL : News h₀ L H lst := fun p hp => N p (List.mem_append_right _ (List.mem_append_left _ hp))
  intro p hp
  rcases List.mem_append.mp hp with hp | hp
  · have h1 := N p (List.mem_append_left _ hp)
    exact ⟨hk _ _ (hd p (List.mem_append_left _ hp)) h1.1, h1.2⟩
  · rcases List.mem_append.mp hp with hp | hp
    · exact lex_news hL hL' NL hg p hp
    · have h1 := N p (List.mem_append_right _ (List.mem_append_right _ hp))
      exact ⟨hk _ _ (hd p (List.mem_append_right _ hp)) h1.1, h1.2⟩
theorem list_off {l : Addr} {its : Array Value} {h : Heap} (hl : h.IsList l its) (h99 : h.get? 99 = some (tabObj #[])) : l ≠ 99 := by
  rintro rfl
  obtain ⟨o, e, hc, _⟩ := hl
  rw [h99] at e; cases e
  cases hc
theorem join_is (cs : List Cell) : signs (Txt.join (Str.ofString "\n") (cs.map Cell.name)) = textOf cs := by
  rw [← join_text cs]
  show signs (Builtin.Str.glued _ _) = _
  rw [StrLaws.glued_eq_join]
theorem parts_spec (w : World) (l : Addr) (vs : List Value) (cs : List Cell) (hC : CellsAt 10 vs cs) (hn : cs.length ≤ 6) (hn0 : 1 ≤ cs.length) :
    MSpec 6 135 w [.ref l] [(99, tabObj #[])] (fun h => CodeHd h 103 99 ∧ h.IsList l vs.toArray) (fun _ h' v => PartsRet cs v ∧ ∃ ps, h'.get? 99 = some (tabObj ps)) := by
  unfold MSpec PR KF LO
  k_fill
  intro mean mg mb dp un gd cn scp a ccd cl outer A₀ base h₀ L m s Q E B F X N T hk hroom hunits hpre hret
  refine wpAny_call ?_
  k_dflt (refine' code_defM ?k1 ?k2 ?k3 ?k4 ?k5 ?kA ?kF ?kK ?k6 ?k7 ?k8 ?k9 ?kB ?_ ?c2 ?c3 ?c4 ?c5; (case kA => exact rfl); (case kF => exact rfl); (case kK => assumption); (case k1 => k_asm); (case k2 => k_asm); (case k3 => k_asm); (case k4 => k_asm); (case k5 => k_asm); (case k6 => k_is); (case k7 => k_is); (case k8 => ktr_room); (case k9 => exact BindsTo.of_eq rfl); (case c5 => decide); (case kB => exact locs rfl); (case c2 => exact rfl); (case c3 => exact rfl); (case c4 => exact rfl); k_whole; intro g' L' h' hg' FG' F' N' B' X' T' l1; (try k_lt l1); (try dsimp only); (try k_lift B'); (try k_fold))
  have C' : CodeHd g' 103 99 := by
    obtain ⟨o, vs, file, tf, flags, tg, inF, text, tt, e, r⟩ := hpre.1
    exact ⟨o, vs, file, tf, flags, tg, inF, text, tt, by rw [← hg']; exact hideAll_get [99] e (by decide), r⟩
  w_on
  repeat ((fail_if_success (with_reducible show wpAny _ _ (call _ _) _ _ _)); (first | walk1 | (dsimp only; walk1)))
  have hlx : l ≠ 99 := list_off hpre.2 (N _ (.head _)).1
  have hCl : g'.IsList l vs.toArray := hpre.2.at fun o e => by rw [← hg']; exact hideAll_get [99] e (by simpa using hlx)
  (show wpAny _ _ (call (Value.builtin "str.join") [Value.str _ _, Value.ref _]) _ _ _)
  refine join_listC (ys := cs.map Cell.name) (hCl.at fun o e => F'.keep _ o e) hC.txt (by decide +kernel) ?jsz ?_
  case jsz => exact join_fits cs (fun x hx => hC.gd x hx) (by omega)
  intro t0 k0
  have hjl : (Txt.join (Str.ofString "\n") (cs.map Cell.name)).length ≤ 250 := by
    rw [← signs_length, join_is]
    have := text_len (B := 10) (by decide) cs hC.gd
    omega
  repeat ((fail_if_success (with_reducible show wpAny _ _ (call _ _) _ _ _)); (first | walk1 | (dsimp only; walk1)))
  ((refine' (lexer_spec w _ _ hjl) _ _ _ _ _ _ _ _ _ _ _ _ _ _ _ _ _ _ _ _ ?sB ?sF ?sX ?sN ?sT ?sK ?sd ?su ?sP ?_); (case sB => k_asm); (case sF => k_asm); (case sX => k_asm); (case sN => k_asm); (case sT => k_asm); (case sK => first | exact rfl | assumption); (case sd => ktr_room); (case su => ktr_units); (case sP => exact C'.keeps F'.keep); intro v9 h9 tk9 hk9 R9)
  obtain ⟨CO, oc, a1, lst1, cvs, ct, e99, rfl, eCO, nCO, hoc, hcv, hL1, hl1, hCa1⟩ := R9
  rw [join_is] at hL1
  dsimp only at hl1 nCO e99 eCO hk9
  have F9 := fr_but F' N' hk9
  have N9 : News g' L' h9 ((99, tabObj #[rawInt ((79 : Nat) : Int), rawInt ((4 : Nat) : Int), .ref CO]) :: ((CO, oc) :: lst1)) := fun p hp => by
    rcases List.mem_cons.mp hp with rfl | hp
    · exact ⟨e99, (N' _ (.head _)).2⟩
    · refine news_new (lst := (CO, oc) :: lst1) F' (fun p hp => ?_) p hp
      rcases List.mem_cons.mp hp with rfl | hp
      · exact ⟨eCO, nCO⟩
      · exact hl1 p hp
  have ho1 : ∀ p ∈ (CO, oc) :: lst1, p.1 ≠ 99 := fun p hp e => by
    have h1 : h'.get? p.1 = none := by
      rcases List.mem_cons.mp hp with rfl | hp
      · exact nCO
      · exact (hl1 p hp).2
    rw [e, (N' _ (.head _)).1] at h1; cases h1
  clear hk9 hl1 nCO e99 eCO N'
  repeat ((fail_if_success (with_reducible show wpAny _ _ (call _ _) _ _ _)); (first | walk1 | (dsimp only; walk1)))
  rename Fr g' L' _ _ => F10
  rename News g' L' _ _ => N10
  ((refine' (lexer_spec2 w _ _ (by decide +kernel) CO) _ _ _ _ _ _ _ _ _ _ _ _ _ _ _ _ _ _ _ _ ?sB ?sF ?sX ?sN ?sT ?sK ?sd ?su ?sP ?_); (case sB => k_asm); (case sF => k_asm); (case sX => k_asm); (case sN => exact fun p hp => N10 p (by rw [List.mem_singleton.mp hp]; exact .head _)); (case sT => k_asm); (case sK => first | exact rfl | assumption); (case sd => ktr_room); (case su => ktr_units); (case sP => exact C'.keeps F10.keep); intro v9 h9 tk9 hk9 R9)
  obtain ⟨a2, lst2, e99, rfl, hL2, hl2⟩ := R9
  rw [show signs (Str.ofString "") = [] by decide +kernel] at hL2
  dsimp only at hl2 e99 hk9
  have hd12 : ∀ x ∈ a1.list, x ∉ a2.list := fun x hx hx2 => by
    rw [← lex_map hL1] at hx
    rw [← lex_map hL2] at hx2
    obtain ⟨p, hp, rfl⟩ := List.mem_map.mp hx
    obtain ⟨q, hq, e⟩ := List.mem_map.mp hx2
    have h1 := (hl2 q hq).2
    rw [e, (N10 p (.tail _ (.tail _ hp))).1] at h1; cases h1
  have hCa2 : CO ∉ a2.list := fun hx2 => by
    rw [← lex_map hL2] at hx2
    obtain ⟨q, hq, e⟩ := List.mem_map.mp hx2
    have h1 := (hl2 q hq).2
    rw [e, (N10 (CO, oc) (.tail _ (.head _))).1] at h1; cases h1
  have F11 := fr_but F10 (fp := [(99, tabObj #[rawInt ((79 : Nat) : Int), rawInt ((4 : Nat) : Int), .ref CO])]) (fun p hp => N10 p (by rw [List.mem_singleton.mp hp]; exact .head _)) hk9
  have N11 : News g' L' h9 (lst2 ++ (lst1 ++ tlo CO oc)) := by
    refine news_app (news_new F10 hl2) (fun p hp => ?_)
    rcases List.mem_append.mp hp with hp | hp
    · exact ⟨hk9 _ _ (by simpa using ho1 p (.tail _ hp)) (N10 p (.tail _ (.tail _ hp))).1, (N10 p (.tail _ (.tail _ hp))).2⟩
    · rcases List.mem_cons.mp hp with rfl | hp
      · exact ⟨hk9 _ _ (by simpa using ho1 (CO, oc) (.head _)) (N10 (CO, oc) (.tail _ (.head _))).1, (N10 (CO, oc) (.tail _ (.head _))).2⟩
      · rw [List.mem_singleton.mp hp]; exact ⟨e99, (N10 _ (.head _)).2⟩
  have hn1 : 99 ∉ a1.list := fun hx => by
    rw [← lex_map hL1] at hx
    obtain ⟨p, hp, e⟩ := List.mem_map.mp hx
    exact ho1 p (.tail _ hp) e
  have hn2 : 99 ∉ a2.list := fun hx => by
    rw [← lex_map hL2] at hx
    obtain ⟨q, hq, e⟩ := List.mem_map.mp hx
    have h1 := (hl2 q hq).2
    rw [e, (N10 _ (.head _)).1] at h1; cases h1
  clear hk9 hl2 e99 N10 ho1
  repeat ((fail_if_success (with_reducible show wpAny _ _ (exec (Stmt.Assign [Expr.Name (Str.ofString "cell") _] _ _) _) _ _ _)); (first | walk1 | (dsimp only; walk1)))
  rename_i D hD0 lD hD1 h12 F12 N12
  have hP : PW w CO D oc a1 a2 := by
    have hl1' : ∀ x ∈ a1.list, x ≠ D := fun x hx => by
      rw [← lex_map hL1] at hx
      obtain ⟨p, hp, rfl⟩ := List.mem_map.mp hx
      exact Nat.ne_of_lt (lD p (List.mem_append_right _ (List.mem_append_left _ hp)))
    have hl2' : ∀ x ∈ a2.list, x ≠ D := fun x hx => by
      rw [← lex_map hL2] at hx
      obtain ⟨p, hp, rfl⟩ := List.mem_map.mp hx
      exact Nat.ne_of_lt (lD p (List.mem_append_left _ hp))
    exact ⟨fun h => hl1' D h rfl, fun h => hl2' D h rfl, hd12, hCa1, hCa2, Ne.symm (Nat.ne_of_lt (lD (CO, oc) (List.mem_append_right _ (List.mem_append_right _ (.head _))))), hn1, hn2, Ne.symm (Nat.ne_of_lt (lD (99, _) (List.mem_append_right _ (List.mem_append_right _ (.tail _ (.head _)))))), cvs, ct, hoc, hcv⟩
  obtain ⟨c0, cr, hcs⟩ : ∃ c cr, cs = c :: cr := by
    cases cs with
    | nil => exact absurd hn0 (by decide)
    | cons c cr => exact ⟨c, cr, rfl⟩
  obtain ⟨pvs, e1, ln, t1, t2, t3, t4, t5, t6, lrest, hlst⟩ := lex_front hL1
  have N13 : News g' L' h12 ((D, W.listOf #[] 0) :: (lst1 ++ (lst2 ++ tlo CO oc))) := news_sub N12 sw4
  rw [hlst] at N13
  simp only [List.cons_append, List.nil_append] at N13
  repeat ((fail_if_success (with_reducible show wpAny _ _ (call _ _) _ _ _)); (first | walk1 | (dsimp only; walk1)))
  have hgc0 : Good 10 c0 := hC.gd c0 (by rw [hcs]; exact .head _)
  have NL1 : News g' L' h12 lst1 := fun p hp => N12 p (.tail _ (List.mem_append_right _ (List.mem_append_left _ hp)))
  ((refine' (get_cell w CO a1 c0 cr (B := 10) (by decide) hgc0 lst1 (hcs ▸ hL1)) _ _ _ _ _ _ _ _ _ _ _ _ _ _ _ _ _ _ _ _ ?sB ?sF ?sX ?sN ?sT ?sK ?sd ?su ?sP ?_); (case sB => k_asm); (case sF => k_asm); (case sX => k_asm); (case sN => exact NL1); (case sT => k_asm); (case sK => first | exact rfl | assumption); (case sd => ktr_room); (case su => ktr_units); (case sP => exact ⟨hP.cr (N12 (CO, oc) (.tail _ (List.mem_append_right _ (List.mem_append_right _ (.head _))))).1, hCa1⟩); intro v9 h9 tk9 hk9 R9)
  obtain ⟨⟨tg, rfl⟩, lst1', hL1', hg1'⟩ := R9
  dsimp only at hk9
  have F14 := fr_but F12 NL1 hk9
  have N14 : News g' L' h9 (pnews D CO oc [] 0 lst1' lst2) := news_sub (after_lex (pre := [(D, W.listOf #[] 0)]) (post := lst2 ++ tlo CO oc) hL1 hL1' (news_sub N12 sw5) hk9 hg1' (hP.off1 hL2)) sw8
  clear hk9 hg1' NL1 N13
  clear hlst; clear pvs e1 ln t1 t2 t3 t4 t5 t6 lrest
  clear hL1 N12
  repeat ((fail_if_success (with_reducible show wpAny _ _ (exec (Stmt.While _ _ _ _) _) _ _ _)); (first | walk1 | (dsimp only; walk1)))
  rename Fr g' L' _ _ => F15
  rename News g' L' _ _ => N15
  refine while_inv (n := cs.length) (OutI w CO D oc a1 a2 l cs) F15 N15 ?oj ?oturn
  case oj =>
    refine ⟨_, [], cr, some c0, [], [], 0, [], _, _, _, lst1', lst2, rfl, ovl_eta (List.forall_mem_cons.mpr ⟨rfl, List.forall_mem_cons.mpr ⟨rfl, List.forall_mem_cons.mpr ⟨rfl, List.forall_mem_cons.mpr ⟨rfl, List.forall_mem_cons.mpr ⟨rfl, List.forall_mem_cons.mpr ⟨rfl, List.forall_mem_nil _⟩⟩⟩⟩⟩⟩), rfl, hL1', hL2, ⟨.nil, fun _ h => (nomatch h), .nil⟩, rfl, ⟨fun _ h => (nomatch h), fun _ h => (nomatch h), .nil, fun _ h => (nomatch h)⟩, hcs, fun _ h => (nomatch h), by rw [hcs]; rfl, fun h => (nomatch h)⟩
  case oturn =>
    clear F15 N15 hL1' hcs hgc0 lst1' hL2
    rintro k m₁ news₁ h tk2 ⟨m', done, rem, co, mets, metv, ep, Cs, p, tp, tc, lst1, lst2, hp, rfl, rfl, hL1, hL2, hM, hMc, hCs, hcs, hdone, rfl, hrem⟩ F2 N2
    replace F2 : Fr g' L' h _ := F2
    replace N2 : News g' L' h _ := N2
    cases co with
    | none =>
      obtain rfl := hrem rfl
      repeat ((fail_if_success (with_reducible show wpAny _ _ (truthy _) _ _ _)); (first | walk1 | (dsimp only; walk1)))
      refine KXt.truthy (b := false) (by decide +kernel) (by decide +kernel) fun tk3 => ?_
      rw [List.append_nil] at hcs
      simp only [Option.toList_none, List.append_nil] at hcs
      subst hcs
      dsimp only
      k_steps
      refine hret _ _ _ (keep_but hg' F2) ⟨⟨Cs, _, by rw [hp], hCs, fun x hx => ?_⟩, _, (N2 (99, _) (.tail _ (List.mem_append_right _ (List.mem_append_right _ (.tail _ (.head _)))))).1⟩
      rw [← hMc]
      obtain ⟨y, hy, rfl⟩ := List.mem_map.mp hx
      exact List.mem_map_of_mem (hdone y hy)
    | some c =>
      repeat ((fail_if_success (with_reducible show wpAny _ _ (truthy _) _ _ _)); (first | walk1 | (dsimp only; walk1)))
      have hcm : c ∈ cs := by rw [hcs]; simp
      have hgc : Good 10 c := hC.gd c hcm
      have hnl := name_len hgc (by decide)
      have hgm : ∀ x ∈ mets, Good 10 x := fun x hx => hC.gd x (hM.sub x hx)
      refine KXt.truthy_pos (K := 32) (name_pos c) hnl (by decide) fun tk3 => ?_
      repeat ((fail_if_success (with_reducible show wpAny _ _ (exec (Stmt.If _ _ _ _) _) _ _ _)); (first | walk1 | (dsimp only; walk1)))
      have hcode : c.code ∈ Cs.flatten ↔ c ∈ mets := by rw [← hMc]; exact code_mem hgm (hgc.mono (by decide))
      refine if_mid (h₀ := g') (MidI w CO D oc a1 a2 l cs c done rem) ?ifpart ?ifrest
      case ifpart =>
        repeat ((fail_if_success (with_reducible show wpAny _ _ (compareOp CmpOp.NotIn _ _) _ _ _)); (first | walk1 | (dsimp only; walk1)))
        (show wpAny _ _ (compareOp CmpOp.NotIn (Value.str c.name _) (Value.ref D)) _ _ _)
        refine notin_list_strs (News.isList N2 (by k_mem)) hM.txt ?_
        rw [any_name (B := 10) (by decide) hgc hgm]
        by_cases hmc : c ∈ mets
        case' pos =>
          rw [decide_eq_true hmc]
          k_steps
          refine ⟨rfl, _, _, _, _, rfl, ⟨m', [], mets, metv, ep, Cs, [], p, tp, tc, lst1, lst2, by rw [hp]; simp, rfl, rfl, hL1, hL2, hM, by rw [hMc]; simp, .inl ⟨rfl, hCs⟩, fun _ h => (nomatch h), hmc, hdone, by simp; omega⟩, F2, N2⟩
        case' neg =>
          rw [decide_eq_false hmc]
          repeat ((fail_if_success (with_reducible show wpAny _ _ (call (Value.builtin "list.append") _) _ _ _)); (first | walk1 | (dsimp only; walk1)))
          rename Fr g' L' _ _ => F3
          rename News g' L' _ _ => N3
          have hlm := strs_len hM.txt
          have hml := hM.len
          rw [List.length_map] at hlm
          (show wpAny _ _ (call (Value.builtin "list.append") [Value.ref D, Value.str c.name _]) _ _ _)
          k_dflt (refine' append_K (F3) (N3) (Upd.head (hP.offD hL1 hL2)) ?_ ?apsz; (case apsz => rw [List.size_toArray, hlm, sizeLine_eq]; omega))
          intro h6 F6 N6
          rw [List.push_toArray] at N6
          replace hM := hM.snoc hcm hmc tc
          obtain ⟨pvs, e1, ln, t1, t2, t3, t4, t5, t6, lrest, hlst⟩ := lex_front hL2
          have N7 := N6
          rw [hlst] at N7
          simp only [List.cons_append, List.nil_append] at N7
          (try clear F2)
          (try clear N2)
          clear F3 N3
          repeat ((fail_if_success (with_reducible show wpAny _ _ (call _ _) _ _ _)); (first | walk1 | (dsimp only; walk1)))
          replace N6 : News g' L' h6 (pnews D CO oc (metv ++ [Value.str c.name tc]) (ep + 1) lst1 lst2) := N6
          ((refine' (push_spec w CO a2 [] [] lst2 hL2 (by decide) c.name tc) _ _ _ _ _ _ _ _ _ _ _ _ _ _ _ _ _ _ _ _ ?sB ?sF ?sX ?sN ?sT ?sK ?sd ?su ?sP ?_); (case sB => k_asm); (case sF => k_asm); (case sX => k_asm); (case sN => exact pn_2 N6); (case sT => k_asm); (case sK => first | exact rfl | assumption); (case sd => ktr_room); (case su => ktr_units); (case sP => exact trivial); intro v9 h9 tk9 hk9 R9)
          obtain ⟨rfl, lst2', hL2', hgl⟩ := R9
          dsimp only at hk9
          have F8 := fr_but F6 (pn_2 N6) hk9
          have N8 : News g' L' h9 (pnews D CO oc (metv ++ [Value.str c.name tc]) (ep + 1) lst1 lst2') := after_lex (pre := [(D, W.listOf (metv ++ [Value.str c.name tc]).toArray (ep + 1))]) (post := lst1 ++ tlo CO oc) hL2 hL2' N6 hk9 hgl (hP.off2 hL1)
          clear N7 hk9 hgl
          clear hlst; clear pvs e1 ln t1 t2 t3 t4 t5 t6 lrest
          clear F6 N6 hL2 lst2
          k_steps
          rename Fr g' L' _ _ => F9
          rename News g' L' _ _ => N9
          exact ⟨rfl, _, _, _, _, rfl, ⟨_, [c], mets ++ [c], _, _, Cs, [c.code], p + 1, _, _, lst1, lst2', by rw [hp]; simp, ovl_eta (List.forall_mem_cons.mpr ⟨rfl, List.forall_mem_cons.mpr ⟨rfl, List.forall_mem_cons.mpr ⟨rfl, List.forall_mem_cons.mpr ⟨rfl, List.forall_mem_cons.mpr ⟨rfl, List.forall_mem_cons.mpr ⟨rfl, List.forall_mem_nil _⟩⟩⟩⟩⟩⟩), rfl, hL1, hL2', hM, by rw [List.map_append, hMc]; rfl, .inr ((Fill.start hCs (List.mem_map_of_mem hcm) (fun hx => hmc (hcode.mp hx))).mono fun y _ k _ e => by rw [e]; exact .head _), fun x hx => by rw [List.mem_singleton.mp hx]; exact ⟨hcm, .head _⟩, by simp, fun x hx => List.mem_append_left _ (hdone x hx), by simp; omega⟩, F9, N9⟩
      case ifrest =>
        clear hL1 hL2 hM hMc hCs hdone hgm hp hcode F2 N2
        rintro h3 tk3 m₁ news₁ ⟨m3, q3, mets3, metv3, ep3, Cs3, C3, p3, tp3, tc3, lst13, lst23, hp3, rfl, rfl, hL13, hL23, hM3, hMc3, hF3, hq3, hc3, hd3, h63⟩ F3 N3
        replace F3 : Fr g' L' h3 _ := F3
        replace N3 : News g' L' h3 _ := N3
        dsimp only
        repeat ((fail_if_success (with_reducible show wpAny _ _ (exec (Stmt.Assign [Expr.Name (Str.ofString "now") _] _ _) _) _ _ _)); (first | walk1 | (dsimp only; walk1)))
        obtain ⟨pvs, e1, ln, t1, t2, t3, t4, t5, t6, lrest, hlst⟩ := lex_front hL23
        have N4 := N3
        rw [hlst] at N4
        dsimp only [pnews, List.cons_append, List.nil_append] at N4
        repeat ((fail_if_success (with_reducible show wpAny _ _ (call _ _) _ _ _)); (first | walk1 | (dsimp only; walk1)))
        ((refine' (get_q w CO a2 q3 (by omega) lst23 hL23) _ _ _ _ _ _ _ _ _ _ _ _ _ _ _ _ _ _ _ _ ?sB ?sF ?sX ?sN ?sT ?sK ?sd ?su ?sP ?_); (case sB => k_asm); (case sF => k_asm); (case sX => k_asm); (case sN => exact pn_2 N3); (case sT => k_asm); (case sK => first | exact rfl | assumption); (case sd => ktr_room); (case su => ktr_units); (case sP => exact ⟨hP.cr (N3 (CO, oc) pn_co).1, hP.c2⟩); intro v9 h9 tk9 hk9 R9)
        obtain ⟨⟨tg6, rfl⟩, lst2n, hL2n, hgl⟩ := R9
        dsimp only at hk9
        have F7 := fr_but F3 (pn_2 N3) hk9
        have N7 : News g' L' _ (pnews D CO oc metv3 ep3 lst13 lst2n) := after_lex (pre := [(D, W.listOf metv3.toArray ep3)]) (post := lst13 ++ tlo CO oc) hL23 hL2n N3 hk9 hgl (hP.off2 hL13)
        clear N4 hk9 hgl
        clear hlst; clear pvs e1 ln t1 t2 t3 t4 t5 t6 lrest
        clear F3 N3 hL23 lst23
        repeat ((fail_if_success (with_reducible show wpAny _ _ (exec (Stmt.While _ _ _ _) _) _ _ _)); (first | walk1 | (dsimp only; walk1)))
        rename Fr g' L' _ _ => F5
        rename News g' L' _ _ => N5
        have hq8 : ∀ y, y ∈ q3.head?.toList ++ q3.tail ↔ y ∈ q3 := fun y => by cases q3 <;> simp
        refine while_inv (n := (inK q3.head? ((cs.length - mets3.length) + q3.tail.length))) (InI w CO D oc a1 a2 l cs c done rem) F5 N5 ?hj ?iturn
        case hj =>
          refine ⟨_, q3.head?, q3.tail, mets3, metv3, ep3, Cs3, C3, p3, _, _, _, lst13, lst2n, hp3, ovl_eta (List.forall_mem_cons.mpr ⟨rfl, List.forall_mem_cons.mpr ⟨rfl, List.forall_mem_cons.mpr ⟨rfl, List.forall_mem_cons.mpr ⟨rfl, List.forall_mem_cons.mpr ⟨rfl, List.forall_mem_cons.mpr ⟨rfl, List.forall_mem_cons.mpr ⟨rfl, List.forall_mem_nil _⟩⟩⟩⟩⟩⟩⟩), rfl, hL13, hL2n, hM3, hMc3, hF3.mono ?_, fun y hy => hq3 y ((hq8 y).mp hy), hc3, hd3, rfl, ?_, ?_⟩
          · intro y _ k hk hy
            obtain ⟨z, hz, rfl⟩ := List.mem_map.mp hy
            exact List.mem_map_of_mem ((hq8 z).mpr hz)
          · cases q3 <;> simp
          · cases q3 with
            | nil => simpa using h63
            | cons y q3 => simp only [List.tail_cons, List.length_cons] at h63 ⊢; omega
        case iturn =>
        clear F5 N5 hL13 hL2n hM3 hMc3 hF3 hq3 hc3 hd3 h63 hq8
        rintro k m₁ news₁ h5 tk5 ⟨m5, no, q, mets5, metv5, ep5, Cs5, C5, p5, tp5, tc5, tn5, lst15, lst25, hp5, rfl, rfl, hL15, hL25, hM5, hMc5, hF5, hq5, hc5, hd5, rfl, hnq5, h65⟩ F5 N5
        replace F5 : Fr g' L' h5 _ := F5
        replace N5 : News g' L' h5 _ := N5
        cases no with
        | none =>
          obtain rfl := hnq5 rfl
          repeat ((fail_if_success (with_reducible show wpAny _ _ (truthy _) _ _ _)); (first | walk1 | (dsimp only; walk1)))
          refine KXt.truthy (b := false) (by decide +kernel) (by decide +kernel) fun tk6 => ?_
          dsimp only
          repeat ((fail_if_success (with_reducible show wpAny _ _ (exec (Stmt.Assign [Expr.Name (Str.ofString "cell") _] _ _) _) _ _ _)); (first | walk1 | (dsimp only; walk1)))
          obtain ⟨pvs, e1, ln, t1, t2, t3, t4, t5, t6, lrest, hlst⟩ := lex_front hL15
          have N6 := news_sub N5 sw4
          rw [hlst] at N6
          simp only [List.cons_append, List.nil_append] at N6
          repeat ((fail_if_success (with_reducible show wpAny _ _ (call _ _) _ _ _)); (first | walk1 | (dsimp only; walk1)))
          ((refine' (get_opt w CO a1 rem (fun x hx => hC.gd x (by rw [hcs]; simp [hx])) lst15 hL15) _ _ _ _ _ _ _ _ _ _ _ _ _ _ _ _ _ _ _ _ ?sB ?sF ?sX ?sN ?sT ?sK ?sd ?su ?sP ?_); (case sB => k_asm); (case sF => k_asm); (case sX => k_asm); (case sN => exact pn_1 N5); (case sT => k_asm); (case sK => first | exact rfl | assumption); (case sd => ktr_room); (case su => ktr_units); (case sP => exact ⟨hP.cr (N5 (CO, oc) pn_co).1, hP.c1⟩); intro v9 h9 tk9 hk9 R9)
          obtain ⟨⟨tg5, rfl⟩, lst1n, hL1n, hgl⟩ := R9
          dsimp only at hk9
          have F7 := fr_but F5 (pn_1 N5) hk9
          have N7 : News g' L' _ (pnews D CO oc metv5 ep5 lst1n lst25) := news_sub (after_lex (pre := [(D, W.listOf metv5.toArray ep5)]) (post := lst25 ++ tlo CO oc) hL15 hL1n (news_sub N5 sw5) hk9 hgl (hP.off1 hL25)) sw8
          clear N6 hk9 hgl
          clear hlst; clear pvs e1 ln t1 t2 t3 t4 t5 t6 lrest
          clear F5 N5 hL15 lst15
          k_steps
          rename Fr g' L' _ _ => F8
          rename News g' L' _ _ => N8
          obtain ⟨Cs', hCs', hfl, hln⟩ := hF5.done fun y d hy => (nomatch hy)
          refine loop_end (k' := (rem.head?.toList ++ rem.tail).length) (by cases rem <;> simp) ⟨_, done ++ [c], rem.tail, rem.head?, mets5, metv5, ep5, Cs', p5, _, _, lst1n, lst25, by rw [hp5, hln], ovl_eta (List.forall_mem_cons.mpr ⟨rfl, List.forall_mem_cons.mpr ⟨rfl, List.forall_mem_cons.mpr ⟨rfl, List.forall_mem_cons.mpr ⟨rfl, List.forall_mem_cons.mpr ⟨rfl, List.forall_mem_cons.mpr ⟨rfl, List.forall_mem_nil _⟩⟩⟩⟩⟩⟩), rfl, hL1n, hL25, hM5, hMc5.trans hfl.symm, hCs', ?_, ?_, rfl, ?_⟩ F8 N8 (fun p hp => hp)
          · rw [hcs]; cases rem <;> simp
          · intro y hy
            rcases List.mem_append.mp hy with hy | hy
            · exact hd5 y hy
            · rw [List.mem_singleton.mp hy]; exact hc5
          · cases rem <;> simp
        | some x =>
          repeat ((fail_if_success (with_reducible show wpAny _ _ (truthy _) _ _ _)); (first | walk1 | (dsimp only; walk1)))
          have hxq := hq5 x (.head _)
          have hgx : Good 10 x := hC.gd x hxq.1
          have hnx5 := name_len hgx (by decide)
          refine KXt.truthy_pos (K := 32) (name_pos x) hnx5 (by decide) fun tk6 => ?_
          repeat ((fail_if_success (with_reducible show wpAny _ _ (exec (Stmt.For _ _ _ _ _) _) _ _ _)); (first | walk1 | (dsimp only; walk1)))
          have hCne : C5 ≠ [] := by rintro rfl; exact nomatch hxq.2
          have hF6 : Fill (cs.map Cell.code) Cs5 C5 (fun y k => y ∈ q.map Cell.code ∨ (y = x.code ∧ 0 ≤ k)) := by
            rcases hF5 with ⟨e, _⟩ | hF5
            · exact absurd e hCne
            · refine hF5.mono fun y _ k _ hy => ?_
              rcases List.mem_cons.mp (show y ∈ x.code :: q.map Cell.code from hy) with e | hy
              · exact .inr ⟨e, Nat.zero_le _⟩
              · exact .inl hy
          rw [if_neg hCne] at hp5
          refine for_range (n := 6) (ForI w CO D oc a1 a2 l cs c done rem x Cs5 p5 tp5 tc5 tn5 ((cs.length - mets5.length) + q.length)) (by rfl) (by rfl) (by rfl) (by decide) F5 N5 ?jj ?rev ?rturn ?rdone
          case jj =>
            exact ⟨m5, q, mets5, metv5, ep5, C5, lst15, lst25, rfl, rfl, hL15, hL25, hM5, hMc5, hF6, hxq.1, hxq.2, fun y hy => hq5 y (.tail _ hy), hc5, hd5, rfl, h65⟩
          case rev =>
            iterate 6 (first | walk1 | (dsimp only; walk1))
            exact range1_rows F5 N5 fun h' tk t₁ u₁ v₁ hr F' N' _ => ⟨_, h', tk, t₁, u₁, v₁, rfl, rfl, hr, F', N'⟩
          case rdone =>
            clear hL15 hL25 hM5 hMc5 hF5 hq5 hc5 hd5 hxq hF6 hCne F5 N5
            rintro m₁ news₁ h3 tk3 ⟨m6, q6, mets6, metv6, ep6, C6, lst16, lst26, rfl, rfl, hL16, hL26, hM6, hMc6, hF6, hx6, hxC6, hq6, hc6, hd6, hK, hK6⟩ F3 N3
            replace F3 : Fr g' L' h3 _ := F3
            replace N3 : News g' L' h3 _ := N3
            dsimp only
            repeat ((fail_if_success (with_reducible show wpAny _ _ (exec (Stmt.Assign [Expr.Name (Str.ofString "now") _] _ _) _) _ _ _)); (first | walk1 | (dsimp only; walk1)))
            obtain ⟨pvs, e1, ln, t1, t2, t3, t4, t5, t6, lrest, hlst⟩ := lex_front hL26
            have N4 := N3
            rw [hlst] at N4
            dsimp only [pnews, List.cons_append, List.nil_append] at N4
            repeat ((fail_if_success (with_reducible show wpAny _ _ (call _ _) _ _ _)); (first | walk1 | (dsimp only; walk1)))
            ((refine' (get_q w CO a2 q6 (by omega) lst26 hL26) _ _ _ _ _ _ _ _ _ _ _ _ _ _ _ _ _ _ _ _ ?sB ?sF ?sX ?sN ?sT ?sK ?sd ?su ?sP ?_); (case sB => k_asm); (case sF => k_asm); (case sX => k_asm); (case sN => exact pn_2 N3); (case sT => k_asm); (case sK => first | exact rfl | assumption); (case sd => ktr_room); (case su => ktr_units); (case sP => exact ⟨hP.cr (N3 (CO, oc) pn_co).1, hP.c2⟩); intro v9 h9 tk9 hk9 R9)
            obtain ⟨⟨tg6, rfl⟩, lst2n, hL2n, hgl⟩ := R9
            dsimp only at hk9
            have F7 := fr_but F3 (pn_2 N3) hk9
            have N7 : News g' L' _ (pnews D CO oc metv6 ep6 lst16 lst2n) := after_lex (pre := [(D, W.listOf metv6.toArray ep6)]) (post := lst16 ++ tlo CO oc) hL26 hL2n N3 hk9 hgl (hP.off2 hL16)
            clear N4 hk9 hgl
            clear hlst; clear pvs e1 ln t1 t2 t3 t4 t5 t6 lrest
            clear F3 N3 hL26 lst26
            k_steps
            rename Fr g' L' _ _ => F8
            rename News g' L' _ _ => N8
            have hCne6 : C6 ≠ [] := by rintro rfl; exact nomatch hxC6
            have hq8 : ∀ y, y ∈ q6.head?.toList ++ q6.tail ↔ y ∈ q6 := fun y => by cases q6 <;> simp
            refine loop_end (k' := (inK q6.head? ((cs.length - mets6.length) + q6.tail.length))) ?_ ⟨_, q6.head?, q6.tail, mets6, metv6, ep6, Cs5, C6, p5, _, _, _, lst16, lst2n, by rw [if_neg hCne6]; exact hp5, ovl_eta (List.forall_mem_cons.mpr ⟨rfl, List.forall_mem_cons.mpr ⟨rfl, List.forall_mem_cons.mpr ⟨rfl, List.forall_mem_cons.mpr ⟨rfl, List.forall_mem_cons.mpr ⟨rfl, List.forall_mem_cons.mpr ⟨rfl, List.forall_mem_cons.mpr ⟨rfl, List.forall_mem_nil _⟩⟩⟩⟩⟩⟩⟩), rfl, hL16, hL2n, hM6, hMc6, .inr (hF6.mono ?_), fun y hy => hq6 y ((hq8 y).mp hy), hc6, hd6, rfl, ?_, ?_⟩ F8 N8 (fun p hp => hp)
            · cases q6 with
              | nil => exact Nat.succ_pos _
              | cons y q6 => simp only [inK, List.head?_cons, List.tail_cons, List.length_cons] at hK ⊢; omega
            · intro y _ k hk hy
              rcases hy with hy | ⟨_, hy⟩
              · obtain ⟨z, hz, rfl⟩ := List.mem_map.mp hy
                exact List.mem_map_of_mem ((hq8 z).mpr hz)
              · omega
            · cases q6 <;> simp
            · cases q6 with
              | nil => simpa using Nat.le_trans (Nat.le_of_eq hK) hK6
              | cons y q6 => simp only [List.tail_cons, List.length_cons] at hK ⊢; omega
          case rturn =>
            clear hL15 hL25 hM5 hMc5 hF5 hq5 hc5 hd5 hxq hF6 hCne F5 N5
            rintro d m₁ news₁ h3 tk3 td I oI hd6 ⟨m6, q6, mets6, metv6, ep6, C6, lst16, lst26, rfl, rfl, hL16, hL26, hM6, hMc6, hF6, hx6, hxC6, hq6, hc6, hdn6, hK, hK6⟩ off F3 N3
            replace F3 : Fr g' L' h3 _ := F3
            replace N3 : News g' L' h3 _ := N3
            have hoff := off_mem off
            have hgm6 : ∀ y ∈ mets6, Good 10 y := fun y hy => hC.gd y (hM6.sub y hy)
            have hmod : ((d : Nat) : Int).fmod 6 = (d : Int) := by rw [Int.fmod_eq_emod_of_nonneg _ (by decide)]; omega
            repeat ((fail_if_success (with_reducible show wpAny _ _ (call _ _) _ _ _)); (first | walk1 | (dsimp only; walk1)))
            ((refine' (beside_cell w (B := 10) (by decide) x hgx (d : Int) _ _) _ _ _ _ _ _ _ _ _ _ _ _ _ _ _ _ _ _ _ _ ?sB ?sF ?sX ?sT ?sK ?sd ?su ?_); (case sB => k_asm); (case sF => k_asm); (case sX => k_asm); (case sT => k_asm); (case sK => first | exact rfl | assumption); (case sd => ktr_room); (case su => ktr_units); intro v9 h9 tk9 hk9 R9; (have F9 := Fr.keeps (by k_asm) hk9); (have N9 := News.grown (by k_asm) hk9))
            obtain ⟨tb, rfl⟩ := R9
            rw [hmod]
            have hgn := nb_good hgx (d : Int)
            have hcd := code_nb' x hd6
            have hmem := code_mem hC.gd hgn
            have hmemm := code_mem hgm6 hgn
            rw [hcd] at hmem hmemm
            generalize nb x (d : Int) = y at *
            have htodo : ∀ z ∈ C6, ∀ k, k < 6 → ¬ (z ∈ q6.map Cell.code ∨ (z = x.code ∧ d + 1 ≤ k)) → ¬ (z ∈ q6.map Cell.code ∨ (z = x.code ∧ d ≤ k)) ∨ (z = x.code ∧ k = d) := fun z _ k _ hn => by
              by_cases hz : z = x.code ∧ k = d
              · exact .inr hz
              · refine .inl fun hy => hn ?_
                rcases hy with hy | ⟨e, hy⟩
                · exact .inl hy
                · exact .inr ⟨e, by have : k ≠ d := fun e' => hz ⟨e, e'⟩; omega⟩
            repeat ((fail_if_success (with_reducible show wpAny _ _ (compareOp CmpOp.In _ _) _ _ _)); (first | walk1 | (dsimp only; walk1)))
            refine in_list_strs (hCl.at fun o e => (Fr.keep (by k_asm)) _ o e) hC.txt ?_
            rw [any_name (B := 11) (by decide) hgn fun z hz => (hC.gd z hz).mono (by decide)]
            have hnl9 := name_len hgn (by decide)
            by_cases hyc : y ∈ cs
            case' neg =>
              rw [decide_eq_false hyc]
              k_steps
              rename Fr g' L' _ _ => F8
              rename News g' L' _ _ => N8
              exact turn_end (J := ForI w CO D oc a1 a2 l cs c done rem x Cs5 p5 tp5 tc5 tn5 ((cs.length - mets5.length) + q.length) (d + 1)) ⟨_, q6, mets6, metv6, ep6, C6, lst16, lst26, ovl_eta (List.forall_mem_cons.mpr ⟨rfl, List.forall_mem_cons.mpr ⟨rfl, List.forall_mem_cons.mpr ⟨rfl, List.forall_mem_cons.mpr ⟨rfl, List.forall_mem_cons.mpr ⟨rfl, List.forall_mem_cons.mpr ⟨rfl, List.forall_mem_cons.mpr ⟨rfl, List.forall_mem_nil _⟩⟩⟩⟩⟩⟩⟩), rfl, hL16, hL26, hM6, hMc6, hF6.pass hxC6 hd6 (fun hs => absurd (hmem.mp hs) hyc) htodo, hx6, hxC6, hq6, hc6, hdn6, hK, hK6⟩ F8 N8 (fun p hp => hp) off
            rw [decide_eq_true hyc]
            repeat ((fail_if_success (with_reducible show wpAny _ _ (compareOp CmpOp.NotIn _ _) _ _ _)); (first | walk1 | (dsimp only; walk1)))
            refine notin_list_strs (News.isList (by k_asm) (by k_mem)) hM6.txt ?_
            rw [any_name (B := 11) (by decide) hgn fun z hz => (hgm6 z hz).mono (by decide)]
            by_cases hym : y ∈ mets6
            case' pos =>
              rw [decide_eq_true hym]
              k_steps
              rename Fr g' L' _ _ => F8
              rename News g' L' _ _ => N8
              exact turn_end (J := ForI w CO D oc a1 a2 l cs c done rem x Cs5 p5 tp5 tc5 tn5 ((cs.length - mets5.length) + q.length) (d + 1)) ⟨_, q6, mets6, metv6, ep6, C6, lst16, lst26, ovl_eta (List.forall_mem_cons.mpr ⟨rfl, List.forall_mem_cons.mpr ⟨rfl, List.forall_mem_cons.mpr ⟨rfl, List.forall_mem_cons.mpr ⟨rfl, List.forall_mem_cons.mpr ⟨rfl, List.forall_mem_cons.mpr ⟨rfl, List.forall_mem_cons.mpr ⟨rfl, List.forall_mem_nil _⟩⟩⟩⟩⟩⟩⟩), rfl, hL16, hL26, hM6, hMc6, hF6.pass hxC6 hd6 (fun _ => by rw [← hMc6]; exact hmemm.mpr hym) htodo, hx6, hxC6, hq6, hc6, hdn6, hK, hK6⟩ F8 N8 (fun p hp => hp) off
            rw [decide_eq_false hym]
            repeat ((fail_if_success (with_reducible show wpAny _ _ (call (Value.builtin "list.append") _) _ _ _)); (first | walk1 | (dsimp only; walk1)))
            rename Fr g' L' _ _ => F8
            rename News g' L' _ _ => N8
            have hlm6 := strs_len hM6.txt
            have hml6 := hM6.len
            rw [List.length_map] at hlm6
            (show wpAny _ _ (call (Value.builtin "list.append") [Value.ref D, Value.str y.name _]) _ _ _)
            k_dflt (refine' append_K F8 N8 (Upd.tail (Ne.symm (hoff (D, W.listOf metv6.toArray ep6) (.head _))) (Upd.head (hP.offD hL16 hL26))) ?_ ?apsz; (case apsz => rw [List.size_toArray, hlm6, sizeLine_eq]; omega))
            intro h9 F9 N9
            rw [List.push_toArray] at N9
            replace hM6 := hM6.snoc hyc hym tb
            have hml7 := hM6.len
            rw [List.length_append, List.length_singleton] at hml7
            obtain ⟨pvs, e1, ln, t1, t2, t3, t4, t5, t6, lrest, hlst⟩ := lex_front hL26
            have N10 := N9
            rw [hlst] at N10
            simp only [List.cons_append, List.nil_append] at N10
            clear F8 N8
            repeat ((fail_if_success (with_reducible show wpAny _ _ (call _ _) _ _ _)); (first | walk1 | (dsimp only; walk1)))
            have NL : News g' L' h9 lst26 := fun p hp => N9 p (.tail _ (.tail _ (List.mem_append_left _ hp)))
            ((refine' (push_spec w CO a2 (q6.map Cell.name) [] lst26 hL26 (by rw [List.length_map]; omega) y.name tb) _ _ _ _ _ _ _ _ _ _ _ _ _ _ _ _ _ _ _ _ ?sB ?sF ?sX ?sN ?sT ?sK ?sd ?su ?sP ?_); (case sB => k_asm); (case sF => k_asm); (case sX => k_asm); (case sN => exact NL); (case sT => k_asm); (case sK => first | exact rfl | assumption); (case sd => ktr_room); (case su => ktr_units); (case sP => exact trivial); intro v9 h9 tk9 hk9 R9)
            obtain ⟨rfl, lst2n, hL2n, hgl⟩ := R9
            dsimp only at hk9
            have F11 := fr_but F9 NL hk9
            have N11 : News g' L' _ ((I, oI) :: pnews D CO oc (metv6 ++ [Value.str y.name tb]) (ep6 + 1) lst16 lst2n) :=
              after_lex (pre := [(I, oI), (D, W.listOf (metv6 ++ [Value.str y.name tb]).toArray (ep6 + 1))]) (post := lst16 ++ tlo CO oc) hL26 hL2n N9 hk9 hgl (fun p hp => by
                rcases List.mem_cons.mp hp with rfl | hp
                · intro hI
                  rw [← lex_map hL26] at hI
                  obtain ⟨z, hz, e⟩ := List.mem_map.mp hI
                  exact hoff z (.tail _ (List.mem_append_left _ hz)) e
                · exact hP.off2 hL16 p hp)
            clear N10 hk9 hgl NL
            clear hlst; clear pvs e1 ln t1 t2 t3 t4 t5 t6 lrest
            clear F9 N9
            k_steps
            rename Fr g' L' _ _ => F12
            rename News g' L' _ _ => N12
            refine turn_end (J := ForI w CO D oc a1 a2 l cs c done rem x Cs5 p5 tp5 tc5 tn5 ((cs.length - mets5.length) + q.length) (d + 1)) ⟨_, q6 ++ [y], mets6 ++ [y], _, _, C6 ++ [x.code + e6 d], lst16, lst2n, ovl_eta (List.forall_mem_cons.mpr ⟨rfl, List.forall_mem_cons.mpr ⟨rfl, List.forall_mem_cons.mpr ⟨rfl, List.forall_mem_cons.mpr ⟨rfl, List.forall_mem_cons.mpr ⟨rfl, List.forall_mem_cons.mpr ⟨rfl, List.forall_mem_cons.mpr ⟨rfl, List.forall_mem_nil _⟩⟩⟩⟩⟩⟩⟩), rfl, hL16, by rw [List.map_append]; exact hL2n, hM6, ?_, hF6.add hxC6 hd6 (hmem.mpr hyc) (fun hm => hym (hmemm.mp (by rw [hMc6]; exact hm))) ?_ ?_, hx6, List.mem_append_left _ hxC6, ?_, List.mem_append_left _ hc6, fun z hz => List.mem_append_left _ (hdn6 z hz), ?_, hK6⟩ F12 N12 (fun p hp => hp) (off_of (pn_off hL26 hL2n hoff))
            · rw [List.map_append, hMc6, List.append_assoc, ← hcd]; rfl
            · intro z hz k hk hn
              exact htodo z hz k hk fun hy => hn (hy.imp (fun h => by rw [List.map_append]; exact List.mem_append_left _ h) id)
            · intro k _
              refine .inl ?_
              rw [← hcd]
              exact List.mem_map_of_mem (by simp)
            · intro z hz
              rcases List.mem_append.mp hz with hz | hz
              · exact ⟨(hq6 z hz).1, List.mem_append_left _ (hq6 z hz).2⟩
              · rw [List.mem_singleton.mp hz]; exact ⟨hyc, by rw [hcd]; simp⟩
            · simp only [List.length_append, List.length_singleton]; omega
end Mine
end

section
set_option Elab.async false
set_option maxRecDepth 100000
set_option maxHeartbeats 1000000
namespace Mine
theorem e6_ne {d : Nat} (h : d < 6) : e6 d ≠ 0 := by rcases six h with rfl | rfl | rfl | rfl | rfl | rfl <;> decide
theorem e6_inj {d k : Nat} (h : d < 6) (h' : k < 6) (e : e6 d = e6 k) : d = k := by
  rcases six h with rfl | rfl | rfl | rfl | rfl | rfl <;> rcases six h' with rfl | rfl | rfl | rfl | rfl | rfl <;> first | rfl | exact absurd e (by decide)
theorem e6_opp {d k : Nat} (h : d < 6) (h' : k < 6) : e6 d + e6 k = 0 ↔ k = (d + 3) % 6 := by
  rcases six h with rfl | rfl | rfl | rfl | rfl | rfl <;> rcases six h' with rfl | rfl | rfl | rfl | rfl | rfl <;> decide
def sidesAt (prev : List Int) (x : Int) (d : Nat) : Nat := ((List.range d).filter fun k => decide (x + e6 k ∉ prev)).length
def cornersAt (prev : List Int) (x : Int) (d : Nat) : Nat := ((List.range d).filter fun k => decide (x + e6 k ∉ prev ∧ x + e6 ((k + 1) % 6) ∉ prev)).length
def totS : List Int → Nat
  | [] => 0
  | x :: prev => sidesAt prev x 6 + totS prev
def totC : List Int → Nat
  | [] => 0
  | x :: prev => cornersAt prev x 6 + totC prev
theorem sidesAt_succ (prev : List Int) (x : Int) (d : Nat) : sidesAt prev x (d + 1) = sidesAt prev x d + (if x + e6 d ∈ prev then 0 else 1) := by
  unfold sidesAt
  rw [List.range_succ, List.filter_append, List.length_append]
  by_cases h : x + e6 d ∈ prev <;> simp [h]
theorem cornersAt_succ (prev : List Int) (x : Int) (d : Nat) : cornersAt prev x (d + 1) = cornersAt prev x d + (if x + e6 d ∈ prev ∨ x + e6 ((d + 1) % 6) ∈ prev then 0 else 1) := by
  unfold cornersAt
  rw [List.range_succ, List.filter_append, List.length_append]
  by_cases h : x + e6 d ∈ prev <;> by_cases h' : x + e6 ((d + 1) % 6) ∈ prev <;> simp [h, h']
/-- a side was seen before -/
theorem side_seen {prev : List Int} {x : Int} {d : Nat} (hd : d < 6) (hx : x ∉ prev) :
    (∃ y k, ((y ∈ prev ∧ k < 6) ∨ (y = x ∧ k < d)) ∧ [y, y + e6 k].Perm [x, x + e6 d]) ↔ x + e6 d ∈ prev := by
  constructor
  · rintro ⟨y, k, hyk, hp⟩
    have h1 : y = x ∨ y = x + e6 d := by simpa using hp.subset (List.mem_cons_self : y ∈ [y, y + e6 k])
    rcases hyk with ⟨hy, hk⟩ | ⟨rfl, hk⟩
    · rcases h1 with rfl | rfl
      · exact absurd hy hx
      · exact hy
    · exfalso
      have h2 : y + e6 k = y ∨ y + e6 k = y + e6 d := by simpa using hp.subset (by simp : y + e6 k ∈ [y, y + e6 k])
      rcases h2 with h2 | h2
      · exact e6_ne (d := k) (by omega) (by omega)
      · have := e6_inj (d := k) (k := d) (by omega) hd (by omega)
        omega
  · intro h
    refine ⟨x + e6 d, (d + 3) % 6, .inl ⟨h, Nat.mod_lt _ (by decide)⟩, ?_⟩
    have e : e6 d + e6 ((d + 3) % 6) = 0 := (e6_opp hd (Nat.mod_lt _ (by decide))).mpr rfl
    rw [show x + e6 d + e6 ((d + 3) % 6) = x by omega]
    exact List.Perm.swap _ _ _
theorem corner_seen {prev : List Int} {x : Int} {d : Nat} (hd : d < 6) (hx : x ∉ prev) :
    (∃ y k, ((y ∈ prev ∧ k < 6) ∨ (y = x ∧ k < d)) ∧ [y, y + e6 k, y + e6 ((k + 1) % 6)].Perm [x, x + e6 d, x + e6 ((d + 1) % 6)]) ↔ x + e6 d ∈ prev ∨ x + e6 ((d + 1) % 6) ∈ prev := by
  constructor
  · rintro ⟨y, k, hyk, hp⟩
    have h1 : y = x ∨ y = x + e6 d ∨ y = x + e6 ((d + 1) % 6) := by simpa using hp.subset (List.mem_cons_self : y ∈ [y, y + e6 k, y + e6 ((k + 1) % 6)])
    rcases hyk with ⟨hy, hk⟩ | ⟨rfl, hk⟩
    · rcases h1 with rfl | rfl | rfl
      · exact absurd hy hx
      · exact .inl hy
      · exact .inr hy
    · exfalso
      have h2 : y + e6 k = y ∨ y + e6 k = y + e6 d ∨ y + e6 k = y + e6 ((d + 1) % 6) := by simpa using hp.subset (by simp : y + e6 k ∈ [y, y + e6 k, y + e6 ((k + 1) % 6)])
      have h3 : y + e6 ((k + 1) % 6) = y ∨ y + e6 ((k + 1) % 6) = y + e6 d ∨ y + e6 ((k + 1) % 6) = y + e6 ((d + 1) % 6) := by simpa using hp.subset (by simp : y + e6 ((k + 1) % 6) ∈ [y, y + e6 k, y + e6 ((k + 1) % 6)])
      have hm : (d + 1) % 6 < 6 := Nat.mod_lt _ (by decide)
      have hm' : (k + 1) % 6 < 6 := Nat.mod_lt _ (by decide)
      have a1 : k = d ∨ k = (d + 1) % 6 := by
        rcases h2 with h2 | h2 | h2
        · exact absurd (by omega) (e6_ne (d := k) (by omega))
        · exact .inl (e6_inj (by omega) hd (by omega))
        · exact .inr (e6_inj (by omega) hm (by omega))
      have a2 : (k + 1) % 6 = d ∨ (k + 1) % 6 = (d + 1) % 6 := by
        rcases h3 with h2 | h2 | h2
        · exact absurd (by omega) (e6_ne hm')
        · exact .inl (e6_inj hm' hd (by omega))
        · exact .inr (e6_inj hm' hm (by omega))
      omega
  · intro h
    have hm : (d + 1) % 6 < 6 := Nat.mod_lt _ (by decide)
    rcases h with h | h
    · refine ⟨x + e6 d, (d + 2) % 6, .inl ⟨h, Nat.mod_lt _ (by decide)⟩, ?_⟩
      have e1 : x + e6 d + e6 ((d + 2) % 6) = x + e6 ((d + 1) % 6) := by rcases six hd with rfl | rfl | rfl | rfl | rfl | rfl <;> simp [e6] <;> omega
      have e2 : x + e6 d + e6 (((d + 2) % 6 + 1) % 6) = x := by rcases six hd with rfl | rfl | rfl | rfl | rfl | rfl <;> simp [e6] <;> omega
      rw [e1, e2]
      exact ((List.Perm.swap _ _ _).cons _).trans (List.Perm.swap _ _ _)
    · refine ⟨x + e6 ((d + 1) % 6), (d + 4) % 6, .inl ⟨h, Nat.mod_lt _ (by decide)⟩, ?_⟩
      have e1 : x + e6 ((d + 1) % 6) + e6 ((d + 4) % 6) = x := by rcases six hd with rfl | rfl | rfl | rfl | rfl | rfl <;> simp [e6] <;> omega
      have e2 : x + e6 ((d + 1) % 6) + e6 (((d + 4) % 6 + 1) % 6) = x + e6 d := by rcases six hd with rfl | rfl | rfl | rfl | rfl | rfl <;> simp [e6] <;> omega
      rw [e1, e2]
      exact (List.Perm.swap _ _ _).trans ((List.Perm.swap _ _ _).cons _)
end Mine
end

section
set_option Elab.async false
set_option maxRecDepth 100000
set_option maxHeartbeats 1000000
namespace Mine
/-- what a corner turns, at a side -/
def gT (S : List Int) (y : Int) (d : Nat) : Int := if y + e6 d ∈ S then 0 else if y + e6 ((d + 1) % 6) ∈ S then -1 else 1
def rowT (S : List Int) (y : Int) : Int := gT S y 0 + gT S y 1 + gT S y 2 + gT S y 3 + gT S y 4 + gT S y 5
def totT (S : List Int) (P : List Int) : Int := (P.map (rowT S)).sum
def del (prev : List Int) (x y : Int) (d : Nat) : Int := if y + e6 d = x then -(if y + e6 ((d + 1) % 6) ∈ prev then -1 else 1) else if y + e6 ((d + 1) % 6) = x then (if y + e6 d ∈ prev then 0 else -2) else 0
theorem gT_cons {prev : List Int} {x : Int} (hx : x ∉ prev) (y : Int) (d : Nat) : gT (x :: prev) y d = gT prev y d + del prev x y d := by
  unfold gT del
  simp only [List.mem_cons]
  by_cases h1 : y + e6 d = x <;> by_cases h2 : y + e6 ((d + 1) % 6) = x
  · simp [h1, h2, hx]
  · by_cases h3 : y + e6 ((d + 1) % 6) ∈ prev <;> simp [h1, h2, h3, hx]
  · by_cases h3 : y + e6 d ∈ prev <;> simp [h1, h2, h3, hx]
  · simp [h1, h2]
def rowD (prev : List Int) (x y : Int) : Int := del prev x y 0 + del prev x y 1 + del prev x y 2 + del prev x y 3 + del prev x y 4 + del prev x y 5
theorem rowT_cons {prev : List Int} {x : Int} (hx : x ∉ prev) (y : Int) : rowT (x :: prev) y = rowT prev y + rowD prev x y := by
  unfold rowT rowD
  rw [gT_cons hx, gT_cons hx, gT_cons hx, gT_cons hx, gT_cons hx, gT_cons hx]
  omega
/-- far from x nothing turns -/
theorem rowD_far {prev : List Int} {x y : Int} (h : ∀ j, j < 6 → y ≠ x + e6 j) : rowD prev x y = 0 := by
  have hz : ∀ d, d < 6 → y + e6 d ≠ x := fun d hd e => by
    have e2 : e6 d + e6 ((d + 3) % 6) = 0 := (e6_opp hd (Nat.mod_lt _ (by decide))).mpr rfl
    exact h ((d + 3) % 6) (Nat.mod_lt _ (by decide)) (by omega)
  have hd : ∀ d, d < 6 → del prev x y d = 0 := fun d hd => by
    unfold del
    rw [if_neg (hz d hd), if_neg (hz _ (Nat.mod_lt _ (by decide)))]
  unfold rowD
  rw [hd 0, hd 1, hd 2, hd 3, hd 4, hd 5] <;> first | rfl | decide
/-- beside x -/
def nbD (b5 b1 : Bool) : Int := -(if b5 then -1 else 1) + (if b1 then 0 else -2)
theorem rowD_near {prev : List Int} {x : Int} {j : Nat} (hj : j < 6) : rowD prev x (x + e6 j) = nbD (decide (x + e6 ((j + 5) % 6) ∈ prev)) (decide (x + e6 ((j + 1) % 6) ∈ prev)) := by
  have hd : ∀ d, d < 6 → del prev x (x + e6 j) d = if d = (j + 3) % 6 then -(if x + e6 ((j + 5) % 6) ∈ prev then -1 else 1) else if d = (j + 2) % 6 then (if x + e6 ((j + 1) % 6) ∈ prev then 0 else -2) else 0 := fun d hd => by
    have hm : (d + 1) % 6 < 6 := Nat.mod_lt _ (by decide)
    have c1 : x + e6 j + e6 d = x ↔ d = (j + 3) % 6 := by rw [← e6_opp hj hd]; omega
    have c2 : x + e6 j + e6 ((d + 1) % 6) = x ↔ d = (j + 2) % 6 := by
      have : e6 j + e6 ((d + 1) % 6) = 0 ↔ (d + 1) % 6 = (j + 3) % 6 := e6_opp hj hm
      constructor
      · intro h
        have := this.mp (by omega)
        omega
      · intro h
        have := this.mpr (by omega)
        omega
    unfold del
    by_cases h1 : d = (j + 3) % 6
    · rw [if_pos (c1.mpr h1), if_pos h1]
      have e : x + e6 j + e6 ((d + 1) % 6) = x + e6 ((j + 5) % 6) := by
        subst h1
        rcases six hj with rfl | rfl | rfl | rfl | rfl | rfl <;> simp [e6] <;> omega
      rw [e]
    · rw [if_neg (fun h => h1 (c1.mp h)), if_neg h1]
      by_cases h2 : d = (j + 2) % 6
      · rw [if_pos (c2.mpr h2), if_pos h2]
        have e : x + e6 j + e6 d = x + e6 ((j + 1) % 6) := by
          subst h2
          rcases six hj with rfl | rfl | rfl | rfl | rfl | rfl <;> simp [e6] <;> omega
        rw [e]
      · rw [if_neg (fun h => h2 (c2.mp h)), if_neg h2]
  unfold rowD nbD
  rw [hd 0 (by decide), hd 1 (by decide), hd 2 (by decide), hd 3 (by decide), hd 4 (by decide), hd 5 (by decide)]
  rcases six hj with rfl | rfl | rfl | rfl | rfl | rfl <;> simp <;> omega
/-- a sum that lives on few places -/
theorem sum_on {φ : Int → Int} {N : List Int} (hφ : ∀ y, y ∉ N → φ y = 0) : ∀ l : List Int, (l.map φ).sum = ((l.filter fun y => decide (y ∈ N)).map φ).sum
  | [] => rfl
  | y :: r => by
    by_cases h : y ∈ N
    · rw [List.filter_cons_of_pos (by simpa using h), List.map_cons, List.map_cons, List.sum_cons, List.sum_cons, sum_on hφ r]
    · rw [List.filter_cons_of_neg (by simpa using h), List.map_cons, List.sum_cons, hφ y h, sum_on hφ r]; omega
theorem sum_perm {l l' : List Int} (h : l.Perm l') : l.sum = l'.sum := by
  induction h with
  | nil => rfl
  | cons x _ ih => simp [ih]
  | swap x y l => simp; omega
  | trans _ _ h1 h2 => exact h1.trans h2
theorem sum_swap {φ : Int → Int} {l N : List Int} (hl : l.Nodup) (hN : N.Nodup) (hφ : ∀ y, y ∉ N → φ y = 0) : (l.map φ).sum = ((N.filter fun y => decide (y ∈ l)).map φ).sum := by
  rw [sum_on hφ l]
  refine sum_perm (List.Perm.map φ ((List.perm_ext_iff_of_nodup (hl.filter _) (hN.filter _)).mpr fun y => ?_))
  simp [and_comm]
end Mine
end

section
set_option Elab.async false
set_option maxRecDepth 100000
set_option maxHeartbeats 1000000
namespace Mine
theorem sum_filter {φ : Int → Int} {p : Int → Bool} : ∀ l : List Int, ((l.filter p).map φ).sum = (l.map fun y => if p y then φ y else 0).sum
  | [] => rfl
  | y :: r => by
    cases h : p y
    · rw [List.filter_cons_of_neg (by simp [h]), sum_filter r]; simp [h]
    · rw [List.filter_cons_of_pos h]; simp [h, sum_filter r]
def oneT (b b' : Bool) : Int := if b then 0 else if b' then -1 else 1
def i01 (b : Bool) : Int := if b then 0 else 1
theorem gb_bits : ∀ b0 b1 b2 b3 b4 b5 : Bool,
    (oneT b0 b1 + oneT b1 b2 + oneT b2 b3 + oneT b3 b4 + oneT b4 b5 + oneT b5 b0) +
      ((if b0 then nbD b5 b1 else 0) + ((if b1 then nbD b0 b2 else 0) + ((if b2 then nbD b1 b3 else 0) + ((if b3 then nbD b2 b4 else 0) + ((if b4 then nbD b3 b5 else 0) + (if b5 then nbD b4 b0 else 0))))))
    = 6 * ((i01 (b0 || b1) + i01 (b1 || b2) + i01 (b2 || b3) + i01 (b3 || b4) + i01 (b4 || b5) + i01 (b5 || b0)) - (i01 b0 + i01 b1 + i01 b2 + i01 b3 + i01 b4 + i01 b5) + 1) := by decide
theorem sides_bits (prev : List Int) (x : Int) : (sidesAt prev x 6 : Int) = i01 (decide (x + e6 0 ∈ prev)) + i01 (decide (x + e6 1 ∈ prev)) + i01 (decide (x + e6 2 ∈ prev)) + i01 (decide (x + e6 3 ∈ prev)) + i01 (decide (x + e6 4 ∈ prev)) + i01 (decide (x + e6 5 ∈ prev)) := by
  rw [sidesAt_succ, sidesAt_succ, sidesAt_succ, sidesAt_succ, sidesAt_succ, sidesAt_succ]
  have h : ∀ d, ((if x + e6 d ∈ prev then 0 else 1 : Nat) : Int) = i01 (decide (x + e6 d ∈ prev)) := fun d => by by_cases h : x + e6 d ∈ prev <;> simp [h, i01]
  have h0 : sidesAt prev x 0 = 0 := rfl
  rw [h0]
  simp only [Int.natCast_add, h]
  omega
theorem corners_bits (prev : List Int) (x : Int) : (cornersAt prev x 6 : Int) = i01 (decide (x + e6 0 ∈ prev) || decide (x + e6 1 ∈ prev)) + i01 (decide (x + e6 1 ∈ prev) || decide (x + e6 2 ∈ prev)) + i01 (decide (x + e6 2 ∈ prev) || decide (x + e6 3 ∈ prev)) + i01 (decide (x + e6 3 ∈ prev) || decide (x + e6 4 ∈ prev)) + i01 (decide (x + e6 4 ∈ prev) || decide (x + e6 5 ∈ prev)) + i01 (decide (x + e6 5 ∈ prev) || decide (x + e6 0 ∈ prev)) := by
  rw [cornersAt_succ, cornersAt_succ, cornersAt_succ, cornersAt_succ, cornersAt_succ, cornersAt_succ]
  have h : ∀ d k, ((if x + e6 d ∈ prev ∨ x + e6 k ∈ prev then 0 else 1 : Nat) : Int) = i01 (decide (x + e6 d ∈ prev) || decide (x + e6 k ∈ prev)) := fun d k => by
    by_cases h : x + e6 d ∈ prev <;> by_cases h' : x + e6 k ∈ prev <;> simp [h, h', i01]
  have h0 : cornersAt prev x 0 = 0 := rfl
  rw [h0]
  simp only [Int.natCast_add, h]
  simp only [show (0 + 1) % 6 = 1 from rfl, show (1 + 1) % 6 = 2 from rfl, show (2 + 1) % 6 = 3 from rfl, show (3 + 1) % 6 = 4 from rfl, show (4 + 1) % 6 = 5 from rfl, show (5 + 1) % 6 = 0 from rfl]
  omega
theorem rowT_self {prev : List Int} {x : Int} : rowT (x :: prev) x = oneT (decide (x + e6 0 ∈ prev)) (decide (x + e6 1 ∈ prev)) + oneT (decide (x + e6 1 ∈ prev)) (decide (x + e6 2 ∈ prev)) + oneT (decide (x + e6 2 ∈ prev)) (decide (x + e6 3 ∈ prev)) + oneT (decide (x + e6 3 ∈ prev)) (decide (x + e6 4 ∈ prev)) + oneT (decide (x + e6 4 ∈ prev)) (decide (x + e6 5 ∈ prev)) + oneT (decide (x + e6 5 ∈ prev)) (decide (x + e6 0 ∈ prev)) := by
  have hn : ∀ d, d < 6 → ¬ x + e6 d = x := fun d hd e => e6_ne hd (by omega)
  have h : ∀ d, d < 6 → gT (x :: prev) x d = oneT (decide (x + e6 d ∈ prev)) (decide (x + e6 ((d + 1) % 6) ∈ prev)) := fun d hd => by
    have hm : (d + 1) % 6 < 6 := Nat.mod_lt _ (by decide)
    unfold gT oneT
    simp only [List.mem_cons, hn d hd, hn _ hm, false_or, decide_eq_true_eq]
  unfold rowT
  rw [h 0 (by decide), h 1 (by decide), h 2 (by decide), h 3 (by decide), h 4 (by decide), h 5 (by decide)]
theorem near_nodup (x : Int) : [x + e6 0, x + e6 1, x + e6 2, x + e6 3, x + e6 4, x + e6 5].Nodup := by
  have h : ∀ d k, d < 6 → k < 6 → d ≠ k → x + e6 d ≠ x + e6 k := fun d k hd hk hne e => hne (e6_inj hd hk (by omega))
  simp only [List.nodup_cons, List.mem_cons, List.not_mem_nil, or_false, not_or, not_false_eq_true, List.nodup_nil, and_true]
  refine ⟨⟨h 0 1 ?_ ?_ ?_, h 0 2 ?_ ?_ ?_, h 0 3 ?_ ?_ ?_, h 0 4 ?_ ?_ ?_, h 0 5 ?_ ?_ ?_⟩, ⟨h 1 2 ?_ ?_ ?_, h 1 3 ?_ ?_ ?_, h 1 4 ?_ ?_ ?_, h 1 5 ?_ ?_ ?_⟩, ⟨h 2 3 ?_ ?_ ?_, h 2 4 ?_ ?_ ?_, h 2 5 ?_ ?_ ?_⟩, ⟨h 3 4 ?_ ?_ ?_, h 3 5 ?_ ?_ ?_⟩, h 4 5 ?_ ?_ ?_⟩ <;> decide
/-- Gauss and Bonnet -/
theorem gauss : ∀ P : List Int, P.Nodup → totT P P = 6 * ((totC P : Int) - (totS P : Int) + (P.length : Int))
  | [], _ => rfl
  | x :: prev, hn => by
    obtain ⟨hx, hp⟩ := List.nodup_cons.mp hn
    have ih := gauss prev hp
    have h1 : totT (x :: prev) (x :: prev) = rowT (x :: prev) x + (totT prev prev + (prev.map (rowD prev x)).sum) := by
      unfold totT
      rw [List.map_cons, List.sum_cons]
      congr 1
      have : ∀ l : List Int, (l.map (rowT (x :: prev))).sum = (l.map (rowT prev)).sum + (l.map (rowD prev x)).sum := by
        intro l
        induction l with
        | nil => rfl
        | cons y r ih => simp only [List.map_cons, List.sum_cons, ih, rowT_cons hx]; omega
      exact this prev
    have h2 : (prev.map (rowD prev x)).sum = _ := (sum_swap hp (near_nodup x) (φ := rowD prev x) (fun y hy => rowD_far fun j hj e => hy (by
      rcases six hj with rfl | rfl | rfl | rfl | rfl | rfl <;> simp [e]))).trans (sum_filter _)
    simp only [List.map_cons, List.map_nil, List.sum_cons, List.sum_nil] at h2
    rw [rowD_near (j := 0) (by decide), rowD_near (j := 1) (by decide), rowD_near (j := 2) (by decide), rowD_near (j := 3) (by decide), rowD_near (j := 4) (by decide), rowD_near (j := 5) (by decide)] at h2
    simp only [show (0 + 1) % 6 = 1 from rfl, show (1 + 1) % 6 = 2 from rfl, show (2 + 1) % 6 = 3 from rfl, show (3 + 1) % 6 = 4 from rfl, show (4 + 1) % 6 = 5 from rfl, show (5 + 1) % 6 = 0 from rfl,
      show (0 + 5) % 6 = 5 from rfl, show (1 + 5) % 6 = 0 from rfl, show (2 + 5) % 6 = 1 from rfl, show (3 + 5) % 6 = 2 from rfl, show (4 + 5) % 6 = 3 from rfl, show (5 + 5) % 6 = 4 from rfl, Int.add_zero] at h2
    have h3 := gb_bits (decide (x + e6 0 ∈ prev)) (decide (x + e6 1 ∈ prev)) (decide (x + e6 2 ∈ prev)) (decide (x + e6 3 ∈ prev)) (decide (x + e6 4 ∈ prev)) (decide (x + e6 5 ∈ prev))
    rw [← rowT_self (prev := prev) (x := x), ← corners_bits, ← sides_bits, ← h2] at h3
    rw [h1]
    show _ = 6 * (((cornersAt prev x 6 + totC prev : Nat) : Int) - ((sidesAt prev x 6 + totS prev : Nat) : Int) + ((prev.length + 1 : Nat) : Int))
    omega
end Mine
end

section
set_option Elab.async false
set_option maxRecDepth 100000
set_option maxHeartbeats 1000000
namespace Mine
theorem sumT_orb (S : List Int) (σ : Wk) : ∀ n, sumT S n σ = ((orb S n σ).map (trn S)).sum
  | 0 => rfl
  | n + 1 => by
    rw [orb_succ, List.map_append, List.sum_append, ← sumT_orb S σ n]
    simp [sumT]
theorem sumT_flat (S : List Int) : ∀ os : List (Wk × Nat), (os.map fun p => sumT S p.2 p.1).sum = ((os.flatMap fun p => orb S p.2 p.1).map (trn S)).sum
  | [] => rfl
  | p :: r => by
    rw [List.map_cons, List.sum_cons, List.flatMap_cons, List.map_append, List.sum_append, ← sumT_flat S r, sumT_orb]
def bst (S P : List Int) : List Wk := P.flatMap fun y => ((List.range 6).filter fun d => decide (y + e6 d ∉ S)).map fun d => (y, d)
theorem mem_bst {S P : List Int} {σ : Wk} : σ ∈ bst S P ↔ σ.2 < 6 ∧ σ.1 ∈ P ∧ σ.1 + e6 σ.2 ∉ S := by
  obtain ⟨y, d⟩ := σ
  unfold bst
  simp only [List.mem_flatMap, List.mem_map, List.mem_filter, List.mem_range, decide_eq_true_eq, Prod.mk.injEq]
  constructor
  · rintro ⟨z, hz, k, ⟨hk, hn⟩, rfl, rfl⟩
    exact ⟨hk, hz, hn⟩
  · rintro ⟨hk, hz, hn⟩
    exact ⟨y, hz, d, ⟨hk, hn⟩, rfl, rfl⟩
theorem bst_nodup (S : List Int) : ∀ P : List Int, P.Nodup → (bst S P).Nodup
  | [], _ => .nil
  | x :: r, h => by
    obtain ⟨hx, hr⟩ := List.nodup_cons.mp h
    have ih := bst_nodup S r hr
    show (((List.range 6).filter fun d => decide (x + e6 d ∉ S)).map (fun d => (x, d)) ++ bst S r).Nodup
    refine List.nodup_append.mpr ⟨?_, ih, fun a ha b hb e => ?_⟩
    · exact (List.nodup_range.filter _).map _ (fun a b hne e => hne (Prod.mk.inj e).2)
    · obtain ⟨d, _, rfl⟩ := List.mem_map.mp ha
      subst e
      exact hx (mem_bst.mp hb).2.1
theorem bst_sum (S : List Int) : ∀ P : List Int, ((bst S P).map (trn S)).sum = totT S P
  | [] => rfl
  | x :: r => by
    show ((((List.range 6).filter fun d => decide (x + e6 d ∉ S)).map (fun d => (x, d)) ++ bst S r).map (trn S)).sum = _
    rw [List.map_append, List.sum_append, bst_sum S r]
    show _ = rowT S x + totT S r
    congr 1
    have h : ∀ l : List Nat, (((l.filter fun d => decide (x + e6 d ∉ S)).map (fun d => (x, d))).map (trn S)).sum = (l.map (gT S x)).sum := by
      intro l
      induction l with
      | nil => rfl
      | cons d l ih =>
        by_cases hd : x + e6 d ∈ S
        · rw [List.filter_cons_of_neg (by simpa using hd), ih, List.map_cons, List.sum_cons]
          simp [gT, hd]
        · rw [List.filter_cons_of_pos (by simpa using hd), List.map_cons, List.map_cons, List.sum_cons, ih, List.map_cons, List.sum_cons]
          have : trn S (x, d) = gT S x d := by
            unfold trn gT ahead
            rw [if_neg hd]
          rw [this]
    rw [h]
    show gT S x 0 + (gT S x 1 + (gT S x 2 + (gT S x 3 + (gT S x 4 + (gT S x 5 + 0))))) = _
    unfold rowT
    omega
theorem turns_total {S : List Int} (hS : S.Nodup) {os : List (Wk × Nat)} (hW : Walked S os) (hcov : ∀ σ, Bnd S σ → σ ∈ os.flatMap fun p => orb S p.2 p.1) : (os.map fun p => sumT S p.2 p.1).sum = totT S S := by
  rw [sumT_flat, ← bst_sum]
  refine sum_perm (List.Perm.map _ ((List.perm_ext_iff_of_nodup hW.nodup (bst_nodup S S hS)).mpr fun σ => ?_))
  constructor
  · intro h
    obtain ⟨p, hp, hσ⟩ := List.mem_flatMap.mp h
    obtain ⟨j, _, rfl⟩ := mem_orb.mp hσ
    exact mem_bst.mpr (it_bnd (hW.each p hp).1 j)
  · intro h
    exact hcov σ (mem_bst.mp h)
theorem totT_rev (S : List Int) : totT S.reverse S.reverse = totT S S := by
  have e : rowT S.reverse = rowT S := by
    funext y
    unfold rowT gT
    simp only [List.mem_reverse]
  unfold totT
  rw [e]
  exact sum_perm ((List.reverse_perm S).map _)
theorem six_sum : ∀ l : List Int, (∀ x ∈ l, x = 6 ∨ x = -6) → l.sum = 6 * ((l.count 6 : Nat) : Int) - 6 * ((l.count (-6) : Nat) : Int)
  | [], _ => rfl
  | x :: r, h => by
    have ih := six_sum r fun y hy => h y (.tail _ hy)
    rw [List.sum_cons]
    rcases h x (.head _) with rfl | rfl
    · rw [List.count_cons_self, List.count_cons_of_ne (by decide)]; omega
    · rw [List.count_cons_self, List.count_cons_of_ne (by decide)]; omega
/-- the law's last line -/
theorem last_line {S : List Int} (hS : S.Nodup) {os : List (Wk × Nat)} (hW : Walked S os) (hcov : ∀ σ, Bnd S σ → σ ∈ os.flatMap fun p => orb S p.2 p.1) {ts : List Int} (hts : os.map (fun p => sumT S p.2 p.1) = ts) :
    ((ts.count 6 : Nat) : Int) - ((ts.count (-6) : Nat) : Int) = ((totC S.reverse : Nat) : Int) - ((totS S.reverse : Nat) : Int) + (S.length : Int) := by
  have h1 := turns_total hS hW hcov
  rw [hts] at h1
  have h2 := gauss S.reverse ((List.reverse_perm S).nodup_iff.mpr hS)
  rw [totT_rev, ← h1, List.length_reverse] at h2
  have h3 := six_sum ts fun x hx => by
    rw [← hts] at hx
    obtain ⟨p, hp, rfl⟩ := List.mem_map.mp hx
    exact (hW.each p hp).2.turn
  omega
end Mine
end

section
set_option Elab.async false
set_option maxRecDepth 100000
set_option maxHeartbeats 1000000
namespace Mine
theorem it_mul {S : List Int} {σ : Wk} {n : Nat} (h : it S n σ = σ) (i : Nat) : it S (n + i) σ = it S i σ := by rw [it_add, h]
/-- the same way round, from elsewhere -/
theorem Closed.rot {S : List Int} {σ : Wk} (hb : Bnd S σ) {n : Nat} (h : Closed S σ n) (i : Nat) : Closed S (it S i σ) n := by
  refine ⟨h.pos, ?_, fun k hk hkn e => ?_⟩
  · rw [← it_add, Nat.add_comm i n, it_mul h.back]
  · rw [← it_add] at e
    have := it_eq_back hb (Nat.le_add_right i k) e.symm
    rw [Nat.add_sub_cancel_left] at this
    exact h.first k hk hkn this
theorem it_mod {S : List Int} {σ : Wk} {n : Nat} (hn : 0 < n) (h : it S n σ = σ) (i : Nat) : it S i σ = it S (i % n) σ := by
  induction i using Nat.strongRecOn with
  | ind i ih =>
    by_cases hi : i < n
    · rw [Nat.mod_eq_of_lt hi]
    · have e : i = n + (i - n) := by omega
      rw [e, it_mul h, ih (i - n) (by omega), Nat.add_mod_left]
theorem orb_rot {S : List Int} {σ : Wk} {n : Nat} (h : Closed S σ n) (i : Nat) {τ : Wk} : τ ∈ orb S n (it S i σ) ↔ τ ∈ orb S n σ := by
  rw [mem_orb, mem_orb]
  constructor
  · rintro ⟨j, _, rfl⟩
    refine ⟨(i + j) % n, Nat.mod_lt _ h.pos, ?_⟩
    rw [← it_mod h.pos h.back, it_add]
  · rintro ⟨j, hj, rfl⟩
    refine ⟨(j + (n - i % n)) % n, Nat.mod_lt _ h.pos, ?_⟩
    have hi := Nat.mod_lt i h.pos
    rw [it_mod h.pos h.back i, ← it_add, it_mod h.pos h.back]
    have e : (i % n + (j + (n - i % n)) % n) % n = j := by
      rw [Nat.add_mod_mod]
      rw [show i % n + (j + (n - i % n)) = n + j by omega, Nat.add_mod_left, Nat.mod_eq_of_lt hj]
    rw [e]
theorem sumT_rot {S : List Int} {σ : Wk} (hb : Bnd S σ) {n : Nat} (h : Closed S σ n) (i : Nat) : sumT S n (it S i σ) = sumT S n σ := by
  rw [sumT_orb, sumT_orb]
  exact sum_perm (List.Perm.map _ ((List.perm_ext_iff_of_nodup (orb_nodup (it_bnd hb i) (h.rot hb i)) (orb_nodup hb h)).mpr fun τ => orb_rot h i))
/-- turns to the right -/
def cntR (S : List Int) : Nat → Wk → Nat
  | 0, _ => 0
  | n + 1, σ => cntR S n σ + (if ahead (it S n σ) ∈ S then 1 else 0)
theorem sumT_cnt (S : List Int) (σ : Wk) : ∀ n, sumT S n σ = (n : Int) - 2 * (cntR S n σ : Int)
  | 0 => rfl
  | n + 1 => by
    have ih := sumT_cnt S σ n
    unfold sumT cntR trn
    rw [ih]
    split <;> omega
theorem cntR_mono (S : List Int) (σ : Wk) : ∀ {j n : Nat}, j ≤ n → cntR S j σ ≤ cntR S n σ
  | j, 0, h => by rw [Nat.le_zero.mp h]; exact Nat.le_refl _
  | j, n + 1, h => by
    rcases Nat.lt_or_ge n j with h1 | h1
    · rw [show j = n + 1 by omega]; exact Nat.le_refl _
    · exact Nat.le_trans (cntR_mono S σ h1) (Nat.le_add_right _ _)
theorem cntR_le (S : List Int) (σ : Wk) : ∀ n, cntR S n σ ≤ n
  | 0 => Nat.le_refl _
  | n + 1 => by
    have := cntR_le S σ n
    unfold cntR
    split <;> omega
theorem fine_of {S : List Int} {σ : Wk} {n : Nat} (h : Closed S σ n) (ht : (sumT S n σ = 6 ∧ n ≤ 26) ∨ (sumT S n σ = -6 ∧ n ≤ 16)) : Fine S σ n := by
  have hc := sumT_cnt S σ n
  refine ⟨h, by omega, fun j hj => ?_, by omega⟩
  have h1 := sumT_cnt S σ j
  have h2 := cntR_mono S σ hj
  have h3 := cntR_le S σ j
  omega
/-- all that the look shows of a piece -/
def Good1 (C : List Int) : Prop := ∃ σ n, Bnd C σ ∧ Closed C σ n ∧ sumT C n σ = 6 ∧ n ≤ 26 ∧ ∀ τ, Bnd C τ → τ ∈ orb C n σ ∨ ∃ k, Closed C τ k ∧ sumT C k τ = -6 ∧ k ≤ 16
/-- a piece within -/
structure Piece (S C : List Int) : Prop where
  sub : ∀ x ∈ C, x ∈ S
  closed : ∀ x ∈ C, ∀ d, d < 6 → x + e6 d ∈ S → x + e6 d ∈ C
theorem Piece.mem {S C : List Int} (h : Piece S C) {x : Int} (hx : x ∈ C) {d : Nat} (hd : d < 6) : x + e6 d ∈ S ↔ x + e6 d ∈ C := ⟨h.closed x hx d hd, h.sub _⟩
theorem Piece.phi {S C : List Int} (h : Piece S C) {σ : Wk} (hx : σ.1 ∈ C) : phi S σ = phi C σ ∧ trn S σ = trn C σ ∧ (phi C σ).1 ∈ C := by
  have e := h.mem hx (d := (σ.2 + 1) % 6) (Nat.mod_lt _ (by decide))
  unfold Mine.phi trn ahead
  by_cases hc : σ.1 + e6 ((σ.2 + 1) % 6) ∈ C
  · simp only [e, hc, if_true]; exact ⟨trivial, trivial, trivial⟩
  · simp only [e, hc, if_false]; exact ⟨trivial, trivial, hx⟩
theorem Piece.it {S C : List Int} (h : Piece S C) {σ : Wk} (hx : σ.1 ∈ C) : ∀ n, Mine.it S n σ = Mine.it C n σ ∧ (Mine.it C n σ).1 ∈ C ∧ sumT S n σ = sumT C n σ
  | 0 => ⟨rfl, hx, rfl⟩
  | n + 1 => by
    obtain ⟨h1, h2, h3⟩ := h.it hx n
    obtain ⟨h4, h5, h6⟩ := h.phi h2
    refine ⟨?_, h6, ?_⟩
    · show Mine.phi S (Mine.it S n σ) = Mine.phi C (Mine.it C n σ); rw [h1, h4]
    · show sumT S n σ + trn S (Mine.it S n σ) = sumT C n σ + trn C (Mine.it C n σ); rw [h3, h1, h5]
theorem Piece.bnd {S C : List Int} (h : Piece S C) {σ : Wk} (hx : σ.1 ∈ C) : Bnd S σ ↔ Bnd C σ := by
  constructor
  · rintro ⟨h1, _, h3⟩; exact ⟨h1, hx, fun q => h3 ((h.mem hx h1).mpr q)⟩
  · rintro ⟨h1, _, h3⟩; exact ⟨h1, h.sub _ hx, fun q => h3 ((h.mem hx h1).mp q)⟩
theorem Piece.closedW {S C : List Int} (h : Piece S C) {σ : Wk} (hx : σ.1 ∈ C) {n : Nat} : Closed S σ n ↔ Closed C σ n := by
  constructor
  · rintro ⟨h1, h2, h3⟩
    exact ⟨h1, by rw [← (h.it hx n).1]; exact h2, fun j hj hn => by rw [← (h.it hx j).1]; exact h3 j hj hn⟩
  · rintro ⟨h1, h2, h3⟩
    exact ⟨h1, by rw [(h.it hx n).1]; exact h2, fun j hj hn => by rw [(h.it hx j).1]; exact h3 j hj hn⟩
theorem Piece.orb {S C : List Int} (h : Piece S C) {σ : Wk} (hx : σ.1 ∈ C) (n : Nat) : Mine.orb S n σ = Mine.orb C n σ := by
  unfold Mine.orb
  exact List.map_congr_left fun j _ => (h.it hx j).1
theorem Piece.fine {S C : List Int} (h : Piece S C) (hg : Good1 C) {σ : Wk} (hx : σ.1 ∈ C) (hb : Bnd S σ) : ∃ n, Fine S σ n := by
  obtain ⟨σ0, n, hb0, hc0, ht0, hn0, hall⟩ := hg
  have hbC := (h.bnd hx).mp hb
  rcases hall σ hbC with hm | ⟨k, hk, hkt, hk16⟩
  · obtain ⟨j, _, rfl⟩ := mem_orb.mp hm
    refine ⟨n, fine_of ((h.closedW hx).mpr (hc0.rot hb0 j)) (.inl ⟨?_, hn0⟩)⟩
    rw [(h.it hx n).2.2, sumT_rot hb0 hc0, ht0]
  · exact ⟨k, fine_of ((h.closedW hx).mpr hk) (.inr ⟨by rw [(h.it hx k).2.2, hkt], hk16⟩)⟩
end Mine
end

section
set_option Elab.async false
set_option maxRecDepth 100000
set_option maxHeartbeats 0
namespace Mine
def tb (M q : Nat) : Bool := Nat.beq (Nat.land (Nat.shiftRight M q) 1) 1
/-- the step to the next direction, 70 up: by direction -/
def tabN : Nat := 135 + 256 * (71 + 256 * (6 + 256 * (5 + 256 * (69 + 256 * 134))))
def upN (d : Nat) : Nat := Nat.land (Nat.shiftRight tabN (Nat.mul 8 d)) 255
/-- walk: fuel, state (place times six and direction), what is passed, turned (20 up) -/
noncomputable def go (M s0 : Nat) (f : Nat) : Nat → Nat → Nat → Option (Nat × Nat) :=
  Nat.rec (motive := fun _ => Nat → Nat → Nat → Option (Nat × Nat)) (fun _ _ _ => none)
    (fun _ ih s V t =>
      cond (tb M (Nat.add (Nat.div s 6) (upN (Nat.mod s 6))))
        (cond (Nat.beq (Nat.add (Nat.mul 6 (Nat.sub (Nat.add (Nat.div s 6) (upN (Nat.mod s 6))) 70)) (Nat.mod (Nat.add s 5) 6)) s0) (some (Nat.lor V (Nat.shiftLeft 1 s), Nat.sub t 1))
          (ih (Nat.add (Nat.mul 6 (Nat.sub (Nat.add (Nat.div s 6) (upN (Nat.mod s 6))) 70)) (Nat.mod (Nat.add s 5) 6)) (Nat.lor V (Nat.shiftLeft 1 s)) (Nat.sub t 1)))
        (cond (Nat.beq (Nat.add (Nat.mul 6 (Nat.div s 6)) (Nat.mod (Nat.add s 1) 6)) s0) (some (Nat.lor V (Nat.shiftLeft 1 s), Nat.add t 1))
          (ih (Nat.add (Nat.mul 6 (Nat.div s 6)) (Nat.mod (Nat.add s 1) 6)) (Nat.lor V (Nat.shiftLeft 1 s)) (Nat.add t 1)))) f
def mask : List Nat → Nat
  | [] => 0
  | x :: r => Nat.lor (mask r) (Nat.shiftLeft 1 (Nat.add x 70))
noncomputable def inRing (M s : Nat) : Bool := match go M s 16 s 0 40 with
  | some p => Nat.beq p.2 34
  | none => false
noncomputable def allD (M V p : Nat) : Bool :=
  (tb M (Nat.add p 134) || tb V (Nat.mul 6 p) || inRing M (Nat.mul 6 p)) && ((tb M (Nat.add p 135) || tb V (Nat.add (Nat.mul 6 p) 1) || inRing M (Nat.add (Nat.mul 6 p) 1)) &&
  ((tb M (Nat.add p 71) || tb V (Nat.add (Nat.mul 6 p) 2) || inRing M (Nat.add (Nat.mul 6 p) 2)) && ((tb M (Nat.add p 6) || tb V (Nat.add (Nat.mul 6 p) 3) || inRing M (Nat.add (Nat.mul 6 p) 3)) &&
  ((tb M (Nat.add p 5) || tb V (Nat.add (Nat.mul 6 p) 4) || inRing M (Nat.add (Nat.mul 6 p) 4)) && (tb M (Nat.add p 69) || tb V (Nat.add (Nat.mul 6 p) 5) || inRing M (Nat.add (Nat.mul 6 p) 5))))))
/-- a set: its mask, its places -/
abbrev MS := Nat × List Nat
noncomputable def chk (p : MS) : Bool := match go p.1 4 26 4 0 40 with
  | some v => Nat.beq v.2 46 && p.2.all (allD p.1 v.1)
  | none => false
/-- one more cell, q is 70 up -/
def addC (q : Nat) (D : List Nat) : List Nat := cond (Nat.blt q 70) (0 :: D.map (fun x => Nat.sub (Nat.add x 70) q)) (Nat.sub q 70 :: D)
def pairM (D : List Nat) : MS := (mask D, D)
def hasN (q : Nat) : List Nat → Bool
  | [] => false
  | x :: r => Nat.beq q x || hasN q r
def dedN : List Nat → List Nat
  | [] => []
  | x :: r => bif hasN x r then dedN r else x :: dedN r
/-- the free places beside -/
def rim (p : MS) : List Nat := dedN ((p.2.flatMap fun x => [Nat.add x 134, Nat.add x 135, Nat.add x 71, Nat.add x 6, Nat.add x 5, Nat.add x 69]).filter fun q => !tb p.1 q)
def hasM (m : Nat) : List MS → Bool
  | [] => false
  | x :: r => Nat.beq m x.1 || hasM m r
def dedM : List MS → List MS
  | [] => []
  | x :: r => bif hasM x.1 r then dedM r else x :: dedM r
def more (p : MS) : List MS := (rim p).map fun q => pairM (addC q p.2)
def next (L : List MS) : List MS := dedM (L.flatMap more)
def lev1 : List MS := [pairM [0]]
theorem look1 : lev1.all chk = true := by decide +kernel
theorem look2 : (next lev1).all chk = true := by decide +kernel
theorem look3 : (next (next lev1)).all chk = true := by decide +kernel
theorem look4 : (next (next (next lev1))).all chk = true := by decide +kernel
theorem look56 : (next (next (next (next lev1)))).all (fun p => chk p && (more p).all chk) = true := by decide +kernel
end Mine
end

section
set_option Elab.async false
set_option maxRecDepth 100000
set_option maxHeartbeats 1000000
namespace Mine
theorem tb_iff (M q : Nat) : tb M q = Nat.testBit M q := by
  show Nat.beq ((M >>> q) &&& 1) 1 = (1 &&& (M >>> q) != 0)
  rw [Nat.and_comm 1, Nat.and_one_is_mod]
  rcases Nat.mod_two_eq_zero_or_one (M >>> q) with h | h <;> rw [h] <;> rfl
theorem tb_or (M N q : Nat) : tb (Nat.lor M N) q = (tb M q || tb N q) := by
  rw [tb_iff, tb_iff, tb_iff]; exact Nat.testBit_or M N q
theorem tb_bit (k q : Nat) : tb (Nat.shiftLeft 1 k) q = decide (k = q) := by
  rw [tb_iff]
  show Nat.testBit (1 <<< k) q = _
  rw [Nat.one_shiftLeft, Nat.testBit_two_pow]
theorem tb_zero (q : Nat) : tb 0 q = false := by rw [tb_iff, Nat.zero_testBit]
theorem tb_mask (q : Nat) : ∀ D : List Nat, tb (mask D) q = true ↔ ∃ x ∈ D, q = x + 70
  | [] => by simp [mask, tb_zero]
  | x :: r => by
    show tb (Nat.lor (mask r) (Nat.shiftLeft 1 (Nat.add x 70))) q = true ↔ _
    rw [tb_or, tb_bit, Bool.or_eq_true, tb_mask q r, decide_eq_true_eq]
    constructor
    · rintro (⟨y, hy, e⟩ | e)
      · exact ⟨y, .tail _ hy, e⟩
      · exact ⟨x, .head _, e.symm⟩
    · rintro ⟨y, hy, e⟩
      rcases List.mem_cons.mp hy with rfl | hy
      · exact .inr e.symm
      · exact .inl ⟨y, hy, e⟩
/-- the piece, as the mask tells it -/
structure Rep (C : List Int) (t : Int) (p : MS) : Prop where
  mask : p.1 = Mine.mask p.2
  zero : 0 ∈ p.2
  mem : ∀ z, z ∈ C ↔ ∃ x ∈ p.2, z = ((x : Nat) : Int) + t
theorem Rep.bit {C : List Int} {t : Int} {p : MS} (h : Rep C t p) (q : Nat) : tb p.1 q = true ↔ 70 ≤ q ∧ (q : Int) - 70 + t ∈ C := by
  rw [h.mask, tb_mask, h.mem]
  constructor
  · rintro ⟨x, hx, rfl⟩
    exact ⟨by omega, x, hx, by omega⟩
  · rintro ⟨hq, x, hx, e⟩
    exact ⟨x, hx, by omega⟩
theorem Rep.bit' {C : List Int} {t : Int} {p : MS} (h : Rep C t p) (q : Nat) : tb p.1 q = true ↔ (q : Int) - 70 + t ∈ C := by
  rw [h.bit]
  constructor
  · exact fun h => h.2
  · intro hm
    refine ⟨?_, hm⟩
    obtain ⟨x, _, e⟩ := (h.mem _).mp hm
    omega
def Est (t : Int) (s : Nat) : Wk := (((s / 6 : Nat) : Int) + t, s % 6)
theorem Est_inj {t : Int} {r s : Nat} (h : Est t r = Est t s) : r = s := by
  unfold Est at h
  have h1 := (Prod.mk.inj h).1
  have h2 := (Prod.mk.inj h).2
  omega
theorem upN_is {d : Nat} (h : d < 6) : ((upN d : Nat) : Int) = e6 ((d + 1) % 6) + 70 := by
  rcases six h with rfl | rfl | rfl | rfl | rfl | rfl <;> decide +kernel
theorem dm6 {q r : Nat} (h : r < 6) : (6 * q + r) / 6 = q ∧ (6 * q + r) % 6 = r := by omega
/-- the next state -/
def nxt (M s : Nat) : Nat := cond (tb M (Nat.add (Nat.div s 6) (upN (Nat.mod s 6)))) (Nat.add (Nat.mul 6 (Nat.sub (Nat.add (Nat.div s 6) (upN (Nat.mod s 6))) 70)) (Nat.mod (Nat.add s 5) 6)) (Nat.add (Nat.mul 6 (Nat.div s 6)) (Nat.mod (Nat.add s 1) 6))
theorem nxt_is {C : List Int} {t : Int} {p : MS} (h : Rep C t p) (s : Nat) :
    phi C (Est t s) = Est t (nxt p.1 s) ∧ trn C (Est t s) = (if tb p.1 (Nat.add (Nat.div s 6) (upN (Nat.mod s 6))) = true then -1 else 1) := by
  have hd : s % 6 < 6 := Nat.mod_lt _ (by decide)
  have hu := upN_is hd
  have hq := h.bit (s / 6 + upN (s % 6))
  have ha : ahead (Est t s) = ((s / 6 + upN (s % 6) : Nat) : Int) - 70 + t := by
    unfold ahead Est
    dsimp only
    omega
  have hq' := h.bit' (s / 6 + upN (s % 6))
  unfold phi trn nxt
  show (if ahead (Est t s) ∈ C then (ahead (Est t s), ((Est t s).2 + 5) % 6) else ((Est t s).1, ((Est t s).2 + 1) % 6)) = Est t (cond (tb p.1 (s / 6 + upN (s % 6))) (6 * (s / 6 + upN (s % 6) - 70) + (s + 5) % 6) (6 * (s / 6) + (s + 1) % 6)) ∧
    (if ahead (Est t s) ∈ C then (-1 : Int) else 1) = if tb p.1 (s / 6 + upN (s % 6)) = true then -1 else 1
  by_cases hb : tb p.1 (s / 6 + upN (s % 6)) = true
  · have hm : ahead (Est t s) ∈ C := by rw [ha]; exact hq'.mp hb
    rw [hb, if_pos hm, if_pos hm, if_pos rfl]
    have h70 := (hq.mp hb).1
    refine ⟨?_, rfl⟩
    rw [ha]
    unfold Est
    show _ = (((6 * (s / 6 + upN (s % 6) - 70) + (s + 5) % 6) / 6 : Nat) + t, (6 * (s / 6 + upN (s % 6) - 70) + (s + 5) % 6) % 6)
    have h5 : (s + 5) % 6 < 6 := Nat.mod_lt _ (by decide)
    rw [(dm6 h5).1, (dm6 h5).2]
    exact Prod.ext (by dsimp only; clear hq hq' hu ha hm hb; generalize s / 6 + upN (s % 6) = v at *; omega) (Nat.mod_add_mod s 6 5)
  · have hm : ahead (Est t s) ∉ C := by rw [ha]; exact fun hh => hb (hq'.mpr hh)
    rw [if_neg hm, if_neg hm, if_neg hb]
    rw [Bool.not_eq_true] at hb
    rw [hb]
    refine ⟨?_, rfl⟩
    unfold Est
    show _ = (((6 * (s / 6) + (s + 1) % 6) / 6 : Nat) + t, (6 * (s / 6) + (s + 1) % 6) % 6)
    have h5 : (s + 1) % 6 < 6 := Nat.mod_lt _ (by decide)
    rw [(dm6 h5).1, (dm6 h5).2]
    exact Prod.ext rfl (Nat.mod_add_mod s 6 1)
theorem go_succ (M s0 f s V t : Nat) : go M s0 (f + 1) s V t =
    cond (Nat.beq (nxt M s) s0) (some (Nat.lor V (Nat.shiftLeft 1 s), cond (tb M (Nat.add (Nat.div s 6) (upN (Nat.mod s 6)))) (Nat.sub t 1) (Nat.add t 1)))
      (go M s0 f (nxt M s) (Nat.lor V (Nat.shiftLeft 1 s)) (cond (tb M (Nat.add (Nat.div s 6) (upN (Nat.mod s 6)))) (Nat.sub t 1) (Nat.add t 1))) := by
  unfold nxt
  show cond (tb M (Nat.add (Nat.div s 6) (upN (Nat.mod s 6)))) _ _ = _
  cases tb M (Nat.add (Nat.div s 6) (upN (Nat.mod s 6))) <;> rfl
theorem go_sound {C : List Int} {t : Int} {p : MS} (h : Rep C t p) (s0 : Nat) : ∀ (f s V tn V' tn' j : Nat), go p.1 s0 f s V tn = some (V', tn') → j + f ≤ 26 → it C j (Est t s0) = Est t s →
    (∀ i, 0 < i → i ≤ j → it C i (Est t s0) ≠ Est t s0) → (∀ r, tb V r = true ↔ ∃ i, i < j ∧ it C i (Est t s0) = Est t r) → (tn : Int) = 40 + sumT C j (Est t s0) →
    ∃ n, n ≤ j + f ∧ Closed C (Est t s0) n ∧ (∀ r, tb V' r = true ↔ ∃ i, i < n ∧ it C i (Est t s0) = Est t r) ∧ (tn' : Int) = 40 + sumT C n (Est t s0)
  | 0, _, _, _, _, _, _, hg, _, _, _, _, _ => nomatch hg
  | f + 1, s, V, tn, V', tn', j, hg, hj, hs, hf, hV, ht => by
    rw [go_succ] at hg
    obtain ⟨hphi, htrn⟩ := nxt_is h s
    have hs' : it C (j + 1) (Est t s0) = Est t (nxt p.1 s) := by
      show phi C (it C j (Est t s0)) = _; rw [hs, hphi]
    have hV' : ∀ r, tb (Nat.lor V (Nat.shiftLeft 1 s)) r = true ↔ ∃ i, i < j + 1 ∧ it C i (Est t s0) = Est t r := fun r => by
      rw [tb_or, tb_bit, Bool.or_eq_true, hV r, decide_eq_true_eq]
      constructor
      · rintro (⟨i, hi, e⟩ | rfl)
        · exact ⟨i, by omega, e⟩
        · exact ⟨j, by omega, hs⟩
      · rintro ⟨i, hi, e⟩
        by_cases hij : i = j
        · subst hij; exact .inr (Est_inj (hs.symm.trans e))
        · exact .inl ⟨i, by omega, e⟩
    have hlow : -(j : Int) ≤ sumT C j (Est t s0) := by
      have h1 := sumT_cnt C (Est t s0) j
      have h2 := cntR_le C (Est t s0) j
      omega
    have ht' : ((cond (tb p.1 (Nat.add (Nat.div s 6) (upN (Nat.mod s 6)))) (Nat.sub tn 1) (Nat.add tn 1) : Nat) : Int) = 40 + sumT C (j + 1) (Est t s0) := by
      show _ = 40 + (sumT C j (Est t s0) + trn C (it C j (Est t s0)))
      rw [hs, htrn]
      cases tb p.1 (Nat.add (Nat.div s 6) (upN (Nat.mod s 6)))
      · show ((tn + 1 : Nat) : Int) = _; simp; omega
      · show ((tn - 1 : Nat) : Int) = _; simp; omega
    by_cases he : nxt p.1 s = s0
    · rw [he, show Nat.beq s0 s0 = true from Nat.beq_refl s0] at hg
      have hg' := Option.some.inj (show some (Nat.lor V (Nat.shiftLeft 1 s), cond (tb p.1 (Nat.add (Nat.div s 6) (upN (Nat.mod s 6)))) (Nat.sub tn 1) (Nat.add tn 1)) = some (V', tn') from hg)
      obtain ⟨e1, e2⟩ := Prod.mk.inj hg'
      refine ⟨j + 1, by omega, ⟨by omega, by rw [hs', he], fun i hi hi' => hf i hi (by omega)⟩, ?_, ?_⟩
      · rw [← e1]; exact hV'
      · rw [← e2]; exact ht'
    · have hb : Nat.beq (nxt p.1 s) s0 = false := by
        cases e : Nat.beq (nxt p.1 s) s0
        · rfl
        · exact absurd (Nat.eq_of_beq_eq_true e) he
      rw [hb] at hg
      obtain ⟨n, h1, h2⟩ := go_sound h s0 f (nxt p.1 s) _ _ V' tn' (j + 1) hg (by omega) hs' (fun i hi hi' => by
        by_cases hij : i = j + 1
        · subst hij; rw [hs']; exact fun e => he (Est_inj e)
        · exact hf i hi (by omega)) hV' ht'
      exact ⟨n, by omega, h2⟩
end Mine
end

section
set_option Elab.async false
set_option maxRecDepth 100000
set_option maxHeartbeats 1000000
namespace Mine
theorem go_start {C : List Int} {t : Int} {p : MS} (h : Rep C t p) (s0 f V' tn' : Nat) (hf : f ≤ 26) (hg : go p.1 s0 f s0 0 40 = some (V', tn')) :
    ∃ n, n ≤ f ∧ Closed C (Est t s0) n ∧ (∀ r, tb V' r = true ↔ ∃ i, i < n ∧ it C i (Est t s0) = Est t r) ∧ (tn' : Int) = 40 + sumT C n (Est t s0) := by
  obtain ⟨n, h1, h2⟩ := go_sound h s0 f s0 0 40 V' tn' 0 hg (by omega) rfl (fun i hi hi' => by omega) (fun r => by rw [tb_zero]; simp) rfl
  exact ⟨n, by omega, h2⟩
theorem ring_sound {C : List Int} {t : Int} {p : MS} (h : Rep C t p) (s : Nat) (hr : inRing p.1 s = true) : ∃ k, Closed C (Est t s) k ∧ sumT C k (Est t s) = -6 ∧ k ≤ 16 := by
  unfold inRing at hr
  cases hg : go p.1 s 16 s 0 40 with
  | none => rw [hg] at hr; cases hr
  | some v =>
    rw [hg] at hr
    obtain ⟨V', tn'⟩ := v
    have e : tn' = 34 := Nat.eq_of_beq_eq_true hr
    obtain ⟨n, h1, h2, _, h4⟩ := go_start h s 16 V' tn' (by decide) hg
    exact ⟨n, h2, by rw [e] at h4; omega, h1⟩
theorem allD_at {M V p : Nat} (h : allD M V p = true) {d : Nat} (hd : d < 6) : tb M (p + (e6 d + 70).toNat) = true ∨ tb V (6 * p + d) = true ∨ inRing M (6 * p + d) = true := by
  unfold allD at h
  simp only [Bool.and_eq_true, Bool.or_eq_true] at h
  obtain ⟨h0, h1, h2, h3, h4, h5⟩ := h
  rcases six hd with rfl | rfl | rfl | rfl | rfl | rfl
  · exact or_assoc.mp h0
  · exact or_assoc.mp h1
  · exact or_assoc.mp h2
  · exact or_assoc.mp h3
  · exact or_assoc.mp h4
  · exact or_assoc.mp h5
theorem chk_sound {C : List Int} {t : Int} {p : MS} (h : Rep C t p) (hc : chk p = true) : Good1 C := by
  unfold chk at hc
  cases hg : go p.1 4 26 4 0 40 with
  | none => rw [hg] at hc; cases hc
  | some v =>
    rw [hg] at hc
    obtain ⟨V', tn'⟩ := v
    obtain ⟨hc1, hc2⟩ := Bool.and_eq_true_iff.mp hc
    have e : tn' = 46 := Nat.eq_of_beq_eq_true hc1
    obtain ⟨n, h1, h2, h3, h4⟩ := go_start h 4 26 V' tn' (by decide) hg
    have e4 : Est t 4 = (t, 4) := by unfold Est; simp
    have hlow : ∀ z ∈ C, t ≤ z := fun z hz => by
      obtain ⟨x, _, e⟩ := (h.mem z).mp hz
      omega
    have ht : t ∈ C := (h.mem t).mpr ⟨0, h.zero, by simp⟩
    refine ⟨Est t 4, n, ?_, h2, by rw [e] at h4; omega, h1, fun τ hτ => ?_⟩
    · rw [e4]
      refine ⟨show 4 < 6 by decide, ht, fun hm => ?_⟩
      have := hlow _ hm
      have e : e6 4 = -65 := rfl
      dsimp only at this
      omega
    · obtain ⟨z, d⟩ := τ
      obtain ⟨hd, hz, hn⟩ := hτ
      dsimp only at hd hz hn
      obtain ⟨x, hx, e1⟩ := (h.mem z).mp hz
      have hE : Est t (6 * x + d) = (z, d) := by
        unfold Est
        refine Prod.ext ?_ ?_
        · dsimp only; omega
        · dsimp only; omega
      have ha := List.all_eq_true.mp hc2 x hx
      have hpos : (0 : Int) ≤ e6 d + 70 := by rcases six hd with rfl | rfl | rfl | rfl | rfl | rfl <;> decide
      rcases allD_at ha hd with hb | hb | hb
      · exfalso
        refine hn ?_
        have := (h.bit' _).mp hb
        rw [show z + e6 d = ((x + (e6 d + 70).toNat : Nat) : Int) - 70 + t by omega]
        exact this
      · left
        obtain ⟨i, hi, e⟩ := (h3 _).mp hb
        rw [hE] at e
        exact mem_orb.mpr ⟨i, hi, e⟩
      · right
        obtain ⟨k, k1, k2, k3⟩ := ring_sound h _ hb
        rw [hE] at k1 k2
        exact ⟨k, k1, k2, k3⟩
/-- the places beside -/
theorem mem_hasN {q : Nat} : ∀ {l : List Nat}, hasN q l = true ↔ q ∈ l
  | [] => by simp [hasN]
  | x :: r => by
    unfold hasN
    rw [Bool.or_eq_true, mem_hasN, List.mem_cons]
    constructor
    · rintro (h | h)
      · exact .inl (Nat.eq_of_beq_eq_true h)
      · exact .inr h
    · rintro (rfl | h)
      · exact .inl (Nat.beq_refl _)
      · exact .inr h
theorem mem_dedN {q : Nat} : ∀ {l : List Nat}, q ∈ l → q ∈ dedN l
  | x :: r, h => by
    unfold dedN
    cases e : hasN x r
    · rcases List.mem_cons.mp h with rfl | h
      · exact .head _
      · exact .tail _ (mem_dedN h)
    · rcases List.mem_cons.mp h with rfl | h
      · exact mem_dedN (mem_hasN.mp e)
      · exact mem_dedN h
theorem mem_rim {p : MS} {x : Nat} (hx : x ∈ p.2) {d : Nat} (hd : d < 6) (hn : tb p.1 (x + (e6 d + 70).toNat) = false) : x + (e6 d + 70).toNat ∈ rim p := by
  unfold rim
  refine mem_dedN (List.mem_filter.mpr ⟨List.mem_flatMap.mpr ⟨x, hx, ?_⟩, by rw [hn]; rfl⟩)
  rcases six hd with rfl | rfl | rfl | rfl | rfl | rfl
  · exact .head _
  · exact .tail _ (.head _)
  · exact .tail _ (.tail _ (.head _))
  · exact .tail _ (.tail _ (.tail _ (.head _)))
  · exact .tail _ (.tail _ (.tail _ (.tail _ (.head _))))
  · exact .tail _ (.tail _ (.tail _ (.tail _ (.tail _ (.head _)))))
theorem hasM_iff {m : Nat} : ∀ {l : List MS}, hasM m l = true ↔ ∃ p ∈ l, p.1 = m
  | [] => by simp [hasM]
  | x :: r => by
    unfold hasM
    rw [Bool.or_eq_true, hasM_iff]
    constructor
    · rintro (h | ⟨p, hp, e⟩)
      · exact ⟨x, .head _, (Nat.eq_of_beq_eq_true h).symm⟩
      · exact ⟨p, .tail _ hp, e⟩
    · rintro ⟨p, hp, e⟩
      rcases List.mem_cons.mp hp with rfl | hp
      · rw [e]; exact .inl (Nat.beq_refl _)
      · exact .inr ⟨p, hp, e⟩
theorem mem_dedM {m : Nat} : ∀ {l : List MS}, (∃ p ∈ l, p.1 = m) → ∃ p ∈ dedM l, p.1 = m
  | [], h => h
  | x :: r, h => by
    unfold dedM
    obtain ⟨p, hp, e⟩ := h
    cases hm : hasM x.1 r
    · rcases List.mem_cons.mp hp with rfl | hp
      · exact ⟨p, .head _, e⟩
      · obtain ⟨q, hq, e'⟩ := mem_dedM ⟨p, hp, e⟩
        exact ⟨q, .tail _ hq, e'⟩
    · rcases List.mem_cons.mp hp with rfl | hp
      · obtain ⟨q, hq, e'⟩ := hasM_iff.mp hm
        exact mem_dedM ⟨q, hq, e'.trans e⟩
      · exact mem_dedM ⟨p, hp, e⟩
theorem dedM_sub : ∀ {l : List MS}, ∀ p ∈ dedM l, p ∈ l
  | [], _, h => h
  | x :: r, p, h => by
    unfold dedM at h
    cases hm : hasM x.1 r
    · rw [hm] at h
      rcases List.mem_cons.mp h with rfl | h
      · exact .head _
      · exact .tail _ (dedM_sub p h)
    · rw [hm] at h
      exact .tail _ (dedM_sub p h)
/-- whatever stands in a level -/
def WellM (L : List MS) : Prop := ∀ p ∈ L, p.1 = mask p.2 ∧ 0 ∈ p.2
theorem zero_addC {q : Nat} {D : List Nat} (h : 0 ∈ D) : 0 ∈ addC q D := by
  unfold addC
  cases Nat.blt q 70
  · exact .tail _ h
  · exact .head _
theorem well_more {p : MS} (h : 0 ∈ p.2) : WellM (more p) := fun r hr => by
  unfold more at hr
  obtain ⟨q, _, rfl⟩ := List.mem_map.mp hr
  exact ⟨rfl, zero_addC h⟩
theorem well_next {L : List MS} (h : WellM L) : WellM (next L) := fun r hr => by
  obtain ⟨p, hp, hrp⟩ := List.mem_flatMap.mp (dedM_sub r hr)
  exact well_more (h p hp).2 r hrp
theorem well_lev1 : WellM lev1 := fun p hp => by
  rw [List.mem_singleton.mp hp]; exact ⟨rfl, .head _⟩
/-- one more cell -/
theorem rep_more {C : List Int} {t : Int} {p : MS} (h : Rep C t p) {x : Int} (hx : x ∈ C) {d : Nat} (hd : d < 6) (hn : x + e6 d ∉ C) : ∃ r ∈ more p, ∃ t', Rep (C ++ [x + e6 d]) t' r := by
  obtain ⟨x', hx', e1⟩ := (h.mem x).mp hx
  have hpos : (0 : Int) ≤ e6 d + 70 := by rcases six hd with rfl | rfl | rfl | rfl | rfl | rfl <;> decide
  have hb : tb p.1 (x' + (e6 d + 70).toNat) = false := by
    cases hq : tb p.1 (x' + (e6 d + 70).toNat)
    · rfl
    · exfalso
      have := (h.bit' _).mp hq
      refine hn ?_
      rw [show x + e6 d = ((x' + (e6 d + 70).toNat : Nat) : Int) - 70 + t by omega]
      exact this
  have hr := mem_rim hx' hd hb
  have hq : ((x' + (e6 d + 70).toNat : Nat) : Int) = x + e6 d - t + 70 := by omega
  generalize x' + (e6 d + 70).toNat = q at *
  refine ⟨pairM (addC q p.2), List.mem_map_of_mem hr, ?_⟩
  by_cases h70 : q < 70
  · have e : addC q p.2 = 0 :: p.2.map (fun x => x + 70 - q) := by
      unfold addC
      rw [show Nat.blt q 70 = true from Nat.blt_eq.mpr h70]
      rfl
    refine ⟨x + e6 d, rfl, zero_addC h.zero, fun z => ?_⟩
    show _ ↔ ∃ y ∈ addC q p.2, _
    rw [e, List.mem_append, List.mem_singleton, h.mem]
    constructor
    · rintro (⟨y, hy, rfl⟩ | rfl)
      · exact ⟨y + 70 - q, .tail _ (List.mem_map.mpr ⟨y, hy, rfl⟩), by omega⟩
      · exact ⟨0, .head _, by simp⟩
    · rintro ⟨y, hy, rfl⟩
      rcases List.mem_cons.mp hy with rfl | hy
      · exact .inr (by simp)
      · obtain ⟨w, hw, rfl⟩ := List.mem_map.mp hy
        exact .inl ⟨w, hw, by omega⟩
  · have e : addC q p.2 = (q - 70) :: p.2 := by
      unfold addC
      have : Nat.blt q 70 = false := by
        cases e : Nat.blt q 70
        · rfl
        · exact absurd (Nat.blt_eq.mp e) h70
      rw [this]
      rfl
    refine ⟨t, rfl, zero_addC h.zero, fun z => ?_⟩
    show _ ↔ ∃ y ∈ addC q p.2, _
    rw [e, List.mem_append, List.mem_singleton, h.mem]
    constructor
    · rintro (⟨y, hy, rfl⟩ | rfl)
      · exact ⟨y, .tail _ hy, rfl⟩
      · exact ⟨q - 70, .head _, by omega⟩
    · rintro ⟨y, hy, rfl⟩
      rcases List.mem_cons.mp hy with rfl | hy
      · exact .inr (by omega)
      · exact .inl ⟨y, hy, rfl⟩
/-- two sets with one mask -/
theorem rep_same {C : List Int} {t : Int} {p r : MS} (h : Rep C t p) (hr : r.1 = mask r.2) (hz : 0 ∈ r.2) (e : r.1 = p.1) : Rep C t r := by
  refine ⟨hr, hz, fun z => ?_⟩
  have hm : ∀ x, x ∈ r.2 ↔ x ∈ p.2 := fun x => by
    have h1 := tb_mask (x + 70) r.2
    have h2 := tb_mask (x + 70) p.2
    rw [← hr, e, h.mask] at h1
    have h3 := h1.symm.trans h2
    constructor
    · intro hx
      obtain ⟨y, hy, e⟩ := h3.mp ⟨x, hx, rfl⟩
      rw [show x = y by omega]; exact hy
    · intro hx
      obtain ⟨y, hy, e⟩ := h3.mpr ⟨x, hx, rfl⟩
      rw [show x = y by omega]; exact hy
  rw [h.mem]
  constructor
  · rintro ⟨x, hx, e⟩; exact ⟨x, (hm x).mpr hx, e⟩
  · rintro ⟨x, hx, e⟩; exact ⟨x, (hm x).mp hx, e⟩
theorem rep_next {C : List Int} {t : Int} {L : List MS} (hw : WellM L) {p : MS} (hp : p ∈ L) (h : Rep C t p) {x : Int} (hx : x ∈ C) {d : Nat} (hd : d < 6) (hn : x + e6 d ∉ C) : ∃ r ∈ next L, ∃ t', Rep (C ++ [x + e6 d]) t' r := by
  obtain ⟨r, hr, t', hrep⟩ := rep_more h hx hd hn
  obtain ⟨r', hr', e⟩ := mem_dedM (l := L.flatMap more) ⟨r, List.mem_flatMap.mpr ⟨p, hp, hr⟩, rfl⟩
  have hw' := well_next hw r' hr'
  exact ⟨r', hr', t', rep_same hrep hw'.1 hw'.2 e⟩
end Mine
end

section
open PySem PySem.W PySem.Calls PyProof.Rows
set_option Elab.async false
set_option maxRecDepth 100000
set_option maxHeartbeats 1000000
namespace Mine
def lev : Nat → List MS
  | 0 => lev1
  | n + 1 => next (lev n)
theorem well_lev : ∀ n, WellM (lev n)
  | 0 => well_lev1
  | n + 1 => well_next (well_lev n)
theorem conn_lev {C : List Int} (h : Conn C) : ∀ n, C.length = n + 1 → ∃ p ∈ lev n, ∃ t, Rep C t p := by
  induction h with
  | one x =>
    intro n hn
    obtain rfl : n = 0 := by simpa using hn.symm
    refine ⟨pairM [0], .head _, x, rfl, .head _, fun z => ?_⟩
    show z ∈ [x] ↔ ∃ y ∈ [0], z = ((y : Nat) : Int) + x
    simp
  | @add C x d hC hx hd hnm ih =>
    intro n hn
    rw [List.length_append, List.length_singleton] at hn
    cases n with
    | zero =>
      have := List.length_pos_of_mem hx
      omega
    | succ n =>
      obtain ⟨p, hp, t, hr⟩ := ih n (by omega)
      exact rep_next (well_lev n) hp hr hx hd hnm
theorem look_at {L : List MS} (hl : L.all chk = true) {C : List Int} {p : MS} (hp : p ∈ L) {t : Int} (hr : Rep C t p) : Good1 C := chk_sound hr (List.all_eq_true.mp hl p hp)
theorem conn_good {C : List Int} (h : Conn C) (hn : C.length ≤ 6) : Good1 C := by
  have hpos : 0 < C.length := List.length_pos_iff.mpr h.ne
  by_cases h6 : C.length = 6
  · cases h with
    | one x => cases h6
    | @add C x d hC hx hd hnm =>
      rw [List.length_append, List.length_singleton] at h6
      obtain ⟨p, hp, t, hr⟩ := conn_lev hC 4 (by omega)
      have hl := List.all_eq_true.mp look56 p hp
      obtain ⟨r, hrm, t', hr'⟩ := rep_more hr hx hd hnm
      exact look_at (Bool.and_eq_true_iff.mp hl).2 hrm hr'
  · obtain ⟨p, hp, t, hr⟩ := conn_lev h (C.length - 1) (by omega)
    have hc : C.length - 1 = 0 ∨ C.length - 1 = 1 ∨ C.length - 1 = 2 ∨ C.length - 1 = 3 ∨ C.length - 1 = 4 := by omega
    rcases hc with e | e | e | e | e <;> rw [e] at hp
    · exact look_at look1 hp hr
    · exact look_at look2 hp hr
    · exact look_at look3 hp hr
    · exact look_at look4 hp hr
    · exact chk_sound hr (Bool.and_eq_true_iff.mp (List.all_eq_true.mp look56 p hp)).1
theorem Conn.nodup {C : List Int} (h : Conn C) : C.Nodup := by
  induction h with
  | one x => simp
  | add hC hx hd hnm ih =>
    refine List.nodup_append.mpr ⟨ih, by simp, fun a ha b hb => ?_⟩
    rw [List.mem_singleton.mp hb]; exact fun e => hnm (e ▸ ha)
/-- each cell lies in a piece -/
theorem piece_of {S : List Int} : ∀ (n : Nat) (C : List Int), S.length - C.length ≤ n → Conn C → (∀ x ∈ C, x ∈ S) → ∃ C', Conn C' ∧ (∀ x ∈ C, x ∈ C') ∧ Piece S C'
  | n, C, hn, hC, hs => by
    by_cases hcl : ∀ x ∈ C, ∀ d, d < 6 → x + e6 d ∈ S → x + e6 d ∈ C
    · exact ⟨C, hC, fun x hx => hx, hs, hcl⟩
    · have : ∃ x ∈ C, ∃ d, d < 6 ∧ x + e6 d ∈ S ∧ x + e6 d ∉ C := by
        refine Classical.byContradiction fun hno => hcl fun x hx d hd hm => Classical.byContradiction fun hnm => hno ⟨x, hx, d, hd, hm, hnm⟩
      obtain ⟨x, hx, d, hd, hm, hnm⟩ := this
      have hC' : Conn (C ++ [x + e6 d]) := .add hC hx hd hnm
      have hs' : ∀ y ∈ C ++ [x + e6 d], y ∈ S := fun y hy => by
        rcases List.mem_append.mp hy with hy | hy
        · exact hs y hy
        · rw [List.mem_singleton.mp hy]; exact hm
      have hlen := len_of_sub hC'.nodup hs'
      rw [List.length_append, List.length_singleton] at hlen
      cases n with
      | zero => omega
      | succ n =>
        obtain ⟨C'', h1, h2, h3⟩ := piece_of n (C ++ [x + e6 d]) (by rw [List.length_append, List.length_singleton]; omega) hC' hs'
        exact ⟨C'', h1, fun y hy => h2 y (List.mem_append_left _ hy), h3⟩
/-- every walk is fine -/
theorem all_fine {S : List Int} (hn : S.length ≤ 6) : ∀ σ, Bnd S σ → ∃ n, Fine S σ n := fun σ hb => by
  obtain ⟨C, h1, h2, h3⟩ := piece_of (S := S) S.length [σ.1] (by omega) (.one σ.1) (fun x hx => by rw [List.mem_singleton.mp hx]; exact hb.2.1)
  have hlen := len_of_sub h1.nodup h3.sub
  exact h3.fine (conn_good h1 (by omega)) (h2 _ (.head _)) hb
theorem Comps.piece {S : List Int} {Cs : List (List Int)} (h : Comps S Cs) {C : List Int} (hC : C ∈ Cs) : Piece S C :=
  ⟨fun x hx => h.sub x (List.mem_flatten.mpr ⟨C, hC, hx⟩), h.closed C hC⟩
/-- each piece has one walk to the left -/
theorem one_left {S C : List Int} (hP : Piece S C) (hg : Good1 C) {os : List (Wk × Nat)} (hW : Walked S os) (hcov : ∀ σ, Bnd S σ → σ ∈ os.flatMap fun p => orb S p.2 p.1) :
    ((os.filter fun p => decide (sumT S p.2 p.1 = 6)).filter fun p => decide (p.1.1 ∈ C)).length = 1 := by
  obtain ⟨σ0, n, hb0, hc0, ht0, hn0, hall⟩ := hg
  have hx0 : σ0.1 ∈ C := hb0.2.1
  have hbS0 := (hP.bnd hx0).mpr hb0
  have hcS0 := (hP.closedW hx0).mpr hc0
  have htS0 : sumT S n σ0 = 6 := by rw [(hP.it hx0 n).2.2, ht0]
  -- who is in the filter goes round with σ0
  have hin : ∀ p ∈ os, sumT S p.2 p.1 = 6 → p.1.1 ∈ C → p.1 ∈ orb S n σ0 ∧ p.2 = n := fun p hp h6 hx => by
    obtain ⟨hb, hf⟩ := hW.each p hp
    have huniq : ∀ k, Closed S p.1 k → k = p.2 := fun k hk => by
      rcases Nat.lt_trichotomy k p.2 with h | h | h
      · exact absurd hk.back (hf.closed.first k hk.pos h)
      · exact h
      · exact absurd hf.closed.back (hk.first p.2 hf.closed.pos h)
    rcases hall p.1 ((hP.bnd hx).mp hb) with hm | ⟨k, hk, hkt, _⟩
    · rw [hP.orb hx0]
      refine ⟨hm, ?_⟩
      rw [← hP.orb hx0] at hm
      obtain ⟨j, _, e⟩ := mem_orb.mp hm
      exact (huniq n (by rw [← e]; exact hcS0.rot hbS0 j)).symm
    · exfalso
      have e := huniq k ((hP.closedW hx).mpr hk)
      rw [← e, (hP.it hx k).2.2, hkt] at h6
      exact absurd h6 (by decide)
  have hdis : os.Pairwise fun p q => ∀ τ, τ ∈ orb S p.2 p.1 → τ ∉ orb S q.2 q.1 := by
    have h := List.pairwise_flatMap.mp hW.nodup
    exact h.2.imp fun {p q} hpq τ h1 h2 => hpq τ h1 τ h2 rfl
  have hsub : ((os.filter fun p => decide (sumT S p.2 p.1 = 6)).filter fun p => decide (p.1.1 ∈ C)).Sublist os := (List.filter_sublist).trans List.filter_sublist
  have hdis' := hdis.sublist hsub
  have hmem : ∀ p, p ∈ ((os.filter fun p => decide (sumT S p.2 p.1 = 6)).filter fun p => decide (p.1.1 ∈ C)) ↔ (p ∈ os ∧ sumT S p.2 p.1 = 6) ∧ p.1.1 ∈ C := fun p => by
    simp only [List.mem_filter, decide_eq_true_eq]
  have hself : ∀ p : Wk × Nat, 0 < p.2 → p.1 ∈ orb S p.2 p.1 := fun p hp => mem_orb.mpr ⟨0, hp, rfl⟩
  generalize hl : ((os.filter fun p => decide (sumT S p.2 p.1 = 6)).filter fun p => decide (p.1.1 ∈ C)) = l at *
  cases l with
  | nil =>
    exfalso
    obtain ⟨p, hp, hm⟩ := List.mem_flatMap.mp (hcov σ0 hbS0)
    obtain ⟨hb, hf⟩ := hW.each p hp
    obtain ⟨j, _, e⟩ := mem_orb.mp hm
    have hpn : p.2 = n := by
      have hc := hf.closed.rot hb j
      rw [e] at hc
      rcases Nat.lt_trichotomy n p.2 with h | h | h
      · exact absurd hcS0.back (hc.first n hcS0.pos h)
      · exact h.symm
      · exact absurd hc.back (hcS0.first p.2 hc.pos h)
    have h6 : sumT S p.2 p.1 = 6 := by
      have := sumT_rot hb hf.closed j
      rw [e] at this
      rw [← this, hpn]; exact htS0
    have hx : p.1.1 ∈ C := by
      have h1 : p.1 ∈ orb S p.2 (it S j p.1) := (orb_rot hf.closed j).mpr (hself p hf.closed.pos)
      rw [e, hP.orb hx0] at h1
      obtain ⟨k, _, e2⟩ := mem_orb.mp h1
      rw [← e2]
      exact (hP.it hx0 k).2.1
    exact nomatch (hmem p).mpr ⟨⟨hp, h6⟩, hx⟩
  | cons a r =>
    cases r with
    | nil => rfl
    | cons b r =>
      exfalso
      have ha := (hmem a).mp (.head _)
      have hb := (hmem b).mp (.tail _ (.head _))
      obtain ⟨a1, a2⟩ := hin a ha.1.1 ha.1.2 ha.2
      obtain ⟨b1, b2⟩ := hin b hb.1.1 hb.1.2 hb.2
      refine (List.pairwise_cons.mp hdis').1 b (.head _) b.1 ?_ (hself b (by rw [b2]; exact hcS0.pos))
      obtain ⟨i, _, e⟩ := mem_orb.mp a1
      rw [a2, ← e]
      exact (orb_rot hcS0 i).mpr b1
theorem sum_split {α : Type} (f : α → Int) : ∀ (Cs : List (List Int)), Cs.flatten.Nodup → ∀ l : List α, (∀ p ∈ l, f p ∈ Cs.flatten) → (Cs.map fun C => (l.filter fun p => decide (f p ∈ C)).length).sum = l.length
  | Cs, hn, [], _ => by
    have : ∀ Cs : List (List Int), (Cs.map fun C => ((([] : List α)).filter fun p => decide (f p ∈ C)).length).sum = 0 := by
      intro Cs
      induction Cs with
      | nil => rfl
      | cons C r ih => rw [List.map_cons, List.sum_cons, ih]; rfl
    exact this Cs
  | Cs, hn, p :: r, h => by
    have ih := sum_split f Cs hn r fun q hq => h q (.tail _ hq)
    have hp := h p (.head _)
    have key : ∀ Cs : List (List Int), Cs.flatten.Nodup → (Cs.map fun C => ((p :: r).filter fun p => decide (f p ∈ C)).length).sum = (if f p ∈ Cs.flatten then 1 else 0) + (Cs.map fun C => (r.filter fun p => decide (f p ∈ C)).length).sum := by
      intro Cs
      induction Cs with
      | nil => intro _; simp
      | cons C Cs ih =>
        intro hn
        rw [List.flatten_cons] at hn
        obtain ⟨_, h2, h3⟩ := List.nodup_append.mp hn
        have ih' := ih h2
        rw [List.map_cons, List.sum_cons, List.map_cons, List.sum_cons, ih', List.flatten_cons]
        by_cases hC : f p ∈ C
        · have hnot : f p ∉ Cs.flatten := fun hm => h3 _ hC _ hm rfl
          rw [List.filter_cons_of_pos (by simpa using hC), List.length_cons, if_neg hnot, if_pos (List.mem_append_left _ hC)]
          omega
        · rw [List.filter_cons_of_neg (by simpa using hC)]
          by_cases hm : f p ∈ Cs.flatten
          · rw [if_pos hm, if_pos (List.mem_append_right _ hm)]; omega
          · rw [if_neg hm, if_neg (fun hh => (List.mem_append.mp hh).elim hC hm)]; omega
    rw [key Cs hn, if_pos hp, ih, List.length_cons]
    omega
/-- as many walks to the left as pieces -/
theorem lefts_are {S : List Int} (hlen : S.length ≤ 6) {Cs : List (List Int)} (hCs : Comps S Cs) (hcv : ∀ x ∈ S, x ∈ Cs.flatten) {os : List (Wk × Nat)} (hW : Walked S os) (hcov : ∀ σ, Bnd S σ → σ ∈ os.flatMap fun p => orb S p.2 p.1)
    {ts : List Int} (hts : os.map (fun p => sumT S p.2 p.1) = ts) : ts.count 6 = Cs.length := by
  have h1 : ts.count 6 = (os.filter fun p => decide (sumT S p.2 p.1 = 6)).length := by
    rw [← hts, List.count_eq_countP, List.countP_map, List.countP_eq_length_filter]
    congr 1
  rw [h1, ← sum_split (fun p : Wk × Nat => p.1.1) Cs hCs.nd _ fun p hp => hcv _ (hW.each p (List.mem_filter.mp hp).1).1.2.1]
  have h2 : ∀ C ∈ Cs, ((os.filter fun p => decide (sumT S p.2 p.1 = 6)).filter fun p => decide (p.1.1 ∈ C)).length = 1 := fun C hC => by
    have hl := len_of_sub (hCs.conn C hC).nodup (hCs.piece hC).sub
    exact one_left (hCs.piece hC) (conn_good (hCs.conn C hC) (by omega)) hW hcov
  clear h1 hcov hW hts hcv hCs
  induction Cs with
  | nil => rfl
  | cons C r ih =>
    rw [List.map_cons, List.sum_cons, h2 C (.head _), ih fun D hD => h2 D (.tail _ hD), List.length_cons]
    omega
end Mine
end

section
open PySem PySem.W PySem.Calls PyProof.Rows
set_option Elab.async false
set_option maxRecDepth 100000
set_option maxHeartbeats 2000000
namespace Mine
def leS (x y : Str) : Prop := ¬ y.cps.toList < x.cps.toList
theorem leS_trans {x y z : Str} (h : leS x y) (h' : leS y z) : leS x z := by
  unfold leS at *
  rw [List.not_lt] at *
  exact List.le_trans h h'
theorem leS_anti {x y : Str} (h : leS x y) (h' : leS y x) : x = y := by
  unfold leS at *
  rw [List.not_lt] at *
  exact str_ext (List.le_antisymm h h')
theorem rising_pair : ∀ (l : List Str) (p : Str), risingS p l = true → (p :: l).Pairwise leS
  | [], p, _ => by simp
  | x :: r, p, h => by
    have h' := h
    unfold risingS at h'
    rw [Bool.and_eq_true, Bool.not_eq_true', ltCps_eq, decide_eq_false_iff_not] at h'
    have ih := rising_pair r x h'.2
    refine List.pairwise_cons.mpr ⟨fun y hy => ?_, ih⟩
    rcases List.mem_cons.mp hy with rfl | hy
    · exact h'.1
    · exact leS_trans h'.1 ((List.pairwise_cons.mp ih).1 y hy)
theorem sorted_pair {l : List Str} (h : sortedS l = true) : l.Pairwise leS := by
  cases l with
  | nil => exact .nil
  | cons x r => exact rising_pair r x h
theorem sorted_unique {l l' : List Str} (hp : l.Perm l') (h : sortedS l = true) (h' : sortedS l' = true) : l = l' :=
  List.Perm.eq_of_pairwise (fun a b _ _ h1 h2 => leS_anti h1 h2) (sorted_pair h) (sorted_pair h') hp
theorem space_is : Str.ofString " " = ⟨#[32]⟩ := by decide +kernel
theorem joinsp_cps : ∀ (x : Str) (l : List Str), (Str.join ⟨#[32]⟩ (x :: l)).cps.toList = x.cps.toList ++ l.flatMap (fun y => 32 :: y.cps.toList)
  | x, [] => by show x.cps.toList = _; simp
  | x, y :: r => by
    show (x ++ ⟨#[32]⟩ ++ Str.join ⟨#[32]⟩ (y :: r)).cps.toList = _
    show (x.cps ++ #[32] ++ (Str.join ⟨#[32]⟩ (y :: r)).cps).toList = _
    rw [Array.toList_append, Array.toList_append, joinsp_cps y r]
    simp
theorem flat_cut {p q : List Nat} : ∀ {l l' : List Str}, l.length = l'.length → 32 ∉ p → 32 ∉ q → (∀ y ∈ l, 32 ∉ y.cps.toList) → (∀ y ∈ l', 32 ∉ y.cps.toList) →
    p ++ l.flatMap (fun y => 32 :: y.cps.toList) = q ++ l'.flatMap (fun y => 32 :: y.cps.toList) → p = q ∧ l = l'
  | [], [], _, _, _, _, _, h => ⟨by simpa using h, rfl⟩
  | [], _ :: _, e, _, _, _, _, _ => nomatch e
  | _ :: _, [], e, _, _, _, _, _ => nomatch e
  | y :: r, z :: r', e, hp, hq, hl, hl', h => by
    rw [List.flatMap_cons, List.flatMap_cons, List.cons_append, List.cons_append] at h
    obtain ⟨h1, h2⟩ := cut_at hp hq h
    obtain ⟨h3, h4⟩ := flat_cut (Nat.succ.inj e) (hl y (.head _)) (hl' z (.head _)) (fun x hx => hl x (.tail _ hx)) (fun x hx => hl' x (.tail _ hx)) h2
    exact ⟨h1, by rw [str_ext h3, h4]⟩
theorem joinsp_inj {l l' : List Str} (hlen : l.length = l'.length) (hl : ∀ y ∈ l, 32 ∉ y.cps.toList) (hl' : ∀ y ∈ l', 32 ∉ y.cps.toList) (h : Txt.join (Str.ofString " ") l = Txt.join (Str.ofString " ") l') : l = l' := by
  have h' : Str.join ⟨#[32]⟩ l = Str.join ⟨#[32]⟩ l' := by
    rw [space_is] at h
    have e : ∀ l, Txt.join ⟨#[32]⟩ l = Str.join ⟨#[32]⟩ l := fun l => by
      show Builtin.Str.glued _ _ = _
      rw [StrLaws.glued_eq_join]
    rw [e, e] at h; exact h
  match l, l', hlen, hl, hl', h' with
  | [], [], _, _, _, _ => rfl
  | x :: r, y :: r', e, hl, hl', h =>
    have h2 : (Str.join ⟨#[32]⟩ (x :: r)).cps.toList = (Str.join ⟨#[32]⟩ (y :: r')).cps.toList := by rw [h]
    rw [joinsp_cps, joinsp_cps] at h2
    obtain ⟨h3, h4⟩ := flat_cut (Nat.succ.inj e) (hl x (.head _)) (hl' y (.head _)) (fun z hz => hl z (.tail _ hz)) (fun z hz => hl' z (.tail _ hz)) h2
    rw [str_ext h3, h4]
/-- what is added to the sets -/
def KeyOf (l : List Cell) (k : Str) : Prop := ∃ ss : List Str, ss.Perm (l.map Cell.name) ∧ sortedS ss = true ∧ k = Txt.join (Str.ofString " ") ss
theorem KeyOf.same {l l' : List Cell} {k k' : Str} (h : KeyOf l k) (h' : KeyOf l' k') (hp : (l.map Cell.name).Perm (l'.map Cell.name)) : k = k' := by
  obtain ⟨ss, h1, h2, rfl⟩ := h
  obtain ⟨ss', h3, h4, rfl⟩ := h'
  rw [sorted_unique ((h1.trans hp).trans h3.symm) h2 h4]
theorem names_free {l : List Cell} {B : Int} (hl : ∀ x ∈ l, Good B x) {ss : List Str} (hp : ss.Perm (l.map Cell.name)) : ∀ y ∈ ss, 32 ∉ y.cps.toList := fun y hy hm => by
  obtain ⟨x, hx, rfl⟩ := List.mem_map.mp (hp.mem_iff.mp hy)
  unfold Cell.name at hm
  rw [enc_signs] at hm
  have g := hl x hx
  simp only [List.mem_append, List.mem_cons] at hm
  rcases hm with hm | hm | hm | hm | hm
  · exact absurd (num_digit g.a0 32 hm).1 (by decide)
  · exact absurd hm (by decide)
  · exact absurd (num_digit g.b0 32 hm).1 (by decide)
  · exact absurd hm (by decide)
  · exact absurd (num_digit g.c0 32 hm).1 (by decide)
theorem KeyOf.inj {l l' : List Cell} {k : Str} {B : Int} (h : KeyOf l k) (h' : KeyOf l' k) (hlen : l.length = l'.length) (hl : ∀ x ∈ l, Good B x) (hl' : ∀ x ∈ l', Good B x) : (l.map Cell.name).Perm (l'.map Cell.name) := by
  obtain ⟨ss, h1, h2, h3⟩ := h
  obtain ⟨ss', h4, h5, h6⟩ := h'
  have e : ss = ss' := joinsp_inj (by rw [h1.length_eq, h4.length_eq, List.length_map, List.length_map, hlen]) (names_free hl h1) (names_free hl' h4) (h3.symm.trans h6)
  exact (h1.symm.trans (e ▸ h4))
end Mine
end

section
open PySem PySem.W PySem.Calls PyProof.Rows
set_option Elab.async false
set_option maxRecDepth 100000
set_option maxHeartbeats 1000000
namespace Mine
theorem codes_nodup {B : Int} (hB : B ≤ 15) {vs : List Value} {cs : List Cell} (hC : CellsAt B vs cs) : (cs.map Cell.code).Nodup := by
  have h := hC.nd
  unfold List.Nodup at h ⊢
  rw [List.pairwise_map]
  exact h.imp_of_mem fun {a b} ha hb hne e => hne (code_inj hB (hC.gd a ha) (hC.gd b hb) e)
theorem perm_codes {l l' : List Cell} {B : Int} (hB : B ≤ 15) (hl : ∀ x ∈ l, Good B x) (hl' : ∀ x ∈ l', Good B x) (h : (l.map Cell.name).Perm (l'.map Cell.name)) : (l.map Cell.code).Perm (l'.map Cell.code) := by
  let g : Str → Int := fun s => (((l ++ l').find? fun x => x.name == s).map Cell.code).getD 0
  have hg : ∀ x ∈ l ++ l', g x.name = x.code := fun x hx => by
    have hgood : ∀ y ∈ l ++ l', Good B y := fun y hy => (List.mem_append.mp hy).elim (hl y) (hl' y)
    show (((l ++ l').find? fun y => y.name == x.name).map Cell.code).getD 0 = _
    cases hf : (l ++ l').find? fun y => y.name == x.name with
    | none => exact absurd (List.find?_eq_none.mp hf x hx) (by simp)
    | some y =>
      have h1 := List.find?_some hf
      have h2 := List.mem_of_find?_eq_some hf
      have h3 : y.name = x.name := by simpa using h1
      rw [name_inj (hgood y h2) (hgood x hx) (by omega) h3]; rfl
  have hm := h.map g
  rw [List.map_map, List.map_map] at hm
  have e1 : l.map (g ∘ Cell.name) = l.map Cell.code := List.map_congr_left fun x hx => hg x (List.mem_append_left _ hx)
  have e2 : l'.map (g ∘ Cell.name) = l'.map Cell.code := List.map_congr_left fun x hx => hg x (List.mem_append_right _ hx)
  rwa [e1, e2] at hm
theorem perm_names {l l' : List Cell} {B : Int} (hB : B ≤ 15) (hl : ∀ x ∈ l, Good B x) (hl' : ∀ x ∈ l', Good B x) (h : (l.map Cell.code).Perm (l'.map Cell.code)) : (l.map Cell.name).Perm (l'.map Cell.name) := by
  let g : Int → Str := fun s => (((l ++ l').find? fun x => x.code == s).map Cell.name).getD (Str.ofString "")
  have hg : ∀ x ∈ l ++ l', g x.code = x.name := fun x hx => by
    have hgood : ∀ y ∈ l ++ l', Good B y := fun y hy => (List.mem_append.mp hy).elim (hl y) (hl' y)
    show (((l ++ l').find? fun y => y.code == x.code).map Cell.name).getD (Str.ofString "") = _
    cases hf : (l ++ l').find? fun y => y.code == x.code with
    | none => exact absurd (List.find?_eq_none.mp hf x hx) (by simp)
    | some y =>
      have h1 := List.find?_some hf
      have h2 := List.mem_of_find?_eq_some hf
      have h3 : y.code = x.code := by simpa using h1
      rw [code_inj hB (hgood y h2) (hgood x hx) h3]; rfl
  have hm := h.map g
  rw [List.map_map, List.map_map] at hm
  have e1 : l.map (g ∘ Cell.code) = l.map Cell.name := List.map_congr_left fun x hx => hg x (List.mem_append_left _ hx)
  have e2 : l'.map (g ∘ Cell.code) = l'.map Cell.name := List.map_congr_left fun x hx => hg x (List.mem_append_right _ hx)
  rwa [e1, e2] at hm
def side2 (c : Cell) (d : Nat) : List Cell := [c, nb c (d : Int)]
def corn3 (c : Cell) (d : Nat) : List Cell := [c, nb c (d : Int), nb c (((d + 1) % 6 : Nat) : Int)]
theorem side2_good {c : Cell} (h : Good 10 c) (d : Nat) : ∀ x ∈ side2 c d, Good 11 x := by
  intro x hx
  simp only [side2, List.mem_cons, List.not_mem_nil, or_false] at hx
  rcases hx with rfl | rfl
  · exact h.mono (by decide)
  · exact nb_good h _
theorem corn3_good {c : Cell} (h : Good 10 c) (d : Nat) : ∀ x ∈ corn3 c d, Good 11 x := by
  intro x hx
  simp only [corn3, List.mem_cons, List.not_mem_nil, or_false] at hx
  rcases hx with rfl | rfl | rfl
  · exact h.mono (by decide)
  · exact nb_good h _
  · exact nb_good h _
theorem side2_code (c : Cell) {d : Nat} (h : d < 6) : (side2 c d).map Cell.code = [c.code, c.code + e6 d] := by
  show [c.code, (nb c (d : Int)).code] = _
  rw [code_nb' c h]
theorem corn3_code (c : Cell) {d : Nat} (h : d < 6) : (corn3 c d).map Cell.code = [c.code, c.code + e6 d, c.code + e6 ((d + 1) % 6)] := by
  show [c.code, (nb c (d : Int)).code, (nb c (((d + 1) % 6 : Nat) : Int)).code] = _
  rw [code_nb' c h, code_nb' c (Nat.mod_lt _ (by decide))]
/-- what was looked at before -/
def DoneAt (cs : List Cell) (i d : Nat) (c' : Cell) (d' : Nat) : Prop := d' < 6 ∧ ((∃ j, j < i ∧ cs[j]? = some c') ∨ (cs[i]? = some c' ∧ d' < d))
abbrev prevC (cs : List Cell) (i : Nat) : List Int := ((cs.take i).map Cell.code).reverse
structure SetsAt (cs : List Cell) (i d : Nat) (SE SC : Str → Bool) (nE nC a b : Nat) : Prop where
  e : ∀ k, SE k = true ↔ ∃ c' d', DoneAt cs i d c' d' ∧ KeyOf (side2 c' d') k
  c : ∀ k, SC k = true ↔ ∃ c' d', DoneAt cs i d c' d' ∧ KeyOf (corn3 c' d') k
  ne : nE = a + totS (prevC cs i)
  nc : nC = b + totC (prevC cs i)
theorem mem_prev {cs : List Cell} {i : Nat} {z : Int} : z ∈ prevC cs i ↔ ∃ j c, j < i ∧ cs[j]? = some c ∧ c.code = z := by
  unfold prevC
  rw [List.mem_reverse, List.mem_map]
  constructor
  · rintro ⟨c, hc, rfl⟩
    obtain ⟨j, hj, e⟩ := List.getElem_of_mem hc
    rw [List.length_take] at hj
    rw [List.getElem_take] at e
    exact ⟨j, c, by omega, by rw [List.getElem?_eq_getElem (by omega), e], rfl⟩
  · rintro ⟨j, c, hj, e, rfl⟩
    obtain ⟨hlt, e'⟩ := List.getElem?_eq_some_iff.mp e
    refine ⟨c, ?_, rfl⟩
    rw [← e']
    exact List.mem_take_iff_getElem.mpr ⟨j, by omega, rfl⟩
theorem done_iff {cs : List Cell} {i d : Nat} (hd : d < 6) {c : Cell} (hi : cs[i]? = some c) {P : Int → Nat → Prop} :
    (∃ c' d', DoneAt cs i d c' d' ∧ P c'.code d') ↔ ∃ y k, ((y ∈ prevC cs i ∧ k < 6) ∨ (y = c.code ∧ k < d)) ∧ P y k := by
  constructor
  · rintro ⟨c', d', ⟨h6, h⟩, hp⟩
    refine ⟨c'.code, d', ?_, hp⟩
    rcases h with ⟨j, hj, e⟩ | ⟨e, hd'⟩
    · exact .inl ⟨mem_prev.mpr ⟨j, c', hj, e, rfl⟩, h6⟩
    · rw [hi] at e; cases e; exact .inr ⟨rfl, hd'⟩
  · rintro ⟨y, k, h, hp⟩
    rcases h with ⟨hy, hk⟩ | ⟨rfl, hk⟩
    · obtain ⟨j, c', hj, e, rfl⟩ := mem_prev.mp hy
      exact ⟨c', k, ⟨hk, .inl ⟨j, hj, e⟩⟩, hp⟩
    · exact ⟨c, k, ⟨by omega, .inr ⟨hi, hk⟩⟩, hp⟩
theorem done_good {cs : List Cell} (hg : ∀ x ∈ cs, Good 10 x) {i d : Nat} {c' : Cell} {d' : Nat} (h : DoneAt cs i d c' d') : Good 10 c' ∧ d' < 6 := by
  refine ⟨?_, h.1⟩
  rcases h.2 with ⟨j, _, e⟩ | ⟨e, _⟩
  · exact hg _ (List.mem_of_getElem? e)
  · exact hg _ (List.mem_of_getElem? e)
theorem not_prev {cs : List Cell} (hn : (cs.map Cell.code).Nodup) {i : Nat} {c : Cell} (hi : cs[i]? = some c) : c.code ∉ prevC cs i := by
  intro h
  obtain ⟨j, c', hj, e, e2⟩ := mem_prev.mp h
  obtain ⟨h1, e3⟩ := List.getElem?_eq_some_iff.mp hi
  obtain ⟨h2, e4⟩ := List.getElem?_eq_some_iff.mp e
  have := (List.pairwise_iff_getElem.mp hn) j i (by rw [List.length_map]; exact h2) (by rw [List.length_map]; exact h1) hj
  rw [List.getElem_map, List.getElem_map, e3, e4] at this
  exact this e2
theorem side_in {cs : List Cell} (hg : ∀ x ∈ cs, Good 10 x) (hn : (cs.map Cell.code).Nodup) {i d : Nat} (hd : d < 6) {c : Cell} (hi : cs[i]? = some c) {k : Str} (hk : KeyOf (side2 c d) k) :
    (∃ c' d', DoneAt cs i d c' d' ∧ KeyOf (side2 c' d') k) ↔ c.code + e6 d ∈ prevC cs i := by
  have hgc := hg c (List.mem_of_getElem? hi)
  rw [← side_seen hd (not_prev hn hi), ← done_iff hd hi (P := fun y k => [y, y + e6 k].Perm [c.code, c.code + e6 d])]
  constructor
  · rintro ⟨c', d', h, hk'⟩
    obtain ⟨h1, h2⟩ := done_good hg h
    refine ⟨c', d', h, ?_⟩
    have := perm_codes (B := 11) (by decide) (side2_good h1 d') (side2_good hgc d) (hk'.inj (B := 11) hk rfl (side2_good h1 d') (side2_good hgc d))
    rwa [side2_code c' h2, side2_code c hd] at this
  · rintro ⟨c', d', h, hp⟩
    obtain ⟨h1, h2⟩ := done_good hg h
    refine ⟨c', d', h, ?_⟩
    rw [← side2_code c' h2, ← side2_code c hd] at hp
    obtain ⟨ss, k1, k2, k3⟩ := hk
    exact ⟨ss, k1.trans (perm_names (B := 11) (by decide) (side2_good h1 d') (side2_good hgc d) hp).symm, k2, k3⟩
theorem corner_in {cs : List Cell} (hg : ∀ x ∈ cs, Good 10 x) (hn : (cs.map Cell.code).Nodup) {i d : Nat} (hd : d < 6) {c : Cell} (hi : cs[i]? = some c) {k : Str} (hk : KeyOf (corn3 c d) k) :
    (∃ c' d', DoneAt cs i d c' d' ∧ KeyOf (corn3 c' d') k) ↔ c.code + e6 d ∈ prevC cs i ∨ c.code + e6 ((d + 1) % 6) ∈ prevC cs i := by
  have hgc := hg c (List.mem_of_getElem? hi)
  rw [← corner_seen hd (not_prev hn hi), ← done_iff hd hi (P := fun y k => [y, y + e6 k, y + e6 ((k + 1) % 6)].Perm [c.code, c.code + e6 d, c.code + e6 ((d + 1) % 6)])]
  constructor
  · rintro ⟨c', d', h, hk'⟩
    obtain ⟨h1, h2⟩ := done_good hg h
    refine ⟨c', d', h, ?_⟩
    have := perm_codes (B := 11) (by decide) (corn3_good h1 d') (corn3_good hgc d) (hk'.inj (B := 11) hk rfl (corn3_good h1 d') (corn3_good hgc d))
    rwa [corn3_code c' h2, corn3_code c hd] at this
  · rintro ⟨c', d', h, hp⟩
    obtain ⟨h1, h2⟩ := done_good hg h
    refine ⟨c', d', h, ?_⟩
    rw [← corn3_code c' h2, ← corn3_code c hd] at hp
    obtain ⟨ss, k1, k2, k3⟩ := hk
    exact ⟨ss, k1.trans (perm_names (B := 11) (by decide) (corn3_good h1 d') (corn3_good hgc d) hp).symm, k2, k3⟩
theorem done_succ {cs : List Cell} {i d : Nat} (hd : d < 6) {c : Cell} (hi : cs[i]? = some c) {c' : Cell} {d' : Nat} : DoneAt cs i (d + 1) c' d' ↔ DoneAt cs i d c' d' ∨ (c' = c ∧ d' = d) := by
  unfold DoneAt
  rw [hi]
  constructor
  · rintro ⟨h6, h | ⟨e, h⟩⟩
    · exact .inl ⟨h6, .inl h⟩
    · cases e
      by_cases hdd : d' = d
      · exact .inr ⟨rfl, hdd⟩
      · exact .inl ⟨h6, .inr ⟨rfl, by omega⟩⟩
  · rintro (⟨h6, h | ⟨e, h⟩⟩ | ⟨rfl, rfl⟩)
    · exact ⟨h6, .inl h⟩
    · exact ⟨h6, .inr ⟨e, by omega⟩⟩
    · exact ⟨hd, .inr ⟨rfl, by omega⟩⟩
theorem SetsAt.step {cs : List Cell} (hg : ∀ x ∈ cs, Good 10 x) (hn : (cs.map Cell.code).Nodup) {i d : Nat} (hd : d < 6) {c : Cell} (hi : cs[i]? = some c) {SE SC : Str → Bool} {nE nC : Nat} {kE kC : Str} (hE : KeyOf (side2 c d) kE) (hK : KeyOf (corn3 c d) kC)
    (h : SetsAt cs i d SE SC nE nC (sidesAt (prevC cs i) c.code d) (cornersAt (prevC cs i) c.code d)) :
    SetsAt cs i (d + 1) (fun k => SE k || decide (k = kE)) (fun k => SC k || decide (k = kC)) (if SE kE then nE else nE + 1) (if SC kC then nC else nC + 1) (sidesAt (prevC cs i) c.code (d + 1)) (cornersAt (prevC cs i) c.code (d + 1)) := by
  have h1 : SE kE = true ↔ c.code + e6 d ∈ prevC cs i := (h.e kE).trans (side_in hg hn hd hi hE)
  have h2 : SC kC = true ↔ c.code + e6 d ∈ prevC cs i ∨ c.code + e6 ((d + 1) % 6) ∈ prevC cs i := (h.c kC).trans (corner_in hg hn hd hi hK)
  refine ⟨fun k => ?_, fun k => ?_, ?_, ?_⟩
  · rw [Bool.or_eq_true, h.e, decide_eq_true_eq]
    constructor
    · rintro (⟨c', d', hx, hk⟩ | rfl)
      · exact ⟨c', d', (done_succ hd hi).mpr (.inl hx), hk⟩
      · exact ⟨c, d, (done_succ hd hi).mpr (.inr ⟨rfl, rfl⟩), hE⟩
    · rintro ⟨c', d', hx, hk⟩
      rcases (done_succ hd hi).mp hx with hx | ⟨rfl, rfl⟩
      · exact .inl ⟨c', d', hx, hk⟩
      · exact .inr (hk.same hE (.refl _))
  · rw [Bool.or_eq_true, h.c, decide_eq_true_eq]
    constructor
    · rintro (⟨c', d', hx, hk⟩ | rfl)
      · exact ⟨c', d', (done_succ hd hi).mpr (.inl hx), hk⟩
      · exact ⟨c, d, (done_succ hd hi).mpr (.inr ⟨rfl, rfl⟩), hK⟩
    · rintro ⟨c', d', hx, hk⟩
      rcases (done_succ hd hi).mp hx with hx | ⟨rfl, rfl⟩
      · exact .inl ⟨c', d', hx, hk⟩
      · exact .inr (hk.same hK (.refl _))
  · rw [sidesAt_succ]
    have := h.ne
    by_cases hb : c.code + e6 d ∈ prevC cs i
    · rw [if_pos hb, if_pos (h1.mpr hb)]; omega
    · rw [if_neg hb, if_neg (fun hh => hb (h1.mp hh))]; omega
  · rw [cornersAt_succ]
    have := h.nc
    by_cases hb : c.code + e6 d ∈ prevC cs i ∨ c.code + e6 ((d + 1) % 6) ∈ prevC cs i
    · rw [if_pos hb, if_pos (h2.mpr hb)]; omega
    · rw [if_neg hb, if_neg (fun hh => hb (h2.mp hh))]; omega
theorem SetsAt.row {cs : List Cell} {i : Nat} {c : Cell} (hi : cs[i]? = some c) {SE SC : Str → Bool} {nE nC : Nat} (h : SetsAt cs i 6 SE SC nE nC (sidesAt (prevC cs i) c.code 6) (cornersAt (prevC cs i) c.code 6)) : SetsAt cs (i + 1) 0 SE SC nE nC 0 0 := by
  have hp : prevC cs (i + 1) = c.code :: prevC cs i := by
    obtain ⟨hlt, e⟩ := List.getElem?_eq_some_iff.mp hi
    unfold prevC
    rw [List.take_succ_eq_append_getElem hlt, e, List.map_append, List.reverse_append]
    rfl
  have hd : ∀ c' d', DoneAt cs i 6 c' d' ↔ DoneAt cs (i + 1) 0 c' d' := fun c' d' => by
    unfold DoneAt
    constructor
    · rintro ⟨h6, ⟨j, hj, e⟩ | ⟨e, _⟩⟩
      · exact ⟨h6, .inl ⟨j, by omega, e⟩⟩
      · exact ⟨h6, .inl ⟨i, by omega, e⟩⟩
    · rintro ⟨h6, ⟨j, hj, e⟩ | ⟨_, hh⟩⟩
      · by_cases hij : j = i
        · subst hij; exact ⟨h6, .inr ⟨e, h6⟩⟩
        · exact ⟨h6, .inl ⟨j, by omega, e⟩⟩
      · omega
  refine ⟨fun k => ?_, fun k => ?_, ?_, ?_⟩
  · rw [h.e]; simp only [hd]
  · rw [h.c]; simp only [hd]
  · rw [hp, h.ne]; show _ = 0 + (sidesAt (prevC cs i) c.code 6 + totS (prevC cs i)); omega
  · rw [hp, h.nc]; show _ = 0 + (cornersAt (prevC cs i) c.code 6 + totC (prevC cs i)); omega
theorem SetsAt.start (cs : List Cell) : SetsAt cs 0 0 (fun _ => false) (fun _ => false) 0 0 0 0 := by
  have hn : ∀ c' d', ¬ DoneAt cs 0 0 c' d' := fun c' d' h => by
    rcases h.2 with ⟨j, hj, _⟩ | ⟨_, hh⟩ <;> omega
  refine ⟨fun k => ?_, fun k => ?_, rfl, rfl⟩
  · simp only [hn, false_and, exists_const]; simp
  · simp only [hn, false_and, exists_const]; simp
theorem SetsAt.size {cs : List Cell} {i d : Nat} {SE SC : Str → Bool} {nE nC a b : Nat} (h : SetsAt cs i d SE SC nE nC a b) (hi : i ≤ 6) (ha : a ≤ 6) (hb : b ≤ 6) : nE ≤ 42 ∧ nC ≤ 42 := by
  have h1 : ∀ P : List Int, totS P ≤ 6 * P.length ∧ totC P ≤ 6 * P.length := by
    intro P
    induction P with
    | nil => exact ⟨Nat.le_refl _, Nat.le_refl _⟩
    | cons x r ih =>
      have h2 : sidesAt r x 6 ≤ 6 := by unfold sidesAt; exact Nat.le_trans (List.length_filter_le _ _) (by simp)
      have h3 : cornersAt r x 6 ≤ 6 := by unfold cornersAt; exact Nat.le_trans (List.length_filter_le _ _) (by simp)
      show sidesAt r x 6 + totS r ≤ _ ∧ cornersAt r x 6 + totC r ≤ _
      rw [List.length_cons]
      omega
  have h4 := h1 (prevC cs i)
  have h5 : (prevC cs i).length ≤ 6 := by unfold prevC; rw [List.length_reverse, List.length_map, List.length_take]; omega
  have := h.ne
  have := h.nc
  omega
theorem sidesAt_le (prev : List Int) (x : Int) (d : Nat) : sidesAt prev x d ≤ d := by unfold sidesAt; exact Nat.le_trans (List.length_filter_le _ _) (by simp)
theorem cornersAt_le (prev : List Int) (x : Int) (d : Nat) : cornersAt prev x d ≤ d := by unfold cornersAt; exact Nat.le_trans (List.length_filter_le _ _) (by simp)
abbrev lml (D SD CR : Addr) (a b : Int) (t1 t2 : Tok) : List (Str × Value) := [(Str.ofString "cells", .ref D), (Str.ofString "lefts", .int a t1), (Str.ofString "rights", .int b t2), (Str.ofString "sides", .ref SD), (Str.ofString "corners", .ref CR)]
inductive LInv (w : World) (D SD CR : Addr) (oD o9 : Obj) (a b : Int) (cs : List Cell) (i : Nat) (m : Str → Option Value) (news : List (Addr × Obj)) : Prop
  | mk (m' : Str → Option Value) (so co : Obj) (SE SC : Str → Bool) (nE nC : Nat) (t1 t2 : Tok)
    (_ : m = ovl (lml D SD CR a b t1 t2) m') (_ : news = [(CR, co), (SD, so), (D, oD), (99, o9)]) (_ : so.SetObjOf (PySem.strKind PR w) SE nE) (_ : co.SetObjOf (PySem.strKind PR w) SC nC) (_ : SetsAt cs i 0 SE SC nE nC 0 0)
inductive LRow (w : World) (D SD CR : Addr) (oD o9 : Obj) (a b : Int) (cs : List Cell) (i : Nat) (c : Cell) (tc : Tok) (d : Nat) (m : Str → Option Value) (news : List (Addr × Obj)) : Prop
  | mk (m' : Str → Option Value) (so co : Obj) (SE SC : Str → Bool) (nE nC : Nat) (t1 t2 : Tok)
    (_ : m = ovl (lml D SD CR a b t1 t2 ++ [(Str.ofString "cell", .str c.name tc)]) m') (_ : news = [(CR, co), (SD, so), (D, oD), (99, o9)]) (_ : so.SetObjOf (PySem.strKind PR w) SE nE) (_ : co.SetObjOf (PySem.strKind PR w) SC nC) (_ : SetsAt cs i d SE SC nE nC (sidesAt (prevC cs i) c.code d) (cornersAt (prevC cs i) c.code d))
theorem frAs {h₀ h h' : Heap} {L : Addr} {m m' : Str → Option Value} (_F : Fr h₀ L h m) (F : Fr h₀ L h' m') : Fr h₀ L h' m' := F
theorem newsAs {h₀ h h' : Heap} {L : Addr} {m : Str → Option Value} {l : List (Addr × Obj)} (_F : Fr h₀ L h m) (N : News h₀ L h' l) : News h₀ L h' l := N
theorem row_le {B : Int} {x : Cell} (hx : Good B x) (hB : B < 1000) : x.name.length ≤ 32 := name_len hx hB
theorem sp_fits {l : List Str} {l' : List Str} (h : l.Perm l') (h' : ∀ x ∈ l', x.length ≤ 32) (hn : l'.length ≤ 10) : (l.map (·.length)).sum + l.length * 64 ≤ 16777216 := by
  have hb : ∀ l : List Str, (∀ x ∈ l, x.length ≤ 32) → (l.map (·.length)).sum ≤ 32 * l.length := by
    intro l
    induction l with
    | nil => intro _; exact Nat.zero_le _
    | cons x r ih =>
      intro h
      have h1 := h x (.head _)
      have h2 := ih fun y hy => h y (.tail _ hy)
      simp only [List.map_cons, List.sum_cons, List.length_cons]
      omega
  have h1 := hb l fun x hx => h' x (h.mem_iff.mp hx)
  have h2 := h.length_eq
  omega
end Mine
end

section
open PySem PySem.W PySem.Calls PyProof.Rows
set_option Elab.async false
set_option maxRecDepth 100000
set_option maxHeartbeats 4000000
namespace Mine
theorem count_six : ∀ l : List Int, (∀ x ∈ l, x = 6 ∨ x = -6) → l.count 6 + l.count (-6) = l.length
  | [], _ => rfl
  | x :: r, h => by
    have ih := count_six r fun y hy => h y (.tail _ hy)
    rcases h x (.head _) with rfl | rfl
    · rw [List.count_cons_self, List.count_cons_of_ne (by decide), List.length_cons]; omega
    · rw [List.count_cons_self, List.count_cons_of_ne (by decide), List.length_cons]; omega
theorem news_tab {h₀ h h' : Heap} {L D : Addr} {o o9 o9' : Obj} {all : List (Addr × Obj)} (N : News h₀ L h all) (hD : (D, o) ∈ all) (h9 : (99, o9) ∈ all) (hne : o ≠ o9) (hk : ∀ b x, b ∉ [(99, o9)].map (·.1) → h.get? b = some x → h'.get? b = some x)
    (h99 : h'.get? 99 = some o9') : News h₀ L h' [(D, o), (99, o9')] := by
  have hd : D ≠ 99 := by
    intro e
    have h1 := (N _ hD).1
    rw [e, (N _ h9).1] at h1
    exact hne (Option.some.inj h1).symm
  exact List.forall_mem_cons.mpr ⟨⟨hk _ _ (by simpa using hd) (N _ hD).1, (N _ hD).2⟩, List.forall_mem_cons.mpr ⟨⟨h99, (N _ h9).2⟩, List.forall_mem_nil _⟩⟩
theorem lawT : Challenge.rw_pg0074_01.Holds := hd (by
  k_go0
  (all_goals try k_fold)
  rename World => wo
  repeat ((fail_if_success (with_reducible show wpAny _ _ (subscriptTail _ _ _ _) _ _ _)); (first | walk1 | (dsimp only; walk1)))
  walk1
  repeat ((fail_if_success (with_reducible show wpAny _ _ (subscriptTail _ _ _ _) _ _ _)); (first | walk1 | (dsimp only; walk1)))
  rename IntsAre _ (List.take _ _) => hI1
  k_dflt (refine kba_turn (value' := PySem.Expr.Name (PySem.Str.ofString "xs") ⟨0, 0, 0, 0⟩) (fun _ => rfl) ?_)
  k_dflt (refine' kmk_slice_ints ?zzF ?zzN ?zzl ?zzp ?zzq ?zzi ?zzm ?zzc ?_ ?zzs ?zzt ?zzz; (case zzF => k_asm); (case zzN => k_asm); (case zzl => kmk_list); (case zzp => kmk_part); (case zzq => kmk_part); (case zzi => exact .cons _ _ (.cons _ _ (.cons _ _ .nil))); (case zzm => exact kmk_from (.cons _ _ (.cons _ _ (.cons _ _ .nil))) (Int.natCast_nonneg _)); (case zzc => exact List.length_drop ..); (case zzs => with_unfolding_all rfl); (case zzt => kmk_pure); (case zzz => exact Nat.le_of_ble_eq_true rfl)); intro D2 ws2 h2 F2 N2 l2 hI2 hC2 hL2
  repeat ((fail_if_success (with_reducible show wpAny _ _ (binaryOp _ _ _) _ _ _)); (first | walk1 | (dsimp only; walk1)))
  refine kmk_add_ints F2 N2 (News.isList N2 (by k_mem)) (News.isList N2 (by k_mem)) hI1 hI2 ?_ ?z9
  case z9 => rw [sizeLine_eq, List.length_take, List.length_drop]; simp only [List.length_cons, List.length_nil]; omega
  intro D3 ws3 h3 F3 N3 l3 hI3
  have hn3 : ∀ ns : List Int, (List.take 5 ns ++ List.drop ((ns.length : Int)).toNat [0, 3, 63]).length ≤ 5 := by
    intro ns
    rw [List.length_append, List.length_take, List.length_drop]; simp only [List.length_cons, List.length_nil]; omega
  have h99 := News.get N3 (a := 99) (by k_mem)
  clear hC2 hL2 hI1 hI2 l2 l3
  repeat ((fail_if_success (with_reducible show wpAny _ _ (call (Value.ref _) _) _ _ _)); (first | walk1 | (dsimp only; walk1)))
  ((refine' (drawn_spec _ D3 ws3 _ hI3 (hn3 _)) _ _ _ _ _ _ _ _ _ _ _ _ _ _ _ _ _ _ _ _ ?sB ?sF ?sX ?sT ?sK ?sd ?su ?sP ?_); (case sB => k_asm); (case sF => k_asm); (case sX => k_asm); (case sT => k_asm); (case sK => first | exact rfl | assumption); (case sd => ktr_room); (case su => ktr_units); (case sP => exact News.isList N3 (by k_mem)); intro v9 h9 tk9 hk9 R9; (have F9 := Fr.keeps (by k_asm) hk9); (have N9 := News.grown (by k_asm) hk9))
  obtain ⟨D, vs, cs, ep, rfl, hD, hDn, hC, hc1, hc6⟩ := R9
  clear hI3
  have N4 := news_add F3 N3 hk9 hD hDn
  have N5 := news_sub (l' := [(D, W.listOf vs.toArray ep), (99, tabObj #[])]) N4 (List.forall_mem_cons.mpr ⟨by k_mem, List.forall_mem_cons.mpr ⟨by k_mem, List.forall_mem_nil _⟩⟩)
  have hfin : ∀ σ, Bnd (cs.map Cell.code) σ → ∃ n, Fine (cs.map Cell.code) σ n := all_fine (by rw [List.length_map]; exact hc6)
  clear N9 N4 N3 F3
  repeat ((fail_if_success (with_reducible show wpAny _ _ (call (Value.ref _) _) _ _ _)); (first | walk1 | (dsimp only; walk1)))
  rename Fr _ _ _ _ => F6
  rename News _ _ _ _ => N6
  ((refine' (turnings_spec _ D vs cs hC hc6 hfin) _ _ _ _ _ _ _ _ _ _ _ _ _ _ _ _ _ _ _ _ ?sB ?sF ?sX ?sT ?sK ?sd ?su ?sP ?_); (case sB => k_asm); (case sF => k_asm); (case sX => k_asm); (case sT => k_asm); (case sK => first | exact rfl | assumption); (case sd => ktr_room); (case su => ktr_units); (case sP => exact News.isList N6 (by k_mem)); intro v9 h9 tk9 hk9 R9; (have F9 := Fr.keeps (by k_asm) hk9); (have N9 := News.grown (by k_asm) hk9))
  obtain ⟨TT, tvs, os, ep2, rfl, hT, hTn, hTi, hos, hW, hcov⟩ := R9
  have N7 := news_add F6 N6 hk9 hT hTn
  clear N9 N6 F6
  repeat ((fail_if_success (with_reducible show wpAny _ _ (call _ _) _ _ _)); (first | walk1 | (dsimp only; walk1)))
  rename News _ _ _ _ => N8
  have htl : tvs.length = os.length := by rw [ints_len hTi, List.length_map]
  generalize hts : os.map (fun p => sumT (cs.map Cell.code) p.2 p.1) = ts at *
  refine count_list_ints (News.isList N8 (by k_mem)) hTi ?_
  repeat ((fail_if_success (with_reducible show wpAny _ _ (call (Value.builtin "list.count") _) _ _ _)); (first | walk1 | (dsimp only; walk1)))
  rename News _ _ _ _ => N8
  refine count_list_ints (News.isList N8 (by k_mem)) hTi ?_
  repeat ((fail_if_success (with_reducible show wpAny _ _ (call _ _) _ _ _)); (first | walk1 | (dsimp only; walk1)))
  rename Fr _ _ _ _ => F9
  rename News _ _ _ _ => N9
  have hcnt : ts.count 6 + ts.count (-6) = ts.length := by
    rw [← hts]
    exact count_six _ fun x hx => by
      obtain ⟨p, hp, rfl⟩ := List.mem_map.mp hx
      exact (hW.each p hp).2.turn
  have htl2 : tvs.length = ts.length := ints_len hTi
  refine len_list (News.isList N9 (by k_mem)) (by rw [List.size_toArray]; omega) ?_
  rw [show ((tvs.toArray.size : Nat) : Int) = ((ts.count 6 : Nat) : Int) + ((ts.count (-6) : Nat) : Int) by rw [List.size_toArray, htl2, ← hcnt]; rfl]
  repeat ((fail_if_success (with_reducible show wpAny _ _ (call _ _) _ _ _)); (first | walk1 | (dsimp only; walk1)))
  all_goals (first | (exfalso; (rename (_ ≠ _) => hne); exact hne rfl) | skip)
  repeat ((fail_if_success (with_reducible show wpAny _ _ (call (Value.ref _) _) _ _ _)); (first | walk1 | (dsimp only; walk1)))
  ((refine' (parts_spec _ D vs cs hC hc6 hc1) _ _ _ _ _ _ _ _ _ _ _ _ _ _ _ _ _ _ _ _ ?sB ?sF ?sX ?sN ?sT ?sK ?sd ?su ?sP ?_); (case sB => k_asm); (case sF => k_asm); (case sX => k_asm); (case sN => exact news_sub N9 (List.forall_mem_cons.mpr ⟨by k_mem, List.forall_mem_nil _⟩)); (case sT => k_asm); (case sK => first | exact rfl | assumption); (case sd => ktr_room); (case su => ktr_units); (case sP => exact ⟨codeHd.keeps F9.keep, News.isList N9 (by k_mem)⟩); intro v9 h9 tk9 hk9 R9)
  obtain ⟨⟨Cs, tcs, rfl, hCs, hCcov⟩, ps, h99⟩ := R9
  have hleft : ts.count 6 = Cs.length := lefts_are (by rw [List.length_map]; exact hc6) hCs hCcov hW hcov hts
  rw [← hleft]
  dsimp only at hk9
  have F10 := fr_but F9 (fp := [(99, tabObj #[])]) (news_sub N9 (List.forall_mem_cons.mpr ⟨by k_mem, List.forall_mem_nil _⟩)) hk9
  have N10 := news_tab N9 (D := D) (o := W.listOf vs.toArray ep) (o9 := tabObj #[]) (by k_mem) (by k_mem) (fun e => by cases e) hk9 h99
  clear hk9 F9 N9
  repeat ((fail_if_success (with_reducible show wpAny _ _ (exec (Stmt.For _ _ _ _ _) _) _ _ _)); (first | walk1 | (dsimp only; walk1)))
  all_goals (first | (exfalso; (rename (_ ≠ _) => hne); exact hne rfl) | skip)
  repeat ((fail_if_success (with_reducible show wpAny _ _ (exec (Stmt.For _ _ _ _ _) _) _ _ _)); (first | walk1 | (dsimp only; walk1)))
  rename_i SD hx1 led1 hx2 hSE0 lSD hx3 CR hx4 led2 hx5 hSC0 lCR h10 F11 N11
  have hcn := codes_nodup (B := 10) (by decide) hC
  have hsz : vs.toArray.size = cs.length := by rw [List.size_toArray, strs_len hC.txt, List.length_map]
  have hDS : D ≠ SD := Nat.ne_of_lt lSD.1
  have h9S : 99 ≠ SD := Nat.ne_of_lt lSD.2
  have hSC : SD ≠ CR := Nat.ne_of_lt lCR.1
  have hDC : D ≠ CR := Nat.ne_of_lt lCR.2.1
  have h9C : 99 ≠ CR := Nat.ne_of_lt lCR.2.2
  refine for_list (its := vs.toArray) (l := D) (LInv wo D SD CR (W.listOf vs.toArray ep) (tabObj ps) ((ts.count 6 : Nat) : Int) ((ts.count (-6) : Nat) : Int) cs) (by rfl) (by rfl) (by rfl) F11 N11 (News.isList N11 (by k_mem)) (N11 (D, W.listOf vs.toArray ep) (by k_mem)).2.1 ?hj ?hsrc ?turn ?done ?hev
  case hj => exact ⟨_, _, _, _, _, 0, 0, _, _, ovl_eta (List.forall_mem_cons.mpr ⟨rfl, List.forall_mem_cons.mpr ⟨rfl, List.forall_mem_cons.mpr ⟨rfl, List.forall_mem_cons.mpr ⟨rfl, List.forall_mem_cons.mpr ⟨rfl, List.forall_mem_nil _⟩⟩⟩⟩⟩), rfl, hSE0, hSC0, SetsAt.start cs⟩
  case hsrc =>
    rintro i m₁ news₁ h ⟨m', so, co, SE, SC, nE, nC, t1, t2, rfl, rfl, _⟩ F N
    exact News.isList N (by k_mem)
  case hev => exact fun Q' hq => ld F11 rfl hq
  case done =>
    rintro m₁ news₁ h tk ⟨m', so, co, SE, SC, nE, nC, t1, t2, rfl, rfl, hSE, hSCo, hSets⟩ F12 N12
    replace F12 := frAs F11 F12
    replace N12 := newsAs F11 N12
    have hszE := hSets.size (by rw [hsz]; exact hc6) (by decide) (by decide)
    have hll := last_line hcn hW hcov hts
    have hpr : prevC cs vs.toArray.size = (cs.map Cell.code).reverse := by
      unfold prevC
      rw [hsz, List.take_length]
    have hnE := hSets.ne
    have hnC := hSets.nc
    rw [hpr] at hnE hnC
    rw [List.length_map] at hll
    dsimp only
    repeat ((fail_if_success (with_reducible show wpAny _ _ (call (Value.builtin "len") _) _ _ _)); (first | walk1 | (dsimp only; walk1)))
    refine len_sl1 (knd := PySem.strKind PR wo) (own := []) N12 hSCo (by omega) ?_
    repeat ((fail_if_success (with_reducible show wpAny _ _ (call (Value.builtin "len") _) _ _ _)); (first | walk1 | (dsimp only; walk1)))
    refine len_sl1 (knd := PySem.strKind PR wo) (own := [(CR, co)]) N12 hSE (by omega) ?_
    repeat ((fail_if_success (with_reducible show wpAny _ _ (call (Value.builtin "len") _) _ _ _)); (first | walk1 | (dsimp only; walk1)))
    refine len_list (News.isList N12 (by k_mem)) (by rw [hsz]; omega) ?_
    rw [hsz]
    repeat ((fail_if_success (with_reducible show wpAny _ _ (compareOp _ _ _) _ _ _)); (first | walk1 | (dsimp only; walk1)))
    k_steps
  case turn =>
    rintro i v m₁ news₁ h tk I oI hi0 hv ⟨m', so, co, SE, SC, nE, nC, t1, t2, rfl, rfl, hSE, hSCo, hSets⟩ off F12 N12
    simp only [LCg.Off1, and_true] at off
    have hi1 : i < cs.length := by rw [hsz] at hi0; exact hi0
    obtain ⟨tc, rfl⟩ : ∃ t, v = .str (cs[i]).name t := by
      obtain ⟨t, e⟩ := strs_get hC.txt (i := i) (by simpa using hi1)
      refine ⟨t, ?_⟩
      have hv' : vs[i]? = some v := by simpa using hv
      rw [e] at hv'
      simpa using (Option.some.inj hv').symm
    have hci : cs[i]? = some cs[i] := List.getElem?_eq_getElem hi1
    have hgc := hC.gd cs[i] (List.getElem_mem _)
    generalize cs[i] = c at *
    iterate 1 (first | walk1 | (dsimp only; walk1))
    replace F12 := frAs F11 F12
    replace N12 := newsAs F11 N12
    refine for_range (n := 6) (fun d m news => ∃ news', news = (I, oI) :: news' ∧ LRow wo D SD CR (W.listOf vs.toArray ep) (tabObj ps) ((ts.count 6 : Nat) : Int) ((ts.count (-6) : Nat) : Int) cs i c tc d m news') (by rfl) (by rfl) (by rfl) (by decide) F12 N12 ?jj ?rev ?rturn ?rdone
    case jj => exact ⟨_, rfl, _, so, co, SE, SC, nE, nC, t1, t2, ovl_eta (List.forall_mem_cons.mpr ⟨rfl, List.forall_mem_cons.mpr ⟨rfl, List.forall_mem_cons.mpr ⟨rfl, List.forall_mem_cons.mpr ⟨rfl, List.forall_mem_cons.mpr ⟨rfl, List.forall_mem_cons.mpr ⟨rfl, List.forall_mem_nil _⟩⟩⟩⟩⟩⟩), rfl, hSE, hSCo, by simpa [sidesAt, cornersAt] using hSets⟩
    case rev =>
      iterate 6 (first | walk1 | (dsimp only; walk1))
      exact range1_rows F12 N12 fun h' tk t₁ u₁ v₁ hr F' N' _ => ⟨_, h', tk, t₁, u₁, v₁, rfl, rfl, hr, F', N'⟩
    case rdone =>
      rintro m₁ news₁ h3 tk3 ⟨news', rfl, m3, so3, co3, SE3, SC3, nE3, nC3, t13, t23, rfl, rfl, hSE3, hSC3, hSets3⟩ F3 N3
      replace F3 := frAs F11 F3
      replace N3 := newsAs F11 N3
      dsimp only
      k_steps
      exact turn_end (J := LInv wo D SD CR (W.listOf vs.toArray ep) (tabObj ps) ((ts.count 6 : Nat) : Int) ((ts.count (-6) : Nat) : Int) cs (i + 1)) ⟨_, so3, co3, SE3, SC3, nE3, nC3, t13, t23, ovl_eta (List.forall_mem_cons.mpr ⟨rfl, List.forall_mem_cons.mpr ⟨rfl, List.forall_mem_cons.mpr ⟨rfl, List.forall_mem_cons.mpr ⟨rfl, List.forall_mem_cons.mpr ⟨rfl, List.forall_mem_nil _⟩⟩⟩⟩⟩), rfl, hSE3, hSC3, hSets3.row hci⟩ F3 N3 (fun p hp => hp) ⟨off.1, off.2.1, off.2.2.1, off.2.2.2, trivial⟩
    case rturn =>
      rintro d m₁ news₁ h3 tk3 td I2 oI2 hd6 ⟨news', rfl, m3, so3, co3, SE3, SC3, nE3, nC3, t13, t23, rfl, rfl, hSE3, hSC3, hSets3⟩ off2 F3 N3
      simp only [LCg.Off1, and_true] at off2
      replace F3 := frAs F11 F3
      replace N3 := newsAs F11 N3
      have hszE := hSets3.size (by omega) (Nat.le_trans (sidesAt_le _ _ _) (by omega)) (Nat.le_trans (cornersAt_le _ _ _) (by omega))
      have hsb : scanBound = 4096 := rfl
      have hmod : ((d : Nat) : Int).fmod 6 = (d : Int) := by rw [Int.fmod_eq_emod_of_nonneg _ (by decide)]; omega
      have hgn := nb_good hgc (d : Int)
      have hln := name_len hgc (by decide)
      have hln2 := name_len hgn (by decide)
      repeat ((fail_if_success (with_reducible show wpAny _ _ (call _ _) _ _ _)); (first | walk1 | (dsimp only; walk1)))
      ((refine' (plain_cell wo (B := 10) (by decide) c hgc (d : Int) _ _) _ _ _ _ _ _ _ _ _ _ _ _ _ _ _ _ _ _ _ _ ?sB ?sF ?sX ?sT ?sK ?sd ?su ?_); (case sB => k_asm); (case sF => k_asm); (case sX => k_asm); (case sT => k_asm); (case sK => first | exact rfl | assumption); (case sd => ktr_room); (case su => ktr_units); intro v9 h9 tk9 hk9 R9; (have F9 := Fr.keeps (by k_asm) hk9); (have N9 := News.grown (by k_asm) hk9))
      obtain ⟨tb, rfl⟩ := R9
      rw [hmod]
      repeat ((fail_if_success (with_reducible show wpAny _ _ (getMethod (Value.ref _) _ _) _ _ _)); (first | walk1 | (dsimp only; walk1)))
      rename Fr _ _ _ _ => F4
      rename News _ _ _ _ => N4
      refine getMethod_set_add (knd := PySem.strKind PR wo) (hSE3.setOf (News.get N4 (by k_mem)) (by omega)) ?_
      repeat ((fail_if_success (with_reducible show wpAny _ _ (call (Value.builtin "sorted") _) _ _ _)); (first | walk1 | (dsimp only; walk1)))
      rename Fr _ _ _ _ => F5
      rename News _ _ _ _ => N5
      refine sorted_N_str (vs := [.str c.name tc, .str (nb c (d : Int)).name tb]) (ss := [c.name, (nb c (d : Int)).name]) F5 N5 (News.isList N5 (.head _)) (.cons _ _ (.cons _ _ .nil)) (show 2 < 64 by decide) ?_
      intro h6 vs6 ss6 e6x F6 N6 hS6 hp6 hs6
      have hle6 : ∀ x ∈ [c.name, (nb c (d : Int)).name], x.length ≤ 32 := List.forall_mem_cons.mpr ⟨hln, List.forall_mem_cons.mpr ⟨hln2, List.forall_mem_nil _⟩⟩
      replace N6 := news_sub (l' := [(SD, so3), (I2, oI2), (I, oI), (CR, co3), (D, W.listOf vs.toArray ep), (99, tabObj ps), (_, seqObj "list" vs6.toArray e6x)]) N6 (List.forall_mem_cons.mpr ⟨by k_mem, List.forall_mem_cons.mpr ⟨by k_mem, List.forall_mem_cons.mpr ⟨by k_mem, List.forall_mem_cons.mpr ⟨by k_mem, List.forall_mem_cons.mpr ⟨by k_mem, List.forall_mem_cons.mpr ⟨by k_mem, List.forall_mem_cons.mpr ⟨.head _, List.forall_mem_nil _⟩⟩⟩⟩⟩⟩⟩)
      repeat ((fail_if_success (with_reducible show wpAny _ _ (call (Value.builtin "str.join") _) _ _ _)); (first | walk1 | (dsimp only; walk1)))
      refine join_listC (ys := ss6) (News.isList N6 (by k_mem)) hS6 (by decide +kernel) (sp_fits hp6 hle6 (show 2 ≤ 10 by decide)) ?_
      intro tj kj
      replace N6 := news_sub (l' := [(SD, so3), (I2, oI2), (I, oI), (CR, co3), (D, W.listOf vs.toArray ep), (99, tabObj ps)]) N6 (List.forall_mem_cons.mpr ⟨by k_mem, List.forall_mem_cons.mpr ⟨by k_mem, List.forall_mem_cons.mpr ⟨by k_mem, List.forall_mem_cons.mpr ⟨by k_mem, List.forall_mem_cons.mpr ⟨by k_mem, List.forall_mem_cons.mpr ⟨by k_mem, List.forall_mem_nil _⟩⟩⟩⟩⟩⟩)
      have keyE : KeyOf (side2 c d) (Txt.join (Str.ofString " ") ss6) := ⟨ss6, hp6, hs6, rfl⟩
      generalize Txt.join (Str.ofString " ") ss6 = kE at *
      clear F5 N5 hS6 hp6 hs6 hle6
      repeat ((fail_if_success (with_reducible show wpAny _ _ (call (Value.builtin "set.add") _) _ _ _)); (first | walk1 | (dsimp only; walk1)))
      refine add_sl1 (knd := PySem.strKind PR wo) (own := []) F6 N6 (fun _ h => (nomatch h)) (List.forall_mem_cons.mpr ⟨Ne.symm off2.2.2.1, List.forall_mem_cons.mpr ⟨Ne.symm off.2.1, List.forall_mem_cons.mpr ⟨Ne.symm hSC, List.forall_mem_cons.mpr ⟨hDS, List.forall_mem_cons.mpr ⟨h9S, List.forall_mem_nil _⟩⟩⟩⟩⟩) hSE3 (by omega) (strKind_is _ _ _ _) rfl ?_
      intro h8 so8 F8 N8 hSE8
      rw [List.nil_append] at N8
      clear F6 N6
      repeat ((fail_if_success (with_reducible show wpAny _ _ (getMethod (Value.ref _) _ _) _ _ _)); (first | walk1 | (dsimp only; walk1)))
      refine getMethod_set_add (knd := PySem.strKind PR wo) (hSC3.setOf (News.get N8 (by k_mem)) (by omega)) ?_
      repeat ((fail_if_success (with_reducible show wpAny _ _ (call (Value.ref _) _) _ _ _)); (first | walk1 | (dsimp only; walk1)))
      ((refine' (plain_cell wo (B := 10) (by decide) c hgc ((d : Int) + 1) _ _) _ _ _ _ _ _ _ _ _ _ _ _ _ _ _ _ _ _ _ _ ?sB ?sF ?sX ?sT ?sK ?sd ?su ?_); (case sB => k_asm); (case sF => k_asm); (case sX => k_asm); (case sT => k_asm); (case sK => first | exact rfl | assumption); (case sd => ktr_room); (case su => ktr_units); intro v9 h9 tk9 hk9 R9; (have F9 := Fr.keeps (by k_asm) hk9); (have N9 := News.grown (by k_asm) hk9))
      obtain ⟨tb2, rfl⟩ := R9
      rw [show ((d : Int) + 1).fmod 6 = (((d + 1) % 6 : Nat) : Int) by rw [Int.fmod_eq_emod_of_nonneg _ (by decide)]; omega]
      have hgn3 := nb_good hgc (((d + 1) % 6 : Nat) : Int)
      have hln3 := name_len hgn3 (by decide)
      repeat ((fail_if_success (with_reducible show wpAny _ _ (call (Value.builtin "sorted") _) _ _ _)); (first | walk1 | (dsimp only; walk1)))
      rename Fr _ _ _ _ => F5
      rename News _ _ _ _ => N5
      refine sorted_N_str (vs := [.str c.name tc, .str (nb c (d : Int)).name tb, .str (nb c (((d + 1) % 6 : Nat) : Int)).name tb2]) (ss := [c.name, (nb c (d : Int)).name, (nb c (((d + 1) % 6 : Nat) : Int)).name]) F5 N5 (News.isList N5 (.head _)) (.cons _ _ (.cons _ _ (.cons _ _ .nil))) (show 3 < 64 by decide) ?_
      intro h6 vs6 ss6 e6x F6 N6 hS6 hp6 hs6
      have hle6 : ∀ x ∈ [c.name, (nb c (d : Int)).name, (nb c (((d + 1) % 6 : Nat) : Int)).name], x.length ≤ 32 := List.forall_mem_cons.mpr ⟨hln, List.forall_mem_cons.mpr ⟨hln2, List.forall_mem_cons.mpr ⟨hln3, List.forall_mem_nil _⟩⟩⟩
      replace N6 := news_sub (l' := [(CR, co3), (SD, so8), (I2, oI2), (I, oI), (D, W.listOf vs.toArray ep), (99, tabObj ps), (_, seqObj "list" vs6.toArray e6x)]) N6 (List.forall_mem_cons.mpr ⟨by k_mem, List.forall_mem_cons.mpr ⟨by k_mem, List.forall_mem_cons.mpr ⟨by k_mem, List.forall_mem_cons.mpr ⟨by k_mem, List.forall_mem_cons.mpr ⟨by k_mem, List.forall_mem_cons.mpr ⟨by k_mem, List.forall_mem_cons.mpr ⟨.head _, List.forall_mem_nil _⟩⟩⟩⟩⟩⟩⟩)
      repeat ((fail_if_success (with_reducible show wpAny _ _ (call (Value.builtin "str.join") _) _ _ _)); (first | walk1 | (dsimp only; walk1)))
      refine join_listC (ys := ss6) (News.isList N6 (by k_mem)) hS6 (by decide +kernel) (sp_fits hp6 hle6 (show 3 ≤ 10 by decide)) ?_
      intro tj2 kj2
      replace N6 := news_sub (l' := [(CR, co3), (SD, so8), (I2, oI2), (I, oI), (D, W.listOf vs.toArray ep), (99, tabObj ps)]) N6 (List.forall_mem_cons.mpr ⟨by k_mem, List.forall_mem_cons.mpr ⟨by k_mem, List.forall_mem_cons.mpr ⟨by k_mem, List.forall_mem_cons.mpr ⟨by k_mem, List.forall_mem_cons.mpr ⟨by k_mem, List.forall_mem_cons.mpr ⟨by k_mem, List.forall_mem_nil _⟩⟩⟩⟩⟩⟩)
      have keyC : KeyOf (corn3 c d) (Txt.join (Str.ofString " ") ss6) := ⟨ss6, hp6, hs6, rfl⟩
      generalize Txt.join (Str.ofString " ") ss6 = kC at *
      clear F5 N5 hS6 hp6 hs6 hle6
      repeat ((fail_if_success (with_reducible show wpAny _ _ (call (Value.builtin "set.add") _) _ _ _)); (first | walk1 | (dsimp only; walk1)))
      refine add_sl1 (knd := PySem.strKind PR wo) (own := []) F6 N6 (fun _ h => (nomatch h)) (List.forall_mem_cons.mpr ⟨hSC, List.forall_mem_cons.mpr ⟨Ne.symm off2.2.1, List.forall_mem_cons.mpr ⟨Ne.symm off.1, List.forall_mem_cons.mpr ⟨hDC, List.forall_mem_cons.mpr ⟨h9C, List.forall_mem_nil _⟩⟩⟩⟩⟩) hSC3 (by omega) (strKind_is _ _ _ _) rfl ?_
      intro h9 co9 F9 N9 hSC9
      rw [List.nil_append] at N9
      clear F6 N6
      k_steps
      exact turn_end (J := fun m news => ∃ news', news = (I, oI) :: news' ∧ LRow wo D SD CR (W.listOf vs.toArray ep) (tabObj ps) ((ts.count 6 : Nat) : Int) ((ts.count (-6) : Nat) : Int) cs i c tc (d + 1) m news') ⟨_, rfl, _, so8, co9, _, _, _, _, t13, t23, ovl_eta (List.forall_mem_cons.mpr ⟨rfl, List.forall_mem_cons.mpr ⟨rfl, List.forall_mem_cons.mpr ⟨rfl, List.forall_mem_cons.mpr ⟨rfl, List.forall_mem_cons.mpr ⟨rfl, List.forall_mem_cons.mpr ⟨rfl, List.forall_mem_nil _⟩⟩⟩⟩⟩⟩), rfl, hSE8, hSC9, hSets3.step hC.gd hcn hd6 hci keyE keyC⟩ F9 N9
        (List.forall_mem_cons.mpr ⟨by k_mem, List.forall_mem_cons.mpr ⟨by k_mem, List.forall_mem_cons.mpr ⟨by k_mem, List.forall_mem_cons.mpr ⟨by k_mem, List.forall_mem_cons.mpr ⟨by k_mem, List.forall_mem_cons.mpr ⟨by k_mem, List.forall_mem_nil _⟩⟩⟩⟩⟩⟩) ⟨off2.1, off2.2.1, off2.2.2.1, off2.2.2.2.1, off2.2.2.2.2, trivial⟩)
end Mine
end

theorem PySem.Challenge.cw_pg0074_01_holds : PySem.Challenge.rw_pg0074_01.Holds := by
  exact Mine.lawT
