import PyProof.Rows.All
import Wide.All
import OpenK.AllK
import Wide.FinOn
import PySem.Challenge.RW_fc0001_01
set_option Elab.async false
set_option rowWalk.seconds 0
set_option linter.unusedVariables false

section
open PySem PySem.W PyProof.Rows
set_option Elab.async false
set_option maxRecDepth 100000
set_option maxHeartbeats 8000000
open_top Mine.hd for PySem.Challenge.rw_fc0001_01
end

section
theorem Mine.rst_B1 {prog : PySem.Program} {w : PySem.World} {A : PySem.Around} {Q : PySem.Flow → PySem.Shared → Prop} {E : PySem.Value → PySem.Shared → Prop} {s : PySem.Shared} {env : PySem.Env} {pos : PySem.Pos} : True ∨ PySem.wpAny (PySem.model prog w) A (PySem.exec (PySem.Stmt.Pass pos) env) Q E s := by
  w_on
  w_top off
  first | (right; walk1; fail) | exact .inl trivial
open PySem PySem.W PyProof.Rows PyProof.V
set_option Elab.async false
namespace Mine
local macro_rules | `(tactic| k_room) => `(tactic| ktr_room)
local macro_rules | `(tactic| k_units) => `(tactic| ktr_units)
local macro_rules | `(tactic| k_enter) => `(tactic| first
  | (refine' code_def ?k1 ?k2 ?k3 ?k4 ?k5 ?kA ?kF ?kK ?k6 ?k7 ?k8 ?k9 ?kB ?_ ?c2 ?c3 ?c4 ?c5; (case kA => exact rfl); (case kF => exact rfl); (case kK => first | exact rfl | assumption); (case k1 => k_asm); (case k2 => k_asm); (case k3 => k_asm); (case k4 => k_asm); (case k5 => k_asm); (case k6 => k_is); (case k7 => k_is); (case k8 => k_room); (case k9 => first | exact BindsTo.of_eq rfl | exact binds_K (by k_in) rfl (by k_is) rfl rfl rfl | fail "k_enter: no rule for these arguments"); (case c5 => decide); (case kB => exact locs rfl); (case c2 => exact rfl); (case c3 => exact rfl); (case c4 => exact rfl); k_whole; intro g' L' h' FG' F' N' B' X' T'; (try dsimp only); (try k_lift B'); (try k_fold))
  | (refine' code_defC ?k1 ?k2 ?k3 ?k4 ?k5 ?kA ?kF ?kK ?k6 ?k7 ?k8 ?k9 ?kB ?kD ?_ ?c2 ?c3 ?c4; (case kA => exact rfl); (case kF => exact rfl); (case kK => first | exact rfl | assumption); (case k1 => k_asm); (case k2 => k_asm); (case k3 => k_asm); (case k4 => k_asm); (case k5 => k_asm); (case k6 => k_is); (case k7 => k_is); (case k8 => k_room); (case k9 => first | exact BindsTo.of_eq rfl | exact binds_K (by k_in) rfl (by k_is) rfl rfl rfl | fail "k_enter: no rule for these arguments"); (case kB => exact rfl); (case kD => decide +kernel); (case c2 => exact rfl); (case c3 => exact rfl); (case c4 => exact rfl); k_whole; intro g' L' h' tk' cells' FG' F' N' Y' B' X' T' l1; (try k_lt l1); k_cells Y'; (try simp only [List.cons_append, List.nil_append] at N'); (try dsimp only); (try k_lift B'); (try k_fold)))
abbrev CC (w : World) (p : Program) (loose : List Str) (mean : ExcName → Option Value) (mg mb : Str → Option Value) (f : Addr) (news : List (Addr × Obj)) (dep uni : Nat) (vs : List Value)
   (Ret : (Value → Shared → Prop) → (Value → Shared → Prop) → Heap → Addr → (Str → Option Value) → Shared → Prop) : Prop :=
  ∀ (dp un : Nat) (gd : Option (List Code)) (cn : Str) (cs : Scope) (a : Addr) (ccd : Value) (cl : List (Str × Addr)) (outer : List Env) (A₀ : Around) (base h₀ : Heap) (L : Addr) (m : Str → Option Value) (s : Shared) (Q E : Value → Shared → Prop),
    Below A₀ base outer h₀ → Fr h₀ L s.heap m → (Mine.hd.heap_39 w.params).In h₀ → News h₀ L s.heap news → Top p loose mean mg mb h₀ → cs.kind = .function →
    dp + dep < recursionLimit → un + uni < cLine → Ret Q E h₀ L m s →
      wpAny (model PySem.Challenge.rw_fc0001_01.row.prog w) (ktrTop dp un gd cn cs L a ccd cl outer) (call (.ref f) vs) Q E s
def octs (count seed : Int) : Array UInt8 := byteArr (List.map (fun k' => (seed + 29 * k').fmod 256) (rangeKs 0 count.toNat))
def entryB (kind : Int) (v : Array UInt8) : Array UInt8 := byteArr [kind, (v.size : Int).fdiv 256, (v.size : Int).fmod 256] ++ v
abbrev namesD : List (PyData × PyData) := [(.int 1, .str (Str.ofString "ALPN")), (.int 2, .str (Str.ofString "AUTHORITY")), (.int 3, .str (Str.ofString "CRC32C")), (.int 4, .str (Str.ofString "NOOP")), (.int 5, .str (Str.ofString "UNIQUE_ID")), (.int 32, .str (Str.ofString "SSL")), (.int 33, .str (Str.ofString "SSL_VERSION")), (.int 34, .str (Str.ofString "SSL_CN")), (.int 35, .str (Str.ofString "SSL_CIPHER")), (.int 36, .str (Str.ofString "SSL_SIG_ALG")), (.int 37, .str (Str.ofString "SSL_KEY_ALG")), (.int 48, .str (Str.ofString "NETNS"))]
def hexN (k : Int) : Str := Str.ofString "x" ++ Txt.item (Str.ofString "0123456789ABCDEF") (k.fdiv 16) ++ Txt.item (Str.ofString "0123456789ABCDEF") (k.fmod 16)
def nm (k : Int) : Str := if k = 1 then Str.ofString "ALPN" else if k = 2 then Str.ofString "AUTHORITY" else if k = 3 then Str.ofString "CRC32C" else if k = 4 then Str.ofString "NOOP" else if k = 5 then Str.ofString "UNIQUE_ID" else if k = 32 then Str.ofString "SSL"
  else if k = 33 then Str.ofString "SSL_VERSION" else if k = 34 then Str.ofString "SSL_CN" else if k = 35 then Str.ofString "SSL_CIPHER" else if k = 36 then Str.ofString "SSL_SIG_ALG" else if k = 37 then Str.ofString "SSL_KEY_ALG" else if k = 48 then Str.ofString "NETNS" else hexN k
theorem fdivN (n : Nat) (k : Int) (hk : 0 ≤ k) : (n : Int).fdiv k = n / k := Int.fdiv_eq_ediv_of_nonneg _ hk
theorem fmodN (n : Nat) (k : Int) (hk : 0 ≤ k) : (n : Int).fmod k = n % k := Int.fmod_eq_emod_of_nonneg _ hk
def known (k : Int) : Bool := decide (k = 1 ∨ k = 2 ∨ k = 3 ∨ k = 4 ∨ k = 5 ∨ k = 32 ∨ k = 33 ∨ k = 34 ∨ k = 35 ∨ k = 36 ∨ k = 37 ∨ k = 48)
theorem names_lookup (k : Int) : PySem.Spec.lookup (.int k) namesD = if known k then some (.str (nm k)) else none := by
  cases h : known k with
  | true =>
    have h' := h
    simp only [known, decide_eq_true_eq] at h'
    rcases h' with rfl | rfl | rfl | rfl | rfl | rfl | rfl | rfl | rfl | rfl | rfl | rfl <;> rfl
  | false =>
    simp only [known, decide_eq_false_iff_not, not_or] at h
    simp only [PySem.Spec.lookup, PyProof.V.same_int, decide_eq_true_eq]
    repeat rw [if_neg (by omega)]
    rfl
theorem nm_hex {k : Int} (h : known k = false) : nm k = hexN k := by
  unfold known at h
  simp only [decide_eq_false_iff_not, not_or] at h
  unfold nm
  simp only [h.1, h.2, if_false]
section
variable {w : World} {A : Around} {E : Value → Shared → Prop} {s : Shared} {d : Addr} {k : Int} {t : Tok} {Q : Value → Shared → Prop}
theorem in_names {prog : Program} (T : IntTab prog w s.heap d namesD) (h : Q (.bool (known k)) { s with toks := s.toks + 1 }) : wpAny (model prog w) A (compareOp .In (.int k t) (.ref d)) Q E s := by
  refine in_intTab T ?_
  rw [names_lookup]
  cases hk : known k <;> simpa [hk] using h
theorem notin_names {prog : Program} (T : IntTab prog w s.heap d namesD) (h : Q (.bool (!known k)) { s with toks := s.toks + 1 }) : wpAny (model prog w) A (compareOp .NotIn (.int k t) (.ref d)) Q E s := by
  refine notin_intTab T ?_
  rw [names_lookup]
  cases hk : known k <;> simpa [hk] using h
theorem item_names {prog : Program} (T : IntTab prog w s.heap d namesD) (hk : known k = true) (h : ∀ t', Q (.str (nm k) t') { s with toks := s.toks + 1 }) : wpAny (model prog w) A (getItem (.ref d) (.int k t)) Q E s := by
  refine getItem_tab PyProof.V.same_int (intKind_is _ _ _ _) T (by rw [names_lookup, hk]; rfl) fun v hv => ?_
  obtain ⟨t', rfl⟩ := Flat.str_inv hv
  exact h t'
end
local macro_rules | `(tactic| walk_at "compareOp In int ref") => `(tactic| (k_here; k_dflt (refine in_names (by k_tabat) ?_)))
local macro_rules | `(tactic| walk_at "compareOp NotIn int ref") => `(tactic| (k_here; k_dflt (refine notin_names (by k_tabat) ?_)))
local macro_rules | `(tactic| walk_at "getItem ref int") => `(tactic| (k_here; k_dflt (refine item_names (by k_tabat) (by assumption) ?_); intro _))
section
variable {w : World} {p : Program} {loose : List Str} {mean : ExcName → Option Value} {mg mb : Str → Option Value} (news : List (Addr × Obj))

set_option maxRecDepth 100000 in
set_option maxHeartbeats 8000000 in
theorem c_octets (count seed : Int) (tc ts : Tok) (h0 : 0 ≤ count) (h1 : count ≤ 100) :
    CC w p loose mean mg mb 128 news 5 30 [.int count tc, .int seed ts]
      (fun Q _ h₀ L m s => ∀ (t : Tok) (h' : Heap) (tk' : Nat), Fr h₀ L h' m → News h₀ L h' news → Q (.bytes (octs count seed) t) { s with heap := h', toks := tk' }) := by
  dsimp only [CC]
  k_fill
  intro dp un gd cn cs a ccd cl outer A₀ base h₀ L m s Q E B F X N T hk hd hu hret
  refine wpAny_call ?_
  k_dflt k_enter
  k_steps
  all_goals (try rw [Int.sub_zero])
  all_goals exact hret _ _ _ (by assumption) (cb_drop (by assumption) (by kcj_all))

set_option maxRecDepth 100000 in
set_option maxHeartbeats 8000000 in
theorem c_entry (kind : Int) (v : Array UInt8) (tc ts : Tok) (h0 : 0 ≤ kind) (h1 : kind ≤ 255) (hv : v.size < 65536) :
    CC w p loose mean mg mb 135 news 5 30 [.int kind tc, .bytes v ts]
      (fun Q _ h₀ L m s => ∀ (t : Tok) (h' : Heap) (tk' : Nat), Fr h₀ L h' m → News h₀ L h' news → Q (.bytes (entryB kind v) t) { s with heap := h', toks := tk' }) := by
  dsimp only [CC]
  k_fill
  intro dp un gd cn cs a ccd cl outer A₀ base h₀ L m s Q E B F X N T hk hd hu hret
  have e1 := fdivN v.size 256 (by decide)
  have e2 := fmodN v.size 256 (by decide)
  refine wpAny_call ?_
  k_dflt k_enter
  k_steps
  all_goals refine KBy.add_bytes (by show (3 : Nat) + v.size ≤ _; omega) fun t' k => ?_
  k_steps
  all_goals exact hret _ _ _ (by assumption) (cb_drop (by assumption) (by kcj_all))

set_option maxRecDepth 100000 in
set_option maxHeartbeats 8000000 in
theorem c_names  :
    CC w p loose mean mg mb 116 news 5 30 []
      (fun Q _ h₀ L m s => ∀ (d : Addr) (o : Obj) (kvs : List (Int × Value)) (h' : Heap) (tk' : Nat), Fr h₀ L h' m → News h₀ L h' ((d, o) :: news) → (∀ p ∈ news, p.1 < d) → (d == sysModules) = false → o.IsDictOf (intKind PySem.Challenge.rw_fc0001_01.row.prog w) kvs → FlatPairs PyData.int kvs namesD → Q (.ref d) { s with heap := h', toks := tk' }) := by
  dsimp only [CC]
  k_fill
  intro dp un gd cn cs a ccd cl outer A₀ base h₀ L m s Q E B F X N T hk hd hu hret
  refine wpAny_call ?_
  k_dflt k_enter
  k_steps
  all_goals exact hret _ _ _ _ _ (by assumption) (by assumption) (by assumption) (by assumption) (by assumption) (by assumption)

local macro_rules | `(tactic| walk_at "call ref") => `(tactic| (k_here; (with_reducible show wpAny _ _ (call (Value.ref 116) _) _ _ _); k_dflt (refine' c_names _  _ _ _ _ _ _ _ _ _ _ _ _ _ _ _ _ _ ?k1 ?k2 ?k3 ?k4 ?k5 ?kK ?kd ?ku ?_; (case k1 => k_asm); (case k2 => k_asm); (case k3 => k_asm); (case k4 => k_asm); (case k5 => k_asm); (case kK => first | exact rfl | assumption);  (case kd => ktr_room); (case ku => ktr_units); k_whole); intro d' o' kvs' h' tk' F' N' l1 lo' hd' hf'; (try k_lt l1)))

set_option maxRecDepth 100000 in
set_option maxHeartbeats 8000000 in
theorem c_name (k : Int) (t : Tok) (h0 : 0 ≤ k) (h1 : k < 256) :
    CC w p loose mean mg mb 123 news 10 60 [.int k t]
      (fun Q _ h₀ L m s => ∀ (t : Tok) (h' : Heap) (tk' : Nat), Fr h₀ L h' m → News h₀ L h' news → Q (.str (nm k) t) { s with heap := h', toks := tk' }) := by
  dsimp only [CC]
  k_fill
  intro dp un gd cn cs a ccd cl outer A₀ base h₀ L m s Q E B F X N T hk hd hu hret
  refine wpAny_call ?_
  k_dflt k_enter
  k_steps
  · exact hret _ _ _ (by assumption) (cb_drop (by assumption) (by kcj_all))
  · have e := nm_hex (k := k) (by assumption)
    unfold hexN at e
    rw [← e]
    exact hret _ _ _ (by assumption) (cb_drop (by assumption) (by kcj_all))
end
end Mine
end

section
theorem Mine.rst_L0 {prog : PySem.Program} {w : PySem.World} {A : PySem.Around} {Q : PySem.Flow → PySem.Shared → Prop} {E : PySem.Value → PySem.Shared → Prop} {s : PySem.Shared} {env : PySem.Env} {pos : PySem.Pos} : True ∨ PySem.wpAny (PySem.model prog w) A (PySem.exec (PySem.Stmt.Pass pos) env) Q E s := by
  w_on
  w_top off
  first | (right; walk1; fail) | exact .inl trivial
open PySem PySem.W PyProof.Rows PyProof.V PySem.Calls
set_option Elab.async false
namespace Mine
/-- a goal that the walk does not enter -/
def Hold (P : Prop) : Prop := P
theorem Hold.intro {P : Prop} (h : P) : Hold P := h

section
variable {prog : Program} {w : World} {A : Around} {E : Value → Shared → Prop} {s : Shared} {env : Env} {h₀ : Heap} {target : Expr} {body : List Stmt} {Q : Flow → Shared → Prop}

theorem For_hold {iter : Expr} {pos : Pos} {m : Str → Option Value} (F : Fr h₀ env.locals s.heap m)
    (h : wpAny (model prog w) A (eval iter env) (fun xv s₁ => Hold (wpAny (model prog w) A (pyIter xv) (fun it s₂ => TurnsAt prog w A h₀ env target body Q E it s₂) E s₁)) E s)
    (hs : ∀ x, foldedSetIterable iter env x = pure x := by intro _; rfl)
    (hE : PassesOwn (model prog w) A env E := by passes_own) :
    wpAny (model prog w) A (exec (.For target iter body [] pos) env) Q E s := For_turns F h hs hE

def TEnd (h₀ : Heap) (L : Addr) (J : (Str → Option Value) → List (Addr × Obj) → Prop) (I : Addr) (oI : Obj) (s₁ : Shared) (Q : Flow → Shared → Prop) (f : Flow) (s₂ : Shared) : Prop :=
  match f with
  | .ret v => Q (.ret v) s₂
  | .brk => Q .next s₂
  | _ => ∃ h' tk m' news' nx, s₂ = { s₁ with heap := h', toks := tk } ∧ Fr h₀ L h' m' ∧ News h₀ L h' news' ∧ (I, oI) ∈ news' ∧ (∀ p ∈ nx, p ∈ news') ∧ (∀ p ∈ nx, p.1 ≠ I) ∧ J m' nx

theorem turnsG {I : Addr} {keep : List (Addr × Obj)} {fp : List Addr} {n : Nat} {P Md : Nat → Value → Heap → Prop} {St : Nat → Heap → Prop} {m₀ : Str → Option Value} {news : List (Addr × Obj)}
    (KT : KTurns prog w A target I fp [I] n P Md St) (hfp : ∀ b ∈ fp, b = I ∨ ∃ o, (b, o) ∈ keep) (hIn : ∀ i h, St i h → ∃ o, h.get? I = some o) (hIf : I ∈ fp)
    (hI0 : h₀.get? I = none) (hLf : env.locals ∉ fp) (hIn' : ∀ p ∈ news, p.1 ≠ I) (hst : St 0 s.heap)
    (F : Fr h₀ env.locals s.heap m₀) (N : News h₀ env.locals s.heap news) (J : Nat → (Str → Option Value) → List (Addr × Obj) → Prop) (hj : J 0 m₀ news)
    (hk : ∀ i m nx, J i m nx → ∀ q ∈ keep, q ∈ nx)
    (turn : ∀ i v m₁ nx h tk oI, i < n → P i v h → J i m₁ nx → (∀ p ∈ nx, p.1 ≠ I) → Fr h₀ env.locals h m₁ → News h₀ env.locals h ((I, oI) :: nx) →
      wpAny (model prog w) A (assign target env v) (fun _ s₃ => wpAny (model prog w) A (execs body env) (TEnd h₀ env.locals (J (i + 1)) I oI { s with heap := h, toks := tk } Q) E s₃) E { s with heap := h, toks := tk })
    (done : ∀ m₁ nx h tk, J n m₁ nx → Fr h₀ env.locals h m₁ → News h₀ env.locals h nx → Q .next { s with heap := h, toks := tk }) :
    TurnsAt prog w A h₀ env target body Q E (.ref I) s := by
  refine ⟨I, fp, [I], n, P, Md, St, m₀, news, J, rfl, KT, hLf, ?_, ?_, hst, F, N, hj, ?_, ?_⟩
  · intro b hb; rw [List.mem_singleton.mp hb]; exact hI0
  · intro p hp hb; exact hIn' p hp (List.mem_singleton.mp hb)
  · intro i v m₁ news₁ h₁ tk₁ own hi hP hJ hoff hown hget hfpo hst₁ F₁ N₁
    obtain ⟨oI, hoI⟩ := hIn _ _ hst₁
    have hIown : (I, oI) ∈ own := hfpo I hIf hI0 oI hoI
    have N₂ : News h₀ env.locals h₁ ((I, oI) :: news₁) := by
      intro p hp
      rcases List.mem_cons.mp hp with rfl | hp
      · exact N₁ _ (List.mem_append.mpr (.inl hIown))
      · exact N₁ _ (List.mem_append.mpr (.inr hp))
    refine wpAny_mono (turn i v m₁ news₁ h₁ tk₁ oI hi hP hJ (fun p hp e => hoff p hp (List.mem_singleton.mpr e)) F₁ N₂) (fun _ s₃ h₃ => wpAny_mono h₃ (fun f s₂ p => ?_) fun _ _ e => e) fun _ _ e => e
    have fin : (∃ h' tk m' news' nx, s₂ = { s with heap := h', toks := tk } ∧ Fr h₀ env.locals h' m' ∧ News h₀ env.locals h' news' ∧ (I, oI) ∈ news' ∧ (∀ p ∈ nx, p ∈ news') ∧ (∀ p ∈ nx, p.1 ≠ I) ∧ J (i + 1) m' nx) →
        LoopStepU h₀ env.locals [I] own (J (i + 1)) { s with heap := h₁, toks := tk₁ } .next s₂ := by
      rintro ⟨h', tk, m', news', nx, e, F', N', hI', hn', ho', hJ'⟩
      refine ⟨rfl, h', tk, m', nx, e, F', ?_, fun p hp hb => ho' p hp (List.mem_singleton.mp hb), hJ'⟩
      intro p hp
      rcases List.mem_append.mp hp with hp | hp
      · rcases hfp _ (hown p hp) with e | ⟨o, ho⟩
        · have : p = (I, oI) := by
            have h1 := hget p hp
            rw [e, hoI] at h1
            exact Prod.ext e (Option.some.inj h1).symm
          rw [this]; exact N' _ hI'
        · have h1 := hget p hp
          have h2 := (N₁ _ (List.mem_append.mpr (.inr (hk _ _ _ hJ _ ho)))).1
          have h2' : h₁.get? p.1 = some o := h2
          rw [h1] at h2'
          have : p = (p.1, o) := Prod.ext rfl (Option.some.inj h2')
          rw [this]
          exact N' _ (hn' _ (hk _ _ _ hJ' _ ho))
      · exact N' _ (hn' _ hp)
    cases f with
    | ret v => exact p
    | brk => exact p
    | next => exact fin p
    | cont => exact fin p
  · intro h' tk m' news' F' N' _ hJ
    exact done m' news' h' tk hJ F' N'

theorem turns_list {l : Addr} {vs : List Value} {nn : Nat} {m₀ : Str → Option Value} {news : List (Addr × Obj)}
    (hh : A.handled = none) (hl : (l, listOf vs.toArray nn) ∈ news) (F : Fr h₀ env.locals s.heap m₀) (N : News h₀ env.locals s.heap news) (J : Nat → (Str → Option Value) → List (Addr × Obj) → Prop) (hj : J 0 m₀ news)
    (hk : ∀ i m nx, J i m nx → (l, listOf vs.toArray nn) ∈ nx)
    (turn : ∀ i v m₁ nx h tk I oI, vs[i]? = some v → J i m₁ nx → (∀ p ∈ nx, p.1 ≠ I) → Fr h₀ env.locals h m₁ → News h₀ env.locals h ((I, oI) :: nx) →
      wpAny (model prog w) A (assign target env v) (fun _ s₃ => wpAny (model prog w) A (execs body env) (TEnd h₀ env.locals (J (i + 1)) I oI { s with heap := h, toks := tk } Q) E s₃) E { s with heap := h, toks := tk })
    (done : ∀ m₁ nx h tk, J vs.length m₁ nx → Fr h₀ env.locals h m₁ → News h₀ env.locals h nx → Q .next { s with heap := h, toks := tk }) :
    wpAny (model prog w) A (pyIter (.ref l)) (fun it s₂ => TurnsAt prog w A h₀ env target body Q E it s₂) E s := by
  have hax := N _ hl
  have hls : s.heap.IsList l vs.toArray := ⟨_, hax.1, rfl, nn, rfl⟩
  have hlt : l < s.heap.objs.size := Heap.lt_size hax.1
  have hne : l ≠ s.heap.objs.size := Nat.ne_of_lt hlt
  refine wpAny_pyIter_list hls ?_
  refine turnsG (s := { s with heap := _ }) (I := s.heap.objs.size) (keep := [(l, listOf vs.toArray nn)]) (KTurns.ofWalks (Walks.list hh s.heap.objs.size l hne vs.toArray) fun i v s Q E st q => letGo_listiter st.1 q) ?_ ?_ (by simp) (next_is_new F) ?_ ?_ ?_ (F.push _) (fun p hp => ⟨Heap.get?_push_of_some _ (N p hp).1, (N p hp).2⟩) J hj (fun i m nx h q hq => by rw [List.mem_singleton.mp hq]; exact hk i m nx h) ?_ ?_
  · intro b hb
    have hb' : b = s.heap.objs.size ∨ b = l := by simpa using hb
    rcases hb' with e | e
    · exact .inl e
    · exact .inr ⟨listOf vs.toArray nn, by simp [e]⟩
  · rintro i h ⟨⟨o, ho, _⟩, _⟩; exact ⟨o, ho⟩
  · intro hI
    have hb' : env.locals = s.heap.objs.size ∨ env.locals = l := by simpa using hI
    rcases hb' with e | e
    · exact absurd F.ns.lt (e ▸ Nat.lt_irrefl _)
    · exact hax.2.1 e.symm
  · intro p hp hI
    exact absurd (Heap.lt_size (N p hp).1) (hI ▸ Nat.lt_irrefl _)
  · exact ⟨⟨_, Heap.get?_push_size _ rfl, rfl, rfl⟩, hls.at fun o e => Heap.get?_push_of_some _ e⟩
  · intro i v m₁ nx h tk oI hi hP hJ hoff F₁ N₁
    exact turn i v m₁ nx h tk _ oI (by have h1 : vs.toArray[i]? = some v := hP; simpa using h1) hJ hoff F₁ N₁
  · intro m₁ nx h tk hJ F₁ N₁
    exact done m₁ nx h tk (by simpa using hJ) F₁ N₁

theorem turns_keys {K : Type} [DecidableEq K] {knd : KeyKind prog w K} {d : Addr} {od : Obj} {kvs : List (K × Value)} {m₀ : Str → Option Value} {news : List (Addr × Obj)}
    (hh : A.handled = none) (hm : (d, od) ∈ news) (hd : od.IsDictOf knd kvs) (lo : (d == sysModules) = false) (F : Fr h₀ env.locals s.heap m₀) (N : News h₀ env.locals s.heap news) (J : Nat → (Str → Option Value) → List (Addr × Obj) → Prop) (hj : J 0 m₀ news)
    (hk : ∀ i m nx, J i m nx → (d, od) ∈ nx)
    (turn : ∀ i k x v m₁ nx h tk I oI, kvs[i]? = some (k, x) → knd.is k v = true → J i m₁ nx → (∀ p ∈ nx, p.1 ≠ I) → Fr h₀ env.locals h m₁ → News h₀ env.locals h ((I, oI) :: nx) →
      wpAny (model prog w) A (assign target env v) (fun _ s₃ => wpAny (model prog w) A (execs body env) (TEnd h₀ env.locals (J (i + 1)) I oI { s with heap := h, toks := tk } Q) E s₃) E { s with heap := h, toks := tk })
    (done : ∀ m₁ nx h tk, J kvs.length m₁ nx → Fr h₀ env.locals h m₁ → News h₀ env.locals h nx → Q .next { s with heap := h, toks := tk }) :
    wpAny (model prog w) A (pyIter (.ref d)) (fun it s₂ => TurnsAt prog w A h₀ env target body Q E it s₂) E s := by
  have hax := N _ hm
  obtain ⟨ep, hat⟩ := (kda_dict N hm hd).dictAt
  have hlt : d < s.heap.objs.size := Heap.lt_size hax.1
  have hne : d ≠ s.heap.objs.size := Nat.ne_of_lt hlt
  refine wpAny_pyIter_dict lo hat ?_
  refine turnsG (s := { s with heap := _ }) (I := s.heap.objs.size) (keep := [(d, od)]) (KTurns.ofWalks (Walks.dictKeys (knd := knd) hh s.heap.objs.size d hne kvs ep) fun i v s Q E st q => letGo_keyiter st.1 q) ?_ ?_ (by simp) (next_is_new F) ?_ ?_ ?_ (F.push _) (fun p hp => ⟨Heap.get?_push_of_some _ (N p hp).1, (N p hp).2⟩) J hj (fun i m nx h q hq => by rw [List.mem_singleton.mp hq]; exact hk i m nx h) ?_ ?_
  · intro b hb
    have hb' : b = s.heap.objs.size ∨ b = d := by simpa using hb
    rcases hb' with e | e
    · exact .inl e
    · exact .inr ⟨od, by simp [e]⟩
  · rintro i h ⟨⟨o, ho, _⟩, _⟩; exact ⟨o, ho⟩
  · intro hI
    have hb' : env.locals = s.heap.objs.size ∨ env.locals = d := by simpa using hI
    rcases hb' with e | e
    · exact absurd F.ns.lt (e ▸ Nat.lt_irrefl _)
    · exact hax.2.1 e.symm
  · intro p hp hI
    exact absurd (Heap.lt_size (N p hp).1) (hI ▸ Nat.lt_irrefl _)
  · exact ⟨⟨_, Heap.get?_push_size _ rfl, rfl, rfl⟩, hat.at' fun o e => Heap.get?_push_of_some _ e⟩
  · intro i v m₁ nx h tk oI hi hP hJ hoff F₁ N₁
    obtain ⟨k, x, hx, hkv⟩ := hP
    exact turn i k x v m₁ nx h tk _ oI hx hkv hJ hoff F₁ N₁
  · intro m₁ nx h tk hJ F₁ N₁
    exact done m₁ nx h tk hJ F₁ N₁

theorem letGo_rangeI {I : Addr} {x left c : Int} {v : Value} {Q' : Unit → Shared → Prop} {s' : Shared} (hit : IsRangeIter s'.heap I x left c) (h : Q' () s') :
    wpAny (model prog w) A (letOwnedTupleGo target (.ref I) v) Q' E s' := by
  unfold letOwnedTupleGo
  cases target <;> first
    | exact wpAny_pure h
    | (cases v <;> first
        | exact wpAny_pure h
        | (refine wpAny_bind (wpAny_load hit ?_)
           exact wpAny_pure h))

theorem turns_range {r : Addr} {a₀ b₀ : Int} {t₀ u₀ v₀ : Tok} {n : Nat} {m₀ : Str → Option Value} {news : List (Addr × Obj)}
    (hh : A.handled = none) (hr : IsRange s.heap r a₀ b₀ 1 t₀ u₀ v₀) (hsmall : Builtin.Range.small a₀ b₀ 1 = true) (hsz : Builtin.Range.rangeSize a₀ b₀ 1 = (n : Int))
    (F : Fr h₀ env.locals s.heap m₀) (N : News h₀ env.locals s.heap news) (J : Nat → (Str → Option Value) → List (Addr × Obj) → Prop) (hj : J 0 m₀ news)
    (turn : ∀ i t m₁ nx h tk I oI, i < n → J i m₁ nx → (∀ p ∈ nx, p.1 ≠ I) → Fr h₀ env.locals h m₁ → News h₀ env.locals h ((I, oI) :: nx) →
      wpAny (model prog w) A (assign target env (.int (a₀ + (i : Int)) t)) (fun _ s₃ => wpAny (model prog w) A (execs body env) (TEnd h₀ env.locals (J (i + 1)) I oI { s with heap := h, toks := tk } Q) E s₃) E { s with heap := h, toks := tk })
    (done : ∀ m₁ nx h tk, J n m₁ nx → Fr h₀ env.locals h m₁ → News h₀ env.locals h nx → Q .next { s with heap := h, toks := tk }) :
    wpAny (model prog w) A (pyIter (.ref r)) (fun it s₂ => TurnsAt prog w A h₀ env target body Q E it s₂) E s := by
  refine wpAny_pyIter_range hr hsmall ?_
  refine turnsG (s := { s with heap := _ }) (I := s.heap.objs.size) (keep := []) (KTurns.ofWalks (Walks.range hh s.heap.objs.size a₀ 1 n) fun i v s Q E st q => ?_) ?_ ?_ (by simp) (next_is_new F) ?_ ?_ ?_ (F.push _) (fun p hp => ⟨Heap.get?_push_of_some _ (N p hp).1, (N p hp).2⟩) J hj (fun i m nx h q hq => (nomatch hq)) ?_ ?_
  · exact letGo_rangeI st q
  · intro b hb; exact .inl (by simpa using hb)
  · intro i h hst; exact ⟨_, hst⟩
  · intro hI
    have hb' : env.locals = s.heap.objs.size := by simpa using hI
    exact absurd F.ns.lt (hb' ▸ Nat.lt_irrefl _)
  · intro p hp hI
    exact absurd (Heap.lt_size (N p hp).1) (hI ▸ Nat.lt_irrefl _)
  · show IsRangeIter _ _ _ _ _; rw [hsz]; simpa using Heap.get?_push_size _ rfl
  · rintro i v m₁ nx h tk oI hi ⟨t, rfl⟩ hJ hoff F₁ N₁
    rw [Int.mul_one]
    exact turn i t m₁ nx h tk _ oI hi hJ hoff F₁ N₁
  · intro m₁ nx h tk hJ F₁ N₁
    exact done m₁ nx h tk hJ F₁ N₁
end
end Mine
end

section
theorem Mine.rst_L1 {prog : PySem.Program} {w : PySem.World} {A : PySem.Around} {Q : PySem.Flow → PySem.Shared → Prop} {E : PySem.Value → PySem.Shared → Prop} {s : PySem.Shared} {env : PySem.Env} {pos : PySem.Pos} : True ∨ PySem.wpAny (PySem.model prog w) A (PySem.exec (PySem.Stmt.Pass pos) env) Q E s := by
  w_on
  w_top off
  first | (right; walk1; fail) | exact .inl trivial
open PySem PySem.W PyProof.Rows PyProof.V PySem.Calls
set_option Elab.async false
namespace Mine
theorem ne_ge {L d : Addr} {nw : List (Addr × Obj)} (h : ∀ p ∈ nw, p.1 < L) (hd : @LE.le Nat _ L d) : ∀ p ∈ nw, p.1 ≠ d := fun p hp => Nat.ne_of_lt (Nat.lt_of_lt_of_le (h p hp) hd)
def Ext (nw nw' : List (Addr × Obj)) : Prop := ∃ add, nw' = add ++ nw ∧ ∀ p ∈ add, ∀ q ∈ nw, q.1 < p.1
theorem Ext.refl (nw : List (Addr × Obj)) : Ext nw nw := ⟨[], rfl, fun _ h => nomatch h⟩
theorem Ext.trans {a b c : List (Addr × Obj)} (h : Ext a b) (k : Ext b c) : Ext a c := by
  obtain ⟨x, rfl, hx⟩ := h
  obtain ⟨y, rfl, hy⟩ := k
  refine ⟨y ++ x, by rw [List.append_assoc], fun p hp q hq => ?_⟩
  rcases List.mem_append.mp hp with hp | hp
  · exact hy p hp q (List.mem_append.mpr (.inr hq))
  · exact hx p hp q hq
theorem Ext.cons {nw : List (Addr × Obj)} {a : Addr} {o : Obj} (h : ∀ q ∈ nw, q.1 < a) : Ext nw ((a, o) :: nw) := ⟨[(a, o)], rfl, fun p hp q hq => by rw [List.mem_singleton.mp hp]; exact h q hq⟩
theorem Ext.sub {a b : List (Addr × Obj)} (h : Ext a b) : ∀ p ∈ a, p ∈ b := by obtain ⟨x, rfl, _⟩ := h; exact fun p hp => List.mem_append.mpr (.inr hp)

section
variable {prog : Program} {w : World} {A : Around} {E : Value → Shared → Prop} {s : Shared} {h₀ : Heap} {L : Addr} {m : Str → Option Value} {env : Env} {elt : Expr} {x x₂ : Str} {scope : Scope} {cl : List (Str × Addr)} {S : List (Addr × Obj) → Prop} {P : Nat → Value → Prop} {Fin : List Value → List (Addr × Obj) → Prop} {news : List (Addr × Obj)}

theorem compRest_ind {n : Nat} (M : Nat → List Value → List (Addr × Obj) → Prop) (h0 : M 0 [] news)
    (turn : ∀ i v I oI C oC D m₂ ys nw h tk (E' : Value → Shared → Prop), i < n → P i v → M i ys nw → LCg.NsObj oC m₂ → m₂ x = some v → Fr h₀ L h m → News h₀ L h ((I, oI) :: (C, oC) :: (D, LCg.lst ys) :: nw) → LCg.Off3 I C D nw → ((@Ne Nat I C) ∧ (@Ne Nat I D) ∧ (@Ne Nat C D)) →
      wpAny (model prog w) A (eval elt (compEnvC scope cl C env)) (LCg.CompEnd h₀ L m { s with heap := h, toks := tk } I oI C oC D (LCg.lst ys) S (fun y nw' => M (i + 1) (ys ++ [y]) nw')) E' { s with heap := h, toks := tk })
    (fin : ∀ ys nw, M n ys nw → Fin ys nw) : LCg.CompRest prog w A h₀ L m env elt x scope cl s S P Fin n 0 [] news := by
  have key : ∀ (j i : Nat) (ys : List Value) nw, i + j = n → M i ys nw → LCg.CompRest prog w A h₀ L m env elt x scope cl s S P Fin j i ys nw := by
    intro j
    induction j with
    | zero =>
      intro i ys nw hi hy
      obtain rfl : i = n := by omega
      exact LCg.CompRest.zero (fin ys nw hy)
    | succ j ih =>
      intro i ys nw hi hy
      refine LCg.CompRest.succ ?_
      intro v I oI C oC D m₂ h tk E' hv hC hx F N off ne
      refine wpAny_mono (turn i v I oI C oC D m₂ ys nw h tk E' (by omega) hv hy hC hx F N off ne) (fun y s₂ hq => ?_) fun _ _ e => e
      obtain ⟨h', tk', nw', e, F', N', off', hS, hM⟩ := hq
      exact ⟨h', tk', nw', e, F', N', off', hS, ih (i + 1) _ _ (by omega) hM⟩
  exact key n 0 [] news (by omega) h0

theorem compRestP_ind {n : Nat} (M : Nat → List Value → List (Addr × Obj) → Prop) (h0 : M 0 [] news)
    (turn : ∀ i v ys nw, i < n → P i v → M i ys nw → ∃ (t : Addr) (ot : Obj) (v₁ v₂ : Value) (nt : Nat), v = .ref t ∧ (t, ot) ∈ nw ∧ ot.cls = .type "tuple" ∧ ot.data = .seq #[v₁, v₂] nt ∧
      ∀ I oI C oC D m₂ h tk (E' : Value → Shared → Prop), LCg.NsObj oC m₂ → m₂ x = some v₁ → m₂ x₂ = some v₂ → Fr h₀ L h m → News h₀ L h ((I, oI) :: (C, oC) :: (D, LCg.lst ys) :: nw) → LCg.Off3 I C D nw → ((@Ne Nat I C) ∧ (@Ne Nat I D) ∧ (@Ne Nat C D)) →
      wpAny (model prog w) A (eval elt (compEnvC scope cl C env)) (LCg.CompEnd h₀ L m { s with heap := h, toks := tk } I oI C oC D (LCg.lst ys) S (fun y nw' => M (i + 1) (ys ++ [y]) nw')) E' { s with heap := h, toks := tk })
    (fin : ∀ ys nw, M n ys nw → Fin ys nw) : LCp.CompRestP prog w A h₀ L m env elt x x₂ scope cl s S P Fin n 0 [] news := by
  have key : ∀ (j i : Nat) (ys : List Value) nw, i + j = n → M i ys nw → LCp.CompRestP prog w A h₀ L m env elt x x₂ scope cl s S P Fin j i ys nw := by
    intro j
    induction j with
    | zero =>
      intro i ys nw hi hy
      obtain rfl : i = n := by omega
      exact LCp.CompRestP.zero (fin ys nw hy)
    | succ j ih =>
      intro i ys nw hi hy
      refine LCp.CompRestP.succ ?_
      intro v hv
      obtain ⟨t, ot, v₁, v₂, nt, e1, e2, e3, e4, k⟩ := turn i v ys nw (by omega) hv hy
      refine ⟨t, ot, v₁, v₂, nt, e1, e2, e3, e4, ?_⟩
      intro I oI C oC D m₂ h tk E' hC hx hx₂ F N off ne
      refine wpAny_mono (k I oI C oC D m₂ h tk E' hC hx hx₂ F N off ne) (fun y s₂ hq => ?_) fun _ _ e => e
      obtain ⟨h', tk', nw', e, F', N', off', hS, hM⟩ := hq
      exact ⟨h', tk', nw', e, F', N', off', hS, ih (i + 1) _ _ (by omega) hM⟩
  exact key n 0 [] news (by omega) h0

theorem CompSrc_hold {Fin : Shared → List Value → List (Addr × Obj) → Prop} {xv : Value} {s₁ : Shared} (h : Hold (LCg.CompSrc prog w A h₀ L m env elt x scope cl Fin xv s₁)) : LCg.CompSrc prog w A h₀ L m env elt x scope cl Fin xv s₁ := h
theorem SrcLP_hold {Fin : Shared → List Value → List (Addr × Obj) → Prop} {xv : Value} {s₁ : Shared} (h : Hold (LCp.SrcLP prog w A h₀ L m env elt x x₂ scope cl Fin xv s₁)) : LCp.SrcLP prog w A h₀ L m env elt x x₂ scope cl Fin xv s₁ := h
end
end Mine
end

section
theorem Mine.rst_L2 {prog : PySem.Program} {w : PySem.World} {A : PySem.Around} {Q : PySem.Flow → PySem.Shared → Prop} {E : PySem.Value → PySem.Shared → Prop} {s : PySem.Shared} {env : PySem.Env} {pos : PySem.Pos} : True ∨ PySem.wpAny (PySem.model prog w) A (PySem.exec (PySem.Stmt.Pass pos) env) Q E s := by
  w_on
  w_top off
  first | (right; walk1; fail) | exact .inl trivial
open PySem PySem.W PyProof.Rows PyProof.V PySem.Calls PySem.Builtin
set_option Elab.async false
namespace Mine
def joinB (bs : List (Array UInt8)) : Array UInt8 := bs.foldl (· ++ ·) #[]
inductive BytesAre : List Value → List (Array UInt8) → Prop
  | nil : BytesAre [] []
  | cons {vs bs} (b : Array UInt8) (t : Tok) : BytesAre vs bs → BytesAre (.bytes b t :: vs) (b :: bs)
theorem BytesAre.length {vs bs} (h : BytesAre vs bs) : vs.length = bs.length := by
  induction h with
  | nil => rfl
  | cons b t _ ih => simp [ih]
theorem BytesAre.snoc {vs bs} (h : BytesAre vs bs) (b : Array UInt8) (t : Tok) : BytesAre (vs ++ [.bytes b t]) (bs ++ [b]) := by
  induction h with
  | nil => exact .cons b t .nil
  | cons c u _ ih => exact .cons c u ih
theorem BytesAre.get {vs bs} (h : BytesAre vs bs) {i : Nat} (hi : i < bs.length) : ∃ t, vs[i]? = some (.bytes bs[i] t) := by
  induction h generalizing i with
  | nil => exact absurd hi (Nat.not_lt_zero _)
  | cons c u _ ih =>
    cases i with
    | zero => exact ⟨u, rfl⟩
    | succ i => exact ih (Nat.lt_of_succ_lt_succ hi)

namespace J
set_option maxRecDepth 100000
theorem slot_join : Slot "bytes" "join" "bytes.join" :=
  .of (owner := "bytes") (n := "join") (by rw [typeLookup_type, builtinLookup_eq_fast]; kernel_rfl) (by decide +kernel) (by decide +kernel) (by decide +kernel)
    (by first | exact .inl (by decide +kernel) | exact .inr (by decide +kernel)) (by rw [isSubtype_type]; kernel_rfl)
theorem type_join : typeOf (.builtin "bytes.join") = pure (.type "method_descriptor") := by show builtinType _ = _; rw [builtinType_eq_fast]; kernel_rfl
theorem entry_join : entryFor table "bytes.join" = some Builtin.«bytes.join» := entryFor_of_tree (by kernel_rfl)
theorem args_join (a b : Value) : argsOk "bytes.join" ⟨[a, b], []⟩ := by unfold argsOk; kernel_rfl
theorem take_eq {id : String} {b : Array UInt8} {t : Tok} : Bytes.takeBufferQuiet? id (.bytes b t) 0 = pure (some (b, none)) := by
  unfold Bytes.takeBufferQuiet? Bytes.takeBuffer?
  have e : ((0 : Int) == Bytes.fullReadOnly) = false := by decide
  rw [KBy.special_eq KBy.look_buffer, KBy.own_buffer, e, KBy.buffer_eq]
  kernel_rfl
theorem foldl_joined (l : List (Array UInt8)) : ∀ (k : Nat) (acc : Array UInt8), (l.zipIdx k).foldl (fun out (p : Array UInt8 × Nat) => (if p.2 > 0 then out ++ #[] else out) ++ p.1) acc = l.foldl (· ++ ·) acc := by
  induction l with
  | nil => intro k acc; rfl
  | cons b l ih =>
    intro k acc
    rw [List.zipIdx_cons, List.foldl_cons, List.foldl_cons, ih]
    simp
theorem joined_eq (l : List (Array UInt8)) : Bytes.joined #[] l = joinB l := by
  unfold Bytes.joined joinB
  exact foldl_joined l 0 #[]
section
variable {prog : Program} {w : World} {A : Around} {E : Value → Shared → Prop} {s : Shared}
theorem wp_forIn {α β : Type} (f : α → β → Sem (ForInStep β)) (I : Nat → β → Prop) (Q : β → Shared → Prop) : ∀ (l : List α) (k : Nat) (b : β), I k b →
    (∀ (i : Nat) (x : α) b, l[i]? = some x → I (k + i) b → wpAny (model prog w) A (f x b) (fun r s' => s' = s ∧ ∃ b', r = .yield b' ∧ I (k + i + 1) b') E s) →
    (∀ b, I (k + l.length) b → Q b s) → wpAny (model prog w) A (forIn l b f) Q E s := by
  intro l
  induction l with
  | nil => intro k b hI _ hQ; exact wpAny_pure (hQ b hI)
  | cons x l ih =>
    intro k b hI hf hQ
    rw [List.forIn_cons]
    refine wpAny_bind (wpAny_mono (hf 0 x b rfl hI) (fun r s' h => ?_) fun _ _ e => e)
    obtain ⟨rfl, b', rfl, hI'⟩ := h
    refine ih (k + 1) b' hI' (fun i y c hy hc => ?_) fun c hc => hQ c ?_
    · have := hf (i + 1) y c (by simpa using hy) (by rw [show k + (i + 1) = k + 1 + i by omega]; exact hc)
      rw [show k + (i + 1) + 1 = k + 1 + i + 1 by omega] at this
      exact this
    · rw [List.length_cons]; rw [show k + (l.length + 1) = k + 1 + l.length by omega]; exact hc
theorem wp_joinLetGo (keep : List Value) : ∀ (taken : List (Value × Option Value)), (∀ p ∈ taken, p.2 = none) → ∀ {Q : Unit → Shared → Prop}, Q () s → wpAny (model prog w) A (Bytes.joinLetGo taken keep) Q E s := by
  intro taken
  induction taken with
  | nil => intro _ Q h; exact wpAny_pure h
  | cons p r ih =>
    intro hn Q h
    obtain ⟨x, y⟩ := p
    have : y = none := hn (x, y) (.head _)
    subst this
    unfold Bytes.joinLetGo
    refine wpAny_bind (wpAny_letGo ?_)
    exact ih (fun p hp => hn p (.tail _ hp)) h
theorem getD_of {vs : List Value} {i : Nat} {v : Value} (h : vs[i]? = some v) : vs.toArray.getD i Value.none = v := by
  rw [Array.getD_eq_getD_getElem?, List.getElem?_toArray, h]; rfl
theorem meets_join {D : Addr} {vs : List Value} {bs : List (Array UInt8)} {t : Tok} (hb : BytesAre vs bs) (hz : (joinB bs).size ≤ 16777216) (hz2 : bs.foldl (· + ·.size) 0 ≤ 16777216) :
    Meets («bytes.join» ⟨[.bytes #[] t, .ref D], []⟩) (fun _ R s => s.heap.IsList D vs.toArray ∧ ∀ t' k, R (.ok (.ret (.bytes (joinB bs) t'))) { s with toks := k }) := by
  refine .of_wp fun prog w A R s hS => ?_
  obtain ⟨hl, h⟩ := hS
  have hT : s.TypeIs (.ref D) "list" := hl.typeIs
  obtain ⟨ol, hol, hoc, nl, hod⟩ := id hl
  unfold «bytes.join» Bytes.joinM
  refine wpAny_bind (wpAny_of_eq (a := (Value.bytes #[] t, Value.ref D)) rfl ?_)
  dsimp only
  refine wpAny_bind ?_
  show wpAny _ _ (Bytes.joinItems (.ref D)) _ _ _
  unfold Bytes.joinItems
  refine wpAny_bind (wpAny_typeOf hT ?_)
  refine bm_if_true rfl ?_
  refine wpAny_pure ?_
  refine wpAny_bind ?_
  show wpAny _ _ (load D >>= _) _ _ _
  refine wpAny_bind (wpAny_load hol ?_)
  rw [hod]
  refine wpAny_pure ?_
  dsimp only
  refine bm_if_true rfl ?_
  have hlen := hb.length
  have one : ∀ x, vs = [x] → True := fun _ _ => trivial
  rcases vs with _ | ⟨x, _ | ⟨y, r⟩⟩
  rotate_left
  · cases hb with
    | cons b t hb =>
      cases hb
      show wpAny _ _ (typeOf _ >>= _) _ _ s
      refine wpAny_bind (wpAny_typeOf (typeIs_bytes s _ _) ?_)
      refine bm_if_true rfl ?_
      refine wpAny_bind (wpAny_rule (wpAny_pure ⟨_, rfl, ?_⟩))
      have e : joinB [b] = b := by simp [joinB]
      have := h t s.toks
      rw [e] at this
      exact this
  all_goals
    show wpAny _ _ (forIn _ _ _ >>= _) _ _ s
    rw [Std.Legacy.Range.forIn_eq_forIn_range']
    refine wpAny_bind (wp_forIn (s := s) _ (fun i (b : Array (Array UInt8) × List (Value × Option Value)) => b.1 = (bs.take i).toArray ∧ ∀ p ∈ b.2, p.2 = none ∧ p.1.onHeap = false) _ _ 0 _ ⟨by simp, fun _ hp => nomatch hp⟩ ?_ ?_)
    · intro i x b hx hI
      have hxi : x = i ∧ i < bs.length := by
        rw [List.getElem?_eq_some_iff] at hx
        obtain ⟨h1, h2⟩ := hx
        (try simp only [List.length_cons] at hlen)
        (simp [Std.Legacy.Range.size] at h1 h2) <;> omega
      obtain ⟨rfl, hlt⟩ := hxi
      obtain ⟨tb, hg⟩ := hb.get hlt
      rw [Nat.zero_add] at hI
      refine wpAny_bind ?_
      show wpAny _ _ (load D >>= _) _ _ s
      refine wpAny_bind (wpAny_load hol ?_)
      rw [hod]
      refine wpAny_pure ?_
      dsimp only
      refine bm_if_false (by
        rw [Bool.or_eq_false_iff]
        exact ⟨rfl, List.any_eq_false.mpr fun p hp => by rw [(hI.2 p hp).2]; exact Bool.false_ne_true⟩) ?_
      refine wpAny_bind (wpAny_holding (wpAny_of_eq (a := some (bs[x], none)) ?_ ?_))
      · rw [getD_of hg]; exact take_eq
      · dsimp only
        refine wpAny_bind ?_
        show wpAny _ _ (load D >>= _) _ _ s
        refine wpAny_bind (wpAny_load hol ?_)
        rw [hod]
        refine wpAny_pure ?_
        dsimp only
        refine bm_if_false (by simp) ?_
        refine wpAny_pure ⟨rfl, _, rfl, ?_, ?_⟩
        · show b.1.push bs[x] = _
          rw [hI.1, Nat.zero_add, List.take_add_one, List.getElem?_eq_getElem hlt]
          simp
        · intro p hp
          rcases List.mem_append.mp hp with hp | hp
          · exact hI.2 p hp
          · rw [List.mem_singleton.mp hp]
            refine ⟨rfl, ?_⟩
            dsimp only
            rw [getD_of hg]; rfl
    · intro b hI
      have hb1 : b.1 = bs.toArray := by
        have h1 := hI.1
        rw [List.length_range', Nat.zero_add] at h1
        rw [h1, List.take_of_length_le]
        rw [← hlen]
        simp [Std.Legacy.Range.size]
      refine wpAny_bind ?_
      unfold Bytes.payload Bytes.payload?
      refine wpAny_bind (wpAny_pure (wpAny_pure ?_))
      have hsz : Bytes.tooLong (Array.foldl (fun x1 x2 => x1 + x2.size) ((#[] : Array UInt8).size * (b.1.size - 1)) b.1) = false := by
        refine KBy.tooLong_not ?_
        rw [hb1]; simpa using hz2
      refine bm_if_false hsz ?_
      rw [hb1, joined_eq]
      refine wpAny_bind ?_
      show wpAny _ _ (mkBytes (joinB bs)) _ _ s
      refine wpAny_mkBytes ?_ (by rw [sizeLine_eq]; exact hz)
      refine wpAny_bind (wpAny_holding (wpAny_point ?_))
      refine wpAny_bind (wp_joinLetGo _ _ (fun p hp => (hI.2 p hp).1) ?_)
      exact wpAny_pure ⟨_, rfl, h _ _⟩
theorem joinB_size (bs : List (Array UInt8)) : (joinB bs).size = bs.foldl (fun n b => n + b.size) 0 := by
  have key : ∀ (l : List (Array UInt8)) (acc : Array UInt8) (n : Nat), acc.size = n → (l.foldl (· ++ ·) acc).size = l.foldl (fun n b => n + b.size) n := by
    intro l
    induction l with
    | nil => intro acc n h; exact h
    | cons b l ih => intro acc n h; rw [List.foldl_cons, List.foldl_cons]; exact ih _ _ (by rw [Array.size_append, h])
  exact key bs #[] 0 rfl
theorem call_join {D : Addr} {vs : List Value} {bs : List (Array UInt8)} {t : Tok} {Q : Value → Shared → Prop} (hl : s.heap.IsList D vs.toArray) (hb : BytesAre vs bs) (hz : (joinB bs).size ≤ 16777216)
    (h : ∀ t' k, Q (.bytes (joinB bs) t') { s with toks := k }) : wpAny (model prog w) A (call (.builtin "bytes.join") [.bytes #[] t, .ref D]) Q E s :=
  call_meets slot_join (typeIs_bytes _ _ _) entry_join (args_join _ _) (meets_join hb hz (by rw [← joinB_size]; exact hz)) ⟨hl, h⟩
theorem join_N {h₀ : Heap} {L : Addr} {news : List (Addr × Obj)} {D : Addr} {vs : List Value} {n : Nat} {bs : List (Array UInt8)} {t : Tok} {Q : Value → Shared → Prop} (N : News h₀ L s.heap news) (hm : (D, listOf vs.toArray n) ∈ news) (hb : BytesAre vs bs) (hz : (joinB bs).size ≤ 16777216)
    (h : ∀ t' k, Q (.bytes (joinB bs) t') { s with toks := k }) : wpAny (model prog w) A (call (.builtin "bytes.join") [.bytes #[] t, .ref D]) Q E s :=
  call_join ⟨_, (N _ hm).1, rfl, n, rfl⟩ hb hz h
theorem method {M : Model} {b : Array UInt8} {t : Tok} {pl : Sem Bool} {Q : Value × List Value → Shared → Prop} (h : Q (.builtin "bytes.join", [.bytes b t]) s) : wpAny M A (getMethod (.bytes b t) "join" pl) Q E s := by
  with_reducible exact KBd.method_of (.bytes b t) (typeIs_bytes _ _ _) slot_join type_join KBd.noRef h
end
end J
end Mine
end

section
theorem Mine.rst_L3 {prog : PySem.Program} {w : PySem.World} {A : PySem.Around} {Q : PySem.Flow → PySem.Shared → Prop} {E : PySem.Value → PySem.Shared → Prop} {s : PySem.Shared} {env : PySem.Env} {pos : PySem.Pos} : True ∨ PySem.wpAny (PySem.model prog w) A (PySem.exec (PySem.Stmt.Pass pos) env) Q E s := by
  w_on
  w_top off
  first | (right; walk1; fail) | exact .inl trivial
open PySem PySem.W PyProof.Rows PyProof.V PySem.Calls
set_option Elab.async false
namespace Mine
structure Ent where
  kind : Int
  value : Array UInt8
  inner : List (Int × Array UInt8)
  broken : Bool
def smallOf (form place : Int) : Int × Array UInt8 := (33 + (form.fdiv 4 + place).fmod 6, octs ((form.fdiv 24 + 5 * place).fmod 12) form)
def innerOf (form : Int) : List (Int × Array UInt8) := (rangeKs 0 (form.fmod 4).toNat).map (smallOf form)
def baseOf (form : Int) : Array UInt8 := octs 5 form ++ joinB ((innerOf form).map fun p => entryB p.1 p.2)
def tops : List Int := [1, 2, 5, 48, 3, 224]
def entOf (n : Int) : Ent :=
  let pick := n.fmod 10
  let form := n.fdiv 10
  if pick < 6 then ⟨tops.getD pick.toNat 0, octs (form.fmod 23) form, [], false⟩
  else if pick = 9 ∧ 0 < form.fmod 3 then ⟨32, baseOf form ++ byteArr [33, 0, 9] ++ octs (form.fmod 9) form, innerOf form, true⟩
  else ⟨32, baseOf form, innerOf form, false⟩
def smallD (p : Int × Array UInt8) : Dat := .tuple [.int p.1, .bytes p.2]
def entD (e : Ent) : Dat := .tuple [.int e.kind, .bytes e.value, .list (e.inner.map smallD), .bool e.broken]
theorem fr_at {h₀ : Heap} {L : Addr} {h : Heap} {m : Str → Option Value} {k : Str} {v : Value} (F : Fr h₀ L h m) (e : m k = some v) : Fr h₀ L h (fun y => if y = k then some v else m y) := by
  have : (fun y => if y = k then some v else m y) = m := by funext y; by_cases h : y = k <;> simp [h, e]
  rw [this]; exact F
theorem comp_end_push {g : Heap} {L : Addr} {m' : Str → Option Value} {s₁ : Shared} {I C D c T : Addr} {oI oC oD oc oT : Obj} {nw : List (Addr × Obj)} {S : List (Addr × Obj) → Prop} {rest : Value → List (Addr × Obj) → Prop} {h' : Heap} {tk : Nat}
    (F : Fr g L h' m') (N : News g L h' ((T, oT) :: (I, oI) :: (C, oC) :: (D, oD) :: (c, oc) :: nw)) (l1 : I < T ∧ C < T ∧ D < T ∧ c < T ∧ AllLt T nw) (off : LCg.Off3 I C D nw) (hS : S ((T, oT) :: nw)) (r : rest (.ref T) ((T, oT) :: nw)) :
    LCg.CompEnd g L m' s₁ I oI C oC D oD S rest (.ref T) { s₁ with heap := h', toks := tk } := by
  obtain ⟨a, b, d, _, e⟩ := l1
  refine LCg.CompEnd.intro F N ((T, oT) :: nw) ?_ ⟨⟨Nat.ne_of_gt a, Nat.ne_of_gt b, Nat.ne_of_gt d⟩, off⟩ hS r
  intro p hp
  rcases List.mem_cons.mp hp with rfl | hp
  · exact .tail _ (.head _)
  rcases List.mem_cons.mp hp with rfl | hp
  · exact .tail _ (.tail _ (.head _))
  rcases List.mem_cons.mp hp with rfl | hp
  · exact .tail _ (.tail _ (.tail _ (.head _)))
  rcases List.mem_cons.mp hp with rfl | hp
  · exact .head _
  · exact .tail _ (.tail _ (.tail _ (.tail _ (.tail _ hp))))
theorem rangeKs_take_snoc {n j : Nat} (h : j < n) : (rangeKs 0 n).take (j + 1) = (rangeKs 0 n).take j ++ [0 + (j : Int)] := by
  rw [List.take_add_one]
  have : (rangeKs 0 n)[j]? = some (0 + (j : Int)) := by simp [rangeKs, h]
  rw [this]; rfl
theorem small_inv {nw : List (Addr × Obj)} {v : Value} {p : Int × Array UInt8} (h : DatIn nw v (smallD p)) : ∃ a t t' n, v = .ref a ∧ (a, ({ cls := .type "tuple", data := .seq #[.int p.1 t, .bytes p.2 t'] n } : Obj)) ∈ nw := by
  cases h with
  | tuple hm hd =>
    cases hd with
    | cons h1 hd =>
      cases hd with
      | cons h2 hd =>
        cases hd
        cases h1
        cases h2
        exact ⟨_, _, _, _, rfl, hm⟩
theorem octs_size (c s : Int) : (octs c s).size = c.toNat := by
  unfold octs
  rw [byteArr_size, List.length_map, rangeKs_length]
theorem fmod_bd (a : Int) {k : Int} (hk : 0 < k) : 0 ≤ a.fmod k ∧ a.fmod k < k := ⟨Int.fmod_nonneg_of_pos _ hk, Int.fmod_lt_of_pos _ hk⟩
theorem small_bd (form : Int) : ∀ p ∈ innerOf form, 33 ≤ p.1 ∧ p.1 ≤ 38 ∧ p.2.size ≤ 11 := by
  intro p hp
  obtain ⟨k, _, rfl⟩ := List.mem_map.mp hp
  have h1 := fmod_bd (form.fdiv 4 + k) (k := 6) (by decide)
  have h2 := fmod_bd (form.fdiv 24 + 5 * k) (k := 12) (by decide)
  refine ⟨by show 33 ≤ 33 + _; omega, by show 33 + _ ≤ (38 : Int); omega, ?_⟩
  show (octs _ _).size ≤ 11
  rw [octs_size]; omega
theorem inner_len (form : Int) : (innerOf form).length ≤ 3 := by
  have h1 := fmod_bd form (k := 4) (by decide)
  unfold innerOf
  rw [List.length_map, rangeKs_length]; omega
theorem joinB_le {M : Nat} : ∀ {bs : List (Array UInt8)}, (∀ b ∈ bs, b.size ≤ M) → (joinB bs).size ≤ M * bs.length := by
  intro bs h
  rw [J.joinB_size]
  have key : ∀ (l : List (Array UInt8)) (n : Nat), (∀ b ∈ l, b.size ≤ M) → l.foldl (fun n b => n + b.size) n ≤ n + M * l.length := by
    intro l
    induction l with
    | nil => intro n _; exact Nat.le_refl _
    | cons b l ih =>
      intro n hl
      rw [List.foldl_cons, List.length_cons, Nat.mul_succ]
      have h1 := ih (n + b.size) fun c hc => hl c (.tail _ hc)
      have h2 := hl b (.head _)
      omega
  have := key bs 0 h
  omega
theorem entryB_size (k : Int) (v : Array UInt8) : (entryB k v).size = 3 + v.size := by
  unfold entryB
  rw [Array.size_append, byteArr_size]; rfl
theorem innerJ_le (form : Int) : (joinB ((innerOf form).map fun p => entryB p.1 p.2)).size ≤ 42 := by
  have h1 := joinB_le (M := 14) (bs := (innerOf form).map fun p => entryB p.1 p.2) (by
    intro b hb
    obtain ⟨p, hp, rfl⟩ := List.mem_map.mp hb
    rw [entryB_size]
    have := small_bd form p hp
    omega)
  rw [List.length_map] at h1
  have := inner_len form
  omega
theorem allLt_ne {T : Addr} {nw : List (Addr × Obj)} (h : AllLt T nw) : ∀ q ∈ nw, T ≠ q.1 := fun q hq => Nat.ne_of_gt (kst_ltOf h q hq)
theorem off1_all {D : Addr} : ∀ {nw : List (Addr × Obj)}, LCg.Off1 D nw → ∀ p ∈ nw, p.1 ≠ D
  | [], _, _, hp => nomatch hp
  | q :: r, h, p, hp => by
    rcases List.mem_cons.mp hp with rfl | hp
    · exact h.1
    · exact off1_all h.2 p hp
/-- what stands behind a comprehension: the new list and the elder tail as one tail -/
theorem tail_new {g : Heap} {L : Addr} {h : Heap} {I l c D : Addr} {oI ol oc oD : Obj} {tl add : List (Addr × Obj)} (hadd : ∀ p ∈ add, ∀ q ∈ (I, oI) :: (l, ol) :: (c, oc) :: tl, q.1 < p.1)
    (N : News g L h ((D, oD) :: (add ++ (I, oI) :: (l, ol) :: (c, oc) :: tl))) (o1 : LCg.Off1 D (add ++ (I, oI) :: (l, ol) :: (c, oc) :: tl)) (ho1 : ∀ p ∈ tl, p.1 ≠ l) (ho2 : ∀ p ∈ tl, p.1 ≠ c) (hoI : ∀ p ∈ tl, p.1 ≠ I) :
    News g L h ((I, oI) :: (l, ol) :: (c, oc) :: (D, oD) :: (add ++ tl)) ∧ (∀ p ∈ (D, oD) :: (add ++ tl), p.1 ≠ l) ∧ (∀ p ∈ (D, oD) :: (add ++ tl), p.1 ≠ c) ∧ (∀ p ∈ (D, oD) :: (add ++ tl), p.1 ≠ I) := by
  have hD := off1_all o1
  refine ⟨?_, ?_, ?_, ?_⟩
  · intro p hp
    refine N p ?_
    simp only [List.mem_cons, List.mem_append] at hp ⊢
    rcases hp with h | h | h | h | h | h
    · exact .inr (.inr (.inl h))
    · exact .inr (.inr (.inr (.inl h)))
    · exact .inr (.inr (.inr (.inr (.inl h))))
    · exact .inl h
    · exact .inr (.inl h)
    · exact .inr (.inr (.inr (.inr (.inr h))))
  · intro p hp
    rcases List.mem_cons.mp hp with rfl | hp
    · exact (hD _ (List.mem_append.mpr (.inr (.tail _ (.head _))))).symm
    rcases List.mem_append.mp hp with hp | hp
    · exact Nat.ne_of_gt (hadd p hp _ (.tail _ (.head _)))
    · exact ho1 p hp
  · intro p hp
    rcases List.mem_cons.mp hp with rfl | hp
    · exact (hD _ (List.mem_append.mpr (.inr (.tail _ (.tail _ (.head _)))))).symm
    rcases List.mem_append.mp hp with hp | hp
    · exact Nat.ne_of_gt (hadd p hp _ (.tail _ (.tail _ (.head _))))
    · exact ho2 p hp
  · intro p hp
    rcases List.mem_cons.mp hp with rfl | hp
    · exact (hD _ (List.mem_append.mpr (.inr (.head _)))).symm
    rcases List.mem_append.mp hp with hp | hp
    · exact Nat.ne_of_gt (hadd p hp _ (.head _))
    · exact hoI p hp
theorem off_app {a b news : List (Addr × Obj)} (h : TbOff a news) (k : TbOff b news) : TbOff (a ++ b) news := fun p hp => (List.mem_append.mp hp).elim (h p) (k p)
def ents (ns : List Int) : List Ent := (ns.take 12).map entOf
theorem off1_ne {D : Addr} {nw : List (Addr × Obj)} (h : LCg.Off1 D nw) : ∀ q ∈ nw, D ≠ q.1 := fun q hq => (off1_all h q hq).symm
theorem add2 {a b : Addr} {oa ob : Obj} {tl : List (Addr × Obj)} (h1 : ∀ q ∈ tl, a ≠ q.1) (h2 : ∀ q ∈ tl, b ≠ q.1) : ∀ p ∈ [(a, oa), (b, ob)], ∀ q ∈ tl, p.1 ≠ q.1 := by
  intro p hp
  rcases List.mem_cons.mp hp with rfl | hp
  · exact h1
  · rw [List.mem_singleton.mp hp]; exact h2
theorem add3 {a b c : Addr} {oa ob oc : Obj} {tl : List (Addr × Obj)} (h1 : ∀ q ∈ tl, a ≠ q.1) (h2 : ∀ q ∈ tl, b ≠ q.1) (h3 : ∀ q ∈ tl, c ≠ q.1) : ∀ p ∈ [(a, oa), (b, ob), (c, oc)], ∀ q ∈ tl, p.1 ≠ q.1 := by
  intro p hp
  rcases List.mem_cons.mp hp with rfl | hp
  · exact h1
  · exact add2 h2 h3 p hp
def JEnt (l c D : Addr) (oD : Obj) (news : List (Addr × Obj)) (ns : List Int) (i : Nat) (m : Str → Option Value) (nx : List (Addr × Obj)) : Prop :=
  ∃ vsE nE oC x tl own, nx = (l, listOf (List.toArray vsE) nE) :: (c, oC) :: tl ∧ oC.data = .cell x ∧ DatAll tl vsE ((ns.take i).map fun n => entD (entOf n)) ∧ (D, oD) ∈ tl ∧ (tl = own ++ news ∧ TbOff own news) ∧ (∀ p ∈ tl, p.1 ≠ l) ∧ (∀ p ∈ tl, p.1 ≠ c) ∧ m (Str.ofString "entries") = some (.ref l)
theorem entOf_a {n : Int} (h : n.fmod 10 < 6) : entD (entOf n) = .tuple [.int (tops.getD (n.fmod 10).toNat 0), .bytes (octs ((n.fdiv 10).fmod 23) (n.fdiv 10)), .list [], .bool false] := by
  unfold entOf; rw [if_pos h]; rfl
theorem entOf_b {n : Int} (h : ¬ n.fmod 10 < 6) (h9 : n.fmod 10 = 9) (h3 : 0 < (n.fdiv 10).fmod 3) : entD (entOf n) = .tuple [.int 32, .bytes (baseOf (n.fdiv 10) ++ byteArr [33, 0, 9] ++ octs ((n.fdiv 10).fmod 9) (n.fdiv 10)), .list ((innerOf (n.fdiv 10)).map smallD), .bool true] := by
  unfold entOf; rw [if_neg h, if_pos ⟨h9, h3⟩]; rfl
theorem entOf_c {n : Int} (h : ¬ n.fmod 10 < 6) (h9 : ¬ (n.fmod 10 = 9 ∧ 0 < (n.fdiv 10).fmod 3)) : entD (entOf n) = .tuple [.int 32, .bytes (baseOf (n.fdiv 10)), .list ((innerOf (n.fdiv 10)).map smallD), .bool false] := by
  unfold entOf; rw [if_neg h, if_neg h9]; rfl
theorem jent_end {g : Heap} {L I l c D T : Addr} {oI oC oD : Obj} {s₁ : Shared} {Q : Flow → Shared → Prop} {h' : Heap} {tk : Nat} {m' : Str → Option Value} {news tl add own : List (Addr × Obj)} {ns : List Int} {i nE : Nat} {n : Int} {vsE : List Value} {x : Option Value}
    (F : Fr g L h' m') (N : News g L h' (add ++ (I, oI) :: (l, listOf (vsE.toArray.push (Value.ref T)) (nE + 1)) :: (c, oC) :: tl)) (hn : ns[i]? = some n) (hd : DatIn (add ++ tl) (.ref T) (entD (entOf n)))
    (hIl : I ≠ l) (hIc : I ≠ c) (a1 : ∀ p ∈ add, p.1 ≠ I) (a2 : ∀ p ∈ add, p.1 ≠ l) (a3 : ∀ p ∈ add, p.1 ≠ c)
    (hx : oC.data = .cell x) (hD : DatAll tl vsE ((ns.take i).map fun n => entD (entOf n))) (hDm : (D, oD) ∈ tl) (hnw : tl = own ++ news ∧ TbOff own news) (a4 : ∀ p ∈ add, ∀ q ∈ tl, p.1 ≠ q.1) (ho1 : ∀ p ∈ tl, p.1 ≠ l) (ho2 : ∀ p ∈ tl, p.1 ≠ c) (hoI : ∀ p ∈ tl, p.1 ≠ I) (hent : m' (Str.ofString "entries") = some (.ref l)) :
    TEnd g L (JEnt l c D oD news ns (i + 1)) I oI s₁ Q .next { s₁ with heap := h', toks := tk } := by
  refine ⟨h', tk, m', _, (l, listOf (vsE ++ [Value.ref T]).toArray (nE + 1)) :: (c, oC) :: (add ++ tl), rfl, F, N, List.mem_append.mpr (.inr (.head _)), ?_, ?_, ?_⟩
  · intro p hp
    rw [← List.push_toArray] at hp
    simp only [List.mem_cons, List.mem_append] at hp ⊢
    rcases hp with h | h | h | h
    · exact .inr (.inr (.inl h))
    · exact .inr (.inr (.inr (.inl h)))
    · exact .inl h
    · exact .inr (.inr (.inr (.inr h)))
  · intro p hp
    rcases List.mem_cons.mp hp with rfl | hp
    · exact hIl.symm
    rcases List.mem_cons.mp hp with rfl | hp
    · exact hIc.symm
    rcases List.mem_append.mp hp with hp | hp
    · exact a1 p hp
    · exact hoI p hp
  · refine ⟨vsE ++ [Value.ref T], nE + 1, oC, x, add ++ tl, add ++ own, rfl, hx, ?_, List.mem_append.mpr (.inr hDm), ⟨by rw [hnw.1, List.append_assoc], off_app (fun p hp q hq => a4 p hp q (hnw.1 ▸ List.mem_append.mpr (.inr hq))) hnw.2⟩, ?_, ?_, hent⟩
    · rw [List.take_add_one, hn]
      show DatAll _ _ (List.map _ (_ ++ [n]))
      rw [List.map_append]
      exact DatAll.append (DatAll.mono (fun p hp => List.mem_append.mpr (.inr hp)) hD) (DatAll.one hd)
    · intro p hp
      rcases List.mem_append.mp hp with hp | hp
      · exact a2 p hp
      · exact ho1 p hp
    · intro p hp
      rcases List.mem_append.mp hp with hp | hp
      · exact a3 p hp
      · exact ho2 p hp
end Mine
end

section
theorem Mine.rst_L4 {prog : PySem.Program} {w : PySem.World} {A : PySem.Around} {Q : PySem.Flow → PySem.Shared → Prop} {E : PySem.Value → PySem.Shared → Prop} {s : PySem.Shared} {env : PySem.Env} {pos : PySem.Pos} : True ∨ PySem.wpAny (PySem.model prog w) A (PySem.exec (PySem.Stmt.Pass pos) env) Q E s := by
  w_on
  w_top off
  first | (right; walk1; fail) | exact .inl trivial
open PySem PySem.W PyProof.Rows PyProof.V PySem.Calls
set_option Elab.async false
namespace Mine
section
variable {M : Model} {A : Around} {E : Value → Shared → Prop} {s : Shared} {name : Str} {params : Arguments} {body : List Stmt} {scope : Scope} {pos : Pos} {env : Env}
theorem nestDef_kw {Q : Flow → Shared → Prop} (hd0 : params.defaults = []) (hk0 : params.kw_defaults = [none]) (ha : annTrees params none env = []) (hz : (params.kwonlyargs.zip [(none : Option Value)]).filterMap (fun (a, d) => d.map (a.arg, ·)) = [])
    (h : wpAny M A (makeFunction name (qualnameIn env name name) params (.stmts body) scope env [] [] [] pos pos.line) (fun v s' => wpAny M A (storeName env name v) (fun _ s'' => Q .next s'') E s') E s) :
    wpAny M A (exec (.FunctionDef name params body [] none [] scope none name pos) env) Q E s := by
  have hkw : ∀ q, makeFunction name q params (.stmts body) scope env [] [none] [] pos pos.line = makeFunction name q params (.stmts body) scope env [] [] [] pos pos.line := by
    intro q
    unfold makeFunction
    rw [hz, List.zip_nil_right, List.filterMap_nil]
  rw [exec_def]
  refine wpAny_bind (wpAny_standAt (wpAny_bind (wpAny_holding ?_)))
  rw [defaultsOf_eq, hd0, hk0, ha]
  refine wpAny_bind (wpAny_pure ?_)
  refine wpAny_bind (wpAny_holding ?_)
  show wpAny M A (evalAllOpt [none]) _ _ _
  unfold evalAllOpt
  refine wpAny_bind (wpAny_pure (wpAny_pure ?_))
  refine wpAny_holding (wpAny_bind (wpAny_pure ?_))
  rw [hkw]
  exact wpAny_mono h (fun v s' h' => wpAny_bind (wpAny_standAt (wpAny_bind (wpAny_bindName (wpAny_mono h' (fun _ _ h'' => wpAny_pure h'') fun _ _ x => x))))) fun _ _ x => x
end
end Mine
end

section
theorem Mine.rst_B2 {prog : PySem.Program} {w : PySem.World} {A : PySem.Around} {Q : PySem.Flow → PySem.Shared → Prop} {E : PySem.Value → PySem.Shared → Prop} {s : PySem.Shared} {env : PySem.Env} {pos : PySem.Pos} : True ∨ PySem.wpAny (PySem.model prog w) A (PySem.exec (PySem.Stmt.Pass pos) env) Q E s := by
  w_on
  w_top off
  first | (right; walk1; fail) | exact .inl trivial
open PySem PySem.W PyProof.Rows PyProof.V
set_option Elab.async false
namespace Mine
abbrev CB (w : World) (p : Program) (loose : List Str) (mean : ExcName → Option Value) (mg mb : Str → Option Value) (f : Addr) (news : List (Addr × Obj)) (dep uni : Nat) (vs : List Value)
   (Ret : (Value → Shared → Prop) → (Value → Shared → Prop) → Heap → Heap → Addr → (Str → Option Value) → Shared → Prop) : Prop :=
  ∀ (dp un : Nat) (gd : Option (List Code)) (cn : Str) (cs : Scope) (a : Addr) (ccd : Value) (cl : List (Str × Addr)) (outer : List Env) (A₀ : Around) (base h₀ : Heap) (L : Addr) (m : Str → Option Value) (s : Shared) (Q E : Value → Shared → Prop),
    Below A₀ base outer h₀ → Fr h₀ L s.heap m → (Mine.hd.heap_39 w.params).In h₀ → News h₀ L s.heap news → Top p loose mean mg mb h₀ → cs.kind = .function →
    dp + dep < recursionLimit → un + uni < cLine → Ret Q E base h₀ L m s →
      wpAny (model PySem.Challenge.rw_fc0001_01.row.prog w) (ktrTop dp un gd cn cs L a ccd cl outer) (call (.ref f) vs) Q E s
local macro_rules | `(tactic| k_room) => `(tactic| ktr_room)
local macro_rules | `(tactic| k_units) => `(tactic| ktr_units)
local macro_rules | `(tactic| k_enter) => `(tactic| first
  | (refine' code_def ?k1 ?k2 ?k3 ?k4 ?k5 ?kA ?kF ?kK ?k6 ?k7 ?k8 ?k9 ?kB ?_ ?c2 ?c3 ?c4 ?c5; (case kA => exact rfl); (case kF => exact rfl); (case kK => first | exact rfl | assumption); (case k1 => k_asm); (case k2 => k_asm); (case k3 => k_asm); (case k4 => k_asm); (case k5 => k_asm); (case k6 => k_is); (case k7 => k_is); (case k8 => k_room); (case k9 => first | exact BindsTo.of_eq rfl | exact binds_K (by k_in) rfl (by k_is) rfl rfl rfl | fail "k_enter: no rule for these arguments"); (case c5 => decide); (case kB => exact locs rfl); (case c2 => exact rfl); (case c3 => exact rfl); (case c4 => exact rfl); k_whole; intro g' L' h' FG' F' N' B' X' T'; (try dsimp only); (try k_lift B'); (try k_fold))
  | (refine' code_defC ?k1 ?k2 ?k3 ?k4 ?k5 ?kA ?kF ?kK ?k6 ?k7 ?k8 ?k9 ?kB ?kD ?_ ?c2 ?c3 ?c4; (case kA => exact rfl); (case kF => exact rfl); (case kK => first | exact rfl | assumption); (case k1 => k_asm); (case k2 => k_asm); (case k3 => k_asm); (case k4 => k_asm); (case k5 => k_asm); (case k6 => k_is); (case k7 => k_is); (case k8 => k_room); (case k9 => first | exact BindsTo.of_eq rfl | exact binds_K (by k_in) rfl (by k_is) rfl rfl rfl | fail "k_enter: no rule for these arguments"); (case kB => exact rfl); (case kD => decide +kernel); (case c2 => exact rfl); (case c3 => exact rfl); (case c4 => exact rfl); k_whole; intro g' L' h' tk' cells' FG' F' N' Y' B' X' T' l1; (try k_lt l1); k_cells Y'; (try simp only [List.cons_append, List.nil_append] at N'); (try dsimp only); (try k_lift B'); (try k_fold)))
local macro_rules | `(tactic| walk_at "exec For Name Subscript cons nil") => `(tactic| (k_here; (rename Fr _ _ _ _ => lF'); (with_unfolding_all refine' For_hold lF' ?_; k_whole)))
local macro_rules | `(tactic| walk_at "exec For Name Call cons nil") => `(tactic| (k_here; (rename Fr _ _ _ _ => lF'); (with_unfolding_all refine' For_hold lF' ?_; k_whole)))
local macro_rules | `(tactic| walk_at "exec For Name Tuple cons nil") => `(tactic| (k_here; (rename Fr _ _ _ _ => lF'); (with_unfolding_all refine' For_hold lF' ?_; k_whole)))
local macro_rules | `(tactic| walk_at "exec For Name Name cons nil") => `(tactic| (k_here; (rename Fr _ _ _ _ => lF'); (with_unfolding_all refine' For_hold lF' ?_; k_whole)))
local macro_rules | `(tactic| walk_at "exec For Tuple Name cons nil") => `(tactic| (k_here; (rename Fr _ _ _ _ => lF'); (with_unfolding_all refine' For_hold lF' ?_; k_whole)))
local macro_rules | `(tactic| k_all) => `(tactic| first | with_reducible assumption | exact ne_ge (by with_reducible assumption) (by omega) | exact List.forall_mem_nil _ | (refine' List.forall_mem_cons.mpr ⟨?a, ?b⟩; (case a => k_ne); (case b => k_all)))
local macro_rules | `(tactic| walk_at "call builtin:list.append") => `(tactic| (k_here; (with_reducible show wpAny _ _ (call (Value.builtin _) [Value.ref _, _]) _ _ _); k_dflt (refine' append_K ?k1 ?k2 ?k3 ?_ ?z; (case k1 => k_asm); (case k2 => k_asm); (case k3 => k_upd); (case z => (rw [List.size_toArray, sizeLine_eq]; omega)); k_whole); intro h' F' N'; (try k_sweep)))
local macro_rules | `(tactic| walk_at "CompSrc") => `(tactic| (k_here; refine CompSrc_hold ?_))
local macro_rules | `(tactic| walk_at "SrcLP") => `(tactic| (k_here; refine SrcLP_hold ?_))
local macro_rules | `(tactic| walk_at "getMethod bytes") => `(tactic| (k_here; (with_reducible refine J.method ?_)))
local macro_rules | `(tactic| walk_at "call builtin:bytes.join") => `(tactic| (k_here; k_dflt (refine' J.join_N ?jN ?jm ?jb ?jz ?_; (case jN => k_asm); (case jm => k_mem); (case jb => assumption); (case jz => first | assumption | omega)); intro _ _))
local macro_rules | `(tactic| walk_at "call ref") => `(tactic| (k_here; (with_reducible show wpAny _ _ (call (Value.ref 128) _) _ _ _); k_dflt (refine' c_octets _ _ _ _ _ ?g0 ?g1 _ _ _ _ _ _ _ _ _ _ _ _ _ _ _ _ _ ?k1 ?k2 ?k3 ?k4 ?k5 ?kK ?kd ?ku ?_; (case k1 => k_asm); (case k2 => k_asm); (case k3 => k_asm); (case k4 => k_asm); (case k5 => k_asm); (case kK => first | exact rfl | assumption); (case g0 => kba_bound); (case g1 => kba_bound); (case kd => ktr_room); (case ku => ktr_units); k_whole); intro t' h' tk' F' N'; (try k_sweep)))
local macro_rules | `(tactic| walk_at "call ref") => `(tactic| (k_here; (with_reducible show wpAny _ _ (call (Value.ref 135) _) _ _ _); k_dflt (refine' c_entry _ _ _ _ _ ?g0 ?g1 ?g2 _ _ _ _ _ _ _ _ _ _ _ _ _ _ _ _ _ ?k1 ?k2 ?k3 ?k4 ?k5 ?kK ?kd ?ku ?_; (case k1 => k_asm); (case k2 => k_asm); (case k3 => k_asm); (case k4 => k_asm); (case k5 => k_asm); (case kK => first | exact rfl | assumption); (case g0 => kba_bound); (case g1 => kba_bound); (case g2 => kba_bound); (case kd => ktr_room); (case ku => ktr_units); k_whole); intro t' h' tk' F' N'; (try k_sweep)))
local macro_rules | `(tactic| walk_at "compareOp In int ref") => `(tactic| (k_here; k_dflt (refine in_names (by k_tabat) ?_)))
local macro_rules | `(tactic| walk_at "compareOp NotIn int ref") => `(tactic| (k_here; k_dflt (refine notin_names (by k_tabat) ?_)))
local macro_rules | `(tactic| walk_at "getItem ref int") => `(tactic| (k_here; k_dflt (refine item_names (by k_tabat) (by assumption) ?_); intro _))
local macro_rules | `(tactic| walk_at "call ref") => `(tactic| (k_here; (with_reducible show wpAny _ _ (call (Value.ref 116) _) _ _ _); k_dflt (refine' c_names _  _ _ _ _ _ _ _ _ _ _ _ _ _ _ _ _ _ ?k1 ?k2 ?k3 ?k4 ?k5 ?kK ?kd ?ku ?_; (case k1 => k_asm); (case k2 => k_asm); (case k3 => k_asm); (case k4 => k_asm); (case k5 => k_asm); (case kK => first | exact rfl | assumption);  (case kd => ktr_room); (case ku => ktr_units); k_whole); intro d' o' kvs' h' tk' F' N' l1 lo' hd' hf'; (try k_lt l1)))
local macro_rules | `(tactic| walk_at "binaryOp Add bytes bytes") => `(tactic| (k_here; k_dflt (refine KBy.add_bytes ?bsz ?_; (case bsz => (simp only [Array.size_append, octs_size, byteArr_size, List.length_cons, List.length_nil, List.size_toArray] <;> omega))); intro _ _))
section
variable {w : World} {p : Program} {loose : List Str} {mean : ExcName → Option Value} {mg mb : Str → Option Value} (news : List (Addr × Obj))

set_option maxRecDepth 100000 in
set_option maxHeartbeats 2000000 in
theorem c_entries (l : Addr) (vs : List Value) (ns : List Int) (hi : IntsAre vs ns) (hl : ns.length ≤ 63) :
    CB w p loose mean mg mb 140 news 25 200 [.ref l]
      (fun Q _ base h₀ L m s => base.IsList l vs.toArray ∧ ∀ (l : Addr) (vsE : List Value) (nE : Nat) (own : List (Addr × Obj)) (h' : Heap) (tk' : Nat), Fr h₀ L h' m → News h₀ L h' (own ++ news) → (l, W.listOf vsE.toArray nE) ∈ own → TbOff own news → DatAll (own ++ news) vsE ((ents ns).map entD) → Q (.ref l) { s with heap := h', toks := tk' }) := by
  dsimp only [CB]
  k_fill
  intro dp un gd cn cs a ccd cl outer A₀ base h₀ L m s Q E B F X N T hk hd hu hret
  obtain ⟨hL, hret⟩ := hret
  refine wpAny_call ?_
  k_dflt k_enter
  k_steps
  refine Hold.intro ?_
  dsimp only
  rename_i g' L' h' tk' FG' B' X' T' l1 o' d1' l2 h2' ll h3' D' ws' h4' F4 N4 hI' hC' hL' l4
  have hne : ∀ p ∈ news, p.1 ≠ l2 := fun p hp => Nat.ne_of_lt (Nat.lt_trans (l1 p hp) (by omega))
  have hne2 : ∀ p ∈ news, p.1 ≠ L' + 1 := fun p hp => Nat.ne_of_lt (Nat.lt_trans (l1 p hp) (by omega))
  refine turns_list (m₀ := _) (news := (l2, W.listOf #[] 0) :: (L' + 1, o') :: (D', W.listOf ws'.toArray 0) :: news) rfl (by k_mem) F4 (cb_drop N4 (by kcj_all)) (JEnt l2 (L' + 1) D' (W.listOf ws'.toArray 0) news (ns.take 12)) ?_ ?_ ?_ ?_
  · refine ⟨[], 0, o', _, (D', W.listOf ws'.toArray 0) :: news, [(D', W.listOf ws'.toArray 0)], rfl, d1', .nil, .head _, ⟨rfl, fun p hp => by rw [List.mem_singleton.mp hp]; exact allLt_ne l4.2.2⟩, ?_, ?_, rfl⟩
    · intro p hp; rcases List.mem_cons.mp hp with rfl | hp; (· refine neN ?_; omega); exact hne p hp
    · intro p hp; rcases List.mem_cons.mp hp with rfl | hp; (· refine neN ?_; omega); exact hne2 p hp
  · rintro i m nx ⟨vsE, nE, oC, x, tl, own, rfl, _, _, h, _⟩; exact .tail _ (.tail _ h)
  · rintro i v m₁ nx h tk I oI hv ⟨vsE, nE, oC, x, tl, own, rfl, hx, hD, hDm, hnw, ho1, ho2, hent⟩ hoff F₁ N₁
    have hlen : vsE.length ≤ 12 := by
      have h1 := hD.length
      rw [List.length_map, List.length_take, List.length_take] at h1
      omega
    have hI1 : I ≠ l2 := fun e => hoff _ (.head _) e.symm
    have hI2 : I ≠ L' + 1 := fun e => hoff _ (.tail _ (.head _)) e.symm
    replace F₁ := fr_at F₁ hent
    clear F4 N4
    have hlt : i < (ns.take 12).length := by rw [← hI'.length]; exact (List.getElem?_eq_some_iff.mp hv).1
    obtain ⟨tn, hx'⟩ := hI'.get i _ (List.getElem?_eq_getElem hlt)
    have ev : v = .int ((ns.take 12)[i]) tn := Option.some.inj (hv.symm.trans hx')
    subst ev
    have hni : (ns.take 12)[i]? = some (ns.take 12)[i] := List.getElem?_eq_getElem hlt
    generalize hn : (ns.take 12)[i] = n at hni ⊢
    dsimp only
    show wpAny _ _ _ _ _ _
    k_fold
    k_steps
    · rename_i oC' hcell hpick q0 hlo hhi t1 t2 q4 q5 l5 q6 l1a D9 q7 l1b q8 F9 N9
      refine jent_end (add := [_, _]) F9 N9 hni ?_ hI1 hI2 (by k_all) (by k_all) (by k_all) hcell hD hDm hnw (add2 (allLt_ne l1b.2.2.2.2) (allLt_ne l1a.2.2.2)) ho1 ho2 (fun p hp => hoff p (.tail _ (.tail _ hp))) rfl
      rw [entOf_a hpick]
      exact DatIn.tuple (.head _) (.cons (.int _ _) (.cons (.bytes _ _) (.cons (DatIn.list (vs := []) (.tail _ (.head _)) .nil) (.cons (.bool false) .nil))))
    · refine Hold.intro ?_
      rename_i hA hB hC oC' F5 N5 hcell hpick hF2 tk2 t1 u1 v1 hR F6 N6 hkeep
      generalize hform : n.fdiv 10 = form at *
      have hf4 : 0 ≤ form.fmod 4 ∧ form.fmod 4 < 4 := ⟨Int.fmod_nonneg_of_pos _ (by decide), Int.fmod_lt_of_pos _ (by decide)⟩
      refine LCg.CompSrc.range (by rfl) F6 N6 hR (small_one (by omega) (by omega) (by omega) (by omega)) (rangeSize_nat _ _) (by rw [sizeLine_eq]; omega) ?_
      intro g2
      refine compRest_ind (fun i ys nw => ∃ add, nw = add ++ (I, oI) :: (l2, W.listOf vsE.toArray nE) :: (L' + 1, oC') :: tl ∧ (∀ p ∈ add, ∀ q ∈ (I, oI) :: (l2, W.listOf vsE.toArray nE) :: (L' + 1, oC') :: tl, q.1 < p.1) ∧ DatAll add ys (((rangeKs 0 (form.fmod 4).toNat).take i).map fun k => smallD (smallOf form k))) ⟨[], rfl, fun _ h => (nomatch h), .nil⟩ ?_ ?_
      · rintro j v I2 oI2 C oC2 D2 m₂ ys nw h5 tk5 E5 hj ⟨t5, rfl⟩ ⟨add, rfl, hadd, hD5⟩ hC5 hm5 F7 N7 off ne
        replace N7 : News g' L' h5 ((I2, oI2) :: (C, oC2) :: (D2, LCg.lst ys) :: (L' + 1, oC') :: (add ++ (I, oI) :: (l2, W.listOf vsE.toArray nE) :: (L' + 1, oC') :: tl)) := fun p hp => by
          rcases List.mem_cons.mp hp with rfl | hp
          · exact N7 _ (.head _)
          rcases List.mem_cons.mp hp with rfl | hp
          · exact N7 _ (.tail _ (.head _))
          rcases List.mem_cons.mp hp with rfl | hp
          · exact N7 _ (.tail _ (.tail _ (.head _)))
          rcases List.mem_cons.mp hp with rfl | hp
          · exact N7 _ (.tail _ (.tail _ (.tail _ (List.mem_append.mpr (.inr (.tail _ (.tail _ (.head _))))))))
          · exact N7 _ (.tail _ (.tail _ (.tail _ hp)))
        clear F6 N6 F5 N5 hkeep hR
        generalize hnw : add ++ (I, oI) :: (l2, W.listOf vsE.toArray nE) :: (L' + 1, oC') :: tl = nw at *
        dsimp only
        show wpAny _ _ _ _ _ _
        k_fold
        k_steps
        try k_unfold
        have hall := kst_ltOf (by assumption : _ ∧ _ ∧ _ ∧ _ ∧ AllLt _ nw).2.2.2.2
        refine comp_end_push (by assumption) (by assumption) (by assumption) off trivial ?_
        subst hnw
        refine ⟨_ :: add, rfl, ?_, ?_⟩
        · intro p hp q hq
          rcases List.mem_cons.mp hp with rfl | hp
          · exact hall q (List.mem_append.mpr (.inr hq))
          · exact hadd p hp q hq
        · rw [rangeKs_take_snoc (by omega), List.map_append]
          exact DatAll.append (DatAll.mono (fun p hp => .tail _ hp) hD5) (DatAll.one (DatIn.tuple (.head _) (.cons (.int _ _) (.cons (.bytes _ _) .nil))))
      · rintro ys nw ⟨add, rfl, hadd, hD5⟩
        have e4 : (form.fmod 4 - 0).toNat = (form.fmod 4).toNat := by rw [Int.sub_zero]
        rw [e4, List.take_of_length_le (by rw [rangeKs_length]; exact Nat.le_refl _)] at hD5
        unfold LCg.FinA
        intro D5 h5 tk5 F7 N7 o1
        obtain ⟨N8, p1, p2, p3⟩ := tail_new hadd N7 o1 ho1 ho2 (fun p hp => hoff p (.tail _ (.tail _ hp)))
        have hDm5 : (D5, LCg.lst ys) ∈ (D5, LCg.lst ys) :: (add ++ tl) := .head _
        have hD6 : DatAll ((D5, LCg.lst ys) :: (add ++ tl)) ys _ := DatAll.mono (fun p hp => List.mem_cons_of_mem (D5, LCg.lst ys) (List.mem_append.mpr (.inl hp))) hD5
        have hD7 : DatAll ((D5, LCg.lst ys) :: (add ++ tl)) vsE _ := DatAll.mono (fun p hp => List.mem_cons_of_mem (D5, LCg.lst ys) (List.mem_append.mpr (.inr hp))) hD
        have hDm6 := List.mem_cons_of_mem (D5, LCg.lst ys) (List.mem_append.mpr (.inr hDm) : _ ∈ add ++ tl)
        have hnw6 : (D5, LCg.lst ys) :: (add ++ tl) = ((D5, LCg.lst ys) :: (add ++ own)) ++ news ∧ TbOff ((D5, LCg.lst ys) :: (add ++ own)) news := by
          refine ⟨by rw [hnw.1, List.cons_append, List.append_assoc], ?_⟩
          intro p hp q hq
          have hq' : q ∈ tl := hnw.1 ▸ List.mem_append.mpr (.inr hq)
          rcases List.mem_cons.mp hp with rfl | hp
          · exact off1_ne o1 q (List.mem_append.mpr (.inr (.tail _ (.tail _ (.tail _ hq')))))
          rcases List.mem_append.mp hp with hp | hp
          · exact Nat.ne_of_gt (hadd p hp q (.tail _ (.tail _ (.tail _ hq'))))
          · exact hnw.2 p hp q hq
        generalize (D5, LCg.lst ys) :: (add ++ own) = own6 at hnw6
        clear hD hD5 hDm hnw o1 N7 hadd ho1 ho2 hoff
        generalize htl : (D5, LCg.lst ys) :: (add ++ tl) = tl2 at *
        clear htl F6 N6 F5 N5 hkeep hR
        dsimp only
        show _
        k_steps
        refine Hold.intro ?_
        rename_i h9 t9 h10 tk9 F9 N9
        have e6 : (rangeKs 0 (form.fmod 4).toNat).map (fun k => smallD (smallOf form k)) = (innerOf form).map smallD := by
          unfold innerOf; rw [List.map_map]; rfl
        rw [e6] at hD6
        have hlen6 : ys.length = (innerOf form).length := by have := hD6.length; rwa [List.length_map] at this
        refine LCp.SrcLP.ledger (by rfl) F9 N9 (.tail _ (.tail _ (.tail _ hDm5))) (by rw [List.size_toArray, sizeLine_eq, hlen6]; have := inner_len form; omega) ?_
        intro g3
        refine compRestP_ind (fun i zs nw => nw = (I, oI) :: (l2, W.listOf vsE.toArray nE) :: (L' + 1, oC') :: tl2 ∧ BytesAre zs (((innerOf form).take i).map fun p => entryB p.1 p.2)) ⟨rfl, .nil⟩ ?_ ?_
        · rintro j v zs nw hj hv ⟨rfl, hB⟩
          have hj' : j < (innerOf form).length := by rw [← hlen6]; simpa using hj
          obtain ⟨v', hv', hd'⟩ := hD6.get (k := j) (by rw [List.length_map]; exact hj')
          have ev' : v' = v := by
            have h1 : ys[j]? = some v := by simpa using hv
            rw [hv'] at h1; exact Option.some.inj h1
          subst ev'
          rw [List.getElem_map] at hd'
          obtain ⟨a9, ta, tb, n9, rfl, hm9⟩ := small_inv hd'
          refine ⟨a9, _, _, _, n9, rfl, .tail _ (.tail _ (.tail _ hm9)), rfl, rfl, ?_⟩
          intro I3 oI3 C3 oC3 D3 m3 h11 tk11 E11 hC3 hx3 hy3 F11 N11 off11 ne11
          have hb := small_bd form _ (List.getElem_mem hj')
          generalize hp9 : (innerOf form)[j] = p9 at *
          have hb1 : 0 ≤ p9.1 := by omega
          have hb2 : p9.1 ≤ 255 := by omega
          have hb3 : p9.2.size < 65536 := by omega
          try clear F7
          dsimp only
          show wpAny _ _ _ _ _ _
          k_fold
          k_steps
          refine LCg.CompEnd.intro (by assumption) (by assumption) _ (fun p hp => hp) off11 (.inr ⟨_, .tail _ (.tail _ (.tail _ hDm5)), rfl, _, rfl⟩) ⟨rfl, ?_⟩
          rw [List.take_add_one, List.map_append, List.getElem?_eq_getElem hj', hp9]
          exact hB.snoc _ _
        · rintro zs nw ⟨rfl, hB⟩
          rw [List.size_toArray, hlen6, List.take_length] at hB
          have hjs := innerJ_le form
          have hjs2 : (joinB ((innerOf form).map fun p => entryB p.1 p.2)).size ≤ 16777216 := by omega
          try clear F7
          have hf9 := fmod_bd form (k := 9) (by decide)
          k_steps
          · rename_i q5 q4 q3 q2 q1 o1a t1a k1a t2a k2a q0 q00 h9 q6 h3 q7 l5 q8 l1a q9 t4 q10 b1 b2 b3 b4 t5 q11 t6 q12 q13 t7 q14 q15 q16 D9 q17 l1b q18 F9 N9
            refine jent_end (add := [_, _, _]) F9 N9 hni ?_ hI1 hI2 (by k_all) (by k_all) (by k_all) hcell hD7 hDm6 hnw6 (add3 (allLt_ne l1b.2.2.2.2.2) (allLt_ne l1a.2.2.2.2) (off1_ne o1a.2.2.2)) p1 p2 p3 rfl
            subst hform
            rw [entOf_b hpick h9 h3]
            refine DatIn.tuple (.head _) (.cons (.int _ _) (.cons (.bytes _ _) (.cons (DatIn.list (.tail _ (.tail _ (.tail _ hDm5))) (DatAll.mono (fun p hp => .tail _ (.tail _ (.tail _ hp))) hD6)) (.cons ?_ .nil))))
            rw [decide_eq_true h3]; exact .bool _
          · rename_i q5 q4 q3 q2 q1 o1a t1a k1a t2a k2a q0 q00 h9 q6 h3 q7 D9 q17 l1b q18 F9 N9
            refine jent_end (add := [_, _]) F9 N9 hni ?_ hI1 hI2 (by k_all) (by k_all) (by k_all) hcell hD7 hDm6 hnw6 (add2 (allLt_ne l1b.2.2.2.2) (off1_ne o1a.2.2.2)) p1 p2 p3 rfl
            subst hform
            rw [entOf_c hpick (fun h => h3 h.2)]
            refine DatIn.tuple (.head _) (.cons (.int _ _) (.cons (.bytes _ _) (.cons (DatIn.list (.tail _ (.tail _ hDm5)) (DatAll.mono (fun p hp => .tail _ (.tail _ hp)) hD6)) (.cons ?_ .nil))))
            rw [decide_eq_false h3]; exact .bool _
          · exfalso; contradiction
          · rename_i q5 q4 q3 q2 q1 o1a t1a k1a t2a k2a q0 q00 h9 q6 h3 q7 D9 q17 l1b q18 F9 N9
            refine jent_end (add := [_, _]) F9 N9 hni ?_ hI1 hI2 (by k_all) (by k_all) (by k_all) hcell hD7 hDm6 hnw6 (add2 (allLt_ne l1b.2.2.2.2) (off1_ne o1a.2.2.2)) p1 p2 p3 rfl
            subst hform
            rw [entOf_c hpick (fun h => h9 h.1)]
            refine DatIn.tuple (.head _) (.cons (.int _ _) (.cons (.bytes _ _) (.cons (DatIn.list (.tail _ (.tail _ hDm5)) (DatAll.mono (fun p hp => .tail _ (.tail _ hp)) hD6)) (.cons ?_ .nil))))
            rw [beq_eq_false_iff_ne.mpr h9]; exact .bool _
  · rintro m₁ nx h tk ⟨vsE, nE, oC, x, tl, own, rfl, hx, hD, hDm, hnw, ho1, ho2, hent⟩ F₁ N₁
    replace F₁ := fr_at F₁ hent
    clear F4 N4
    rw [hI'.length, List.take_length] at hD
    k_steps
    rename_i kF kN Tc kX
    have e9 : (l2, W.listOf vsE.toArray nE) :: (L' + 1, oC) :: tl = ((l2, W.listOf vsE.toArray nE) :: (L' + 1, oC) :: own) ++ news := by rw [hnw.1]; rfl
    refine hret l2 vsE nE ((l2, W.listOf vsE.toArray nE) :: (L' + 1, oC) :: own) h tk kF (e9 ▸ kN) (.head _) ?_ ?_
    · intro p hp q hq
      rcases List.mem_cons.mp hp with rfl | hp
      · exact (hne q hq).symm
      rcases List.mem_cons.mp hp with rfl | hp
      · exact (hne2 q hq).symm
      · exact hnw.2 p hp q hq
    · rw [← e9]
      have : ((ents ns).map entD) = ((ns.take 12).map fun n => entD (entOf n)) := by unfold ents; rw [List.map_map]; rfl
      rw [this]
      exact DatAll.mono (fun p hp => .tail _ (.tail _ hp)) hD
end
end Mine
end

section
theorem Mine.rst_X0 {prog : PySem.Program} {w : PySem.World} {A : PySem.Around} {Q : PySem.Flow → PySem.Shared → Prop} {E : PySem.Value → PySem.Shared → Prop} {s : PySem.Shared} {env : PySem.Env} {pos : PySem.Pos} : True ∨ PySem.wpAny (PySem.model prog w) A (PySem.exec (PySem.Stmt.Pass pos) env) Q E s := by
  w_on
  w_top off
  first | (right; walk1; fail) | exact .inl trivial
open PySem PySem.F PySem.W PySem.Calls PyProof.Rows
set_option maxRecDepth 100000
set_option Elab.async false
namespace Mine
abbrev KEb : List Value := [.type "KeyError", .type "LookupError", .type "Exception", .type "BaseException", .type "object"]
theorem ke_mro : mroOf (.type "KeyError") = pure KEb := by rw [mroOf_type]; kernel_rfl

section
variable {M : Model} {A : Around} {E : Value → Shared → Prop} {h : Heap} {g : Array GenState} {d : Drawn} {t : Nat} {os : OsState}
variable {nm q : Str} {C N : Addr} {bs : List Value} {hdct : Bool} {sn : List Str} {sub : List Value} {ab : Bool} {col : Option Bool} {dd : Option Addr} {k0 k1 k2 k3 k5 : Option Value}

theorem ke_check_new {rest : List Value} {Q : Unit → Shared → Prop} (hC : h.get? C = some (excClassObj nm q C N bs KEb hdct sn sub ab col dd k0 k1 k2 k3 k5 "LookupError.__new__"))
    (hq : Q () ⟨h, g, d, t, os⟩) : wpAny M A (checkBuiltinCall "LookupError.__new__" ⟨.ref C :: rest, []⟩) Q E ⟨h, g, d, t, os⟩ := by
  exact wpAny_check_new_subU excBase_LookupError (bmB := KEb) (by decide +kernel) .base hC hq

theorem ke_check_init {e : Addr} {oe : Obj} {rest : List Value} {Q : Unit → Shared → Prop}
    (hC : h.get? C = some (excClassObj nm q C N bs KEb hdct sn sub ab col dd k0 k1 k2 k3 k5 "LookupError.__new__")) (he : h.get? e = some oe) (hcls : oe.cls = .ref C) (hq : Q () ⟨h, g, d, t, os⟩) :
    wpAny M A (checkBuiltinCall "KeyError.__init__" ⟨.ref e :: rest, []⟩) Q E ⟨h, g, d, t, os⟩ := by
  have hcB : (Value.ref C :: KEb).contains (.type "KeyError") = true := by rw [List.contains_cons]; rfl
  have hshort := excClass_KeyError.notStar
  simp only [checkBuiltinCall, excClass_KeyError.initKind, excClass_KeyError.initSplit, excClass_KeyError.initSig]
  repeat (first | (with_reducible refine wpAny_loadPart_at he ?_; rw [hcls]) | with_reducible refine wpAny_loadPart_at hC ?_ | (with_reducible refine wpAny_isSubtype_exc hC ?_; rw [hcB]) | wp_step)
  refine wpAny_onRaise ?_
  rw [show ∀ (a b : String) (n : Nat), Bind.check ⟨.positional, "*", "KeyError", .self, [⟨"args", .varPos, false⟩]⟩ a b n (List.map (fun x => x.fst) ({ pos := Value.ref e :: rest } : Args).kw) = pure () from
    fun a b n => check_star_args _ _ _ _ _ _]
  exact wpAny_pure hq
end

section
variable {prog : Program} {w : World} {A : Around} {R : Result → Shared → Prop} {E : Value → Shared → Prop} {h : Heap} {g : Array GenState} {d : Drawn} {t : Nat} {os : OsState}
variable {nm q : Str} {C N : Addr} {bs : List Value} {hdct : Bool} {sn : List Str} {sub : List Value} {ab : Bool} {col : Option Bool} {dd : Option Addr} {k0 k1 k2 k3 k5 : Option Value}

theorem ke_new {rest : List Value} (hC : h.get? C = some (excClassObj nm q C N bs KEb hdct sn sub ab col dd k0 k1 k2 k3 k5 "LookupError.__new__"))
    (hq : R (.ok (.ret (.ref (h.objs.size + 1)))) ⟨(h.push { cls := .type "tuple", data := .seq rest.toArray }).push
      { cls := .ref C, data := .fields #[.ref h.objs.size, .none, .none, .none, .bool false, .none] }, g, d, t, os⟩) (hrest : rest.length ≤ sizeLine) :
    codeAny (model prog w) A (.builtin "LookupError.__new__" ⟨.ref C :: rest, []⟩) R ⟨h, g, d, t, os⟩ := by
  have F := excBase_LookupError
  have hends := F.ends
  have hcB : (Value.ref C :: KEb).contains (.type "LookupError") = true := by rw [List.contains_cons]; rfl
  have hcA : (Value.ref C :: KEb).contains (.type "AttributeError") = false := by rw [List.contains_cons]; rfl
  have hcN : (Value.ref C :: KEb).contains (.type "NameError") = false := by rw [List.contains_cons]; rfl
  refine codeAny_builtinAt F.entry ?_
  unfold Builtin.«BaseException.__new__»
  refine PySem.wpAt_bind ?_
  show PySem.wpAt _ _ _ (stack >>= _) _ _ _
  refine PySem.wpAt_bind (PySem.wpAt_stack fun p below => PySem.wpAt_of_wpAny ?_)
  wp_walk
  refine PySem.wpAt_of_wpAny ?_
  rw [F.owner]
  repeat (first | with_reducible refine wpAny_madeHere_exc F.canon hC ?_ | with_reducible refine wpAny_loadPart_at hC ?_ | (with_reducible refine wpAny_isSubtype_exc hC ?_; first | rw [hcB] | rw [hcA] | rw [hcN]) | wp_step)
  show R _ _
  rw [Heap.size_push]
  exact hq

theorem ke_type_call {mN : Str → Option Value} {rest : List Value} {Q : Fin → Shared → Prop}
    (hC : h.get? C = some (excClassObj nm q C N bs KEb hdct sn sub ab col dd k0 k1 k2 k3 k5 "LookupError.__new__")) (hn : h.Ns N mN) (hni : mN "__init__" = none)
    (hq : ∀ h' e, Heap.MadeExcOf h h' e (.ref C) rest → Q (.done (.ret (.ref e))) ⟨h', g, d, t, os⟩) (hrest : rest.length ≤ sizeLine) :
    wpAny (model prog w) A (Builtin.«type.__call__» ⟨.ref C :: rest, []⟩) Q E ⟨h, g, d, t, os⟩ := by
  have F := excBase_LookupError
  repeat (first | with_reducible refine wpAny_loadPart_at hC ?_ | with_reducible refine wpAny_madeBy_exc hC ?_ | wp_step)
  refine codeAny_call_builtin_code (Code.quiet_builtin _ F.quiet) (ke_check_new hC ?_)
  refine ke_new hC ?_ hrest
  show wpAny _ _ _ _ _ _
  have hC₁ := Heap.get?_push_of_some { cls := .ref C, data := .fields #[.ref h.objs.size, .none, .none, .none, .bool false, .none] }
    (Heap.get?_push_of_some { cls := .type "tuple", data := .seq rest.toArray } hC)
  have hn₁ : ((h.push { cls := .type "tuple", data := .seq rest.toArray }).push { cls := .ref C, data := .fields #[.ref h.objs.size, .none, .none, .none, .bool false, .none] }).Ns N mN :=
    let ⟨o, es, ep, e, r⟩ := hn; ⟨o, es, ep, Heap.get?_push_of_some _ (Heap.get?_push_of_some _ e), r⟩
  have hget : ((h.push { cls := .type "tuple", data := .seq rest.toArray }).push
      { cls := .ref C, data := .fields #[.ref h.objs.size, .none, .none, .none, .bool false, .none] }).get? (h.objs.size + 1) = some
      { cls := .ref C, data := .fields #[.ref h.objs.size, .none, .none, .none, .bool false, .none] } := by heap_get
  have hcC : (Value.ref C :: KEb).contains (.ref C) = true := by simp
  unfold isInstance
  repeat (first | with_reducible refine wpAny_loadPart_at hget ?_ | (with_reducible refine wpAny_isSubtype_exc hC₁ ?_; rw [hcC]) | wp_step)
  show wpAny _ _ (typeLookup (.ref C) _) _ _ _
  refine wpAny_typeLookup_exc hC₁ hn₁ ke_mro excClass_KeyError.init.lookup ?_
  rw [hni]
  refine wpAny_holding (wpAny_bind (wpAny_of_eq (excClass_KeyError.init.bind _) ?_))
  refine wpAny_bind (wpAny_call (codeAny_call_builtin excClass_KeyError.init.plain excClass_KeyError.initEntry (ke_check_init hC₁ hget rfl ?_)))
  wp_walk
  refine hq _ _ ⟨fun b o hb => ?_, Heap.get?_none_of_le (Nat.le_succ _), h.objs.size + 2, ?_, Heap.get?_none_of_le (by omega), ?_⟩
  · rw [Heap.get?_update_other _ _ (Nat.ne_of_gt (Nat.lt_succ_of_lt (Heap.lt_size hb)))]
    exact Heap.get?_push_of_some _ (Heap.get?_push_of_some _ (Heap.get?_push_of_some _ hb))
  · rw [Heap.get?_update_self _ (Heap.get?_push_of_some _ hget) rfl]
    simp only [Heap.size_push]
    rfl
  · rw [Heap.get?_update_other _ _ (show h.objs.size + 1 ≠ h.objs.size + 2 by omega)]
    exact Heap.get?_push_at (by simp only [Heap.size_push]) rfl

theorem ke_call {mN : Str → Option Value} {rest : List Value} {Q : Value → Shared → Prop}
    (hC : h.get? C = some (excClassObj nm q C N bs KEb hdct sn sub ab col dd k0 k1 k2 k3 k5 "LookupError.__new__")) (hn : h.Ns N mN) (hni : mN "__init__" = none)
    (hq : ∀ h' e, Heap.MadeExcOf h h' e (.ref C) rest → Q (.ref e) ⟨h', g, d, t, os⟩) (hrest : rest.length ≤ sizeLine) :
    wpAny (model prog w) A (call (.ref C) rest) Q E ⟨h, g, d, t, os⟩ := by
  have f1 := tc_lookup
  have f2 := tc_bind (.ref C)
  have hT : (⟨h, g, d, t, os⟩ : Shared).TypeIs (.ref C) "type" := ⟨_, hC, rfl⟩
  refine wpAny_call (codeAny_of_tree ?_)
  show wpAny _ _ (callAny (.ref C) _) _ _ _
  repeat (any_goals (first | assumption | with_reducible refine wpAny_loadPart_at hC ?_ | wp_step))
  refine ⟨rfl, ?_⟩
  refine codeAny_call_builtin_at (Code.quiet_builtin _ (by decide +kernel)) entry_typeCall (wpAny_check_type_call_sub hC (ke_type_call (hrest := hrest) hC hn hni fun h' e hm => ?_))
  exact hq h' e hm

theorem ke_raise {env : Env} {s : Shared} {mN : Str → Option Value} {x : Str} {np cpos pos : Pos} {args : List Expr} {Q : Flow → Shared → Prop}
    (hh : A.handled = none) (hplain : (backTo cpos (starEach args env)).any (·.1) = false) (hni : mN "__init__" = none)
    (h : wpAny (model prog w) A (eval (.Name x np) env) (fun f s₁ => f = .ref C ∧ wpAny (model prog w) A (evalArgs (.ref C) true (backTo cpos (starEach args env)) [])
      (fun a s₂ => a.kw = [] ∧ a.pos.length ≤ sizeLine ∧ s₂.heap.get? C = some (excClassObj nm q C N bs KEb hdct sn sub ab col dd k0 k1 k2 k3 k5 "LookupError.__new__") ∧ s₂.heap.Ns N mN ∧
        ∀ h' e, Heap.MadeExcOf s₂.heap h' e (.ref C) a.pos → E (.ref e) { s₂ with heap := h' }) E s₁) E s) :
    wpAny (model prog w) A (exec (.Raise (some (.Call (.Name x np) args [] cpos)) none pos) env) Q E s := by
  have hbase : KEb.contains (.type "BaseException") = true := by decide +kernel
  rw [arm_exec_Raise]
  (simp only [evalOpt, Option.map]; refine wpAny_bind (wpAny_standAt (wpAny_raiseStmt_made_sub (C := C) (nm := nm) (q := q) (N := N) (bs := bs) (bm := KEb) (hdct := hdct) (sn := sn) (sub := sub) (ab := ab) (col := col) (dd := dd) (k0 := k0) (k1 := k1) (k2 := k2) (k3 := k3) (k5 := k5) (newId := "LookupError.__new__") hbase hh (wpAny_bind (wpAny_mono (wpAny_Call_ofName (wpAny_mono h (fun f s₁ h₁ => ?_) fun _ _ x => x)) (fun v s₃ h₃ => wpAny_bind (wpAny_standAt (wpAny_pure h₃))) fun _ _ x => x)))))
  obtain ⟨rfl, h₁⟩ := h₁
  unfold callWith
  refine wpAny_bind (wpAny_holding (wpAny_mono h₁ (fun a s₂ h₂ => wpAny_bind (wpAny_standAt ?_)) fun _ _ x => x))
  obtain ⟨apos, akw⟩ := a
  obtain ⟨hkw, hlen, hC, hn, h₂⟩ := h₂
  obtain rfl : akw = [] := hkw
  obtain ⟨hp, g, d, tk, os⟩ := s₂
  simp only [hplain]
  refine wpAny_bind (wpAny_keeperOf_exc hC ?_)
  refine wpAny_bind (ke_call (hrest := hlen) hC hn hni fun h' e hm => wpAny_bind (wpAny_holding (wpAny_point (wpAny_pure ?_))))
  obtain ⟨t, ht, _, _⟩ := hm.there
  exact ⟨e, t, rfl, hm.keeps _ _ hC, ht, h₂ h' e hm⟩
end

section
variable {prog : Program} {w : World} {A : Around} {E : Value → Shared → Prop} {s : Shared} {L a : Addr} {h₀ : Heap} {m mg mb : Str → Option Value} {cn : Str} {cs : Scope} {ccd : Value} {cl : List (Str × Addr)}
  {x : Str} {C : Addr} {B newId initId : String} {bm : List Value} {np cpos pos : Pos} {Q : Flow → Shared → Prop} {K : Frag} {p : Program} {loose : List Str}

theorem xr_own {e₀ : Expr} (F : Fr h₀ L s.heap m) (X : K.In h₀) (T : TopRead p loose mg mb h₀) (ex : nsIn K mainGlobals x = some (some (.ref C))) (q : excIn K C bm newId = true) (FB : ExcBaseFacts B newId initId bm) (hh : A.handled = none)
    (h : wpAny (model prog w) A (eval e₀ (envX cn cs L a ccd cl)) (fun v s₂ => (∀ b o, h₀.get? b = some o → s₂.heap.get? b = some o) ∧ ∀ h' e, Heap.MadeExcOf s₂.heap h' e (.ref C) [v] → E (.ref e) { s₂ with heap := h' }) E s)
    (he : starEach [e₀] (envX cn cs L a ccd cl) = [(false, eval e₀ (envX cn cs L a ccd cl))] := by rfl)
    (hk : cs.kind = .function := by rfl) (hx : (envX cn cs L a ccd cl).kindOf x = some .globalImplicit := by rfl) (hd : (x == ("__debug__" : Str)) = false := by decide) :
    wpAny (model prog w) A (exec (.Raise (some (.Call (.Name x np) [e₀] [] cpos)) none pos) (envX cn cs L a ccd cl)) Q E s := by
  obtain ⟨tl, N, nm, q, bs, hdct, sn, sub, ab, col, dd, k0, k1, k2, k3, k5, mN, hC, hN, hni, T'⟩ := (own_of_in X T ex q).obj
  refine wpAny_Raise_call_subT (C := C) (nm := nm) (q := q) (N := N) (bs := bs) (bm := tl) (hdct := hdct) (sn := sn) (sub := sub) (ab := ab) (col := col) (dd := dd) (k0 := k0) (k1 := k1) (k2 := k2) (k3 := k3) (k5 := k5)
    FB (mN := mN) (T'.hasType FB.hasBase) hh (by rw [he]; rfl) hni (nameX_K F X T ex ⟨rfl, ?_⟩ hk hx hd)
  rw [he]
  refine Calls.evalArgs_plain (Calls.spliced_cons (wpAny_mono h (fun v s₂ h₂ => Calls.spliced_nil ⟨rfl, by size_fits, h₂.1 _ _ hC, hN.keeps h₂.1, T'.keeps h₂.1, h₂.2⟩) fun _ _ y => y))

theorem xr_key {e₀ : Expr} (F : Fr h₀ L s.heap m) (X : K.In h₀) (T : TopRead p loose mg mb h₀) (ex : nsIn K mainGlobals x = some (some (.ref C))) 
    (q : ∃ nm q N bs hdct sn sub ab col dd k0 k1 k2 k3 k5, K.lookup C = some (excClassObj nm q C N bs KEb hdct sn sub ab col dd k0 k1 k2 k3 k5 "LookupError.__new__") ∧ nsOkIn K N = true ∧ nsIn K N "__init__" = some none) (hh : A.handled = none)
    (h : wpAny (model prog w) A (eval e₀ (envX cn cs L a ccd cl)) (fun v s₂ => (∀ b o, h₀.get? b = some o → s₂.heap.get? b = some o) ∧ ∀ h' e, Heap.MadeExcOf s₂.heap h' e (.ref C) [v] → E (.ref e) { s₂ with heap := h' }) E s)
    (he : starEach [e₀] (envX cn cs L a ccd cl) = [(false, eval e₀ (envX cn cs L a ccd cl))] := by rfl)
    (hk : cs.kind = .function := by rfl) (hx : (envX cn cs L a ccd cl).kindOf x = some .globalImplicit := by rfl) (hd : (x == ("__debug__" : Str)) = false := by decide) :
    wpAny (model prog w) A (exec (.Raise (some (.Call (.Name x np) [e₀] [] cpos)) none pos) (envX cn cs L a ccd cl)) Q E s := by
  obtain ⟨nm, q, N, bs, hdct, sn, sub, ab, col, dd, k0, k1, k2, k3, k5, hlk, hok, hni⟩ := q
  have hC := X _ _ hlk
  have hN := Heap.Ns.of_isNs (isNs_of_in X hok)
  have hno := nsMap_none_of_in X hok hni
  refine ke_raise (C := C) (nm := nm) (q := q) (N := N) (bs := bs) (hdct := hdct) (sn := sn) (sub := sub) (ab := ab) (col := col) (dd := dd) (k0 := k0) (k1 := k1) (k2 := k2) (k3 := k3) (k5 := k5)
    hh (by rw [he]; rfl) hno (nameX_K F X T ex ⟨rfl, ?_⟩ hk hx hd)
  rw [he]
  refine Calls.evalArgs_plain (Calls.spliced_cons (wpAny_mono h (fun v s₂ h₂ => Calls.spliced_nil ⟨rfl, by size_fits, h₂.1 _ _ hC, hN.keeps h₂.1, h₂.2⟩) fun _ _ y => y))
end
theorem ke44 (w : World) : ∃ nm q N bs hdct sn sub ab col dd k0 k1 k2 k3 k5, (Mine.hd.heap_39 w.params).lookup 44 = some (excClassObj nm q 44 N bs KEb hdct sn sub ab col dd k0 k1 k2 k3 k5 "LookupError.__new__") ∧ nsOkIn (Mine.hd.heap_39 w.params) N = true ∧ nsIn (Mine.hd.heap_39 w.params) N "__init__" = some none :=
  ⟨_, _, _, _, _, _, _, _, _, _, _, _, _, _, _, rfl, by first | k_is | kernel_rfl, by first | k_is | kernel_rfl⟩
theorem re31 (w : World) : excIn (Mine.hd.heap_39 w.params) 31 [.type "RuntimeError", .type "Exception", .type "BaseException", .type "object"] "RuntimeError.__new__" = true := by first | k_exc | k_is | kernel_rfl
theorem ns31 (w : World) : nsIn (Mine.hd.heap_39 w.params) mainGlobals "MalformedTLV" = some (some (.ref 31)) := by first | k_is | kernel_rfl
theorem ns44 (w : World) : nsIn (Mine.hd.heap_39 w.params) mainGlobals "UnknownTypeTLV" = some (some (.ref 44)) := by first | k_is | kernel_rfl
end Mine
end

section
theorem Mine.rst_X1 {prog : PySem.Program} {w : PySem.World} {A : PySem.Around} {Q : PySem.Flow → PySem.Shared → Prop} {E : PySem.Value → PySem.Shared → Prop} {s : PySem.Shared} {env : PySem.Env} {pos : PySem.Pos} : True ∨ PySem.wpAny (PySem.model prog w) A (PySem.exec (PySem.Stmt.Pass pos) env) Q E s := by
  w_on
  w_top off
  first | (right; walk1; fail) | exact .inl trivial
open PySem PySem.W PySem.Spec PySem.Calls PyProof.Rows
set_option Elab.async false
set_option maxRecDepth 100000
namespace Mine
section
variable {M : Model} {A A₀ : Around} {E : Value → Shared → Prop} {s' : Shared} {base g G h : Heap} {outer : List Env} {env : Env} {L e : Addr} {m : Str → Option Value} {cls : Value} {Q : Unit → Shared → Prop} {Qf : Flow → Shared → Prop} {news : List (Addr × Obj)}

theorem x_mem (hf : env.frame = some L) {b : Addr} (hm : b ∈ (env :: outer).filterMap (·.frame)) : b = L ∨ b ∈ outer.filterMap (·.frame) := by
  rw [List.filterMap_cons, hf] at hm
  exact List.mem_cons.mp hm

theorem x_made {vs : List Value} (K : Below A base outer g) (hx : Heap.MadeExcOf h s'.heap e cls vs) (F : Fr g L h m) (N : News g L h news) (hf : env.frame = some L) (hk : env.scope.kind = .function)
    (hQ : ∀ h', RaisedSN base g outer e cls news h' → g.UpToSlots h' → Q () { s' with heap := h' }) :
    wpAny M (A.deeper env) (leaving env (.ref e)) Q E s' := by
  have K' := pushX K F hf hk
  have hin : ∀ v ∈ (env :: outer), ∀ b, v.frame = some b → b ∈ (env :: outer).filterMap (·.frame) := fun v he b hb => List.mem_filterMap.mpr ⟨v, he, hb⟩
  have st : base.StaysIn (hideAll h ((env :: outer).filterMap (·.frame))) := fun b o q => hideAll_get _ (K'.stays b o q) fun hm => by
    rw [(K'.frames.mem hm).1] at q; cases q
  have sg : ∀ b o, g.get? b = some o → b ∉ outer.filterMap (·.frame) → (hideAll h ((env :: outer).filterMap (·.frame))).get? b = some o := fun b o q nm => hideAll_get _ (F.keep b o q) fun hm => by
    rcases x_mem hf hm with z | z
    · rw [z, kts_self F] at q
      cases q
    · exact nm z
  have hl : ∀ q ∈ news, (hideAll h ((env :: outer).filterMap (·.frame))).get? q.1 = some q.2 ∧ g.get? q.1 = none ∧ base.get? q.1 = none := fun q hq => by
    refine ⟨hideAll_get _ (N q hq).1 fun hm => ?_, (N q hq).2.2, fresh_of_stays K.stays (N q hq).2.2⟩
    rcases x_mem hf hm with he | he
    · exact (N q hq).2.1 he
    · obtain ⟨o, ho, _⟩ := (K.frames.mem he).2
      rw [(N q hq).2.2] at ho; cases ho
  exact wpAny_leaves_madeW K'.stack hf (fun b o q => of_hideAll _ q) (funFrames_hide K'.frames hin) hx fun h' t x1 x2 x3 x4 =>
    hQ h' ⟨_, _, st, sg, hl, x1⟩ (((Heap.UpToSlots.of_keeps F.keep).trans (Heap.UpToSlots.of_keeps hx.keeps)).trans x4)

theorem x_on (K : Below A base outer g) (F : Fr g L G m) (R : RaisedSN base G (env :: outer) e cls news s'.heap) (hsm : G.UpToSlots s'.heap) (hf : env.frame = some L)
    (hQ : ∀ h', RaisedSN base g outer e cls news h' → g.UpToSlots h' → Q () { s' with heap := h' }) :
    wpAny M (A.deeper env) (leaving env (.ref e)) Q E s' := by
  obtain ⟨B, a0, hB, hBG, hl, hfl⟩ := R
  exact wpAny_leaves_onW (Around.frames_deeper K.stack) hf hfl fun h' x1 x2 =>
    hQ h' ⟨B, a0, hB, fun b o q nm => hBG b o (F.keep b o q) (fun hm => by
      rcases x_mem hf hm with z | z
      · rw [z, kts_self F] at q
        cases q
      · exact nm z), fun q hq => ⟨(hl q hq).1, kts_none F.keep (hl q hq).2.1, (hl q hq).2.2⟩, x1⟩ ((Heap.UpToSlots.of_keeps F.keep).trans (hsm.trans x2))

theorem x_held (R : RaisedHN base G (env :: outer) L e cls news s'.heap) (F : Fr g L G m) (hsm : G.UpToSlots s'.heap) (hf : env.frame = some L)
    (hQ : ∀ h', RaisedSN base g outer e cls news h' → g.UpToSlots h' → Q () { s' with heap := h' }) :
    wpAny M A (leaving env (.ref e)) Q E s' := by
  obtain ⟨B, a0, hB, hBG, hl, hh⟩ := R
  unfold leaving
  refine wpAny_bind (wpAny_noteFrame_againW hf hh.2.2.2 ?_)
  refine wpAny_landsW hh fun h' hfl hs => ?_
  obtain ⟨k1, k2, ⟨_, _, k3⟩, k4⟩ := hfl
  exact hQ h' ⟨B, a0, hB, fun b o q nm => hBG b o (F.keep b o q) (fun hm => by
    rcases x_mem hf hm with z | z
    · rw [z, kts_self F] at q
      cases q
    · exact nm z), fun q hq => ⟨(hl q hq).1, kts_none F.keep (hl q hq).2.1, (hl q hq).2.2⟩, ⟨k1, k2, k3, k4⟩⟩ ((Heap.UpToSlots.of_keeps F.keep).trans (hsm.trans hs))

theorem x_nil (R : RaisedSN base G (env :: outer) e cls news s'.heap) (hsm : G.UpToSlots s'.heap) (hf : env.frame = some L)
    (k : ∀ h', RaisedHN base G (env :: outer) L e cls news h' → G.UpToSlots h' → E (.ref e) { s' with heap := h' }) :
    wpAny M A (handleBy (.ref e) env []) Qf E s' := by
  obtain ⟨B, a0, hB, hBG, hl, hfl⟩ := R
  obtain ⟨_, _, _, oe, ws, T, oT, ts, he, hc, hd, h1, _⟩ := id hfl
  refine wpAny_handleBy_nil ?_
  unfold PySem.passOn
  rw [hf]
  refine wpAny_bind (wpAny_field he hd h1 ?_)
  rw [if_neg (show ¬ ((Value.ref T == Value.none) = true) from by simp)]
  first
    | exact wpAny_bind (wpAny_pure (wpAny_bind (setFlight_onW hfl fun h' hh hs => wpAny_throw (k h' ⟨B, a0, hB, hBG, hl, hh⟩ (hsm.trans hs)))))
    | exact wpAny_bind (setFlight_onW hfl fun h' hh hs => wpAny_throw (k h' ⟨B, a0, hB, hBG, hl, hh⟩ (hsm.trans hs)))

theorem x_bare {pos : Pos} (hh : A.handled = some (.ref e)) (R : RaisedSN base G (env :: outer) e cls news s'.heap) (hsm : G.UpToSlots s'.heap) (hf : env.frame = some L)
    (k : ∀ h', RaisedHN base G (env :: outer) L e cls news h' → G.UpToSlots h' → E (.ref e) { s' with heap := h' }) :
    wpAny M A (exec (.Raise none none pos) env) Qf E s' := by
  obtain ⟨B, a0, hB, hBG, hl, hfl⟩ := R
  obtain ⟨_, _, _, oe, ws, T, oT, ts, he, hc, hd, h1, _⟩ := id hfl
  rw [arm_exec_Raise]
  refine wpAny_bind (wpAny_standAt ?_)
  unfold raiseStmt
  simp only [evalOpt, Option.map_none]
  refine wpAny_bind (wpAny_handled ?_)
  rw [hh]
  refine wpAny_bind (wpAny_rule ?_)
  refine wpAny_bind (wpAny_field he hd h1 ?_)
  rw [if_neg (show ¬ ((Value.ref T == Value.none) = true) from by simp)]
  rw [hf]
  first
    | exact wpAny_bind (wpAny_pure (wpAny_bind (setFlight_onW hfl fun h' hh hs => wpAny_throw (k h' ⟨B, a0, hB, hBG, hl, hh⟩ (hsm.trans hs)))))
    | exact wpAny_bind (setFlight_onW hfl fun h' hh hs => wpAny_throw (k h' ⟨B, a0, hB, hBG, hl, hh⟩ (hsm.trans hs)))

theorem x_ground (K : Below A₀ base outer g) (F : Fr g L G m) (hf : env.frame = some L) {B h₅ : Heap} (hBG : ∀ b o, G.get? b = some o → b ∉ (env :: outer).filterMap (·.frame) → B.get? b = some o) (hBh : B.StaysIn h₅) (hsm : G.UpToSlots h₅) :
    ∃ g', KtsTurn (outer.filterMap (·.frame)) g g' ∧ Fr g' L h₅ m ∧ Below A₀ base outer g' := by
  have e : (env :: outer).filterMap (·.frame) = (envOf (Str.ofString "") env.scope L 0 .none :: outer).filterMap (·.frame) := by
    rw [List.filterMap_cons, List.filterMap_cons, hf]
    rfl
  exact kts_ground K F (fun b o q nm => hBG b o q (by rw [e]; exact nm)) hBh hsm

theorem x_view (R : RaisedSN base G (env :: outer) e cls news h) (K : Below A₀ base outer g) (F : Fr g L G m) (hsm : G.UpToSlots h) (hf : env.frame = some L) :
    ∃ g', KtsTurn (outer.filterMap (·.frame)) g g' ∧ Fr g' L h m ∧ Below A₀ base outer g' ∧ News g' L h news := by
  obtain ⟨B, a0, hB, hBG, hl, hfl⟩ := R
  have hL : B.get? L = none := by
    obtain ⟨_, ⟨L', _, hf', hn', _⟩, _⟩ := hfl.2.2.1
    obtain rfl : L = L' := Option.some.inj (hf.symm.trans hf')
    exact hn'
  obtain ⟨g₆, T₆, F₆, K₆⟩ := x_ground K F hf hBG hfl.1 hsm
  exact ⟨g₆, T₆, F₆, K₆, fun q hq => ⟨hfl.1 _ _ (hl q hq).1, (fun z => by have := (hl q hq).1; rw [z, hL] at this; cases this), T₆.none_ _ (kts_none F.keep (hl q hq).2.1)⟩⟩
end
end Mine
end

section
theorem Mine.rst_X2 {prog : PySem.Program} {w : PySem.World} {A : PySem.Around} {Q : PySem.Flow → PySem.Shared → Prop} {E : PySem.Value → PySem.Shared → Prop} {s : PySem.Shared} {env : PySem.Env} {pos : PySem.Pos} : True ∨ PySem.wpAny (PySem.model prog w) A (PySem.exec (PySem.Stmt.Pass pos) env) Q E s := by
  w_on
  w_top off
  first | (right; walk1; fail) | exact .inl trivial
open PySem PySem.W PySem.Spec PySem.Calls PyProof.Rows
set_option Elab.async false
set_option maxRecDepth 100000
namespace Mine
structure ExcPair (e T : Addr) (oe oT : Obj) (cls : Value) : Prop where
  ne : T ≠ e
  cls : oe.cls = cls
  data : ∃ vs, oe.data = .fields vs ∧ vs[1]? = some (.ref T)
  tr : ∃ ts, oT.data = .fields ts ∧ ts[3]? = some .none

section
variable {prog : Program} {w : World} {A A₀ : Around} {E : Value → Shared → Prop} {s' : Shared} {base g G h : Heap} {outer : List Env} {L a e : Addr} {m mg mb : Str → Option Value} {cls : Value} {Q : Flow → Shared → Prop} {news : List (Addr × Obj)}
  {cn : Str} {cs : Scope} {ccd : Value} {cl : List (Str × Addr)} {K : Frag} {p : Program} {loose : List Str} {mean : ExcName → Option Value} {x : Str} {C : Value} {np pos : Pos} {b₀ : Stmt} {suite : List Stmt} {hs rest : List ExceptHandler}

theorem x_look (hA : A.frames = some (envX cn cs L a ccd cl :: outer)) (R : RaisedSN base G (envX cn cs L a ccd cl :: outer) e cls news s'.heap) (hsm : G.UpToSlots s'.heap)
    (k : ∀ h', RaisedSN base G (envX cn cs L a ccd cl :: outer) e cls news h' → G.UpToSlots h' → wpAny (model prog w) A (handleBy (.ref e) (envX cn cs L a ccd cl) hs) Q E { s' with heap := h' }) :
    wpAny (model prog w) A (noteFrame (.ref e) (envX cn cs L a ccd cl))
      (fun _ s₂ => wpAny (model prog w) A (setFlight (.ref e) none) (fun _ s₃ => wpAny (model prog w) A (handleBy (.ref e) (envX cn cs L a ccd cl) hs) Q E s₃) E s₂) E s' := by
  obtain ⟨B, a0, hB, hBG, hl, hfl⟩ := R
  refine wpAny_looks_onW hA rfl hfl fun h₄ hheld₄ hsm₄ => ?_
  refine wpAny_landsW hheld₄ fun h₅ hheld hsm₅' => ?_
  exact k h₅ ⟨B, a0, hB, hBG, hl, hheld⟩ (hsm.trans (hsm₄.trans hsm₅'))

theorem x_test {b : Bool} (B : Below A₀ base outer g) (F : Fr g L G m) (R : RaisedSN base G (envX cn cs L a ccd cl :: outer) e cls news s'.heap) (hsm : G.UpToSlots s'.heap) (XB : K.In base) (TB : Top p loose mean mg mb base)
    (ex : nsIn K mainGlobals x = some (some C)) (hx : exmOne K cls C = some b)
    (k : if b then codeAny (model prog w) (A.mark (some (.ref e))) (.handlers (.ref e) [.ExceptHandler none none (b₀ :: suite) pos] (envX cn cs L a ccd cl)) (fun r s₂ => match r with
          | .ok f => Q f s₂
          | .error x => cameBackBy (model prog w) A (envX cn cs L a ccd cl) E x s₂) s'
      else wpAny (model prog w) A (handleBy (.ref e) (envX cn cs L a ccd cl) rest) Q E s')
    (hk : cs.kind = .function := by rfl) (hkx : (envX cn cs L a ccd cl).kindOf x = some .globalImplicit := by rfl) (hd : (x == ("__debug__" : Str)) = false := by decide) :
    wpAny (model prog w) A (handleBy (.ref e) (envX cn cs L a ccd cl) (.ExceptHandler (some (.Name x np)) none (b₀ :: suite) pos :: rest)) Q E s' := by
  have R' := R
  obtain ⟨B₁, _, _, hBG, _, hfl⟩ := R'
  obtain ⟨g₅, T₅, F₅, K₅⟩ := x_ground B F rfl hBG hfl.1 hsm
  have X₅ : K.In g₅ := XB.keeps K₅.stays
  have P₅ : TopRead p loose mg mb g₅ := topRead_of (TB.keeps K₅.stays)
  refine wpAny_handleBy_cons (codeAny_handlers_test (nameX_K F₅ X₅ P₅ ex ((exm_one (X₅.keeps F₅.keep) R.ty hx).here ?_) hk hkx hd)) (by intro q; cases q)
  cases b with
  | true => simp only [if_true] at k ⊢; exact k
  | false => simp only [Bool.false_eq_true, if_false] at k ⊢; exact k

theorem x_hit (B : Below A₀ base outer g) (F : Fr g L G m) (R : RaisedSN base G (envX cn cs L a ccd cl :: outer) e cls news s'.heap) (hsm : G.UpToSlots s'.heap)
    (k : ∀ h' g' T oe oT, KtsTurn (outer.filterMap (·.frame)) g g' → Fr g' L h' m → News g' L h' ((e, oe) :: (T, oT) :: news) → ExcPair e T oe oT cls → (∀ q ∈ news, q.1 ≠ e ∧ q.1 ≠ T) → Below A₀ base outer g' →
      wpAny (model prog w) (A.mark (some (.ref e))) (execs (b₀ :: suite) (envX cn cs L a ccd cl)) Q E { s' with heap := h' })
    (hE : PassesOwnAt (model prog w) (A.mark (some (.ref e))) A (envX cn cs L a ccd cl) E) :
    codeAny (model prog w) (A.mark (some (.ref e))) (.handlers (.ref e) [.ExceptHandler none none (b₀ :: suite) pos] (envX cn cs L a ccd cl)) (fun r s₂ => match r with
          | .ok f => Q f s₂
          | .error x => cameBackBy (model prog w) A (envX cn cs L a ccd cl) E x s₂) s' := by
  refine codeAny_handlers_suite ?_
  obtain ⟨B₁, a0, hB, hBG, hl, hheld⟩ := R
  have hL : B₁.get? L = none := by
    obtain ⟨_, ⟨L', _, hf, hn', _⟩, _⟩ := hheld.2.2.1
    obtain rfl : L = L' := Option.some.inj hf
    exact hn'
  refine lands_againW hheld fun h₆ hfl₆ hsm₆ => ?_
  obtain ⟨g₆, T₆, F₆, K₆⟩ := x_ground B F rfl hBG hfl₆.1 (hsm.trans hsm₆)
  obtain ⟨k1, k2, k3, oe, vs, T, oT, ts, he, ⟨hc, _⟩, hd, h1, hnT, hTe, hT, hdT, h3⟩ := hfl₆
  have fresh : ∀ b o, B₁.get? b = none → h₆.get? b = some o → (∃ vs, o.data = .fields vs) → g.get? b = none := fun b o hb ho ⟨vs, hv⟩ => by
    cases q : g.get? b with
    | none => rfl
    | some o' =>
      exfalso
      by_cases hm : b ∈ (envX cn cs L a ccd cl :: outer).filterMap (·.frame)
      · obtain ⟨o₂, ho₂, hn₂⟩ := (k3.mem hm).2
        rw [ho] at ho₂; cases ho₂
        exact hn₂ _ hv
      · have := hBG b o' (F.keep b o' q) hm
        rw [hb] at this; cases this
  have nfL : ∀ b o, h₆.get? b = some o → (∃ vs, o.data = .fields vs) → b ≠ L := fun b o ho ⟨vs, hv⟩ q => by
    obtain ⟨oL, es, ep, hL', hLd, _⟩ := F₆.ns
    subst q
    rw [ho] at hL'; cases hL'
    rw [hv] at hLd; cases hLd
  have Nl : News g₆ L h₆ news := fun q hq => ⟨k1 _ _ (hl q hq).1, (fun z => by have := (hl q hq).1; rw [z, hL] at this; cases this), T₆.none_ _ (kts_none F.keep (hl q hq).2.1)⟩
  have N₆ : News g₆ L h₆ ((e, oe) :: (T, oT) :: news) := fun q hq => by
    rcases List.mem_cons.mp hq with rfl | hq
    · exact ⟨he, nfL _ _ he ⟨_, hd⟩, T₆.none_ _ (fresh _ _ k2 he ⟨_, hd⟩)⟩
    rcases List.mem_cons.mp hq with rfl | hq
    · exact ⟨hT, nfL _ _ hT ⟨_, hdT⟩, T₆.none_ _ (fresh _ _ hnT hT ⟨_, hdT⟩)⟩
    exact Nl q hq
  exact wpAny_passesOwnAt hE (k h₆ g₆ T oe oT T₆ F₆ N₆ ⟨hTe, hc, ⟨_, hd, h1⟩, ⟨_, hdT, h3⟩⟩ (fun q hq => ⟨fun z => (by have := (hl q hq).1; rw [z, k2] at this; cases this), fun z => (by have := (hl q hq).1; rw [z, hnT] at this; cases this)⟩) K₆)

/-- A bare `raise` behind other statements of the suite. -/
theorem x_again {env : Env} {T : Addr} {oe oT : Obj} {M : Model} (hh : A.handled = some (.ref e)) (hf : env.frame = some L) (hke : env.scope.kind = .function) (B : Below A₀ base outer g) (F : Fr g L s'.heap m) (N : News g L s'.heap ((e, oe) :: (T, oT) :: news)) (P : ExcPair e T oe oT cls) (hne : ∀ q ∈ news, q.1 ≠ e ∧ q.1 ≠ T)
    (k : ∀ h' G, Fr g L G m → RaisedHN base G (env :: outer) L e cls news h' → G.UpToSlots h' → E (.ref e) { s' with heap := h' }) :
    wpAny M A (exec (.Raise none none pos) env) Q E s' := by
  obtain ⟨hTe, hc, ⟨vs, hd, h1⟩, ⟨ts, hdT, h3⟩⟩ := P
  obtain ⟨he, heL, heg⟩ := N (e, oe) (.head _)
  obtain ⟨hT, hTL, hTg⟩ := N (T, oT) (.tail _ (.head _))
  have Nn : News g L s'.heap news := fun q hq => N q (.tail _ (.tail _ hq))
  have B' := pushX B F hf hke
  have h0 : ∃ a0, vs[0]? = some a0 := by
    have : 1 < vs.size := (Array.getElem?_eq_some_iff.mp h1).1
    exact ⟨vs[0], Array.getElem?_eq_getElem (by omega)⟩
  obtain ⟨a0, h0⟩ := h0
  have fe : ∀ b o, s'.heap.get? b = some o → (∃ vs, o.data = .fields vs) → b ∉ (env :: outer).filterMap (·.frame) := fun b o ho ⟨vs, hv⟩ hm => by
    obtain ⟨o₂, ho₂, hn₂⟩ := (B'.frames.mem hm).2
    rw [ho] at ho₂; cases ho₂
    exact hn₂ _ hv
  let Bh := hideAll s'.heap ([e, T] ++ (env :: outer).filterMap (·.frame))
  let Gh := hideAll s'.heap ([e, T] ++ news.map (·.1))
  have hin : ∀ v ∈ (env :: outer), ∀ b, v.frame = some b → b ∈ [e, T] ++ (env :: outer).filterMap (·.frame) := fun v he b hb => List.mem_append_right _ (List.mem_filterMap.mpr ⟨v, he, hb⟩)
  have be : base.get? e = none := fresh_of_stays B.stays heg
  have bT : base.get? T = none := fresh_of_stays B.stays hTg
  have stB : base.StaysIn Bh := fun b o q => hideAll_get _ (B'.stays b o q) fun hm => by
    rcases List.mem_append.mp hm with hm | hm
    · rcases List.mem_cons.mp hm with rfl | hm
      · rw [be] at q; cases q
      · rcases List.mem_singleton.mp hm with rfl
        rw [bT] at q; cases q
    · rw [(B'.frames.mem hm).1] at q; cases q
  have Be : Bh.get? e = none := hideAll_none _ (by simp)
  have BT : Bh.get? T = none := hideAll_none _ (by simp)
  have gG : ∀ b o, g.get? b = some o → Gh.get? b = some o := fun b o q => hideAll_get _ (F.keep b o q) fun hm => by
    rcases List.mem_append.mp hm with hm | hm
    · rcases List.mem_cons.mp hm with rfl | hm
      · rw [heg] at q; cases q
      · rcases List.mem_singleton.mp hm with rfl
        rw [hTg] at q; cases q
    · obtain ⟨r, hr, rfl⟩ := List.mem_map.mp hm
      rw [(Nn r hr).2.2] at q; cases q
  have FG : Fr g L Gh m := by
    obtain ⟨oL, es, ep, hL, hr⟩ := F.ns
    refine ⟨⟨oL, es, ep, hideAll_get _ hL fun hm => ?_, hr⟩, gG, F.above⟩
    rcases List.mem_append.mp hm with hm | hm
    · rcases List.mem_cons.mp hm with q | hm
      · exact heL q.symm
      · exact hTL (List.mem_singleton.mp hm).symm
    · obtain ⟨r, hr, q⟩ := List.mem_map.mp hm
      exact (Nn r hr).2.1 q
  have hBG : ∀ b o, Gh.get? b = some o → b ∉ (env :: outer).filterMap (·.frame) → Bh.get? b = some o := fun b o q nm => hideAll_get _ (of_hideAll _ q) fun hm => by
    rcases List.mem_append.mp hm with hm | hm
    · have z : Gh.get? b = none := hideAll_none _ (List.mem_append_left _ hm)
      rw [q] at z; cases z
    · exact nm hm
  have hl : ∀ q ∈ news, Bh.get? q.1 = some q.2 ∧ Gh.get? q.1 = none ∧ base.get? q.1 = none := fun q hq => by
    refine ⟨hideAll_get _ (Nn q hq).1 fun hm => ?_, hideAll_none _ (List.mem_append_right _ (List.mem_map_of_mem hq)), fresh_of_stays B.stays (Nn q hq).2.2⟩
    rcases List.mem_append.mp hm with hm | hm
    · rcases List.mem_cons.mp hm with z | hm
      · exact (hne q hq).1 z
      · exact (hne q hq).2 (List.mem_singleton.mp hm)
    · rcases x_mem hf hm with z | z
      · exact (Nn q hq).2.1 z
      · obtain ⟨o, ho, _⟩ := (B.frames.mem z).2
        rw [(Nn q hq).2.2] at ho; cases ho
  have hfl : Heap.FlyingW Bh (env :: outer) e cls a0 s'.heap := ⟨fun b o q => of_hideAll _ q, Be, (funFrames_hide B'.frames hin).of_keeps fun b o q _ => ⟨o, q, rfl⟩, oe, vs, T, oT, ts, he, ⟨hc, h0⟩, hd, h1, BT, hTe, hT, hdT, h3⟩
  have hGs : Gh.UpToSlots s'.heap := Heap.UpToSlots.of_keeps fun b o q => of_hideAll _ q
  exact x_bare hh ⟨Bh, a0, stB, hBG, hl, hfl⟩ hGs hf fun h' R' S' => k h' Gh FG R' S'
end

section
variable {prog : Program} {w : World} {A₀ A : Around} {s : Shared} {base h₀ : Heap} {outer : List Env} {L : Addr} {m : Str → Option Value} {env : Env} {news : List (Addr × Obj)}
  {R : Result → Shared → Prop} {name qual : Str} {params : Arguments} {body : List Stmt} {scope : Scope} {cl : List (Str × Addr)} {dV kV doc pm cdv ct : Value} {an : Option Addr} {fo : Obj} {f : Addr} {args : Args} {binds : List (Str × Value)}

def LeaveT (fs : List Addr) (A₀ : Around) (base : Heap) (outer : List Env) (h₀ : Heap) (L : Addr) (m : Str → Option Value) (g : Heap) (R : Result → Shared → Prop) (v : Value) (s' : Shared) : Prop :=
  ∃ g' L' m' news', KtsTurn fs g g' ∧ Fr g' L' s'.heap m' ∧ News g' L' s'.heap news' ∧ ∀ h₀', KtsTurn (outer.filterMap (·.frame)) h₀ h₀' → Fr h₀' L s'.heap m → News h₀' L s'.heap news' → Below A₀ base outer h₀' → R (.ok (.ret v)) s'
theorem leaveT_ {fs : List Addr} {g g' : Heap} {L' : Addr} {m' : Str → Option Value} {news' : List (Addr × Obj)} {v : Value} {s' : Shared} (F' : Fr g' L' s'.heap m') (N' : News g' L' s'.heap news') (T : KtsTurn fs g g')
    (k : ∀ h₀', KtsTurn (outer.filterMap (·.frame)) h₀ h₀' → Fr h₀' L s'.heap m → News h₀' L s'.heap news' → Below A₀ base outer h₀' → R (.ok (.ret v)) s') : LeaveT fs A₀ base outer h₀ L m g R v s' := ⟨g', L', m', news', T, F', N', k⟩

theorem groundT (B : Below A₀ base outer h₀) (F : Fr h₀ L s.heap m) (N : News h₀ L s.heap news) (hA : A.frames = some (env :: outer)) (hf : env.frame = some L) (hke : env.scope.kind = .function) :
    Fr h₀ L (hideAll s.heap (news.map (·.1))) m ∧ Below A base (env :: outer) (hideAll s.heap (news.map (·.1))) ∧ h₀.StaysIn (hideAll s.heap (news.map (·.1))) ∧
      ∀ v s', LeaveT ((env :: outer).filterMap (·.frame)) A₀ base outer h₀ L m (hideAll s.heap (news.map (·.1))) R v s' → R (.ok (.ret v)) s' := by
  obtain ⟨FG, BG, st, _⟩ := groundX (R := R) B F N hA hf hke
  refine ⟨FG, BG, st, fun v s' hl => ?_⟩
  obtain ⟨g', L', m', news', T', F', N', k⟩ := hl
  have nL₀ : h₀.get? L = none := kts_self F
  obtain ⟨oL, es, ep, hLg, hLd, hLk, hLf⟩ := FG.ns
  obtain ⟨sl, hs⟩ := T'.up hLg
  obtain ⟨T₁, S₁⟩ := kts_turn_at (h := s'.heap) (fs := outer.filterMap (·.frame)) (g := h₀)
    (fun b hb => by
      obtain ⟨_, o, ho', _⟩ := B.frames.mem hb
      exact ⟨o, ho'⟩)
    (fun b o e nmem => F'.keep b o (T'.other b o (st b o e) (fun q => by
      rcases x_mem hf q with z | z
      · rw [z, nL₀] at e
        cases e
      · exact nmem z)))
    (fun b o e hm => by
      obtain ⟨sl', hs'⟩ := T'.up (st b o e)
      exact ⟨sl', F'.keep _ _ hs'⟩)
  have B₃ : Below A₀ base outer (ktsHeap s'.heap (outer.filterMap (·.frame)) h₀) := ⟨B.stack, fun b o e => T₁.other b o (B.stays b o e) (fun hm => by
    rw [(B.frames.mem hm).1] at e
    cases e), B.frames.of_keeps fun b o e _ => by
    obtain ⟨sl', hs'⟩ := T₁.up e
    exact ⟨_, hs', rfl⟩⟩
  refine k _ T₁ ⟨⟨_, es, ep, F'.keep _ _ hs, hLd, hLk, hLf⟩, S₁, by rw [T₁.size]; exact F.above⟩ (fun p hp => ⟨(N' p hp).1, fun q => ?_, ?_⟩) B₃
  · have := (N' p hp).2.2; rw [q, hs] at this; cases this
  · refine T₁.none_ _ ?_
    cases q : h₀.get? p.1 with
    | none => rfl
    | some o =>
      obtain ⟨sl', hs'⟩ := T'.up (st _ _ q)
      have := (N' p hp).2.2
      rw [hs'] at this
      cases this

theorem callT_plain (B : Below A₀ base outer h₀) (F : Fr h₀ L s.heap m) (N : News h₀ L s.heap news) (hlim : h₀.NoLimit) (hA : A.frames = some (env :: outer)) (hf : env.frame = some L) (hke : env.scope.kind = .function)
    (ho : s.heap.get? f = some fo) (hd : fo.data = .func (fnX name qual params body scope cl dV kV doc pm an cdv ct)) (hcd : s.heap.CodeRec cdv qual) (hroom : A.depth < recursionLimit)
    (hbind : BindsTo s (fnX name qual params body scope cl dV kV doc pm an cdv ct) args binds) (hloc : ∀ y ∈ binds, scope.names.lookup y.1 = some .local)
    (h : ∀ g L' h₁, Fr h₀ L g m → Fr g L' h₁ (fun y => binds.reverse.lookup y) → News g L' h₁ news → Below A base (env :: outer) g → h₀.StaysIn g → (∀ p ∈ news, p.1 < L') →
      wpAny (model prog w) (A.deeper (envX qual scope L' f cdv cl)) (execs body (envX qual scope L' f cdv cl))
        (fun fl s' => LeaveT ((env :: outer).filterMap (·.frame)) A₀ base outer h₀ L m g R (match fl with | .ret v => v | _ => .none) s')
        (fun e s' => wpAny (model prog w) (A.deeper (envX qual scope L' f cdv cl)) (leaving (envX qual scope L' f cdv cl) e) (fun _ s'' => R (.error e) s'') (fun e' s'' => R (.error e') s'') s')
        { s with heap := h₁, toks := s.toks + binds.length })
    (hcell : ∀ x ∈ scope.names, x.2 ≠ .cell) (hco : scope.isCoroutine = false := by rfl) (hgen : scope.isGenerator = false := by rfl) (hk : scope.kind = .function := by rfl) : codeAny (model prog w) A (.call (.ref f) args) R s := by
  obtain ⟨FG, BG, st, lv⟩ := groundT (R := R) B F N hA hf hke
  refine codeAny_call_def (fd := fnX name qual params body scope cl dV kV doc pm an cdv ct) (body := body) (binds := binds) hroom ho hd (hlim.keeps F.keep) hcd rfl hbind hcell hloc (fun h₁ hns hk₁ => ?_) hco hgen hk
  exact wpAny_mono (h _ s.heap.objs.size h₁ FG ⟨hns, fun b o e => hk₁ b o (of_hideAll _ e), Nat.le_of_eq (hideAll_size _ _)⟩
    (fun p hp => ⟨hk₁ _ _ (N p hp).1, Nat.ne_of_lt (Heap.lt_size (N p hp).1), hideAll_none _ (List.mem_map_of_mem hp)⟩) BG st (fun p hp => Heap.lt_size (N p hp).1)) (fun fl s' hl => lv _ _ hl) fun _ _ y => y

theorem callT_cells (B : Below A₀ base outer h₀) (F : Fr h₀ L s.heap m) (N : News h₀ L s.heap news) (hlim : h₀.NoLimit) (hA : A.frames = some (env :: outer)) (hf : env.frame = some L) (hke : env.scope.kind = .function)
    (ho : s.heap.get? f = some fo) (hd : fo.data = .func (fnX name qual params body scope [] dV kV doc pm an cdv ct)) (hcd : s.heap.CodeRec cdv qual) (hroom : A.depth < recursionLimit)
    (hbind : BindsTo s (fnX name qual params body scope [] dV kV doc pm an cdv ct) args binds)
    (hkind : ∀ n, ∀ x ∈ binds, scope.names.lookup x.1 = some .local ∨ (scope.names.lookup x.1 = some .cell ∧ ((cellsFrom n scope.names []).lookup x.1).isSome = true))
    (hnd : ((cellsFrom 0 scope.names []).map (·.1)).Nodup)
    (h : ∀ g L' h₁ tk cells, Fr h₀ L g m → Fr g L' h₁ (bindL (envOfC qual scope L' f cdv).kindOf binds fun _ => none) → News g L' h₁ (cells ++ news) →
      CellsAre (bindC (envOfC qual scope L' f cdv).kindOf binds fun _ => none) (cellsFrom (L' + 1) scope.names []) cells → Below A base (env :: outer) g → h₀.StaysIn g → (∀ p ∈ news, p.1 < L') →
      wpAny (model prog w) (A.deeper (envOfC qual scope L' f cdv)) (execs body (envOfC qual scope L' f cdv))
        (fun fl s' => LeaveT ((env :: outer).filterMap (·.frame)) A₀ base outer h₀ L m g R (match fl with | .ret v => v | _ => .none) s')
        (fun e s' => wpAny (model prog w) (A.deeper (envOfC qual scope L' f cdv)) (leaving (envOfC qual scope L' f cdv) e) (fun _ s'' => R (.error e) s'') (fun e' s'' => R (.error e') s'') s')
        { s with heap := h₁, toks := tk })
    (hco : scope.isCoroutine = false := by rfl) (hgen : scope.isGenerator = false := by rfl) (hk : scope.kind = .function := by rfl) : codeAny (model prog w) A (.call (.ref f) args) R s := by
  obtain ⟨FG, BG, st, lv⟩ := groundT (R := R) B F N hA hf hke
  refine codeAny_call_function hroom ho hd hco hgen rfl hcd (hbind _ _ _ _ ?_)
  refine wpAny_newFunctionEnv_cells hk (hkind _) fun env' he s' x => ?_
  subst he
  refine ⟨(hlim.keeps F.keep).keeps x.toInCall.keep, codeAny_func ?_⟩
  obtain ⟨h₁, tk, rfl, _⟩ := x.done
  have hk₁ := x.toInCall.keep
  obtain ⟨cells, NC, Y⟩ := Cl.news (h₀ := s.heap) (Nat.le_refl _) fun n c hm => ⟨x.cell n c (lookup_of_mem_nodup (cellsFrom_names scope.names 0 (s.heap.objs.size + 1) [] [] rfl ▸ hnd) hm), x.above n c hm⟩
  refine wpAny_mono (h _ s.heap.objs.size h₁ tk cells FG ⟨x.toInCall.ns, fun b o e => hk₁ b o (of_hideAll _ e), Nat.le_of_eq (hideAll_size _ _)⟩ (fun p hp => ?_) Y BG st (fun p hp => Heap.lt_size (N p hp).1)) (fun fl s' hl => lv _ _ hl) fun _ _ y => y
  rcases List.mem_append.mp hp with hp | hp
  · refine ⟨(NC p hp).1, (NC p hp).2.1, ?_⟩
    cases q : (hideAll s.heap (news.map (·.1))).get? p.1 with
    | none => rfl
    | some o => have := of_hideAll _ q; rw [(NC p hp).2.2] at this; cases this
  · exact ⟨hk₁ _ _ (N p hp).1, Nat.ne_of_lt (Heap.lt_size (N p hp).1), hideAll_none _ (List.mem_map_of_mem hp)⟩
end
end Mine
end

section
theorem Mine.rst_S1 {prog : PySem.Program} {w : PySem.World} {A : PySem.Around} {Q : PySem.Flow → PySem.Shared → Prop} {E : PySem.Value → PySem.Shared → Prop} {s : PySem.Shared} {env : PySem.Env} {pos : PySem.Pos} : True ∨ PySem.wpAny (PySem.model prog w) A (PySem.exec (PySem.Stmt.Pass pos) env) Q E s := by
  w_on
  w_top off
  first | (right; walk1; fail) | exact .inl trivial
open PySem PySem.W PySem.Spec PySem.Calls PyProof.Rows
set_option Elab.async false
set_option maxRecDepth 100000
namespace Mine
/-! What `_pars` computes, on lists of ints. -/
inductive RV | num (n : Int) | flag (b : Bool) | oct (l : List Int)
  deriving DecidableEq
def RV.is : RV → Value → Prop
  | .num n, v => ∃ t, v = .int n t
  | .flag b, v => v = .bool b
  | .oct l, v => ∃ b t, v = .bytes b t ∧ KBw.bInts b = l
def put {κ β : Type} [DecidableEq κ] (l : List (κ × β)) (k : κ) (v : β) : List (κ × β) :=
  if l.any (fun kv => kv.1 = k) then l.map (fun kv => if kv.1 = k then (kv.1, v) else kv) else l ++ [(k, v)]
inductive Rel {κ β : Type} (r : β → Value → Prop) : List (κ × Value) → List (κ × β) → Prop
  | nil : Rel r [] []
  | cons {k v b l m} : r b v → Rel r l m → Rel r ((k, v) :: l) ((k, b) :: m)
def isLoc (n : Int) (v : Value) : Prop := ∃ t, v = .int n t
theorem Rel.keys {κ β : Type} {r : β → Value → Prop} {l : List (κ × Value)} {m : List (κ × β)} (h : Rel r l m) : l.map (·.1) = m.map (·.1) := by
  induction h with
  | nil => rfl
  | cons _ _ ih => simp [ih]
theorem Rel.any {κ β : Type} [DecidableEq κ] {r : β → Value → Prop} {l : List (κ × Value)} {m : List (κ × β)} (h : Rel r l m) (k : κ) : l.any (fun kv => kv.1 = k) = m.any (fun kv => kv.1 = k) := by
  induction h with
  | nil => rfl
  | cons _ _ ih => simp [ih]
theorem Rel.app {κ β : Type} {r : β → Value → Prop} {l l' : List (κ × Value)} {m m' : List (κ × β)} (h : Rel r l m) (h' : Rel r l' m') : Rel r (l ++ l') (m ++ m') := by
  induction h with
  | nil => exact h'
  | cons a _ ih => exact .cons a ih
theorem Rel.put {κ β : Type} [DecidableEq κ] {r : β → Value → Prop} {l : List (κ × Value)} {m : List (κ × β)} (h : Rel r l m) (k : κ) {v : Value} {b : β} (hv : r b v) : Rel r (stored l k v) (put m k b) := by
  unfold stored Mine.put
  rw [h.any k]
  split
  · clear ‹_ = true›
    induction h with
    | nil => exact .nil
    | @cons k' v' b' l m a _ ih =>
      simp only [List.map_cons]
      by_cases e : k' = k
      · simp only [e, if_true]; exact .cons hv ih
      · simp only [e, if_false]; exact .cons a ih
  · exact h.app (.cons hv .nil)
abbrev RS := List (Str × RV)
abbrev LS := List (Str × Int)
inductive Out | ok | bad | unk | crash
  deriving DecidableEq
def kinds : List Int := [1, 2, 3, 4, 5, 32, 33, 34, 35, 36, 37, 38, 48, 224]
abbrev sSSL : Str := Str.ofString "SSL"
abbrev sCli : Str := Str.ofString "SSL_CLIENT"
abbrev sVer : Str := Str.ofString "SSL_VERIFY"
abbrev Res := Out × RS × LS
def parsGo (strict po : Bool) (sub : List Int → Int → RS → LS → Res) : Nat → List Int → Int → Int → RS → LS → Res
  | 0, _, _, _, R, T => (.crash, R, T)
  | _ + 1, [], _, _, R, T => (.ok, R, T)
  | n + 1, k :: r, i, off, R, T =>
    let len := KFB.value (r.take 2)
    let val := (r.drop 2).take len.toNat
    if k ∉ kinds then (.crash, R, T)
    else if (val.length : Int) < len then (.bad, R, T)
    else if strict && !known k then (.unk, R, T)
    else
      let T' := put T (nm k) (off + i)
      let rest := (r.drop 2).drop len.toNat
      if k = 32 then
        match val with
        | [] => (.crash, R, T')
        | c :: v =>
          match sub (v.drop 4) i (put (put R sCli (.num c)) sVer (.num (KFB.value (v.take 4)))) T' with
          | (.ok, R2, T2) => parsGo strict po sub n rest (i + (3 + len)) off (put R2 sSSL (.flag true)) T2
          | (.bad, R2, T2) => if po then (.ok, put R2 sSSL (.flag false), T2) else (.bad, put R2 sSSL (.flag false), T2)
          | (o, R2, T2) => (o, R2, T2)
      else parsGo strict po sub n rest (i + (3 + len)) off (put R (nm k) (.oct val)) T'
def pars (strict po : Bool) : Nat → List Int → Int → RS → LS → Res
  | 0 => fun _ _ R T => (.crash, R, T)
  | d + 1 => fun ks off R T => parsGo strict po (pars strict po d) (ks.length + 1) ks 0 off R T
def names15 : List Str := sCli :: sVer :: kinds.map nm
def KeysIn {β : Type} (l : List (Str × β)) : Prop := ∀ p ∈ l, p.1 ∈ names15
theorem keysIn_put {β : Type} {l : List (Str × β)} (h : KeysIn l) {k : Str} (hk : k ∈ names15) (v : β) : KeysIn (put l k v) := by
  unfold put
  split
  · intro p hp
    obtain ⟨q, hq, rfl⟩ := List.mem_map.mp hp
    split
    · exact h q hq
    · exact h q hq
  · intro p hp
    rcases List.mem_append.mp hp with hp | hp
    · exact h p hp
    · rw [List.mem_singleton.mp hp]; exact hk
theorem nm_in {k : Int} (h : k ∈ kinds) : nm k ∈ names15 := List.mem_cons_of_mem _ (List.mem_cons_of_mem _ (List.mem_map_of_mem h))
theorem ssl_in : sSSL ∈ names15 := nm_in (k := 32) (by decide)
theorem cli_in : sCli ∈ names15 := .head _
theorem ver_in : sVer ∈ names15 := .tail _ (.head _)
def SubOk (sub : List Int → Int → RS → LS → Res) : Prop := ∀ ks i R T, KeysIn R → KeysIn T → KeysIn (sub ks i R T).2.1 ∧ KeysIn (sub ks i R T).2.2
theorem parsGo_keys {strict po : Bool} {sub : List Int → Int → RS → LS → Res} (hs : SubOk sub) : ∀ (n : Nat) (ks : List Int) (i off : Int) (R : RS) (T : LS), KeysIn R → KeysIn T →
    KeysIn (parsGo strict po sub n ks i off R T).2.1 ∧ KeysIn (parsGo strict po sub n ks i off R T).2.2
  | 0, _, _, _, _, _, hR, hT => ⟨hR, hT⟩
  | _ + 1, [], _, _, _, _, hR, hT => ⟨hR, hT⟩
  | n + 1, k :: r, i, off, R, T, hR, hT => by
    unfold parsGo
    dsimp only
    split
    · exact ⟨hR, hT⟩
    rename_i hk
    have hk : k ∈ kinds := Decidable.not_not.mp hk
    split
    · exact ⟨hR, hT⟩
    split
    · exact ⟨hR, hT⟩
    have hT' := keysIn_put hT (nm_in hk) (off + i)
    split
    · split
      · exact ⟨hR, hT'⟩
      · rename_i c v hv
        have hR' := keysIn_put (keysIn_put hR cli_in (RV.num c)) ver_in (RV.num (KFB.value (v.take 4)))
        have z := hs (v.drop 4) i _ _ hR' hT'
        split
        · rename_i R2 T2 e
          rw [e] at z
          exact parsGo_keys hs n _ _ _ _ _ (keysIn_put z.1 ssl_in _) z.2
        · rename_i R2 T2 e
          rw [e] at z
          split
          · exact ⟨keysIn_put z.1 ssl_in _, z.2⟩
          · exact ⟨keysIn_put z.1 ssl_in _, z.2⟩
        · rename_i o R2 T2 _ _ e
          rw [e] at z
          exact z
    · exact parsGo_keys hs n _ _ _ _ _ (keysIn_put hR (nm_in hk) _) hT'
theorem pars_keys (strict po : Bool) : ∀ d, SubOk (pars strict po d)
  | 0 => fun _ _ _ _ hR hT => ⟨hR, hT⟩
  | d + 1 => fun ks off R T hR hT => parsGo_keys (pars_keys strict po d) _ _ _ _ _ _ hR hT
theorem keys_len {kvs : List (Str × Value)} {β : Type} {r : β → Value → Prop} {m : List (Str × β)} (hr : Rel r kvs m) (hk : KeysIn m) (hn : (kvs.map (·.1)).Nodup) : kvs.length ≤ 16 := by
  have := length_le_of_nodup_of_subset _ names15 hn fun x hx => by
    rw [hr.keys] at hx
    obtain ⟨p, hp, rfl⟩ := List.mem_map.mp hx
    exact hk p hp
  rw [List.length_map] at this
  exact this
end Mine
end

section
theorem Mine.rst_S2 {prog : PySem.Program} {w : PySem.World} {A : PySem.Around} {Q : PySem.Flow → PySem.Shared → Prop} {E : PySem.Value → PySem.Shared → Prop} {s : PySem.Shared} {env : PySem.Env} {pos : PySem.Pos} : True ∨ PySem.wpAny (PySem.model prog w) A (PySem.exec (PySem.Stmt.Pass pos) env) Q E s := by
  w_on
  w_top off
  first | (right; walk1; fail) | exact .inl trivial
open PySem PySem.W PySem.Spec PySem.Calls PyProof.Rows PySem.Builtin
set_option Elab.async false
set_option maxRecDepth 100000
namespace Mine
section
variable {prog : Program} {w : World} {A : Around} {E : Value → Shared → Prop} {s : Shared}
theorem fmt02X {k : Int} {t : Tok} {spec : Str} (hX : spec = Str.ofString "02X") (hk : k ∈ kinds) {Q : Value → Shared → Prop} (h : ∀ (y : Str) (t' : Tok) (j : Nat), y.length ≤ 2 → Q (.str y t') { s with toks := j }) :
    wpAny (model prog w) A (formatField (.int k t) spec) Q E s := by
  subst hX
  simp only [kinds, List.mem_cons, List.not_mem_nil, or_false] at hk
  rcases hk with rfl | rfl | rfl | rfl | rfl | rfl | rfl | rfl | rfl | rfl | rfl | rfl | rfl | rfl
  all_goals (refine' KXf.field_int ?kxfs ?kxfa ?kxfb ?kxfc ?_; (case kxfs => kxf_eq); (case kxfa => decide +kernel); (case kxfb => decide +kernel); (case kxfc => k_dflt kxf_run_i))
  all_goals (intro t' j; exact h _ _ _ (by decide +kernel))
end
end Mine
end

section
theorem Mine.rst_S3 {prog : PySem.Program} {w : PySem.World} {A : PySem.Around} {Q : PySem.Flow → PySem.Shared → Prop} {E : PySem.Value → PySem.Shared → Prop} {s : PySem.Shared} {env : PySem.Env} {pos : PySem.Pos} : True ∨ PySem.wpAny (PySem.model prog w) A (PySem.exec (PySem.Stmt.Pass pos) env) Q E s := by
  w_on
  w_top off
  first | (right; walk1; fail) | exact .inl trivial
open PySem PySem.W PySem.Spec PySem.Calls PyProof.Rows PySem.Builtin
set_option Elab.async false
set_option maxRecDepth 100000
namespace Mine
section
variable {prog : Program} {w : World} {A : Around} {E : Value → Shared → Prop} {s : Shared} {g : Heap} {L a : Addr} {m : Str → Option Value} {cn : Str} {cs : Scope} {ccd : Value} {cl : List (Str × Addr)} {k : Int} {t : Tok} {Q : Value → Shared → Prop} {c1 c2 c3 : Nat} {p1 p2 p3 p4 p5 p6 p7 : Pos}
theorem bad_msg (F : Fr g L s.heap m) (hv : m (Str.ofString "typ") = some (.int k t)) (hk : k ∈ kinds) (h : ∀ y t' tk, Q (.str y t') { s with toks := tk }) (hcs : cs.kind = .function) (hx : (envX cn cs L a ccd cl).kindOf (Str.ofString "typ") = some .local) :
    wpAny (model prog w) A (eval (.JoinedStr [.Constant (.str (Str.ofString "TLV 0x")) c1 p1, .FormattedValue (.Name (Str.ofString "typ") p2) (-1) (some (.JoinedStr [.Constant (.str (Str.ofString "02X")) c2 p3] p4)) p5, .Constant (.str (Str.ofString " is malformed!")) c3 p6] p7) (envX cn cs L a ccd cl)) Q E s := by
  have e1 : (Str.ofString "TLV 0x").length = 6 := by decide +kernel
  have e2 : (Str.ofString " is malformed!").length = 14 := by decide +kernel
  have e3 : Str.empty.length = 0 := rfl
  have e4 := sizeLine_eq
  refine JoinedStr_many ?_
  refine joinParts_cons (wpAny_Constant_str ⟨?_, ?_⟩)
  · (simp only [strLen_append]; omega)
  refine joinParts_cons ?_
  refine wpAny_FormattedValue_spec ?_
  refine nameX_L (s := { s with toks := s.toks + 1 }) F hv ?_ hcs hx (by decide)
  refine JoinedStr_one (wpAny_Constant_str ⟨_, _, rfl, ?_⟩)
  refine fmt02X rfl hk fun y t' j hy => ⟨?_, ?_⟩
  · (simp only [strLen_append]; omega)
  with_reducible refine joinParts_consE ?_
  with_reducible refine joinParts_cons ?_
  refine wpAny_Constant_str ⟨?_, ?_⟩
  · (simp only [strLen_append]; omega)
  with_reducible refine joinParts_nilE ?_
  refine joinParts_nil ?hh ?hz
  case hz => simp only [strLen_append]; omega
  case hh =>
    dsimp only
    exact h _ _ _
end
end Mine
end

section
theorem Mine.rst_S4 {prog : PySem.Program} {w : PySem.World} {A : PySem.Around} {Q : PySem.Flow → PySem.Shared → Prop} {E : PySem.Value → PySem.Shared → Prop} {s : PySem.Shared} {env : PySem.Env} {pos : PySem.Pos} : True ∨ PySem.wpAny (PySem.model prog w) A (PySem.exec (PySem.Stmt.Pass pos) env) Q E s := by
  w_on
  w_top off
  first | (right; walk1; fail) | exact .inl trivial
open PySem PySem.W PySem.Spec PySem.Calls PyProof.Rows PySem.Builtin
set_option Elab.async false
set_option maxRecDepth 100000
namespace Mine
section
variable {prog : Program} {w : World} {A : Around} {E : Value → Shared → Prop} {s : Shared}
theorem fmt02Xu {k : Int} {t : Tok} {spec : Str} (hX : spec = Str.ofString "02X") (hk : k ∈ kinds) (hu : known k = false) {Q : Value → Shared → Prop} (h : ∀ (y : Str) (t' : Tok) (j : Nat), Str.ofString "x" ++ y = nm k → y.length ≤ 2 → Q (.str y t') { s with toks := j }) :
    wpAny (model prog w) A (formatField (.int k t) spec) Q E s := by
  subst hX
  have hk2 : k = 38 ∨ k = 224 := by
    simp only [kinds, List.mem_cons, List.not_mem_nil, or_false] at hk
    unfold known at hu
    rw [decide_eq_false_iff_not] at hu
    omega
  rcases hk2 with rfl | rfl
  all_goals (refine' KXf.field_int ?kxfs ?kxfa ?kxfb ?kxfc ?_; (case kxfs => kxf_eq); (case kxfa => decide +kernel); (case kxfb => decide +kernel); (case kxfc => k_dflt kxf_run_i))
  all_goals (intro t' j; exact h _ _ _ (by decide +kernel) (by decide +kernel))
end
end Mine
end

section
theorem Mine.rst_P0 {prog : PySem.Program} {w : PySem.World} {A : PySem.Around} {Q : PySem.Flow → PySem.Shared → Prop} {E : PySem.Value → PySem.Shared → Prop} {s : PySem.Shared} {env : PySem.Env} {pos : PySem.Pos} : True ∨ PySem.wpAny (PySem.model prog w) A (PySem.exec (PySem.Stmt.Pass pos) env) Q E s := by
  w_on
  w_top off
  first | (right; walk1; fail) | exact .inl trivial
open PySem PySem.W PySem.Spec PySem.Calls PyProof.Rows PyProof.V
set_option Elab.async false
namespace Mine
noncomputable def fnBody : Option Obj → List Stmt | some ⟨_, _, .func fd, _⟩ => (match fd.body with | .stmts b => b | _ => []) | _ => []
noncomputable def nestBody : List Stmt → List Stmt | [_, _, .FunctionDef _ _ b _ _ _ _ _ _ _, _, _] => b | _ => []
noncomputable def nestArgs : List Stmt → Arguments | [_, _, .FunctionDef _ a _ _ _ _ _ _ _ _, _, _] => a | _ => ⟨[], [], none, [], [], none, []⟩
noncomputable def nestScope : List Stmt → Scope | [_, _, .FunctionDef _ _ _ _ _ _ sc _ _ _, _, _] => sc | _ => { kind := .function, names := [], isGenerator := false, isCoroutine := false }
noncomputable def parsBody (P : Params) : List Stmt := nestBody (fnBody ((Mine.hd.heap_39 P).lookup 77))
noncomputable def parsArgs (P : Params) : Arguments := nestArgs (fnBody ((Mine.hd.heap_39 P).lookup 77))
noncomputable def parsScope (P : Params) : Scope := nestScope (fnBody ((Mine.hd.heap_39 P).lookup 77))
abbrev parsCl (aP aC aO aR aS aT : Addr) : List (Str × Addr) := [(Str.ofString "tlv_loc", aT), (Str.ofString "strict", aS), (Str.ofString "rslt", aR), (Str.ofString "partial_ok", aO), (Str.ofString "cls", aC), (Str.ofString "_pars", aP)]

structure PC (P : Params) (f c' d2 d1 aT aR aP aS aO aC : Addr) (fo oc kT kR kP kS kO kC : Obj) (strict po : Bool) : Prop where
  fn : ∃ name qual doc pm ctv, fo.data = .func (fnX name qual (parsArgs P) (parsBody P) (parsScope P) (parsCl aP aC aO aR aS aT) .none .none doc pm none (.ref c') ctv) ∧ ∃ vs t, oc.data = .fields vs ∧ vs[1]? = some (.str qual t)
  kT : kT.data = .cell (some (.ref d2))
  kR : kR.data = .cell (some (.ref d1))
  kP : kP.data = .cell (some (.ref f))
  kS : kS.data = .cell (some (.bool strict))
  kO : kO.data = .cell (some (.bool po))
  kC : kC.data = .cell (some (.ref 104))
  ord : @Ne Nat c' d2 ∧ @Ne Nat c' d1 ∧ @LT.lt Nat _ d2 f ∧ @LT.lt Nat _ d1 d2 ∧ @LT.lt Nat _ aT d1 ∧ @LT.lt Nat _ aR aT ∧ @LT.lt Nat _ aP aR ∧ @LT.lt Nat _ aS aP ∧ @LT.lt Nat _ aO aS ∧ @LT.lt Nat _ aC aO
  lo1 : (d1 == sysModules) = false
  lo2 : (d2 == sysModules) = false

abbrev PL (f c' d2 d1 aT aR aP aS aO aC : Addr) (fo oc kT kR kP kS kO kC o1 o2 : Obj) (rest : List (Addr × Obj)) : List (Addr × Obj) :=
  (f, fo) :: (c', oc) :: (d2, o2) :: (d1, o1) :: (aT, kT) :: (aR, kR) :: (aP, kP) :: (aS, kS) :: (aO, kO) :: (aC, kC) :: rest

structure DS (w : World) (o1 o2 : Obj) (R : RS) (T : LS) : Prop where
  d1 : ∃ kv, o1.IsDictOf (PySem.strKind PySem.Challenge.rw_fc0001_01.row.prog w) kv ∧ Rel RV.is kv R
  d2 : ∃ kv, o2.IsDictOf (PySem.strKind PySem.Challenge.rw_fc0001_01.row.prog w) kv ∧ Rel isLoc kv T

def CP (w : World) (p : Program) (loose : List Str) (mean : ExcName → Option Value) (mg mb : Str → Option Value) (d : Nat) : Prop :=
  ∀ (f c' d2 d1 aT aR aP aS aO aC : Addr) (fo oc kT kR kP kS kO kC : Obj) (strict po : Bool), PC w.params f c' d2 d1 aT aR aP aS aO aC fo oc kT kR kP kS kO kC strict po →
  ∀ (rest : List (Addr × Obj)) (o1 o2 : Obj) (R : RS) (T : LS), (∀ q ∈ rest, q.1 < aC) → DS w o1 o2 R T → KeysIn R → KeysIn T →
  ∀ (b : Array UInt8) (t toff : Tok) (off : Int), (KBw.bInts b).length ≤ 1000000 → 0 ≤ off → off ≤ 1000000 → (pars strict po d (KBw.bInts b) off R T).1 ≠ .crash →
  ∀ (dp un : Nat) (gd : Option (List Code)) (cn : Str) (cs : Scope) (a : Addr) (ccd : Value) (cl : List (Str × Addr)) (outer : List Env) (A₀ : Around) (base h₀ : Heap) (L : Addr) (m : Str → Option Value) (s : Shared) (Q E : Value → Shared → Prop),
    Below A₀ base outer h₀ → Fr h₀ L s.heap m → (Mine.hd.heap_39 w.params).In base → Top p loose mean mg mb base → News h₀ L s.heap (PL f c' d2 d1 aT aR aP aS aO aC fo oc kT kR kP kS kO kC o1 o2 rest) → cs.kind = .function →
    dp + 20 * d < recursionLimit → un + 100 * d < cLine →
    ((pars strict po d (KBw.bInts b) off R T).1 = .ok → ∀ h' h₀' tk' o1' o2', KtsTurn (outer.filterMap (·.frame)) h₀ h₀' → Fr h₀' L h' m → News h₀' L h' (PL f c' d2 d1 aT aR aP aS aO aC fo oc kT kR kP kS kO kC o1' o2' rest) → Below A₀ base outer h₀' →
      DS w o1' o2' (pars strict po d (KBw.bInts b) off R T).2.1 (pars strict po d (KBw.bInts b) off R T).2.2 → Q .none { s with heap := h', toks := tk' }) →
    ((pars strict po d (KBw.bInts b) off R T).1 = .bad → ∀ h' e G h₀' tk' o1' o2', KtsTurn (outer.filterMap (·.frame)) h₀ h₀' → Below A₀ base outer h₀' → Fr h₀' L G m → RaisedSN base G (envX cn cs L a ccd cl :: outer) e (.ref 31) (PL f c' d2 d1 aT aR aP aS aO aC fo oc kT kR kP kS kO kC o1' o2' rest) h' → G.UpToSlots h' →
      DS w o1' o2' (pars strict po d (KBw.bInts b) off R T).2.1 (pars strict po d (KBw.bInts b) off R T).2.2 → E (.ref e) { s with heap := h', toks := tk' }) →
    ((pars strict po d (KBw.bInts b) off R T).1 = .unk → ∀ h' e G h₀' tk' o1' o2', KtsTurn (outer.filterMap (·.frame)) h₀ h₀' → Below A₀ base outer h₀' → Fr h₀' L G m → RaisedSN base G (envX cn cs L a ccd cl :: outer) e (.ref 44) (PL f c' d2 d1 aT aR aP aS aO aC fo oc kT kR kP kS kO kC o1' o2' rest) h' → G.UpToSlots h' → E (.ref e) { s with heap := h', toks := tk' }) →
      wpAny (model PySem.Challenge.rw_fc0001_01.row.prog w) (ktrTop dp un gd cn cs L a ccd cl outer) (call (.ref f) [.bytes b t] [(Str.ofString "offset", .int off toff)]) Q E s

theorem whl_hold {prog : Program} {w : World} {A : Around} {E : Value → Shared → Prop} {s : Shared} {env : Env} {test : PySem.Expr} {body orelse : List Stmt} {Q : Flow → Shared → Prop} {pos : Pos}
    (h : Hold (WhlRest prog w A E env test body orelse Q 0 s)) : wpAny (model prog w) A (exec (.While test body orelse pos) env) Q E s := whl_start 0 h
theorem fr_at3 {h₀ : Heap} {L : Addr} {h : Heap} {m : Str → Option Value} {k1 k2 k3 : Str} {v1 v2 v3 : Value} (F : Fr h₀ L h m) (e1 : m k1 = some v1) (e2 : m k2 = some v2) (e3 : m k3 = some v3) :
    Fr h₀ L h (fun y => if y = k3 then some v3 else if y = k2 then some v2 else if y = k1 then some v1 else m y) := by
  have : (fun y => if y = k3 then some v3 else if y = k2 then some v2 else if y = k1 then some v1 else m y) = m := by
    funext y
    by_cases h3 : y = k3
    · rw [if_pos h3, h3, e3]
    by_cases h2 : y = k2
    · rw [if_neg h3, if_pos h2, h2, e2]
    by_cases h1 : y = k1
    · rw [if_neg h3, if_neg h2, if_pos h1, h1, e1]
    · rw [if_neg h3, if_neg h2, if_neg h1]
  rw [this]; exact F
theorem clip_slice (ks : List Int) (a c : Nat) {x y : Int} (hx : x = (a : Int)) (hy : y = ((a + c : Nat) : Int)) : (ks.drop (clipAt ks.length x)).take (clipAt ks.length y - clipAt ks.length x) = (ks.drop a).take c := by
  subst hx hy
  rw [clipAt_nat, clipAt_nat]
  by_cases h : a ≤ ks.length
  · rw [Nat.min_eq_left h]
    apply List.take_eq_take_iff.mpr
    rw [List.length_drop]; omega
  · rw [Nat.min_eq_right (by omega : ks.length ≤ a), List.drop_eq_nil_of_le (by omega : ks.length ≤ a), List.drop_eq_nil_of_le (Nat.le_refl _), List.take_nil, List.take_nil]
theorem value_bd (l : List Int) (h : ∀ x ∈ l, 0 ≤ x ∧ x < 256) : 0 ≤ KFB.value l ∧ KFB.value l < 256 ^ l.length := by
  have key : ∀ (l : List Int) (a : Int), (∀ x ∈ l, 0 ≤ x ∧ x < 256) → 0 ≤ a → 0 ≤ l.foldl (fun a k => a * 256 + k) a ∧ l.foldl (fun a k => a * 256 + k) a < (a + 1) * 256 ^ l.length := by
    intro l
    induction l with
    | nil => intro a _ ha; simp; omega
    | cons x l ih =>
      intro a hx ha
      obtain ⟨h0, h1⟩ := hx x (.head _)
      have := ih (a * 256 + x) (fun y hy => hx y (.tail _ hy)) (by omega)
      refine ⟨this.1, Int.lt_of_lt_of_le this.2 ?_⟩
      rw [List.length_cons, Int.pow_succ]
      have e : (a + 1) * (256 ^ l.length * 256) = ((a + 1) * 256) * 256 ^ l.length := by rw [Int.mul_comm (256 ^ l.length) 256, ← Int.mul_assoc]
      rw [e]
      exact Int.mul_le_mul_of_nonneg_right (by omega) (Int.le_of_lt (Int.pow_pos (by decide)))
  have := key l 0 h (Int.le_refl _)
  unfold KFB.value
  simpa using this
theorem turn_up {A₀ : Around} {base h₀ g g₁ : Heap} {outer : List Env} {env : Env} {L : Addr} {m : Str → Option Value} (B : Below A₀ base outer h₀) (F : Fr h₀ L g m) (hf : env.frame = some L) (T' : KtsTurn ((env :: outer).filterMap (·.frame)) g g₁) :
    ∃ h₀', KtsTurn (outer.filterMap (·.frame)) h₀ h₀' ∧ Below A₀ base outer h₀' ∧ Fr h₀' L g₁ m := by
  have nL₀ : h₀.get? L = none := kts_self F
  obtain ⟨oL, es, ep, hLg, hLd, hLk, hLf⟩ := F.ns
  obtain ⟨sl, hs⟩ := T'.up hLg
  obtain ⟨T₁, S₁⟩ := kts_turn_at (h := g₁) (fs := outer.filterMap (·.frame)) (g := h₀)
    (fun b hb => by
      obtain ⟨_, o, ho', _⟩ := B.frames.mem hb
      exact ⟨o, ho'⟩)
    (fun b o e nmem => T'.other b o (F.keep b o e) (fun q => by
      rcases x_mem hf q with z | z
      · rw [z, nL₀] at e
        cases e
      · exact nmem z))
    (fun b o e hm => T'.up (F.keep b o e))
  exact ⟨_, T₁, ⟨B.stack, fun b o e => T₁.other b o (B.stays b o e) (fun hm => by
    rw [(B.frames.mem hm).1] at e
    cases e), B.frames.of_keeps fun b o e _ => by
    obtain ⟨sl', hs'⟩ := T₁.up e
    exact ⟨_, hs', rfl⟩⟩, ⟨_, es, ep, hs, hLd, hLk, hLf⟩, S₁, by rw [T₁.size]; exact F.above⟩
theorem parsGo_kin {strict po : Bool} {sub : List Int → Int → RS → LS → Res} {n : Nat} {k : Int} {r : List Int} {i off : Int} {R : RS} {T : LS} (h : (parsGo strict po sub (n + 1) (k :: r) i off R T).1 ≠ .crash) : k ∈ kinds := by
  by_cases hk : k ∈ kinds
  · exact hk
  · exfalso; apply h; unfold parsGo; simp only [hk, not_false_eq_true, if_true]
theorem parsGo_bad {strict po : Bool} {sub : List Int → Int → RS → LS → Res} {n ln : Nat} {k : Int} {r : List Int} {i off : Int} {R : RS} {T : LS} (hk : k ∈ kinds) (hl : KFB.value (r.take 2) = ln) (h : ((r.drop 2).take ln).length < ln) :
    parsGo strict po sub (n + 1) (k :: r) i off R T = (.bad, R, T) := by
  unfold parsGo
  dsimp only
  rw [hl, Int.toNat_natCast, if_neg (by simpa using hk), if_pos (by exact_mod_cast h)]
theorem parsGo_unk {strict po : Bool} {sub : List Int → Int → RS → LS → Res} {n ln : Nat} {k : Int} {r : List Int} {i off : Int} {R : RS} {T : LS} (hk : k ∈ kinds) (hl : KFB.value (r.take 2) = ln) (h : ¬ ((r.drop 2).take ln).length < ln) (hs : strict = true) (hu : known k = false) :
    parsGo strict po sub (n + 1) (k :: r) i off R T = (.unk, R, T) := by
  unfold parsGo
  dsimp only
  rw [hl, Int.toNat_natCast, if_neg (by simpa using hk), if_neg (by exact_mod_cast h), hs, hu, if_pos (by decide)]
theorem parsGo_plain {strict po : Bool} {sub : List Int → Int → RS → LS → Res} {n ln : Nat} {k : Int} {r : List Int} {i off : Int} {R : RS} {T : LS} (hk : k ∈ kinds) (hl : KFB.value (r.take 2) = ln) (h : ¬ ((r.drop 2).take ln).length < ln) (hs : (strict && !known k) = false) (h32 : k ≠ 32) :
    parsGo strict po sub (n + 1) (k :: r) i off R T = parsGo strict po sub n ((r.drop 2).drop ln) (i + (3 + ln)) off (put R (nm k) (.oct ((r.drop 2).take ln))) (put T (nm k) (off + i)) := by
  conv => lhs; unfold parsGo
  dsimp only
  rw [hl, Int.toNat_natCast, if_neg (by simpa using hk), if_neg (by exact_mod_cast h), hs, if_neg (by decide), if_neg h32]
theorem parsGo_ssl {strict po : Bool} {sub : List Int → Int → RS → LS → Res} {n ln : Nat} {r : List Int} {i off : Int} {R : RS} {T : LS} {c : Int} {v : List Int} (hl : KFB.value (r.take 2) = ln) (h : ¬ ((r.drop 2).take ln).length < ln) (hv : (r.drop 2).take ln = c :: v) :
    parsGo strict po sub (n + 1) (32 :: r) i off R T = match sub (v.drop 4) i (put (put R sCli (.num c)) sVer (.num (KFB.value (v.take 4)))) (put T (nm 32) (off + i)) with
          | (.ok, R2, T2) => parsGo strict po sub n ((r.drop 2).drop ln) (i + (3 + ln)) off (put R2 sSSL (.flag true)) T2
          | (.bad, R2, T2) => if po then (.ok, put R2 sSSL (.flag false), T2) else (.bad, put R2 sSSL (.flag false), T2)
          | (o, R2, T2) => (o, R2, T2) := by
  conv => lhs; unfold parsGo
  have hkn : known 32 = true := by decide
  dsimp only
  rw [hl, Int.toNat_natCast, if_neg (by decide), if_neg (by exact_mod_cast h), hkn, Bool.not_true, Bool.and_false, if_neg (by decide), if_pos rfl, hv]
  all_goals dsimp only
  all_goals generalize sub (v.drop 4) i (put (put R sCli (.num c)) sVer (.num (KFB.value (v.take 4)))) (put T (nm 32) (off + i)) = z
  all_goals obtain ⟨o, R2, T2⟩ := z
  all_goals cases o <;> rfl
theorem parsGo_ssl_nil {strict po : Bool} {sub : List Int → Int → RS → LS → Res} {n ln : Nat} {r : List Int} {i off : Int} {R : RS} {T : LS} (hl : KFB.value (r.take 2) = ln) (h : ¬ ((r.drop 2).take ln).length < ln) (hv : (r.drop 2).take ln = []) :
    (parsGo strict po sub (n + 1) (32 :: r) i off R T).1 = .crash := by
  conv => lhs; unfold parsGo
  have hkn : known 32 = true := by decide
  dsimp only
  rw [hl, Int.toNat_natCast, if_neg (by decide), if_neg (by exact_mod_cast h), hkn, Bool.not_true, Bool.and_false, if_neg (by decide), if_pos rfl, hv]
structure Box (P : Prop) : Prop where
  out : P
def WhlEnd (St : Nat → Shared → Prop) (n : Nat) (Q : Flow → Shared → Prop) (f : Flow) (s₃ : Shared) : Prop :=
  match f with
  | .ret v => Q (.ret v) s₃
  | .brk => Q .next s₃
  | _ => ∃ n', n' < n ∧ St n' s₃
theorem WhlEnd.next {St : Nat → Shared → Prop} {n n' : Nat} {Q : Flow → Shared → Prop} {s₃ : Shared} (hn : n' < n) (h : St n' s₃) : WhlEnd St n Q .next s₃ := ⟨n', hn, h⟩
theorem WhlEnd.ret {St : Nat → Shared → Prop} {n : Nat} {Q : Flow → Shared → Prop} {s₃ : Shared} {v : Value} (h : Q (.ret v) s₃) : WhlEnd St n Q (.ret v) s₃ := h
theorem whl_ind {prog : Program} {w : World} {A : Around} {E : Value → Shared → Prop} {env : Env} {test : PySem.Expr} {body : List Stmt} {Q : Flow → Shared → Prop} {St : Nat → Shared → Prop}
    (hE : PassesOwn (model prog w) A env E)
    (turn : ∀ n s, St n s → wpAny (model prog w) A (isTrue test env (eval test env)) (fun b s₂ => WhlIf b (wpAny (model prog w) A (execs body env) (WhlEnd St n Q) E s₂) (Q .next s₂)) E s) :
    ∀ n s, St n s → WhlRest prog w A E env test body [] Q 0 s := by
  intro n
  induction n using Nat.strongRecOn with
  | _ n ih =>
    intro s hs
    refine whl_turn (k := 0) hE (wpAny_mono (turn n s hs) (fun b s₂ h => ?_) fun _ _ x => x)
    cases b with
    | true =>
      have h' : wpAny (model prog w) A (execs body env) (WhlEnd St n Q) E s₂ := h
      refine WhlIf.yes rfl (wpAny_mono h' (fun f s₃ h₃ => ?_) fun _ _ x => x)
      cases f with
      | next => obtain ⟨n', hn, h₄⟩ := h₃; exact ih n' hn s₃ h₄
      | cont => obtain ⟨n', hn, h₄⟩ := h₃; exact ih n' hn s₃ h₄
      | brk => exact h₃
      | ret v => exact h₃
    | false =>
      have h' : Q .next s₂ := h
      exact WhlIf.no rfl (wpAny_execs_nil h')
end Mine
end

section
theorem Mine.rst_P2 {prog : PySem.Program} {w : PySem.World} {A : PySem.Around} {Q : PySem.Flow → PySem.Shared → Prop} {E : PySem.Value → PySem.Shared → Prop} {s : PySem.Shared} {env : PySem.Env} {pos : PySem.Pos} : True ∨ PySem.wpAny (PySem.model prog w) A (PySem.exec (PySem.Stmt.Pass pos) env) Q E s := by
  w_on
  w_top off
  first | (right; walk1; fail) | exact .inl trivial
open PySem PySem.W PySem.Spec PySem.Calls PyProof.Rows PyProof.V
set_option Elab.async false
namespace Mine
noncomputable def getExpr (P : Params) : PySem.Expr := match parsBody P with | [_, .While _ (_ :: _ :: _ :: _ :: .Assign _ e _ :: _) _ _] => e | _ => .Constant .none 0 ⟨0, 0, 0, 0⟩
section
variable {w : World} {p : Program} {loose : List Str} {mean : ExcName → Option Value} {mg mb : Str → Option Value} {E : Value → Shared → Prop} {s : Shared} {g : Heap} {L f : Addr} {m : Str → Option Value} {k : Int} {t : Tok} {Q : Value → Shared → Prop} {qual : Str} {cdv : Value} {aP aC aO aR aS aT : Addr} {kC : Obj} {news : List (Addr × Obj)}
local macro_rules | `(tactic| walk_at "eval Name") => `(tactic| (k_here; (first | (with_reducible show wpAny _ _ (eval (Expr.Name (Str.ofString "cls") _) _) _ _ _) | (with_reducible show wpAny _ _ (eval (Expr.Name (Str.ofString "partial_ok") _) _) _ _ _) | (with_reducible show wpAny _ _ (eval (Expr.Name (Str.ofString "rslt") _) _) _ _ _) | (with_reducible show wpAny _ _ (eval (Expr.Name (Str.ofString "strict") _) _) _ _ _) | (with_reducible show wpAny _ _ (eval (Expr.Name (Str.ofString "tlv_loc") _) _) _ _ _) | (with_reducible show wpAny _ _ (eval (Expr.Name (Str.ofString "_pars") _) _) _ _ _)); k_dflt (refine' nameX_F ?N ?c ?m ?d ?_ ?a ?b ?e ?f; (case a => rfl); (case b => rfl); (case e => decide); (case f => decide); (case N => k_asm); (case c => rfl); (case m => k_mem); (case d => with_reducible assumption); k_whole)))
local macro_rules | `(tactic| walk_at "call builtin:dict.get") => `(tactic| (k_here; refine call_get1_intTab (by k_tabat) ?_; intro v hv; refine Hold.intro ?_))
set_option maxHeartbeats 400000 in
theorem get_name (A : Around) (E : Value → Shared → Prop) (F0 : Fr g L s.heap m) (hv : m (Str.ofString "typ") = some (.int k t)) (X : (Mine.hd.heap_39 w.params).In g) (T : Top p loose mean mg mb g) (N0 : News g L s.heap news) (hm : (aC, kC) ∈ news) (hkC : kC.data = .cell (some (.ref 104)))
    (h : ∀ v tk, (if known k then ∃ t', v = .str (nm k) t' else v = .none) → Q v { s with toks := tk }) :
    wpAny (model PySem.Challenge.rw_fc0001_01.row.prog w) A (eval (getExpr w.params) (envX qual (parsScope w.params) L f cdv (parsCl aP aC aO aR aS aT))) Q E s := by
  have N : News g L s.heap [(aC, kC)] := fun q hq => N0 q (by rw [List.mem_singleton.mp hq]; exact hm)
  have F := fr_at F0 hv
  clear F0 hv N0 hm
  revert X
  k_fill
  intro X
  generalize hps : parsScope w.params = scope
  conv at hps => lhs; whnf
  subst hps
  generalize hge : getExpr w.params = ge
  conv at hge => lhs; whnf
  subst hge
  k_steps
  all_goals (refine h _ _ ?_)
  all_goals first
    | (rw [if_neg (by unfold known; rw [decide_eq_true_eq]; omega)])
    | (subst_vars; rw [if_pos (by decide)]; exact ⟨_, congrArg (fun x => Value.str x _) (by decide +kernel)⟩)
end
end Mine
end

section
theorem Mine.rst_P3 {prog : PySem.Program} {w : PySem.World} {A : PySem.Around} {Q : PySem.Flow → PySem.Shared → Prop} {E : PySem.Value → PySem.Shared → Prop} {s : PySem.Shared} {env : PySem.Env} {pos : PySem.Pos} : True ∨ PySem.wpAny (PySem.model prog w) A (PySem.exec (PySem.Stmt.Pass pos) env) Q E s := by
  w_on
  w_top off
  first | (right; walk1; fail) | exact .inl trivial
open PySem PySem.W PySem.Spec PySem.Calls PyProof.Rows PyProof.V
set_option Elab.async false
namespace Mine
local macro_rules | `(tactic| k_room) => `(tactic| ktr_room)
local macro_rules | `(tactic| k_units) => `(tactic| ktr_units)
local macro_rules | `(tactic| k_enter) => `(tactic| first
  | (refine' code_def ?k1 ?k2 ?k3 ?k4 ?k5 ?kA ?kF ?kK ?k6 ?k7 ?k8 ?k9 ?kB ?_ ?c2 ?c3 ?c4 ?c5; (case kA => exact rfl); (case kF => exact rfl); (case kK => first | exact rfl | assumption); (case k1 => k_asm); (case k2 => k_asm); (case k3 => k_asm); (case k4 => k_asm); (case k5 => k_asm); (case k6 => k_is); (case k7 => k_is); (case k8 => k_room); (case k9 => first | exact BindsTo.of_eq rfl | exact binds_K (by k_in) rfl (by k_is) rfl rfl rfl | fail "k_enter: no rule for these arguments"); (case c5 => decide); (case kB => exact locs rfl); (case c2 => exact rfl); (case c3 => exact rfl); (case c4 => exact rfl); k_whole; intro g' L' h' FG' F' N' B' X' T'; (try dsimp only); (try k_lift B'); (try k_fold))
  | (refine' code_defC ?k1 ?k2 ?k3 ?k4 ?k5 ?kA ?kF ?kK ?k6 ?k7 ?k8 ?k9 ?kB ?kD ?_ ?c2 ?c3 ?c4; (case kA => exact rfl); (case kF => exact rfl); (case kK => first | exact rfl | assumption); (case k1 => k_asm); (case k2 => k_asm); (case k3 => k_asm); (case k4 => k_asm); (case k5 => k_asm); (case k6 => k_is); (case k7 => k_is); (case k8 => k_room); (case k9 => first | exact BindsTo.of_eq rfl | exact binds_K (by k_in) rfl (by k_is) rfl rfl rfl | fail "k_enter: no rule for these arguments"); (case kB => exact rfl); (case kD => decide +kernel); (case c2 => exact rfl); (case c3 => exact rfl); (case c4 => exact rfl); k_whole; intro g' L' h' tk' cells' FG' F' N' Y' B' X' T' l1; (try k_lt l1); k_cells Y'; (try simp only [List.cons_append, List.nil_append] at N'); (try dsimp only); (try k_lift B'); (try k_fold)))
noncomputable def restBody (P : Params) : List Stmt := match parsBody P with | [_, .While _ b _ _] => b.drop 6 | _ => []
local macro_rules | `(tactic| walk_at "exec For Name Subscript cons nil") => `(tactic| (k_here; (rename Fr _ _ _ _ => lF'); (with_unfolding_all refine' For_hold lF' ?_; k_whole)))
local macro_rules | `(tactic| walk_at "exec For Name Call cons nil") => `(tactic| (k_here; (rename Fr _ _ _ _ => lF'); (with_unfolding_all refine' For_hold lF' ?_; k_whole)))
local macro_rules | `(tactic| walk_at "exec For Name Tuple cons nil") => `(tactic| (k_here; (rename Fr _ _ _ _ => lF'); (with_unfolding_all refine' For_hold lF' ?_; k_whole)))
local macro_rules | `(tactic| walk_at "exec For Name Name cons nil") => `(tactic| (k_here; (rename Fr _ _ _ _ => lF'); (with_unfolding_all refine' For_hold lF' ?_; k_whole)))
local macro_rules | `(tactic| walk_at "exec For Tuple Name cons nil") => `(tactic| (k_here; (rename Fr _ _ _ _ => lF'); (with_unfolding_all refine' For_hold lF' ?_; k_whole)))
local macro_rules | `(tactic| k_all) => `(tactic| first | with_reducible assumption | exact ne_ge (by with_reducible assumption) (by omega) | exact List.forall_mem_nil _ | (refine' List.forall_mem_cons.mpr ⟨?a, ?b⟩; (case a => k_ne); (case b => k_all)))
local macro_rules | `(tactic| walk_at "call builtin:list.append") => `(tactic| (k_here; (with_reducible show wpAny _ _ (call (Value.builtin _) [Value.ref _, _]) _ _ _); k_dflt (refine' append_K ?k1 ?k2 ?k3 ?_ ?z; (case k1 => k_asm); (case k2 => k_asm); (case k3 => k_upd); (case z => (rw [List.size_toArray, sizeLine_eq]; omega)); k_whole); intro h' F' N'; (try k_sweep)))
local macro_rules | `(tactic| walk_at "eval Name") => `(tactic| (k_here; (first | (with_reducible show wpAny _ _ (eval (Expr.Name (Str.ofString "cls") _) _) _ _ _) | (with_reducible show wpAny _ _ (eval (Expr.Name (Str.ofString "partial_ok") _) _) _ _ _) | (with_reducible show wpAny _ _ (eval (Expr.Name (Str.ofString "rslt") _) _) _ _ _) | (with_reducible show wpAny _ _ (eval (Expr.Name (Str.ofString "strict") _) _) _ _ _) | (with_reducible show wpAny _ _ (eval (Expr.Name (Str.ofString "tlv_loc") _) _) _ _ _) | (with_reducible show wpAny _ _ (eval (Expr.Name (Str.ofString "_pars") _) _) _ _ _)); k_dflt (refine' nameX_F ?N ?c ?m ?d ?_ ?a ?b ?e ?f; (case a => rfl); (case b => rfl); (case e => decide); (case f => decide); (case N => k_asm); (case c => rfl); (case m => k_mem); (case d => with_reducible assumption); k_whole)))
theorem set_put {w : World} {A : Around} {E : Value → Shared → Prop} {s : Shared} {g : Heap} {L d : Addr} {m : Str → Option Value} {news : List (Addr × Obj)} {ga : Obj → List (Addr × Obj)} {o : Obj} {β : Type} {r : β → Value → Prop} {M : List (Str × β)} {k : Str} {tk : Tok} {v : Value} {b : β} {Q : Unit → Shared → Prop}
    (F : Fr g L s.heap m) (N : News g L s.heap news) (U : UpdF d o news ga) (hd : ∃ kv, o.IsDictOf (PySem.strKind PySem.Challenge.rw_fc0001_01.row.prog w) kv ∧ Rel r kv M) (hK : KeysIn M) (hv : r b v)
    (h : ∀ h' o', Fr g L h' m → News g L h' (ga o') → (∃ kv, o'.IsDictOf (PySem.strKind PySem.Challenge.rw_fc0001_01.row.prog w) kv ∧ Rel r kv (put M k b)) → Q () { s with heap := h', toks := s.toks + 1 }) :
    wpAny (model PySem.Challenge.rw_fc0001_01.row.prog w) A (setItem (.ref d) (.str k tk) v) Q E s := by
  obtain ⟨kv, hkv, hr⟩ := hd
  refine kda_set F N U hkv (strKind_is _ _ _ _) ?_ (fun h' o' F' N' hd' => h h' o' F' N' ⟨_, hd', hr.put k hv⟩)
  obtain ⟨_, _, _, _, _, _, hn⟩ := id hkv
  have := keys_len hr hK hn
  rw [sizeLine_eq]; omega
local macro_rules | `(tactic| walk_at "setItem ref str") => `(tactic| (k_here; k_dflt (refine' set_put ?F ?N ?U ?d ?K ?v ?_; (case F => k_asm); (case N => k_asm); (case U => k_updF); (case d => with_reducible assumption); (case K => with_reducible assumption); (case v => first | exact (⟨_, rfl⟩ : isLoc _ _) | exact (show RV.is (.num _) _ from ⟨_, rfl⟩) | exact (show RV.is (.flag _) _ from rfl) | exact (show RV.is (.oct _) _ from ⟨_, _, rfl, by with_reducible assumption⟩))); intro h' o' F' N' hd'; (try dsimp only at N')))
local macro_rules | `(tactic| walk_at "loadName") => `(tactic| (k_here; (with_reducible rename Fr _ _ _ _ => lnF); k_dflt (refine' wpAny_loadName_local ?a ?b (Fr.ns lnF) ?v ?_; (case a => rfl); (case b => rfl); (case v => rfl))))
section
variable {w : World} {p : Program} {loose : List Str} {mean : ExcName → Option Value} {mg mb : Str → Option Value} {A : Around} {E : Value → Shared → Prop} {s : Shared} {g base : Heap} {L f : Addr} {m : Str → Option Value} {k off : Int} {j ln : Nat} {ti to_ tl tv tn : Tok} {Q : Flow → Shared → Prop} {qual : Str} {cdv : Value} {bv : Array UInt8} {vl : List Int}
  {c' d2 d1 aT aR aP aS aO aC : Addr} {fo oc kT kR kP kS kO kC o1 o2 : Obj} {strict po : Bool} {rest : List (Addr × Obj)} {R : RS} {T : LS}
set_option maxHeartbeats 400000 in
theorem rest_plain (F0 : Fr g L s.heap m) (h1 : m (Str.ofString "offset") = some (.int off to_)) (h2 : m (Str.ofString "i") = some (.int j ti)) (h3 : m (Str.ofString "len_") = some (.int ln tl)) (h4 : m (Str.ofString "val") = some (.bytes bv tv)) (h5 : m (Str.ofString "typ_name") = some (.str (nm k) tn))
    (X : (Mine.hd.heap_39 w.params).In g) (Tp : Top p loose mean mg mb g) (N : News g L s.heap (PL f c' d2 d1 aT aR aP aS aO aC fo oc kT kR kP kS kO kC o1 o2 rest))
    (hkT : kT.data = .cell (some (.ref d2))) (hkR : kR.data = .cell (some (.ref d1)))
    (hoff : 0 ≤ off ∧ off ≤ 1000000) (hj : j ≤ 1000000) (hln : ln ≤ 65536) (hbv : KBw.bInts bv = vl) (hds1 : ∃ kv, o1.IsDictOf (PySem.strKind PySem.Challenge.rw_fc0001_01.row.prog w) kv ∧ Rel RV.is kv R) (hds2 : ∃ kv, o2.IsDictOf (PySem.strKind PySem.Challenge.rw_fc0001_01.row.prog w) kv ∧ Rel isLoc kv T) (hK1 : KeysIn R) (hK2 : KeysIn T)
    (hk : k ≠ 32) (hkin : k ∈ kinds) (hord : @Ne Nat c' d2 ∧ @Ne Nat c' d1 ∧ @LT.lt Nat _ d2 f ∧ @LT.lt Nat _ d1 d2 ∧ @LT.lt Nat _ aT d1 ∧ @LT.lt Nat _ aR aT ∧ @LT.lt Nat _ aP aR ∧ @LT.lt Nat _ aS aP ∧ @LT.lt Nat _ aO aS ∧ @LT.lt Nat _ aC aO) (hrest : ∀ q ∈ rest, q.1 < aC)
    (h : ∀ h' tk ti' m' o1' o2', Fr g L h' m' → News g L h' (PL f c' d2 d1 aT aR aP aS aO aC fo oc kT kR kP kS kO kC o1' o2' rest) → m' (Str.ofString "i") = some (.int (j + (3 + ln)) ti') → m' (Str.ofString "offset") = some (.int off to_) → m' (Str.ofString "chunk") = m (Str.ofString "chunk") →
      DS w o1' o2' (put R (nm k) (.oct vl)) (put T (nm k) (off + j)) → Q .next { s with heap := h', toks := tk }) :
    wpAny (model PySem.Challenge.rw_fc0001_01.row.prog w) A (execs (restBody w.params) (envX qual (parsScope w.params) L f cdv (parsCl aP aC aO aR aS aT))) Q E s := by
  revert X
  k_fill
  intro X
  generalize hps : parsScope w.params = scope
  conv at hps => lhs; whnf
  subst hps
  generalize hrb : restBody w.params = rb
  conv at hrb => lhs; whnf
  subst hrb
  have hne : (nm k == Str.ofString "SSL") = false := by
    simp only [kinds, List.mem_cons, List.not_mem_nil, or_false] at hkin
    rcases hkin with rfl | rfl | rfl | rfl | rfl | rfl | rfl | rfl | rfl | rfl | rfl | rfl | rfl | rfl <;> first | (exact absurd rfl hk) | decide +kernel
  have F := fr_at3 (fr_at3 F0 h1 h2 h3) (k1 := Str.ofString "val") (k2 := Str.ofString "typ_name") (k3 := Str.ofString "typ_name") (by rw [if_neg (by decide), if_neg (by decide), if_neg (by decide)]; exact h4) (by rw [if_neg (by decide), if_neg (by decide), if_neg (by decide)]; exact h5) (by rw [if_neg (by decide), if_neg (by decide), if_neg (by decide)]; exact h5)
  clear F0 h1 h2 h3 h4 h5
  replace h := Box.mk h
  repeat' (first | (k_unfold; (try dsimp only)) | ((fail_if_success (with_reducible show (ite _ _ _))); first | walk1 | (dsimp only; walk1) | (leave1; try dsimp only)))
  rw [hne, if_neg (by decide)]
  repeat' (first | (k_unfold; (try dsimp only)) | ((fail_if_success (with_reducible show (ite _ _ _))); first | walk1 | (dsimp only; walk1) | (leave1; try dsimp only)))
  rename_i h4 q4 hA h5 q5 hB h6 FC NC
  exact h.out _ _ _ _ _ _ FC NC rfl rfl rfl ⟨hB, hA⟩
end
end Mine
end

section
theorem Mine.rst_P4 {prog : PySem.Program} {w : PySem.World} {A : PySem.Around} {Q : PySem.Flow → PySem.Shared → Prop} {E : PySem.Value → PySem.Shared → Prop} {s : PySem.Shared} {env : PySem.Env} {pos : PySem.Pos} : True ∨ PySem.wpAny (PySem.model prog w) A (PySem.exec (PySem.Stmt.Pass pos) env) Q E s := by
  w_on
  w_top off
  first | (right; walk1; fail) | exact .inl trivial
open PySem PySem.W PySem.Spec PySem.Calls PyProof.Rows PyProof.V
set_option Elab.async false
namespace Mine
local macro_rules | `(tactic| k_room) => `(tactic| ktr_room)
local macro_rules | `(tactic| k_units) => `(tactic| ktr_units)
local macro_rules | `(tactic| k_enter) => `(tactic| first
  | (refine' code_def ?k1 ?k2 ?k3 ?k4 ?k5 ?kA ?kF ?kK ?k6 ?k7 ?k8 ?k9 ?kB ?_ ?c2 ?c3 ?c4 ?c5; (case kA => exact rfl); (case kF => exact rfl); (case kK => first | exact rfl | assumption); (case k1 => k_asm); (case k2 => k_asm); (case k3 => k_asm); (case k4 => k_asm); (case k5 => k_asm); (case k6 => k_is); (case k7 => k_is); (case k8 => k_room); (case k9 => first | exact BindsTo.of_eq rfl | exact binds_K (by k_in) rfl (by k_is) rfl rfl rfl | fail "k_enter: no rule for these arguments"); (case c5 => decide); (case kB => exact locs rfl); (case c2 => exact rfl); (case c3 => exact rfl); (case c4 => exact rfl); k_whole; intro g' L' h' FG' F' N' B' X' T'; (try dsimp only); (try k_lift B'); (try k_fold))
  | (refine' code_defC ?k1 ?k2 ?k3 ?k4 ?k5 ?kA ?kF ?kK ?k6 ?k7 ?k8 ?k9 ?kB ?kD ?_ ?c2 ?c3 ?c4; (case kA => exact rfl); (case kF => exact rfl); (case kK => first | exact rfl | assumption); (case k1 => k_asm); (case k2 => k_asm); (case k3 => k_asm); (case k4 => k_asm); (case k5 => k_asm); (case k6 => k_is); (case k7 => k_is); (case k8 => k_room); (case k9 => first | exact BindsTo.of_eq rfl | exact binds_K (by k_in) rfl (by k_is) rfl rfl rfl | fail "k_enter: no rule for these arguments"); (case kB => exact rfl); (case kD => decide +kernel); (case c2 => exact rfl); (case c3 => exact rfl); (case c4 => exact rfl); k_whole; intro g' L' h' tk' cells' FG' F' N' Y' B' X' T' l1; (try k_lt l1); k_cells Y'; (try simp only [List.cons_append, List.nil_append] at N'); (try dsimp only); (try k_lift B'); (try k_fold)))
local macro_rules | `(tactic| walk_at "exec For Name Subscript cons nil") => `(tactic| (k_here; (rename Fr _ _ _ _ => lF'); (with_unfolding_all refine' For_hold lF' ?_; k_whole)))
local macro_rules | `(tactic| walk_at "exec For Name Call cons nil") => `(tactic| (k_here; (rename Fr _ _ _ _ => lF'); (with_unfolding_all refine' For_hold lF' ?_; k_whole)))
local macro_rules | `(tactic| walk_at "exec For Name Tuple cons nil") => `(tactic| (k_here; (rename Fr _ _ _ _ => lF'); (with_unfolding_all refine' For_hold lF' ?_; k_whole)))
local macro_rules | `(tactic| walk_at "exec For Name Name cons nil") => `(tactic| (k_here; (rename Fr _ _ _ _ => lF'); (with_unfolding_all refine' For_hold lF' ?_; k_whole)))
local macro_rules | `(tactic| walk_at "exec For Tuple Name cons nil") => `(tactic| (k_here; (rename Fr _ _ _ _ => lF'); (with_unfolding_all refine' For_hold lF' ?_; k_whole)))
local macro_rules | `(tactic| k_all) => `(tactic| first | with_reducible assumption | exact ne_ge (by with_reducible assumption) (by omega) | exact List.forall_mem_nil _ | (refine' List.forall_mem_cons.mpr ⟨?a, ?b⟩; (case a => k_ne); (case b => k_all)))
local macro_rules | `(tactic| walk_at "call builtin:list.append") => `(tactic| (k_here; (with_reducible show wpAny _ _ (call (Value.builtin _) [Value.ref _, _]) _ _ _); k_dflt (refine' append_K ?k1 ?k2 ?k3 ?_ ?z; (case k1 => k_asm); (case k2 => k_asm); (case k3 => k_upd); (case z => (rw [List.size_toArray, sizeLine_eq]; omega)); k_whole); intro h' F' N'; (try k_sweep)))
local macro_rules | `(tactic| walk_at "eval Name") => `(tactic| (k_here; (first | (with_reducible show wpAny _ _ (eval (Expr.Name (Str.ofString "cls") _) _) _ _ _) | (with_reducible show wpAny _ _ (eval (Expr.Name (Str.ofString "partial_ok") _) _) _ _ _) | (with_reducible show wpAny _ _ (eval (Expr.Name (Str.ofString "rslt") _) _) _ _ _) | (with_reducible show wpAny _ _ (eval (Expr.Name (Str.ofString "strict") _) _) _ _ _) | (with_reducible show wpAny _ _ (eval (Expr.Name (Str.ofString "tlv_loc") _) _) _ _ _) | (with_reducible show wpAny _ _ (eval (Expr.Name (Str.ofString "_pars") _) _) _ _ _)); k_dflt (refine' nameX_F ?N ?c ?m ?d ?_ ?a ?b ?e ?f; (case a => rfl); (case b => rfl); (case e => decide); (case f => decide); (case N => k_asm); (case c => rfl); (case m => k_mem); (case d => with_reducible assumption); k_whole)))
local macro_rules | `(tactic| walk_at "setItem ref str") => `(tactic| (k_here; k_dflt (refine' set_put ?F ?N ?U ?d ?K ?v ?_; (case F => k_asm); (case N => k_asm); (case U => k_updF); (case d => with_reducible assumption); (case K => (repeat' (first | with_reducible assumption | exact cli_in | exact ver_in | exact ssl_in | refine keysIn_put ?_ ?_ _))); (case v => first | exact (⟨_, rfl⟩ : isLoc _ _) | exact (show RV.is (.num _) _ from ⟨_, rfl⟩) | exact (show RV.is (.flag _) _ from rfl) | exact (show RV.is (.oct _) _ from ⟨_, _, rfl, by with_reducible assumption⟩))); intro h' o' F' N' hd'; (try dsimp only at N')))
local macro_rules | `(tactic| walk_at "loadName") => `(tactic| (k_here; (with_reducible rename Fr _ _ _ _ => lnF); k_dflt (refine' wpAny_loadName_local ?a ?b (Fr.ns lnF) ?v ?_; (case a => rfl); (case b => rfl); (case v => rfl))))
theorem Hold.out {P : Prop} (h : Hold P) : P := h
local macro_rules | `(tactic| walk_at "call ref") => `(tactic| (k_here; (with_reducible show wpAny _ _ (call (Value.ref _) [_] [_]) _ _ _); refine Hold.out ?_))
local macro_rules | `(tactic| walk_at "exec Try") => `(tactic| (k_here; refine wpAny_Try_except ?_))
section
variable {w : World} {p : Program} {loose : List Str} {mean : ExcName → Option Value} {mg mb : Str → Option Value} {dp un d : Nat} {gd : Option (List Code)} {outer : List Env} {A₀ : Around} {E : Value → Shared → Prop} {s : Shared} {g base : Heap} {L f : Addr} {m : Str → Option Value} {off : Int} {j ln : Nat} {ti to_ tl tv tn : Tok} {Q : Flow → Shared → Prop} {qual : Str} {cdv : Value} {bv : Array UInt8} {vl : List Int} {c0 : Int}
  {c' d2 d1 aT aR aP aS aO aC : Addr} {fo oc kT kR kP kS kO kC o1 o2 : Obj} {strict po : Bool} {rest : List (Addr × Obj)} {R : RS} {T : LS}
set_option maxRecDepth 100000 in
set_option maxHeartbeats 400000 in
theorem rest_ssl (IH : CP w p loose mean mg mb d) (hPC : PC w.params f c' d2 d1 aT aR aP aS aO aC fo oc kT kR kP kS kO kC strict po)
    (B : Below A₀ base outer g) (XB : (Mine.hd.heap_39 w.params).In base) (TB : Top p loose mean mg mb base)
    (F0 : Fr g L s.heap m) (h1 : m (Str.ofString "offset") = some (.int off to_)) (h2 : m (Str.ofString "i") = some (.int j ti)) (h3 : m (Str.ofString "len_") = some (.int ln tl)) (h4 : m (Str.ofString "val") = some (.bytes bv tv)) (h5 : m (Str.ofString "typ_name") = some (.str (nm 32) tn))
    (N : News g L s.heap (PL f c' d2 d1 aT aR aP aS aO aC fo oc kT kR kP kS kO kC o1 o2 rest))
    (hoff : 0 ≤ off ∧ off ≤ 1000000) (hj : j ≤ 1000000) (hln : ln ≤ 65536) (hbv : KBw.bInts bv = c0 :: vl) (hlen : (c0 :: vl).length ≤ 1000000) (hds1 : ∃ kv, o1.IsDictOf (PySem.strKind PySem.Challenge.rw_fc0001_01.row.prog w) kv ∧ Rel RV.is kv R) (hds2 : ∃ kv, o2.IsDictOf (PySem.strKind PySem.Challenge.rw_fc0001_01.row.prog w) kv ∧ Rel isLoc kv T) (hK1 : KeysIn R) (hK2 : KeysIn T)
    (hrest : ∀ q ∈ rest, q.1 < aC) (hdp : dp + 20 * d < recursionLimit) (hun : un + 100 * d < cLine)
    (hsub : (pars strict po d (vl.drop 4) j (put (put R sCli (.num c0)) sVer (.num (KFB.value (vl.take 4)))) (put T (nm 32) (off + j))).1 ≠ .crash)
    (hE : ∀ e : Addr, PassesOwnAt (model PySem.Challenge.rw_fc0001_01.row.prog w) ((ktrTop dp un gd qual (parsScope w.params) L f cdv (parsCl aP aC aO aR aS aT) outer).mark (some (.ref e))) (ktrTop dp un gd qual (parsScope w.params) L f cdv (parsCl aP aC aO aR aS aT) outer) (envX qual (parsScope w.params) L f cdv (parsCl aP aC aO aR aS aT)) E)
    (hok : ∀ R2 T2, pars strict po d (vl.drop 4) j (put (put R sCli (.num c0)) sVer (.num (KFB.value (vl.take 4)))) (put T (nm 32) (off + j)) = (.ok, R2, T2) → ∀ g' h' tk ti' m' o1' o2', KtsTurn (outer.filterMap (·.frame)) g g' → Below A₀ base outer g' → Fr g' L h' m' → News g' L h' (PL f c' d2 d1 aT aR aP aS aO aC fo oc kT kR kP kS kO kC o1' o2' rest) → m' (Str.ofString "i") = some (.int (j + (3 + ln)) ti') → m' (Str.ofString "offset") = some (.int off to_) → m' (Str.ofString "chunk") = m (Str.ofString "chunk") →
      DS w o1' o2' (put R2 sSSL (.flag true)) T2 → Q .next { s with heap := h', toks := tk })
    (hret : ∀ R2 T2, pars strict po d (vl.drop 4) j (put (put R sCli (.num c0)) sVer (.num (KFB.value (vl.take 4)))) (put T (nm 32) (off + j)) = (.bad, R2, T2) → po = true → ∀ g' h' tk m' o1' o2', KtsTurn (outer.filterMap (·.frame)) g g' → Below A₀ base outer g' → Fr g' L h' m' → News g' L h' (PL f c' d2 d1 aT aR aP aS aO aC fo oc kT kR kP kS kO kC o1' o2' rest) →
      DS w o1' o2' (put R2 sSSL (.flag false)) T2 → Q (.ret .none) { s with heap := h', toks := tk })
    (hbad : ∀ R2 T2, pars strict po d (vl.drop 4) j (put (put R sCli (.num c0)) sVer (.num (KFB.value (vl.take 4)))) (put T (nm 32) (off + j)) = (.bad, R2, T2) → po = false → ∀ g' G h' e tk m' o1' o2', KtsTurn (outer.filterMap (·.frame)) g g' → Below A₀ base outer g' → Fr g' L G m' → RaisedHN base G (envX qual (parsScope w.params) L f cdv (parsCl aP aC aO aR aS aT) :: outer) L e (.ref 31) (PL f c' d2 d1 aT aR aP aS aO aC fo oc kT kR kP kS kO kC o1' o2' rest) h' → G.UpToSlots h' →
      DS w o1' o2' (put R2 sSSL (.flag false)) T2 → E (.ref e) { s with heap := h', toks := tk })
    (hunk : ∀ R2 T2, pars strict po d (vl.drop 4) j (put (put R sCli (.num c0)) sVer (.num (KFB.value (vl.take 4)))) (put T (nm 32) (off + j)) = (.unk, R2, T2) → ∀ g' G h' e tk m' o1' o2', KtsTurn (outer.filterMap (·.frame)) g g' → Below A₀ base outer g' → Fr g' L G m' → RaisedHN base G (envX qual (parsScope w.params) L f cdv (parsCl aP aC aO aR aS aT) :: outer) L e (.ref 44) (PL f c' d2 d1 aT aR aP aS aO aC fo oc kT kR kP kS kO kC o1' o2' rest) h' → G.UpToSlots h' → E (.ref e) { s with heap := h', toks := tk }) :
    wpAny (model PySem.Challenge.rw_fc0001_01.row.prog w) (ktrTop dp un gd qual (parsScope w.params) L f cdv (parsCl aP aC aO aR aS aT) outer) (execs (restBody w.params) (envX qual (parsScope w.params) L f cdv (parsCl aP aC aO aR aS aT))) Q E s := by
  have X := XB.keeps B.stays
  have Tp := TB.keeps B.stays
  revert X
  k_fill
  intro X
  generalize hps : parsScope w.params = scope at hE hbad hunk ⊢
  conv at hps => lhs; whnf
  subst hps
  generalize hrb : restBody w.params = rb
  conv at hrb => lhs; whnf
  subst hrb
  have hord := hPC.ord
  have hkT := hPC.kT
  have hkR := hPC.kR
  have hkP := hPC.kP
  have hkO := hPC.kO
  have F := fr_at3 (fr_at3 F0 h1 h2 h3) (k1 := Str.ofString "val") (k2 := Str.ofString "typ_name") (k3 := Str.ofString "typ_name") (by rw [if_neg (by decide), if_neg (by decide), if_neg (by decide)]; exact h4) (by rw [if_neg (by decide), if_neg (by decide), if_neg (by decide)]; exact h5) (by rw [if_neg (by decide), if_neg (by decide), if_neg (by decide)]; exact h5)
  clear F0 h1 h2 h3 h4 h5
  generalize hvs : c0 :: vl = vs at hbv hlen
  have hvl : 0 < vs.length := by rw [← hvs]; exact Nat.succ_pos _
  replace hvs := Box.mk hvs
  replace IH := Box.mk IH
  replace hok := Box.mk hok
  replace hret := Box.mk hret
  replace hbad := Box.mk hbad
  replace hunk := Box.mk hunk
  replace hE := Box.mk hE
  replace hsub := Box.mk hsub
  replace hPC := Box.mk hPC
  repeat' (first | (k_unfold; (try dsimp only)) | ((fail_if_success (with_reducible show (ite _ _ _))); first | walk1 | (dsimp only; walk1) | (leave1; try dsimp only)))
  rw [if_pos (by decide +kernel)]
  repeat' (first | (k_unfold; (try dsimp only)) | ((fail_if_success (with_reducible show (ite _ _ _))); first | walk1 | (dsimp only; walk1) | (leave1; try dsimp only)))
  rename_i h8 t8 k8 F8 N8 kbcK
  have hsl := kbcK.trans (clip_slice vs 1 4 (by omega) (by omega))
  refine KFB.call_big N8 (.head _) hsl (by rw [List.length_take]; omega) fun t9 k9 => ?_
  clear kbcK hsl
  repeat' (first | (k_unfold; (try dsimp only)) | ((fail_if_success (with_reducible show (ite _ _ _))); (fail_if_success (with_reducible show wpAny _ _ (callWith _ (Value.ref _) _ _ (backToKw _ (keywordEach (_ :: _) _))) _ _ _)); first | walk1 | (dsimp only; walk1) | (leave1; try dsimp only)))
  obtain ⟨name0, qual0, doc0, pm0, ctv0, hfo, _⟩ := hPC.out.fn
  refine callWith_def_kw (o := fo) hfo ?_
  replace hfo := Box.mk hfo
  repeat' (first | (k_unfold; (try dsimp only)) | ((fail_if_success (with_reducible show (ite _ _ _))); first | walk1 | (dsimp only; walk1) | (leave1; try dsimp only)))
  · exact News.get (by k_asm) (by k_mem)
  rename_i h5 t5 k5 F5 N5 kbc5
  rename_i oT2 hdT _ _ _ _ _ _ _ _ _ _ _ _ _ _ oR2 _ _ hdR _
  have hvs' := hvs.out
  subst hvs'
  have hP : KBw.bInts (KBy.picked bv (some 5) none) = vl.drop 4 := by
    refine kbc5.trans ?_
    rw [show (5 : Int) = ((5 : Nat) : Int) from rfl, clipAt_nat]
    by_cases h : 5 ≤ (c0 :: vl).length
    · rw [Nat.min_eq_left h, List.take_of_length_le (by rw [List.length_drop]; exact Nat.le_refl _)]; rfl
    · have hq : (c0 :: vl).length < 5 := by omega
      rw [Nat.min_eq_right (by omega), List.drop_eq_nil_of_le (Nat.le_refl _), List.take_nil, List.drop_eq_nil_of_le (by simp only [List.length_cons] at hq; omega)]
  clear kbc5
  have hk1 := keysIn_put (keysIn_put hK1 cli_in (RV.num c0)) ver_in (RV.num (KFB.value (vl.take 4)))
  have hk2 := keysIn_put hK2 (nm_in (k := 32) (by decide)) (off + j)
  have hkeys := pars_keys strict po d (vl.drop 4) j _ _ hk1 hk2
  refine IH.out f c' d2 d1 aT aR aP aS aO aC fo oc kT kR kP kS kO kC strict po hPC.out rest oR2 oT2 (put (put R sCli (.num c0)) sVer (.num (KFB.value (vl.take 4)))) (put T (nm 32) (off + j)) hrest ⟨hdR, hdT⟩ hk1 hk2 (KBy.picked bv (some 5) none) t5 _ j (by rw [hP, List.length_drop]; simp only [List.length_cons] at hlen; omega) (by omega) (by omega) (by rw [hP]; exact hsub.out) dp un gd qual _ f cdv _ outer A₀ base g L _ _ _ _ B F5 XB TB (fun q hq => N5 q (.tail _ hq)) rfl hdp hun ?_ ?_ ?_
  all_goals (rw [hP]; generalize hz : pars strict po d (vl.drop 4) j (put (put R sCli (.num c0)) sVer (.num (KFB.value (vl.take 4)))) (put T (nm 32) (off + j)) = z at hkeys ⊢; obtain ⟨zo, R2, T2⟩ := z; intro hres; (have hres : zo = _ := hres); subst hres; dsimp only at hkeys ⊢)
  all_goals obtain ⟨hk1', hk2'⟩ := hkeys
  all_goals clear hdR hdT hds1 hds2 N5 N8 F8 hk1 hk2 hP
  · intro h' h₀' tk' o1' o2' turn F' N' B' hds
    have X' := XB.keeps B'.stays
    have Tp' := TB.keeps B'.stays
    obtain ⟨hd1, hd2⟩ := hds
    replace hz := Box.mk hz
    clear F5 X Tp
    repeat' (first | (k_unfold; (try dsimp only)) | ((fail_if_success (with_reducible show (ite _ _ _))); first | walk1 | (dsimp only; walk1) | (leave1; try dsimp only)))
    rename_i hB h6 FC NC
    exact hok.out R2 T2 hz.out h₀' _ _ _ _ _ o2' turn B' FC NC rfl rfl rfl ⟨hB, hd2⟩
  · intro h' e G h₀' tk' o1' o2' turn B' F' R' up' hds
    obtain ⟨hd1, hd2⟩ := hds
    replace hz := Box.mk hz
    refine x_look rfl R' up' (fun h2 R2' up2 => ?_)
    refine x_test (K := Mine.hd.heap_39 w.params) (b := true) B' F' R2' up2 XB TB (ns31 _) (by kernel_rfl) ?_
    rw [if_pos rfl]
    refine x_hit B' F' R2' up2 (fun h3 g3 Ta oe oTa turn3 F3 N3 P3 hne B3 => ?_) (hE.out e)
    have X' := XB.keeps B3.stays
    have Tp' := TB.keeps B3.stays
    clear F5 X Tp F' R'
    obtain ⟨z1, z2⟩ := hne (d1, o1') (.tail _ (.tail _ (.tail _ (.head _))))
    have z1' : @Ne Nat e d1 := fun q => z1 q.symm
    have z2' : @Ne Nat Ta d1 := fun q => z2 q.symm
    clear z1 z2
    dsimp only
    repeat' (first | (k_unfold; (try dsimp only)) | ((fail_if_success (with_reducible show (ite _ _ _))); first | walk1 | (dsimp only; walk1) | (leave1; try dsimp only)))
    rename_i o7 F7 N7 hd7
    by_cases hpo : po = true
    · rw [if_neg (by rw [hpo]; decide)]
      repeat' (first | (k_unfold; (try dsimp only)) | ((fail_if_success (with_reducible show (ite _ _ _))); first | walk1 | (dsimp only; walk1) | (leave1; try dsimp only)))
      exact hret.out R2 T2 hz.out hpo g3 _ _ _ o7 o2' (turn.trans turn3) B3 F7 (fun q hq => N7 q (.tail _ (.tail _ hq))) ⟨hd7, hd2⟩
    · have hpo' : po = false := by cases po; rfl; exact absurd rfl hpo
      rw [if_pos (by rw [hpo']; rfl)]
      refine wpAny_execs_cons ?_
      refine x_again rfl rfl rfl B3 F7 N7 P3 (fun q hq => ?_) (fun h4 G4 FG4 RG4 upG => hbad.out R2 T2 hz.out hpo' g3 G4 h4 e _ _ o7 o2' (turn.trans turn3) B3 FG4 RG4 upG ⟨hd7, hd2⟩)
      have q1 : q.1 ∈ (PL f c' d2 d1 aT aR aP aS aO aC fo oc kT kR kP kS kO kC o7 o2' rest).map Prod.fst := List.mem_map_of_mem hq
      have q2 : q.1 ∈ (PL f c' d2 d1 aT aR aP aS aO aC fo oc kT kR kP kS kO kC o1' o2' rest).map Prod.fst := q1
      obtain ⟨r, hr, er⟩ := List.mem_map.mp q2
      rw [← er]
      exact hne r hr
  · intro h' e G h₀' tk' o1' o2' turn B' F' R' up'
    refine x_look rfl R' up' (fun h2 R2' up2 => ?_)
    refine x_test (K := Mine.hd.heap_39 w.params) (b := false) B' F' R2' up2 XB TB (ns31 _) (by kernel_rfl) ?_
    rw [if_neg (by decide)]
    refine x_nil R2' up2 rfl (fun h3 R3 up3 => ?_)
    exact hunk.out R2 T2 hz h₀' G h3 e _ _ o1' o2' turn B' F' R3 up3
end
end Mine
end

section
theorem Mine.rst_P1 {prog : PySem.Program} {w : PySem.World} {A : PySem.Around} {Q : PySem.Flow → PySem.Shared → Prop} {E : PySem.Value → PySem.Shared → Prop} {s : PySem.Shared} {env : PySem.Env} {pos : PySem.Pos} : True ∨ PySem.wpAny (PySem.model prog w) A (PySem.exec (PySem.Stmt.Pass pos) env) Q E s := by
  w_on
  w_top off
  first | (right; walk1; fail) | exact .inl trivial
open PySem PySem.W PySem.Spec PySem.Calls PyProof.Rows PyProof.V
set_option Elab.async false
namespace Mine
local macro_rules | `(tactic| k_room) => `(tactic| ktr_room)
local macro_rules | `(tactic| k_units) => `(tactic| ktr_units)
local macro_rules | `(tactic| k_enter) => `(tactic| first
  | (refine' code_def ?k1 ?k2 ?k3 ?k4 ?k5 ?kA ?kF ?kK ?k6 ?k7 ?k8 ?k9 ?kB ?_ ?c2 ?c3 ?c4 ?c5; (case kA => exact rfl); (case kF => exact rfl); (case kK => first | exact rfl | assumption); (case k1 => k_asm); (case k2 => k_asm); (case k3 => k_asm); (case k4 => k_asm); (case k5 => k_asm); (case k6 => k_is); (case k7 => k_is); (case k8 => k_room); (case k9 => first | exact BindsTo.of_eq rfl | exact binds_K (by k_in) rfl (by k_is) rfl rfl rfl | fail "k_enter: no rule for these arguments"); (case c5 => decide); (case kB => exact locs rfl); (case c2 => exact rfl); (case c3 => exact rfl); (case c4 => exact rfl); k_whole; intro g' L' h' FG' F' N' B' X' T'; (try dsimp only); (try k_lift B'); (try k_fold))
  | (refine' code_defC ?k1 ?k2 ?k3 ?k4 ?k5 ?kA ?kF ?kK ?k6 ?k7 ?k8 ?k9 ?kB ?kD ?_ ?c2 ?c3 ?c4; (case kA => exact rfl); (case kF => exact rfl); (case kK => first | exact rfl | assumption); (case k1 => k_asm); (case k2 => k_asm); (case k3 => k_asm); (case k4 => k_asm); (case k5 => k_asm); (case k6 => k_is); (case k7 => k_is); (case k8 => k_room); (case k9 => first | exact BindsTo.of_eq rfl | exact binds_K (by k_in) rfl (by k_is) rfl rfl rfl | fail "k_enter: no rule for these arguments"); (case kB => exact rfl); (case kD => decide +kernel); (case c2 => exact rfl); (case c3 => exact rfl); (case c4 => exact rfl); k_whole; intro g' L' h' tk' cells' FG' F' N' Y' B' X' T' l1; (try k_lt l1); k_cells Y'; (try simp only [List.cons_append, List.nil_append] at N'); (try dsimp only); (try k_lift B'); (try k_fold)))
local macro_rules | `(tactic| walk_at "eval Name") => `(tactic| (k_here; (first | (with_reducible show wpAny _ _ (eval (Expr.Name (Str.ofString "cls") _) _) _ _ _) | (with_reducible show wpAny _ _ (eval (Expr.Name (Str.ofString "partial_ok") _) _) _ _ _) | (with_reducible show wpAny _ _ (eval (Expr.Name (Str.ofString "rslt") _) _) _ _ _) | (with_reducible show wpAny _ _ (eval (Expr.Name (Str.ofString "strict") _) _) _ _ _) | (with_reducible show wpAny _ _ (eval (Expr.Name (Str.ofString "tlv_loc") _) _) _ _ _) | (with_reducible show wpAny _ _ (eval (Expr.Name (Str.ofString "_pars") _) _) _ _ _)); k_dflt (refine' nameX_F ?N ?c ?m ?d ?_ ?a ?b ?e ?f; (case a => rfl); (case b => rfl); (case e => decide); (case f => decide); (case N => k_asm); (case c => rfl); (case m => k_mem); (case d => with_reducible assumption); k_whole)))
local macro_rules | `(tactic| walk_at "exec While Compare") => `(tactic| (k_here; k_dflt (refine whl_hold ?_)))

local macro_rules | `(tactic| walk_at "formatField int") => `(tactic| (k_here; (with_reducible show wpAny _ _ (formatField (Value.int _ _) _) _ _ _); refine fmt02Xu (by decide +kernel) (by with_reducible assumption) (by with_reducible assumption) ?_; intro y t' j' he hy; (try dsimp only)))
local macro_rules | `(tactic| walk_at "Exists") => `(tactic| (k_here; (with_reducible show ∃ sp t, Value.str _ _ = Value.str sp t ∧ wpAny _ _ (formatField _ sp) _ _ _); refine ⟨_, _, rfl, ?_⟩; (try dsimp only)))
local macro_rules | `(tactic| walk_at "exec Raise some none") => `(tactic| (k_here; (with_reducible show wpAny _ _ (exec (Stmt.Raise (some (Expr.Call (Expr.Name (Str.ofString "MalformedTLV") _) [_] [] _)) none _) _) _ _ _); (with_reducible rename Fr _ _ _ _ => rF); refine xr_own rF (by k_asm) (topRead_of (by k_asm)) (ns31 _) (re31 _) PySem.F.excBase_RuntimeError rfl ?_))
local macro_rules | `(tactic| walk_at "exec Raise some none") => `(tactic| (k_here; (with_reducible show wpAny _ _ (exec (Stmt.Raise (some (Expr.Call (Expr.Name (Str.ofString "UnknownTypeTLV") _) [_] [] _)) none _) _) _ _ _); (with_reducible rename Fr _ _ _ _ => rF); refine xr_key rF (by k_asm) (topRead_of (by k_asm)) (ns44 _) (ke44 _) rfl ?_))
section
variable {w : World} {p : Program} {loose : List Str} {mean : ExcName → Option Value} {mg mb : Str → Option Value}
set_option maxRecDepth 100000 in
set_option maxHeartbeats 2000000 in
theorem c_pars (d : Nat) (IH : CP w p loose mean mg mb d) : CP w p loose mean mg mb (d + 1) := by
  unfold CP
  k_fill
  intro f c' d2 d1 aT aR aP aS aO aC fo oc kT kR kP kS kO kC strict po hPC rest o1 o2 R0 T0 hrest hDS hKR hKT b t toff off hlen hoff0 hoff1 hnc
  intro dp un gd cn cs a ccd cl outer A₀ base h₀ L m s Q E B F XB TB N hk hd hu hok hbad hunk
  generalize hb : KBw.bInts b = ks at hlen hnc hok hbad hunk
  have hPC0 := hPC
  obtain ⟨⟨name, qual, doc, pm, ctv, hfo, vs, tq, hoc, hvs⟩, hkT, hkR, hkP, hkS, hkO, hkC, hord, lo1, lo2⟩ := hPC
  have hX := XB.keeps B.stays
  have hT0 := TB.keeps B.stays
  generalize hpb : parsBody w.params = body at hfo
  generalize hps : parsScope w.params = scope at hfo
  generalize hpa : parsArgs w.params = params at hfo
  conv at hpb => lhs; whnf
  conv at hps => lhs; whnf
  conv at hpa => lhs; whnf
  subst hpb hps hpa
  refine wpAny_call (callT_plain (binds := [(Str.ofString "chunk", .bytes b t), (Str.ofString "offset", .int off toff)]) B F N hT0.nolimit rfl rfl hk (N.get (.head _)) hfo ?_ (by show dp < _; omega) (BindsTo.of_eq rfl) (locs rfl) ?_ (by decide) rfl rfl rfl)
  · exact ⟨_, _, _, _, rfl, N.get (.tail _ (.head _)), hoc, hvs⟩
  · intro g L' h₁ FG F' N' B' st l1
    have X' := hX.keeps st
    have T' := hT0.keeps st
    dsimp only
    show wpAny _ _ _ _ _ _
    k_fold
    k_steps
    rename_i h2 F2 N2
    refine Hold.intro ?_
    refine whl_ind (St := fun n s' => ∃ r i ti R T m₁ g₁ h₁ tk o1 o2, s' = { s with heap := h₁, toks := tk } ∧ parsGo strict po (pars strict po d) n r i off R T = pars strict po (d + 1) (ks) off R0 T0 ∧ 0 ≤ i ∧ r = (ks).drop i.toNat ∧ KtsTurn ((envX cn cs L a ccd cl :: outer).filterMap (·.frame)) g g₁ ∧
      Fr g₁ L' h₁ m₁ ∧ m₁ (Str.ofString "chunk") = some (.bytes b t) ∧ m₁ (Str.ofString "offset") = some (.int off toff) ∧ m₁ (Str.ofString "i") = some (.int i ti) ∧ News g₁ L' h₁ (PL f c' d2 d1 aT aR aP aS aO aC fo oc kT kR kP kS kO kC o1 o2 rest) ∧
      Below (ktrTop dp un gd cn cs L a ccd cl outer) base (envX cn cs L a ccd cl :: outer) g₁ ∧ DS w o1 o2 R T ∧ KeysIn R ∧ KeysIn T) ?_ ?_ ((ks).length + 1) _ ⟨_, 0, _, R0, T0, _, g, h2, _, o1, o2, rfl, rfl, Int.le_refl _, rfl, KtsTurn.refl, F2, rfl, rfl, rfl, N2, B', hDS, hKR, hKT⟩
    · passes_own
    rintro n s' ⟨r, i, ti, R, T, m₁, g₁, h₁, tk, o1, o2, rfl, hgo, hi0, hr, hturn, F₁, e1, e2, e3, N₁, B₁, hDS, hKR, hKT⟩
    clear F2 N2
    have X₁ := XB.keeps B₁.stays
    have T₁ := TB.keeps B₁.stays
    replace F₁ := fr_at3 F₁ e1 e2 e3
    clear e1 e2 e3
    k_steps
    have hn : ∃ n', n = n' + 1 := by
      cases n with
      | zero =>
        exfalso
        have : (.crash, R, T) = pars strict po (d + 1) ks off R0 T0 := hgo
        rw [← this] at hnc
        exact hnc rfl
      | succ n' => exact ⟨n', rfl⟩
    obtain ⟨n', rfl⟩ := hn
    by_cases hlt : i < (ks.length : Int)
    · refine WhlIf.yes (decide_eq_true hlt) ?_
      obtain ⟨j, rfl⟩ : ∃ j : Nat, i = j := ⟨i.toNat, by omega⟩
      have hj : j < ks.length := by omega
      rw [Int.toNat_natCast, List.drop_eq_getElem_cons hj] at hr
      subst hr
      generalize hk0 : ks[j] = k at hgo
      clear N
      replace hgo := Box.mk hgo
      replace hok := Box.mk hok
      replace hbad := Box.mk hbad
      replace hunk := Box.mk hunk
      replace hnc := Box.mk hnc
      replace IH := Box.mk IH
      replace hDS := Box.mk hDS
      replace hk0 := Box.mk hk0
      k_steps
      have hbd : ∀ x ∈ ks, 0 ≤ x ∧ x < 256 := fun x hx => KBw.ints_in (hb ▸ hx)
      rename_i hq1 tB kB FB NB kbcK
      have hsl := kbcK.trans (clip_slice ks (j + 1) 2 (by omega) (by omega))
      have hv := value_bd ((ks.drop (j + 1)).take 2) (fun x hx => hbd x (List.mem_of_mem_drop (List.mem_of_mem_take hx)))
      have hv2 : KFB.value ((ks.drop (j + 1)).take 2) < 65536 := by
        refine Int.lt_of_lt_of_le hv.2 ?_
        have : ((ks.drop (j + 1)).take 2).length ≤ 2 := by rw [List.length_take]; omega
        rcases (show ((ks.drop (j + 1)).take 2).length = 0 ∨ ((ks.drop (j + 1)).take 2).length = 1 ∨ ((ks.drop (j + 1)).take 2).length = 2 by omega) with e | e | e <;> rw [e] <;> decide
      have hkd : ks.getD ((j : Int)).toNat 0 = k := by have := hk0.out; simp [List.getD, hj, this]
      rw [hkd] at FB
      have hkin := parsGo_kin (hgo.out ▸ hnc.out)
      refine KFB.call_big NB (.head _) hsl (by rw [List.length_take]; omega) fun t9 k9 => ?_
      generalize hln : KFB.value ((ks.drop (j + 1)).take 2) = len at hv hv2 ⊢
      obtain ⟨ln, rfl⟩ : ∃ ln : Nat, len = ln := ⟨len.toNat, by omega⟩
      replace hln := Box.mk hln
      replace hbd := Box.mk hbd
      clear kbcK hsl
      repeat' (first | (k_unfold; (try dsimp only)) | ((fail_if_success (with_reducible show (ite _ _ _))); first | walk1 | (dsimp only; walk1) | (leave1; try dsimp only)))
      have hcl := congrArg List.length (clip_slice ks (j + 3) ln (x := ↑j + 3) (y := ↑j + 3 + ↑ln) (by omega) (by omega))
      rw [List.length_take, List.length_drop] at hcl
      rw [hcl]
      have hdd : (ks.drop (j + 1)).drop 2 = ks.drop (j + 3) := by rw [List.drop_drop]
      rename_i h7 t7 k7 kbcV h8 F8 N8
      have hval := kbcV.trans (clip_slice ks (j + 3) ln (by omega) (by omega))
      clear kbcV hcl
      by_cases hshort : ((ks.drop (j + 3)).take ln).length < ln
      · rw [if_pos (decide_eq_true (by exact_mod_cast hshort))]
        have hbd' := hgo.out.symm.trans (parsGo_bad hkin hln.out (by rw [hdd]; exact hshort))
        replace hbad := hbad.out
        rw [hbd'] at hbad
        replace hbad := Box.mk hbad
        clear hbd'
        refine wpAny_execs_cons ?_
        refine xr_own F8 X₁ (topRead_of T₁) (ns31 _) (re31 _) PySem.F.excBase_RuntimeError rfl ?_
        refine bad_msg F8 rfl hkin (fun y t' tk => ?_) rfl rfl
        refine ⟨F8.keep, fun h' e hm => ?_⟩
        k_unfold
        refine x_made B₁ hm F8 (fun q hq => N8 q (.tail _ hq)) rfl rfl (fun h'' R' S' => ?_)
        obtain ⟨h₀', T2, B2, F2⟩ := turn_up B FG rfl hturn
        exact hbad.out rfl h'' e g₁ h₀' _ o1 o2 T2 B2 F2 R' S' hDS.out
      · rw [if_neg (by rw [decide_eq_true_eq]; exact_mod_cast hshort)]
        iterate 4 (first | (k_unfold; (try dsimp only)) | walk1 | (dsimp only; walk1) | (leave1; try dsimp only))
        refine get_name (aC := aC) (kC := kC) _ _ F8 rfl X₁ T₁ N8 (by k_mem) hkC fun v9 tk9 hv9 => ?_
        by_cases hkn : known k = true
        · rw [if_pos hkn] at hv9
          obtain ⟨t10, rfl⟩ := hv9
          repeat' (first | (k_unfold; (try dsimp only)) | ((fail_if_success (with_reducible show (ite _ _ _))); first | walk1 | (dsimp only; walk1) | (leave1; try dsimp only)))
          rw [if_neg (by decide)]
          repeat' (first | (k_unfold; (try dsimp only)) | ((fail_if_success (with_reducible show (ite _ _ _))); (fail_if_success (with_reducible show wpAny _ _ (execs (Stmt.Assign [Expr.Subscript _ _ _] _ _ :: _) _) _ _ _)); first | walk1 | (dsimp only; walk1) | (leave1; try dsimp only)))
          dsimp only
          have hst : (strict && !known k) = false := by rw [hkn]; cases strict <;> rfl
          rename_i h9 F9 N9
          by_cases h32 : k = 32
          · subst h32
            cases hvl : (ks.drop (j + 3)).take ln with
            | nil => exact absurd (hgo.out ▸ parsGo_ssl_nil hln.out (by rw [hdd]; exact hshort) (by rw [hdd]; exact hvl)) hnc.out
            | cons c0 vl =>
              have hstep := parsGo_ssl (strict := strict) (po := po) (sub := pars strict po d) (n := n') (i := j) (off := off) (R := R) (T := T) hln.out (by rw [hdd]; exact hshort) (by rw [hdd]; exact hvl)
              rw [hgo.out, hdd, List.drop_drop] at hstep
              refine rest_ssl (strict := strict) (po := po) (R := R) (T := T) IH.out hPC0 B₁ XB TB F9 rfl rfl rfl rfl rfl (fun q hq => N9 q (.tail _ hq)) ⟨hoff0, hoff1⟩ (by omega) (by omega) (hval.trans hvl) ?_ hDS.out.d1 hDS.out.d2 hKR hKT hrest ?_ ?_ ?_ ?_ ?_ ?_ ?_ ?_
              · have := congrArg List.length hvl
                rw [List.length_take, List.length_drop] at this
                omega
              · dsimp only [ktrTop]; omega
              · dsimp only [ktrTop]; omega
              · generalize hz : pars strict po d (vl.drop 4) (j : Int) (put (put R sCli (.num c0)) sVer (.num (KFB.value (vl.take 4)))) (put T (nm 32) (off + j)) = z at hstep ⊢
                obtain ⟨zo, R2, T2⟩ := z
                intro hc
                dsimp only at hc
                subst hc
                exact hnc.out (by rw [hstep])
              · intro e; passes_own
              · intro R2 T2 hz g' h' tk ti' m' o1' o2' turn' B' F' N' q1 q2 q3 hds
                rw [hz] at hstep
                have hkeys := pars_keys strict po d (vl.drop 4) j _ _ (keysIn_put (keysIn_put hKR cli_in (RV.num c0)) ver_in (RV.num (KFB.value (vl.take 4)))) (keysIn_put hKT (nm_in (k := 32) (by decide)) (off + j))
                rw [hz] at hkeys
                show WhlEnd _ _ _ _ _
                exact WhlEnd.next (Nat.lt_succ_self n') ⟨_, ↑j + (3 + ↑ln), ti', _, T2, m', g', h', tk, o1', o2', rfl, hstep.symm, by omega, congrArg (fun x => ks.drop x) (by omega), hturn.trans turn', F', q3.trans rfl, q2, q1, N', B', hds, keysIn_put hkeys.1 ssl_in _, hkeys.2⟩
              · intro R2 T2 hz hpo g' h' tk m' o1' o2' turn' B' F' N' hds
                rw [hz] at hstep
                have hfin : pars strict po (d + 1) ks off R0 T0 = (.ok, put R2 sSSL (.flag false), T2) := by rw [hstep]; dsimp only; rw [if_pos hpo]
                have hok' := hok.out
                rw [hfin] at hok'
                show WhlEnd _ _ _ _ _
                refine WhlEnd.ret ?_
                dsimp only
                exact leaveT_ F' N' (hturn.trans turn') (fun h₀' T3 F3 N3 B3 => hok' rfl _ _ _ _ _ T3 F3 N3 B3 hds)
              · intro R2 T2 hz hpo g' G h' e tk m' o1' o2' turn' B' F' RH up hds
                rw [hz] at hstep
                have hfin : pars strict po (d + 1) ks off R0 T0 = (.bad, put R2 sSSL (.flag false), T2) := by rw [hstep]; dsimp only; rw [if_neg (by rw [hpo]; decide)]
                have hb := hbad.out
                rw [hfin] at hb
                refine x_held RH F' up rfl (fun h'' R' S' => ?_)
                obtain ⟨h₀', T3, B3, F3⟩ := turn_up B FG rfl (hturn.trans turn')
                exact hb rfl h'' e g' h₀' _ o1' o2' T3 B3 F3 R' S' hds
              · intro R2 T2 hz g' G h' e tk m' o1' o2' turn' B' F' RH up
                rw [hz] at hstep
                have hb := hunk.out
                rw [hstep] at hb
                refine x_held RH F' up rfl (fun h'' R' S' => ?_)
                obtain ⟨h₀', T3, B3, F3⟩ := turn_up B FG rfl (hturn.trans turn')
                exact hb rfl h'' e g' h₀' _ o1' o2' T3 B3 F3 R' S'
          · have hstep := parsGo_plain (strict := strict) (po := po) (sub := pars strict po d) (n := n') (i := j) (off := off) (R := R) (T := T) hkin hln.out (by rw [hdd]; exact hshort) hst h32
            rw [hgo.out, hdd, List.drop_drop] at hstep
            refine rest_plain (R := R) (T := T) F9 rfl rfl rfl rfl rfl X₁ T₁ (fun q hq => N9 q (.tail _ hq)) hkT hkR ⟨hoff0, hoff1⟩ (by omega) (by omega) hval hDS.out.d1 hDS.out.d2 hKR hKT h32 hkin hord hrest ?_
            intro h' tk ti' m' o1' o2' F' N' q1 q2 q3 hds
            show WhlEnd _ _ _ _ _
            exact WhlEnd.next (Nat.lt_succ_self n') ⟨_, ↑j + (3 + ↑ln), ti', _, _, m', g₁, h', tk, o1', o2', rfl, hstep.symm, by omega, congrArg (fun x => ks.drop x) (by omega), hturn, F', q3.trans rfl, q2, q1, N', B₁, hds, keysIn_put hKR (nm_in hkin) _, keysIn_put hKT (nm_in hkin) _⟩
        · have hkn' : known k = false := by cases hq : known k; rfl; exact absurd hq hkn
          rw [if_neg hkn] at hv9
          subst hv9
          repeat' (first | (k_unfold; (try dsimp only)) | ((fail_if_success (with_reducible show (ite _ _ _))); first | walk1 | (dsimp only; walk1) | (leave1; try dsimp only)))
          rw [if_pos (by decide)]
          repeat' (first | (k_unfold; (try dsimp only)) | ((fail_if_success (with_reducible show (ite _ _ _))); (fail_if_success (with_reducible show wpAny _ _ (execs (Stmt.Assign [Expr.Subscript _ _ _] _ _ :: _) _) _ _ _)); first | walk1 | (dsimp only; walk1) | (leave1; try dsimp only)))
          rename_i y9 t9' j9 he hy9 h9 F9 N9
          rw [he] at F9
          by_cases hst1 : strict = true
          · rw [if_pos hst1]
            refine wpAny_execs_cons ?_
            refine xr_key F9 X₁ (topRead_of T₁) (ns44 _) (ke44 _) rfl ?_
            refine nameX_L F9 rfl ?_ rfl rfl (by decide)
            refine ⟨F9.keep, fun h' e hm => ?_⟩
            k_unfold
            refine x_made B₁ hm F9 (fun q hq => N9 q (.tail _ hq)) rfl rfl (fun h'' R' S' => ?_)
            obtain ⟨h₀', T2, B2, F2⟩ := turn_up B FG rfl hturn
            have hun' := hgo.out.symm.trans (parsGo_unk hkin hln.out (by rw [hdd]; exact hshort) hst1 hkn')
            replace hunk := hunk.out
            rw [hun'] at hunk
            exact hunk rfl h'' e g₁ h₀' _ o1 o2 T2 B2 F2 R' S'
          rw [if_neg hst1]
          repeat' (first | (k_unfold; (try dsimp only)) | ((fail_if_success (with_reducible show (ite _ _ _))); (fail_if_success (with_reducible show wpAny _ _ (execs (Stmt.Assign [Expr.Subscript _ _ _] _ _ :: _) _) _ _ _)); first | walk1 | (dsimp only; walk1) | (leave1; try dsimp only)))
          dsimp only
          have hst : (strict && !known k) = false := by rw [Bool.not_eq_true] at hst1; rw [hst1]; rfl
          by_cases h32 : k = 32
          · subst h32
            cases hvl : (ks.drop (j + 3)).take ln with
            | nil => exact absurd (hgo.out ▸ parsGo_ssl_nil hln.out (by rw [hdd]; exact hshort) (by rw [hdd]; exact hvl)) hnc.out
            | cons c0 vl =>
              have hstep := parsGo_ssl (strict := strict) (po := po) (sub := pars strict po d) (n := n') (i := j) (off := off) (R := R) (T := T) hln.out (by rw [hdd]; exact hshort) (by rw [hdd]; exact hvl)
              rw [hgo.out, hdd, List.drop_drop] at hstep
              refine rest_ssl (strict := strict) (po := po) (R := R) (T := T) IH.out hPC0 B₁ XB TB F9 rfl rfl rfl rfl rfl (fun q hq => N9 q (.tail _ hq)) ⟨hoff0, hoff1⟩ (by omega) (by omega) (hval.trans hvl) ?_ hDS.out.d1 hDS.out.d2 hKR hKT hrest ?_ ?_ ?_ ?_ ?_ ?_ ?_ ?_
              · have := congrArg List.length hvl
                rw [List.length_take, List.length_drop] at this
                omega
              · dsimp only [ktrTop]; omega
              · dsimp only [ktrTop]; omega
              · generalize hz : pars strict po d (vl.drop 4) (j : Int) (put (put R sCli (.num c0)) sVer (.num (KFB.value (vl.take 4)))) (put T (nm 32) (off + j)) = z at hstep ⊢
                obtain ⟨zo, R2, T2⟩ := z
                intro hc
                dsimp only at hc
                subst hc
                exact hnc.out (by rw [hstep])
              · intro e; passes_own
              · intro R2 T2 hz g' h' tk ti' m' o1' o2' turn' B' F' N' q1 q2 q3 hds
                rw [hz] at hstep
                have hkeys := pars_keys strict po d (vl.drop 4) j _ _ (keysIn_put (keysIn_put hKR cli_in (RV.num c0)) ver_in (RV.num (KFB.value (vl.take 4)))) (keysIn_put hKT (nm_in (k := 32) (by decide)) (off + j))
                rw [hz] at hkeys
                show WhlEnd _ _ _ _ _
                exact WhlEnd.next (Nat.lt_succ_self n') ⟨_, ↑j + (3 + ↑ln), ti', _, T2, m', g', h', tk, o1', o2', rfl, hstep.symm, by omega, congrArg (fun x => ks.drop x) (by omega), hturn.trans turn', F', q3.trans rfl, q2, q1, N', B', hds, keysIn_put hkeys.1 ssl_in _, hkeys.2⟩
              · intro R2 T2 hz hpo g' h' tk m' o1' o2' turn' B' F' N' hds
                rw [hz] at hstep
                have hfin : pars strict po (d + 1) ks off R0 T0 = (.ok, put R2 sSSL (.flag false), T2) := by rw [hstep]; dsimp only; rw [if_pos hpo]
                have hok' := hok.out
                rw [hfin] at hok'
                show WhlEnd _ _ _ _ _
                refine WhlEnd.ret ?_
                dsimp only
                exact leaveT_ F' N' (hturn.trans turn') (fun h₀' T3 F3 N3 B3 => hok' rfl _ _ _ _ _ T3 F3 N3 B3 hds)
              · intro R2 T2 hz hpo g' G h' e tk m' o1' o2' turn' B' F' RH up hds
                rw [hz] at hstep
                have hfin : pars strict po (d + 1) ks off R0 T0 = (.bad, put R2 sSSL (.flag false), T2) := by rw [hstep]; dsimp only; rw [if_neg (by rw [hpo]; decide)]
                have hb := hbad.out
                rw [hfin] at hb
                refine x_held RH F' up rfl (fun h'' R' S' => ?_)
                obtain ⟨h₀', T3, B3, F3⟩ := turn_up B FG rfl (hturn.trans turn')
                exact hb rfl h'' e g' h₀' _ o1' o2' T3 B3 F3 R' S' hds
              · intro R2 T2 hz g' G h' e tk m' o1' o2' turn' B' F' RH up
                rw [hz] at hstep
                have hb := hunk.out
                rw [hstep] at hb
                refine x_held RH F' up rfl (fun h'' R' S' => ?_)
                obtain ⟨h₀', T3, B3, F3⟩ := turn_up B FG rfl (hturn.trans turn')
                exact hb rfl h'' e g' h₀' _ o1' o2' T3 B3 F3 R' S'
          · have hstep := parsGo_plain (strict := strict) (po := po) (sub := pars strict po d) (n := n') (i := j) (off := off) (R := R) (T := T) hkin hln.out (by rw [hdd]; exact hshort) hst h32
            rw [hgo.out, hdd, List.drop_drop] at hstep
            refine rest_plain (R := R) (T := T) F9 rfl rfl rfl rfl rfl X₁ T₁ (fun q hq => N9 q (.tail _ hq)) hkT hkR ⟨hoff0, hoff1⟩ (by omega) (by omega) hval hDS.out.d1 hDS.out.d2 hKR hKT h32 hkin hord hrest ?_
            intro h' tk ti' m' o1' o2' F' N' q1 q2 q3 hds
            show WhlEnd _ _ _ _ _
            exact WhlEnd.next (Nat.lt_succ_self n') ⟨_, ↑j + (3 + ↑ln), ti', _, _, m', g₁, h', tk, o1', o2', rfl, hstep.symm, by omega, congrArg (fun x => ks.drop x) (by omega), hturn, F', q3.trans rfl, q2, q1, N', B₁, hds, keysIn_put hKR (nm_in hkin) _, keysIn_put hKT (nm_in hkin) _⟩
    · refine WhlIf.no (decide_eq_false hlt) ?_
      have hr0 : r = [] := by rw [hr]; exact List.drop_eq_nil_of_le (by omega)
      subst hr0
      k_steps
      have hres : pars strict po (d + 1) ks off R0 T0 = (.ok, R, T) := hgo.symm
      rw [hres] at hok
      exact leaveT_ F₁ N₁ hturn (fun h₀' T2 F3 N3 B3 => hok rfl _ _ _ _ _ T2 F3 N3 B3 hDS)
theorem cp_all : ∀ d, CP w p loose mean mg mb d
  | 0 => by
    intro f c' d2 d1 aT aR aP aS aO aC fo oc kT kR kP kS kO kC strict po hPC rest o1 o2 R0 T0 hrest hDS hKR hKT b t toff off hlen hoff0 hoff1 hnc
    exact absurd rfl hnc
  | d + 1 => c_pars d (cp_all d)
end
end Mine
end

section
theorem Mine.rst_Q0 {prog : PySem.Program} {w : PySem.World} {A : PySem.Around} {Q : PySem.Flow → PySem.Shared → Prop} {E : PySem.Value → PySem.Shared → Prop} {s : PySem.Shared} {env : PySem.Env} {pos : PySem.Pos} : True ∨ PySem.wpAny (PySem.model prog w) A (PySem.exec (PySem.Stmt.Pass pos) env) Q E s := by
  w_on
  w_top off
  first | (right; walk1; fail) | exact .inl trivial
open PySem PySem.W PySem.Spec PySem.Calls PyProof.Rows PyProof.V
set_option Elab.async false
namespace Mine
section
variable {prog : Program} {w : World} {A₀ A : Around} {s : Shared} {base h₀ : Heap} {outer : List Env} {L : Addr} {m mg mb : Str → Option Value} {env : Env} {news : List (Addr × Obj)} {K : Frag} {p : Program} {loose : List Str} {mean : ExcName → Option Value}
  {R : Result → Shared → Prop} {name qual : Str} {params : Arguments} {body : List Stmt} {scope : Scope} {dV kV doc pm cdv ct oc : Value} {an od : Option Addr} {osl : Array (Option Value)} {f : Addr} {args : Args} {binds : List (Str × Value)}
theorem codeT_C
    (B : Below A₀ base outer h₀) (F : Fr h₀ L s.heap m) (X₀ : K.In h₀) (N : News h₀ L s.heap news) (T : Top p loose mean mg mb h₀) (hA : A.frames = some (env :: outer)) (hf : env.frame = some L) (hke : env.scope.kind = .function)
    (ho : K.lookup f = some ⟨oc, od, .func (fnOf name qual params body scope dV kV doc pm an cdv ct), osl⟩) (hcd : codeIn K cdv qual = true) (hroom : A.depth < recursionLimit)
    (hbind : BindsTo s (fnOf name qual params body scope dV kV doc pm an cdv ct) args binds) (hkind : (binds.all fun y => scope.names.lookup y.1 == some .local || scope.names.lookup y.1 == some .cell) = true)
    (hnd : ((cellsFrom 0 scope.names []).map (·.1)).Nodup)
    (h : ∀ g L' h₁ tk cells, Fr h₀ L g m → Fr g L' h₁ (bindL (envOfC qual scope L' f cdv).kindOf binds fun _ => none) → News g L' h₁ (cells ++ news) →
      CellsAre (bindC (envOfC qual scope L' f cdv).kindOf binds fun _ => none) (cellsFrom (L' + 1) scope.names []) cells → Below A base (env :: outer) g → K.In g → Top p loose mean mg mb g → (∀ p ∈ news, p.1 < L') →
      wpAny (model prog w) (A.deeper (envOfC qual scope L' f cdv)) (execs body (envOfC qual scope L' f cdv))
        (fun fl s' => LeaveT ((env :: outer).filterMap (·.frame)) A₀ base outer h₀ L m g R (match fl with | .ret v => v | _ => .none) s')
        (fun e s' => wpAny (model prog w) (A.deeper (envOfC qual scope L' f cdv)) (leaving (envOfC qual scope L' f cdv) e) (fun _ s'' => R (.error e) s'') (fun e' s'' => R (.error e') s'') s')
        { s with heap := h₁, toks := tk })
    (hco : scope.isCoroutine = false) (hgen : scope.isGenerator = false) (hk : scope.kind = .function) : codeAny (model prog w) A (.call (.ref f) args) R s :=
  callT_cells B F N T.nolimit hA hf hke ((X₀.keeps F.keep) _ _ ho) rfl (codeRec_of (X₀.keeps F.keep) hcd) hroom hbind (kindsX hkind) hnd (fun g L' h₁ tk cells FG F' N' Y B' st l => h g L' h₁ tk cells FG F' N' Y B' (X₀.keeps st) (T.keeps st) l) hco hgen hk
theorem codeT
    (B : Below A₀ base outer h₀) (F : Fr h₀ L s.heap m) (X₀ : K.In h₀) (N : News h₀ L s.heap news) (T : Top p loose mean mg mb h₀) (hA : A.frames = some (env :: outer)) (hf : env.frame = some L) (hke : env.scope.kind = .function)
    (ho : K.lookup f = some ⟨oc, od, .func (fnOf name qual params body scope dV kV doc pm an cdv ct), osl⟩) (hcd : codeIn K cdv qual = true) (hroom : A.depth < recursionLimit)
    (hbind : BindsTo s (fnOf name qual params body scope dV kV doc pm an cdv ct) args binds) (hloc : ∀ y ∈ binds, scope.names.lookup y.1 = some .local)
    (h : ∀ g L' h₁, Fr h₀ L g m → Fr g L' h₁ (fun y => binds.reverse.lookup y) → News g L' h₁ news → Below A base (env :: outer) g → K.In g → Top p loose mean mg mb g → (∀ p ∈ news, p.1 < L') →
      wpAny (model prog w) (A.deeper (envOf qual scope L' f cdv)) (execs body (envOf qual scope L' f cdv))
        (fun fl s' => LeaveT ((env :: outer).filterMap (·.frame)) A₀ base outer h₀ L m g R (match fl with | .ret v => v | _ => .none) s')
        (fun e s' => wpAny (model prog w) (A.deeper (envOf qual scope L' f cdv)) (leaving (envOf qual scope L' f cdv) e) (fun _ s'' => R (.error e) s'') (fun e' s'' => R (.error e') s'') s')
        { s with heap := h₁, toks := s.toks + binds.length })
    (hco : scope.isCoroutine = false) (hgen : scope.isGenerator = false) (hk : scope.kind = .function)
    (hcell : ∀ x ∈ scope.names, x.2 ≠ .cell) : codeAny (model prog w) A (.call (.ref f) args) R s :=
  callT_plain (cl := []) B F N T.nolimit hA hf hke ((X₀.keeps F.keep) _ _ ho) rfl (codeRec_of (X₀.keeps F.keep) hcd) hroom hbind hloc (fun g L' h₁ FG F' N' B' st l => h g L' h₁ FG F' N' B' (X₀.keeps st) (T.keeps st) l) hcell hco hgen hk
end
/-- The table of parse's code: bare, or with the code of `_pars`. -/
def TabSt (ln cl : Int) (q : Str) (tb : List (Addr × Obj)) : Prop :=
  tb = [(72, tabObj #[])] ∨ ∃ c' oc vs t, tb = [(c', oc), (72, tabObj #[rawInt ln, rawInt cl, .ref c'])] ∧ oc.data = .fields vs ∧ vs[1]? = some (.str q t)
def TabUp (tb news tb' : List (Addr × Obj)) : Prop := ∀ q ∈ tb', (∃ p ∈ tb, p.1 = q.1) ∨ ∀ p ∈ tb ++ news, p.1 < q.1
end Mine
end

section
theorem Mine.rst_Q2 {prog : PySem.Program} {w : PySem.World} {A : PySem.Around} {Q : PySem.Flow → PySem.Shared → Prop} {E : PySem.Value → PySem.Shared → Prop} {s : PySem.Shared} {env : PySem.Env} {pos : PySem.Pos} : True ∨ PySem.wpAny (PySem.model prog w) A (PySem.exec (PySem.Stmt.Pass pos) env) Q E s := by
  w_on
  w_top off
  first | (right; walk1; fail) | exact .inl trivial
open PySem PySem.W PySem.Spec PySem.Calls PyProof.Rows PyProof.V
set_option Elab.async false
namespace Mine
noncomputable def fnScope : Option Obj → Scope | some ⟨_, _, .func fd, _⟩ => fd.scope | _ => { kind := .function, names := [], isGenerator := false, isCoroutine := false }
noncomputable def parScope (P : Params) : Scope := fnScope ((Mine.hd.heap_39 P).lookup 77)
noncomputable def parTail (P : Params) : List Stmt := (fnBody ((Mine.hd.heap_39 P).lookup 77)).drop 3
local macro_rules | `(tactic| k_room) => `(tactic| ktr_room)
local macro_rules | `(tactic| k_units) => `(tactic| ktr_units)
local macro_rules | `(tactic| k_enter) => `(tactic| first
  | (refine' code_def ?k1 ?k2 ?k3 ?k4 ?k5 ?kA ?kF ?kK ?k6 ?k7 ?k8 ?k9 ?kB ?_ ?c2 ?c3 ?c4 ?c5; (case kA => exact rfl); (case kF => exact rfl); (case kK => first | exact rfl | assumption); (case k1 => k_asm); (case k2 => k_asm); (case k3 => k_asm); (case k4 => k_asm); (case k5 => k_asm); (case k6 => k_is); (case k7 => k_is); (case k8 => k_room); (case k9 => first | exact BindsTo.of_eq rfl | exact binds_K (by k_in) rfl (by k_is) rfl rfl rfl | fail "k_enter: no rule for these arguments"); (case c5 => decide); (case kB => exact locs rfl); (case c2 => exact rfl); (case c3 => exact rfl); (case c4 => exact rfl); k_whole; intro g' L' h' FG' F' N' B' X' T'; (try dsimp only); (try k_lift B'); (try k_fold))
  | (refine' code_defC ?k1 ?k2 ?k3 ?k4 ?k5 ?kA ?kF ?kK ?k6 ?k7 ?k8 ?k9 ?kB ?kD ?_ ?c2 ?c3 ?c4; (case kA => exact rfl); (case kF => exact rfl); (case kK => first | exact rfl | assumption); (case k1 => k_asm); (case k2 => k_asm); (case k3 => k_asm); (case k4 => k_asm); (case k5 => k_asm); (case k6 => k_is); (case k7 => k_is); (case k8 => k_room); (case k9 => first | exact BindsTo.of_eq rfl | exact binds_K (by k_in) rfl (by k_is) rfl rfl rfl | fail "k_enter: no rule for these arguments"); (case kB => exact rfl); (case kD => decide +kernel); (case c2 => exact rfl); (case c3 => exact rfl); (case c4 => exact rfl); k_whole; intro g' L' h' tk' cells' FG' F' N' Y' B' X' T' l1; (try k_lt l1); k_cells Y'; (try simp only [List.cons_append, List.nil_append] at N'); (try dsimp only); (try k_lift B'); (try k_fold)))
local macro_rules | `(tactic| walk_at "exec For Name Subscript cons nil") => `(tactic| (k_here; (rename Fr _ _ _ _ => lF'); (with_unfolding_all refine' For_hold lF' ?_; k_whole)))
local macro_rules | `(tactic| walk_at "exec For Name Call cons nil") => `(tactic| (k_here; (rename Fr _ _ _ _ => lF'); (with_unfolding_all refine' For_hold lF' ?_; k_whole)))
local macro_rules | `(tactic| walk_at "exec For Name Tuple cons nil") => `(tactic| (k_here; (rename Fr _ _ _ _ => lF'); (with_unfolding_all refine' For_hold lF' ?_; k_whole)))
local macro_rules | `(tactic| walk_at "exec For Name Name cons nil") => `(tactic| (k_here; (rename Fr _ _ _ _ => lF'); (with_unfolding_all refine' For_hold lF' ?_; k_whole)))
local macro_rules | `(tactic| walk_at "exec For Tuple Name cons nil") => `(tactic| (k_here; (rename Fr _ _ _ _ => lF'); (with_unfolding_all refine' For_hold lF' ?_; k_whole)))
local macro_rules | `(tactic| k_all) => `(tactic| first | with_reducible assumption | exact ne_ge (by with_reducible assumption) (by omega) | exact List.forall_mem_nil _ | (refine' List.forall_mem_cons.mpr ⟨?a, ?b⟩; (case a => k_ne); (case b => k_all)))
local macro_rules | `(tactic| walk_at "call builtin:list.append") => `(tactic| (k_here; (with_reducible show wpAny _ _ (call (Value.builtin _) [Value.ref _, _]) _ _ _); k_dflt (refine' append_K ?k1 ?k2 ?k3 ?_ ?z; (case k1 => k_asm); (case k2 => k_asm); (case k3 => k_upd); (case z => (rw [List.size_toArray, sizeLine_eq]; omega)); k_whole); intro h' F' N'; (try k_sweep)))
local macro_rules | `(tactic| walk_at "eval Name") => `(tactic| (k_here; (first | (with_reducible show wpAny _ _ (eval (Expr.Name (Str.ofString "cls") _) _) _ _ _) | (with_reducible show wpAny _ _ (eval (Expr.Name (Str.ofString "partial_ok") _) _) _ _ _) | (with_reducible show wpAny _ _ (eval (Expr.Name (Str.ofString "rslt") _) _) _ _ _) | (with_reducible show wpAny _ _ (eval (Expr.Name (Str.ofString "strict") _) _) _ _ _) | (with_reducible show wpAny _ _ (eval (Expr.Name (Str.ofString "tlv_loc") _) _) _ _ _) | (with_reducible show wpAny _ _ (eval (Expr.Name (Str.ofString "_pars") _) _) _ _ _)); k_dflt (refine' nameX_C ?N ?c ?m ?d ?_ ?a ?b ?e; (case a => rfl); (case b => rfl); (case e => decide); (case N => k_asm); (case c => rfl); (case m => k_mem); (case d => with_reducible assumption); k_whole)))
theorem Hold.out' {P : Prop} (h : Hold P) : P := h
local macro_rules | `(tactic| walk_at "call ref") => `(tactic| (k_here; (with_reducible show wpAny _ _ (call (Value.ref _) [_] [_]) _ _ _); refine Hold.out' ?_))
local macro_rules | `(tactic| walk_at "exec Try") => `(tactic| (k_here; refine wpAny_Try_except ?_))
section
variable {w : World} {p : Program} {loose : List Str} {mean : ExcName → Option Value} {mg mb : Str → Option Value} {dp un : Nat} {gd : Option (List Code)} {outer : List Env} {A₀ : Around} {E : Value → Shared → Prop} {s : Shared} {g base : Heap} {L f : Addr} {m : Str → Option Value} {td : Tok} {Q : Flow → Shared → Prop} {bv : Array UInt8}
  {c' d2 d1 : Addr} {fo oc kT kR kP kS kO kC o1 o2 : Obj} {strict po : Bool} {rest : List (Addr × Obj)}
set_option maxRecDepth 100000 in
set_option maxHeartbeats 400000 in
theorem parse_tail (hPC : PC w.params f c' d2 d1 (L+1+1+1+1+1+1) (L+1+1+1+1+1) (L+1+1+1+1) (L+1+1+1) (L+1+1) (L+1) fo oc kT kR kP kS kO kC strict po)
    (B : Below A₀ base outer g) (XB : (Mine.hd.heap_39 w.params).In base) (TB : Top p loose mean mg mb base)
    (F0 : Fr g L s.heap m) (h1 : m (Str.ofString "data") = some (.bytes bv td))
    (N : News g L s.heap (PL f c' d2 d1 (L+1+1+1+1+1+1) (L+1+1+1+1+1) (L+1+1+1+1) (L+1+1+1) (L+1+1) (L+1) fo oc kT kR kP kS kO kC o1 o2 rest))
    (hlen : (KBw.bInts bv).length ≤ 1000000) (hds : DS w o1 o2 [] []) (hrest : ∀ q ∈ rest, q.1 < L+1) (hdp : dp + 40 < recursionLimit) (hun : un + 200 < cLine)
    (hnc : (pars strict po 2 (KBw.bInts bv) 0 [] []).1 ≠ .crash)
    (hE : ∀ e : Addr, PassesOwnAt (model PySem.Challenge.rw_fc0001_01.row.prog w) ((ktrTop dp un gd (Str.ofString "ProxyTLV.parse") (parScope w.params) L 77 (.ref 76) (cellsFrom (L+1) (parScope w.params).names []) outer).mark (some (.ref e))) (ktrTop dp un gd (Str.ofString "ProxyTLV.parse") (parScope w.params) L 77 (.ref 76) (cellsFrom (L+1) (parScope w.params).names []) outer) (envX (Str.ofString "ProxyTLV.parse") (parScope w.params) L 77 (.ref 76) (cellsFrom (L+1) (parScope w.params).names [])) E)
    (hok : ∀ R2 T2, (pars strict po 2 (KBw.bInts bv) 0 [] [] = (.ok, R2, T2) ∨ (pars strict po 2 (KBw.bInts bv) 0 [] [] = (.bad, R2, T2) ∧ po = true)) → ∀ t g' h' tk m' o1' o2', KtsTurn (outer.filterMap (·.frame)) g g' → Below A₀ base outer g' → Fr g' L h' m' → News g' L h' ((t, kdv_tup [.ref d1, .ref d2]) :: PL f c' d2 d1 (L+1+1+1+1+1+1) (L+1+1+1+1+1) (L+1+1+1+1) (L+1+1+1) (L+1+1) (L+1) fo oc kT kR kP kS kO kC o1' o2' rest) →
      DS w o1' o2' R2 T2 → Q (.ret (.ref t)) { s with heap := h', toks := tk })
    (hbad : ∀ R2 T2, pars strict po 2 (KBw.bInts bv) 0 [] [] = (.bad, R2, T2) → po = false → ∀ g' G h' e tk m' o1' o2', KtsTurn (outer.filterMap (·.frame)) g g' → Below A₀ base outer g' → Fr g' L G m' → RaisedHN base G (envX (Str.ofString "ProxyTLV.parse") (parScope w.params) L 77 (.ref 76) (cellsFrom (L+1) (parScope w.params).names []) :: outer) L e (.ref 31) (PL f c' d2 d1 (L+1+1+1+1+1+1) (L+1+1+1+1+1) (L+1+1+1+1) (L+1+1+1) (L+1+1) (L+1) fo oc kT kR kP kS kO kC o1' o2' rest) h' → G.UpToSlots h' → E (.ref e) { s with heap := h', toks := tk })
    (hunk : ∀ R2 T2, pars strict po 2 (KBw.bInts bv) 0 [] [] = (.unk, R2, T2) → ∀ g' G h' e tk m' o1' o2', KtsTurn (outer.filterMap (·.frame)) g g' → Below A₀ base outer g' → Fr g' L G m' → RaisedHN base G (envX (Str.ofString "ProxyTLV.parse") (parScope w.params) L 77 (.ref 76) (cellsFrom (L+1) (parScope w.params).names []) :: outer) L e (.ref 44) (PL f c' d2 d1 (L+1+1+1+1+1+1) (L+1+1+1+1+1) (L+1+1+1+1) (L+1+1+1) (L+1+1) (L+1) fo oc kT kR kP kS kO kC o1' o2' rest) h' → G.UpToSlots h' → E (.ref e) { s with heap := h', toks := tk }) :
    wpAny (model PySem.Challenge.rw_fc0001_01.row.prog w) (ktrTop dp un gd (Str.ofString "ProxyTLV.parse") (parScope w.params) L 77 (.ref 76) (cellsFrom (L+1) (parScope w.params).names []) outer) (execs (parTail w.params) (envX (Str.ofString "ProxyTLV.parse") (parScope w.params) L 77 (.ref 76) (cellsFrom (L+1) (parScope w.params).names []))) Q E s := by
  have X := XB.keeps B.stays
  have Tp := TB.keeps B.stays
  revert X
  k_fill
  intro X
  generalize hps : parScope w.params = scope at hE hbad hunk ⊢
  conv at hps => lhs; whnf
  subst hps
  generalize hrb : parTail w.params = rb
  conv at hrb => lhs; whnf
  subst hrb
  have hkT := hPC.kT
  have hkR := hPC.kR
  have hkP := hPC.kP
  have hkO := hPC.kO
  have F := fr_at F0 h1
  clear F0 h1
  replace hok := Box.mk hok
  replace hbad := Box.mk hbad
  replace hunk := Box.mk hunk
  replace hE := Box.mk hE
  replace hnc := Box.mk hnc
  replace hds := Box.mk hds
  replace hPC := Box.mk hPC
  repeat' (first | (k_unfold; (try dsimp only)) | ((fail_if_success (with_reducible show (ite _ _ _))); (fail_if_success (with_reducible show wpAny _ _ (callWith _ (Value.ref _) _ _ (backToKw _ (keywordEach (_ :: _) _))) _ _ _)); first | walk1 | (dsimp only; walk1) | (leave1; try dsimp only)))
  obtain ⟨name0, qual0, doc0, pm0, ctv0, hfo, hright⟩ := hPC.out.fn
  refine callWith_def_kw (o := fo) hfo ?_
  replace hfo := Box.mk hfo
  replace hright := Box.mk hright
  repeat' (first | (k_unfold; (try dsimp only)) | ((fail_if_success (with_reducible show (ite _ _ _))); first | walk1 | (dsimp only; walk1) | (leave1; try dsimp only)))
  · exact News.get (by k_asm) (by k_mem)
  refine (cp_all 2) f c' d2 d1 (L+1+1+1+1+1+1) (L+1+1+1+1+1) (L+1+1+1+1) (L+1+1+1) (L+1+1) (L+1) fo oc kT kR kP kS kO kC strict po hPC.out rest o1 o2 [] [] hrest hds.out (fun _ h => (nomatch h)) (fun _ h => (nomatch h)) bv td _ 0 hlen (by omega) (by omega) hnc.out dp un gd _ _ _ _ _ outer A₀ base g L _ _ _ _ B F XB TB N rfl (by omega) (by omega) ?_ ?_ ?_
  all_goals (generalize hz : pars strict po 2 (KBw.bInts bv) 0 [] [] = z; obtain ⟨zo, R2, T2⟩ := z; intro hres; (have hres : zo = _ := hres); subst hres; dsimp only)
  · intro h' h₀' tk' o1' o2' turn F' N' B' hds'
    have X' := XB.keeps B'.stays
    have Tp' := TB.keeps B'.stays
    replace hz := Box.mk hz
    replace hds' := Box.mk hds'
    clear F X Tp N
    repeat' (first | (k_unfold; (try dsimp only)) | ((fail_if_success (with_reducible show (ite _ _ _))); first | walk1 | (dsimp only; walk1) | (leave1; try dsimp only)))
    rename_i D9 h9 F9 N9 l9
    exact hok.out R2 T2 (.inl hz.out) D9 h₀' h9 _ _ o1' o2' turn B' F9 N9 hds'.out
  · intro h' e G h₀' tk' o1' o2' turn B' F' R' up' hds'
    replace hz := Box.mk hz
    replace hds' := Box.mk hds'
    refine x_look rfl R' up' (fun h2 R2' up2 => ?_)
    refine x_test (K := Mine.hd.heap_39 w.params) (b := true) B' F' R2' up2 XB TB (ns31 _) (by kernel_rfl) ?_
    rw [if_pos rfl]
    refine x_hit B' F' R2' up2 (fun h3 g3 Ta oe oTa turn3 F3 N3 P3 hne B3 => ?_) (hE.out e)
    have X' := XB.keeps B3.stays
    have Tp' := TB.keeps B3.stays
    clear F X Tp F' R' N
    dsimp only
    repeat' (first | (k_unfold; (try dsimp only)) | ((fail_if_success (with_reducible show (ite _ _ _))); first | walk1 | (dsimp only; walk1) | (leave1; try dsimp only)))
    by_cases hpo : po = true
    · rw [if_neg (by rw [hpo]; decide)]
      repeat' (first | (k_unfold; (try dsimp only)) | ((fail_if_success (with_reducible show (ite _ _ _))); first | walk1 | (dsimp only; walk1) | (leave1; try dsimp only)))
      rename_i D9 h9 F9 N9 l9
      refine hok.out R2 T2 (.inr ⟨hz.out, hpo⟩) D9 g3 h9 _ _ o1' o2' (turn.trans turn3) B3 F9 (fun q hq => ?_) hds'.out
      rcases List.mem_cons.mp hq with rfl | hq
      · exact N9 _ (.head _)
      · exact N9 q (.tail _ (.tail _ (.tail _ hq)))
    · have hpo' : po = false := by cases po; rfl; exact absurd rfl hpo
      rw [if_pos (by rw [hpo']; rfl)]
      refine wpAny_execs_cons ?_
      exact x_again rfl rfl rfl B3 F3 N3 P3 hne (fun h4 G4 FG4 RG4 upG => hbad.out R2 T2 hz.out hpo' g3 G4 h4 e _ _ o1' o2' (turn.trans turn3) B3 FG4 RG4 upG)
  · intro h' e G h₀' tk' o1' o2' turn B' F' R' up'
    refine x_look rfl R' up' (fun h2 R2' up2 => ?_)
    refine x_test (K := Mine.hd.heap_39 w.params) (b := false) B' F' R2' up2 XB TB (ns31 _) (by kernel_rfl) ?_
    rw [if_neg (by decide)]
    refine x_nil R2' up2 rfl (fun h3 R3 up3 => ?_)
    exact hunk.out R2 T2 hz h₀' G h3 e _ _ o1' o2' turn B' F' R3 up3
end
end Mine
end

section
theorem Mine.rst_Q1 {prog : PySem.Program} {w : PySem.World} {A : PySem.Around} {Q : PySem.Flow → PySem.Shared → Prop} {E : PySem.Value → PySem.Shared → Prop} {s : PySem.Shared} {env : PySem.Env} {pos : PySem.Pos} : True ∨ PySem.wpAny (PySem.model prog w) A (PySem.exec (PySem.Stmt.Pass pos) env) Q E s := by
  w_on
  w_top off
  first | (right; walk1; fail) | exact .inl trivial
open PySem PySem.W PyProof.Rows PyProof.V
set_option Elab.async false
namespace Mine
local macro_rules | `(tactic| k_room) => `(tactic| ktr_room)
local macro_rules | `(tactic| k_units) => `(tactic| ktr_units)
local macro_rules | `(tactic| k_enter) => `(tactic| first
  | (refine' code_def ?k1 ?k2 ?k3 ?k4 ?k5 ?kA ?kF ?kK ?k6 ?k7 ?k8 ?k9 ?kB ?_ ?c2 ?c3 ?c4 ?c5; (case kA => exact rfl); (case kF => exact rfl); (case kK => first | exact rfl | assumption); (case k1 => k_asm); (case k2 => k_asm); (case k3 => k_asm); (case k4 => k_asm); (case k5 => k_asm); (case k6 => k_is); (case k7 => k_is); (case k8 => k_room); (case k9 => first | exact BindsTo.of_eq rfl | exact binds_K (by k_in) rfl (by k_is) rfl rfl rfl | fail "k_enter: no rule for these arguments"); (case c5 => decide); (case kB => exact locs rfl); (case c2 => exact rfl); (case c3 => exact rfl); (case c4 => exact rfl); k_whole; intro g' L' h' FG' F' N' B' X' T'; (try dsimp only); (try k_lift B'); (try k_fold))
  | (refine' code_defC ?k1 ?k2 ?k3 ?k4 ?k5 ?kA ?kF ?kK ?k6 ?k7 ?k8 ?k9 ?kB ?kD ?_ ?c2 ?c3 ?c4; (case kA => exact rfl); (case kF => exact rfl); (case kK => first | exact rfl | assumption); (case k1 => k_asm); (case k2 => k_asm); (case k3 => k_asm); (case k4 => k_asm); (case k5 => k_asm); (case k6 => k_is); (case k7 => k_is); (case k8 => k_room); (case k9 => first | exact BindsTo.of_eq rfl | exact binds_K (by k_in) rfl (by k_is) rfl rfl rfl | fail "k_enter: no rule for these arguments"); (case kB => exact rfl); (case kD => decide +kernel); (case c2 => exact rfl); (case c3 => exact rfl); (case c4 => exact rfl); k_whole; intro g' L' h' tk' cells' FG' F' N' Y' B' X' T' l1; (try k_lt l1); k_cells Y'; (try simp only [List.cons_append, List.nil_append] at N'); (try dsimp only); (try k_lift B'); (try k_fold)))
local macro_rules | `(tactic| walk_at "exec For Name Subscript cons nil") => `(tactic| (k_here; (rename Fr _ _ _ _ => lF'); (with_unfolding_all refine' For_hold lF' ?_; k_whole)))
local macro_rules | `(tactic| walk_at "exec For Name Call cons nil") => `(tactic| (k_here; (rename Fr _ _ _ _ => lF'); (with_unfolding_all refine' For_hold lF' ?_; k_whole)))
local macro_rules | `(tactic| walk_at "exec For Name Tuple cons nil") => `(tactic| (k_here; (rename Fr _ _ _ _ => lF'); (with_unfolding_all refine' For_hold lF' ?_; k_whole)))
local macro_rules | `(tactic| walk_at "exec For Name Name cons nil") => `(tactic| (k_here; (rename Fr _ _ _ _ => lF'); (with_unfolding_all refine' For_hold lF' ?_; k_whole)))
local macro_rules | `(tactic| walk_at "exec For Tuple Name cons nil") => `(tactic| (k_here; (rename Fr _ _ _ _ => lF'); (with_unfolding_all refine' For_hold lF' ?_; k_whole)))
local macro_rules | `(tactic| k_all) => `(tactic| first | with_reducible assumption | exact ne_ge (by with_reducible assumption) (by omega) | exact List.forall_mem_nil _ | (refine' List.forall_mem_cons.mpr ⟨?a, ?b⟩; (case a => k_ne); (case b => k_all)))
local macro_rules | `(tactic| walk_at "call builtin:list.append") => `(tactic| (k_here; (with_reducible show wpAny _ _ (call (Value.builtin _) [Value.ref _, _]) _ _ _); k_dflt (refine' append_K ?k1 ?k2 ?k3 ?_ ?z; (case k1 => k_asm); (case k2 => k_asm); (case k3 => k_upd); (case z => (rw [List.size_toArray, sizeLine_eq]; omega)); k_whole); intro h' F' N'; (try k_sweep)))
local macro_rules | `(tactic| walk_at "exec FunctionDef") => `(tactic| (k_here; kn_here; k_dflt (refine' nestDef_kw ?d0 ?k0 ?a0 ?z0 ?_; (case d0 => exact rfl); (case k0 => exact rfl); (case a0 => exact rfl); (case z0 => exact rfl)); (first
  | (k_dflt (refine' nest_K ?F ?N ?T ?C ?cd ?U ?t ?n ?cl ?_; (case F => k_asm); (case N => k_asm); (case T => k_asm); (case cd => exact rfl); (case C => kn_code); (case U => k_updF); (case t => kn_triples); (case n => kn_among); (case cl => exact rfl); k_whole); intro f' c' oc' vs' t' ct' dc' h' tk' F' N' d1' d2' l1 l2; (try dsimp only at N'); (try k_lt l1); (try k_lt2 l2))
  | (k_dflt (refine' nestHit_K ?F ?N ?T ?C ?cd ?mem ?t ?n ?cl ?_; (case F => k_asm); (case N => k_asm); (case T => k_asm); (case cd => exact rfl); (case C => kn_code); (case mem => k_mem); (case t => kn_triples); (case n => kn_hit); (case cl => exact rfl); k_whole); intro f' ct' dc' h' tk' F' N' l1; (try dsimp only at N'); (try k_lt l1)))))
section
variable {w : World} {p : Program} {loose : List Str} {mean : ExcName → Option Value} {mg mb : Str → Option Value} (news : List (Addr × Obj))
theorem raisedSN_sub {base g : Heap} {outer : List Env} {e : Addr} {cls : Value} {news news' : List (Addr × Obj)} {h : Heap} (R : RaisedSN base g outer e cls news h) (sub : ∀ q ∈ news', q ∈ news) : RaisedSN base g outer e cls news' h := by
  obtain ⟨B, a0, hB, hBG, hl, hfl⟩ := R
  exact ⟨B, a0, hB, hBG, fun q hq => hl q (sub q hq), hfl⟩
theorem news_mv {g : Heap} {L : Addr} {h : Heap} {x0 x1 x2 x3 x4 x5 x6 x7 x8 y : Addr × Obj} {r : List (Addr × Obj)} (N : News g L h (x0 :: x1 :: x2 :: x3 :: x4 :: x5 :: x6 :: x7 :: x8 :: y :: r)) : News g L h (x0 :: y :: x1 :: x2 :: x3 :: x4 :: x5 :: x6 :: x7 :: x8 :: r) := fun q hq => N q (by
  simp only [List.mem_cons] at hq ⊢
  rcases hq with rfl | rfl | rfl | rfl | rfl | rfl | rfl | rfl | rfl | rfl | hq <;> simp only [true_or, or_true, *])
def parsQ : Str := qualnameIn (envX (Str.ofString "ProxyTLV.parse") { kind := .function, names := [], isGenerator := false, isCoroutine := false } 0 77 (.ref 76) []) (Str.ofString "_pars") (Str.ofString "_pars")
set_option maxRecDepth 100000 in
set_option maxHeartbeats 2000000 in
theorem c_parse (args : Args) (b : Array UInt8) (td : Tok) (po strict : Bool) (tb : List (Addr × Obj)) (htb : TabSt 24 8 parsQ tb) (h72 : ∀ p ∈ news, p.1 ≠ 72) (hlen : (KBw.bInts b).length ≤ 1000000) (hnc : (pars strict po 2 (KBw.bInts b) 0 [] []).1 ≠ .crash)
    (hargs : args = ⟨[.ref 104, .bytes b td, .bool po, .bool strict], []⟩ ∨ args = ⟨[.ref 104, .bytes b td], [(Str.ofString "partial_ok", .bool po), (Str.ofString "strict", .bool strict)]⟩)
    (dp un : Nat) (gd : Option (List Code)) (cn : Str) (cs : Scope) (a : Addr) (ccd : Value) (cl : List (Str × Addr)) (outer : List Env) (A₀ : Around) (base h₀ : Heap) (L : Addr) (m : Str → Option Value) (s : Shared) (Q E : Value → Shared → Prop)
    (B : Below A₀ base outer h₀) (F : Fr h₀ L s.heap m) (XB : (Mine.hd.heap_39 w.params).In base) (TB : Top p loose mean mg mb base) (N : News h₀ L s.heap (tb ++ news)) (hk : cs.kind = .function) (hd : dp + 60 < recursionLimit) (hu : un + 300 < cLine) (hC : CodeHd base 76 72)
    (hok : ∀ R2 T2, (pars strict po 2 (KBw.bInts b) 0 [] [] = (.ok, R2, T2) ∨ (pars strict po 2 (KBw.bInts b) 0 [] [] = (.bad, R2, T2) ∧ po = true)) → ∀ t d1 d2 o1 o2 tb' h' h₀' tk', KtsTurn (outer.filterMap (·.frame)) h₀ h₀' → Fr h₀' L h' m → News h₀' L h' ((t, kdv_tup [.ref d1, .ref d2]) :: (d1, o1) :: (d2, o2) :: (tb' ++ news)) → TabSt 24 8 parsQ tb' → TabUp tb news tb' → Below A₀ base outer h₀' → DS w o1 o2 R2 T2 → (d1 == sysModules) = false → (d2 == sysModules) = false → Q (.ref t) { s with heap := h', toks := tk' })
    (hbad : ∀ R2 T2, pars strict po 2 (KBw.bInts b) 0 [] [] = (.bad, R2, T2) → po = false → ∀ h' e G h₀' tk' tb', KtsTurn (outer.filterMap (·.frame)) h₀ h₀' → Below A₀ base outer h₀' → Fr h₀' L G m → TabSt 24 8 parsQ tb' → TabUp tb news tb' → RaisedSN base G (envX cn cs L a ccd cl :: outer) e (.ref 31) (tb' ++ news) h' → G.UpToSlots h' → E (.ref e) { s with heap := h', toks := tk' })
    (hunk : ∀ R2 T2, pars strict po 2 (KBw.bInts b) 0 [] [] = (.unk, R2, T2) → ∀ h' e G h₀' tk' tb', KtsTurn (outer.filterMap (·.frame)) h₀ h₀' → Below A₀ base outer h₀' → Fr h₀' L G m → TabSt 24 8 parsQ tb' → TabUp tb news tb' → RaisedSN base G (envX cn cs L a ccd cl :: outer) e (.ref 44) (tb' ++ news) h' → G.UpToSlots h' → E (.ref e) { s with heap := h', toks := tk' }) :
      codeAny (model PySem.Challenge.rw_fc0001_01.row.prog w) (ktrTop dp un gd cn cs L a ccd cl outer) (.call (.ref 77) args) (fun r s' => match r with | .ok (.ret v) => Q v s' | .ok _ => False | .error e => E e s') s := by
  have X := XB.keeps B.stays
  have T := TB.keeps B.stays
  revert X
  k_fill
  intro X
  replace hok := Box.mk hok
  replace hbad := Box.mk hbad
  replace hunk := Box.mk hunk
  replace hnc := Box.mk hnc
  have key := @parse_tail w
  generalize hps0 : parScope w.params = scope0 at key
  generalize hpt0 : parTail w.params = tail0 at key
  conv at hps0 => lhs; whnf
  conv at hpt0 => lhs; whnf
  subst hps0 hpt0
  replace key := Box.mk @key
  rcases htb with rfl | ⟨c0, oc0, vs0, t0, rfl, hoc0, hvs0⟩
  all_goals (simp only [List.cons_append, List.nil_append] at N)
  all_goals (k_dflt (refine' codeT_C ?k1 ?k2 ?k3 ?k4 ?k5 ?kA ?kF ?kK ?k6 ?k7 ?k8 ?k9 ?kB ?kD ?_ ?c2 ?c3 ?c4; (case kA => exact rfl); (case kF => exact rfl); (case kK => first | exact rfl | assumption); (case k1 => k_asm); (case k2 => k_asm); (case k3 => k_asm); (case k4 => k_asm); (case k5 => k_asm); (case k6 => k_is); (case k7 => k_is); (case k8 => k_room); (case k9 => (rcases hargs with rfl | rfl); (first | exact BindsTo.of_eq rfl | exact binds_K (by k_in) rfl (by k_is) rfl rfl rfl); (first | exact BindsTo.of_eq rfl | exact binds_K (by k_in) rfl (by k_is) rfl rfl rfl)); (case kB => exact rfl); (case kD => decide +kernel); (case c2 => exact rfl); (case c3 => exact rfl); (case c4 => exact rfl); k_whole; intro g' L' h' tk' cells' FG' F' N' Y' B' X' T' l1; (try k_lt l1); k_cells Y'; (try simp only [List.cons_append, List.nil_append] at N'); (try dsimp only); (try k_lift B'); (try k_fold)))
  · have hL := kst_ltOf l1.2
    have hC' : CodeHd g' 76 72 := hC.keeps B'.stays
    repeat' (first | (k_unfold; (try dsimp only)) | ((fail_if_success (with_reducible show (ite _ _ _))); (fail_if_success (with_reducible show wpAny _ _ (execs (Stmt.Try _ _ _ _ _ :: _) _) _ _ _)); first | walk1 | (dsimp only; walk1) | (leave1; try dsimp only)))
    rename_i o1x o2x o3x oS oO oC x1 x2 x3 x4 x5 x6 dr _ odr lor hsr _ _ _ lr1 _ oR hR dt _ odt lot hst _ _ _ lt1 _ oT hT f9 c9 oc9 vs9 t9 _ _ _ _ g1 g2 lc1 lc2 h9 oP F9 N9 hP
    dsimp only
    have hS : oS.data = .cell (some (.bool strict)) := x4
    have hO : oO.data = .cell (some (.bool po)) := x5
    have hCl : oC.data = .cell (some (.ref 104)) := x6
    clear x1 x2 x3 x4 x5 x6
    have hUp : TabUp [(72, tabObj #[])] news [(c9, oc9), (72, tabObj (#[] ++ #[rawInt ↑24, rawInt ↑8, Value.ref c9]))] := by
      intro q hq
      rcases List.mem_cons.mp hq with rfl | hq
      · right
        intro p hp
        have hz := lc1.2.2.2.2.2.2.2.2
        rcases List.mem_cons.mp hp with rfl | hp
        · exact hz.1
        · exact kst_ltOf hz.2 p hp
      · left
        exact ⟨_, .head _, by rw [List.mem_singleton.mp hq]⟩
    refine key.out (po := po) (strict := strict) (rest := (72, tabObj (#[] ++ #[rawInt ↑24, rawInt ↑8, Value.ref c9])) :: news) ⟨?_, hT, hR, hP, hS, hO, hCl, ?_, lor, lot⟩ B' XB TB F9 rfl N9 hlen ⟨⟨[], hsr, .nil⟩, ⟨[], hst, .nil⟩⟩ ?_ ?_ ?_ hnc.out ?_ ?_ ?_ ?_
    · generalize hpb : parsBody w.params = body
      generalize hps : parsScope w.params = scope
      generalize hpa : parsArgs w.params = params
      conv at hpb => lhs; whnf
      conv at hps => lhs; whnf
      conv at hpa => lhs; whnf
      subst hpb hps hpa
      exact ⟨_, _, _, _, _, rfl, _, _, g1, g2⟩
    · have := hL; omega
    · intro q hq
      rcases List.mem_cons.mp hq with rfl | hq
      · show @LT.lt Nat _ 72 (L' + 1); omega
      · exact Nat.lt_succ_of_lt (hL q hq)
    · dsimp only [ktrTop]; omega
    · dsimp only [ktrTop]; omega
    · intro e; passes_own
    · intro R2 T2 hR t5 g5 h5 tk5 m5 o15 o25 turn5 B5 F5 N5 hds5
      dsimp only
      refine leaveT_ F5 N5 turn5 (fun h₀' T6 F6 N6 B6 => hok.out R2 T2 hR t5 dr dt o15 o25 [(c9, oc9), (72, tabObj (#[] ++ #[rawInt ↑24, rawInt ↑8, Value.ref c9]))] _ _ _ T6 F6 (fun q hq => N6 q ?_) (.inr ⟨c9, oc9, vs9, t9, rfl, g1, g2⟩) hUp B6 hds5 lor lot)
      simp only [List.mem_cons, List.cons_append, List.nil_append] at hq ⊢
      rcases hq with rfl | rfl | rfl | rfl | rfl | hq <;> simp only [true_or, or_true, *]
    · intro R2 T2 hz hpo g5 G h5 e tk5 m5 o15 o25 turn5 B5 F5 RH up
      refine x_held RH F5 up rfl (fun h6 R6 S6 => ?_)
      obtain ⟨h₀', T6, B6, F6⟩ := turn_up B FG' rfl turn5
      refine hbad.out R2 T2 hz hpo h6 e g5 h₀' _ [(c9, oc9), (72, tabObj (#[] ++ #[rawInt ↑24, rawInt ↑8, Value.ref c9]))] T6 B6 F6 (.inr ⟨c9, oc9, vs9, t9, rfl, g1, g2⟩) hUp (raisedSN_sub R6 (fun q hq => ?_)) S6
      simp only [List.mem_cons, List.cons_append, List.nil_append] at hq ⊢
      rcases hq with rfl | rfl | hq <;> simp only [true_or, or_true, *]
    · intro R2 T2 hz g5 G h5 e tk5 m5 o15 o25 turn5 B5 F5 RH up
      refine x_held RH F5 up rfl (fun h6 R6 S6 => ?_)
      obtain ⟨h₀', T6, B6, F6⟩ := turn_up B FG' rfl turn5
      refine hunk.out R2 T2 hz h6 e g5 h₀' _ [(c9, oc9), (72, tabObj (#[] ++ #[rawInt ↑24, rawInt ↑8, Value.ref c9]))] T6 B6 F6 (.inr ⟨c9, oc9, vs9, t9, rfl, g1, g2⟩) hUp (raisedSN_sub R6 (fun q hq => ?_)) S6
      simp only [List.mem_cons, List.cons_append, List.nil_append] at hq ⊢
      rcases hq with rfl | rfl | hq <;> simp only [true_or, or_true, *]
  · have hL := kst_ltOf l1.2.2
    have hC' : CodeHd g' 76 72 := hC.keeps B'.stays
    repeat' (first | (k_unfold; (try dsimp only)) | ((fail_if_success (with_reducible show (ite _ _ _))); (fail_if_success (with_reducible show wpAny _ _ (execs (Stmt.Try _ _ _ _ _ :: _) _) _ _ _)); first | walk1 | (dsimp only; walk1) | (leave1; try dsimp only)))
    rename_i o1x o2x o3x oS oO oC x1 x2 x3 x4 x5 x6 dr _ odr lor hsr _ _ _ lr1 _ oR hR dt _ odt lot hst _ _ _ lt1 _ oT hT f9 _ _ _ _ lc1 h9 oP F9 N9 hP
    dsimp only
    have hS : oS.data = .cell (some (.bool strict)) := x4
    have hO : oO.data = .cell (some (.bool po)) := x5
    have hCl : oC.data = .cell (some (.ref 104)) := x6
    clear x1 x2 x3 x4 x5 x6
    have N10 := news_mv N9
    have hUp : TabUp [(c0, oc0), (72, tabObj #[rawInt 24, rawInt 8, Value.ref c0])] news [(c0, oc0), (72, tabObj #[rawInt 24, rawInt 8, Value.ref c0])] := fun q hq => .inl ⟨q, hq, rfl⟩
    refine key.out (po := po) (strict := strict) (rest := (72, tabObj #[rawInt 24, rawInt 8, Value.ref c0]) :: news) ⟨?_, hT, hR, hP, hS, hO, hCl, ?_, lor, lot⟩ B' XB TB F9 rfl N10 hlen ⟨⟨[], hsr, .nil⟩, ⟨[], hst, .nil⟩⟩ ?_ ?_ ?_ hnc.out ?_ ?_ ?_ ?_
    · generalize hpb : parsBody w.params = body
      generalize hps : parsScope w.params = scope
      generalize hpa : parsArgs w.params = params
      conv at hpb => lhs; whnf
      conv at hps => lhs; whnf
      conv at hpa => lhs; whnf
      subst hpb hps hpa
      exact ⟨_, _, _, _, _, rfl, _, _, hoc0, hvs0⟩
    · have := hL; omega
    · intro q hq
      rcases List.mem_cons.mp hq with rfl | hq
      · show @LT.lt Nat _ 72 (L' + 1); omega
      · exact Nat.lt_succ_of_lt (hL q hq)
    · dsimp only [ktrTop]; omega
    · dsimp only [ktrTop]; omega
    · intro e; passes_own
    · intro R2 T2 hR t5 g5 h5 tk5 m5 o15 o25 turn5 B5 F5 N5 hds5
      dsimp only
      refine leaveT_ F5 N5 turn5 (fun h₀' T6 F6 N6 B6 => hok.out R2 T2 hR t5 dr dt o15 o25 [(c0, oc0), (72, tabObj #[rawInt 24, rawInt 8, Value.ref c0])] _ _ _ T6 F6 (fun q hq => N6 q ?_) (.inr ⟨c0, oc0, vs0, t0, rfl, hoc0, hvs0⟩) hUp B6 hds5 lor lot)
      simp only [List.mem_cons, List.cons_append, List.nil_append] at hq ⊢
      rcases hq with rfl | rfl | rfl | rfl | rfl | hq <;> simp only [true_or, or_true, *]
    · intro R2 T2 hz hpo g5 G h5 e tk5 m5 o15 o25 turn5 B5 F5 RH up
      refine x_held RH F5 up rfl (fun h6 R6 S6 => ?_)
      obtain ⟨h₀', T6, B6, F6⟩ := turn_up B FG' rfl turn5
      refine hbad.out R2 T2 hz hpo h6 e g5 h₀' _ [(c0, oc0), (72, tabObj #[rawInt 24, rawInt 8, Value.ref c0])] T6 B6 F6 (.inr ⟨c0, oc0, vs0, t0, rfl, hoc0, hvs0⟩) hUp (raisedSN_sub R6 (fun q hq => ?_)) S6
      simp only [List.mem_cons, List.cons_append, List.nil_append] at hq ⊢
      rcases hq with rfl | rfl | hq <;> simp only [true_or, or_true, *]
    · intro R2 T2 hz g5 G h5 e tk5 m5 o15 o25 turn5 B5 F5 RH up
      refine x_held RH F5 up rfl (fun h6 R6 S6 => ?_)
      obtain ⟨h₀', T6, B6, F6⟩ := turn_up B FG' rfl turn5
      refine hunk.out R2 T2 hz h6 e g5 h₀' _ [(c0, oc0), (72, tabObj #[rawInt 24, rawInt 8, Value.ref c0])] T6 B6 F6 (.inr ⟨c0, oc0, vs0, t0, rfl, hoc0, hvs0⟩) hUp (raisedSN_sub R6 (fun q hq => ?_)) S6
      simp only [List.mem_cons, List.cons_append, List.nil_append] at hq ⊢
      rcases hq with rfl | rfl | hq <;> simp only [true_or, or_true, *]
end
end Mine
end

section
theorem Mine.rst_Q3 {prog : PySem.Program} {w : PySem.World} {A : PySem.Around} {Q : PySem.Flow → PySem.Shared → Prop} {E : PySem.Value → PySem.Shared → Prop} {s : PySem.Shared} {env : PySem.Env} {pos : PySem.Pos} : True ∨ PySem.wpAny (PySem.model prog w) A (PySem.exec (PySem.Stmt.Pass pos) env) Q E s := by
  w_on
  w_top off
  first | (right; walk1; fail) | exact .inl trivial
open PySem PySem.W PySem.Calls PyProof.Rows PyProof.V
set_option Elab.async false
namespace Mine
local macro_rules | `(tactic| k_room) => `(tactic| ktr_room)
local macro_rules | `(tactic| k_units) => `(tactic| ktr_units)
local macro_rules | `(tactic| k_enter) => `(tactic| first
  | (refine' code_def ?k1 ?k2 ?k3 ?k4 ?k5 ?kA ?kF ?kK ?k6 ?k7 ?k8 ?k9 ?kB ?_ ?c2 ?c3 ?c4 ?c5; (case kA => exact rfl); (case kF => exact rfl); (case kK => first | exact rfl | assumption); (case k1 => k_asm); (case k2 => k_asm); (case k3 => k_asm); (case k4 => k_asm); (case k5 => k_asm); (case k6 => k_is); (case k7 => k_is); (case k8 => k_room); (case k9 => first | exact BindsTo.of_eq rfl | exact binds_K (by k_in) rfl (by k_is) rfl rfl rfl | fail "k_enter: no rule for these arguments"); (case c5 => decide); (case kB => exact locs rfl); (case c2 => exact rfl); (case c3 => exact rfl); (case c4 => exact rfl); k_whole; intro g' L' h' FG' F' N' B' X' T'; (try dsimp only); (try k_lift B'); (try k_fold))
  | (refine' code_defC ?k1 ?k2 ?k3 ?k4 ?k5 ?kA ?kF ?kK ?k6 ?k7 ?k8 ?k9 ?kB ?kD ?_ ?c2 ?c3 ?c4; (case kA => exact rfl); (case kF => exact rfl); (case kK => first | exact rfl | assumption); (case k1 => k_asm); (case k2 => k_asm); (case k3 => k_asm); (case k4 => k_asm); (case k5 => k_asm); (case k6 => k_is); (case k7 => k_is); (case k8 => k_room); (case k9 => first | exact BindsTo.of_eq rfl | exact binds_K (by k_in) rfl (by k_is) rfl rfl rfl | fail "k_enter: no rule for these arguments"); (case kB => exact rfl); (case kD => decide +kernel); (case c2 => exact rfl); (case c3 => exact rfl); (case c4 => exact rfl); k_whole; intro g' L' h' tk' cells' FG' F' N' Y' B' X' T' l1; (try k_lt l1); k_cells Y'; (try simp only [List.cons_append, List.nil_append] at N'); (try dsimp only); (try k_lift B'); (try k_fold)))
local macro_rules | `(tactic| walk_at "exec For Name Subscript cons nil") => `(tactic| (k_here; (rename Fr _ _ _ _ => lF'); (with_unfolding_all refine' For_hold lF' ?_; k_whole)))
local macro_rules | `(tactic| walk_at "exec For Name Call cons nil") => `(tactic| (k_here; (rename Fr _ _ _ _ => lF'); (with_unfolding_all refine' For_hold lF' ?_; k_whole)))
local macro_rules | `(tactic| walk_at "exec For Name Tuple cons nil") => `(tactic| (k_here; (rename Fr _ _ _ _ => lF'); (with_unfolding_all refine' For_hold lF' ?_; k_whole)))
local macro_rules | `(tactic| walk_at "exec For Name Name cons nil") => `(tactic| (k_here; (rename Fr _ _ _ _ => lF'); (with_unfolding_all refine' For_hold lF' ?_; k_whole)))
local macro_rules | `(tactic| walk_at "exec For Tuple Name cons nil") => `(tactic| (k_here; (rename Fr _ _ _ _ => lF'); (with_unfolding_all refine' For_hold lF' ?_; k_whole)))
local macro_rules | `(tactic| k_all) => `(tactic| first | with_reducible assumption | exact ne_ge (by with_reducible assumption) (by omega) | exact List.forall_mem_nil _ | (refine' List.forall_mem_cons.mpr ⟨?a, ?b⟩; (case a => k_ne); (case b => k_all)))
local macro_rules | `(tactic| walk_at "call builtin:list.append") => `(tactic| (k_here; (with_reducible show wpAny _ _ (call (Value.builtin _) [Value.ref _, _]) _ _ _); k_dflt (refine' append_K ?k1 ?k2 ?k3 ?_ ?z; (case k1 => k_asm); (case k2 => k_asm); (case k3 => k_upd); (case z => (rw [List.size_toArray, sizeLine_eq]; omega)); k_whole); intro h' F' N'; (try k_sweep)))
local macro_rules | `(tactic| walk_at "exec Try") => `(tactic| (k_here; refine wpAny_Try_except ?_))
section
variable {w : World} {p : Program} {loose : List Str} {mean : ExcName → Option Value} {mg mb : Str → Option Value} (news : List (Addr × Obj))
theorem news_A {g : Heap} {L : Addr} {h : Heap} {x0 x1 x2 x3 : Addr × Obj} {r : List (Addr × Obj)} (N : News g L h (x0 :: x1 :: x2 :: x3 :: r)) : News g L h (x0 :: x2 :: x3 :: r) := fun q hq => N q (by
  simp only [List.mem_cons] at hq ⊢
  rcases hq with rfl | rfl | rfl | hq <;> simp only [true_or, or_true, *])
theorem news_B {g : Heap} {L : Addr} {h : Heap} {x0 x1 x2 x3 x4 : Addr × Obj} {r : List (Addr × Obj)} (N : News g L h (x0 :: x1 :: x2 :: x3 :: x4 :: r)) : News g L h (x0 :: x2 :: x1 :: r) := fun q hq => N q (by
  simp only [List.mem_cons] at hq ⊢
  rcases hq with rfl | rfl | rfl | hq <;> simp only [true_or, or_true, *])
def readOut (strict po : Bool) (ks : List Int) : Str × RS × LS :=
  match pars strict po 2 ks 0 [] [] with
  | (.ok, R, T) => (Str.ofString "sound", R, T)
  | (.bad, R, T) => if po then (Str.ofString "sound", R, T) else (Str.ofString "malformed", [], [])
  | (.unk, _, _) => (Str.ofString "unknown", [], [])
  | (.crash, _, _) => (Str.ofString "", [], [])
set_option maxRecDepth 100000 in
set_option maxHeartbeats 2000000 in
theorem c_read (b : Array UInt8) (td : Tok) (po strict : Bool) (tb : List (Addr × Obj)) (htb : TabSt 24 8 parsQ tb) (h72 : ∀ p ∈ news, p.1 ≠ 72) (hlen : (KBw.bInts b).length ≤ 1000000) (hnc : (pars strict po 2 (KBw.bInts b) 0 [] []).1 ≠ .crash)
    (dp un : Nat) (gd : Option (List Code)) (cn : Str) (cs : Scope) (a : Addr) (ccd : Value) (cl : List (Str × Addr)) (outer : List Env) (A₀ : Around) (base h₀ : Heap) (L : Addr) (m : Str → Option Value) (s : Shared) (Q E : Value → Shared → Prop)
    (B : Below A₀ base outer h₀) (F : Fr h₀ L s.heap m) (XB : (Mine.hd.heap_39 w.params).In base) (TB : Top p loose mean mg mb base) (N : News h₀ L s.heap (tb ++ news)) (hk : cs.kind = .function) (hd : dp + 80 < recursionLimit) (hu : un + 400 < cLine) (hC : CodeHd base 76 72)
    (hok : ∀ t to d1 d2 o1 o2 tb' h' h₀' tk', KtsTurn (outer.filterMap (·.frame)) h₀ h₀' → Fr h₀' L h' m → News h₀' L h' ((t, kdv_tup [.ref d1, .ref d2, .str (readOut strict po (KBw.bInts b)).1 to]) :: (d1, o1) :: (d2, o2) :: (tb' ++ news)) → TabSt 24 8 parsQ tb' → TabUp tb news tb' → Below A₀ base outer h₀' → DS w o1 o2 (readOut strict po (KBw.bInts b)).2.1 (readOut strict po (KBw.bInts b)).2.2 → (d1 == sysModules) = false → (d2 == sysModules) = false → Q (.ref t) { s with heap := h', toks := tk' }) :
      wpAny (model PySem.Challenge.rw_fc0001_01.row.prog w) (ktrTop dp un gd cn cs L a ccd cl outer) (call (.ref 154) [.bytes b td, .bool po, .bool strict]) Q E s := by
  have X := XB.keeps B.stays
  have T := TB.keeps B.stays
  revert X
  k_fill
  intro X
  refine wpAny_call ?_
  replace hok := Box.mk hok
  replace hnc := Box.mk hnc
  k_dflt (refine' codeT ?k1 ?k2 ?k3 ?k4 ?k5 ?kA ?kF ?kK ?k6 ?k7 ?k8 ?k9 ?kB ?_ ?c2 ?c3 ?c4 ?c5; (case kA => exact rfl); (case kF => exact rfl); (case kK => first | exact rfl | assumption); (case k1 => k_asm); (case k2 => k_asm); (case k3 => k_asm); (case k4 => k_asm); (case k5 => k_asm); (case k6 => k_is); (case k7 => k_is); (case k8 => k_room); (case k9 => exact BindsTo.of_eq rfl); (case c5 => decide); (case kB => exact locs rfl); (case c2 => exact rfl); (case c3 => exact rfl); (case c4 => exact rfl); k_whole; intro g' L' h' FG' F' N' B' X' T' l1; (try dsimp only); (try k_lift B'); (try k_fold))
  repeat' (first | (k_unfold; (try dsimp only)) | ((fail_if_success (with_reducible show (ite _ _ _))); (fail_if_success (with_reducible show wpAny _ _ (call (Value.ref _) [_, _, _] _) _ _ _)); first | walk1 | (dsimp only; walk1) | (leave1; try dsimp only)))
  rename_i q9 h9 F9 N9 l9
  refine call_meth N9 (.head _) ?_
  refine c_parse news _ b td po strict tb htb h72 hlen hnc.out (.inl rfl) _ _ _ _ _ _ _ _ _ _ base g' L' _ _ _ _ B' F9 XB TB (fun q hq => N9 q (.tail _ hq)) rfl (by dsimp only [ktrTop]; omega) (by dsimp only [ktrTop]; omega) hC ?_ ?_ ?_
  · intro R2 T2 hR t d1 d2 o1 o2 tb' h2 h₀' tk2 turn F2 N2 hTb hUp B2 hds lo1 lo2
    have X2 := XB.keeps B2.stays
    have T2' := TB.keeps B2.stays
    replace hds := Box.mk hds
    replace hR := Box.mk hR
    clear F9 N9 X' T'
    repeat' (first | (k_unfold; (try dsimp only)) | ((fail_if_success (with_reducible show (ite _ _ _))); first | walk1 | (dsimp only; walk1) | (leave1; try dsimp only)))
    rename_i tk9 _ _ _ D9 h9 F9 N9 l9
    have hro : readOut strict po (KBw.bInts b) = (Str.ofString "sound", R2, T2) := by
      unfold readOut
      rcases hR.out with h | ⟨h, hp⟩
      · rw [h]
      · rw [h]; dsimp only; rw [if_pos hp]
    have hok' := hok.out
    rw [hro] at hok'
    try k_unfold
    dsimp only
    exact leaveT_ F9 N9 turn (fun h₀' T3 F3 N3 B3 => hok' D9 _ d1 d2 o1 o2 tb' _ _ _ T3 F3 (news_A N3) hTb hUp B3 hds.out lo1 lo2)
  · intro R2 T2 hR hpo h2 e G h₀' tk2 tb' turn B2 F2 hTb hUp RS up
    clear F9 N9 X' T'
    refine x_look rfl RS up (fun h3 RS3 up3 => ?_)
    refine x_test (K := Mine.hd.heap_39 w.params) (b := true) B2 F2 RS3 up3 XB TB (ns31 _) (by kernel_rfl) ?_
    rw [if_pos rfl]
    refine x_hit B2 F2 RS3 up3 (fun h4 g4 Ta oe oTa turn4 F4 N4 P4 hne B4 => ?_) (by passes_own)
    have X2 := XB.keeps B4.stays
    have T2' := TB.keeps B4.stays
    clear F2 RS
    repeat' (first | (k_unfold; (try dsimp only)) | ((fail_if_success (with_reducible show (ite _ _ _))); first | walk1 | (dsimp only; walk1) | (leave1; try dsimp only)))
    rename_i da _ oa loa hsa _ _ _ _ db _ ob lob hsb _ _ _ _ D9 h9 F9 N9 l9
    have hro : readOut strict po (KBw.bInts b) = (Str.ofString "malformed", [], []) := by
      unfold readOut
      rw [hR]
      dsimp only; rw [if_neg (by rw [hpo]; decide)]
    have hok' := hok.out
    rw [hro] at hok'
    try k_unfold
    dsimp only
    exact leaveT_ F9 N9 (turn.trans turn4) (fun h₀' T3 F3 N3 B3 => hok' D9 _ da db oa ob tb' _ _ _ T3 F3 (news_B N3) hTb hUp B3 ⟨⟨[], hsa, .nil⟩, ⟨[], hsb, .nil⟩⟩ loa lob)
  · intro R2 T2 hR h2 e G h₀' tk2 tb' turn B2 F2 hTb hUp RS up
    clear F9 N9 X' T'
    refine x_look rfl RS up (fun h3 RS3 up3 => ?_)
    refine x_test (K := Mine.hd.heap_39 w.params) (b := false) B2 F2 RS3 up3 XB TB (ns31 _) (by kernel_rfl) ?_
    rw [if_neg (by decide)]
    refine x_test (K := Mine.hd.heap_39 w.params) (b := true) B2 F2 RS3 up3 XB TB (ns44 _) (by kernel_rfl) ?_
    rw [if_pos rfl]
    refine x_hit B2 F2 RS3 up3 (fun h4 g4 Ta oe oTa turn4 F4 N4 P4 hne B4 => ?_) (by passes_own)
    have X2 := XB.keeps B4.stays
    have T2' := TB.keeps B4.stays
    clear F2 RS
    repeat' (first | (k_unfold; (try dsimp only)) | ((fail_if_success (with_reducible show (ite _ _ _))); first | walk1 | (dsimp only; walk1) | (leave1; try dsimp only)))
    rename_i da _ oa loa hsa _ _ _ _ db _ ob lob hsb _ _ _ _ D9 h9 F9 N9 l9
    have hro : readOut strict po (KBw.bInts b) = (Str.ofString "unknown", [], []) := by
      unfold readOut
      rw [hR]
    have hok' := hok.out
    rw [hro] at hok'
    try k_unfold
    dsimp only
    exact leaveT_ F9 N9 (turn.trans turn4) (fun h₀' T3 F3 N3 B3 => hok' D9 _ da db oa ob tb' _ _ _ T3 F3 (news_B N3) hTb hUp B3 ⟨⟨[], hsa, .nil⟩, ⟨[], hsb, .nil⟩⟩ loa lob)
end
end Mine
end

section
theorem Mine.rst_W0 {prog : PySem.Program} {w : PySem.World} {A : PySem.Around} {Q : PySem.Flow → PySem.Shared → Prop} {E : PySem.Value → PySem.Shared → Prop} {s : PySem.Shared} {env : PySem.Env} {pos : PySem.Pos} : True ∨ PySem.wpAny (PySem.model prog w) A (PySem.exec (PySem.Stmt.Pass pos) env) Q E s := by
  w_on
  w_top off
  first | (right; walk1; fail) | exact .inl trivial
open PySem PySem.W PySem.Calls PyProof.Rows PyProof.V
set_option Elab.async false
namespace Mine
def walkIn (strict : Bool) : List (Int × Array UInt8) → RS → List Str → Bool × RS × List Str
  | [], R, I => (true, R, I)
  | (k, v) :: r, R, I => if strict && !known k then (false, R, I) else walkIn strict r (put R (nm k) (.oct (KBw.bInts v))) (I ++ [nm k])
def walkGo (strict cut : Bool) : List Ent → Int → RS → LS → List Str → Out × RS × LS × List Str
  | [], _, R, T, I => (.ok, R, T, I)
  | e :: r, a, R, T, I =>
    if cut && r.isEmpty then (.bad, R, T, I)
    else if strict && !known e.kind then (.unk, R, T, I)
    else
      let T' := put T (nm e.kind) a
      if e.kind = 32 then
        let vs := KBw.bInts e.value
        match walkIn strict e.inner (put (put R sCli (.num (vs.getD 0 0))) sVer (.num (((vs.getD 1 0 * 256 + vs.getD 2 0) * 256 + vs.getD 3 0) * 256 + vs.getD 4 0))) I with
        | (false, R2, I2) => (.unk, R2, T', I2)
        | (true, R2, I2) => if e.broken then (.bad, put R2 sSSL (.flag (!e.broken)), T', I2) else walkGo strict cut r (a + (3 + e.value.size)) (put R2 sSSL (.flag (!e.broken))) T' I2
      else walkGo strict cut r (a + (3 + e.value.size)) (put R (nm e.kind) (.oct (KBw.bInts e.value))) T' I
def outS : Out → Str
  | .ok => Str.ofString "sound"
  | .bad => Str.ofString "malformed"
  | .unk => Str.ofString "unknown"
  | .crash => Str.ofString ""
structure EntOk (e : Ent) : Prop where
  kind : e.kind ∈ kinds
  lo : e.kind = 32 → 5 ≤ e.value.size
  hi : e.value.size ≤ 200
  len : e.inner.length ≤ 3
  small : ∀ p ∈ e.inner, 33 ≤ p.1 ∧ p.1 ≤ 38
theorem small_kind {k : Int} (h : 33 ≤ k ∧ k ≤ 38) : k ∈ kinds := by
  simp only [kinds, List.mem_cons, List.not_mem_nil, or_false]; omega
theorem kinds_bd {k : Int} (h : k ∈ kinds) : 0 ≤ k ∧ k < 256 := by
  simp only [kinds, List.mem_cons, List.not_mem_nil, or_false] at h; omega
theorem walkIn_keys (strict : Bool) : ∀ (l : List (Int × Array UInt8)) (R : RS) (I : List Str), (∀ p ∈ l, 33 ≤ p.1 ∧ p.1 ≤ 38) → KeysIn R → KeysIn (walkIn strict l R I).2.1
  | [], _, _, _, h => h
  | (k, v) :: r, R, I, hs, h => by
    unfold walkIn
    split
    · exact h
    · exact walkIn_keys strict r _ _ (fun p hp => hs p (.tail _ hp)) (keysIn_put h (nm_in (small_kind (hs _ (.head _)))) _)
theorem walkIn_len (strict : Bool) : ∀ (l : List (Int × Array UInt8)) (R : RS) (I : List Str), (walkIn strict l R I).2.2.length ≤ I.length + l.length
  | [], _, _ => Nat.le_refl _
  | (k, v) :: r, R, I => by
    unfold walkIn
    split
    · exact Nat.le_add_right _ _
    · refine Nat.le_trans (walkIn_len strict r _ _) ?_
      simp only [List.length_append, List.length_cons, List.length_nil]; omega
theorem ent_inv {nw : List (Addr × Obj)} {v : Value} {e : Ent} (h : DatIn nw v (entD e)) : ∃ a t t' n il ws n', v = .ref a ∧ (a, ({ cls := .type "tuple", data := .seq #[.int e.kind t, .bytes e.value t', .ref il, .bool e.broken] n } : Obj)) ∈ nw ∧ (il, listOf ws.toArray n') ∈ nw ∧ DatAll nw ws (e.inner.map smallD) := by
  cases h with
  | tuple hm hd =>
    cases hd with
    | cons h1 hd =>
      cases hd with
      | cons h2 hd =>
        cases hd with
        | cons h3 hd =>
          cases hd with
          | cons h4 hd =>
            cases hd
            cases h1
            cases h2
            cases h4
            cases h3 with
            | list hm2 hd2 => exact ⟨_, _, _, _, _, _, _, rfl, hm, hm2, hd2⟩
theorem datAll_get {nw : List (Addr × Obj)} : ∀ {vs : List Value} {ds : List Dat}, DatAll nw vs ds → ∀ {i : Nat} {d : Dat}, ds[i]? = some d → ∃ v, vs[i]? = some v ∧ DatIn nw v d
  | _, _, .nil, i, _, h => by simp at h
  | _, _, .cons h1 h2, 0, d, h => by simp at h; subst h; exact ⟨_, rfl, h1⟩
  | _, _, .cons h1 h2, i + 1, d, h => by simp at h; obtain ⟨v, hv, hd⟩ := datAll_get h2 h; exact ⟨v, by simpa using hv, hd⟩
theorem entOf_ok (n : Int) : EntOk (entOf n) := by
  have hp := fmod_bd n (k := 10) (by decide)
  have hj := innerJ_le (n.fdiv 10)
  have h9 := fmod_bd (n.fdiv 10) (k := 9) (by decide)
  have h23 := fmod_bd (n.fdiv 10) (k := 23) (by decide)
  have hb : (baseOf (n.fdiv 10)).size = 5 + (joinB ((innerOf (n.fdiv 10)).map fun p => entryB p.1 p.2)).size := by
    unfold baseOf; rw [Array.size_append, octs_size]; rfl
  unfold entOf
  dsimp only
  split
  · refine ⟨?_, ?_, ?_, by simp, by simp⟩
    · dsimp only
      have hc : (n.fmod 10) = 0 ∨ (n.fmod 10) = 1 ∨ (n.fmod 10) = 2 ∨ (n.fmod 10) = 3 ∨ (n.fmod 10) = 4 ∨ (n.fmod 10) = 5 := by omega
      rcases hc with e | e | e | e | e | e <;> rw [e] <;> decide
    · dsimp only
      have hc : (n.fmod 10) = 0 ∨ (n.fmod 10) = 1 ∨ (n.fmod 10) = 2 ∨ (n.fmod 10) = 3 ∨ (n.fmod 10) = 4 ∨ (n.fmod 10) = 5 := by omega
      rcases hc with e | e | e | e | e | e <;> rw [e] <;> intro h <;> exact absurd h (by decide)
    · dsimp only; rw [octs_size]; omega
  split
  · refine ⟨(by decide : (32 : Int) ∈ kinds), ?_, ?_, inner_len _, fun p hp => ⟨(small_bd _ p hp).1, (small_bd _ p hp).2.1⟩⟩
    · dsimp only; intro _; rw [Array.size_append, Array.size_append, hb]; omega
    · dsimp only; rw [Array.size_append, Array.size_append, hb, octs_size, byteArr_size]; simp only [List.length_cons, List.length_nil]; omega
  · refine ⟨(by decide : (32 : Int) ∈ kinds), ?_, ?_, inner_len _, fun p hp => ⟨(small_bd _ p hp).1, (small_bd _ p hp).2.1⟩⟩
    · dsimp only; intro _; rw [hb]; omega
    · dsimp only; rw [hb]; omega
end Mine
end

section
theorem Mine.rst_W2 {prog : PySem.Program} {w : PySem.World} {A : PySem.Around} {Q : PySem.Flow → PySem.Shared → Prop} {E : PySem.Value → PySem.Shared → Prop} {s : PySem.Shared} {env : PySem.Env} {pos : PySem.Pos} : True ∨ PySem.wpAny (PySem.model prog w) A (PySem.exec (PySem.Stmt.Pass pos) env) Q E s := by
  w_on
  w_top off
  first | (right; walk1; fail) | exact .inl trivial
open PySem PySem.W PySem.Calls PyProof.Rows PyProof.V
set_option Elab.async false
namespace Mine
local macro_rules | `(tactic| k_room) => `(tactic| ktr_room)
local macro_rules | `(tactic| k_units) => `(tactic| ktr_units)
local macro_rules | `(tactic| k_enter) => `(tactic| first
  | (refine' code_def ?k1 ?k2 ?k3 ?k4 ?k5 ?kA ?kF ?kK ?k6 ?k7 ?k8 ?k9 ?kB ?_ ?c2 ?c3 ?c4 ?c5; (case kA => exact rfl); (case kF => exact rfl); (case kK => first | exact rfl | assumption); (case k1 => k_asm); (case k2 => k_asm); (case k3 => k_asm); (case k4 => k_asm); (case k5 => k_asm); (case k6 => k_is); (case k7 => k_is); (case k8 => k_room); (case k9 => first | exact BindsTo.of_eq rfl | exact binds_K (by k_in) rfl (by k_is) rfl rfl rfl | fail "k_enter: no rule for these arguments"); (case c5 => decide); (case kB => exact locs rfl); (case c2 => exact rfl); (case c3 => exact rfl); (case c4 => exact rfl); k_whole; intro g' L' h' FG' F' N' B' X' T'; (try dsimp only); (try k_lift B'); (try k_fold))
  | (refine' code_defC ?k1 ?k2 ?k3 ?k4 ?k5 ?kA ?kF ?kK ?k6 ?k7 ?k8 ?k9 ?kB ?kD ?_ ?c2 ?c3 ?c4; (case kA => exact rfl); (case kF => exact rfl); (case kK => first | exact rfl | assumption); (case k1 => k_asm); (case k2 => k_asm); (case k3 => k_asm); (case k4 => k_asm); (case k5 => k_asm); (case k6 => k_is); (case k7 => k_is); (case k8 => k_room); (case k9 => first | exact BindsTo.of_eq rfl | exact binds_K (by k_in) rfl (by k_is) rfl rfl rfl | fail "k_enter: no rule for these arguments"); (case kB => exact rfl); (case kD => decide +kernel); (case c2 => exact rfl); (case c3 => exact rfl); (case c4 => exact rfl); k_whole; intro g' L' h' tk' cells' FG' F' N' Y' B' X' T' l1; (try k_lt l1); k_cells Y'; (try simp only [List.cons_append, List.nil_append] at N'); (try dsimp only); (try k_lift B'); (try k_fold)))
local macro_rules | `(tactic| walk_at "exec For Name Subscript cons nil") => `(tactic| (k_here; (rename Fr _ _ _ _ => lF'); (with_unfolding_all refine' For_hold lF' ?_; k_whole)))
local macro_rules | `(tactic| walk_at "exec For Name Call cons nil") => `(tactic| (k_here; (rename Fr _ _ _ _ => lF'); (with_unfolding_all refine' For_hold lF' ?_; k_whole)))
local macro_rules | `(tactic| walk_at "exec For Name Tuple cons nil") => `(tactic| (k_here; (rename Fr _ _ _ _ => lF'); (with_unfolding_all refine' For_hold lF' ?_; k_whole)))
local macro_rules | `(tactic| walk_at "exec For Name Name cons nil") => `(tactic| (k_here; (rename Fr _ _ _ _ => lF'); (with_unfolding_all refine' For_hold lF' ?_; k_whole)))
local macro_rules | `(tactic| walk_at "exec For Tuple Name cons nil") => `(tactic| (k_here; (rename Fr _ _ _ _ => lF'); (with_unfolding_all refine' For_hold lF' ?_; k_whole)))
local macro_rules | `(tactic| k_all) => `(tactic| first | with_reducible assumption | exact ne_ge (by with_reducible assumption) (by omega) | exact List.forall_mem_nil _ | (refine' List.forall_mem_cons.mpr ⟨?a, ?b⟩; (case a => k_ne); (case b => k_all)))
local macro_rules | `(tactic| walk_at "call builtin:list.append") => `(tactic| (k_here; (with_reducible show wpAny _ _ (call (Value.builtin _) [Value.ref _, _]) _ _ _); k_dflt (refine' append_K ?k1 ?k2 ?k3 ?_ ?z; (case k1 => k_asm); (case k2 => k_asm); (case k3 => k_upd); (case z => (rw [List.size_toArray, sizeLine_eq]; omega)); k_whole); intro h' F' N'; (try k_sweep)))
local macro_rules | `(tactic| walk_at "call ref") => `(tactic| (k_here; (with_reducible show wpAny _ _ (call (Value.ref 116) _) _ _ _); k_dflt (refine' c_names _  _ _ _ _ _ _ _ _ _ _ _ _ _ _ _ _ _ ?k1 ?k2 ?k3 ?k4 ?k5 ?kK ?kd ?ku ?_; (case k1 => k_asm); (case k2 => k_asm); (case k3 => k_asm); (case k4 => k_asm); (case k5 => k_asm); (case kK => first | exact rfl | assumption);  (case kd => ktr_room); (case ku => ktr_units); k_whole); intro d' o' kvs' h' tk' F' N' l1 lo' hd' hf'; (try k_lt l1)))
local macro_rules | `(tactic| walk_at "call ref") => `(tactic| (k_here; (with_reducible show wpAny _ _ (call (Value.ref 123) _) _ _ _); k_dflt (refine' c_name _ _ _ ?g0 ?g1 _ _ _ _ _ _ _ _ _ _ _ _ _ _ _ _ _ ?k1 ?k2 ?k3 ?k4 ?k5 ?kK ?kd ?ku ?_; (case k1 => k_asm); (case k2 => k_asm); (case k3 => k_asm); (case k4 => k_asm); (case k5 => k_asm); (case kK => first | exact rfl | assumption); (case g0 => kba_bound); (case g1 => kba_bound); (case kd => ktr_room); (case ku => ktr_units); k_whole); intro t' h' tk' F' N'; (try k_sweep)))
local macro_rules | `(tactic| walk_at "compareOp In int ref") => `(tactic| (k_here; k_dflt (refine in_names (by k_tabat) ?_)))
local macro_rules | `(tactic| walk_at "compareOp NotIn int ref") => `(tactic| (k_here; k_dflt (refine notin_names (by k_tabat) ?_)))
theorem len_sym {prog : Program} {w : World} {A : Around} {E : Value → Shared → Prop} {s : Shared} {h₀ : Heap} {L D : Addr} {news : List (Addr × Obj)} {vs : List Value} {c : Nat} {Q : Value → Shared → Prop} (N : News h₀ L s.heap news) (hm : (D, listOf vs.toArray c) ∈ news) (hf : vs.length ≤ 1000000) (h : Q (.int (vs.length : Nat) (s.toks + 1)) { s with toks := s.toks + 1 + 1 }) :
    wpAny (model prog w) A (call (.builtin "len") [.ref D]) Q E s := by
  have hl : s.heap.IsList D vs.toArray := News.isList N hm
  refine Calls.call_len_list hl (by rw [List.size_toArray]; omega) ?_
  rw [List.size_toArray]
  exact h
theorem mem_of {α : Type} {a : α} {l : List α} (h : a ∈ l) : List.Mem a l := h
local macro_rules | `(tactic| k_mem) => `(tactic| first | with_reducible assumption | ((refine mem_of ?_); with_reducible assumption) | exact List.Mem.head _ | (refine' List.Mem.tail _ ?_; k_mem))
local macro_rules | `(tactic| walk_at "call builtin:len") => `(tactic| (k_here; (with_reducible show wpAny _ _ (call (Value.builtin "len") [Value.ref _]) _ _ _); k_dflt (refine' len_sym ?N ?m ?f ?_; (case N => k_asm); (case m => k_mem); (case f => omega))))
local macro_rules | `(tactic| walk_at "setItem ref str") => `(tactic| (k_here; k_dflt (refine' set_put ?F ?N ?U ?d ?K ?v ?_; (case F => k_asm); (case N => k_asm); (case U => k_updF); (case d => with_reducible assumption); (case K => (repeat' (first | with_reducible assumption | exact cli_in | exact ver_in | exact ssl_in | refine keysIn_put ?_ ?_ _))); (case v => first | exact (⟨_, rfl⟩ : isLoc _ _) | exact (show RV.is (.num _) _ from ⟨_, rfl⟩) | exact (show RV.is (.flag _) _ from rfl) | exact (show RV.is (.oct _) _ from ⟨_, _, rfl, rfl⟩))); intro h' o' F' N' hd'; (try dsimp only at N')))
theorem frL {h₀ : Heap} {L : Addr} {h : Heap} {m : Str → Option Value} : ∀ (l : List (Str × Value)), (∀ p ∈ l, m p.1 = some p.2) → Fr h₀ L h m → Fr h₀ L h (fun y => match List.lookup y l with | some v => some v | none => m y) := by
  intro l hl F
  have : (fun y => match List.lookup y l with | some v => some v | none => m y) = m := by
    funext y
    induction l with
    | nil => rfl
    | cons p r ih =>
      obtain ⟨a, b⟩ := p
      rw [List.lookup_cons]
      by_cases e : y = a
      · subst e
        rw [beq_self_eq_true]
        exact (hl (y, b) (.head _)).symm
      · rw [show (y == a) = false from by simpa using e]
        exact ih fun p hp => hl p (.tail _ hp)
  rw [this]; exact F
theorem get_at {prog : Program} {w : World} {A : Around} {E : Value → Shared → Prop} {s : Shared} {h₀ : Heap} {L l : Addr} {news : List (Addr × Obj)} {vs : List Value} {n i : Nat} {x : Value} {t : Tok} {Q : Value → Shared → Prop} (N : News h₀ L s.heap news) (hm : (l, listOf vs.toArray n) ∈ news) (hx : vs[i]? = some x) (hi : i ≤ 1000000) (h : Q x s) :
    wpAny (model prog w) A (getItem (.ref l) (.int (i : Int) t)) Q E s := wpAny_getItem_list (News.isList N hm) (by omega) (by omega) (by simpa using hx) h
theorem sub_at {prog : Program} {w : World} {A : Around} {E : Value → Shared → Prop} {s : Shared} {h₀ : Heap} {L l : Addr} {news : List (Addr × Obj)} {vs : List Value} {n i : Nat} {x : Value} {t : Tok} {Q : Value → Shared → Prop} {value slice : PySem.Expr} (N : News h₀ L s.heap news) (hm : (l, listOf vs.toArray n) ∈ news) (hx : vs[i]? = some x) (hi : i ≤ 1000000) (h : Q x s)
    (hs : subscripted slice false (.ref l) (.int (i : Int) t) = operate [.ref l, .int (i : Int) t] (getItem (.ref l) (.int (i : Int) t)) := by with_unfolding_all rfl) :
    wpAny (model prog w) A (subscriptTail value slice (.ref l) (.int (i : Int) t)) Q E s :=
  tail_any (News.isList N hm).typeIs slot_list_getitem.lookup (get_at N hm hx hi h) hs
local macro_rules | `(tactic| walk_at "subscriptTail") => `(tactic| (k_here; (with_reducible show wpAny _ _ (subscriptTail _ _ (Value.ref _) (Value.int _ _)) _ _ _); (with_unfolding_all refine' sub_at ?N ?m ?x ?i ?_ ?z; (case N => k_asm); (case m => k_mem); (case x => with_reducible assumption); (case i => omega); (case z => with_unfolding_all rfl); k_whole)))
local macro_rules | `(tactic| walk_at "getItem ref int") => `(tactic| (k_here; k_dflt (refine' get_at ?N ?m ?x ?i ?_; (case N => k_asm); (case m => k_mem); (case x => with_reducible assumption); (case i => omega))))
section
variable {w : World} {p : Program} {loose : List Str} {mean : ExcName → Option Value} {mg mb : Str → Option Value} 
noncomputable def wkRest (P : Params) : List Stmt := match fnBody ((Mine.hd.heap_39 P).lookup 147) with | [_, _, _, _, .For _ _ b _ _, _] => b.drop 3 | _ => []
noncomputable def wkScope (P : Params) : Scope := fnScope ((Mine.hd.heap_39 P).lookup 147)
abbrev SD (w : World) (o : Obj) (R : RS) : Prop := ∃ kv, o.IsDictOf (PySem.strKind PySem.Challenge.rw_fc0001_01.row.prog w) kv ∧ Rel RV.is kv R
abbrev LD (w : World) (o : Obj) (T : LS) : Prop := ∃ kv, o.IsDictOf (PySem.strKind PySem.Challenge.rw_fc0001_01.row.prog w) kv ∧ Rel isLoc kv T
section
variable {dp un : Nat} {gd : Option (List Code)} {outer : List Env} {A₀ : Around} {E : Value → Shared → Prop} {s : Shared} {g base : Heap} {L : Addr} {m : Str → Option Value} {Q : Flow → Shared → Prop}
  {I lI dP dT il : Addr} {oI oP oT : Obj} {ws wsS : List Value} {nI nS : Nat} {news : List (Addr × Obj)} {ek a1 : Int} {ev : Array UInt8} {ei : List (Int × Array UInt8)} {eb strict : Bool} {Is : List Str} {R : RS} {T : LS} {tk1 tv1 ta ts1 : Tok}
def wkKeep : List Str := [Str.ofString "entries", Str.ofString "cut", Str.ofString "strict", Str.ofString "table", Str.ofString "places", Str.ofString "inside"]
def sslR (R : RS) (vs : List Int) : RS := put (put R sCli (.num (vs.getD 0 0))) sVer (.num (((vs.getD 1 0 * 256 + vs.getD 2 0) * 256 + vs.getD 3 0) * 256 + vs.getD 4 0))
def inKeep : List Str := [Str.ofString "entries", Str.ofString "cut", Str.ofString "strict", Str.ofString "table", Str.ofString "places", Str.ofString "inside", Str.ofString "broken", Str.ofString "value", Str.ofString "at"]
def JIn (w : World) (lI dP dT I : Addr) (oP oI : Obj) (news : List (Addr × Obj)) (strict : Bool) (ei : List (Int × Array UInt8)) (R1 : RS) (I1 : List Str) (m1 : Str → Option Value) (i : Nat) (m : Str → Option Value) (nx : List (Addr × Obj)) : Prop :=
  ∃ oT ws nI R Is, nx = (lI, listOf ws.toArray nI) :: (dP, oP) :: (dT, oT) :: (I, oI) :: news ∧ SD w oT R ∧ KeysIn R ∧ StrsAre ws Is ∧ Is.length ≤ 100 + i ∧ walkIn strict (ei.drop i) R Is = walkIn strict ei R1 I1 ∧ ∀ x ∈ inKeep, m x = m1 x
theorem jin_end {w : World} {strict : Bool} {g : Heap} {L I I2 lI dP dT : Addr} {oI oI2 oP oT : Obj} {add news : List (Addr × Obj)} {ws : List Value} {nI i tk : Nat} {h' : Heap} {m' m₁ : Str → Option Value} {t : Tok} {sk : Int} {so : Array UInt8} {ei : List (Int × Array UInt8)} {R R1 : RS} {Is I1 : List Str} {s₁ : Shared} {Q : Flow → Shared → Prop}
    (F : Fr g L h' m') (N : News g L h' (add ++ (I2, oI2) :: (lI, listOf (ws.toArray.push (.str (nm sk) t)) (nI + 1)) :: (dP, oP) :: (dT, oT) :: (I, oI) :: news)) (x1 : @Ne Nat I2 lI) (x2 : @Ne Nat I2 dP) (x3 : @Ne Nat I2 dT) (x4 : @Ne Nat I2 I) (xn : ∀ p ∈ news, p.1 ≠ I2)
    (hT : SD w oT (put R (nm sk) (.oct (KBw.bInts so)))) (hk : KeysIn (put R (nm sk) (RV.oct (KBw.bInts so)))) (hws : StrsAre ws Is) (hl : Is.length ≤ 100 + i) (hgo : walkIn strict (ei.drop (i + 1)) (put R (nm sk) (.oct (KBw.bInts so))) (Is ++ [nm sk]) = walkIn strict ei R1 I1) (hm : ∀ x ∈ inKeep, m' x = m₁ x) :
    TEnd g L (JIn w lI dP dT I oP oI news strict ei R1 I1 m₁ (i + 1)) I2 oI2 s₁ Q .next { s₁ with heap := h', toks := tk } := by
  refine ⟨h', tk, m', _, (lI, listOf (ws ++ [Value.str (nm sk) t]).toArray (nI + 1)) :: (dP, oP) :: (dT, oT) :: (I, oI) :: news, rfl, F, N, List.mem_append.mpr (.inr (.head _)), ?_, ?_, oT, ws ++ [Value.str (nm sk) t], nI + 1, _, Is ++ [nm sk], rfl, hT, hk, hws.append' (.cons _ _ .nil), by rw [List.length_append]; simp only [List.length_cons, List.length_nil]; omega, hgo, hm⟩
  · intro p hp
    rw [← List.push_toArray] at hp
    exact List.mem_append.mpr (.inr (.tail _ hp))
  · intro p hp
    rcases List.mem_cons.mp hp with rfl | hp
    · exact fun e => x1 e.symm
    rcases List.mem_cons.mp hp with rfl | hp
    · exact fun e => x2 e.symm
    rcases List.mem_cons.mp hp with rfl | hp
    · exact fun e => x3 e.symm
    rcases List.mem_cons.mp hp with rfl | hp
    · exact fun e => x4 e.symm
    · exact xn p hp
theorem news_C {g : Heap} {L : Addr} {h : Heap} {x0 x1 x2 x3 x4 x5 x6 : Addr × Obj} {r : List (Addr × Obj)} (N : News g L h (x0 :: x1 :: x2 :: x3 :: x4 :: x5 :: x6 :: r)) : News g L h (x0 :: x3 :: x4 :: x5 :: r) := fun q hq => N q (by
  simp only [List.mem_cons] at hq ⊢
  rcases hq with rfl | rfl | rfl | rfl | hq <;> simp only [true_or, or_true, *])
theorem news_D {g : Heap} {L : Addr} {h : Heap} {x0 x1 x2 x3 x4 : Addr × Obj} {r : List (Addr × Obj)} (N : News g L h (x0 :: x1 :: x2 :: x3 :: x4 :: r)) : News g L h (x0 :: x1 :: x2 :: x3 :: r) := fun q hq => N q (by
  simp only [List.mem_cons] at hq ⊢
  rcases hq with rfl | rfl | rfl | rfl | hq <;> simp only [true_or, or_true, *])
theorem news_E {g : Heap} {L : Addr} {h : Heap} {x0 x1 x2 x3 : Addr × Obj} {r : List (Addr × Obj)} (N : News g L h (x0 :: x1 :: x2 :: x3 :: r)) : News g L h (x3 :: x0 :: x1 :: x2 :: r) := fun q hq => N q (by
  simp only [List.mem_cons] at hq ⊢
  rcases hq with rfl | rfl | rfl | rfl | hq <;> simp only [true_or, or_true, *])
theorem walkIn_step {strict : Bool} {sk : Int} {so : Array UInt8} {r : List (Int × Array UInt8)} {R : RS} {I : List Str} (h : (strict && !known sk) = false) : walkIn strict ((sk, so) :: r) R I = walkIn strict r (put R (nm sk) (.oct (KBw.bInts so))) (I ++ [nm sk]) := by
  conv => lhs; unfold walkIn
  rw [h, if_neg (by decide)]
theorem walkIn_unk {strict : Bool} {sk : Int} {so : Array UInt8} {r : List (Int × Array UInt8)} {R : RS} {I : List Str} (h : (strict && !known sk) = true) : walkIn strict ((sk, so) :: r) R I = (false, R, I) := by
  unfold walkIn
  rw [h, if_pos rfl]
set_option maxRecDepth 100000 in
set_option maxHeartbeats 1000000 in
theorem walk_rest (B : Below A₀ base outer g) (X : (Mine.hd.heap_39 w.params).In g) (Tp : Top p loose mean mg mb g)
    (F0 : Fr g L s.heap m) (h1 : m (Str.ofString "kind") = some (.int ek tk1)) (h2 : m (Str.ofString "value") = some (.bytes ev tv1)) (h3 : m (Str.ofString "inner") = some (.ref il)) (h4 : m (Str.ofString "broken") = some (.bool eb)) (h5 : m (Str.ofString "strict") = some (.bool strict)) (h6 : m (Str.ofString "table") = some (.ref dT)) (h7 : m (Str.ofString "places") = some (.ref dP)) (h8 : m (Str.ofString "inside") = some (.ref lI)) (h9 : m (Str.ofString "at") = some (.int a1 ta))
    (N : News g L s.heap ((I, oI) :: (lI, listOf ws.toArray nI) :: (dP, oP) :: (dT, oT) :: news)) (hdT : SD w oT R) (hdP : LD w oP T) (hws : StrsAre ws Is) (hIl : Is.length ≤ 100) (hkR : KeysIn R) (hkT : KeysIn T) (ha : 0 ≤ a1 ∧ a1 ≤ 1000000)
    (hek : EntOk ⟨ek, ev, ei, eb⟩) (hmI : (il, listOf wsS.toArray nS) ∈ news) (hDs : DatAll news wsS (ei.map smallD)) (o1 : ∀ p ∈ news, p.1 ≠ I) (o2 : ∀ p ∈ news, p.1 ≠ lI) (o3 : ∀ p ∈ news, p.1 ≠ dP) (o4 : ∀ p ∈ news, p.1 ≠ dT) (d1 : @Ne Nat I lI) (d2 : @Ne Nat I dP) (d3 : @Ne Nat I dT) (d4 : @Ne Nat lI dP) (d5 : @Ne Nat lI dT) (d6 : @Ne Nat dP dT)
    (hdp : dp + 15 < recursionLimit) (hun : un + 100 < cLine)
    (hPE : PassesOwn (model PySem.Challenge.rw_fc0001_01.row.prog w) (ktrTop dp un gd (Str.ofString "_law_walk") (wkScope w.params) L 147 (.ref 146) [] outer) (envX (Str.ofString "_law_walk") (wkScope w.params) L 147 (.ref 146) []) E)
    (hplain : ek ≠ 32 → ∀ h' tk' ta' m' oT' oP', Fr g L h' m' → News g L h' ((I, oI) :: (lI, listOf ws.toArray nI) :: (dP, oP') :: (dT, oT') :: news) → SD w oT' (put R (nm ek) (.oct (KBw.bInts ev))) → LD w oP' (put T (nm ek) a1) → m' (Str.ofString "at") = some (.int (a1 + (3 + ev.size)) ta') → (∀ x ∈ wkKeep, m' x = m x) → Q .next { s with heap := h', toks := tk' })
    (hssl : ek = 32 → ∀ R2 I2, walkIn strict ei (sslR R (KBw.bInts ev)) Is = (true, R2, I2) → eb = false → ∀ h' tk' ta' m' oT' oP' ws' nI', Fr g L h' m' → News g L h' ((I, oI) :: (lI, listOf ws'.toArray nI') :: (dP, oP') :: (dT, oT') :: news) → SD w oT' (put R2 sSSL (.flag (!eb))) → LD w oP' (put T (nm ek) a1) → StrsAre ws' I2 → m' (Str.ofString "at") = some (.int (a1 + (3 + ev.size)) ta') → (∀ x ∈ wkKeep, m' x = m x) → Q .next { s with heap := h', toks := tk' })
    (hbrk : ek = 32 → ∀ R2 I2, walkIn strict ei (sslR R (KBw.bInts ev)) Is = (true, R2, I2) → eb = true → ∀ t to h' tk' m' oT' oP' ws' nI', Fr g L h' m' → News g L h' ((t, kdv_tup [.ref dT, .ref dP, .ref lI, .str (Str.ofString "malformed") to]) :: (lI, listOf ws'.toArray nI') :: (dP, oP') :: (dT, oT') :: news) → SD w oT' (put R2 sSSL (.flag (!eb))) → LD w oP' (put T (nm ek) a1) → StrsAre ws' I2 → Q (.ret (.ref t)) { s with heap := h', toks := tk' })
    (hunk : ek = 32 → ∀ R2 I2, walkIn strict ei (sslR R (KBw.bInts ev)) Is = (false, R2, I2) → ∀ t to h' tk' m' oT' oP' ws' nI', Fr g L h' m' → News g L h' ((t, kdv_tup [.ref dT, .ref dP, .ref lI, .str (Str.ofString "unknown") to]) :: (lI, listOf ws'.toArray nI') :: (dP, oP') :: (dT, oT') :: news) → SD w oT' R2 → LD w oP' (put T (nm ek) a1) → StrsAre ws' I2 → Q (.ret (.ref t)) { s with heap := h', toks := tk' }) :
    wpAny (model PySem.Challenge.rw_fc0001_01.row.prog w) (ktrTop dp un gd (Str.ofString "_law_walk") (wkScope w.params) L 147 (.ref 146) [] outer) (execs (wkRest w.params) (envX (Str.ofString "_law_walk") (wkScope w.params) L 147 (.ref 146) [])) Q E s := by
  revert X
  k_fill
  intro X
  generalize hps : wkScope w.params = scope at hPE ⊢
  conv at hps => lhs; whnf
  subst hps
  generalize hrb : wkRest w.params = rb
  conv at hrb => lhs; whnf
  subst hrb
  have F := frL [(Str.ofString "kind", _), (Str.ofString "value", _), (Str.ofString "inner", _), (Str.ofString "broken", _), (Str.ofString "strict", _), (Str.ofString "table", _), (Str.ofString "places", _), (Str.ofString "inside", _), (Str.ofString "at", _)] (by
      intro p hp
      simp only [List.mem_cons, List.not_mem_nil, or_false] at hp
      rcases hp with rfl | rfl | rfl | rfl | rfl | rfl | rfl | rfl | rfl
      · exact h1
      · exact h2
      · exact h3
      · exact h4
      · exact h5
      · exact h6
      · exact h7
      · exact h8
      · exact h9) F0
  replace hPE := Box.mk hPE
  have hbx : Box (m (Str.ofString "strict") = some (.bool strict) ∧ m (Str.ofString "table") = some (.ref dT) ∧ m (Str.ofString "places") = some (.ref dP) ∧ m (Str.ofString "inside") = some (.ref lI)) := ⟨h5, h6, h7, h8⟩
  clear F0 h1 h2 h3 h4 h5 h6 h7 h8 h9
  have hkb := kinds_bd hek.kind
  have hsz := hek.hi
  dsimp only at hkb hsz
  have hbl := KBw.ints_length ev
  replace hplain := Box.mk hplain
  replace hssl := Box.mk hssl
  replace hbrk := Box.mk hbrk
  replace hunk := Box.mk hunk
  replace hDs := Box.mk hDs
  repeat' (first | (k_unfold; (try dsimp only)) | ((fail_if_success (with_reducible show (ite _ _ _))); first | walk1 | (dsimp only; walk1) | (leave1; try dsimp only)))
  rename_i oP1 F4 N4 hP1
  by_cases h32 : ek = 32
  · subst h32
    rw [if_pos (by decide)]
    have hlo := hek.lo rfl
    dsimp only at hlo
    generalize hvs : KBw.bInts ev = vs at *
    repeat' (first | (k_unfold; (try dsimp only)) | ((fail_if_success (with_reducible show (ite _ _ _))); (fail_if_success (with_reducible show wpAny _ _ (execs (Stmt.For _ _ _ _ _ :: _) _) _ _ _)); first | walk1 | (dsimp only; walk1) | (leave1; try dsimp only)))
    rename_i h9 oT1 F9 N9 hT1
    refine wpAny_execs_cons (For_hold F9 ?_ (fun _ => rfl) hPE.out)
    repeat' (first | (k_unfold; (try dsimp only)) | ((fail_if_success (with_reducible show (ite _ _ _))); first | walk1 | (dsimp only; walk1) | (leave1; try dsimp only)))
    refine Hold.intro ?_
    dsimp only
    have N10 : News g L h9 ((lI, listOf ws.toArray nI) :: (dP, oP1) :: (dT, oT1) :: (I, oI) :: news) := fun q hq => N9 q (by
      simp only [List.mem_cons] at hq ⊢
      rcases hq with rfl | rfl | rfl | rfl | hq <;> simp only [true_or, or_true, *])
    obtain ⟨m₁, F10, q1, q2, q3, q4, q5, q6, q7, q8⟩ : ∃ m₁, Fr g L h9 m₁ ∧ m₁ (Str.ofString "strict") = some (.bool strict) ∧ m₁ (Str.ofString "table") = some (.ref dT) ∧ m₁ (Str.ofString "places") = some (.ref dP) ∧ m₁ (Str.ofString "inside") = some (.ref lI) ∧ m₁ (Str.ofString "broken") = some (.bool eb) ∧ m₁ (Str.ofString "value") = some (.bytes ev tv1) ∧ m₁ (Str.ofString "at") = some (.int a1 ta) ∧ (∀ x ∈ wkKeep, m₁ x = m x) := by
      refine ⟨_, F9, rfl, rfl, rfl, rfl, rfl, rfl, rfl, fun x hx => ?_⟩
      simp only [wkKeep, List.mem_cons, List.not_mem_nil, or_false] at hx
      rcases hx with rfl | rfl | rfl | rfl | rfl | rfl
      · rfl
      · rfl
      · exact hbx.out.1.symm
      · exact hbx.out.2.1.symm
      · exact hbx.out.2.2.1.symm
      · exact hbx.out.2.2.2.symm
    clear F9 N9 F4 N4
    have hSl : wsS.length = ei.length := by have := hDs.out.length; rwa [List.length_map] at this
    have hel := hek.len
    have hes := hek.small
    dsimp only at hel hes
    replace hek := Box.mk hek
    refine turns_list (nn := nS) rfl (.tail _ (.tail _ (.tail _ (.tail _ hmI)))) F10 N10 (JIn w lI dP dT I oP1 oI news strict ei (sslR R vs) Is m₁) ?j0 ?hk ?turn ?done
    case j0 => exact ⟨oT1, ws, nI, _, Is, rfl, hT1, keysIn_put (keysIn_put hkR cli_in _) ver_in _, hws, hIl, rfl, fun _ _ => rfl⟩
    case hk => rintro i m nx ⟨_, _, _, _, _, rfl, _⟩; exact .tail _ (.tail _ (.tail _ (.tail _ hmI)))
    case turn =>
      rintro i v m₂ nx h tk I2 oI2 hv ⟨oT2, ws2, nI2, R2, Is2, rfl, hT2, hkR2, hws2, hl2, hgo2, hm2⟩ hoff2 F₂ N₂
      have hi : i < ei.length := by rw [← hSl]; exact (List.getElem?_eq_some_iff.mp hv).1
      obtain ⟨v', hv', hdv⟩ := datAll_get hDs.out (i := i) (d := smallD ei[i]) (by rw [List.getElem?_map, List.getElem?_eq_getElem hi]; rfl)
      obtain rfl : v' = v := Option.some.inj (hv'.symm.trans hv)
      have hsm := hes ei[i] (List.getElem_mem hi)
      have hdrop := List.drop_eq_getElem_cons hi
      generalize ei[i] = pr at hdv hsm hdrop
      obtain ⟨sk, so⟩ := pr
      obtain ⟨aS, tS1, tS2, nS1, rfl, hmS⟩ := small_inv hdv
      dsimp only at hmS hsm
      have hkb := kinds_bd (small_kind hsm)
      have hnin := nm_in (small_kind hsm)
      have hwl := hws2.length
      have F₃ := frL [(Str.ofString "strict", _), (Str.ofString "table", _), (Str.ofString "places", _), (Str.ofString "inside", _)] (by
        intro p hp
        simp only [List.mem_cons, List.not_mem_nil, or_false] at hp
        rcases hp with rfl | rfl | rfl | rfl
        · exact (hm2 (Str.ofString "strict") (by decide)).trans q1
        · exact (hm2 (Str.ofString "table") (by decide)).trans q2
        · exact (hm2 (Str.ofString "places") (by decide)).trans q3
        · exact (hm2 (Str.ofString "inside") (by decide)).trans q4) F₂
      have x1 : @Ne Nat I2 lI := fun e => hoff2 _ (.head _) e.symm
      have x2 : @Ne Nat I2 dP := fun e => hoff2 _ (.tail _ (.head _)) e.symm
      have x3 : @Ne Nat I2 dT := fun e => hoff2 _ (.tail _ (.tail _ (.head _))) e.symm
      have x4 : @Ne Nat I2 I := fun e => hoff2 _ (.tail _ (.tail _ (.tail _ (.head _)))) e.symm
      replace hgo2 := Box.mk hgo2
      replace hm2 := Box.mk hm2
      replace q8 := Box.mk q8
      have hqs : Box (m₁ (Str.ofString "strict") = some (.bool strict) ∧ m₁ (Str.ofString "table") = some (.ref dT) ∧ m₁ (Str.ofString "places") = some (.ref dP) ∧ m₁ (Str.ofString "inside") = some (.ref lI)) := ⟨q1, q2, q3, q4⟩
      have xn : ∀ p ∈ news, p.1 ≠ I2 := fun p hp => hoff2 p (.tail _ (.tail _ (.tail _ (.tail _ hp))))
      replace hws2 := Box.mk hws2
      replace hws := Box.mk hws
      replace hdv := Box.mk hdv
      clear F₂ F10 N10 hT1 hdT q1 q2 q3 q4 q5 q6 q7
      dsimp only
      show wpAny _ _ _ _ _ _
      k_fold
      repeat' (first | (k_unfold; (try dsimp only)) | ((fail_if_success (with_reducible show (ite _ _ _))); first | walk1 | (dsimp only; walk1) | (leave1; try dsimp only)))
      by_cases hst : strict = true
      · rw [if_pos hst]
        repeat' (first | (k_unfold; (try dsimp only)) | ((fail_if_success (with_reducible show (ite _ _ _))); first | walk1 | (dsimp only; walk1) | (leave1; try dsimp only)))
        by_cases hkn : known sk = true
        · rw [if_neg (by rw [hkn]; decide)]
          repeat' (first | (k_unfold; (try dsimp only)) | ((fail_if_success (with_reducible show (ite _ _ _))); first | walk1 | (dsimp only; walk1) | (leave1; try dsimp only)))
          rw [if_neg (by decide)]
          repeat' (first | (k_unfold; (try dsimp only)) | ((fail_if_success (with_reducible show (ite _ _ _))); first | walk1 | (dsimp only; walk1) | (leave1; try dsimp only)))
          rename_i oT9 hT9 _ t9 _ _ h9 F9 N9
          refine jin_end (add := [_]) F9 N9 x1 x2 x3 x4 xn hT9 (keysIn_put hkR2 hnin _) hws2.out hl2 ?_ (fun x hx => ?_)
          · rw [← hgo2.out, hdrop, walkIn_step (by rw [hkn, Bool.not_true, Bool.and_false]; try rfl)]
          · simp only [inKeep, List.mem_cons, List.not_mem_nil, or_false] at hx
            rcases hx with rfl | rfl | rfl | rfl | rfl | rfl | rfl | rfl | rfl
            · exact hm2.out (Str.ofString "entries") (by decide)
            · exact hm2.out (Str.ofString "cut") (by decide)
            · exact hqs.out.1.symm
            · exact hqs.out.2.1.symm
            · exact hqs.out.2.2.1.symm
            · exact hqs.out.2.2.2.symm
            · exact hm2.out (Str.ofString "broken") (by decide)
            · exact hm2.out (Str.ofString "value") (by decide)
            · exact hm2.out (Str.ofString "at") (by decide)
        · have hkn' : known sk = false := by cases hq : known sk; rfl; exact absurd hq hkn
          rw [if_pos (by rw [hkn']; rfl)]
          repeat' (first | (k_unfold; (try dsimp only)) | ((fail_if_success (with_reducible show (ite _ _ _))); first | walk1 | (dsimp only; walk1) | (leave1; try dsimp only)))
          rw [if_pos rfl]
          repeat' (first | (k_unfold; (try dsimp only)) | ((fail_if_success (with_reducible show (ite _ _ _))); first | walk1 | (dsimp only; walk1) | (leave1; try dsimp only)))
          rename_i D9 h9 F9 N9 l9
          exact hunk.out rfl R2 Is2 (by rw [← hgo2.out, hdrop, walkIn_unk (by rw [hst, hkn']; rfl)]) D9 _ h9 _ _ _ _ _ _ F9 (news_C N9) hT2 hP1 hws2.out
      · rw [if_neg hst]
        repeat' (first | (k_unfold; (try dsimp only)) | ((fail_if_success (with_reducible show (ite _ _ _))); first | walk1 | (dsimp only; walk1) | (leave1; try dsimp only)))
        rw [if_neg (by decide)]
        repeat' (first | (k_unfold; (try dsimp only)) | ((fail_if_success (with_reducible show (ite _ _ _))); first | walk1 | (dsimp only; walk1) | (leave1; try dsimp only)))
        rename_i oT9 hT9 _ t9 _ _ h9 F9 N9
        refine jin_end (add := []) F9 N9 x1 x2 x3 x4 xn hT9 (keysIn_put hkR2 hnin _) hws2.out hl2 ?_ (fun x hx => ?_)
        · rw [← hgo2.out, hdrop, walkIn_step (by rw [Bool.eq_false_iff.mpr hst]; rfl)]
        · simp only [inKeep, List.mem_cons, List.not_mem_nil, or_false] at hx
          rcases hx with rfl | rfl | rfl | rfl | rfl | rfl | rfl | rfl | rfl
          · exact hm2.out (Str.ofString "entries") (by decide)
          · exact hm2.out (Str.ofString "cut") (by decide)
          · exact hqs.out.1.symm
          · exact hqs.out.2.1.symm
          · exact hqs.out.2.2.1.symm
          · exact hqs.out.2.2.2.symm
          · exact hm2.out (Str.ofString "broken") (by decide)
          · exact hm2.out (Str.ofString "value") (by decide)
          · exact hm2.out (Str.ofString "at") (by decide)
    case done =>
      rintro m₂ nx h tk ⟨oT2, ws2, nI2, R2, Is2, rfl, hT2, hkR2, hws2, hl2, hgo2, hm2⟩ F₂ N₂
      have hgo3 : walkIn strict ei (sslR R vs) Is = (true, R2, Is2) := by
        rw [hSl, List.drop_length] at hgo2
        exact hgo2.symm
      have F₃ := frL [(Str.ofString "strict", _), (Str.ofString "table", _), (Str.ofString "places", _), (Str.ofString "inside", _), (Str.ofString "broken", _), (Str.ofString "value", _), (Str.ofString "at", _)] (by
        intro p hp
        simp only [List.mem_cons, List.not_mem_nil, or_false] at hp
        rcases hp with rfl | rfl | rfl | rfl | rfl | rfl | rfl
        · exact (hm2 (Str.ofString "strict") (by decide)).trans q1
        · exact (hm2 (Str.ofString "table") (by decide)).trans q2
        · exact (hm2 (Str.ofString "places") (by decide)).trans q3
        · exact (hm2 (Str.ofString "inside") (by decide)).trans q4
        · exact (hm2 (Str.ofString "broken") (by decide)).trans q5
        · exact (hm2 (Str.ofString "value") (by decide)).trans q6
        · exact (hm2 (Str.ofString "at") (by decide)).trans q7) F₂
      have hqs : Box (m₁ (Str.ofString "strict") = some (.bool strict) ∧ m₁ (Str.ofString "table") = some (.ref dT) ∧ m₁ (Str.ofString "places") = some (.ref dP) ∧ m₁ (Str.ofString "inside") = some (.ref lI)) := ⟨q1, q2, q3, q4⟩
      have hm4 : ∀ x ∈ wkKeep, m₂ x = m x := fun x hx => (hm2 x (by
        simp only [wkKeep, List.mem_cons, List.not_mem_nil, or_false] at hx
        rcases hx with rfl | rfl | rfl | rfl | rfl | rfl <;> decide)).trans (q8 x hx)
      replace hm4 := Box.mk hm4
      replace hgo3 := Box.mk hgo3
      replace hws2 := Box.mk hws2
      replace hws := Box.mk hws
      clear F₂ F10 N10 hT1 hdT q1 q2 q3 q4 q5 q6 q7 q8 hm2 hgo2
      dsimp only
      show wpAny _ _ _ _ _ _
      k_fold
      repeat' (first | (k_unfold; (try dsimp only)) | ((fail_if_success (with_reducible show (ite _ _ _))); first | walk1 | (dsimp only; walk1) | (leave1; try dsimp only)))
      by_cases heb : eb = true
      · rw [if_pos heb]
        repeat' (first | (k_unfold; (try dsimp only)) | ((fail_if_success (with_reducible show (ite _ _ _))); first | walk1 | (dsimp only; walk1) | (leave1; try dsimp only)))
        rename_i oT9 _ hT9 D9 h9 F9 N9 l9
        try k_unfold
        exact hbrk.out rfl R2 Is2 hgo3.out heb D9 _ h9 _ _ _ _ _ _ F9 (news_D N9) hT9 hP1 hws2.out
      · rw [if_neg heb]
        repeat' (first | (k_unfold; (try dsimp only)) | ((fail_if_success (with_reducible show (ite _ _ _))); first | walk1 | (dsimp only; walk1) | (leave1; try dsimp only)))
        rename_i oT9 _ hT9 _ h9 F9 N9
        refine hssl.out rfl R2 Is2 hgo3.out (by cases eb; rfl; exact absurd rfl heb) h9 _ _ _ _ _ _ _ F9 (news_E N9) hT9 hP1 hws2.out (congrArg (fun n : Nat => some (Value.int (a1 + (3 + (n : Int))) _)) hbl) (fun x hx => ?_)
        · simp only [wkKeep, List.mem_cons, List.not_mem_nil, or_false] at hx
          rcases hx with rfl | rfl | rfl | rfl | rfl | rfl
          · exact hm4.out (Str.ofString "entries") (by decide)
          · exact hm4.out (Str.ofString "cut") (by decide)
          · exact hbx.out.1.symm
          · exact hbx.out.2.1.symm
          · exact hbx.out.2.2.1.symm
          · exact hbx.out.2.2.2.symm
  · rw [if_neg (by simpa using h32)]
    repeat' (first | (k_unfold; (try dsimp only)) | ((fail_if_success (with_reducible show (ite _ _ _))); first | walk1 | (dsimp only; walk1) | (leave1; try dsimp only)))
    rename_i oT1 hT1 tk9 h9 F9 N9
    refine hplain.out h32 _ _ _ _ _ _ F9 N9 hT1 hP1 rfl (fun x hx => ?_)
    simp only [wkKeep, List.mem_cons, List.not_mem_nil, or_false] at hx
    rcases hx with rfl | rfl | rfl | rfl | rfl | rfl
    · rfl
    · rfl
    · exact hbx.out.1.symm
    · exact hbx.out.2.1.symm
    · exact hbx.out.2.2.1.symm
    · exact hbx.out.2.2.2.symm
end
end
end Mine
end

section
theorem Mine.rst_W1 {prog : PySem.Program} {w : PySem.World} {A : PySem.Around} {Q : PySem.Flow → PySem.Shared → Prop} {E : PySem.Value → PySem.Shared → Prop} {s : PySem.Shared} {env : PySem.Env} {pos : PySem.Pos} : True ∨ PySem.wpAny (PySem.model prog w) A (PySem.exec (PySem.Stmt.Pass pos) env) Q E s := by
  w_on
  w_top off
  first | (right; walk1; fail) | exact .inl trivial
open PySem PySem.W PySem.Calls PyProof.Rows PyProof.V
set_option Elab.async false
namespace Mine
local macro_rules | `(tactic| k_room) => `(tactic| ktr_room)
local macro_rules | `(tactic| k_units) => `(tactic| ktr_units)
local macro_rules | `(tactic| k_enter) => `(tactic| first
  | (refine' code_def ?k1 ?k2 ?k3 ?k4 ?k5 ?kA ?kF ?kK ?k6 ?k7 ?k8 ?k9 ?kB ?_ ?c2 ?c3 ?c4 ?c5; (case kA => exact rfl); (case kF => exact rfl); (case kK => first | exact rfl | assumption); (case k1 => k_asm); (case k2 => k_asm); (case k3 => k_asm); (case k4 => k_asm); (case k5 => k_asm); (case k6 => k_is); (case k7 => k_is); (case k8 => k_room); (case k9 => first | exact BindsTo.of_eq rfl | exact binds_K (by k_in) rfl (by k_is) rfl rfl rfl | fail "k_enter: no rule for these arguments"); (case c5 => decide); (case kB => exact locs rfl); (case c2 => exact rfl); (case c3 => exact rfl); (case c4 => exact rfl); k_whole; intro g' L' h' FG' F' N' B' X' T'; (try dsimp only); (try k_lift B'); (try k_fold))
  | (refine' code_defC ?k1 ?k2 ?k3 ?k4 ?k5 ?kA ?kF ?kK ?k6 ?k7 ?k8 ?k9 ?kB ?kD ?_ ?c2 ?c3 ?c4; (case kA => exact rfl); (case kF => exact rfl); (case kK => first | exact rfl | assumption); (case k1 => k_asm); (case k2 => k_asm); (case k3 => k_asm); (case k4 => k_asm); (case k5 => k_asm); (case k6 => k_is); (case k7 => k_is); (case k8 => k_room); (case k9 => first | exact BindsTo.of_eq rfl | exact binds_K (by k_in) rfl (by k_is) rfl rfl rfl | fail "k_enter: no rule for these arguments"); (case kB => exact rfl); (case kD => decide +kernel); (case c2 => exact rfl); (case c3 => exact rfl); (case c4 => exact rfl); k_whole; intro g' L' h' tk' cells' FG' F' N' Y' B' X' T' l1; (try k_lt l1); k_cells Y'; (try simp only [List.cons_append, List.nil_append] at N'); (try dsimp only); (try k_lift B'); (try k_fold)))
local macro_rules | `(tactic| walk_at "exec For Name Subscript cons nil") => `(tactic| (k_here; (rename Fr _ _ _ _ => lF'); (with_unfolding_all refine' For_hold lF' ?_; k_whole)))
local macro_rules | `(tactic| walk_at "exec For Name Call cons nil") => `(tactic| (k_here; (rename Fr _ _ _ _ => lF'); (with_unfolding_all refine' For_hold lF' ?_; k_whole)))
local macro_rules | `(tactic| walk_at "exec For Name Tuple cons nil") => `(tactic| (k_here; (rename Fr _ _ _ _ => lF'); (with_unfolding_all refine' For_hold lF' ?_; k_whole)))
local macro_rules | `(tactic| walk_at "exec For Name Name cons nil") => `(tactic| (k_here; (rename Fr _ _ _ _ => lF'); (with_unfolding_all refine' For_hold lF' ?_; k_whole)))
local macro_rules | `(tactic| walk_at "exec For Tuple Name cons nil") => `(tactic| (k_here; (rename Fr _ _ _ _ => lF'); (with_unfolding_all refine' For_hold lF' ?_; k_whole)))
local macro_rules | `(tactic| k_all) => `(tactic| first | with_reducible assumption | exact ne_ge (by with_reducible assumption) (by omega) | exact List.forall_mem_nil _ | (refine' List.forall_mem_cons.mpr ⟨?a, ?b⟩; (case a => k_ne); (case b => k_all)))
local macro_rules | `(tactic| walk_at "call builtin:list.append") => `(tactic| (k_here; (with_reducible show wpAny _ _ (call (Value.builtin _) [Value.ref _, _]) _ _ _); k_dflt (refine' append_K ?k1 ?k2 ?k3 ?_ ?z; (case k1 => k_asm); (case k2 => k_asm); (case k3 => k_upd); (case z => (rw [List.size_toArray, sizeLine_eq]; omega)); k_whole); intro h' F' N'; (try k_sweep)))
local macro_rules | `(tactic| walk_at "call ref") => `(tactic| (k_here; (with_reducible show wpAny _ _ (call (Value.ref 116) _) _ _ _); k_dflt (refine' c_names _  _ _ _ _ _ _ _ _ _ _ _ _ _ _ _ _ _ ?k1 ?k2 ?k3 ?k4 ?k5 ?kK ?kd ?ku ?_; (case k1 => k_asm); (case k2 => k_asm); (case k3 => k_asm); (case k4 => k_asm); (case k5 => k_asm); (case kK => first | exact rfl | assumption);  (case kd => ktr_room); (case ku => ktr_units); k_whole); intro d' o' kvs' h' tk' F' N' l1 lo' hd' hf'; (try k_lt l1)))
local macro_rules | `(tactic| walk_at "call ref") => `(tactic| (k_here; (with_reducible show wpAny _ _ (call (Value.ref 123) _) _ _ _); k_dflt (refine' c_name _ _ _ ?g0 ?g1 _ _ _ _ _ _ _ _ _ _ _ _ _ _ _ _ _ ?k1 ?k2 ?k3 ?k4 ?k5 ?kK ?kd ?ku ?_; (case k1 => k_asm); (case k2 => k_asm); (case k3 => k_asm); (case k4 => k_asm); (case k5 => k_asm); (case kK => first | exact rfl | assumption); (case g0 => kba_bound); (case g1 => kba_bound); (case kd => ktr_room); (case ku => ktr_units); k_whole); intro t' h' tk' F' N'; (try k_sweep)))
local macro_rules | `(tactic| walk_at "compareOp In int ref") => `(tactic| (k_here; k_dflt (refine in_names (by k_tabat) ?_)))
local macro_rules | `(tactic| walk_at "compareOp NotIn int ref") => `(tactic| (k_here; k_dflt (refine notin_names (by k_tabat) ?_)))
local macro_rules | `(tactic| k_mem) => `(tactic| first | with_reducible assumption | ((refine mem_of ?_); with_reducible assumption) | exact List.Mem.head _ | (refine' List.Mem.tail _ ?_; k_mem))
local macro_rules | `(tactic| walk_at "call builtin:len") => `(tactic| (k_here; (with_reducible show wpAny _ _ (call (Value.builtin "len") [Value.ref _]) _ _ _); k_dflt (refine' len_sym ?N ?m ?f ?_; (case N => k_asm); (case m => k_mem); (case f => omega))))
local macro_rules | `(tactic| walk_at "setItem ref str") => `(tactic| (k_here; k_dflt (refine' set_put ?F ?N ?U ?d ?K ?v ?_; (case F => k_asm); (case N => k_asm); (case U => k_updF); (case d => with_reducible assumption); (case K => (repeat' (first | with_reducible assumption | exact cli_in | exact ver_in | exact ssl_in | refine keysIn_put ?_ ?_ _))); (case v => first | exact (⟨_, rfl⟩ : isLoc _ _) | exact (show RV.is (.num _) _ from ⟨_, rfl⟩) | exact (show RV.is (.flag _) _ from rfl) | exact (show RV.is (.oct _) _ from ⟨_, _, rfl, rfl⟩))); intro h' o' F' N' hd'; (try dsimp only at N')))
local macro_rules | `(tactic| walk_at "subscriptTail") => `(tactic| (k_here; (with_reducible show wpAny _ _ (subscriptTail _ _ (Value.ref _) (Value.int _ _)) _ _ _); (with_unfolding_all refine' sub_at ?N ?m ?x ?i ?_ ?z; (case N => k_asm); (case m => k_mem); (case x => with_reducible assumption); (case i => omega); (case z => with_unfolding_all rfl); k_whole)))
local macro_rules | `(tactic| walk_at "getItem ref int") => `(tactic| (k_here; k_dflt (refine' get_at ?N ?m ?x ?i ?_; (case N => k_asm); (case m => k_mem); (case x => with_reducible assumption); (case i => omega))))
section
variable {w : World} {p : Program} {loose : List Str} {mean : ExcName → Option Value} {mg mb : Str → Option Value} (news : List (Addr × Obj))
theorem walkGo_cut {strict cut : Bool} {e : Ent} {r : List Ent} {a : Int} {R : RS} {T : LS} {I : List Str} (h : (cut && r.isEmpty) = true) : walkGo strict cut (e :: r) a R T I = (.bad, R, T, I) := by
  unfold walkGo; rw [h, if_pos rfl]
theorem walkGo_unk {strict cut : Bool} {e : Ent} {r : List Ent} {a : Int} {R : RS} {T : LS} {I : List Str} (h : (cut && r.isEmpty) = false) (h2 : (strict && !known e.kind) = true) : walkGo strict cut (e :: r) a R T I = (.unk, R, T, I) := by
  unfold walkGo; rw [h, if_neg (by decide), h2, if_pos rfl]
theorem walkGo_plain {strict cut : Bool} {kk : Int} {ev : Array UInt8} {ei : List (Int × Array UInt8)} {eb : Bool} {r : List Ent} {a : Int} {R : RS} {T : LS} {I : List Str} (h : (cut && r.isEmpty) = false) (h2 : (strict && !known kk) = false) (h3 : kk ≠ 32) : walkGo strict cut (⟨kk, ev, ei, eb⟩ :: r) a R T I = walkGo strict cut r (a + (3 + ev.size)) (put R (nm kk) (.oct (KBw.bInts ev))) (put T (nm kk) a) I := by
  conv => lhs; unfold walkGo
  dsimp only
  rw [h, if_neg (by decide), h2, if_neg (by decide), if_neg h3]
theorem walkGo_ssl {strict cut : Bool} {ev : Array UInt8} {ei : List (Int × Array UInt8)} {eb : Bool} {r : List Ent} {a : Int} {R : RS} {T : LS} {I : List Str} (h : (cut && r.isEmpty) = false) : walkGo strict cut (⟨32, ev, ei, eb⟩ :: r) a R T I = match walkIn strict ei (sslR R (KBw.bInts ev)) I with
        | (false, R2, I2) => (.unk, R2, put T (nm 32) a, I2)
        | (true, R2, I2) => if eb then (.bad, put R2 sSSL (.flag (!eb)), put T (nm 32) a, I2) else walkGo strict cut r (a + (3 + ev.size)) (put R2 sSSL (.flag (!eb))) (put T (nm 32) a) I2 := by
  have hk : known 32 = true := by decide
  conv => lhs; unfold walkGo
  dsimp only
  rw [h, if_neg (by decide), hk, Bool.not_true, Bool.and_false, if_neg (by decide), if_pos rfl]
  rfl
theorem news_F {g : Heap} {L : Addr} {h : Heap} {x0 x1 x2 x3 x4 : Addr × Obj} {r : List (Addr × Obj)} (N : News g L h (x0 :: x1 :: x2 :: x3 :: x4 :: r)) : News g L h (x0 :: x2 :: x3 :: x4 :: r) := fun q hq => N q (by
  simp only [List.mem_cons] at hq ⊢
  rcases hq with rfl | rfl | rfl | rfl | hq <;> simp only [true_or, or_true, *])
theorem news_G {g : Heap} {L : Addr} {h : Heap} {x0 x1 x2 x3 x4 x5 : Addr × Obj} {r : List (Addr × Obj)} (N : News g L h (x0 :: x1 :: x2 :: x3 :: x4 :: x5 :: r)) : News g L h (x0 :: x3 :: x4 :: x5 :: r) := fun q hq => N q (by
  simp only [List.mem_cons] at hq ⊢
  rcases hq with rfl | rfl | rfl | rfl | hq <;> simp only [true_or, or_true, *])
theorem ne4 {I lI dP dT : Addr} {oP oT oL : Obj} {news : List (Addr × Obj)} (y1 : @Ne Nat I lI) (y2 : @Ne Nat I dP) (y3 : @Ne Nat I dT) (xI : ∀ p ∈ news, p.1 ≠ I) : ∀ p ∈ (lI, oL) :: (dP, oP) :: (dT, oT) :: news, p.1 ≠ I := by
  intro p hp
  rcases List.mem_cons.mp hp with rfl | hp
  · exact fun e => y1 e.symm
  rcases List.mem_cons.mp hp with rfl | hp
  · exact fun e => y2 e.symm
  rcases List.mem_cons.mp hp with rfl | hp
  · exact fun e => y3 e.symm
  exact xI p hp
def JWk (lI dP dT : Addr) (w : World) (strict cut : Bool) (cutv : Int) (lE : Addr) (es : List Ent) (news : List (Addr × Obj)) (i : Nat) (m : Str → Option Value) (nx : List (Addr × Obj)) : Prop :=
  ∃ (oT oP : Obj) (ws : List Value) (nI : Nat) (R : RS) (T : LS) (I : List Str) (a : Int) (ta tc : Tok), nx = (lI, listOf ws.toArray nI) :: (dP, oP) :: (dT, oT) :: news ∧ (∃ kv, oT.IsDictOf (PySem.strKind PySem.Challenge.rw_fc0001_01.row.prog w) kv ∧ Rel RV.is kv R) ∧ (∃ kv, oP.IsDictOf (PySem.strKind PySem.Challenge.rw_fc0001_01.row.prog w) kv ∧ Rel isLoc kv T) ∧ StrsAre ws I ∧ I.length ≤ 3 * i ∧ KeysIn R ∧ KeysIn T ∧ (0 ≤ a ∧ a ≤ 300 * (i : Int)) ∧
    walkGo strict cut (es.drop i) a R T I = walkGo strict cut es 0 [] [] [] ∧
    m (Str.ofString "entries") = some (.ref lE) ∧ m (Str.ofString "cut") = some (.int cutv tc) ∧ m (Str.ofString "strict") = some (.bool strict) ∧ m (Str.ofString "table") = some (.ref dT) ∧ m (Str.ofString "places") = some (.ref dP) ∧ m (Str.ofString "inside") = some (.ref lI) ∧ m (Str.ofString "at") = some (.int a ta)
set_option maxRecDepth 100000 in
set_option maxHeartbeats 2000000 in
theorem c_walk (lE : Addr) (vsE : List Value) (nE : Nat) (es : List Ent) (cutv : Int) (tc : Tok) (strict : Bool) (hm : (lE, listOf vsE.toArray nE) ∈ news) (hD : DatAll news vsE (es.map entD)) (hes : es.length ≤ 12) (hok : ∀ e ∈ es, EntOk e) :
    CB w p loose mean mg mb 147 news 30 300 [.ref lE, .int cutv tc, .bool strict]
      (fun Q _ base h₀ L m s => ∀ (t dT dP lI : Addr) (oT oP : Obj) (ws : List Value) (nI : Nat) (to : Tok) (h' : Heap) (tk' : Nat), Fr h₀ L h' m → News h₀ L h' ((t, kdv_tup [.ref dT, .ref dP, .ref lI, .str (outS (walkGo strict (decide (cutv ≠ 0)) es 0 [] [] []).1) to]) :: (lI, listOf ws.toArray nI) :: (dP, oP) :: (dT, oT) :: news) →
        DS w oT oP (walkGo strict (decide (cutv ≠ 0)) es 0 [] [] []).2.1 (walkGo strict (decide (cutv ≠ 0)) es 0 [] [] []).2.2.1 → StrsAre ws (walkGo strict (decide (cutv ≠ 0)) es 0 [] [] []).2.2.2 → (dT == sysModules) = false → (dP == sysModules) = false → Q (.ref t) { s with heap := h', toks := tk' }) := by
  dsimp only [CB]
  k_fill
  intro dp un gd cn cs a ccd cl outer A₀ base h₀ L m s Q E B F X N T hk hd hu hret
  have hlE : vsE.length = es.length := by have := hD.length; rwa [List.length_map] at this
  refine wpAny_call ?_
  k_dflt k_enter
  k_steps
  rename_i g1 L1 _ FG1 B1 X1 T1 _ dT _ oT lT loT hsT _ _ _ _ dP _ oP loP hsP _ _ _ lP _ lI _ lLI _ _ _ _ h4 tk4 t1 u1 v1 hR F4 N4 hkeep
  refine Hold.intro ?_
  dsimp only
  refine turns_range (n := vsE.length) rfl hR (small_one (by omega) (by omega) (by omega) (by omega)) (rangeSize_nat _ _) F4 N4 (JWk lI dP dT w strict (decide (cutv ≠ 0)) cutv lE es news) ?j0 ?turn ?done
  case j0 => exact ⟨oT, oP, [], 0, [], [], [], 0, _, tc, rfl, ⟨[], hsT, .nil⟩, ⟨[], hsP, .nil⟩, .nil, by simp, (fun _ h => (nomatch h)), (fun _ h => (nomatch h)), ⟨by omega, by omega⟩, rfl, rfl, rfl, rfl, rfl, rfl, rfl, rfl⟩
  case turn =>
    rintro i t m₁ nx h tk I oI hi ⟨oT1, oP1, ws, nI, R, T2, Is, a1, ta, tc1, rfl, hdT, hdP, hws, hIl, hkR, hkT, ha, hgo, e1, e2, e3, e4, e5, e6, e7⟩ hoff F₁ N₁
    have hi' : i < es.length := hlE ▸ hi
    obtain ⟨v, hv, hdv⟩ := datAll_get hD (i := i) (d := entD es[i]) (by rw [List.getElem?_map, List.getElem?_eq_getElem hi']; rfl)
    have hek := hok es[i] (List.getElem_mem hi')
    have hdrop := List.drop_eq_getElem_cons hi'
    generalize he : es[i] = e at *
    obtain ⟨aE, tE1, tE2, nE1, il, wsS, nS, rfl, hmE, hmI, hDs⟩ := ent_inv hdv
    obtain ⟨kk, ev, ei, eb⟩ := e
    dsimp only at hmE hmI hDs
    have F₂ := frL [(Str.ofString "entries", _), (Str.ofString "cut", _), (Str.ofString "strict", _), (Str.ofString "table", _), (Str.ofString "places", _), (Str.ofString "inside", _), (Str.ofString "at", _)] (by
      intro p hp
      simp only [List.mem_cons, List.not_mem_nil, or_false] at hp
      rcases hp with rfl | rfl | rfl | rfl | rfl | rfl | rfl
      · exact e1
      · exact e2
      · exact e3
      · exact e4
      · exact e5
      · exact e6
      · exact e7) F₁
    clear F₁ F4 N4 hkeep hR e1 e2 e3 e4 e5 e6 e7
    rw [Int.zero_add]
    replace hws := Box.mk hws
    replace hgo := Box.mk hgo
    have xI : ∀ p ∈ news, p.1 ≠ I := fun p hp => hoff p (.tail _ (.tail _ (.tail _ hp)))
    have y1 : @Ne Nat I lI := fun e => hoff _ (.head _) e.symm
    have y2 : @Ne Nat I dP := fun e => hoff _ (.tail _ (.head _)) e.symm
    have y3 : @Ne Nat I dT := fun e => hoff _ (.tail _ (.tail _ (.head _))) e.symm
    have y4 : @Ne Nat lI dP := Nat.ne_of_gt lLI.1
    have y5 : @Ne Nat lI dT := Nat.ne_of_gt lLI.2.1
    have y6 : @Ne Nat dP dT := Nat.ne_of_gt lP.1
    have xl : ∀ p ∈ news, p.1 ≠ lI := fun p hp => Nat.ne_of_lt (kst_ltOf lLI.2.2 p hp)
    have xP : ∀ p ∈ news, p.1 ≠ dP := fun p hp => Nat.ne_of_lt (kst_ltOf lP.2 p hp)
    have xT : ∀ p ∈ news, p.1 ≠ dT := fun p hp => Nat.ne_of_lt (lT p hp)
    dsimp only
    show wpAny _ _ _ _ _ _
    k_fold
    repeat' (first | (k_unfold; (try dsimp only)) | ((fail_if_success (with_reducible show (ite _ _ _))); first | walk1 | (dsimp only; walk1) | (leave1; try dsimp only)))
    by_cases hcut : (cutv != 0) = true
    · rw [if_pos hcut]
      repeat' (first | (k_unfold; (try dsimp only)) | ((fail_if_success (with_reducible show (ite _ _ _))); first | walk1 | (dsimp only; walk1) | (leave1; try dsimp only)))
      by_cases hlast : i + 1 = es.length
      · have hce : (decide (cutv ≠ 0) && (es.drop (i + 1)).isEmpty) = true := by rw [Bool.and_eq_true]; exact ⟨decide_eq_true (by simpa using hcut), by rw [List.drop_eq_nil_of_le (by omega)]; rfl⟩
        rw [if_pos (by rw [beq_iff_eq]; omega)]
        repeat' (first | (k_unfold; (try dsimp only)) | ((fail_if_success (with_reducible show (ite _ _ _))); first | walk1 | (dsimp only; walk1) | (leave1; try dsimp only)))
        rw [if_pos rfl]
        repeat' (first | (k_unfold; (try dsimp only)) | ((fail_if_success (with_reducible show (ite _ _ _))); first | walk1 | (dsimp only; walk1) | (leave1; try dsimp only)))
        dsimp only [TEnd]
        have hfin : walkGo strict (decide (cutv ≠ 0)) es 0 [] [] [] = (.bad, R, T2, Is) := by rw [← hgo.out, hdrop]; exact walkGo_cut hce
        rw [hfin] at hret
        replace hret := Box.mk hret
        k_steps
        (with_reducible rename Fr _ _ _ _ => F9); (with_reducible rename News _ _ _ _ => N9)
        exact hret.out _ _ _ _ _ _ _ _ _ _ _ F9 (news_F N9) ⟨hdT, hdP⟩ hws.out loT loP
      · have hce : (decide (cutv ≠ 0) && (es.drop (i + 1)).isEmpty) = false := by rw [Bool.and_eq_false_iff]; right; rw [List.isEmpty_eq_false_iff]; intro hq; have := congrArg List.length hq; rw [List.length_drop] at this; simp only [List.length_nil] at this; omega
        rw [if_neg (by rw [beq_iff_eq]; omega)]
        repeat' (first | (k_unfold; (try dsimp only)) | ((fail_if_success (with_reducible show (ite _ _ _))); first | walk1 | (dsimp only; walk1) | (leave1; try dsimp only)))
        rw [if_neg (by decide)]
        repeat' (first | (k_unfold; (try dsimp only)) | ((fail_if_success (with_reducible show (ite _ _ _))); first | walk1 | (dsimp only; walk1) | (leave1; try dsimp only)))
        by_cases hst : strict = true
        · rw [if_pos hst]
          repeat' (first | (k_unfold; (try dsimp only)) | ((fail_if_success (with_reducible show (ite _ _ _))); first | walk1 | (dsimp only; walk1) | (leave1; try dsimp only)))
          by_cases hkn : known kk = true
          · rw [if_neg (by rw [hkn]; decide)]
            repeat' (first | (k_unfold; (try dsimp only)) | ((fail_if_success (with_reducible show (ite _ _ _))); first | walk1 | (dsimp only; walk1) | (leave1; try dsimp only)))
            rw [if_neg (by decide)]
            repeat' (first | (k_unfold; (try dsimp only)) | ((fail_if_success (with_reducible show (ite _ _ _))); (fail_if_success (with_reducible show wpAny _ _ (execs (Stmt.Assign [Expr.Subscript _ _ _] _ _ :: _) _) _ _ _)); first | walk1 | (dsimp only; walk1) | (leave1; try dsimp only)))
            try dsimp only
            (with_reducible rename Fr _ _ _ _ => F9); (with_reducible rename News _ _ _ _ => N9)
            refine walk_rest (ek := kk) (ev := ev) (ei := ei) (eb := eb) (R := R) (T := T2) (Is := Is) (lI := lI) (dP := dP) (dT := dT) (il := il) B1 X1 T1 F9 rfl rfl rfl rfl rfl rfl rfl rfl rfl (fun q hq => N9 q (.tail _ hq)) hdT hdP hws.out (by omega) hkR hkT (by omega) hek hmI hDs xI xl xP xT y1 y2 y3 y4 y5 y6 (by dsimp only [ktrTop]; omega) (by dsimp only [ktrTop]; omega) (by passes_own) ?_ ?_ ?_ ?_
            · intro h32 h5 tk5 ta5 m5 oT5 oP5 F5 N5 hT5 hP5 hat5 hm5
              refine ⟨h5, tk5, m5, _, (lI, listOf ws.toArray nI) :: (dP, oP5) :: (dT, oT5) :: news, rfl, F5, N5, .head _, fun p hp => .tail _ hp, ?_, oT5, oP5, ws, nI, _, _, Is, _, ta5, tc1, rfl, hT5, hP5, hws.out, by omega, keysIn_put hkR (nm_in hek.kind) _, keysIn_put hkT (nm_in hek.kind) _, ⟨by omega, by have := hek.hi; dsimp only at this; omega⟩, ?_, (hm5 (Str.ofString "entries") (by decide)).trans rfl, (hm5 (Str.ofString "cut") (by decide)).trans rfl, (hm5 (Str.ofString "strict") (by decide)).trans rfl, (hm5 (Str.ofString "table") (by decide)).trans rfl, (hm5 (Str.ofString "places") (by decide)).trans rfl, (hm5 (Str.ofString "inside") (by decide)).trans rfl, hat5⟩
              · exact ne4 y1 y2 y3 xI
              · rw [← hgo.out, hdrop, walkGo_plain hce (by rw [hkn, Bool.not_true, Bool.and_false]) h32]
            · intro h32 R5 I5 hw5 heb h5 tk5 ta5 m5 oT5 oP5 ws5 nI5 F5 N5 hT5 hP5 hS5 hat5 hm5
              subst h32
              have hstep := walkGo_ssl (strict := strict) (ev := ev) (ei := ei) (eb := eb) (a := a1) (R := R) (T := T2) (I := Is) hce
              rw [hw5] at hstep
              dsimp only at hstep
              rw [if_neg (by rw [heb]; decide), ← hdrop, hgo.out] at hstep
              have hk5 := walkIn_keys strict ei _ Is (fun p hp => hek.small p hp) (keysIn_put (keysIn_put hkR cli_in (RV.num ((KBw.bInts ev).getD 0 0))) ver_in (RV.num ((((KBw.bInts ev).getD 1 0 * 256 + (KBw.bInts ev).getD 2 0) * 256 + (KBw.bInts ev).getD 3 0) * 256 + (KBw.bInts ev).getD 4 0)))
              have hl5 := walkIn_len strict ei (sslR R (KBw.bInts ev)) Is
              change KeysIn (walkIn strict ei (sslR R (KBw.bInts ev)) Is).2.1 at hk5
              rw [hw5] at hk5 hl5
              dsimp only at hk5 hl5
              have hel := hek.len
              have heh := hek.hi
              dsimp only at hel heh
              refine ⟨h5, tk5, m5, _, (lI, listOf ws5.toArray nI5) :: (dP, oP5) :: (dT, oT5) :: news, rfl, F5, N5, .head _, fun p hp => .tail _ hp, ne4 y1 y2 y3 xI, oT5, oP5, ws5, nI5, _, _, I5, _, ta5, tc1, rfl, hT5, hP5, hS5, by omega, keysIn_put hk5 ssl_in _, keysIn_put hkT (nm_in hek.kind) _, ⟨by omega, by omega⟩, hstep.symm, (hm5 (Str.ofString "entries") (by decide)).trans rfl, (hm5 (Str.ofString "cut") (by decide)).trans rfl, (hm5 (Str.ofString "strict") (by decide)).trans rfl, (hm5 (Str.ofString "table") (by decide)).trans rfl, (hm5 (Str.ofString "places") (by decide)).trans rfl, (hm5 (Str.ofString "inside") (by decide)).trans rfl, hat5⟩
            · intro h32 R5 I5 hw5 heb t5 to5 h5 tk5 m5 oT5 oP5 ws5 nI5 F5 N5 hT5 hP5 hS5
              subst h32
              have hstep := walkGo_ssl (strict := strict) (ev := ev) (ei := ei) (eb := eb) (a := a1) (R := R) (T := T2) (I := Is) hce
              rw [hw5] at hstep
              dsimp only at hstep
              rw [if_pos heb, ← hdrop, hgo.out] at hstep
              rw [hstep] at hret
              replace hret := Box.mk hret
              clear F9 N9
              dsimp only [TEnd]
              k_steps
              (with_reducible rename Fr _ _ _ _ => F9); (with_reducible rename News _ _ _ _ => N9)
              exact hret.out _ _ _ _ _ _ _ _ _ _ _ F9 N9 ⟨hT5, hP5⟩ hS5 loT loP
            · intro h32 R5 I5 hw5 t5 to5 h5 tk5 m5 oT5 oP5 ws5 nI5 F5 N5 hT5 hP5 hS5
              subst h32
              have hstep := walkGo_ssl (strict := strict) (ev := ev) (ei := ei) (eb := eb) (a := a1) (R := R) (T := T2) (I := Is) hce
              rw [hw5] at hstep
              dsimp only at hstep
              rw [← hdrop, hgo.out] at hstep
              rw [hstep] at hret
              replace hret := Box.mk hret
              clear F9 N9
              dsimp only [TEnd]
              k_steps
              (with_reducible rename Fr _ _ _ _ => F9); (with_reducible rename News _ _ _ _ => N9)
              exact hret.out _ _ _ _ _ _ _ _ _ _ _ F9 N9 ⟨hT5, hP5⟩ hS5 loT loP

          · have hkn' : known kk = false := by cases hq : known kk; rfl; exact absurd hq hkn
            rw [if_pos (by rw [hkn']; rfl)]
            repeat' (first | (k_unfold; (try dsimp only)) | ((fail_if_success (with_reducible show (ite _ _ _))); first | walk1 | (dsimp only; walk1) | (leave1; try dsimp only)))
            rw [if_pos rfl]
            repeat' (first | (k_unfold; (try dsimp only)) | ((fail_if_success (with_reducible show (ite _ _ _))); first | walk1 | (dsimp only; walk1) | (leave1; try dsimp only)))
            dsimp only [TEnd]
            have hfin : walkGo strict (decide (cutv ≠ 0)) es 0 [] [] [] = (.unk, R, T2, Is) := by rw [← hgo.out, hdrop]; exact walkGo_unk hce (by dsimp only; rw [hst, hkn']; rfl)
            rw [hfin] at hret
            replace hret := Box.mk hret
            k_steps
            (with_reducible rename Fr _ _ _ _ => F9); (with_reducible rename News _ _ _ _ => N9)
            exact hret.out _ _ _ _ _ _ _ _ _ _ _ F9 (news_G N9) ⟨hdT, hdP⟩ hws.out loT loP
        · rw [if_neg hst]
          repeat' (first | (k_unfold; (try dsimp only)) | ((fail_if_success (with_reducible show (ite _ _ _))); first | walk1 | (dsimp only; walk1) | (leave1; try dsimp only)))
          rw [if_neg (by decide)]
          repeat' (first | (k_unfold; (try dsimp only)) | ((fail_if_success (with_reducible show (ite _ _ _))); (fail_if_success (with_reducible show wpAny _ _ (execs (Stmt.Assign [Expr.Subscript _ _ _] _ _ :: _) _) _ _ _)); first | walk1 | (dsimp only; walk1) | (leave1; try dsimp only)))
          try dsimp only
          (with_reducible rename Fr _ _ _ _ => F9); (with_reducible rename News _ _ _ _ => N9)
          refine walk_rest (ek := kk) (ev := ev) (ei := ei) (eb := eb) (R := R) (T := T2) (Is := Is) (lI := lI) (dP := dP) (dT := dT) (il := il) B1 X1 T1 F9 rfl rfl rfl rfl rfl rfl rfl rfl rfl N9 hdT hdP hws.out (by omega) hkR hkT (by omega) hek hmI hDs xI xl xP xT y1 y2 y3 y4 y5 y6 (by dsimp only [ktrTop]; omega) (by dsimp only [ktrTop]; omega) (by passes_own) ?_ ?_ ?_ ?_
          · intro h32 h5 tk5 ta5 m5 oT5 oP5 F5 N5 hT5 hP5 hat5 hm5
            refine ⟨h5, tk5, m5, _, (lI, listOf ws.toArray nI) :: (dP, oP5) :: (dT, oT5) :: news, rfl, F5, N5, .head _, fun p hp => .tail _ hp, ?_, oT5, oP5, ws, nI, _, _, Is, _, ta5, tc1, rfl, hT5, hP5, hws.out, by omega, keysIn_put hkR (nm_in hek.kind) _, keysIn_put hkT (nm_in hek.kind) _, ⟨by omega, by have := hek.hi; dsimp only at this; omega⟩, ?_, (hm5 (Str.ofString "entries") (by decide)).trans rfl, (hm5 (Str.ofString "cut") (by decide)).trans rfl, (hm5 (Str.ofString "strict") (by decide)).trans rfl, (hm5 (Str.ofString "table") (by decide)).trans rfl, (hm5 (Str.ofString "places") (by decide)).trans rfl, (hm5 (Str.ofString "inside") (by decide)).trans rfl, hat5⟩
            · exact ne4 y1 y2 y3 xI
            · rw [← hgo.out, hdrop, walkGo_plain hce (by rw [Bool.eq_false_iff.mpr hst]; rfl) h32]
          · intro h32 R5 I5 hw5 heb h5 tk5 ta5 m5 oT5 oP5 ws5 nI5 F5 N5 hT5 hP5 hS5 hat5 hm5
            subst h32
            have hstep := walkGo_ssl (strict := strict) (ev := ev) (ei := ei) (eb := eb) (a := a1) (R := R) (T := T2) (I := Is) hce
            rw [hw5] at hstep
            dsimp only at hstep
            rw [if_neg (by rw [heb]; decide), ← hdrop, hgo.out] at hstep
            have hk5 := walkIn_keys strict ei _ Is (fun p hp => hek.small p hp) (keysIn_put (keysIn_put hkR cli_in (RV.num ((KBw.bInts ev).getD 0 0))) ver_in (RV.num ((((KBw.bInts ev).getD 1 0 * 256 + (KBw.bInts ev).getD 2 0) * 256 + (KBw.bInts ev).getD 3 0) * 256 + (KBw.bInts ev).getD 4 0)))
            have hl5 := walkIn_len strict ei (sslR R (KBw.bInts ev)) Is
            change KeysIn (walkIn strict ei (sslR R (KBw.bInts ev)) Is).2.1 at hk5
            rw [hw5] at hk5 hl5
            dsimp only at hk5 hl5
            have hel := hek.len
            have heh := hek.hi
            dsimp only at hel heh
            refine ⟨h5, tk5, m5, _, (lI, listOf ws5.toArray nI5) :: (dP, oP5) :: (dT, oT5) :: news, rfl, F5, N5, .head _, fun p hp => .tail _ hp, ne4 y1 y2 y3 xI, oT5, oP5, ws5, nI5, _, _, I5, _, ta5, tc1, rfl, hT5, hP5, hS5, by omega, keysIn_put hk5 ssl_in _, keysIn_put hkT (nm_in hek.kind) _, ⟨by omega, by omega⟩, hstep.symm, (hm5 (Str.ofString "entries") (by decide)).trans rfl, (hm5 (Str.ofString "cut") (by decide)).trans rfl, (hm5 (Str.ofString "strict") (by decide)).trans rfl, (hm5 (Str.ofString "table") (by decide)).trans rfl, (hm5 (Str.ofString "places") (by decide)).trans rfl, (hm5 (Str.ofString "inside") (by decide)).trans rfl, hat5⟩
          · intro h32 R5 I5 hw5 heb t5 to5 h5 tk5 m5 oT5 oP5 ws5 nI5 F5 N5 hT5 hP5 hS5
            subst h32
            have hstep := walkGo_ssl (strict := strict) (ev := ev) (ei := ei) (eb := eb) (a := a1) (R := R) (T := T2) (I := Is) hce
            rw [hw5] at hstep
            dsimp only at hstep
            rw [if_pos heb, ← hdrop, hgo.out] at hstep
            rw [hstep] at hret
            replace hret := Box.mk hret
            clear F9 N9
            dsimp only [TEnd]
            k_steps
            (with_reducible rename Fr _ _ _ _ => F9); (with_reducible rename News _ _ _ _ => N9)
            exact hret.out _ _ _ _ _ _ _ _ _ _ _ F9 N9 ⟨hT5, hP5⟩ hS5 loT loP
          · intro h32 R5 I5 hw5 t5 to5 h5 tk5 m5 oT5 oP5 ws5 nI5 F5 N5 hT5 hP5 hS5
            subst h32
            have hstep := walkGo_ssl (strict := strict) (ev := ev) (ei := ei) (eb := eb) (a := a1) (R := R) (T := T2) (I := Is) hce
            rw [hw5] at hstep
            dsimp only at hstep
            rw [← hdrop, hgo.out] at hstep
            rw [hstep] at hret
            replace hret := Box.mk hret
            clear F9 N9
            dsimp only [TEnd]
            k_steps
            (with_reducible rename Fr _ _ _ _ => F9); (with_reducible rename News _ _ _ _ => N9)
            exact hret.out _ _ _ _ _ _ _ _ _ _ _ F9 N9 ⟨hT5, hP5⟩ hS5 loT loP

    · have hce : (decide (cutv ≠ 0) && (es.drop (i + 1)).isEmpty) = false := by rw [Bool.and_eq_false_iff]; left; exact decide_eq_false (by simpa using hcut)
      rw [if_neg hcut]
      repeat' (first | (k_unfold; (try dsimp only)) | ((fail_if_success (with_reducible show (ite _ _ _))); first | walk1 | (dsimp only; walk1) | (leave1; try dsimp only)))
      rw [if_neg (by decide)]
      repeat' (first | (k_unfold; (try dsimp only)) | ((fail_if_success (with_reducible show (ite _ _ _))); first | walk1 | (dsimp only; walk1) | (leave1; try dsimp only)))
      by_cases hst : strict = true
      · rw [if_pos hst]
        repeat' (first | (k_unfold; (try dsimp only)) | ((fail_if_success (with_reducible show (ite _ _ _))); first | walk1 | (dsimp only; walk1) | (leave1; try dsimp only)))
        by_cases hkn : known kk = true
        · rw [if_neg (by rw [hkn]; decide)]
          repeat' (first | (k_unfold; (try dsimp only)) | ((fail_if_success (with_reducible show (ite _ _ _))); first | walk1 | (dsimp only; walk1) | (leave1; try dsimp only)))
          rw [if_neg (by decide)]
          repeat' (first | (k_unfold; (try dsimp only)) | ((fail_if_success (with_reducible show (ite _ _ _))); (fail_if_success (with_reducible show wpAny _ _ (execs (Stmt.Assign [Expr.Subscript _ _ _] _ _ :: _) _) _ _ _)); first | walk1 | (dsimp only; walk1) | (leave1; try dsimp only)))
          try dsimp only
          (with_reducible rename Fr _ _ _ _ => F9); (with_reducible rename News _ _ _ _ => N9)
          refine walk_rest (ek := kk) (ev := ev) (ei := ei) (eb := eb) (R := R) (T := T2) (Is := Is) (lI := lI) (dP := dP) (dT := dT) (il := il) B1 X1 T1 F9 rfl rfl rfl rfl rfl rfl rfl rfl rfl (fun q hq => N9 q (.tail _ hq)) hdT hdP hws.out (by omega) hkR hkT (by omega) hek hmI hDs xI xl xP xT y1 y2 y3 y4 y5 y6 (by dsimp only [ktrTop]; omega) (by dsimp only [ktrTop]; omega) (by passes_own) ?_ ?_ ?_ ?_
          · intro h32 h5 tk5 ta5 m5 oT5 oP5 F5 N5 hT5 hP5 hat5 hm5
            refine ⟨h5, tk5, m5, _, (lI, listOf ws.toArray nI) :: (dP, oP5) :: (dT, oT5) :: news, rfl, F5, N5, .head _, fun p hp => .tail _ hp, ?_, oT5, oP5, ws, nI, _, _, Is, _, ta5, tc1, rfl, hT5, hP5, hws.out, by omega, keysIn_put hkR (nm_in hek.kind) _, keysIn_put hkT (nm_in hek.kind) _, ⟨by omega, by have := hek.hi; dsimp only at this; omega⟩, ?_, (hm5 (Str.ofString "entries") (by decide)).trans rfl, (hm5 (Str.ofString "cut") (by decide)).trans rfl, (hm5 (Str.ofString "strict") (by decide)).trans rfl, (hm5 (Str.ofString "table") (by decide)).trans rfl, (hm5 (Str.ofString "places") (by decide)).trans rfl, (hm5 (Str.ofString "inside") (by decide)).trans rfl, hat5⟩
            · exact ne4 y1 y2 y3 xI
            · rw [← hgo.out, hdrop, walkGo_plain hce (by rw [hkn, Bool.not_true, Bool.and_false]) h32]
          · intro h32 R5 I5 hw5 heb h5 tk5 ta5 m5 oT5 oP5 ws5 nI5 F5 N5 hT5 hP5 hS5 hat5 hm5
            subst h32
            have hstep := walkGo_ssl (strict := strict) (ev := ev) (ei := ei) (eb := eb) (a := a1) (R := R) (T := T2) (I := Is) hce
            rw [hw5] at hstep
            dsimp only at hstep
            rw [if_neg (by rw [heb]; decide), ← hdrop, hgo.out] at hstep
            have hk5 := walkIn_keys strict ei _ Is (fun p hp => hek.small p hp) (keysIn_put (keysIn_put hkR cli_in (RV.num ((KBw.bInts ev).getD 0 0))) ver_in (RV.num ((((KBw.bInts ev).getD 1 0 * 256 + (KBw.bInts ev).getD 2 0) * 256 + (KBw.bInts ev).getD 3 0) * 256 + (KBw.bInts ev).getD 4 0)))
            have hl5 := walkIn_len strict ei (sslR R (KBw.bInts ev)) Is
            change KeysIn (walkIn strict ei (sslR R (KBw.bInts ev)) Is).2.1 at hk5
            rw [hw5] at hk5 hl5
            dsimp only at hk5 hl5
            have hel := hek.len
            have heh := hek.hi
            dsimp only at hel heh
            refine ⟨h5, tk5, m5, _, (lI, listOf ws5.toArray nI5) :: (dP, oP5) :: (dT, oT5) :: news, rfl, F5, N5, .head _, fun p hp => .tail _ hp, ne4 y1 y2 y3 xI, oT5, oP5, ws5, nI5, _, _, I5, _, ta5, tc1, rfl, hT5, hP5, hS5, by omega, keysIn_put hk5 ssl_in _, keysIn_put hkT (nm_in hek.kind) _, ⟨by omega, by omega⟩, hstep.symm, (hm5 (Str.ofString "entries") (by decide)).trans rfl, (hm5 (Str.ofString "cut") (by decide)).trans rfl, (hm5 (Str.ofString "strict") (by decide)).trans rfl, (hm5 (Str.ofString "table") (by decide)).trans rfl, (hm5 (Str.ofString "places") (by decide)).trans rfl, (hm5 (Str.ofString "inside") (by decide)).trans rfl, hat5⟩
          · intro h32 R5 I5 hw5 heb t5 to5 h5 tk5 m5 oT5 oP5 ws5 nI5 F5 N5 hT5 hP5 hS5
            subst h32
            have hstep := walkGo_ssl (strict := strict) (ev := ev) (ei := ei) (eb := eb) (a := a1) (R := R) (T := T2) (I := Is) hce
            rw [hw5] at hstep
            dsimp only at hstep
            rw [if_pos heb, ← hdrop, hgo.out] at hstep
            rw [hstep] at hret
            replace hret := Box.mk hret
            clear F9 N9
            dsimp only [TEnd]
            k_steps
            (with_reducible rename Fr _ _ _ _ => F9); (with_reducible rename News _ _ _ _ => N9)
            exact hret.out _ _ _ _ _ _ _ _ _ _ _ F9 N9 ⟨hT5, hP5⟩ hS5 loT loP
          · intro h32 R5 I5 hw5 t5 to5 h5 tk5 m5 oT5 oP5 ws5 nI5 F5 N5 hT5 hP5 hS5
            subst h32
            have hstep := walkGo_ssl (strict := strict) (ev := ev) (ei := ei) (eb := eb) (a := a1) (R := R) (T := T2) (I := Is) hce
            rw [hw5] at hstep
            dsimp only at hstep
            rw [← hdrop, hgo.out] at hstep
            rw [hstep] at hret
            replace hret := Box.mk hret
            clear F9 N9
            dsimp only [TEnd]
            k_steps
            (with_reducible rename Fr _ _ _ _ => F9); (with_reducible rename News _ _ _ _ => N9)
            exact hret.out _ _ _ _ _ _ _ _ _ _ _ F9 N9 ⟨hT5, hP5⟩ hS5 loT loP

        · have hkn' : known kk = false := by cases hq : known kk; rfl; exact absurd hq hkn
          rw [if_pos (by rw [hkn']; rfl)]
          repeat' (first | (k_unfold; (try dsimp only)) | ((fail_if_success (with_reducible show (ite _ _ _))); first | walk1 | (dsimp only; walk1) | (leave1; try dsimp only)))
          rw [if_pos rfl]
          repeat' (first | (k_unfold; (try dsimp only)) | ((fail_if_success (with_reducible show (ite _ _ _))); first | walk1 | (dsimp only; walk1) | (leave1; try dsimp only)))
          dsimp only [TEnd]
          have hfin : walkGo strict (decide (cutv ≠ 0)) es 0 [] [] [] = (.unk, R, T2, Is) := by rw [← hgo.out, hdrop]; exact walkGo_unk hce (by dsimp only; rw [hst, hkn']; rfl)
          rw [hfin] at hret
          replace hret := Box.mk hret
          k_steps
          (with_reducible rename Fr _ _ _ _ => F9); (with_reducible rename News _ _ _ _ => N9)
          exact hret.out _ _ _ _ _ _ _ _ _ _ _ F9 (news_G N9) ⟨hdT, hdP⟩ hws.out loT loP
      · rw [if_neg hst]
        repeat' (first | (k_unfold; (try dsimp only)) | ((fail_if_success (with_reducible show (ite _ _ _))); first | walk1 | (dsimp only; walk1) | (leave1; try dsimp only)))
        rw [if_neg (by decide)]
        repeat' (first | (k_unfold; (try dsimp only)) | ((fail_if_success (with_reducible show (ite _ _ _))); (fail_if_success (with_reducible show wpAny _ _ (execs (Stmt.Assign [Expr.Subscript _ _ _] _ _ :: _) _) _ _ _)); first | walk1 | (dsimp only; walk1) | (leave1; try dsimp only)))
        try dsimp only
        (with_reducible rename Fr _ _ _ _ => F9); (with_reducible rename News _ _ _ _ => N9)
        refine walk_rest (ek := kk) (ev := ev) (ei := ei) (eb := eb) (R := R) (T := T2) (Is := Is) (lI := lI) (dP := dP) (dT := dT) (il := il) B1 X1 T1 F9 rfl rfl rfl rfl rfl rfl rfl rfl rfl N9 hdT hdP hws.out (by omega) hkR hkT (by omega) hek hmI hDs xI xl xP xT y1 y2 y3 y4 y5 y6 (by dsimp only [ktrTop]; omega) (by dsimp only [ktrTop]; omega) (by passes_own) ?_ ?_ ?_ ?_
        · intro h32 h5 tk5 ta5 m5 oT5 oP5 F5 N5 hT5 hP5 hat5 hm5
          refine ⟨h5, tk5, m5, _, (lI, listOf ws.toArray nI) :: (dP, oP5) :: (dT, oT5) :: news, rfl, F5, N5, .head _, fun p hp => .tail _ hp, ?_, oT5, oP5, ws, nI, _, _, Is, _, ta5, tc1, rfl, hT5, hP5, hws.out, by omega, keysIn_put hkR (nm_in hek.kind) _, keysIn_put hkT (nm_in hek.kind) _, ⟨by omega, by have := hek.hi; dsimp only at this; omega⟩, ?_, (hm5 (Str.ofString "entries") (by decide)).trans rfl, (hm5 (Str.ofString "cut") (by decide)).trans rfl, (hm5 (Str.ofString "strict") (by decide)).trans rfl, (hm5 (Str.ofString "table") (by decide)).trans rfl, (hm5 (Str.ofString "places") (by decide)).trans rfl, (hm5 (Str.ofString "inside") (by decide)).trans rfl, hat5⟩
          · exact ne4 y1 y2 y3 xI
          · rw [← hgo.out, hdrop, walkGo_plain hce (by rw [Bool.eq_false_iff.mpr hst]; rfl) h32]
        · intro h32 R5 I5 hw5 heb h5 tk5 ta5 m5 oT5 oP5 ws5 nI5 F5 N5 hT5 hP5 hS5 hat5 hm5
          subst h32
          have hstep := walkGo_ssl (strict := strict) (ev := ev) (ei := ei) (eb := eb) (a := a1) (R := R) (T := T2) (I := Is) hce
          rw [hw5] at hstep
          dsimp only at hstep
          rw [if_neg (by rw [heb]; decide), ← hdrop, hgo.out] at hstep
          have hk5 := walkIn_keys strict ei _ Is (fun p hp => hek.small p hp) (keysIn_put (keysIn_put hkR cli_in (RV.num ((KBw.bInts ev).getD 0 0))) ver_in (RV.num ((((KBw.bInts ev).getD 1 0 * 256 + (KBw.bInts ev).getD 2 0) * 256 + (KBw.bInts ev).getD 3 0) * 256 + (KBw.bInts ev).getD 4 0)))
          have hl5 := walkIn_len strict ei (sslR R (KBw.bInts ev)) Is
          change KeysIn (walkIn strict ei (sslR R (KBw.bInts ev)) Is).2.1 at hk5
          rw [hw5] at hk5 hl5
          dsimp only at hk5 hl5
          have hel := hek.len
          have heh := hek.hi
          dsimp only at hel heh
          refine ⟨h5, tk5, m5, _, (lI, listOf ws5.toArray nI5) :: (dP, oP5) :: (dT, oT5) :: news, rfl, F5, N5, .head _, fun p hp => .tail _ hp, ne4 y1 y2 y3 xI, oT5, oP5, ws5, nI5, _, _, I5, _, ta5, tc1, rfl, hT5, hP5, hS5, by omega, keysIn_put hk5 ssl_in _, keysIn_put hkT (nm_in hek.kind) _, ⟨by omega, by omega⟩, hstep.symm, (hm5 (Str.ofString "entries") (by decide)).trans rfl, (hm5 (Str.ofString "cut") (by decide)).trans rfl, (hm5 (Str.ofString "strict") (by decide)).trans rfl, (hm5 (Str.ofString "table") (by decide)).trans rfl, (hm5 (Str.ofString "places") (by decide)).trans rfl, (hm5 (Str.ofString "inside") (by decide)).trans rfl, hat5⟩
        · intro h32 R5 I5 hw5 heb t5 to5 h5 tk5 m5 oT5 oP5 ws5 nI5 F5 N5 hT5 hP5 hS5
          subst h32
          have hstep := walkGo_ssl (strict := strict) (ev := ev) (ei := ei) (eb := eb) (a := a1) (R := R) (T := T2) (I := Is) hce
          rw [hw5] at hstep
          dsimp only at hstep
          rw [if_pos heb, ← hdrop, hgo.out] at hstep
          rw [hstep] at hret
          replace hret := Box.mk hret
          clear F9 N9
          dsimp only [TEnd]
          k_steps
          (with_reducible rename Fr _ _ _ _ => F9); (with_reducible rename News _ _ _ _ => N9)
          exact hret.out _ _ _ _ _ _ _ _ _ _ _ F9 N9 ⟨hT5, hP5⟩ hS5 loT loP
        · intro h32 R5 I5 hw5 t5 to5 h5 tk5 m5 oT5 oP5 ws5 nI5 F5 N5 hT5 hP5 hS5
          subst h32
          have hstep := walkGo_ssl (strict := strict) (ev := ev) (ei := ei) (eb := eb) (a := a1) (R := R) (T := T2) (I := Is) hce
          rw [hw5] at hstep
          dsimp only at hstep
          rw [← hdrop, hgo.out] at hstep
          rw [hstep] at hret
          replace hret := Box.mk hret
          clear F9 N9
          dsimp only [TEnd]
          k_steps
          (with_reducible rename Fr _ _ _ _ => F9); (with_reducible rename News _ _ _ _ => N9)
          exact hret.out _ _ _ _ _ _ _ _ _ _ _ F9 N9 ⟨hT5, hP5⟩ hS5 loT loP

  case done =>
    rintro m₁ nx h tk ⟨oT1, oP1, ws, nI, R, T2, Is, a1, ta, tc1, rfl, hdT, hdP, hws, hIl, hkR, hkT, ha, hgo, e1, e2, e3, e4, e5, e6, e7⟩ F₁ N₁
    have hfin : walkGo strict (decide (cutv ≠ 0)) es 0 [] [] [] = (.ok, R, T2, Is) := by
      rw [← hgo, hlE, List.drop_length]; rfl
    rw [hfin] at hret
    replace hret := Box.mk hret
    replace hgo := Box.mk hgo
    replace hws := Box.mk hws
    have F₂ := frL [(Str.ofString "table", _), (Str.ofString "places", _), (Str.ofString "inside", _)] (by
      intro p hp
      simp only [List.mem_cons, List.not_mem_nil, or_false] at hp
      rcases hp with rfl | rfl | rfl
      · exact e4
      · exact e5
      · exact e6) F₁
    clear F₁ F4 N4 hkeep hR e1 e2 e3 e4 e5 e6 e7
    dsimp only
    k_steps
    (with_reducible rename Fr _ _ _ _ => F9); (with_reducible rename News _ _ _ _ => N9)
    exact hret.out _ _ _ _ _ _ _ _ _ _ _ F9 N9 ⟨hdT, hdP⟩ hws.out loT loP
end
end Mine
end

section
theorem Mine.rst_R1 {prog : PySem.Program} {w : PySem.World} {A : PySem.Around} {Q : PySem.Flow → PySem.Shared → Prop} {E : PySem.Value → PySem.Shared → Prop} {s : PySem.Shared} {env : PySem.Env} {pos : PySem.Pos} : True ∨ PySem.wpAny (PySem.model prog w) A (PySem.exec (PySem.Stmt.Pass pos) env) Q E s := by
  w_on
  w_top off
  first | (right; walk1; fail) | exact .inl trivial
open PySem PySem.W PySem.Calls PyProof.Rows PyProof.V
set_option Elab.async false
namespace Mine
local macro_rules | `(tactic| k_room) => `(tactic| ktr_room)
local macro_rules | `(tactic| k_units) => `(tactic| ktr_units)
local macro_rules | `(tactic| k_enter) => `(tactic| first
  | (refine' code_def ?k1 ?k2 ?k3 ?k4 ?k5 ?kA ?kF ?kK ?k6 ?k7 ?k8 ?k9 ?kB ?_ ?c2 ?c3 ?c4 ?c5; (case kA => exact rfl); (case kF => exact rfl); (case kK => first | exact rfl | assumption); (case k1 => k_asm); (case k2 => k_asm); (case k3 => k_asm); (case k4 => k_asm); (case k5 => k_asm); (case k6 => k_is); (case k7 => k_is); (case k8 => k_room); (case k9 => first | exact BindsTo.of_eq rfl | exact binds_K (by k_in) rfl (by k_is) rfl rfl rfl | fail "k_enter: no rule for these arguments"); (case c5 => decide); (case kB => exact locs rfl); (case c2 => exact rfl); (case c3 => exact rfl); (case c4 => exact rfl); k_whole; intro g' L' h' FG' F' N' B' X' T'; (try dsimp only); (try k_lift B'); (try k_fold))
  | (refine' code_defC ?k1 ?k2 ?k3 ?k4 ?k5 ?kA ?kF ?kK ?k6 ?k7 ?k8 ?k9 ?kB ?kD ?_ ?c2 ?c3 ?c4; (case kA => exact rfl); (case kF => exact rfl); (case kK => first | exact rfl | assumption); (case k1 => k_asm); (case k2 => k_asm); (case k3 => k_asm); (case k4 => k_asm); (case k5 => k_asm); (case k6 => k_is); (case k7 => k_is); (case k8 => k_room); (case k9 => first | exact BindsTo.of_eq rfl | exact binds_K (by k_in) rfl (by k_is) rfl rfl rfl | fail "k_enter: no rule for these arguments"); (case kB => exact rfl); (case kD => decide +kernel); (case c2 => exact rfl); (case c3 => exact rfl); (case c4 => exact rfl); k_whole; intro g' L' h' tk' cells' FG' F' N' Y' B' X' T' l1; (try k_lt l1); k_cells Y'; (try simp only [List.cons_append, List.nil_append] at N'); (try dsimp only); (try k_lift B'); (try k_fold)))
local macro_rules | `(tactic| walk_at "exec For Name Subscript cons nil") => `(tactic| (k_here; (rename Fr _ _ _ _ => lF'); (with_unfolding_all refine' For_hold lF' ?_; k_whole)))
local macro_rules | `(tactic| walk_at "exec For Name Call cons nil") => `(tactic| (k_here; (rename Fr _ _ _ _ => lF'); (with_unfolding_all refine' For_hold lF' ?_; k_whole)))
local macro_rules | `(tactic| walk_at "exec For Name Tuple cons nil") => `(tactic| (k_here; (rename Fr _ _ _ _ => lF'); (with_unfolding_all refine' For_hold lF' ?_; k_whole)))
local macro_rules | `(tactic| walk_at "exec For Name Name cons nil") => `(tactic| (k_here; (rename Fr _ _ _ _ => lF'); (with_unfolding_all refine' For_hold lF' ?_; k_whole)))
local macro_rules | `(tactic| walk_at "exec For Tuple Name cons nil") => `(tactic| (k_here; (rename Fr _ _ _ _ => lF'); (with_unfolding_all refine' For_hold lF' ?_; k_whole)))
local macro_rules | `(tactic| k_all) => `(tactic| first | with_reducible assumption | exact ne_ge (by with_reducible assumption) (by omega) | exact List.forall_mem_nil _ | (refine' List.forall_mem_cons.mpr ⟨?a, ?b⟩; (case a => k_ne); (case b => k_all)))
local macro_rules | `(tactic| walk_at "call builtin:list.append") => `(tactic| (k_here; (with_reducible show wpAny _ _ (call (Value.builtin _) [Value.ref _, _]) _ _ _); k_dflt (refine' append_K ?k1 ?k2 ?k3 ?_ ?z; (case k1 => k_asm); (case k2 => k_asm); (case k3 => k_upd); (case z => (rw [List.size_toArray, sizeLine_eq]; omega)); k_whole); intro h' F' N'; (try k_sweep)))
section
variable {w : World} {p : Program} {loose : List Str} {mean : ExcName → Option Value} {mg mb : Str → Option Value} (news : List (Addr × Obj))
abbrev keptD (w : World) (k1 k2 : Tok) (d1 d2 : Addr) : Obj := dictOf [⟨PyData.keyHash w.params (Str.ofString "fields"), .str (Str.ofString "fields") k1, .ref d1⟩, ⟨PyData.keyHash w.params (Str.ofString "tlv_loc"), .str (Str.ofString "tlv_loc") k2, .ref d2⟩] 2
theorem news_H {g : Heap} {L : Addr} {h : Heap} {x0 x1 x2 x3 x4 : Addr × Obj} {r : List (Addr × Obj)} (N : News g L h (x0 :: x1 :: x2 :: x3 :: x4 :: r)) : News g L h (x0 :: x1 :: x3 :: x4 :: r) := fun q hq => N q (by
  simp only [List.mem_cons] at hq ⊢
  rcases hq with rfl | rfl | rfl | rfl | hq <;> simp only [true_or, or_true, *])
theorem callWith_MKW {M : Model} {A : Around} {E : Value → Shared → Prop} {s : Shared} {K : Frag} {env : Env} {pos : Pos} {first : List Value} {Q : Value → Shared → Prop} {h₀ : Heap} {L : Addr} {news : List (Addr × Obj)} {q g : Addr} {self : Value} {e : Expr} {rest : List Expr} {kws : List Keyword} (_X : K.In h₀) (_N : News h₀ L s.heap news) (_q : (q, methodObj (.ref g) self) ∈ news) (hf : fnIn K g = true) (hall : (backToKw pos (keywordEach kws env)).all (·.1.isSome) = true)
    (h : wpAny M A (spliced (backTo pos (starEach (e :: rest) env))) (fun vs s₁ => wpAny M A (evalAll ((backToKw pos (keywordEach kws env)).map (·.2)))
      (fun ks s₂ => MethP K q g self s₂.heap ∧ wpAny M A (call (.ref q) (first ++ vs) (((backToKw pos (keywordEach kws env)).filterMap (·.1)).zip ks)) Q E s₂) E s₁) E s)
    (hplain : ((backTo pos (starEach (e :: rest) env)).any (·.1) || (backToKw pos (keywordEach kws env)).any (·.1.isNone)) = false := by rfl) (he : starEach (e :: rest) env = (false, eval e env) :: starEach rest env := by rfl) :
    wpAny M A (callWith pos (.ref q) first (backTo pos (starEach (e :: rest) env)) (backToKw pos (keywordEach kws env))) Q E s :=
  callWith_of hplain (keeps_M hf) (evalArgs_kw2 hall h he)
set_option maxRecDepth 100000 in
set_option maxHeartbeats 2000000 in
theorem c_raw (b : Array UInt8) (td : Tok) (tb : List (Addr × Obj)) (htb : TabSt 24 8 parsQ tb) (h72 : ∀ p ∈ news, p.1 ≠ 72) (hlen : (KBw.bInts b).length ≤ 1000000) (R2 : RS) (T2 : LS) (hz : pars false false 2 (KBw.bInts b) 0 [] [] = (.ok, R2, T2))
    (dp un : Nat) (gd : Option (List Code)) (cn : Str) (cs : Scope) (a : Addr) (ccd : Value) (cl : List (Str × Addr)) (outer : List Env) (A₀ : Around) (base h₀ : Heap) (L : Addr) (m : Str → Option Value) (s : Shared) (Q E : Value → Shared → Prop)
    (B : Below A₀ base outer h₀) (F : Fr h₀ L s.heap m) (XB : (Mine.hd.heap_39 w.params).In base) (TB : Top p loose mean mg mb base) (N : News h₀ L s.heap (tb ++ news)) (hk : cs.kind = .function) (hd : dp + 100 < recursionLimit) (hu : un + 500 < cLine) (hC : CodeHd base 76 72)
    (hne : KBw.bInts b ≠ [])
    (hok : ∀ x d k1 k2 d1 d2 o1 o2 tb' h' h₀' tk', KtsTurn (outer.filterMap (·.frame)) h₀ h₀' → Fr h₀' L h' m → News h₀' L h' ((x, instObj 104 d) :: (d, keptD w k1 k2 d1 d2) :: (d1, o1) :: (d2, o2) :: (tb' ++ news)) → TabSt 24 8 parsQ tb' → TabUp tb news tb' → Below A₀ base outer h₀' → DS w o1 o2 R2 T2 → (d1 == sysModules) = false → (d2 == sysModules) = false → Q (.ref x) { s with heap := h', toks := tk' }) :
      codeAny (model PySem.Challenge.rw_fc0001_01.row.prog w) (ktrTop dp un gd cn cs L a ccd cl outer) (.call (.ref 88) ⟨[.ref 104, .bytes b td], []⟩) (fun r s' => match r with | .ok (.ret v) => Q v s' | .ok _ => False | .error e => E e s') s := by
  have X := XB.keeps B.stays
  have T := TB.keeps B.stays
  revert X
  k_fill
  intro X
  k_dflt (refine' codeT ?k1 ?k2 ?k3 ?k4 ?k5 ?kA ?kF ?kK ?k6 ?k7 ?k8 ?k9 ?kB ?_ ?c2 ?c3 ?c4 ?c5; (case kA => exact rfl); (case kF => exact rfl); (case kK => first | exact rfl | assumption); (case k1 => k_asm); (case k2 => k_asm); (case k3 => k_asm); (case k4 => k_asm); (case k5 => k_asm); (case k6 => k_is); (case k7 => k_is); (case k8 => k_room); (case k9 => first | exact BindsTo.of_eq rfl | exact binds_K (by k_in) rfl (by k_is) rfl rfl rfl); (case c5 => decide); (case kB => exact locs rfl); (case c2 => exact rfl); (case c3 => exact rfl); (case c4 => exact rfl); k_whole; intro g' L' h' FG' F' N' B' X' T' l1; (try dsimp only); (try k_lift B'); (try k_fold))
  have hz' : Box (pars false false 2 (KBw.bInts b) 0 [] [] = (.ok, R2, T2)) := ⟨hz⟩
  have hnc : (pars false false 2 (KBw.bInts b) 0 [] []).1 ≠ .crash := by rw [hz]; exact fun h => by cases h
  replace hnc := Box.mk hnc
  have hlen' := Box.mk hlen
  clear hz
  replace hok := Box.mk hok
  generalize hb : KBw.bInts b = ks at hne hlen
  have hpos : 0 < ks.length := List.length_pos_iff.mpr hne
  repeat' (first | (k_unfold; (try dsimp only)) | ((fail_if_success (with_reducible show (ite _ _ _))); first | walk1 | (dsimp only; walk1) | (leave1; try dsimp only)))
  rw [if_neg (by rw [beq_iff_eq]; omega)]
  repeat' (first | (k_unfold; (try dsimp only)) | ((fail_if_success (with_reducible show (ite _ _ _))); (fail_if_success (with_reducible show wpAny _ _ (callWith _ (Value.ref _) _ _ (backToKw _ (keywordEach (_ :: _) _))) _ _ _)); first | walk1 | (dsimp only; walk1) | (leave1; try dsimp only)))
  rename_i q9 h9 F9 N9 l9
  refine callWith_MKW X' N9 (.head _) (by kernel_rfl) rfl ?_
  repeat' (first | (k_unfold; (try dsimp only)) | ((fail_if_success (with_reducible show (ite _ _ _))); (fail_if_success (with_reducible show wpAny _ _ (call (Value.ref _) [_] _) _ _ _)); first | walk1 | (dsimp only; walk1) | (leave1; try dsimp only)))
  refine call_meth N9 (.head _) ?_
  refine c_parse news _ b td false false tb htb h72 hlen'.out hnc.out (.inr rfl) _ _ _ _ _ _ _ _ _ _ base g' L' _ _ _ _ B' F9 XB TB (fun q hq => N9 q (.tail _ hq)) rfl (by dsimp only [ktrTop]; omega) (by dsimp only [ktrTop]; omega) hC ?_ ?_ ?_
  · intro R3 T3 hR t d1 d2 o1 o2 tb' h2 h₀' tk2 turn F2 N2 hTb hUp B2 hds lo1 lo2
    have X2 := XB.keeps B2.stays
    have T2' := TB.keeps B2.stays
    replace hds := Box.mk hds
    replace hR := Box.mk hR
    clear F9 N9 X' T'
    repeat' (first | (k_unfold; (try dsimp only)) | ((fail_if_success (with_reducible show (ite _ _ _))); first | walk1 | (dsimp only; walk1) | (leave1; try dsimp only)))
    (with_reducible rename Fr _ _ _ _ => F9); (with_reducible rename News _ _ _ _ => N9)
    have hpp : R3 = R2 ∧ T3 = T2 := by
      have h1 := hz'.out
      rcases hR.out with h | ⟨h, _⟩ <;> rw [h] at h1 <;> cases h1 <;> exact ⟨rfl, rfl⟩
    obtain ⟨rfl, rfl⟩ := hpp
    exact leaveT_ F9 N9 turn (fun h₀' T3 F3 N3 B3 => hok.out _ _ _ _ d1 d2 o1 o2 tb' _ _ _ T3 F3 (news_H N3) hTb hUp B3 hds.out lo1 lo2)
  · intro R3 T3 hR
    rw [hz'.out] at hR
    cases hR
  · intro R3 T3 hR
    rw [hz'.out] at hR
    cases hR
end
end Mine
end

section
theorem Mine.rst_R2 {prog : PySem.Program} {w : PySem.World} {A : PySem.Around} {Q : PySem.Flow → PySem.Shared → Prop} {E : PySem.Value → PySem.Shared → Prop} {s : PySem.Shared} {env : PySem.Env} {pos : PySem.Pos} : True ∨ PySem.wpAny (PySem.model prog w) A (PySem.exec (PySem.Stmt.Pass pos) env) Q E s := by
  w_on
  w_top off
  first | (right; walk1; fail) | exact .inl trivial
open PySem PySem.W PySem.Calls PyProof.Rows PyProof.V
set_option Elab.async false
namespace Mine
local macro_rules | `(tactic| k_room) => `(tactic| ktr_room)
local macro_rules | `(tactic| k_units) => `(tactic| ktr_units)
local macro_rules | `(tactic| k_enter) => `(tactic| first
  | (refine' code_def ?k1 ?k2 ?k3 ?k4 ?k5 ?kA ?kF ?kK ?k6 ?k7 ?k8 ?k9 ?kB ?_ ?c2 ?c3 ?c4 ?c5; (case kA => exact rfl); (case kF => exact rfl); (case kK => first | exact rfl | assumption); (case k1 => k_asm); (case k2 => k_asm); (case k3 => k_asm); (case k4 => k_asm); (case k5 => k_asm); (case k6 => k_is); (case k7 => k_is); (case k8 => k_room); (case k9 => first | exact BindsTo.of_eq rfl | exact binds_K (by k_in) rfl (by k_is) rfl rfl rfl | fail "k_enter: no rule for these arguments"); (case c5 => decide); (case kB => exact locs rfl); (case c2 => exact rfl); (case c3 => exact rfl); (case c4 => exact rfl); k_whole; intro g' L' h' FG' F' N' B' X' T'; (try dsimp only); (try k_lift B'); (try k_fold))
  | (refine' code_defC ?k1 ?k2 ?k3 ?k4 ?k5 ?kA ?kF ?kK ?k6 ?k7 ?k8 ?k9 ?kB ?kD ?_ ?c2 ?c3 ?c4; (case kA => exact rfl); (case kF => exact rfl); (case kK => first | exact rfl | assumption); (case k1 => k_asm); (case k2 => k_asm); (case k3 => k_asm); (case k4 => k_asm); (case k5 => k_asm); (case k6 => k_is); (case k7 => k_is); (case k8 => k_room); (case k9 => first | exact BindsTo.of_eq rfl | exact binds_K (by k_in) rfl (by k_is) rfl rfl rfl | fail "k_enter: no rule for these arguments"); (case kB => exact rfl); (case kD => decide +kernel); (case c2 => exact rfl); (case c3 => exact rfl); (case c4 => exact rfl); k_whole; intro g' L' h' tk' cells' FG' F' N' Y' B' X' T' l1; (try k_lt l1); k_cells Y'; (try simp only [List.cons_append, List.nil_append] at N'); (try dsimp only); (try k_lift B'); (try k_fold)))
local macro_rules | `(tactic| walk_at "exec For Name Subscript cons nil") => `(tactic| (k_here; (rename Fr _ _ _ _ => lF'); (with_unfolding_all refine' For_hold lF' ?_; k_whole)))
local macro_rules | `(tactic| walk_at "exec For Name Call cons nil") => `(tactic| (k_here; (rename Fr _ _ _ _ => lF'); (with_unfolding_all refine' For_hold lF' ?_; k_whole)))
local macro_rules | `(tactic| walk_at "exec For Name Tuple cons nil") => `(tactic| (k_here; (rename Fr _ _ _ _ => lF'); (with_unfolding_all refine' For_hold lF' ?_; k_whole)))
local macro_rules | `(tactic| walk_at "exec For Name Name cons nil") => `(tactic| (k_here; (rename Fr _ _ _ _ => lF'); (with_unfolding_all refine' For_hold lF' ?_; k_whole)))
local macro_rules | `(tactic| walk_at "exec For Tuple Name cons nil") => `(tactic| (k_here; (rename Fr _ _ _ _ => lF'); (with_unfolding_all refine' For_hold lF' ?_; k_whole)))
local macro_rules | `(tactic| k_all) => `(tactic| first | with_reducible assumption | exact ne_ge (by with_reducible assumption) (by omega) | exact List.forall_mem_nil _ | (refine' List.forall_mem_cons.mpr ⟨?a, ?b⟩; (case a => k_ne); (case b => k_all)))
local macro_rules | `(tactic| walk_at "call builtin:list.append") => `(tactic| (k_here; (with_reducible show wpAny _ _ (call (Value.builtin _) [Value.ref _, _]) _ _ _); k_dflt (refine' append_K ?k1 ?k2 ?k3 ?_ ?z; (case k1 => k_asm); (case k2 => k_asm); (case k3 => k_upd); (case z => (rw [List.size_toArray, sizeLine_eq]; omega)); k_whole); intro h' F' N'; (try k_sweep)))
section
variable {w : World} {p : Program} {loose : List Str} {mean : ExcName → Option Value} {mg mb : Str → Option Value} (news : List (Addr × Obj))
set_option maxRecDepth 100000 in
set_option maxHeartbeats 2000000 in
theorem c_raw0 (b : Array UInt8) (td : Tok) (tb : List (Addr × Obj)) (htb : TabSt 24 8 parsQ tb) (h72 : ∀ p ∈ news, p.1 ≠ 72) (hlen : (KBw.bInts b).length ≤ 1000000)
    (dp un : Nat) (gd : Option (List Code)) (cn : Str) (cs : Scope) (a : Addr) (ccd : Value) (cl : List (Str × Addr)) (outer : List Env) (A₀ : Around) (base h₀ : Heap) (L : Addr) (m : Str → Option Value) (s : Shared) (Q E : Value → Shared → Prop)
    (B : Below A₀ base outer h₀) (F : Fr h₀ L s.heap m) (XB : (Mine.hd.heap_39 w.params).In base) (TB : Top p loose mean mg mb base) (N : News h₀ L s.heap (tb ++ news)) (hk : cs.kind = .function) (hd : dp + 100 < recursionLimit) (hu : un + 500 < cLine) (hC : CodeHd base 76 72)
    (hem : KBw.bInts b = [])
    (hok : ∀ h' h₀' tk', KtsTurn (outer.filterMap (·.frame)) h₀ h₀' → Fr h₀' L h' m → News h₀' L h' (tb ++ news) → Below A₀ base outer h₀' → Q .none { s with heap := h', toks := tk' }) :
      codeAny (model PySem.Challenge.rw_fc0001_01.row.prog w) (ktrTop dp un gd cn cs L a ccd cl outer) (.call (.ref 88) ⟨[.ref 104, .bytes b td], []⟩) (fun r s' => match r with | .ok (.ret v) => Q v s' | .ok _ => False | .error e => E e s') s := by
  have X := XB.keeps B.stays
  have T := TB.keeps B.stays
  revert X
  k_fill
  intro X
  k_dflt (refine' codeT ?k1 ?k2 ?k3 ?k4 ?k5 ?kA ?kF ?kK ?k6 ?k7 ?k8 ?k9 ?kB ?_ ?c2 ?c3 ?c4 ?c5; (case kA => exact rfl); (case kF => exact rfl); (case kK => first | exact rfl | assumption); (case k1 => k_asm); (case k2 => k_asm); (case k3 => k_asm); (case k4 => k_asm); (case k5 => k_asm); (case k6 => k_is); (case k7 => k_is); (case k8 => k_room); (case k9 => first | exact BindsTo.of_eq rfl | exact binds_K (by k_in) rfl (by k_is) rfl rfl rfl); (case c5 => decide); (case kB => exact locs rfl); (case c2 => exact rfl); (case c3 => exact rfl); (case c4 => exact rfl); k_whole; intro g' L' h' FG' F' N' B' X' T' l1; (try dsimp only); (try k_lift B'); (try k_fold))
  replace hok := Box.mk hok
  generalize hb : KBw.bInts b = ks at hem hlen
  subst hem
  repeat' (first | (k_unfold; (try dsimp only)) | ((fail_if_success (with_reducible show (ite _ _ _))); first | walk1 | (dsimp only; walk1) | (leave1; try dsimp only)))
  rw [if_pos (by decide)]
  repeat' (first | (k_unfold; (try dsimp only)) | ((fail_if_success (with_reducible show (ite _ _ _))); first | walk1 | (dsimp only; walk1) | (leave1; try dsimp only)))
  (with_reducible rename Fr _ _ _ _ => F9); (with_reducible rename News _ _ _ _ => N9)
  try k_unfold
  try dsimp only
  exact leaveT_ F9 N9 .refl (fun h₀' T3 F3 N3 B3 => hok.out _ _ _ T3 F3 N3 B3)
end
local macro_rules | `(tactic| k_mem) => `(tactic| first | exact List.Mem.head _ | with_reducible assumption | ((refine mem_of ?_); with_reducible assumption) | (refine List.Mem.tail _ ?_; k_mem))
local macro_rules | `(tactic| walk_at "getMethod ref") => `(tactic| (k_here; (with_reducible show wpAny _ _ (getMethod (Value.ref _) (Str.ofString "get") _) _ _ _); k_dflt (refine' kdg_method (knd := PySem.strKind _ _) ?N ?mm ?d ?_; (case N => k_asm); (case mm => k_mem); (case d => with_reducible assumption)); (try dsimp only)))
local macro_rules | `(tactic| walk_at "call builtin:dict.get") => `(tactic| (k_here; (with_reducible show wpAny _ _ (call (Value.builtin "dict.get") [Value.ref _, Value.str _ _]) _ _ _); k_dflt (refine' kdg_get1 (knd := PySem.strKind _ _) ?N ?mm ?d ?lo (strKind_is _ _ _ _) _ ?v ?_; (case N => k_asm); (case mm => k_mem); (case d => with_reducible assumption); (case lo => with_reducible assumption); (case v => with_reducible assumption)); (try dsimp only [Option.getD])))
section
variable {w : World} {p : Program} {loose : List Str} {mean : ExcName → Option Value} {mg mb : Str → Option Value} (news : List (Addr × Obj))
set_option maxRecDepth 100000 in
set_option maxHeartbeats 2000000 in
theorem c_get {x d d1 d2 : Addr} {k1 k2 : Tok} {o1 : Obj} {kv : List (Str × Value)} {k : Str} {t : Tok} {y : Option Value} (hx : (x, instObj 104 d) ∈ news) (hm : (d, keptD w k1 k2 d1 d2) ∈ news) (h1 : (d1, o1) ∈ news)
    (hd1 : o1.IsDictOf (PySem.strKind PySem.Challenge.rw_fc0001_01.row.prog w) kv) (lo : (d1 == sysModules) = false) (hv : valueAt kv k = y) :
    CC w p loose mean mg mb 69 news 5 30 [.ref x, .str k t] (fun Q _ h₀ L m s => ∀ (h' : Heap) (tk' : Nat), Fr h₀ L h' m → News h₀ L h' news → Q (y.getD .none) { s with heap := h', toks := tk' }) := by
  dsimp only [CC]
  k_fill
  intro dp un gd cn cs a ccd cl outer A₀ base h₀ L m s Q E B F X N T hk hd hu hret
  replace N : News h₀ L s.heap ((x, instObj 104 d) :: (d, keptD w k1 k2 d1 d2) :: (d1, o1) :: news) := fun q hq => N q (by
    simp only [List.mem_cons] at hq
    rcases hq with rfl | rfl | rfl | hq
    · exact hx
    · exact hm
    · exact h1
    · exact hq)
  clear hx hm h1
  refine wpAny_call ?_
  k_dflt k_enter
  k_steps
  (with_reducible rename Fr _ _ _ _ => F9); (with_reducible rename News _ _ _ _ => N9)
  exact hret _ _ F9 (fun q hq => N9 q (.tail _ (.tail _ (.tail _ hq))))
end
end Mine
end

section
theorem Mine.rst_D1 {prog : PySem.Program} {w : PySem.World} {A : PySem.Around} {Q : PySem.Flow → PySem.Shared → Prop} {E : PySem.Value → PySem.Shared → Prop} {s : PySem.Shared} {env : PySem.Env} {pos : PySem.Pos} : True ∨ PySem.wpAny (PySem.model prog w) A (PySem.exec (PySem.Stmt.Pass pos) env) Q E s := by
  w_on
  w_top off
  first | (right; walk1; fail) | exact .inl trivial
open PySem PySem.W PySem.Calls PyProof.Rows PyProof.V
set_option Elab.async false
namespace Mine
theorem bInts_inj {b c : Array UInt8} (h : KBw.bInts b = KBw.bInts c) : b = c := by
  unfold KBw.bInts at h
  apply Array.toList_inj.mp
  refine List.map_inj_right (f := fun c : UInt8 => (c.toNat : Int)) (fun x y e => ?_) |>.mp h
  exact UInt8.toNat_inj.mp (by exact_mod_cast e)
section
variable {A : Around} {s : Shared}
theorem eqAt_bytes (b : Array UInt8) (t u : Tok) : SeqAt.EqAt A s (.bytes b t) (.bytes b u) true := fun prog w E Q h => by
  unfold eqBool
  refine wpAny_holding ?_
  refine wpAny_ite_split (fun _ => ?_) (fun _ => ?_)
  · exact wpAny_bind (wpAny_rule (wpAny_pure h))
  · refine wpAny_bind (PySem.W.eq_bytes (t := t) (u := u) ?_)
    rw [beq_self_eq_true]
    exact wpAny_truthy_bool h
theorem rv_eq {b : RV} {v y : Value} (h : RV.is b v) (k : RV.is b y) : SeqAt.EqAt A s v y true := by
  cases b with
  | num n =>
    obtain ⟨t, rfl⟩ := h
    obtain ⟨u, rfl⟩ := k
    have := SeqAt.EqAt.int_int (A := A) (s := s) n t n u
    rwa [beq_self_eq_true] at this
  | flag b =>
    cases h; cases k
    exact SeqAt.EqAt.same _
  | oct l =>
    obtain ⟨b, t, rfl, e1⟩ := h
    obtain ⟨c, u, rfl, e2⟩ := k
    obtain rfl : b = c := bInts_inj (e1.trans e2.symm)
    exact eqAt_bytes b t u
theorem loc_eq {n : Int} {v y : Value} (h : isLoc n v) (k : isLoc n y) : SeqAt.EqAt A s v y true := by
  obtain ⟨t, rfl⟩ := h
  obtain ⟨u, rfl⟩ := k
  have := SeqAt.EqAt.int_int (A := A) (s := s) n t n u
  rwa [beq_self_eq_true] at this
end
theorem rel_get {κ β : Type} [DecidableEq κ] {r : β → Value → Prop} {l : List (κ × Value)} {m : List (κ × β)} (h : Rel r l m) {k : κ} {b : β} (hn : (m.map (·.1)).Nodup) (hm : (k, b) ∈ m) : ∃ y, valueAt l k = some y ∧ r b y := by
  induction h with
  | nil => cases hm
  | @cons k' v' b' l m a _ ih =>
    rw [List.map_cons, List.nodup_cons] at hn
    rcases List.mem_cons.mp hm with e | hm
    · cases e
      exact ⟨v', by simp [valueAt], a⟩
    · have hne : k' ≠ k := fun e => hn.1 (List.mem_map.mpr ⟨(k, b), hm, e.symm⟩)
      obtain ⟨y, hy, hb⟩ := ih hn.2 hm
      refine ⟨y, ?_, hb⟩
      unfold valueAt at hy ⊢
      rw [List.find?_cons_of_neg (by simpa using hne)]
      exact hy
theorem rel_none {κ β : Type} [DecidableEq κ] {r : β → Value → Prop} {l : List (κ × Value)} {m : List (κ × β)} (h : Rel r l m) {k : κ} (hm : k ∉ m.map (·.1)) : valueAt l k = none := by
  unfold valueAt
  rw [← h.keys] at hm
  rw [Option.map_eq_none_iff, List.find?_eq_none]
  intro x hx
  simp only [decide_eq_true_eq]
  exact fun e => hm (List.mem_map.mpr ⟨x, hx, e⟩)
theorem rel_hits {κ β : Type} [DecidableEq κ] {r : β → Value → Prop} {A : Around} {s : Shared} (hr : ∀ {b v y}, r b v → r b y → SeqAt.EqAt A s v y true) {ka kb : List (κ × Value)} {m : List (κ × β)} (hb : Rel r kb m) (hn : (m.map (·.1)).Nodup) :
    ∀ {m' : List (κ × β)}, Rel r ka m' → (∀ p ∈ m', p ∈ m) → KeqHits A s kb ka true := by
  intro m' ha
  induction ha with
  | nil => intro _; exact .nil
  | @cons k v b l m' a _ ih =>
    intro hs
    obtain ⟨y, hy, hby⟩ := rel_get hb hn (hs (k, b) (.head _))
    exact .hit (e := true) (b := true) hy (hr a hby) (ih fun p hp => hs p (.tail _ hp))
theorem Rel.length {κ β : Type} {r : β → Value → Prop} {l : List (κ × Value)} {m : List (κ × β)} (h : Rel r l m) : l.length = m.length := by
  have := congrArg List.length h.keys
  simpa using this
section
variable {w : World} {A : Around} {E : Value → Shared → Prop} {s : Shared} {h₀ : Heap} {L a b : Addr} {oa ob : Obj} {m : Str → Option Value} {news : List (Addr × Obj)} {Q : Value → Shared → Prop} {prog : Program}
theorem eq_SD {R : RS} (N : News h₀ L s.heap news) (pa : (a, oa) ∈ news) (pb : (b, ob) ∈ news) (da : ∃ kv, oa.IsDictOf (PySem.strKind prog w) kv ∧ Rel RV.is kv R) (db : ∃ kv, ob.IsDictOf (PySem.strKind prog w) kv ∧ Rel RV.is kv R) (la : (a == sysModules) = false) (lb : (b == sysModules) = false) (hu : A.units < cLine)
    (h : Q (.bool true) s) : wpAny (model prog w) A (compareOp .Eq (.ref a) (.ref b)) Q E s := by
  obtain ⟨ka, ha, ra⟩ := da
  obtain ⟨kb, hb, rb⟩ := db
  obtain ⟨_, _, _, _, _, _, hn⟩ := id hb
  refine keq_pairs N pa pb ha hb la lb (by rw [ra.length, rb.length]) hu (rel_hits (r := RV.is) (fun x y => rv_eq x y) rb ?_ ra fun p hp => hp) h
  rw [← rb.keys]; exact hn
theorem eq_LD {T : LS} (N : News h₀ L s.heap news) (pa : (a, oa) ∈ news) (pb : (b, ob) ∈ news) (da : ∃ kv, oa.IsDictOf (PySem.strKind prog w) kv ∧ Rel isLoc kv T) (db : ∃ kv, ob.IsDictOf (PySem.strKind prog w) kv ∧ Rel isLoc kv T) (la : (a == sysModules) = false) (lb : (b == sysModules) = false) (hu : A.units < cLine)
    (h : Q (.bool true) s) : wpAny (model prog w) A (compareOp .Eq (.ref a) (.ref b)) Q E s := by
  obtain ⟨ka, ha, ra⟩ := da
  obtain ⟨kb, hb, rb⟩ := db
  obtain ⟨_, _, _, _, _, _, hn⟩ := id hb
  refine keq_pairs N pa pb ha hb la lb (by rw [ra.length, rb.length]) hu (rel_hits (r := isLoc) (fun x y => loc_eq x y) rb ?_ ra fun p hp => hp) h
  rw [← rb.keys]; exact hn
theorem strs_of_keys {kv : List (Str × Value)} {vs : List Value} (hl : vs.length = kv.length) (hv : ∀ (j : Nat) (v : Value), vs[j]? = some v → ∃ k x, kv[j]? = some (k, x) ∧ (PySem.strKind prog w).is k v = true) : StrsAre vs (kv.map (·.1)) := by
  induction kv generalizing vs with
  | nil => cases vs with
    | nil => exact .nil
    | cons => simp at hl
  | cons p r ih =>
    cases vs with
    | nil => simp at hl
    | cons v vs =>
      obtain ⟨k, x, e, hk⟩ := hv 0 v rfl
      simp only [List.getElem?_cons_zero, Option.some.injEq] at e
      subst e
      obtain ⟨t, rfl⟩ := Value.isStrOf_shape hk
      exact .cons _ _ (ih (by simpa using hl) fun j u hu => by simpa using hv (j + 1) u (by simpa using hu))
theorem list_keys {d : Addr} {o : Obj} {kv : List (Str × Value)} (hh : A.handled = none) (F : Fr h₀ L s.heap m) (N : News h₀ L s.heap news) (hp : (d, o) ∈ news) (hd : o.IsDictOf (PySem.strKind prog w) kv) (lo : (d == sysModules) = false) (hn : kv.length ≤ 1000)
    (h : ∀ (B : Addr) c h' tk vs, StrsAre vs (kv.map (·.1)) → Fr h₀ L h' m → News h₀ L h' ((B, listOf vs.toArray c) :: news) → (∀ q ∈ news, q.1 < B) → Q (.ref B) { s with heap := h', toks := tk }) :
    wpAny (model prog w) A (call (.type "list") [.ref d]) Q E s := by
  obtain ⟨ep, hat⟩ := (kda_dict N hp hd).dictAt
  exact kdl_N (kdl_dict (knd := PySem.strKind prog w) (kvs := kv) (ep := ep) lo) hh F N hat (by rw [sizeLine_eq]; omega) fun B c h' tk vs F' N' l1 hl hv => h B c h' tk vs (strs_of_keys hl hv) F' N' l1
theorem sort_strs {D : Addr} {vs : List Value} {ss : List Str} {n : Nat} (F : Fr h₀ L s.heap m) (N : News h₀ L s.heap ((D, listOf vs.toArray n) :: news)) (l1 : ∀ q ∈ news, q.1 < D) (hS : StrsAre vs ss) (h64 : vs.length < 64)
    (h : ∀ h' c vs' ss', Fr h₀ L h' m → News h₀ L h' ((D, listOf vs'.toArray c) :: news) → StrsAre vs' ss' → ss'.Perm ss → sortedS ss' = true → Q .none { s with heap := h' }) :
    wpAny (model prog w) A (call (.builtin "list.sort") [.ref D]) Q E s := by
  obtain ⟨ho, hDL, hD0⟩ := N _ (.head _)
  have hlt : D < s.heap.objs.size := Heap.lt_size ho
  refine wpAny_call_entry slot_list_sort ⟨_, ho, rfl⟩ entry_list_sort (list_sort_treeK strKind_oneLt ho hS.keysOf (fun v₁ v₂ rest e => keyKind_strs (by rw [← e]; exact hS)) h64 fun st' hp hs => ⟨_, rfl, ?_⟩) (args_list_sort _)
  obtain ⟨ss', h1, h2, h3⟩ := sorted_out_str hS hp hs
  obtain ⟨e, he⟩ := sortedHeap_at (vs := vs) (out := (arrOf st').map (·.2)) ho
  have old : ∀ b o, b ≠ D → s.heap.get? b = some o → (sortedHeap s.heap D vs ((arrOf st').map (·.2))).get? b = some o := fun b o hb q => by
    rw [sortedHeap_old hb (Heap.lt_size q)]; exact q
  refine h _ e ((arrOf st').map (·.2)).toList ss' ?_ ?_ h1 h2 h3
  · obtain ⟨oL, a1, a2, hL, a3⟩ := F.ns
    exact ⟨⟨oL, a1, a2, old _ _ (fun q => hDL q.symm) hL, a3⟩, fun b o q => old b o (fun z => by rw [z, hD0] at q; cases q) (F.keep b o q), F.above⟩
  · intro q hq
    rcases List.mem_cons.mp hq with rfl | hq
    · exact ⟨he, hDL, hD0⟩
    · obtain ⟨x1, x2, x3⟩ := N q (.tail _ hq)
      exact ⟨old _ _ (Nat.ne_of_lt (l1 q hq)) x1, x2, x3⟩
theorem sorted_dict {d : Addr} {o : Obj} {kv : List (Str × Value)} (hh : A.handled = none) (F : Fr h₀ L s.heap m) (N : News h₀ L s.heap news) (hp : (d, o) ∈ news) (hd : o.IsDictOf (PySem.strKind prog w) kv) (lo : (d == sysModules) = false) (hn : kv.length < 64)
    (h : ∀ (B : Addr) c h' tk vs ss, StrsAre vs ss → ss.Perm (kv.map (·.1)) → sortedS ss = true → Fr h₀ L h' m → News h₀ L h' ((B, listOf vs.toArray c) :: news) → (∀ q ∈ news, q.1 < B) → Q (.ref B) { s with heap := h', toks := tk }) :
    wpAny (model prog w) A (call (.builtin "sorted") [.ref d]) Q E s := by
  obtain ⟨ep, hat⟩ := (kda_dict N hp hd).dictAt
  refine kdu_sorted (kdl_dict (knd := PySem.strKind prog w) (kvs := kv) (ep := ep) lo) hh F N hat (by rw [sizeLine_eq]; omega) fun B h' tk vs F' N' l1 hl hv => ?_
  exact sort_strs F' N' l1 (strs_of_keys hl hv) (by omega) fun h2 c vs' ss' F2 N2 hS hP hO => h B c h2 tk vs' ss' hS hP hO F2 N2 l1
theorem eq_strs {us vs : List Value} {ss : List Str} {n n' : Nat} (N : News h₀ L s.heap news) (pa : (a, listOf us.toArray n) ∈ news) (pb : (b, listOf vs.toArray n') ∈ news) (ha : StrsAre us ss) (hb : StrsAre vs ss) (hu : A.units < cLine)
    (h : Q (.bool true) s) : wpAny (model prog w) A (compareOp .Eq (.ref a) (.ref b)) Q E s := by
  have la := ha.length
  have lb := hb.length
  have z := SeqAt.RcAt.lists (A := A) (s := s) (e := fun _ => true) (News.isList N pa) (News.isList N pb) (by simp [la, lb]) hu (fun j h1 h2 => ?_)
  · have e : (List.range us.toArray.size).all (fun _ => true) = true := by simp
    rw [e] at z
    exact z prog w E Q h
  · have j1 : j < ss.length := by rw [← la]; simpa using h1
    obtain ⟨t, ht⟩ := ha.get j _ (List.getElem?_eq_getElem j1)
    obtain ⟨u, hu⟩ := hb.get j _ (List.getElem?_eq_getElem j1)
    have e1 : us.toArray[j] = .str ss[j] t := by
      have : us[j]? = some us.toArray[j] := by simp at h1; simp [h1]
      rw [ht] at this; exact (Option.some.inj this).symm
    have e2 : vs.toArray[j] = .str ss[j] u := by
      have : vs[j]? = some vs.toArray[j] := by simp at h2; simp [h2]
      rw [hu] at this; exact (Option.some.inj this).symm
    rw [e1, e2]
    have := SeqAt.EqAt.str_str (A := A.in1) (s := s) ss[j] t ss[j] u
    rwa [beq_self_eq_true] at this
end
theorem rising_pw : ∀ (p : Str) (l : List Str), risingS p l = true → (p :: l).Pairwise (fun a b => Spec.ltCps b.cps.toList a.cps.toList = false)
  | p, [], _ => by simp
  | p, x :: r, h => by
    unfold risingS at h
    rw [Bool.and_eq_true] at h
    have ih := rising_pw x r h.2
    rw [List.pairwise_cons]
    refine ⟨fun y hy => ?_, ih⟩
    have h1 : Spec.ltCps x.cps.toList p.cps.toList = false := by simpa using h.1
    rcases List.mem_cons.mp hy with rfl | hy
    · exact h1
    · have h2 := (List.pairwise_cons.mp ih).1 y hy
      rw [PyProof.Rows.ltCps_eq] at h1 h2 ⊢
      have h1' := of_decide_eq_false h1
      have h2' := of_decide_eq_false h2
      refine decide_eq_false fun h3 => ?_
      have a1 := List.not_lt.mp h1'
      have a2 := List.not_lt.mp h2'
      exact List.not_lt.mpr (List.le_trans a1 a2) h3
theorem sorted_pw {l : List Str} (h : sortedS l = true) : l.Pairwise (fun a b => Spec.ltCps b.cps.toList a.cps.toList = false) := by
  cases l with
  | nil => exact .nil
  | cons x r => exact rising_pw x r h
theorem sorted_uniq {l m : List Str} (hl : sortedS l = true) (hm : sortedS m = true) (hp : l.Perm m) : l = m := by
  refine List.Perm.eq_of_pairwise (le := fun a b => Spec.ltCps b.cps.toList a.cps.toList = false) ?_ (sorted_pw hl) (sorted_pw hm) hp
  intro a b _ _ h1 h2
  rw [PyProof.Rows.ltCps_eq] at h1 h2
  have a1 := List.not_lt.mp (of_decide_eq_false h1)
  have a2 := List.not_lt.mp (of_decide_eq_false h2)
  have := List.le_antisymm a1 a2
  cases a; cases b
  simp only at this
  rw [Array.toList_inj.mp this]
end Mine
end

section
theorem Mine.rst_D2 {prog : PySem.Program} {w : PySem.World} {A : PySem.Around} {Q : PySem.Flow → PySem.Shared → Prop} {E : PySem.Value → PySem.Shared → Prop} {s : PySem.Shared} {env : PySem.Env} {pos : PySem.Pos} : True ∨ PySem.wpAny (PySem.model prog w) A (PySem.exec (PySem.Stmt.Pass pos) env) Q E s := by
  w_on
  w_top off
  first | (right; walk1; fail) | exact .inl trivial
open PySem PySem.W PySem.Calls PyProof.Rows PyProof.V
set_option Elab.async false
set_option maxHeartbeats 2000000
namespace Mine
section
open LCg LCt
variable {prog : Program} {w : World} {A : Around} {E : Value → Shared → Prop} {s : Shared} {h₀ : Heap} {L : Addr} {m : Str → Option Value} {env : Env}
abbrev viewO (d : Addr) : Obj := { cls := .type "dict_values", data := .fields #[.ref d] }
theorem compRestT_ind {ct elt : Expr} {x : Str} {scope : Scope} {cl : List (Str × Addr)} {S : List (Addr × Obj) → Prop} {P : Nat → Value → Prop} {Fin : List Value → List (Addr × Obj) → Prop} {news : List (Addr × Obj)} {n : Nat} (M : Nat → List Value → List (Addr × Obj) → Prop) (h0 : M 0 [] news)
    (turn : ∀ i v I oI C oC D m₂ ys nw h tk (E' : Value → Shared → Prop), i < n → P i v → M i ys nw → NsObj oC m₂ → m₂ x = some v → Fr h₀ L h m → News h₀ L h ((I, oI) :: (C, oC) :: (D, lst ys) :: nw) → Off3 I C D nw → ((@Ne Nat I C) ∧ (@Ne Nat I D) ∧ (@Ne Nat C D)) →
      wpAny (model prog w) A (isTrue ct (compEnvC scope cl C env) (eval ct (compEnvC scope cl C env))) (fun ok s' => if ok = true then
        wpAny (model prog w) A (eval elt (compEnvC scope cl C env)) (CompEnd h₀ L m { s with heap := h, toks := tk } I oI C oC D (lst ys) S (fun y news' => M (i + 1) (ys ++ [y]) news')) E' s'
        else CompEnd h₀ L m { s with heap := h, toks := tk } I oI C oC D (lst ys) S (fun _ news' => M (i + 1) ys news') Value.none s') E' { s with heap := h, toks := tk })
    (fin : ∀ ys nw, M n ys nw → Fin ys nw) : CompRestT prog w A h₀ L m env ct elt x scope cl s S P Fin n 0 [] news := by
  have key : ∀ (j i : Nat) (ys : List Value) nw, i + j = n → M i ys nw → CompRestT prog w A h₀ L m env ct elt x scope cl s S P Fin j i ys nw := by
    intro j
    induction j with
    | zero =>
      intro i ys nw hi hy
      obtain rfl : i = n := by omega
      exact CompRestT.zero (fin ys nw hy)
    | succ j ih =>
      intro i ys nw hi hy
      refine CompRestT.succ ?_
      intro v I oI C oC D m₂ h tk E' hv hC hx F N off ne
      refine wpAny_mono (turn i v I oI C oC D m₂ ys nw h tk E' (by omega) hv hy hC hx F N off ne) (fun ok s₂ hq => ?_) fun _ _ e => e
      cases ok with
      | true =>
        simp only [if_true] at hq ⊢
        refine wpAny_mono hq (fun y s₃ hr => ?_) fun _ _ e => e
        obtain ⟨h', tk', nw', e, F', N', off', hS, hM⟩ := hr
        exact ⟨h', tk', nw', e, F', N', off', hS, ih (i + 1) _ _ (by omega) hM⟩
      | false =>
        simp only [Bool.false_eq_true, if_false] at hq ⊢
        obtain ⟨h', tk', nw', e, F', N', off', hS, hM⟩ := hq
        exact ⟨h', tk', nw', e, F', N', off', hS, ih (i + 1) _ _ (by omega) hM⟩
  exact key n 0 [] news (by omega) h0
def SrcVT (prog : Program) (w : World) (K : Type) [DecidableEq K] (knd : KeyKind prog w K) (A : Around) (h₀ : Heap) (L : Addr) (m : Str → Option Value) (env : Env) (ct elt : Expr) (x : Str) (scope : Scope) (cl : List (Str × Addr)) (Fin : Shared → List Value → List (Addr × Obj) → Prop) (xv : Value) (s₁ : Shared) : Prop :=
  ∃ (r d : Addr) (o : Obj) (kvs : List (K × Value)) (news : List (Addr × Obj)), xv = .ref r ∧ A.handled = none ∧ Fr h₀ L s₁.heap m ∧ News h₀ L s₁.heap news ∧ (r, viewO d) ∈ news ∧ (d, o) ∈ news ∧ o.IsDictOf knd kvs ∧ kvs.length ≤ 1000 ∧
    ∀ s₂ : Shared, (∃ h, s₂ = { s₁ with heap := h }) → CompRestT prog w A h₀ L m env ct elt x scope cl s₂ (fun nw => (r, viewO d) ∈ nw ∧ (d, o) ∈ nw) (fun i v => ∃ k, kvs[i]? = some (k, v)) (Fin s₂) kvs.length 0 [] news
theorem comp_vals {K : Type} [DecidableEq K] {knd : KeyKind prog w K} {ct elt iter : Expr} {x : Str} {px : Pos} {scope : Scope} {cl : List (Str × Addr)} {pos : Pos} {Q : Value → Shared → Prop} (_F₀ : Fr h₀ L s.heap m)
    (hclos : closureFor scope env = pure cl) (hcell : ∀ y ∈ scope.names, y.2 ≠ .cell) (hkind : scope.kind = .function)
    (hnames : ∀ y ∈ scope.names, y.2 = .local → scope.names.lookup y.1 = some .local) (hx : scope.names.lookup x = some .local)
    (h : wpAny (model prog w) A (eval iter env) (SrcVT prog w K knd A h₀ L m env ct elt x scope cl (fun s₂ => FinE h₀ L m s₂ Q)) E s)
    (hs : ∀ x, foldedSetIterable iter env x = pure x := by intro _; rfl) :
    wpAny (model prog w) A (eval (.ListComp elt [⟨.Name x px, iter, [ct], 0⟩] scope pos) env) Q E s := by
  rw [eval_ListComp]
  refine wpAny_comprehension_free (use := none) rfl hs hclos hkind hnames (wpAny_mono h (fun xv s₁ h₁ => ?_) fun _ _ e => e)
  obtain ⟨r, d, o, kvs, news, rfl, hh, F, N, hr, hd, hD, hsz, R⟩ := h₁
  obtain ⟨ep, hat⟩ := (kda_dict N hd hD).dictAt
  have hv : s₁.heap.IsValuesView r d := ⟨_, (N _ hr).1, rfl, rfl⟩
  refine wpAny_pyIter_values hv hat ?_
  refine block_T (Walks.dictValues (knd := knd) hh s₁.heap.objs.size d (Nat.ne_of_lt hat.lt_size) kvs ep) (by rw [sizeLine_eq]; omega) (fun i h st => by obtain ⟨⟨o, e, _⟩, _⟩ := st; exact ⟨o, e⟩) ?_ hcell hkind hx ⟨⟨_, Heap.get?_push_size _ rfl, rfl, rfl⟩, hat.push _⟩ (fun b hb => ?_)
      (F.keeps fun b o e => Heap.get?_push_of_some _ e) (N.grown fun b o e => Heap.get?_push_of_some _ e) (Nat.ne_of_lt F.ns.lt) (next_is_new F) (fun p hp => Nat.ne_of_lt (Heap.lt_size (N p hp).1)) ⟨hr, hd⟩ (R _ ⟨_, rfl⟩) ?_
  · rintro i h h' o' nw ⟨⟨o₂, e₂, r₂⟩, hm⟩ e e' k N' ⟨_, hd'⟩
    rw [e] at e₂; cases e₂
    refine ⟨⟨_, e', r₂⟩, hat.at' fun o₁ q => ?_⟩
    rw [(N _ hd).1] at q; cases q
    exact (N' _ hd').1
  · show b < (s₁.heap.push _).objs.size
    rw [Heap.size_push]
    rcases List.mem_cons.mp hb with rfl | hb
    · exact Nat.lt_succ_self _
    · rw [List.mem_singleton.mp hb]; exact Nat.lt_succ_of_lt hat.lt_size
  · intro D C h tk m' ys news' F' N' o1 hn hC₀ hD₀ hCL hDL hCD offC fin
    refine ⟨m', hn, fun h'' hs'' => fin D h'' tk (F'.change hs'' hCL hC₀) (fun p hp => ?_) o1⟩
    refine ⟨hs''.extBut _ _ ?_ (N' p hp).1, (N' p hp).2⟩
    rcases List.mem_cons.mp hp with rfl | hp
    · exact Ne.symm hCD
    · exact offC p hp
end
end Mine
end

section
theorem Mine.rst_T1 {prog : PySem.Program} {w : PySem.World} {A : PySem.Around} {Q : PySem.Flow → PySem.Shared → Prop} {E : PySem.Value → PySem.Shared → Prop} {s : PySem.Shared} {env : PySem.Env} {pos : PySem.Pos} : True ∨ PySem.wpAny (PySem.model prog w) A (PySem.exec (PySem.Stmt.Pass pos) env) Q E s := by
  w_on
  w_top off
  first | (right; walk1; fail) | exact .inl trivial
open PySem PySem.W PySem.Calls PyProof.Rows PyProof.V
set_option Elab.async false
namespace Mine
local macro_rules | `(tactic| k_room) => `(tactic| ktr_room)
local macro_rules | `(tactic| k_units) => `(tactic| ktr_units)
local macro_rules | `(tactic| k_enter) => `(tactic| first
  | (refine' code_def ?k1 ?k2 ?k3 ?k4 ?k5 ?kA ?kF ?kK ?k6 ?k7 ?k8 ?k9 ?kB ?_ ?c2 ?c3 ?c4 ?c5; (case kA => exact rfl); (case kF => exact rfl); (case kK => first | exact rfl | assumption); (case k1 => k_asm); (case k2 => k_asm); (case k3 => k_asm); (case k4 => k_asm); (case k5 => k_asm); (case k6 => k_is); (case k7 => k_is); (case k8 => k_room); (case k9 => first | exact BindsTo.of_eq rfl | exact binds_K (by k_in) rfl (by k_is) rfl rfl rfl | fail "k_enter: no rule for these arguments"); (case c5 => decide); (case kB => exact locs rfl); (case c2 => exact rfl); (case c3 => exact rfl); (case c4 => exact rfl); k_whole; intro g' L' h' FG' F' N' B' X' T'; (try dsimp only); (try k_lift B'); (try k_fold))
  | (refine' code_defC ?k1 ?k2 ?k3 ?k4 ?k5 ?kA ?kF ?kK ?k6 ?k7 ?k8 ?k9 ?kB ?kD ?_ ?c2 ?c3 ?c4; (case kA => exact rfl); (case kF => exact rfl); (case kK => first | exact rfl | assumption); (case k1 => k_asm); (case k2 => k_asm); (case k3 => k_asm); (case k4 => k_asm); (case k5 => k_asm); (case k6 => k_is); (case k7 => k_is); (case k8 => k_room); (case k9 => first | exact BindsTo.of_eq rfl | exact binds_K (by k_in) rfl (by k_is) rfl rfl rfl | fail "k_enter: no rule for these arguments"); (case kB => exact rfl); (case kD => decide +kernel); (case c2 => exact rfl); (case c3 => exact rfl); (case c4 => exact rfl); k_whole; intro g' L' h' tk' cells' FG' F' N' Y' B' X' T' l1; (try k_lt l1); k_cells Y'; (try simp only [List.cons_append, List.nil_append] at N'); (try dsimp only); (try k_lift B'); (try k_fold)))
local macro_rules | `(tactic| walk_at "exec For Name Subscript cons nil") => `(tactic| (k_here; (rename Fr _ _ _ _ => lF'); (with_unfolding_all refine' For_hold lF' ?_; k_whole)))
local macro_rules | `(tactic| walk_at "exec For Name Call cons nil") => `(tactic| (k_here; (rename Fr _ _ _ _ => lF'); (with_unfolding_all refine' For_hold lF' ?_; k_whole)))
local macro_rules | `(tactic| walk_at "exec For Name Tuple cons nil") => `(tactic| (k_here; (rename Fr _ _ _ _ => lF'); (with_unfolding_all refine' For_hold lF' ?_; k_whole)))
local macro_rules | `(tactic| walk_at "exec For Name Name cons nil") => `(tactic| (k_here; (rename Fr _ _ _ _ => lF'); (with_unfolding_all refine' For_hold lF' ?_; k_whole)))
local macro_rules | `(tactic| walk_at "exec For Tuple Name cons nil") => `(tactic| (k_here; (rename Fr _ _ _ _ => lF'); (with_unfolding_all refine' For_hold lF' ?_; k_whole)))
local macro_rules | `(tactic| k_all) => `(tactic| first | with_reducible assumption | exact ne_ge (by with_reducible assumption) (by omega) | exact List.forall_mem_nil _ | (refine' List.forall_mem_cons.mpr ⟨?a, ?b⟩; (case a => k_ne); (case b => k_all)))
local macro_rules | `(tactic| walk_at "call builtin:list.append") => `(tactic| (k_here; (with_reducible show wpAny _ _ (call (Value.builtin _) [Value.ref _, _]) _ _ _); k_dflt (refine' append_K ?k1 ?k2 ?k3 ?_ ?z; (case k1 => k_asm); (case k2 => k_asm); (case k3 => k_upd); (case z => (rw [List.size_toArray, sizeLine_eq]; omega)); k_whole); intro h' F' N'; (try k_sweep)))
local macro_rules | `(tactic| walk_at "call ref") => `(tactic| (k_here; (with_reducible show wpAny _ _ (call (Value.ref 116) _) _ _ _); k_dflt (refine' c_names _  _ _ _ _ _ _ _ _ _ _ _ _ _ _ _ _ _ ?k1 ?k2 ?k3 ?k4 ?k5 ?kK ?kd ?ku ?_; (case k1 => k_asm); (case k2 => k_asm); (case k3 => k_asm); (case k4 => k_asm); (case k5 => k_asm); (case kK => first | exact rfl | assumption);  (case kd => ktr_room); (case ku => ktr_units); k_whole); intro d' o' kvs' h' tk' F' N' l1 lo' hd' hf'; (try k_lt l1)))
local macro_rules | `(tactic| k_mem) => `(tactic| first | with_reducible assumption | ((refine mem_of ?_); with_reducible assumption) | exact List.Mem.head _ | (refine' List.Mem.tail _ ?_; k_mem))
noncomputable def lawBody (P : Params) : List Stmt := fnBody ((Mine.hd.heap_39 P).lookup 159)
noncomputable def lawScope (P : Params) : Scope := fnScope ((Mine.hd.heap_39 P).lookup 159)
noncomputable def turnBody (P : Params) : List Stmt := match (lawBody P).drop 6 with | .For _ _ [_, .For _ _ b _ _] _ _ :: _ => b | _ => []
noncomputable def okBody (P : Params) : List Stmt := match turnBody P with | [_, .If _ _ b _] => b | _ => []
def lawKeep : List Str := [Str.ofString "entries", Str.ofString "octets", Str.ofString "cut", Str.ofString "strict", Str.ofString "table", Str.ofString "places", Str.ofString "end"]
def lawKeep2 : List Str := lawKeep ++ [Str.ofString "found", Str.ofString "where", Str.ofString "outcome", Str.ofString "right", Str.ofString "tops"]
def JTop (w : World) (dt : Addr) (rst : List (Addr × Obj)) (T' : LS) (I : List Str) (m₁ : Str → Option Value) (i : Nat) (m : Str → Option Value) (nx : List (Addr × Obj)) : Prop :=
  ∃ ot, nx = (dt, ot) :: rst ∧ LD w ot ((T'.take i).filter (fun p => !I.any (· == p.1))) ∧ ∀ x ∈ lawKeep2, m x = m₁ x
theorem rel_at {κ β : Type} {r : β → Value → Prop} {l : List (κ × Value)} {m : List (κ × β)} (h : Rel r l m) : ∀ {i : Nat} {k : κ} {x : Value}, l[i]? = some (k, x) → ∃ b, m[i]? = some (k, b) ∧ r b x := by
  induction h with
  | nil => intro i k x h; simp at h
  | @cons k' v b l m a _ ih =>
    intro i k x h
    cases i with
    | zero => simp at h; obtain ⟨rfl, rfl⟩ := h; exact ⟨b, rfl, a⟩
    | succ i => simp at h; obtain ⟨c, hc, hr⟩ := ih h; exact ⟨c, by simpa using hc, hr⟩
theorem take_filter {β : Type} {l : List (Str × β)} (hn : (l.map (·.1)).Nodup) {i : Nat} {k : Str} {n : β} (hi : l[i]? = some (k, n)) (f : Str → Bool) :
    (l.take (i + 1)).filter (fun p => f p.1) = if f k then put ((l.take i).filter (fun p => f p.1)) k n else (l.take i).filter (fun p => f p.1) := by
  rw [List.take_add_one, hi, List.filter_append]
  have hnk : ∀ p ∈ l.take i, p.1 ≠ k := by
    intro p hp e
    have hil : i < l.length := (List.getElem?_eq_some_iff.mp hi).1
    obtain ⟨j, hj, rfl⟩ := List.getElem_of_mem hp
    rw [List.length_take] at hj
    have h1 : (l.map (·.1))[j]'(by simp; omega) = k := by simpa using e
    have h2 : (l.map (·.1))[i]'(by simpa using hil) = k := by
      have := (List.getElem?_eq_some_iff.mp hi).2
      simp [this]
    have := (List.getElem_inj hn).mp (h1.trans h2.symm)
    omega
  by_cases hf : f k = true
  · rw [if_pos hf]
    unfold put
    rw [if_neg (by
      simp only [List.any_eq_true, List.mem_filter, decide_eq_true_eq, not_exists, not_and]
      intro p hp; exact hnk p hp.1)]
    simp [hf]
  · rw [if_neg hf]
    simp [hf]
local macro_rules | `(tactic| walk_at "getMethod ref") => `(tactic| (k_here; (with_reducible show wpAny _ _ (getMethod (Value.ref _) (Str.ofString "values") _) _ _ _); k_dflt (refine' getMethod_tab_any (knd := intKind _ _) (enc := PyData.int) ?k1 ?k2 ?_; (case k1 => exact rfl); (case k2 => k_tabat); k_whole)))
local macro_rules | `(tactic| walk_at "eval Name") => `(tactic| (k_here; (with_reducible show wpAny _ _ (eval (Expr.Name (Str.ofString "inside") _) _) _ _ _); k_dflt (refine' nameX_C ?N ?c ?m ?d ?_ ?a ?b ?e; (case a => rfl); (case b => rfl); (case e => decide); (case N => k_asm); (case c => rfl); (case m => k_mem); (case d => with_reducible assumption); k_whole)))
local macro_rules | `(tactic| walk_at "compareOp NotIn str ref") => `(tactic| (k_here; (with_reducible show wpAny _ _ (compareOp CmpOp.NotIn (Value.str _ _) (Value.ref _)) _ _ _); k_dflt (refine' notin_list_strs ?k1 ?k2 ?_; (case k1 => exact News.isList (by k_asm) (by k_mem)); (case k2 => with_reducible assumption))))
local macro_rules | `(tactic| walk_at "compareOp In str ref") => `(tactic| (k_here; (with_reducible show wpAny _ _ (compareOp CmpOp.In (Value.str _ _) (Value.ref _)) _ _ _); k_dflt (refine' in_list_strs ?k1 ?k2 ?_; (case k1 => exact News.isList (by k_asm) (by k_mem)); (case k2 => with_reducible assumption))))
local macro_rules | `(tactic| walk_at "subscriptTail") => `(tactic| (k_here; (with_reducible show wpAny _ _ (subscriptTail _ _ (Value.ref _) (Value.str _ _)) _ _ _); k_dflt (refine' kdt_tail (knd := PySem.strKind _ _) ?N ?m ?d ?_; (case N => k_asm); (case m => k_mem); (case d => with_reducible assumption))))
local macro_rules | `(tactic| walk_at "compareOp Eq ref ref") => `(tactic| (k_here; (with_reducible show wpAny _ _ (compareOp CmpOp.Eq (Value.ref _) (Value.ref _)) _ _ _); k_dflt (first
  | (refine' eq_SD ?N ?pa ?pb ?da ?db ?la ?lb ?u ?_; (case N => k_asm); (case pa => k_mem); (case pb => k_mem); (case da => with_reducible assumption); (case db => with_reducible assumption); (case la => with_reducible assumption); (case lb => with_reducible assumption); (case u => k_units))
  | (refine' eq_LD ?N ?pa ?pb ?da ?db ?la ?lb ?u ?_; (case N => k_asm); (case pa => k_mem); (case pb => k_mem); (case da => with_reducible assumption); (case db => with_reducible assumption); (case la => with_reducible assumption); (case lb => with_reducible assumption); (case u => k_units))
  | (refine' eq_strs ?N ?pa ?pb ?da ?db ?u ?_; (case N => k_asm); (case pa => k_mem); (case pb => k_mem); (case da => with_reducible assumption); (case db => with_reducible assumption); (case u => k_units)))))
local macro_rules | `(tactic| walk_at "getItem ref str") => `(tactic| (k_here; k_dflt (refine' kdt_getItem (knd := PySem.strKind _ _) ?N ?m ?d (strKind_is _ _ _ _) ?v ?_; (case N => k_asm); (case m => k_mem); (case d => with_reducible assumption); (case v => with_reducible assumption))))
local macro_rules | `(tactic| walk_at "setItem ref str") => `(tactic| (k_here; k_dflt (refine' set_put ?F ?N ?U ?d ?K ?v ?_; (case F => k_asm); (case N => k_asm); (case U => k_updF); (case d => with_reducible assumption); (case K => with_reducible assumption); (case v => exact (⟨_, rfl⟩ : isLoc _ _))); intro h' o' F' N' hd'; (try dsimp only at N')))
def namesL : List Str := [Str.ofString "ALPN", Str.ofString "AUTHORITY", Str.ofString "CRC32C", Str.ofString "NOOP", Str.ofString "UNIQUE_ID", Str.ofString "SSL", Str.ofString "SSL_VERSION", Str.ofString "SSL_CN", Str.ofString "SSL_CIPHER", Str.ofString "SSL_SIG_ALG", Str.ofString "SSL_KEY_ALG", Str.ofString "NETNS"]
theorem namesD_vals : namesD.map (·.2) = namesL.map PyData.str := rfl
theorem names_at {kvs : List (Int × Value)} (hf : FlatPairs PyData.int kvs namesD) {i : Nat} {k : Int} {v : Value} (h : kvs[i]? = some (k, v)) : ∃ x t, namesL[i]? = some x ∧ v = .str x t := by
  obtain ⟨dv, hD, hfl⟩ := hf.at h
  have e : (namesD.map (·.2))[i]? = some dv := by rw [List.getElem?_map, hD]; rfl
  rw [namesD_vals, List.getElem?_map] at e
  cases hx : namesL[i]? with
  | none => rw [hx] at e; cases e
  | some x =>
    rw [hx] at e
    cases e
    obtain ⟨t, rfl⟩ := hfl.str_inv
    exact ⟨x, t, rfl, rfl⟩
section
variable {w : World} {p : Program} {loose : List Str} {mean : ExcName → Option Value} {mg mb : Str → Option Value} {dp un : Nat} {gd : Option (List Code)} {A₀ : Around} {E : Value → Shared → Prop} {s : Shared} {g base : Heap} {L fa : Addr} {cd : Value} {m : Str → Option Value} {Q : Flow → Shared → Prop}
  {lI dP dT d1 d2 : Addr} {cI oP oT o1 o2 : Obj} {ws : List Value} {nI : Nat} {news : List (Addr × Obj)} {I : List Str} {R : RS} {T T' : LS} {tko : Tok}
set_option maxRecDepth 100000 in
set_option maxHeartbeats 1000000 in
theorem law_ok (B : Below A₀ base [] g) (X : (Mine.hd.heap_39 w.params).In g) (Tp : Top p loose mean mg mb g)
    (F0 : Fr g L s.heap m) (h1 : m (Str.ofString "found") = some (.ref d1)) (h2 : m (Str.ofString "where") = some (.ref d2)) (h3 : m (Str.ofString "outcome") = some (.str (Str.ofString "sound") tko)) (h4 : m (Str.ofString "right") = some (.bool true)) (h5 : m (Str.ofString "table") = some (.ref dT)) (h6 : m (Str.ofString "places") = some (.ref dP))
    (hcI : cI.data = .cell (some (.ref lI))) (N : News g L s.heap ((L + 1, cI) :: (lI, listOf ws.toArray nI) :: (dP, oP) :: (dT, oT) :: (d1, o1) :: (d2, o2) :: news)) (ds1 : DS w o1 o2 R T') (ds2 : DS w oT oP R T) (hI : StrsAre ws I) (hIl : I.length ≤ 40) (hkT' : KeysIn T') (hkT : KeysIn T)
    (hperm : (T'.map (·.1)).Perm (T.map (·.1) ++ namesL.filter (fun x => I.any (· == x)) ++ (if I.any (· == Str.ofString "x26") then [Str.ofString "x26"] else [])))
    (hf : T'.filter (fun p => !I.any (· == p.1)) = T)
    (l1 : (d1 == sysModules) = false) (l2 : (d2 == sysModules) = false) (lT : (dT == sysModules) = false) (lP : (dP == sysModules) = false)
    (hdp : dp + 40 < recursionLimit) (hun : un + 300 < cLine) (hPE : PassesOwn (model PySem.Challenge.rw_fc0001_01.row.prog w) (ktrTop dp un gd (Str.ofString "law") (lawScope w.params) L fa cd (cellsFrom (L+1) (lawScope w.params).names []) []) (envX (Str.ofString "law") (lawScope w.params) L fa cd (cellsFrom (L+1) (lawScope w.params).names [])) E)
    (hnext : ∀ h' tk' m' news', Fr g L h' m' → News g L h' news' → (∀ q ∈ (L + 1, cI) :: (lI, listOf ws.toArray nI) :: (dP, oP) :: (dT, oT) :: news, q ∈ news') → m' (Str.ofString "right") = some (.bool true) → (∀ x ∈ lawKeep, m' x = m x) → Q .next { s with heap := h', toks := tk' }) :
    wpAny (model PySem.Challenge.rw_fc0001_01.row.prog w) (ktrTop dp un gd (Str.ofString "law") (lawScope w.params) L fa cd (cellsFrom (L+1) (lawScope w.params).names []) []) (execs (okBody w.params) (envX (Str.ofString "law") (lawScope w.params) L fa cd (cellsFrom (L+1) (lawScope w.params).names []))) Q E s := by
  revert X
  k_fill
  intro X
  generalize hps : lawScope w.params = scope at hPE ⊢
  conv at hps => lhs; whnf
  subst hps
  generalize hrb : okBody w.params = rb
  conv at hrb => lhs; whnf
  subst hrb
  have F := frL [(Str.ofString "found", _), (Str.ofString "where", _), (Str.ofString "outcome", _), (Str.ofString "right", _), (Str.ofString "table", _), (Str.ofString "places", _)] (by
      intro p hp
      simp only [List.mem_cons, List.not_mem_nil, or_false] at hp
      rcases hp with rfl | rfl | rfl | rfl | rfl | rfl
      · exact h1
      · exact h2
      · exact h3
      · exact h4
      · exact h5
      · exact h6) F0
  have hbx : Box (m (Str.ofString "table") = some (.ref dT) ∧ m (Str.ofString "places") = some (.ref dP)) := ⟨h5, h6⟩
  clear F0 h1 h2 h3 h4 h5 h6
  replace hnext := Box.mk hnext
  replace hPE := Box.mk hPE
  repeat' (first | (k_unfold; (try dsimp only)) | ((fail_if_success (with_reducible show (ite _ _ _))); (fail_if_success (with_reducible show wpAny _ _ (execs (Stmt.For _ _ _ _ _ :: _) _) _ _ _)); first | walk1 | (dsimp only; walk1) | (leave1; try dsimp only)))
  rename_i dt _ ot lo_t hst _ _ _ lt _ F4 N4
  dsimp only
  refine wpAny_execs_cons (For_hold F4 ?_ (fun _ => rfl) hPE.out)
  repeat' (first | (k_unfold; (try dsimp only)) | ((fail_if_success (with_reducible show (ite _ _ _))); first | walk1 | (dsimp only; walk1) | (leave1; try dsimp only)))
  refine Hold.intro ?_
  try dsimp only
  obtain ⟨m₁, F5, q1, q2, q3, q4, q5, q6, q7, q8⟩ : ∃ m₁, Fr g L _ m₁ ∧ m₁ (Str.ofString "found") = some (.ref d1) ∧ m₁ (Str.ofString "where") = some (.ref d2) ∧ m₁ (Str.ofString "outcome") = some (.str (Str.ofString "sound") tko) ∧ m₁ (Str.ofString "right") = some (.bool true) ∧ m₁ (Str.ofString "table") = some (.ref dT) ∧ m₁ (Str.ofString "places") = some (.ref dP) ∧ m₁ (Str.ofString "tops") = some (.ref dt) ∧ (∀ x ∈ lawKeep, m₁ x = m x) := by
    refine ⟨_, F4, rfl, rfl, rfl, rfl, rfl, rfl, rfl, fun x hx => ?_⟩
    simp only [lawKeep, List.mem_cons, List.not_mem_nil, or_false] at hx
    rcases hx with rfl | rfl | rfl | rfl | rfl | rfl | rfl
    · rfl
    · rfl
    · rfl
    · rfl
    · exact hbx.out.1.symm
    · exact hbx.out.2.symm
    · rfl
  obtain ⟨kv, hkv, hrel⟩ := ds1.d2
  obtain ⟨_, _, _, _, _, _, hnd⟩ := id hkv
  have hnd' : (T'.map (·.1)).Nodup := by rw [← hrel.keys]; exact hnd
  have hkl := hrel.length
  generalize hrst : (L + 1, cI) :: (lI, listOf ws.toArray nI) :: (dP, oP) :: (dT, oT) :: (d1, o1) :: (d2, o2) :: news = rst at N4
  have xn : ∀ p ∈ rst, p.1 < dt := by
    rw [← hrst]
    exact kst_ltOf (l := (L + 1, cI) :: (lI, listOf ws.toArray nI) :: (dP, oP) :: (dT, oT) :: (d1, o1) :: (d2, o2) :: news) lt
  have hmd2 : (d2, o2) ∈ rst := by rw [← hrst]; exact .tail _ (.tail _ (.tail _ (.tail _ (.tail _ (.head _)))))
  have hmlI : (lI, listOf ws.toArray nI) ∈ rst := by rw [← hrst]; exact .tail _ (.head _)
  have hmcI : (L + 1, cI) ∈ rst := by rw [← hrst]; exact .head _
  clear F4
  refine turns_keys (kvs := kv) rfl (.tail _ hmd2) hkv l2 F5 N4 (JTop w dt rst T' I m₁) ?j0 ?hk ?turn ?done
  case j0 => exact ⟨ot, rfl, ⟨[], hst, .nil⟩, fun _ _ => rfl⟩
  case hk => rintro i m nx ⟨_, rfl, _⟩; exact .tail _ hmd2
  case turn =>
    rintro i k x v m₂ nx h tk I2 oI2 hki hkv2 ⟨ot2, rfl, hT2, hm2⟩ hoff2 F₂ N₂
    obtain ⟨tv, rfl⟩ := Value.isStrOf_shape hkv2
    obtain ⟨n, hTi, hnx⟩ := rel_at hrel hki
    obtain ⟨y, hy, hny⟩ := rel_get hrel hnd' (List.mem_of_getElem? hTi)
    obtain ⟨ty, rfl⟩ := hny
    have hkin := hkT' _ (List.mem_of_getElem? hTi)
    dsimp only at hkin
    have hti := take_filter hnd' hTi (fun k => !I.any (· == k))
    have hkf : KeysIn ((T'.take i).filter (fun p => !I.any (· == p.1))) := fun p hp => hkT' p (List.mem_of_mem_take (List.mem_filter.mp hp).1)
    have y1 : @Ne Nat I2 dt := fun e => hoff2 _ (.head _) e.symm
    have F₃ := frL [(Str.ofString "tops", _), (Str.ofString "where", _)] (by
      intro p hp
      simp only [List.mem_cons, List.not_mem_nil, or_false] at hp
      rcases hp with rfl | rfl
      · exact (hm2 (Str.ofString "tops") (by decide)).trans q7
      · exact (hm2 (Str.ofString "where") (by decide)).trans q2) F₂
    have hq27 : Box (m₁ (Str.ofString "tops") = some (.ref dt) ∧ m₁ (Str.ofString "where") = some (.ref d2)) := ⟨q7, q2⟩
    replace hm2 := Box.mk hm2
    replace hti := Box.mk hti
    clear F₂ F5 N4 q1 q2 q3 q4 q5 q6 q7 hst ds1 ds2
    dsimp only
    show wpAny _ _ _ _ _ _
    k_fold
    repeat' (first | (k_unfold; (try dsimp only)) | ((fail_if_success (with_reducible show (ite _ _ _))); first | walk1 | (dsimp only; walk1) | (leave1; try dsimp only)))
    by_cases hin : (!I.any (· == k)) = true
    · rw [if_pos hin]
      repeat' (first | (k_unfold; (try dsimp only)) | ((fail_if_success (with_reducible show (ite _ _ _))); first | walk1 | (dsimp only; walk1) | (leave1; try dsimp only)))
      rename_i o9 F9 N9 hd9
      refine ⟨_, _, _, _, (dt, o9) :: rst, rfl, F9, N9, .head _, fun p hp => .tail _ hp, ?_, o9, rfl, (by rw [hti.out, if_pos hin]; exact hd9), fun x hx => ?_⟩
      · intro p hp
        rcases List.mem_cons.mp hp with rfl | hp
        · exact fun e => y1 e.symm
        · exact hoff2 p (.tail _ hp)
      · simp only [lawKeep2, lawKeep, List.cons_append, List.nil_append, List.mem_cons, List.not_mem_nil, or_false] at hx
        rcases hx with rfl | rfl | rfl | rfl | rfl | rfl | rfl | rfl | rfl | rfl | rfl | rfl
        · exact hm2.out (Str.ofString "entries") (by decide)
        · exact hm2.out (Str.ofString "octets") (by decide)
        · exact hm2.out (Str.ofString "cut") (by decide)
        · exact hm2.out (Str.ofString "strict") (by decide)
        · exact hm2.out (Str.ofString "table") (by decide)
        · exact hm2.out (Str.ofString "places") (by decide)
        · exact hm2.out (Str.ofString "end") (by decide)
        · exact hm2.out (Str.ofString "found") (by decide)
        · exact hq27.out.2.symm
        · exact hm2.out (Str.ofString "outcome") (by decide)
        · exact hm2.out (Str.ofString "right") (by decide)
        · exact hq27.out.1.symm
    · rw [if_neg hin]
      repeat' (first | (k_unfold; (try dsimp only)) | ((fail_if_success (with_reducible show (ite _ _ _))); first | walk1 | (dsimp only; walk1) | (leave1; try dsimp only)))
      (with_reducible rename Fr _ _ _ _ => F9); (with_reducible rename News _ _ _ _ => N9)
      refine ⟨_, _, _, _, (dt, ot2) :: rst, rfl, F9, N9, .head _, fun p hp => .tail _ hp, ?_, ot2, rfl, (by rw [hti.out, if_neg hin]; exact hT2), fun x hx => ?_⟩
      · intro p hp
        rcases List.mem_cons.mp hp with rfl | hp
        · exact fun e => y1 e.symm
        · exact hoff2 p (.tail _ hp)
      · simp only [lawKeep2, lawKeep, List.cons_append, List.nil_append, List.mem_cons, List.not_mem_nil, or_false] at hx
        rcases hx with rfl | rfl | rfl | rfl | rfl | rfl | rfl | rfl | rfl | rfl | rfl | rfl
        · exact hm2.out (Str.ofString "entries") (by decide)
        · exact hm2.out (Str.ofString "octets") (by decide)
        · exact hm2.out (Str.ofString "cut") (by decide)
        · exact hm2.out (Str.ofString "strict") (by decide)
        · exact hm2.out (Str.ofString "table") (by decide)
        · exact hm2.out (Str.ofString "places") (by decide)
        · exact hm2.out (Str.ofString "end") (by decide)
        · exact hm2.out (Str.ofString "found") (by decide)
        · exact hq27.out.2.symm
        · exact hm2.out (Str.ofString "outcome") (by decide)
        · exact hm2.out (Str.ofString "right") (by decide)
        · exact hq27.out.1.symm
  case done =>
    rintro m₂ nx h tk ⟨ot2, rfl, hT2, hm2⟩ F₂ N₂
    have hT3 : LD w ot2 T := by
      rw [hkl, List.take_length, hf] at hT2
      exact hT2
    have F₃ := frL [(Str.ofString "right", _), (Str.ofString "outcome", _), (Str.ofString "found", _), (Str.ofString "table", _), (Str.ofString "tops", _), (Str.ofString "places", _), (Str.ofString "where", _)] (by
      intro p hp
      simp only [List.mem_cons, List.not_mem_nil, or_false] at hp
      rcases hp with rfl | rfl | rfl | rfl | rfl | rfl | rfl
      · exact (hm2 (Str.ofString "right") (by decide)).trans q4
      · exact (hm2 (Str.ofString "outcome") (by decide)).trans q3
      · exact (hm2 (Str.ofString "found") (by decide)).trans q1
      · exact (hm2 (Str.ofString "table") (by decide)).trans q5
      · exact (hm2 (Str.ofString "tops") (by decide)).trans q7
      · exact (hm2 (Str.ofString "places") (by decide)).trans q6
      · exact (hm2 (Str.ofString "where") (by decide)).trans q2) F₂
    have hq : Box (m₁ (Str.ofString "table") = some (.ref dT) ∧ m₁ (Str.ofString "places") = some (.ref dP)) := ⟨q5, q6⟩
    obtain ⟨s1, s2⟩ := ds1
    obtain ⟨s3, s4⟩ := ds2
    subst hrst
    replace hm2 := Box.mk hm2
    replace q8 := Box.mk q8
    clear F₂ F5 N4 q1 q2 q3 q4 q5 q6 q7 hst hT2
    dsimp only
    show wpAny _ _ _ _ _ _
    try k_fold
    repeat' (first | (k_unfold; (try dsimp only)) | ((fail_if_success (with_reducible show (ite _ _ _))); first | walk1 | (dsimp only; walk1) | (leave1; try dsimp only)))
    iterate 8 (first | (rw [if_pos (by first | rfl | decide +kernel)]; repeat' (first | (k_unfold; (try dsimp only)) | ((fail_if_success (with_reducible show (ite _ _ _))); (fail_if_success (with_reducible show wpAny _ _ (call (Value.type _) [Value.ref _]) _ _ _)); (fail_if_success (with_reducible show wpAny _ _ (call (Value.builtin "sorted") [Value.ref _]) _ _ _)); (fail_if_success (with_reducible show wpAny _ _ (eval (Expr.ListComp _ _ _ _) _) _ _ _)); (fail_if_success (with_reducible show wpAny _ _ (binaryOp _ (Value.ref _) (Value.ref _)) _ _ _)); first | walk1 | (dsimp only; walk1) | (leave1; try dsimp only)))) | skip)
    have hkz := keys_len hrel hkT' hnd
    (with_reducible rename Fr _ _ _ _ => F6); (with_reducible rename News _ _ _ _ => N6)
    refine sorted_dict rfl F6 N6 (by k_mem) hkv l2 (by omega) (fun B1 c1 h7 tk7 vs1 ss1 hS1 hP1 hO1 F7 N7 lt7 => ?_)
    clear F6 N6
    repeat' (first | (k_unfold; (try dsimp only)) | ((fail_if_success (with_reducible show (ite _ _ _))); (fail_if_success (with_reducible show wpAny _ _ (call (Value.type _) [Value.ref _]) _ _ _)); (fail_if_success (with_reducible show wpAny _ _ (call (Value.builtin "sorted") [Value.ref _]) _ _ _)); (fail_if_success (with_reducible show wpAny _ _ (eval (Expr.ListComp _ _ _ _) _) _ _ _)); (fail_if_success (with_reducible show wpAny _ _ (binaryOp _ (Value.ref _) (Value.ref _)) _ _ _)); first | walk1 | (dsimp only; walk1) | (leave1; try dsimp only)))
    obtain ⟨kvP, hkvP, hrelP⟩ := id s4
    obtain ⟨_, _, _, _, _, _, hndP⟩ := id hkvP
    have hkzP := keys_len hrelP hkT hndP
    refine list_keys rfl F7 N7 (by k_mem) hkvP lP (by omega) (fun B2 c2 h8 tk8 vs2 hS2 F8 N8 lt8 => ?_)
    clear F7 N7
    repeat' (first | (k_unfold; (try dsimp only)) | ((fail_if_success (with_reducible show (ite _ _ _))); (fail_if_success (with_reducible show wpAny _ _ (call (Value.type _) [Value.ref _]) _ _ _)); (fail_if_success (with_reducible show wpAny _ _ (call (Value.builtin "sorted") [Value.ref _]) _ _ _)); (fail_if_success (with_reducible show wpAny _ _ (eval (Expr.ListComp _ _ _ _) _) _ _ _)); (fail_if_success (with_reducible show wpAny _ _ (binaryOp _ (Value.ref _) (Value.ref _)) _ _ _)); first | walk1 | (dsimp only; walk1) | (leave1; try dsimp only)))
    refine comp_vals (knd := PySem.intKind _ _) F8 (by with_unfolding_all rfl) (by decide) (by rfl) (by decide) (by rfl) ?_
    repeat' (first | (k_unfold; (try dsimp only)) | ((fail_if_success (with_reducible show (ite _ _ _))); (fail_if_success (with_reducible show wpAny _ _ (call (Value.type _) [Value.ref _]) _ _ _)); (fail_if_success (with_reducible show wpAny _ _ (call (Value.builtin "sorted") [Value.ref _]) _ _ _)); (fail_if_success (with_reducible show wpAny _ _ (eval (Expr.ListComp _ _ _ _) _) _ _ _)); (fail_if_success (with_reducible show wpAny _ _ (binaryOp _ (Value.ref _) (Value.ref _)) _ _ _)); first | walk1 | (dsimp only; walk1) | (leave1; try dsimp only)))
    rename_i dN oN kvN _ _ _ _ loN hdN hfN lN DV _ F9 N9 lV
    have hlN : kvN.length = 12 := hfN.length.symm.trans rfl
    generalize hnw : (DV, viewO dN) :: (dN, oN) :: (B2, W.listOf vs2.toArray c2) :: (B1, W.listOf vs1.toArray c1) :: (dt, ot2) :: (L + 1, cI) :: (lI, listOf ws.toArray nI) :: (dP, oP) :: (dT, oT) :: (d1, o1) :: (d2, o2) :: news = nwS at N9
    have mV : (DV, viewO dN) ∈ nwS := by rw [← hnw]; exact .head _
    have mN : (dN, oN) ∈ nwS := by rw [← hnw]; exact .tail _ (.head _)
    have mc : (L + 1, cI) ∈ nwS := by rw [← hnw]; exact .tail _ (.tail _ (.tail _ (.tail _ (.tail _ (.head _)))))
    have ml : (lI, listOf ws.toArray nI) ∈ nwS := by rw [← hnw]; exact .tail _ (.tail _ (.tail _ (.tail _ (.tail _ (.tail _ (.head _))))))
    have mB2 : (B2, W.listOf vs2.toArray c2) ∈ nwS := by rw [← hnw]; exact .tail _ (.tail _ (.head _))
    have mB1 : (B1, W.listOf vs1.toArray c1) ∈ nwS := by rw [← hnw]; exact .tail _ (.tail _ (.tail _ (.head _)))
    replace hnw := Box.mk hnw
    clear F8 N8
    refine ⟨DV, dN, oN, kvN, nwS, rfl, rfl, F9, N9, mV, mN, hdN, by omega, ?_⟩
    rintro _ ⟨hp, rfl⟩
    refine compRestT_ind (fun i ys nw => nw = nwS ∧ StrsAre ys ((namesL.take i).filter (fun x => I.any (· == x)))) ⟨rfl, .nil⟩ ?_ ?_
    · rintro i v I5 oI5 C5 oC5 D5 m5 ys nw h5 tk5 E5 hi5 ⟨k5, hk5⟩ ⟨rfl, hS5⟩ hC5 hx5 F10 N10 off5 ne5
      obtain ⟨x5, t5, hx6, rfl⟩ := names_at hfN hk5
      replace hS5 := Box.mk hS5
      replace hx6 := Box.mk hx6
      clear F9 N9
      dsimp only
      show wpAny _ _ _ _ _ _
      try k_fold
      repeat' (first | (k_unfold; (try dsimp only)) | ((fail_if_success (with_reducible show (ite _ _ _))); (fail_if_success (with_reducible show wpAny _ _ (call (Value.type _) [Value.ref _]) _ _ _)); (fail_if_success (with_reducible show wpAny _ _ (call (Value.builtin "sorted") [Value.ref _]) _ _ _)); (fail_if_success (with_reducible show wpAny _ _ (eval (Expr.ListComp _ _ _ _) _) _ _ _)); (fail_if_success (with_reducible show wpAny _ _ (binaryOp _ (Value.ref _) (Value.ref _)) _ _ _)); first | walk1 | (dsimp only; walk1) | (leave1; try dsimp only)))
      by_cases hin5 : (I.any (· == x5)) = true
      · rw [if_pos hin5]
        repeat' (first | (k_unfold; (try dsimp only)) | ((fail_if_success (with_reducible show (ite _ _ _))); (fail_if_success (with_reducible show wpAny _ _ (call (Value.type _) [Value.ref _]) _ _ _)); (fail_if_success (with_reducible show wpAny _ _ (call (Value.builtin "sorted") [Value.ref _]) _ _ _)); (fail_if_success (with_reducible show wpAny _ _ (eval (Expr.ListComp _ _ _ _) _) _ _ _)); (fail_if_success (with_reducible show wpAny _ _ (binaryOp _ (Value.ref _) (Value.ref _)) _ _ _)); first | walk1 | (dsimp only; walk1) | (leave1; try dsimp only)))
        try k_unfold
        (with_reducible rename Fr _ _ _ _ => F11); (with_reducible rename News _ _ _ _ => N11)
        refine LCg.CompEnd.intro F11 N11 _ (fun p hp => hp) off5 ⟨mV, mN⟩ ⟨rfl, ?_⟩
        rw [List.take_add_one, hx6.out, List.filter_append]
        show StrsAre _ (_ ++ List.filter _ [x5])
        rw [show List.filter (fun x => I.any (· == x)) [x5] = [x5] from List.filter_cons_of_pos (p := fun x => I.any (· == x)) hin5]
        exact hS5.out.append' (.cons _ _ .nil)
      · rw [if_neg hin5]
        try dsimp only
        (with_reducible rename Fr _ _ _ _ => F11); (with_reducible rename News _ _ _ _ => N11)
        refine LCg.CompEnd.intro F11 N11 _ (fun p hp => hp) off5 ⟨mV, mN⟩ ⟨rfl, ?_⟩
        rw [List.take_add_one, hx6.out, List.filter_append]
        show StrsAre _ (_ ++ List.filter _ [x5])
        rw [show List.filter (fun x => I.any (· == x)) [x5] = [] from List.filter_cons_of_neg (p := fun x => I.any (· == x)) hin5]
        rw [List.append_nil]
        exact hS5.out
    · rintro ys nw ⟨rfl, hS5⟩
      rw [hlN, List.take_of_length_le (by decide)] at hS5
      unfold LCg.FinE
      intro D5 h5 tk5 F10 N10 o5
      have hS5l := hS5.length
      have hfl : (namesL.filter (fun x => I.any (· == x))).length ≤ 12 := List.length_filter_le _ _
      have hS2l := hS2.length
      rw [List.length_map] at hS2l
      clear F9 N9
      refine add_arrays F10 N10 (News.isList N10 (.tail _ mB2)) (News.isList N10 (.head _)) (fun h6 F11 N11 => ?_) (by rw [List.size_toArray, List.size_toArray, sizeLine_eq]; omega)
      clear F10 N10
      repeat' (first | (k_unfold; (try dsimp only)) | ((fail_if_success (with_reducible show (ite _ _ _))); (fail_if_success (with_reducible show wpAny _ _ (call (Value.type _) [Value.ref _]) _ _ _)); (fail_if_success (with_reducible show wpAny _ _ (call (Value.builtin "sorted") [Value.ref _]) _ _ _)); (fail_if_success (with_reducible show wpAny _ _ (eval (Expr.ListComp _ _ _ _) _) _ _ _)); (fail_if_success (with_reducible show wpAny _ _ (binaryOp _ (Value.ref _) (Value.ref _)) _ _ _)); first | walk1 | (dsimp only; walk1) | (leave1; try dsimp only)))
      by_cases h26 : (I.any (· == Str.ofString "x26")) = true
      · rw [if_pos h26]
        repeat' (first | (k_unfold; (try dsimp only)) | ((fail_if_success (with_reducible show (ite _ _ _))); (fail_if_success (with_reducible show wpAny _ _ (call (Value.type _) [Value.ref _]) _ _ _)); (fail_if_success (with_reducible show wpAny _ _ (call (Value.builtin "sorted") [Value.ref _]) _ _ _)); (fail_if_success (with_reducible show wpAny _ _ (eval (Expr.ListComp _ _ _ _) _) _ _ _)); (fail_if_success (with_reducible show wpAny _ _ (binaryOp _ (Value.ref _) (Value.ref _)) _ _ _)); first | walk1 | (dsimp only; walk1) | (leave1; try dsimp only)))
        (with_reducible rename Fr _ _ _ _ => F12); (with_reducible rename News _ _ _ _ => N12)
        refine add_arrays F12 N12 (News.isList N12 (.tail _ (.head _))) (News.isList N12 (.head _)) (fun h13 F13 N13 => ?_) (by simp only [List.size_toArray, List.length_append, List.length_cons, List.length_nil, sizeLine_eq, Array.size_append, List.length_map]; omega)
        clear F12 N12
        repeat' (first | (k_unfold; (try dsimp only)) | ((fail_if_success (with_reducible show (ite _ _ _))); (fail_if_success (with_reducible show wpAny _ _ (call (Value.type _) [Value.ref _]) _ _ _)); (fail_if_success (with_reducible show wpAny _ _ (call (Value.builtin "sorted") [Value.ref _]) _ _ _)); (fail_if_success (with_reducible show wpAny _ _ (eval (Expr.ListComp _ _ _ _) _) _ _ _)); (fail_if_success (with_reducible show wpAny _ _ (binaryOp _ (Value.ref _) (Value.ref _)) _ _ _)); first | walk1 | (dsimp only; walk1) | (leave1; try dsimp only)))
        refine sorted_N_str F13 N13 (News.isList N13 (.head _)) (ss := kvP.map (·.1) ++ namesL.filter (fun x => I.any (· == x)) ++ [Str.ofString "x26"]) ?_ (by simp only [List.size_toArray, List.length_append, List.length_cons, List.length_nil]; omega) (fun h14 vs4 ss4 e4 F14 N14 hS4 hP4 hO4 => ?_)
        · exact StrsAre.append' (hS2.append' hS5) (.cons _ _ .nil)
        have hE : ss4 = ss1 := by
          refine sorted_uniq hO4 hO1 (hP4.trans (List.Perm.trans ?_ hP1.symm))
          rw [hrel.keys, hrelP.keys]
          rw [if_pos h26] at hperm
          exact hperm.symm
        rw [hE] at hS4
        clear F13 N13
        repeat' (first | (k_unfold; (try dsimp only)) | ((fail_if_success (with_reducible show (ite _ _ _))); (fail_if_success (with_reducible show wpAny _ _ (call (Value.type _) [Value.ref _]) _ _ _)); (fail_if_success (with_reducible show wpAny _ _ (call (Value.builtin "sorted") [Value.ref _]) _ _ _)); (fail_if_success (with_reducible show wpAny _ _ (eval (Expr.ListComp _ _ _ _) _) _ _ _)); (fail_if_success (with_reducible show wpAny _ _ (binaryOp _ (Value.ref _) (Value.ref _)) _ _ _)); first | walk1 | (dsimp only; walk1) | (leave1; try dsimp only)))
        (with_reducible rename Fr _ _ _ _ => F15); (with_reducible rename News _ _ _ _ => N15)
        refine hnext.out _ _ _ _ F15 N15 (fun q hq => ?_) rfl (fun x hx => ?_)
        · refine .tail _ (.tail _ (.tail _ (.tail _ (.tail _ ?_))))
          rw [← hnw.out]
          simp only [List.mem_cons] at hq
          refine .tail _ (.tail _ (.tail _ (.tail _ (.tail _ ?_))))
          rcases hq with rfl | rfl | rfl | rfl | hq
          · exact .head _
          · exact .tail _ (.head _)
          · exact .tail _ (.tail _ (.head _))
          · exact .tail _ (.tail _ (.tail _ (.head _)))
          · exact .tail _ (.tail _ (.tail _ (.tail _ (.tail _ (.tail _ hq)))))
        · simp only [lawKeep, List.mem_cons, List.not_mem_nil, or_false] at hx
          rcases hx with rfl | rfl | rfl | rfl | rfl | rfl | rfl
          · exact (hm2.out (Str.ofString "entries") (by decide)).trans (q8.out _ (by decide))
          · exact (hm2.out (Str.ofString "octets") (by decide)).trans (q8.out _ (by decide))
          · exact (hm2.out (Str.ofString "cut") (by decide)).trans (q8.out _ (by decide))
          · exact (hm2.out (Str.ofString "strict") (by decide)).trans (q8.out _ (by decide))
          · exact hbx.out.1.symm
          · exact hbx.out.2.symm
          · exact (hm2.out (Str.ofString "end") (by decide)).trans (q8.out _ (by decide))
      · rw [if_neg h26]
        repeat' (first | (k_unfold; (try dsimp only)) | ((fail_if_success (with_reducible show (ite _ _ _))); (fail_if_success (with_reducible show wpAny _ _ (call (Value.type _) [Value.ref _]) _ _ _)); (fail_if_success (with_reducible show wpAny _ _ (call (Value.builtin "sorted") [Value.ref _]) _ _ _)); (fail_if_success (with_reducible show wpAny _ _ (eval (Expr.ListComp _ _ _ _) _) _ _ _)); (fail_if_success (with_reducible show wpAny _ _ (binaryOp _ (Value.ref _) (Value.ref _)) _ _ _)); first | walk1 | (dsimp only; walk1) | (leave1; try dsimp only)))
        (with_reducible rename Fr _ _ _ _ => F12); (with_reducible rename News _ _ _ _ => N12)
        refine add_arrays F12 N12 (News.isList N12 (.tail _ (.head _))) (News.isList N12 (.head _)) (fun h13 F13 N13 => ?_) (by simp only [List.size_toArray, List.length_append, List.length_cons, List.length_nil, sizeLine_eq, Array.size_append, List.length_map]; omega)
        clear F12 N12
        repeat' (first | (k_unfold; (try dsimp only)) | ((fail_if_success (with_reducible show (ite _ _ _))); (fail_if_success (with_reducible show wpAny _ _ (call (Value.type _) [Value.ref _]) _ _ _)); (fail_if_success (with_reducible show wpAny _ _ (call (Value.builtin "sorted") [Value.ref _]) _ _ _)); (fail_if_success (with_reducible show wpAny _ _ (eval (Expr.ListComp _ _ _ _) _) _ _ _)); (fail_if_success (with_reducible show wpAny _ _ (binaryOp _ (Value.ref _) (Value.ref _)) _ _ _)); first | walk1 | (dsimp only; walk1) | (leave1; try dsimp only)))
        refine sorted_N_str F13 N13 (News.isList N13 (.head _)) (ss := kvP.map (·.1) ++ namesL.filter (fun x => I.any (· == x)) ++ []) ?_ (by simp only [List.size_toArray, List.length_append, List.length_cons, List.length_nil]; omega) (fun h14 vs4 ss4 e4 F14 N14 hS4 hP4 hO4 => ?_)
        · exact StrsAre.append' (hS2.append' hS5) .nil
        have hE : ss4 = ss1 := by
          refine sorted_uniq hO4 hO1 (hP4.trans (List.Perm.trans ?_ hP1.symm))
          rw [hrel.keys, hrelP.keys]
          rw [if_neg h26] at hperm
          exact hperm.symm
        rw [hE] at hS4
        clear F13 N13
        repeat' (first | (k_unfold; (try dsimp only)) | ((fail_if_success (with_reducible show (ite _ _ _))); (fail_if_success (with_reducible show wpAny _ _ (call (Value.type _) [Value.ref _]) _ _ _)); (fail_if_success (with_reducible show wpAny _ _ (call (Value.builtin "sorted") [Value.ref _]) _ _ _)); (fail_if_success (with_reducible show wpAny _ _ (eval (Expr.ListComp _ _ _ _) _) _ _ _)); (fail_if_success (with_reducible show wpAny _ _ (binaryOp _ (Value.ref _) (Value.ref _)) _ _ _)); first | walk1 | (dsimp only; walk1) | (leave1; try dsimp only)))
        (with_reducible rename Fr _ _ _ _ => F15); (with_reducible rename News _ _ _ _ => N15)
        refine hnext.out _ _ _ _ F15 N15 (fun q hq => ?_) rfl (fun x hx => ?_)
        · refine .tail _ (.tail _ (.tail _ (.tail _ (.tail _ ?_))))
          rw [← hnw.out]
          simp only [List.mem_cons] at hq
          refine .tail _ (.tail _ (.tail _ (.tail _ (.tail _ ?_))))
          rcases hq with rfl | rfl | rfl | rfl | hq
          · exact .head _
          · exact .tail _ (.head _)
          · exact .tail _ (.tail _ (.head _))
          · exact .tail _ (.tail _ (.tail _ (.head _)))
          · exact .tail _ (.tail _ (.tail _ (.tail _ (.tail _ (.tail _ hq)))))
        · simp only [lawKeep, List.mem_cons, List.not_mem_nil, or_false] at hx
          rcases hx with rfl | rfl | rfl | rfl | rfl | rfl | rfl
          · exact (hm2.out (Str.ofString "entries") (by decide)).trans (q8.out _ (by decide))
          · exact (hm2.out (Str.ofString "octets") (by decide)).trans (q8.out _ (by decide))
          · exact (hm2.out (Str.ofString "cut") (by decide)).trans (q8.out _ (by decide))
          · exact (hm2.out (Str.ofString "strict") (by decide)).trans (q8.out _ (by decide))
          · exact hbx.out.1.symm
          · exact hbx.out.2.symm
          · exact (hm2.out (Str.ofString "end") (by decide)).trans (q8.out _ (by decide))
end
end Mine
end

section
theorem Mine.rst_T2 {prog : PySem.Program} {w : PySem.World} {A : PySem.Around} {Q : PySem.Flow → PySem.Shared → Prop} {E : PySem.Value → PySem.Shared → Prop} {s : PySem.Shared} {env : PySem.Env} {pos : PySem.Pos} : True ∨ PySem.wpAny (PySem.model prog w) A (PySem.exec (PySem.Stmt.Pass pos) env) Q E s := by
  w_on
  w_top off
  first | (right; walk1; fail) | exact .inl trivial
open PySem PySem.W PySem.Calls PyProof.Rows PyProof.V
set_option Elab.async false
namespace Mine
local macro_rules | `(tactic| k_room) => `(tactic| ktr_room)
local macro_rules | `(tactic| k_units) => `(tactic| ktr_units)
local macro_rules | `(tactic| k_enter) => `(tactic| first
  | (refine' code_def ?k1 ?k2 ?k3 ?k4 ?k5 ?kA ?kF ?kK ?k6 ?k7 ?k8 ?k9 ?kB ?_ ?c2 ?c3 ?c4 ?c5; (case kA => exact rfl); (case kF => exact rfl); (case kK => first | exact rfl | assumption); (case k1 => k_asm); (case k2 => k_asm); (case k3 => k_asm); (case k4 => k_asm); (case k5 => k_asm); (case k6 => k_is); (case k7 => k_is); (case k8 => k_room); (case k9 => first | exact BindsTo.of_eq rfl | exact binds_K (by k_in) rfl (by k_is) rfl rfl rfl | fail "k_enter: no rule for these arguments"); (case c5 => decide); (case kB => exact locs rfl); (case c2 => exact rfl); (case c3 => exact rfl); (case c4 => exact rfl); k_whole; intro g' L' h' FG' F' N' B' X' T'; (try dsimp only); (try k_lift B'); (try k_fold))
  | (refine' code_defC ?k1 ?k2 ?k3 ?k4 ?k5 ?kA ?kF ?kK ?k6 ?k7 ?k8 ?k9 ?kB ?kD ?_ ?c2 ?c3 ?c4; (case kA => exact rfl); (case kF => exact rfl); (case kK => first | exact rfl | assumption); (case k1 => k_asm); (case k2 => k_asm); (case k3 => k_asm); (case k4 => k_asm); (case k5 => k_asm); (case k6 => k_is); (case k7 => k_is); (case k8 => k_room); (case k9 => first | exact BindsTo.of_eq rfl | exact binds_K (by k_in) rfl (by k_is) rfl rfl rfl | fail "k_enter: no rule for these arguments"); (case kB => exact rfl); (case kD => decide +kernel); (case c2 => exact rfl); (case c3 => exact rfl); (case c4 => exact rfl); k_whole; intro g' L' h' tk' cells' FG' F' N' Y' B' X' T' l1; (try k_lt l1); k_cells Y'; (try simp only [List.cons_append, List.nil_append] at N'); (try dsimp only); (try k_lift B'); (try k_fold)))
local macro_rules | `(tactic| walk_at "exec For Name Subscript cons nil") => `(tactic| (k_here; (rename Fr _ _ _ _ => lF'); (with_unfolding_all refine' For_hold lF' ?_; k_whole)))
local macro_rules | `(tactic| walk_at "exec For Name Call cons nil") => `(tactic| (k_here; (rename Fr _ _ _ _ => lF'); (with_unfolding_all refine' For_hold lF' ?_; k_whole)))
local macro_rules | `(tactic| walk_at "exec For Name Tuple cons nil") => `(tactic| (k_here; (rename Fr _ _ _ _ => lF'); (with_unfolding_all refine' For_hold lF' ?_; k_whole)))
local macro_rules | `(tactic| walk_at "exec For Name Name cons nil") => `(tactic| (k_here; (rename Fr _ _ _ _ => lF'); (with_unfolding_all refine' For_hold lF' ?_; k_whole)))
local macro_rules | `(tactic| walk_at "exec For Tuple Name cons nil") => `(tactic| (k_here; (rename Fr _ _ _ _ => lF'); (with_unfolding_all refine' For_hold lF' ?_; k_whole)))
local macro_rules | `(tactic| k_all) => `(tactic| first | with_reducible assumption | exact ne_ge (by with_reducible assumption) (by omega) | exact List.forall_mem_nil _ | (refine' List.forall_mem_cons.mpr ⟨?a, ?b⟩; (case a => k_ne); (case b => k_all)))
local macro_rules | `(tactic| walk_at "call builtin:list.append") => `(tactic| (k_here; (with_reducible show wpAny _ _ (call (Value.builtin _) [Value.ref _, _]) _ _ _); k_dflt (refine' append_K ?k1 ?k2 ?k3 ?_ ?z; (case k1 => k_asm); (case k2 => k_asm); (case k3 => k_upd); (case z => (rw [List.size_toArray, sizeLine_eq]; omega)); k_whole); intro h' F' N'; (try k_sweep)))
local macro_rules | `(tactic| k_mem) => `(tactic| first | with_reducible assumption | ((refine mem_of ?_); with_reducible assumption) | exact List.Mem.head _ | (refine' List.Mem.tail _ ?_; k_mem))
theorem un_fr {g g' : Heap} {L : Addr} {h : Heap} {m : Str → Option Value} (T : KtsTurn [] g g') (F : Fr g' L h m) : Fr g L h m := ⟨F.ns, fun b o e => F.keep b o (T.other b o e (fun q => nomatch q)), by rw [← T.size]; exact F.above⟩
theorem un_news {g g' : Heap} {L : Addr} {h : Heap} {news : List (Addr × Obj)} (T : KtsTurn [] g g') (N : News g' L h news) : News g L h news := fun q hq => ⟨(N q hq).1, (N q hq).2.1, by
  cases e : g.get? q.1 with
  | none => rfl
  | some o =>
    have := T.other _ o e (fun q => nomatch q)
    rw [(N q hq).2.2] at this; cases this⟩
theorem news_K {g : Heap} {L : Addr} {h : Heap} {x0 a b c1 c2 c3 c4 : Addr × Obj} {tb r : List (Addr × Obj)} (N : News g L h (x0 :: a :: b :: (tb ++ c1 :: c2 :: c3 :: c4 :: r))) : News g L h (c1 :: c2 :: c3 :: c4 :: a :: b :: (tb ++ r)) := fun q hq => N q (by
  simp only [List.mem_cons, List.mem_append] at hq ⊢
  rcases hq with h | h | h | h | h | h | h | h <;> simp only [h, true_or, or_true])
structure Plain (st pt : Bool) (o : Out) (R : RS) (T : LS) (I : List Str) (KS : List Int) : Prop where
  nc : (pars st pt 2 KS 0 [] []).1 ≠ .crash
  err : (o = .unk ∨ (o = .bad ∧ pt = false)) → (readOut st pt KS).1 = outS o
  ok : ¬ (o = .unk ∨ (o = .bad ∧ pt = false)) → (readOut st pt KS).1 = Str.ofString "sound" ∧ (readOut st pt KS).2.1 = R ∧ KeysIn (readOut st pt KS).2.2 ∧
    ((readOut st pt KS).2.2.map (·.1)).Perm (T.map (·.1) ++ namesL.filter (fun x => I.any (· == x)) ++ (if I.any (· == Str.ofString "x26") then [Str.ofString "x26"] else [])) ∧
    (readOut st pt KS).2.2.filter (fun p => !I.any (· == p.1)) = T
section
variable {w : World} {p : Program} {loose : List Str} {mean : ExcName → Option Value} {mg mb : Str → Option Value} {dp un : Nat} {gd : Option (List Code)} {A₀ : Around} {E : Value → Shared → Prop} {s : Shared} {g : Heap} {L fa : Addr} {cd : Value} {m : Str → Option Value} {Q : Flow → Shared → Prop}
  {lI dP dT : Addr} {cI oP oT : Obj} {ws : List Value} {nI : Nat} {news tb : List (Addr × Obj)} {I : List Str} {R : RS} {T : LS} {ob : Array UInt8} {to te : Tok} {st pt : Bool} {o : Out}
set_option maxRecDepth 100000 in
set_option maxHeartbeats 1000000 in
theorem law_turn (B : Below A₀ g [] g) (X : (Mine.hd.heap_39 w.params).In g) (Tp : Top p loose mean mg mb g) (hC : CodeHd g 76 72)
    (F0 : Fr g L s.heap m) (h1 : m (Str.ofString "octets") = some (.bytes ob to)) (h2 : m (Str.ofString "strict") = some (.bool st)) (h3 : m (Str.ofString "partial") = some (.bool pt)) (h4 : m (Str.ofString "right") = some (.bool true)) (h5 : m (Str.ofString "table") = some (.ref dT)) (h6 : m (Str.ofString "places") = some (.ref dP)) (h7 : m (Str.ofString "end") = some (.str (outS o) te))
    (hcI : cI.data = .cell (some (.ref lI))) (N : News g L s.heap (tb ++ ((L + 1, cI) :: (lI, listOf ws.toArray nI) :: (dP, oP) :: (dT, oT) :: news))) (htb : TabSt 24 8 parsQ tb) (h72 : ∀ p ∈ (L + 1, cI) :: (lI, listOf ws.toArray nI) :: (dP, oP) :: (dT, oT) :: news, p.1 ≠ 72)
    (ds2 : DS w oT oP R T) (hI : StrsAre ws I) (hIl : I.length ≤ 40) (hkT : KeysIn T) (hlen : (KBw.bInts ob).length ≤ 1000000) (hpl : Plain st pt o R T I (KBw.bInts ob)) (hoc : o ≠ .crash)
    (lT : (dT == sysModules) = false) (lP : (dP == sysModules) = false)
    (hdp : dp + 100 < recursionLimit) (hun : un + 500 < cLine) (hPE : PassesOwn (model PySem.Challenge.rw_fc0001_01.row.prog w) (ktrTop dp un gd (Str.ofString "law") (lawScope w.params) L fa cd (cellsFrom (L+1) (lawScope w.params).names []) []) (envX (Str.ofString "law") (lawScope w.params) L fa cd (cellsFrom (L+1) (lawScope w.params).names [])) E)
    (hnext : ∀ h' tk' m' tb' news', Fr g L h' m' → News g L h' news' → TabSt 24 8 parsQ tb' → TabUp tb ((L + 1, cI) :: (lI, listOf ws.toArray nI) :: (dP, oP) :: (dT, oT) :: news) tb' → (∀ q ∈ tb' ++ ((L + 1, cI) :: (lI, listOf ws.toArray nI) :: (dP, oP) :: (dT, oT) :: news), q ∈ news') → m' (Str.ofString "right") = some (.bool true) → (∀ x ∈ lawKeep, m' x = m x) → Q .next { s with heap := h', toks := tk' }) :
    wpAny (model PySem.Challenge.rw_fc0001_01.row.prog w) (ktrTop dp un gd (Str.ofString "law") (lawScope w.params) L fa cd (cellsFrom (L+1) (lawScope w.params).names []) []) (execs (turnBody w.params) (envX (Str.ofString "law") (lawScope w.params) L fa cd (cellsFrom (L+1) (lawScope w.params).names []))) Q E s := by
  have X0 := X
  revert X
  k_fill
  intro X
  have hPE0 := Box.mk hPE
  generalize hps : lawScope w.params = scope at hPE ⊢
  have hps0 := Box.mk hps
  conv at hps => lhs; whnf
  subst hps
  generalize hrb : turnBody w.params = rb
  conv at hrb => lhs; whnf
  subst hrb
  have F := frL [(Str.ofString "octets", _), (Str.ofString "strict", _), (Str.ofString "partial", _), (Str.ofString "right", _), (Str.ofString "table", _), (Str.ofString "places", _), (Str.ofString "end", _)] (by
      intro p hp
      simp only [List.mem_cons, List.not_mem_nil, or_false] at hp
      rcases hp with rfl | rfl | rfl | rfl | rfl | rfl | rfl
      · exact h1
      · exact h2
      · exact h3
      · exact h4
      · exact h5
      · exact h6
      · exact h7) F0
  have hbx : Box (m (Str.ofString "octets") = some (.bytes ob to) ∧ m (Str.ofString "strict") = some (.bool st) ∧ m (Str.ofString "table") = some (.ref dT) ∧ m (Str.ofString "places") = some (.ref dP) ∧ m (Str.ofString "end") = some (.str (outS o) te)) := ⟨h1, h2, h5, h6, h7⟩
  clear F0 h1 h2 h3 h4 h5 h6 h7
  replace hnext := Box.mk hnext
  replace hPE := Box.mk hPE
  replace hpl := Box.mk hpl
  repeat' (first | (k_unfold; (try dsimp only)) | ((fail_if_success (with_reducible show (ite _ _ _))); (fail_if_success (with_reducible show wpAny _ _ (call (Value.ref _) [_, _, _] _) _ _ _)); first | walk1 | (dsimp only; walk1) | (leave1; try dsimp only)))
  refine c_read _ ob to pt st tb htb h72 hlen hpl.out.nc _ _ _ _ _ _ _ _ _ _ g g L _ _ _ _ B F X Tp N rfl (by omega) (by omega) hC ?_
  intro t to2 d1 d2 o1 o2 tb' h2 g2 tk2 turn F2 N2 hTb hUp B2 hds lo1 lo2
  replace F2 := un_fr turn F2
  replace N2 := un_news turn N2
  replace hds := Box.mk hds
  clear F N B2 turn
  cases o with
  | crash => exact absurd rfl hoc
  | unk =>
    have hr := hpl.out.err (.inl rfl)
    rw [hr] at N2
    repeat' (first | (k_unfold; (try dsimp only)) | ((fail_if_success (with_reducible show (ite _ _ _))); (fail_if_success (with_reducible show wpAny _ _ (execs (Stmt.Assign [Expr.Name _ _] (Expr.Dict _ _ _) _ :: _) _) _ _ _)); first | walk1 | (dsimp only; walk1) | (leave1; try dsimp only)))
    iterate 6 (first | (rw [if_pos (by first | rfl | decide +kernel)]; repeat' (first | (k_unfold; (try dsimp only)) | ((fail_if_success (with_reducible show (ite _ _ _))); (fail_if_success (with_reducible show wpAny _ _ (execs (Stmt.Assign [Expr.Name _ _] (Expr.Dict _ _ _) _ :: _) _) _ _ _)); first | walk1 | (dsimp only; walk1) | (leave1; try dsimp only)))) | (rw [if_neg (by decide +kernel)]; repeat' (first | (k_unfold; (try dsimp only)) | ((fail_if_success (with_reducible show (ite _ _ _))); (fail_if_success (with_reducible show wpAny _ _ (execs (Stmt.Assign [Expr.Name _ _] (Expr.Dict _ _ _) _ :: _) _) _ _ _)); first | walk1 | (dsimp only; walk1) | (leave1; try dsimp only)))) | skip)
    (with_reducible rename Fr _ _ _ _ => F9); (with_reducible rename News _ _ _ _ => N9)
    refine hnext.out _ _ _ tb' _ F9 N9 hTb hUp (fun q hq => .tail _ (.tail _ (.tail _ hq))) (congrArg (fun b => some (Value.bool b)) (beq_self_eq_true _)) (fun x hx => ?_)
    simp only [lawKeep, List.mem_cons, List.not_mem_nil, or_false] at hx
    rcases hx with rfl | rfl | rfl | rfl | rfl | rfl | rfl
    · rfl
    · exact hbx.out.1.symm
    · rfl
    · exact hbx.out.2.1.symm
    · exact hbx.out.2.2.1.symm
    · exact hbx.out.2.2.2.1.symm
    · exact hbx.out.2.2.2.2.symm
  | ok =>
    obtain ⟨k1, k2, k3, k4, k5⟩ := hpl.out.ok (by simp)
    rw [k1] at N2
    repeat' (first | (k_unfold; (try dsimp only)) | ((fail_if_success (with_reducible show (ite _ _ _))); (fail_if_success (with_reducible show wpAny _ _ (execs (Stmt.Assign [Expr.Name _ _] (Expr.Dict _ _ _) _ :: _) _) _ _ _)); first | walk1 | (dsimp only; walk1) | (leave1; try dsimp only)))
    iterate 6 (first | (rw [if_pos (by first | rfl | decide +kernel)]; repeat' (first | (k_unfold; (try dsimp only)) | ((fail_if_success (with_reducible show (ite _ _ _))); (fail_if_success (with_reducible show wpAny _ _ (execs (Stmt.Assign [Expr.Name _ _] (Expr.Dict _ _ _) _ :: _) _) _ _ _)); first | walk1 | (dsimp only; walk1) | (leave1; try dsimp only)))) | (rw [if_neg (by decide +kernel)]; repeat' (first | (k_unfold; (try dsimp only)) | ((fail_if_success (with_reducible show (ite _ _ _))); (fail_if_success (with_reducible show wpAny _ _ (execs (Stmt.Assign [Expr.Name _ _] (Expr.Dict _ _ _) _ :: _) _) _ _ _)); first | walk1 | (dsimp only; walk1) | (leave1; try dsimp only)))) | skip)
    (with_reducible rename Fr _ _ _ _ => F9); (with_reducible rename News _ _ _ _ => N9)
    refine law_ok (R := R) (T := T) B X0 Tp F9 rfl rfl rfl rfl rfl rfl hcI (news_K N9) (k2 ▸ hds.out) ds2 hI hIl k3 hkT k4 k5 lo1 lo2 lT lP (by omega) (by omega) hPE0.out ?_
    intro h' tk' m' news' F' N' sub hr hm
    refine wpAny_execs_nil (hnext.out h' tk' m' tb' news' F' N' hTb hUp (fun q hq => sub q ?_) hr (fun x hx => (hm x hx).trans ?_))
    · simp only [List.mem_cons, List.mem_append] at hq ⊢
      rcases hq with h | h | h | h | h | h <;> simp only [h, true_or, or_true]
    · simp only [lawKeep, List.mem_cons, List.not_mem_nil, or_false] at hx
      rcases hx with rfl | rfl | rfl | rfl | rfl | rfl | rfl
      · rfl
      · exact hbx.out.1.symm
      · rfl
      · exact hbx.out.2.1.symm
      · exact hbx.out.2.2.1.symm
      · exact hbx.out.2.2.2.1.symm
      · exact hbx.out.2.2.2.2.symm
  | bad =>
    cases pt with
    | true =>
      obtain ⟨k1, k2, k3, k4, k5⟩ := hpl.out.ok (by simp)
      rw [k1] at N2
      repeat' (first | (k_unfold; (try dsimp only)) | ((fail_if_success (with_reducible show (ite _ _ _))); (fail_if_success (with_reducible show wpAny _ _ (execs (Stmt.Assign [Expr.Name _ _] (Expr.Dict _ _ _) _ :: _) _) _ _ _)); first | walk1 | (dsimp only; walk1) | (leave1; try dsimp only)))
      iterate 6 (first | (rw [if_pos (by first | rfl | decide +kernel)]; repeat' (first | (k_unfold; (try dsimp only)) | ((fail_if_success (with_reducible show (ite _ _ _))); (fail_if_success (with_reducible show wpAny _ _ (execs (Stmt.Assign [Expr.Name _ _] (Expr.Dict _ _ _) _ :: _) _) _ _ _)); first | walk1 | (dsimp only; walk1) | (leave1; try dsimp only)))) | (rw [if_neg (by decide +kernel)]; repeat' (first | (k_unfold; (try dsimp only)) | ((fail_if_success (with_reducible show (ite _ _ _))); (fail_if_success (with_reducible show wpAny _ _ (execs (Stmt.Assign [Expr.Name _ _] (Expr.Dict _ _ _) _ :: _) _) _ _ _)); first | walk1 | (dsimp only; walk1) | (leave1; try dsimp only)))) | skip)
      (with_reducible rename Fr _ _ _ _ => F9); (with_reducible rename News _ _ _ _ => N9)
      refine law_ok (R := R) (T := T) B X0 Tp F9 rfl rfl rfl rfl rfl rfl hcI (news_K N9) (k2 ▸ hds.out) ds2 hI hIl k3 hkT k4 k5 lo1 lo2 lT lP (by omega) (by omega) hPE0.out ?_
      intro h' tk' m' news' F' N' sub hr hm
      refine wpAny_execs_nil (hnext.out h' tk' m' tb' news' F' N' hTb hUp (fun q hq => sub q ?_) hr (fun x hx => (hm x hx).trans ?_))
      · simp only [List.mem_cons, List.mem_append] at hq ⊢
        rcases hq with h | h | h | h | h | h <;> simp only [h, true_or, or_true]
      · simp only [lawKeep, List.mem_cons, List.not_mem_nil, or_false] at hx
        rcases hx with rfl | rfl | rfl | rfl | rfl | rfl | rfl
        · rfl
        · exact hbx.out.1.symm
        · rfl
        · exact hbx.out.2.1.symm
        · exact hbx.out.2.2.1.symm
        · exact hbx.out.2.2.2.1.symm
        · exact hbx.out.2.2.2.2.symm
    | false =>
      have hr := hpl.out.err (.inr ⟨rfl, rfl⟩)
      rw [hr] at N2
      repeat' (first | (k_unfold; (try dsimp only)) | ((fail_if_success (with_reducible show (ite _ _ _))); (fail_if_success (with_reducible show wpAny _ _ (execs (Stmt.Assign [Expr.Name _ _] (Expr.Dict _ _ _) _ :: _) _) _ _ _)); first | walk1 | (dsimp only; walk1) | (leave1; try dsimp only)))
      iterate 6 (first | (rw [if_pos (by first | rfl | decide +kernel)]; repeat' (first | (k_unfold; (try dsimp only)) | ((fail_if_success (with_reducible show (ite _ _ _))); (fail_if_success (with_reducible show wpAny _ _ (execs (Stmt.Assign [Expr.Name _ _] (Expr.Dict _ _ _) _ :: _) _) _ _ _)); first | walk1 | (dsimp only; walk1) | (leave1; try dsimp only)))) | (rw [if_neg (by decide +kernel)]; repeat' (first | (k_unfold; (try dsimp only)) | ((fail_if_success (with_reducible show (ite _ _ _))); (fail_if_success (with_reducible show wpAny _ _ (execs (Stmt.Assign [Expr.Name _ _] (Expr.Dict _ _ _) _ :: _) _) _ _ _)); first | walk1 | (dsimp only; walk1) | (leave1; try dsimp only)))) | skip)
      (with_reducible rename Fr _ _ _ _ => F9); (with_reducible rename News _ _ _ _ => N9)
      refine hnext.out _ _ _ tb' _ F9 N9 hTb hUp (fun q hq => .tail _ (.tail _ (.tail _ hq))) (congrArg (fun b => some (Value.bool b)) (beq_self_eq_true _)) (fun x hx => ?_)
      simp only [lawKeep, List.mem_cons, List.not_mem_nil, or_false] at hx
      rcases hx with rfl | rfl | rfl | rfl | rfl | rfl | rfl
      · rfl
      · exact hbx.out.1.symm
      · rfl
      · exact hbx.out.2.1.symm
      · exact hbx.out.2.2.1.symm
      · exact hbx.out.2.2.2.1.symm
      · exact hbx.out.2.2.2.2.symm
end
end Mine
end

section
theorem Mine.rst_T3 {prog : PySem.Program} {w : PySem.World} {A : PySem.Around} {Q : PySem.Flow → PySem.Shared → Prop} {E : PySem.Value → PySem.Shared → Prop} {s : PySem.Shared} {env : PySem.Env} {pos : PySem.Pos} : True ∨ PySem.wpAny (PySem.model prog w) A (PySem.exec (PySem.Stmt.Pass pos) env) Q E s := by
  w_on
  w_top off
  first | (right; walk1; fail) | exact .inl trivial
open PySem PySem.W PySem.Calls PyProof.Rows PyProof.V
set_option Elab.async false
namespace Mine
local macro_rules | `(tactic| k_room) => `(tactic| ktr_room)
local macro_rules | `(tactic| k_units) => `(tactic| ktr_units)
local macro_rules | `(tactic| k_enter) => `(tactic| first
  | (refine' code_def ?k1 ?k2 ?k3 ?k4 ?k5 ?kA ?kF ?kK ?k6 ?k7 ?k8 ?k9 ?kB ?_ ?c2 ?c3 ?c4 ?c5; (case kA => exact rfl); (case kF => exact rfl); (case kK => first | exact rfl | assumption); (case k1 => k_asm); (case k2 => k_asm); (case k3 => k_asm); (case k4 => k_asm); (case k5 => k_asm); (case k6 => k_is); (case k7 => k_is); (case k8 => k_room); (case k9 => first | exact BindsTo.of_eq rfl | exact binds_K (by k_in) rfl (by k_is) rfl rfl rfl | fail "k_enter: no rule for these arguments"); (case c5 => decide); (case kB => exact locs rfl); (case c2 => exact rfl); (case c3 => exact rfl); (case c4 => exact rfl); k_whole; intro g' L' h' FG' F' N' B' X' T'; (try dsimp only); (try k_lift B'); (try k_fold))
  | (refine' code_defC ?k1 ?k2 ?k3 ?k4 ?k5 ?kA ?kF ?kK ?k6 ?k7 ?k8 ?k9 ?kB ?kD ?_ ?c2 ?c3 ?c4; (case kA => exact rfl); (case kF => exact rfl); (case kK => first | exact rfl | assumption); (case k1 => k_asm); (case k2 => k_asm); (case k3 => k_asm); (case k4 => k_asm); (case k5 => k_asm); (case k6 => k_is); (case k7 => k_is); (case k8 => k_room); (case k9 => first | exact BindsTo.of_eq rfl | exact binds_K (by k_in) rfl (by k_is) rfl rfl rfl | fail "k_enter: no rule for these arguments"); (case kB => exact rfl); (case kD => decide +kernel); (case c2 => exact rfl); (case c3 => exact rfl); (case c4 => exact rfl); k_whole; intro g' L' h' tk' cells' FG' F' N' Y' B' X' T' l1; (try k_lt l1); k_cells Y'; (try simp only [List.cons_append, List.nil_append] at N'); (try dsimp only); (try k_lift B'); (try k_fold)))
local macro_rules | `(tactic| walk_at "exec For Name Subscript cons nil") => `(tactic| (k_here; (rename Fr _ _ _ _ => lF'); (with_unfolding_all refine' For_hold lF' ?_; k_whole)))
local macro_rules | `(tactic| walk_at "exec For Name Call cons nil") => `(tactic| (k_here; (rename Fr _ _ _ _ => lF'); (with_unfolding_all refine' For_hold lF' ?_; k_whole)))
local macro_rules | `(tactic| walk_at "exec For Name Tuple cons nil") => `(tactic| (k_here; (rename Fr _ _ _ _ => lF'); (with_unfolding_all refine' For_hold lF' ?_; k_whole)))
local macro_rules | `(tactic| walk_at "exec For Name Name cons nil") => `(tactic| (k_here; (rename Fr _ _ _ _ => lF'); (with_unfolding_all refine' For_hold lF' ?_; k_whole)))
local macro_rules | `(tactic| walk_at "exec For Tuple Name cons nil") => `(tactic| (k_here; (rename Fr _ _ _ _ => lF'); (with_unfolding_all refine' For_hold lF' ?_; k_whole)))
local macro_rules | `(tactic| k_all) => `(tactic| first | with_reducible assumption | exact ne_ge (by with_reducible assumption) (by omega) | exact List.forall_mem_nil _ | (refine' List.forall_mem_cons.mpr ⟨?a, ?b⟩; (case a => k_ne); (case b => k_all)))
local macro_rules | `(tactic| walk_at "call builtin:list.append") => `(tactic| (k_here; (with_reducible show wpAny _ _ (call (Value.builtin _) [Value.ref _, _]) _ _ _); k_dflt (refine' append_K ?k1 ?k2 ?k3 ?_ ?z; (case k1 => k_asm); (case k2 => k_asm); (case k3 => k_upd); (case z => (rw [List.size_toArray, sizeLine_eq]; omega)); k_whole); intro h' F' N'; (try k_sweep)))
local macro_rules | `(tactic| k_mem) => `(tactic| first | with_reducible assumption | ((refine mem_of ?_); with_reducible assumption) | exact List.Mem.head _ | (refine' List.Mem.tail _ ?_; k_mem))
local macro_rules | `(tactic| k_all) => `(tactic| first | with_reducible assumption | exact ne_ge (by with_reducible assumption) (by omega) | exact List.forall_mem_nil _ | (refine' List.forall_mem_cons.mpr ⟨?a, ?b⟩; (case a => k_ne); (case b => k_all)))
noncomputable def strictBody (P : Params) : List Stmt := match (lawBody P).drop 6 with | .For _ _ b _ _ :: _ => b | _ => []
theorem ne_data {g : Heap} {L : Addr} {h : Heap} {news : List (Addr × Obj)} {a b : Addr} {o q : Obj} (N : News g L h news) (ha : (a, o) ∈ news) (hb : (b, q) ∈ news) (hd : o.data ≠ q.data) : @Ne Nat a b := fun e => by
  have h1 := (N _ ha).1
  have h2 := (N _ hb).1
  have e' : a = b := e
  subst e'
  rw [h1] at h2
  cases h2
  exact hd rfl
section
variable {prog : Program} {w : World} {A : Around} {E : Value → Shared → Prop} {s : Shared} {env : Env} {h₀ : Heap} {target : PySem.Expr} {body : List Stmt} {Q : Flow → Shared → Prop}
theorem turns_tup {l : Addr} {vs : List Value} {nn : Nat} {m₀ : Str → Option Value} {news : List (Addr × Obj)}
    (hh : A.handled = none) (hl : (l, ({ cls := .type "tuple", data := .seq vs.toArray nn } : Obj)) ∈ news) (F : Fr h₀ env.locals s.heap m₀) (N : News h₀ env.locals s.heap news) (J : Nat → (Str → Option Value) → List (Addr × Obj) → Prop) (hj : J 0 m₀ news)
    (hk : ∀ i m nx, J i m nx → (l, ({ cls := .type "tuple", data := .seq vs.toArray nn } : Obj)) ∈ nx)
    (turn : ∀ i v m₁ nx h tk I oI, vs[i]? = some v → J i m₁ nx → (∀ p ∈ nx, p.1 ≠ I) → Fr h₀ env.locals h m₁ → News h₀ env.locals h ((I, oI) :: nx) →
      wpAny (model prog w) A (assign target env v) (fun _ s₃ => wpAny (model prog w) A (execs body env) (TEnd h₀ env.locals (J (i + 1)) I oI { s with heap := h, toks := tk } Q) E s₃) E { s with heap := h, toks := tk })
    (done : ∀ m₁ nx h tk, J vs.length m₁ nx → Fr h₀ env.locals h m₁ → News h₀ env.locals h nx → Q .next { s with heap := h, toks := tk }) :
    wpAny (model prog w) A (pyIter (.ref l)) (fun it s₂ => TurnsAt prog w A h₀ env target body Q E it s₂) E s := by
  have hax := N _ hl
  have hls : s.heap.IsTuple l vs.toArray := ⟨_, hax.1, rfl, nn, rfl⟩
  have hlt : l < s.heap.objs.size := Heap.lt_size hax.1
  have hne : l ≠ s.heap.objs.size := Nat.ne_of_lt hlt
  refine wpAny_pyIter_tuple hls ?_
  refine turnsG (s := { s with heap := _ }) (I := s.heap.objs.size) (keep := [(l, ({ cls := .type "tuple", data := .seq vs.toArray nn } : Obj))]) (KTurns.ofWalks (Walks.tuple hh s.heap.objs.size l hne vs.toArray) fun i v s Q E st q => letGo_tupleiter st.1 q) ?_ ?_ (by simp) (next_is_new F) ?_ ?_ ?_ (F.push _) (fun p hp => ⟨Heap.get?_push_of_some _ (N p hp).1, (N p hp).2⟩) J hj (fun i m nx h q hq => by rw [List.mem_singleton.mp hq]; exact hk i m nx h) ?_ ?_
  · intro b hb
    have hb' : b = s.heap.objs.size ∨ b = l := by simpa using hb
    rcases hb' with e | e
    · exact .inl e
    · exact .inr ⟨_, by simp [e]; rfl⟩
  · rintro i h ⟨⟨o, ho, _⟩, _⟩; exact ⟨o, ho⟩
  · intro hI
    have hb' : env.locals = s.heap.objs.size ∨ env.locals = l := by simpa using hI
    rcases hb' with e | e
    · exact absurd F.ns.lt (e ▸ Nat.lt_irrefl _)
    · exact hax.2.1 e.symm
  · intro p hp hI
    exact absurd (Heap.lt_size (N p hp).1) (hI ▸ Nat.lt_irrefl _)
  · exact ⟨⟨_, Heap.get?_push_size _ rfl, rfl, rfl⟩, hls.at fun o e => Heap.get?_push_of_some _ e⟩
  · intro i v m₁ nx h tk oI hi hP hJ hoff F₁ N₁
    exact turn i v m₁ nx h tk _ oI (by have h1 : vs.toArray[i]? = some v := hP; simpa using h1) hJ hoff F₁ N₁
  · intro m₁ nx h tk hJ F₁ N₁
    exact done m₁ nx h tk (by simpa using hJ) F₁ N₁
end
def TabOwn (tb0 own tb : List (Addr × Obj)) : Prop := ∀ q ∈ tb, (∃ p ∈ tb0, p.1 = q.1) ∨ ∀ p ∈ own, p.1 < q.1
def JPt (tb0 : List (Addr × Obj)) (D lI dP dT L1 : Addr) (oP oT cI : Obj) (ws : List Value) (nI : Nat) (own : List (Addr × Obj)) (m₁ : Str → Option Value) (m : Str → Option Value) (nx : List (Addr × Obj)) : Prop :=
  ∃ tb, nx = (D, kdv_tup [.bool false, .bool true]) :: (lI, listOf ws.toArray nI) :: (dP, oP) :: (dT, oT) :: (L1, cI) :: (tb ++ own) ∧ TabSt 24 8 parsQ tb ∧ TabOwn tb0 own tb ∧ m (Str.ofString "right") = some (.bool true) ∧ ∀ x ∈ lawKeep, m x = m₁ x
theorem tab_mem {tb : List (Addr × Obj)} (h : TabSt 24 8 parsQ tb) : ∃ ps, (72, tabObj ps) ∈ tb := by
  rcases h with rfl | ⟨c', oc, vs, t, rfl, _, _⟩
  · exact ⟨_, .head _⟩
  · exact ⟨_, .tail _ (.head _)⟩
theorem news_L {g : Heap} {L : Addr} {h : Heap} {x0 x1 a b c d : Addr × Obj} {tb r : List (Addr × Obj)} (N : News g L h (x0 :: x1 :: a :: b :: c :: d :: (tb ++ r))) : News g L h (tb ++ d :: a :: b :: c :: x0 :: x1 :: r) := fun q hq => N q (by
  simp only [List.mem_cons, List.mem_append] at hq ⊢
  rcases hq with h | h | h | h | h | h | h | h <;> simp only [h, true_or, or_true])
section
variable {w : World} {p : Program} {loose : List Str} {mean : ExcName → Option Value} {mg mb : Str → Option Value} {dp un : Nat} {gd : Option (List Code)} {A₀ : Around} {E : Value → Shared → Prop} {s : Shared} {g : Heap} {L fa : Addr} {cd : Value} {m : Str → Option Value} {Q : Flow → Shared → Prop}
  {cI : Obj} {own tb : List (Addr × Obj)} {ob : Array UInt8} {to tc : Tok} {st : Bool} {lE : Addr} {vsE : List Value} {nE : Nat} {es : List Ent} {cutv : Int} {v0 : Option Value}
set_option maxRecDepth 100000 in
set_option maxHeartbeats 1000000 in
theorem law_strict (B : Below A₀ g [] g) (X : (Mine.hd.heap_39 w.params).In g) (Tp : Top p loose mean mg mb g) (hC : CodeHd g 76 72)
    (F0 : Fr g L s.heap m) (h1 : m (Str.ofString "entries") = some (.ref lE)) (h2 : m (Str.ofString "octets") = some (.bytes ob to)) (h3 : m (Str.ofString "cut") = some (.int cutv tc)) (h4 : m (Str.ofString "strict") = some (.bool st)) (h5 : m (Str.ofString "right") = some (.bool true))
    (hcI : cI.data = .cell v0) (N : News g L s.heap ((L + 1, cI) :: (tb ++ own))) (htb : TabSt 24 8 parsQ tb) (h72 : ∀ p ∈ own, p.1 ≠ 72) (h72L : L + 1 ≠ 72) (hoL : ∀ p ∈ own, p.1 ≠ L + 1)
    (hm : (lE, listOf vsE.toArray nE) ∈ own) (hD : DatAll own vsE (es.map entD)) (hes : es.length ≤ 12) (hek : ∀ e ∈ es, EntOk e)
    (hlen : (KBw.bInts ob).length ≤ 1000000) (hpl : ∀ pt, Plain st pt (walkGo st (decide (cutv ≠ 0)) es 0 [] [] []).1 (walkGo st (decide (cutv ≠ 0)) es 0 [] [] []).2.1 (walkGo st (decide (cutv ≠ 0)) es 0 [] [] []).2.2.1 (walkGo st (decide (cutv ≠ 0)) es 0 [] [] []).2.2.2 (KBw.bInts ob)) (hoc : (walkGo st (decide (cutv ≠ 0)) es 0 [] [] []).1 ≠ .crash) (hIl : (walkGo st (decide (cutv ≠ 0)) es 0 [] [] []).2.2.2.length ≤ 40) (hkT : KeysIn (walkGo st (decide (cutv ≠ 0)) es 0 [] [] []).2.2.1)
    (hdp : dp + 150 < recursionLimit) (hun : un + 800 < cLine) (hPE : PassesOwn (model PySem.Challenge.rw_fc0001_01.row.prog w) (ktrTop dp un gd (Str.ofString "law") (lawScope w.params) L fa cd (cellsFrom (L+1) (lawScope w.params).names []) []) (envX (Str.ofString "law") (lawScope w.params) L fa cd (cellsFrom (L+1) (lawScope w.params).names [])) E)
    (hnext : ∀ h' tk' m' tb' cI' v', Fr g L h' m' → News g L h' ((L + 1, cI') :: (tb' ++ own)) → TabSt 24 8 parsQ tb' → TabOwn tb own tb' → cI'.data = .cell v' → m' (Str.ofString "right") = some (.bool true) → m' (Str.ofString "entries") = some (.ref lE) → m' (Str.ofString "octets") = some (.bytes ob to) → m' (Str.ofString "cut") = some (.int cutv tc) → Q .next { s with heap := h', toks := tk' }) :
    wpAny (model PySem.Challenge.rw_fc0001_01.row.prog w) (ktrTop dp un gd (Str.ofString "law") (lawScope w.params) L fa cd (cellsFrom (L+1) (lawScope w.params).names []) []) (execs (strictBody w.params) (envX (Str.ofString "law") (lawScope w.params) L fa cd (cellsFrom (L+1) (lawScope w.params).names []))) Q E s := by
  have X0 := X
  revert X
  k_fill
  intro X
  have hPE0 := Box.mk hPE
  generalize hps : lawScope w.params = scope at hPE ⊢
  conv at hps => lhs; whnf
  subst hps
  generalize hrb : strictBody w.params = rb
  conv at hrb => lhs; whnf
  subst hrb
  have F := frL [(Str.ofString "entries", _), (Str.ofString "octets", _), (Str.ofString "cut", _), (Str.ofString "strict", _), (Str.ofString "right", _)] (by
      intro p hp
      simp only [List.mem_cons, List.not_mem_nil, or_false] at hp
      rcases hp with rfl | rfl | rfl | rfl | rfl
      · exact h1
      · exact h2
      · exact h3
      · exact h4
      · exact h5) F0
  clear F0 h1 h2 h3 h4 h5
  replace hnext := Box.mk hnext
  replace hPE := Box.mk hPE
  replace hpl := Box.mk hpl
  have hmem : (lE, listOf vsE.toArray nE) ∈ (L + 1, cI) :: (tb ++ own) := .tail _ (List.mem_append_right _ hm)
  have hD2 : DatAll ((L + 1, cI) :: (tb ++ own)) vsE (es.map entD) := DatAll.mono (fun q hq => .tail _ (List.mem_append_right _ hq)) hD
  repeat' (first | (k_unfold; (try dsimp only)) | ((fail_if_success (with_reducible show (ite _ _ _))); (fail_if_success (with_reducible show wpAny _ _ (call (Value.ref _) [_, _, _] _) _ _ _)); first | walk1 | (dsimp only; walk1) | (leave1; try dsimp only)))
  refine c_walk _ lE vsE nE es cutv tc st hmem hD2 hes hek _ _ _ _ _ _ _ _ _ _ g g L _ _ _ _ B F X N Tp rfl (by omega) (by omega) ?_
  generalize hwg : walkGo st (decide (cutv ≠ 0)) es 0 [] [] [] = wg at hpl hoc hIl hkT
  obtain ⟨o, R, T, I⟩ := wg
  dsimp only
  intro t dT dP lI oT oP ws nI to2 h2 tk2 F2 N2 ds2 hI lT lP
  dsimp only at hoc hIl hkT
  have z1 : oT.data ≠ cI.data := by
    obtain ⟨kv, ⟨_, _, _, hd, _⟩, _⟩ := ds2.d1
    rw [hd, hcI]; exact fun q => by cases q
  have z2 : oP.data ≠ cI.data := by
    obtain ⟨kv, ⟨_, _, _, hd, _⟩, _⟩ := ds2.d2
    rw [hd, hcI]; exact fun q => by cases q
  have m0 : (L + 1, cI) ∈ (t, kdv_tup [Value.ref dT, Value.ref dP, Value.ref lI, Value.str (outS o) to2]) :: (lI, W.listOf ws.toArray nI) :: (dP, oP) :: (dT, oT) :: (L + 1, cI) :: (tb ++ own) := .tail _ (.tail _ (.tail _ (.tail _ (.head _))))
  have y1 : @Ne Nat t (L + 1) := ne_data N2 (.head _) m0 (by rw [hcI]; exact fun q => by cases q)
  have y2 : @Ne Nat lI (L + 1) := ne_data N2 (.tail _ (.head _)) m0 (by rw [hcI]; exact fun q => by cases q)
  have y3 : @Ne Nat dP (L + 1) := ne_data N2 (.tail _ (.tail _ (.head _))) m0 z2
  have y4 : @Ne Nat dT (L + 1) := ne_data N2 (.tail _ (.tail _ (.tail _ (.head _)))) m0 z1
  have y5 : ∀ q ∈ tb ++ own, q.1 ≠ L + 1 := by
    intro q hq
    rcases List.mem_append.mp hq with hq | hq
    · refine ne_data N2 (.tail _ (.tail _ (.tail _ (.tail _ (.tail _ (List.mem_append_left _ hq)))))) m0 ?_
      rw [hcI]
      rcases htb with rfl | ⟨c', oc, vs, tq, rfl, hoc', _⟩
      · rw [List.mem_singleton.mp hq]; exact fun q => by cases q
      · rcases List.mem_cons.mp hq with rfl | hq
        · rw [hoc']; exact fun q => by cases q
        · rw [List.mem_singleton.mp hq]; exact fun q => by cases q
    · exact hoL q hq
  clear F N
  repeat' (first | (k_unfold; (try dsimp only)) | ((fail_if_success (with_reducible show (ite _ _ _))); (fail_if_success (with_reducible show wpAny _ _ (execs (Stmt.For _ _ _ _ _ :: _) _) _ _ _)); first | walk1 | (dsimp only; walk1) | (leave1; try dsimp only)))
  rename_i _ _ _ _ cI2 hcI2 _ F3 N3
  refine wpAny_execs_cons (For_hold F3 ?_ (fun _ => rfl) hPE.out)
  repeat' (first | (k_unfold; (try dsimp only)) | ((fail_if_success (with_reducible show (ite _ _ _))); first | walk1 | (dsimp only; walk1) | (leave1; try dsimp only)))
  refine Hold.intro ?_
  try dsimp only
  (with_reducible rename Fr _ _ _ _ => F4); (with_reducible rename News _ _ _ _ => N4)
  obtain ⟨m₁, F5, q1, q2, q3, q4, q5, q6, q7, q8⟩ : ∃ m₁, Fr g L _ m₁ ∧ m₁ (Str.ofString "entries") = some (.ref lE) ∧ m₁ (Str.ofString "octets") = some (.bytes ob to) ∧ m₁ (Str.ofString "cut") = some (.int cutv tc) ∧ m₁ (Str.ofString "strict") = some (.bool st) ∧ m₁ (Str.ofString "table") = some (.ref dT) ∧ m₁ (Str.ofString "places") = some (.ref dP) ∧ m₁ (Str.ofString "end") = some (.str (outS o) to2) ∧ m₁ (Str.ofString "right") = some (.bool true) := ⟨_, F4, rfl, rfl, rfl, rfl, rfl, rfl, rfl, rfl⟩
  rename_i DP _ lDP
  have N5 : News g L _ ((DP, kdv_tup [.bool false, .bool true]) :: (lI, listOf ws.toArray nI) :: (dP, oP) :: (dT, oT) :: (L + 1, cI2) :: (tb ++ own)) := fun q hq => N4 q (by
    rcases List.mem_cons.mp hq with rfl | hq
    · exact .head _
    · exact .tail _ (.tail _ hq))
  try clear F3
  try clear N3
  try clear F4
  try clear N4
  try clear F2
  try clear N2
  refine turns_tup (vs := [.bool false, .bool true]) (nn := 0) rfl (.head _) F5 N5 (fun _ => JPt tb DP lI dP dT (L + 1) oP oT cI2 ws nI own m₁) ?j0 ?hk ?turn ?done
  case j0 => exact ⟨tb, rfl, htb, fun q hq => .inl ⟨q, hq, rfl⟩, q8, fun _ _ => rfl⟩
  case hk => rintro i m nx ⟨_, rfl, _⟩; exact .head _
  case turn =>
    rintro i v m₂ nx h tk I2 oI2 hv ⟨tb2, rfl, htb2, hto2, hr2, hm2⟩ hoff2 F₂ N₂
    obtain ⟨pt, rfl⟩ : ∃ pt, v = .bool pt := by
      rcases i with _ | _ | i
      · simp at hv; exact ⟨_, hv.symm⟩
      · simp at hv; exact ⟨_, hv.symm⟩
      · simp at hv
    have F₃ := frL [(Str.ofString "octets", _), (Str.ofString "strict", _), (Str.ofString "right", _), (Str.ofString "table", _), (Str.ofString "places", _), (Str.ofString "end", _)] (by
      intro p hp
      simp only [List.mem_cons, List.not_mem_nil, or_false] at hp
      rcases hp with rfl | rfl | rfl | rfl | rfl | rfl
      · exact (hm2 (Str.ofString "octets") (by decide)).trans q2
      · exact (hm2 (Str.ofString "strict") (by decide)).trans q4
      · exact hr2
      · exact (hm2 (Str.ofString "table") (by decide)).trans q5
      · exact (hm2 (Str.ofString "places") (by decide)).trans q6
      · exact (hm2 (Str.ofString "end") (by decide)).trans q7) F₂
    have hqx : Box (m₁ (Str.ofString "octets") = some (.bytes ob to) ∧ m₁ (Str.ofString "strict") = some (.bool st) ∧ m₁ (Str.ofString "table") = some (.ref dT) ∧ m₁ (Str.ofString "places") = some (.ref dP) ∧ m₁ (Str.ofString "end") = some (.str (outS o) to2)) := ⟨q2, q4, q5, q6, q7⟩
    replace hm2 := Box.mk hm2
    clear F₂ F5 N5 q1 q2 q3 q4 q5 q6 q7 q8
    dsimp only
    show wpAny _ _ _ _ _ _
    try k_fold
    repeat' (first | (k_unfold; (try dsimp only)) | ((fail_if_success (with_reducible show (ite _ _ _))); (fail_if_success (with_reducible show wpAny _ _ (execs (Stmt.Assign [Expr.Tuple _ _ _] _ _ :: _) _) _ _ _)); first | walk1 | (dsimp only; walk1) | (leave1; try dsimp only)))
    (with_reducible rename Fr _ _ _ _ => F9); (with_reducible rename News _ _ _ _ => N9)
    try k_unfold
    obtain ⟨ps, htm⟩ := tab_mem htb2
    have htm9 : (72, tabObj ps) ∈ (I2, oI2) :: (DP, kdv_tup [.bool false, .bool true]) :: (lI, listOf ws.toArray nI) :: (dP, oP) :: (dT, oT) :: (L + 1, cI2) :: (tb2 ++ own) := .tail _ (.tail _ (.tail _ (.tail _ (.tail _ (.tail _ (List.mem_append_left _ htm))))))
    have w1 : oT.data ≠ (tabObj ps).data := by
      obtain ⟨kv, ⟨_, _, _, hd, _⟩, _⟩ := ds2.d1
      rw [hd]; exact fun q => by cases q
    have w2 : oP.data ≠ (tabObj ps).data := by
      obtain ⟨kv, ⟨_, _, _, hd, _⟩, _⟩ := ds2.d2
      rw [hd]; exact fun q => by cases q
    refine law_turn B X0 Tp hC F9 rfl rfl rfl rfl rfl rfl rfl hcI2 (news_L N9) htb2 ?_ ds2 hI hIl hkT hlen (hpl.out pt) hoc lT lP (by omega) (by omega) hPE0.out ?_
    · intro q hq
      rcases List.mem_cons.mp hq with rfl | hq
      · exact h72L
      rcases List.mem_cons.mp hq with rfl | hq
      · exact ne_data N9 (.tail _ (.tail _ (.head _))) htm9 (fun q => by cases q)
      rcases List.mem_cons.mp hq with rfl | hq
      · exact ne_data N9 (.tail _ (.tail _ (.tail _ (.head _)))) htm9 w2
      rcases List.mem_cons.mp hq with rfl | hq
      · exact ne_data N9 (.tail _ (.tail _ (.tail _ (.tail _ (.head _))))) htm9 w1
      rcases List.mem_cons.mp hq with rfl | hq
      · exact fun e => hoff2 (72, tabObj ps) (.tail _ (.tail _ (.tail _ (.tail _ (.tail _ (List.mem_append_left _ htm)))))) e.symm
      rcases List.mem_cons.mp hq with rfl | hq
      · exact ne_data N9 (.tail _ (.head _)) htm9 (fun q => by cases q)
      · exact h72 q hq
    · intro h' tk' m' tb' news' F' N' hTb' hUp' sub hr hm
      refine ⟨h', tk', m', news', (DP, kdv_tup [.bool false, .bool true]) :: (lI, listOf ws.toArray nI) :: (dP, oP) :: (dT, oT) :: (L + 1, cI2) :: (tb' ++ own), rfl, F', N', sub _ ?_, fun q hq => sub q ?_, fun q hq => ?_, tb', rfl, hTb', ?_, hr, fun x hx => (hm x hx).trans ?_⟩
      · exact List.mem_append_right _ (.tail _ (.tail _ (.tail _ (.tail _ (.head _)))))
      · simp only [List.mem_cons, List.mem_append] at hq ⊢
        rcases hq with h | h | h | h | h | h | h <;> simp only [h, true_or, or_true]
      · simp only [List.mem_cons, List.mem_append] at hq
        rcases hq with rfl | rfl | rfl | rfl | rfl | hq | hq
        · exact hoff2 _ (.head _)
        · exact hoff2 _ (.tail _ (.head _))
        · exact hoff2 _ (.tail _ (.tail _ (.head _)))
        · exact hoff2 _ (.tail _ (.tail _ (.tail _ (.head _))))
        · exact hoff2 _ (.tail _ (.tail _ (.tail _ (.tail _ (.head _)))))
        · rcases hUp' q hq with ⟨p0, hp0, e0⟩ | hgt
          · rw [← e0]
            exact hoff2 _ (.tail _ (.tail _ (.tail _ (.tail _ (.tail _ (List.mem_append_left _ hp0))))))
          · exact Nat.ne_of_gt (hgt (I2, oI2) (List.mem_append_right _ (.tail _ (.tail _ (.tail _ (.tail _ (.head _)))))))
        · exact hoff2 _ (.tail _ (.tail _ (.tail _ (.tail _ (.tail _ (List.mem_append_right _ hq))))))
      · intro q hq
        rcases hUp' q hq with ⟨p0, hp0, e0⟩ | hgt
        · rw [← e0]; exact hto2 p0 hp0
        · exact .inr fun p hp => hgt p (List.mem_append_right _ (.tail _ (.tail _ (.tail _ (.tail _ (.tail _ (.tail _ hp)))))))
      · simp only [lawKeep, List.mem_cons, List.not_mem_nil, or_false] at hx
        rcases hx with rfl | rfl | rfl | rfl | rfl | rfl | rfl
        · exact hm2.out (Str.ofString "entries") (by decide)
        · exact hqx.out.1.symm
        · exact hm2.out (Str.ofString "cut") (by decide)
        · exact hqx.out.2.1.symm
        · exact hqx.out.2.2.1.symm
        · exact hqx.out.2.2.2.1.symm
        · exact hqx.out.2.2.2.2.symm
  case done =>
    rintro m₂ nx h tk ⟨tb2, rfl, htb2, hto2, hr2, hm2⟩ F₂ N₂
    try k_unfold
    try dsimp only
    refine wpAny_execs_nil ?_
    exact hnext.out h tk m₂ tb2 cI2 _ F₂ (fun q hq => N₂ q (.tail _ (.tail _ (.tail _ (.tail _ hq))))) htb2 hto2 hcI2 hr2 ((hm2 (Str.ofString "entries") (by decide)).trans q1) ((hm2 (Str.ofString "octets") (by decide)).trans q2) ((hm2 (Str.ofString "cut") (by decide)).trans q3)
end
end Mine
end

section
theorem Mine.rst_T4 {prog : PySem.Program} {w : PySem.World} {A : PySem.Around} {Q : PySem.Flow → PySem.Shared → Prop} {E : PySem.Value → PySem.Shared → Prop} {s : PySem.Shared} {env : PySem.Env} {pos : PySem.Pos} : True ∨ PySem.wpAny (PySem.model prog w) A (PySem.exec (PySem.Stmt.Pass pos) env) Q E s := by
  w_on
  w_top off
  first | (right; walk1; fail) | exact .inl trivial
open PySem PySem.W PySem.Calls PyProof.Rows PyProof.V
set_option Elab.async false
namespace Mine
local macro_rules | `(tactic| k_room) => `(tactic| ktr_room)
local macro_rules | `(tactic| k_units) => `(tactic| ktr_units)
local macro_rules | `(tactic| k_enter) => `(tactic| first
  | (refine' code_def ?k1 ?k2 ?k3 ?k4 ?k5 ?kA ?kF ?kK ?k6 ?k7 ?k8 ?k9 ?kB ?_ ?c2 ?c3 ?c4 ?c5; (case kA => exact rfl); (case kF => exact rfl); (case kK => first | exact rfl | assumption); (case k1 => k_asm); (case k2 => k_asm); (case k3 => k_asm); (case k4 => k_asm); (case k5 => k_asm); (case k6 => k_is); (case k7 => k_is); (case k8 => k_room); (case k9 => first | exact BindsTo.of_eq rfl | exact binds_K (by k_in) rfl (by k_is) rfl rfl rfl | fail "k_enter: no rule for these arguments"); (case c5 => decide); (case kB => exact locs rfl); (case c2 => exact rfl); (case c3 => exact rfl); (case c4 => exact rfl); k_whole; intro g' L' h' FG' F' N' B' X' T'; (try dsimp only); (try k_lift B'); (try k_fold))
  | (refine' code_defC ?k1 ?k2 ?k3 ?k4 ?k5 ?kA ?kF ?kK ?k6 ?k7 ?k8 ?k9 ?kB ?kD ?_ ?c2 ?c3 ?c4; (case kA => exact rfl); (case kF => exact rfl); (case kK => first | exact rfl | assumption); (case k1 => k_asm); (case k2 => k_asm); (case k3 => k_asm); (case k4 => k_asm); (case k5 => k_asm); (case k6 => k_is); (case k7 => k_is); (case k8 => k_room); (case k9 => first | exact BindsTo.of_eq rfl | exact binds_K (by k_in) rfl (by k_is) rfl rfl rfl | fail "k_enter: no rule for these arguments"); (case kB => exact rfl); (case kD => decide +kernel); (case c2 => exact rfl); (case c3 => exact rfl); (case c4 => exact rfl); k_whole; intro g' L' h' tk' cells' FG' F' N' Y' B' X' T' l1; (try k_lt l1); k_cells Y'; (try simp only [List.cons_append, List.nil_append] at N'); (try dsimp only); (try k_lift B'); (try k_fold)))
local macro_rules | `(tactic| walk_at "exec For Name Subscript cons nil") => `(tactic| (k_here; (rename Fr _ _ _ _ => lF'); (with_unfolding_all refine' For_hold lF' ?_; k_whole)))
local macro_rules | `(tactic| walk_at "exec For Name Call cons nil") => `(tactic| (k_here; (rename Fr _ _ _ _ => lF'); (with_unfolding_all refine' For_hold lF' ?_; k_whole)))
local macro_rules | `(tactic| walk_at "exec For Name Tuple cons nil") => `(tactic| (k_here; (rename Fr _ _ _ _ => lF'); (with_unfolding_all refine' For_hold lF' ?_; k_whole)))
local macro_rules | `(tactic| walk_at "exec For Name Name cons nil") => `(tactic| (k_here; (rename Fr _ _ _ _ => lF'); (with_unfolding_all refine' For_hold lF' ?_; k_whole)))
local macro_rules | `(tactic| walk_at "exec For Tuple Name cons nil") => `(tactic| (k_here; (rename Fr _ _ _ _ => lF'); (with_unfolding_all refine' For_hold lF' ?_; k_whole)))
local macro_rules | `(tactic| k_all) => `(tactic| first | with_reducible assumption | exact ne_ge (by with_reducible assumption) (by omega) | exact List.forall_mem_nil _ | (refine' List.forall_mem_cons.mpr ⟨?a, ?b⟩; (case a => k_ne); (case b => k_all)))
local macro_rules | `(tactic| walk_at "call builtin:list.append") => `(tactic| (k_here; (with_reducible show wpAny _ _ (call (Value.builtin _) [Value.ref _, _]) _ _ _); k_dflt (refine' append_K ?k1 ?k2 ?k3 ?_ ?z; (case k1 => k_asm); (case k2 => k_asm); (case k3 => k_upd); (case z => (rw [List.size_toArray, sizeLine_eq]; omega)); k_whole); intro h' F' N'; (try k_sweep)))
local macro_rules | `(tactic| k_mem) => `(tactic| first | with_reducible assumption | ((refine mem_of ?_); with_reducible assumption) | exact List.Mem.head _ | (refine' List.Mem.tail _ ?_; k_mem))
noncomputable def lawFor (P : Params) : Stmt := ((lawBody P).drop 6).headD (.Pass ⟨0, 0, 0, 0⟩)
def JSt (tb0 : List (Addr × Obj)) (D L1 : Addr) (own : List (Addr × Obj)) (lE : Addr) (ob : Array UInt8) (to : Tok) (cutv : Int) (tc : Tok) (m : Str → Option Value) (nx : List (Addr × Obj)) : Prop :=
  ∃ tb cI v0, nx = (D, kdv_tup [.bool false, .bool true]) :: (L1, cI) :: (tb ++ own) ∧ TabSt 24 8 parsQ tb ∧ cI.data = .cell v0 ∧ m (Str.ofString "right") = some (.bool true) ∧ m (Str.ofString "entries") = some (.ref lE) ∧ m (Str.ofString "octets") = some (.bytes ob to) ∧ m (Str.ofString "cut") = some (.int cutv tc)
section
variable {w : World} {p : Program} {loose : List Str} {mean : ExcName → Option Value} {mg mb : Str → Option Value} {dp un : Nat} {gd : Option (List Code)} {A₀ : Around} {E : Value → Shared → Prop} {s : Shared} {g : Heap} {L fa : Addr} {cd : Value} {m : Str → Option Value} {Q : Flow → Shared → Prop}
  {cI : Obj} {own tb : List (Addr × Obj)} {ob : Array UInt8} {to tc : Tok} {lE : Addr} {vsE : List Value} {nE : Nat} {es : List Ent} {cutv : Int} {v0 : Option Value}
structure AllPlain (es : List Ent) (cutv : Int) (KS : List Int) : Prop where
  pl : ∀ st pt, Plain st pt (walkGo st (decide (cutv ≠ 0)) es 0 [] [] []).1 (walkGo st (decide (cutv ≠ 0)) es 0 [] [] []).2.1 (walkGo st (decide (cutv ≠ 0)) es 0 [] [] []).2.2.1 (walkGo st (decide (cutv ≠ 0)) es 0 [] [] []).2.2.2 KS
  oc : ∀ st, (walkGo st (decide (cutv ≠ 0)) es 0 [] [] []).1 ≠ .crash
  il : ∀ st, (walkGo st (decide (cutv ≠ 0)) es 0 [] [] []).2.2.2.length ≤ 40
  kt : ∀ st, KeysIn (walkGo st (decide (cutv ≠ 0)) es 0 [] [] []).2.2.1
set_option maxRecDepth 100000 in
set_option maxHeartbeats 1000000 in
theorem law_for (B : Below A₀ g [] g) (X : (Mine.hd.heap_39 w.params).In g) (Tp : Top p loose mean mg mb g) (hC : CodeHd g 76 72)
    (F0 : Fr g L s.heap m) (h1 : m (Str.ofString "entries") = some (.ref lE)) (h2 : m (Str.ofString "octets") = some (.bytes ob to)) (h3 : m (Str.ofString "cut") = some (.int cutv tc)) (h5 : m (Str.ofString "right") = some (.bool true))
    (hcI : cI.data = .cell v0) (N : News g L s.heap ((L + 1, cI) :: (tb ++ own))) (htb : TabSt 24 8 parsQ tb) (h72 : ∀ p ∈ own, p.1 ≠ 72) (h72L : L + 1 ≠ 72) (hoL : ∀ p ∈ own, p.1 ≠ L + 1)
    (hm : (lE, listOf vsE.toArray nE) ∈ own) (hD : DatAll own vsE (es.map entD)) (hes : es.length ≤ 12) (hek : ∀ e ∈ es, EntOk e)
    (hlen : (KBw.bInts ob).length ≤ 1000000) (hpl : AllPlain es cutv (KBw.bInts ob))
    (hdp : dp + 150 < recursionLimit) (hun : un + 800 < cLine) (hPE : PassesOwn (model PySem.Challenge.rw_fc0001_01.row.prog w) (ktrTop dp un gd (Str.ofString "law") (lawScope w.params) L fa cd (cellsFrom (L+1) (lawScope w.params).names []) []) (envX (Str.ofString "law") (lawScope w.params) L fa cd (cellsFrom (L+1) (lawScope w.params).names [])) E)
    (hnext : ∀ h' tk' m' tb' cI' v', Fr g L h' m' → News g L h' ((L + 1, cI') :: (tb' ++ own)) → TabSt 24 8 parsQ tb' → cI'.data = .cell v' → m' (Str.ofString "right") = some (.bool true) → m' (Str.ofString "entries") = some (.ref lE) → m' (Str.ofString "octets") = some (.bytes ob to) → m' (Str.ofString "cut") = some (.int cutv tc) → Q .next { s with heap := h', toks := tk' }) :
    wpAny (model PySem.Challenge.rw_fc0001_01.row.prog w) (ktrTop dp un gd (Str.ofString "law") (lawScope w.params) L fa cd (cellsFrom (L+1) (lawScope w.params).names []) []) (exec (lawFor w.params) (envX (Str.ofString "law") (lawScope w.params) L fa cd (cellsFrom (L+1) (lawScope w.params).names []))) Q E s := by
  have X0 := X
  revert X
  k_fill
  intro X
  have hPE0 := Box.mk hPE
  generalize hps : lawScope w.params = scope at hPE ⊢
  conv at hps => lhs; whnf
  subst hps
  generalize hrb : lawFor w.params = rb
  conv at hrb => lhs; whnf
  subst hrb
  have F := frL [(Str.ofString "entries", _), (Str.ofString "octets", _), (Str.ofString "cut", _), (Str.ofString "right", _)] (by
      intro p hp
      simp only [List.mem_cons, List.not_mem_nil, or_false] at hp
      rcases hp with rfl | rfl | rfl | rfl
      · exact h1
      · exact h2
      · exact h3
      · exact h5) F0
  clear F0 h1 h2 h3 h5
  replace hnext := Box.mk hnext
  replace hPE := Box.mk hPE
  replace hpl := Box.mk hpl
  refine For_hold F ?_ (fun _ => rfl) hPE.out
  repeat' (first | (k_unfold; (try dsimp only)) | ((fail_if_success (with_reducible show (ite _ _ _))); first | walk1 | (dsimp only; walk1) | (leave1; try dsimp only)))
  refine Hold.intro ?_
  try dsimp only
  (with_reducible rename Fr _ _ _ _ => F4); (with_reducible rename News _ _ _ _ => N4)
  obtain ⟨m₁, F5, q1, q2, q3, q5⟩ : ∃ m₁, Fr g L _ m₁ ∧ m₁ (Str.ofString "entries") = some (.ref lE) ∧ m₁ (Str.ofString "octets") = some (.bytes ob to) ∧ m₁ (Str.ofString "cut") = some (.int cutv tc) ∧ m₁ (Str.ofString "right") = some (.bool true) := ⟨_, F4, rfl, rfl, rfl, rfl⟩
  rename_i DP _ lDP
  refine turns_tup (vs := [.bool false, .bool true]) (nn := 0) rfl (.head _) F5 N4 (fun _ => JSt tb DP (L + 1) own lE ob to cutv tc) ?j0 ?hk ?turn ?done
  case j0 => exact ⟨tb, cI, v0, rfl, htb, hcI, q5, q1, q2, q3⟩
  case hk => rintro i m nx ⟨_, _, _, rfl, _⟩; exact .head _
  case turn =>
    rintro i v m₂ nx h tk I2 oI2 hv ⟨tb2, cI2, v2, rfl, htb2, hcI2, r1, r2, r3, r4⟩ hoff2 F₂ N₂
    obtain ⟨st, rfl⟩ : ∃ st, v = .bool st := by
      rcases i with _ | _ | i
      · simp at hv; exact ⟨_, hv.symm⟩
      · simp at hv; exact ⟨_, hv.symm⟩
      · simp at hv
    have F₃ := frL [(Str.ofString "entries", _), (Str.ofString "octets", _), (Str.ofString "cut", _), (Str.ofString "right", _)] (by
      intro p hp
      simp only [List.mem_cons, List.not_mem_nil, or_false] at hp
      rcases hp with rfl | rfl | rfl | rfl
      · exact r2
      · exact r3
      · exact r4
      · exact r1) F₂
    try clear F₂
    try clear F5
    try clear N4
    try clear F4
    dsimp only
    show wpAny _ _ _ _ _ _
    try k_fold
    repeat' (first | (k_unfold; (try dsimp only)) | ((fail_if_success (with_reducible show (ite _ _ _))); (fail_if_success (with_reducible show wpAny _ _ (execs (Stmt.Assign [Expr.Tuple _ _ _] _ _ :: _) _) _ _ _)); first | walk1 | (dsimp only; walk1) | (leave1; try dsimp only)))
    (with_reducible rename Fr _ _ _ _ => F9); (with_reducible rename News _ _ _ _ => N9)
    try k_unfold
    obtain ⟨ps, htm⟩ := tab_mem htb2
    have htm9 : (72, tabObj ps) ∈ (I2, oI2) :: (DP, kdv_tup [.bool false, .bool true]) :: (L + 1, cI2) :: (tb2 ++ own) := .tail _ (.tail _ (.tail _ (List.mem_append_left _ htm)))
    refine law_strict (own := (I2, oI2) :: (DP, kdv_tup [.bool false, .bool true]) :: own) B X0 Tp hC F9 rfl rfl rfl rfl rfl hcI2 (fun q hq => N9 q ?_) htb2 ?_ h72L ?_ (.tail _ (.tail _ hm)) (DatAll.mono (fun q hq => .tail _ (.tail _ hq)) hD) hes hek hlen (fun pt => hpl.out.pl st pt) (hpl.out.oc st) (hpl.out.il st) (hpl.out.kt st) hdp hun hPE0.out ?_
    · simp only [List.mem_cons, List.mem_append] at hq ⊢
      rcases hq with h | h | h | h | h <;> simp only [h, true_or, or_true]
    · intro q hq
      rcases List.mem_cons.mp hq with rfl | hq
      · exact fun e => hoff2 (72, tabObj ps) (.tail _ (.tail _ (List.mem_append_left _ htm))) e.symm
      rcases List.mem_cons.mp hq with rfl | hq
      · exact ne_data N9 (.tail _ (.head _)) htm9 (fun q => by cases q)
      · exact h72 q hq
    · intro q hq
      rcases List.mem_cons.mp hq with rfl | hq
      · exact fun e => hoff2 _ (.tail _ (.head _)) e.symm
      rcases List.mem_cons.mp hq with rfl | hq
      · exact ne_data N9 (.tail _ (.head _)) (.tail _ (.tail _ (.head _))) (by rw [hcI2]; exact fun q => by cases q)
      · exact hoL q hq
    · intro h' tk' m' tb' cI' v' F' N' hTb' hTo' hc' x1 x2 x3 x4
      refine ⟨h', tk', m', _, (DP, kdv_tup [.bool false, .bool true]) :: (L + 1, cI') :: (tb' ++ own), rfl, F', N', .tail _ (List.mem_append_right _ (.head _)), fun q hq => ?_, fun q hq => ?_, tb', cI', v', rfl, hTb', hc', x1, x2, x3, x4⟩
      · simp only [List.mem_cons, List.mem_append] at hq ⊢
        rcases hq with h | h | h | h <;> simp only [h, true_or, or_true]
      · simp only [List.mem_cons, List.mem_append] at hq
        rcases hq with rfl | rfl | hq | hq
        · exact hoff2 _ (.head _)
        · exact hoff2 (L + 1, cI2) (.tail _ (.head _))
        · rcases hTo' q hq with ⟨p0, hp0, e0⟩ | hgt
          · rw [← e0]
            exact hoff2 _ (.tail _ (.tail _ (List.mem_append_left _ hp0)))
          · exact Nat.ne_of_gt (hgt (I2, oI2) (.head _))
        · exact hoff2 _ (.tail _ (.tail _ (List.mem_append_right _ hq)))
  case done =>
    rintro m₂ nx h tk ⟨tb2, cI2, v2, rfl, htb2, hcI2, r1, r2, r3, r4⟩ F₂ N₂
    try k_unfold
    exact hnext.out h tk m₂ tb2 cI2 v2 F₂ (fun q hq => N₂ q (.tail _ hq)) htb2 hcI2 r1 r2 r3 r4
end
end Mine
end

section
theorem Mine.rst_T5 {prog : PySem.Program} {w : PySem.World} {A : PySem.Around} {Q : PySem.Flow → PySem.Shared → Prop} {E : PySem.Value → PySem.Shared → Prop} {s : PySem.Shared} {env : PySem.Env} {pos : PySem.Pos} : True ∨ PySem.wpAny (PySem.model prog w) A (PySem.exec (PySem.Stmt.Pass pos) env) Q E s := by
  w_on
  w_top off
  first | (right; walk1; fail) | exact .inl trivial
open PySem PySem.W PySem.Calls PyProof.Rows PyProof.V
set_option Elab.async false
namespace Mine
local macro_rules | `(tactic| k_room) => `(tactic| ktr_room)
local macro_rules | `(tactic| k_units) => `(tactic| ktr_units)
local macro_rules | `(tactic| k_enter) => `(tactic| first
  | (refine' code_def ?k1 ?k2 ?k3 ?k4 ?k5 ?kA ?kF ?kK ?k6 ?k7 ?k8 ?k9 ?kB ?_ ?c2 ?c3 ?c4 ?c5; (case kA => exact rfl); (case kF => exact rfl); (case kK => first | exact rfl | assumption); (case k1 => k_asm); (case k2 => k_asm); (case k3 => k_asm); (case k4 => k_asm); (case k5 => k_asm); (case k6 => k_is); (case k7 => k_is); (case k8 => k_room); (case k9 => first | exact BindsTo.of_eq rfl | exact binds_K (by k_in) rfl (by k_is) rfl rfl rfl | fail "k_enter: no rule for these arguments"); (case c5 => decide); (case kB => exact locs rfl); (case c2 => exact rfl); (case c3 => exact rfl); (case c4 => exact rfl); k_whole; intro g' L' h' FG' F' N' B' X' T'; (try dsimp only); (try k_lift B'); (try k_fold))
  | (refine' code_defC ?k1 ?k2 ?k3 ?k4 ?k5 ?kA ?kF ?kK ?k6 ?k7 ?k8 ?k9 ?kB ?kD ?_ ?c2 ?c3 ?c4; (case kA => exact rfl); (case kF => exact rfl); (case kK => first | exact rfl | assumption); (case k1 => k_asm); (case k2 => k_asm); (case k3 => k_asm); (case k4 => k_asm); (case k5 => k_asm); (case k6 => k_is); (case k7 => k_is); (case k8 => k_room); (case k9 => first | exact BindsTo.of_eq rfl | exact binds_K (by k_in) rfl (by k_is) rfl rfl rfl | fail "k_enter: no rule for these arguments"); (case kB => exact rfl); (case kD => decide +kernel); (case c2 => exact rfl); (case c3 => exact rfl); (case c4 => exact rfl); k_whole; intro g' L' h' tk' cells' FG' F' N' Y' B' X' T' l1; (try k_lt l1); k_cells Y'; (try simp only [List.cons_append, List.nil_append] at N'); (try dsimp only); (try k_lift B'); (try k_fold)))
local macro_rules | `(tactic| walk_at "exec For Name Subscript cons nil") => `(tactic| (k_here; (rename Fr _ _ _ _ => lF'); (with_unfolding_all refine' For_hold lF' ?_; k_whole)))
local macro_rules | `(tactic| walk_at "exec For Name Call cons nil") => `(tactic| (k_here; (rename Fr _ _ _ _ => lF'); (with_unfolding_all refine' For_hold lF' ?_; k_whole)))
local macro_rules | `(tactic| walk_at "exec For Name Tuple cons nil") => `(tactic| (k_here; (rename Fr _ _ _ _ => lF'); (with_unfolding_all refine' For_hold lF' ?_; k_whole)))
local macro_rules | `(tactic| walk_at "exec For Name Name cons nil") => `(tactic| (k_here; (rename Fr _ _ _ _ => lF'); (with_unfolding_all refine' For_hold lF' ?_; k_whole)))
local macro_rules | `(tactic| walk_at "exec For Tuple Name cons nil") => `(tactic| (k_here; (rename Fr _ _ _ _ => lF'); (with_unfolding_all refine' For_hold lF' ?_; k_whole)))
local macro_rules | `(tactic| k_all) => `(tactic| first | with_reducible assumption | exact ne_ge (by with_reducible assumption) (by omega) | exact List.forall_mem_nil _ | (refine' List.forall_mem_cons.mpr ⟨?a, ?b⟩; (case a => k_ne); (case b => k_all)))
local macro_rules | `(tactic| walk_at "call builtin:list.append") => `(tactic| (k_here; (with_reducible show wpAny _ _ (call (Value.builtin _) [Value.ref _, _]) _ _ _); k_dflt (refine' append_K ?k1 ?k2 ?k3 ?_ ?z; (case k1 => k_asm); (case k2 => k_asm); (case k3 => k_upd); (case z => (rw [List.size_toArray, sizeLine_eq]; omega)); k_whole); intro h' F' N'; (try k_sweep)))
local macro_rules | `(tactic| k_mem) => `(tactic| first | exact List.Mem.head _ | with_reducible assumption | ((refine mem_of ?_); with_reducible assumption) | (refine List.Mem.tail _ ?_; k_mem))
local macro_rules | `(tactic| walk_at "compareOp Eq ref ref") => `(tactic| (k_here; (with_reducible show wpAny _ _ (compareOp CmpOp.Eq (Value.ref _) (Value.ref _)) _ _ _); k_dflt (first
  | (refine' eq_SD ?N ?pa ?pb ?da ?db ?la ?lb ?u ?_; (case N => k_asm); (case pa => k_mem); (case pb => k_mem); (case da => with_reducible assumption); (case db => with_reducible assumption); (case la => with_reducible assumption); (case lb => with_reducible assumption); (case u => k_units))
  | (refine' eq_LD ?N ?pa ?pb ?da ?db ?la ?lb ?u ?_; (case N => k_asm); (case pa => k_mem); (case pb => k_mem); (case da => with_reducible assumption); (case db => with_reducible assumption); (case la => with_reducible assumption); (case lb => with_reducible assumption); (case u => k_units))
  | (refine' eq_strs ?N ?pa ?pb ?da ?db ?u ?_; (case N => k_asm); (case pa => k_mem); (case pb => k_mem); (case da => with_reducible assumption); (case db => with_reducible assumption); (case u => k_units)))))
local macro_rules | `(tactic| walk_at "getMethod ref") => `(tactic| (k_here; (with_reducible show wpAny _ _ (getMethod (Value.ref _) (Str.ofString "get") _) _ _ _); k_dflt (refine' kdg_method (knd := PySem.strKind _ _) ?N ?mm ?d ?_; (case N => k_asm); (case mm => k_mem); (case d => with_reducible assumption)); (try dsimp only)))
local macro_rules | `(tactic| walk_at "call builtin:dict.get") => `(tactic| (k_here; (with_reducible show wpAny _ _ (call (Value.builtin "dict.get") [Value.ref _, Value.str _ _]) _ _ _); k_dflt (refine' kdg_get1 (knd := PySem.strKind _ _) ?N ?mm ?d ?lo (strKind_is _ _ _ _) _ ?v ?_; (case N => k_asm); (case mm => k_mem); (case d => with_reducible assumption); (case lo => with_reducible assumption); (case v => with_reducible assumption)); (try dsimp only [Option.getD])))
local macro_rules | `(tactic| walk_at "call ref") => `(tactic| (k_here; (with_reducible show wpAny _ _ (call (Value.ref 69) _) _ _ _); k_dflt (refine' c_get _ ?g0 ?g1 ?g2 ?g3 ?g4 ?g5 _ _ _ _ _ _ _ _ _ _ _ _ _ _ _ _ _ ?k1 ?k2 ?k3 ?k4 ?k5 ?kK ?kd ?ku ?_; (case k1 => k_asm); (case k2 => k_asm); (case k3 => k_asm); (case k4 => k_asm); (case k5 => k_asm); (case kK => first | exact rfl | assumption); (case g0 => k_mem); (case g1 => k_mem); (case g2 => k_mem); (case g3 => with_reducible assumption); (case g4 => with_reducible assumption); (case g5 => with_reducible assumption); (case kd => ktr_room); (case ku => ktr_units); k_whole); intro h' tk' F' N'; (try dsimp only [Option.getD]); (try k_sweep)))
local macro_rules | `(tactic| walk_at "callWith ref") => `(tactic| (k_here; (with_reducible show wpAny _ _ (callWith _ (Value.ref 69) _ _ _) _ _ _); k_dflt (refine' callWith_K ?k1 ?k2 ?_; (case k1 => k_asm); (case k2 => k_is); k_whole)))
local macro_rules | `(tactic| walk_at "subscriptTail") => `(tactic| (k_here; (with_reducible show wpAny _ _ (subscriptTail _ _ (Value.ref _) (Value.int _ _)) _ _ _); k_dflt (refine' item_tupleT ?t ?a ?b ?c ?d ?_; (case t => exact News.isTup (by k_asm) (by k_mem)); (case a => decide); (case b => decide); (case c => rfl); (case d => rfl); k_whole)))
local macro_rules | `(tactic| walk_at "subscriptTail Call") => `(tactic| (k_here; (with_reducible show wpAny _ _ (subscriptTail _ _ (Value.ref _) (Value.int _ _)) _ _ _); k_dflt (refine' item_tupleT ?t ?a ?b ?c ?d ?_; (case t => exact News.isTup (by k_asm) (by k_mem)); (case a => decide); (case b => decide); (case c => rfl); (case d => rfl); k_whole)))
theorem rv_cmp {prog : Program} {w : World} {A : Around} {E : Value → Shared → Prop} {s : Shared} {b : RV} {v y : Value} {Q : Value → Shared → Prop} (h : RV.is b v) (k : RV.is b y) (hq : Q (.bool true) s) : wpAny (model prog w) A (compareOp .Eq v y) Q E s := by
  cases b with
  | num n =>
    obtain ⟨t, rfl⟩ := h
    obtain ⟨u, rfl⟩ := k
    have := SeqAt.RcAt.int_int (A := A) (s := s) n t n u prog w E Q
    rw [beq_self_eq_true] at this
    exact this hq
  | flag b =>
    cases h; cases k
    have := SeqAt.RcAt.bool_bool (A := A) (s := s) b b prog w E Q
    rw [beq_self_eq_true] at this
    exact this hq
  | oct l =>
    obtain ⟨b, t, rfl, e1⟩ := h
    obtain ⟨c, u, rfl, e2⟩ := k
    obtain rfl : b = c := bInts_inj (e1.trans e2.symm)
    refine PySem.W.eq_bytes ?_
    rw [beq_self_eq_true]; exact hq
noncomputable def lawTail (P : Params) : List Stmt := (lawBody P).drop 7
section
variable {w : World} {p : Program} {loose : List Str} {mean : ExcName → Option Value} {mg mb : Str → Option Value} {dp un : Nat} {gd : Option (List Code)} {A₀ : Around} {E : Value → Shared → Prop} {s : Shared} {g : Heap} {L fa : Addr} {cd : Value} {m : Str → Option Value} {Q : Flow → Shared → Prop}
  {cI : Obj} {own tb : List (Addr × Obj)} {ob : Array UInt8} {to tc : Tok} {lE : Addr} {vsE : List Value} {nE : Nat} {es : List Ent} {cutv : Int} {v0 : Option Value}
set_option maxRecDepth 100000 in
set_option maxHeartbeats 3000000 in
theorem law_tail (B : Below A₀ g [] g) (X : (Mine.hd.heap_39 w.params).In g) (Tp : Top p loose mean mg mb g) (hC : CodeHd g 76 72)
    (F0 : Fr g L s.heap m) (h1 : m (Str.ofString "entries") = some (.ref lE)) (h2 : m (Str.ofString "octets") = some (.bytes ob to)) (h3 : m (Str.ofString "cut") = some (.int cutv tc)) (h5 : m (Str.ofString "right") = some (.bool true))
    (hcI : cI.data = .cell v0) (N : News g L s.heap ((L + 1, cI) :: (tb ++ own))) (htb : TabSt 24 8 parsQ tb) (h72 : ∀ p ∈ own, p.1 ≠ 72) (h72L : L + 1 ≠ 72)
    (hm : (lE, listOf vsE.toArray nE) ∈ own) (hD : DatAll own vsE (es.map entD)) (hes : es.length ≤ 12) (hek : ∀ e ∈ es, EntOk e)
    (hlen : (KBw.bInts ob).length ≤ 1000000) (hraw : (walkGo false (decide (cutv ≠ 0)) es 0 [] [] []).1 = .ok → ∃ T2, pars false false 2 (KBw.bInts ob) 0 [] [] = (.ok, (walkGo false (decide (cutv ≠ 0)) es 0 [] [] []).2.1, T2))
    (hdp : dp + 150 < recursionLimit) (hun : un + 800 < cLine) (hPE : PassesOwn (model PySem.Challenge.rw_fc0001_01.row.prog w) (ktrTop dp un gd (Str.ofString "law") (lawScope w.params) L fa cd (cellsFrom (L+1) (lawScope w.params).names []) []) (envX (Str.ofString "law") (lawScope w.params) L fa cd (cellsFrom (L+1) (lawScope w.params).names [])) E)
    (hnext : ∀ h' tk' m' tb' news', Fr g L h' m' → News g L h' news' → TabSt 24 8 parsQ tb' → (∀ q ∈ tb', q ∈ news') → Q (.ret (.bool true)) { s with heap := h', toks := tk' }) :
    wpAny (model PySem.Challenge.rw_fc0001_01.row.prog w) (ktrTop dp un gd (Str.ofString "law") (lawScope w.params) L fa cd (cellsFrom (L+1) (lawScope w.params).names []) []) (execs (lawTail w.params) (envX (Str.ofString "law") (lawScope w.params) L fa cd (cellsFrom (L+1) (lawScope w.params).names []))) Q E s := by
  have X0 := X
  revert X
  k_fill
  intro X
  generalize hps : lawScope w.params = scope at hPE ⊢
  conv at hps => lhs; whnf
  subst hps
  generalize hrb : lawTail w.params = rb
  conv at hrb => lhs; whnf
  subst hrb
  have F := frL [(Str.ofString "entries", _), (Str.ofString "octets", _), (Str.ofString "cut", _), (Str.ofString "right", _)] (by
      intro p hp
      simp only [List.mem_cons, List.not_mem_nil, or_false] at hp
      rcases hp with rfl | rfl | rfl | rfl
      · exact h1
      · exact h2
      · exact h3
      · exact h5) F0
  clear F0 h1 h2 h3 h5
  replace hnext := Box.mk hnext
  replace hPE := Box.mk hPE
  replace hraw := Box.mk hraw
  have hmem : (lE, listOf vsE.toArray nE) ∈ (L + 1, cI) :: (tb ++ own) := .tail _ (List.mem_append_right _ hm)
  have hD2 : DatAll ((L + 1, cI) :: (tb ++ own)) vsE (es.map entD) := DatAll.mono (fun q hq => .tail _ (List.mem_append_right _ hq)) hD
  repeat' (first | (k_unfold; (try dsimp only)) | ((fail_if_success (with_reducible show (ite _ _ _))); (fail_if_success (with_reducible show wpAny _ _ (call (Value.ref _) [_, _, _] _) _ _ _)); first | walk1 | (dsimp only; walk1) | (leave1; try dsimp only)))
  refine c_walk _ lE vsE nE es cutv tc false hmem hD2 hes hek _ _ _ _ _ _ _ _ _ _ g g L _ _ _ _ B F X N Tp rfl (by omega) (by omega) ?_
  generalize hwg : walkGo false (decide (cutv ≠ 0)) es 0 [] [] [] = wg at hraw
  obtain ⟨o, R, T, I⟩ := wg
  dsimp only
  intro t dT dP lI oT oP ws nI to2 h2 tk2 F2 N2 ds2 hI lT lP
  clear F N
  replace hwg := Box.mk hwg
  repeat' (first | (k_unfold; (try dsimp only)) | ((fail_if_success (with_reducible show (ite _ _ _))); first | walk1 | (dsimp only; walk1) | (leave1; try dsimp only)))
  by_cases hem : (ob.toList == #[].toList) = true
  · rw [if_pos hem]
    have hemI : KBw.bInts ob = [] := by
      have e : ob.toList = [] := by simpa using hem
      unfold KBw.bInts; rw [e]; rfl
    repeat' (first | (k_unfold; (try dsimp only)) | ((fail_if_success (with_reducible show (ite _ _ _))); first | walk1 | (dsimp only; walk1) | (leave1; try dsimp only)))
    rw [if_pos rfl]
    repeat' (first | (k_unfold; (try dsimp only)) | ((fail_if_success (with_reducible show (ite _ _ _))); (fail_if_success (with_reducible show wpAny _ _ (call (Value.ref _) [_] _) _ _ _)); first | walk1 | (dsimp only; walk1) | (leave1; try dsimp only)))
    (with_reducible rename Fr _ _ _ _ => F9); (with_reducible rename News _ _ _ _ => N9)
    refine call_meth N9 (.head _) ?_
    refine c_raw0 own ob to tb htb h72 hlen _ _ _ _ _ _ _ _ _ _ g g L _ _ _ _ B F9 X Tp (fun q hq => N9 q (.tail _ (.tail _ (.tail _ (.tail _ (.tail _ (.tail _ hq))))))) rfl (by omega) (by omega) hC hemI ?_
    intro h5 g5 tk5 turn5 F5 N5 B5
    replace F5 := un_fr turn5 F5
    replace N5 := un_news turn5 N5
    clear F9 N9 B5 turn5
    repeat' (first | (k_unfold; (try dsimp only)) | ((fail_if_success (with_reducible show (ite _ _ _))); first | walk1 | (dsimp only; walk1) | (leave1; try dsimp only)))
    (with_reducible rename Fr _ _ _ _ => F9); (with_reducible rename News _ _ _ _ => N9)
    exact hnext.out _ _ _ tb _ F9 N9 htb (fun q hq => List.mem_append_left _ hq)
  · rw [if_neg hem]
    repeat' (first | (k_unfold; (try dsimp only)) | ((fail_if_success (with_reducible show (ite _ _ _))); first | walk1 | (dsimp only; walk1) | (leave1; try dsimp only)))
    cases o with
    | ok =>
      rw [if_pos (by decide +kernel)]
      repeat' (first | (k_unfold; (try dsimp only)) | ((fail_if_success (with_reducible show (ite _ _ _))); (fail_if_success (with_reducible show wpAny _ _ (call (Value.ref _) [_] _) _ _ _)); first | walk1 | (dsimp only; walk1) | (leave1; try dsimp only)))
      (with_reducible rename Fr _ _ _ _ => F9); (with_reducible rename News _ _ _ _ => N9)
      obtain ⟨Tz, hz⟩ := hraw.out rfl
      have hne : KBw.bInts ob ≠ [] := by
        intro e
        apply hem
        have : ob.toList = [] := by unfold KBw.bInts at e; simpa using e
        rw [this]; rfl
      refine call_meth N9 (.head _) ?_
      refine c_raw own ob to tb htb h72 hlen R Tz hz _ _ _ _ _ _ _ _ _ _ g g L _ _ _ _ B F9 X Tp (fun q hq => N9 q (.tail _ (.tail _ (.tail _ (.tail _ (.tail _ (.tail _ hq))))))) rfl (by omega) (by omega) hC hne ?_
      intro x d k1 k2 d1 d2 o1 o2 tb' h5 g5 tk5 turn5 F5 N5 hTb' hUp' B5 hds lo1 lo2
      replace F5 := un_fr turn5 F5
      replace N5 := un_news turn5 N5
      try clear F9
      try clear N9
      clear B5 turn5
      have hmem5 : (lE, listOf vsE.toArray nE) ∈ (x, instObj 104 d) :: (d, keptD w k1 k2 d1 d2) :: (d1, o1) :: (d2, o2) :: (tb' ++ own) := .tail _ (.tail _ (.tail _ (.tail _ (List.mem_append_right _ hm))))
      have hD5 : DatAll ((x, instObj 104 d) :: (d, keptD w k1 k2 d1 d2) :: (d1, o1) :: (d2, o2) :: (tb' ++ own)) vsE (es.map entD) := DatAll.mono (fun q hq => .tail _ (.tail _ (.tail _ (.tail _ (List.mem_append_right _ hq))))) hD
      repeat' (first | (k_unfold; (try dsimp only)) | ((fail_if_success (with_reducible show (ite _ _ _))); (fail_if_success (with_reducible show wpAny _ _ (call (Value.ref _) [_, _, _] _) _ _ _)); first | walk1 | (dsimp only; walk1) | (leave1; try dsimp only)))
      (with_reducible rename Fr _ _ _ _ => F6); (with_reducible rename News _ _ _ _ => N6)
      refine c_walk _ lE vsE nE es cutv tc false hmem5 hD5 hes hek _ _ _ _ _ _ _ _ _ _ g g L _ _ _ _ B F6 X N6 Tp rfl (by omega) (by omega) ?_
      rw [hwg.out]
      dsimp only
      intro t8 dT8 dP8 lI8 oT8 oP8 ws8 nI8 to8 h8 tk8 F8 N8 ds8 hI8 lT8 lP8
      try clear F6
      try clear N6
      try clear F5
      try clear N5
      obtain ⟨s1, s2⟩ := hds
      obtain ⟨s3, s4⟩ := ds8
      have hkR : KeysIn R := by
        have := (pars_keys false false 2 (KBw.bInts ob) 0 [] [] (fun _ h => (nomatch h)) (fun _ h => (nomatch h))).1
        rw [hz] at this; exact this
      obtain ⟨kv1, hkv1, rel1⟩ := id s1
      obtain ⟨kvT, hkvT, relT⟩ := id s3
      have hnd : (R.map (·.1)).Nodup := by
        obtain ⟨_, _, _, _, _, _, h⟩ := id hkv1
        rw [← rel1.keys]; exact h
      have hfrob : valueAt kv1 (Str.ofString "frob") = none := by
        refine rel_none rel1 fun h => ?_
        obtain ⟨p, hp, e⟩ := List.mem_map.mp h
        have := hkR p hp
        rw [e] at this
        exact absurd this (by decide +kernel)
      replace hz := Box.mk hz
      replace hkR := Box.mk hkR
      replace rel1 := Box.mk rel1
      replace relT := Box.mk relT
      replace hnd := Box.mk hnd
      replace s2 := Box.mk s2
      replace s4 := Box.mk s4
      replace hD := Box.mk hD
      replace hD2 := Box.mk hD2
      replace hD5 := Box.mk hD5
      replace hek := Box.mk hek
      replace hI := Box.mk hI
      replace hI8 := Box.mk hI8
      replace htb := Box.mk htb
      replace hTb' := Box.mk hTb'
      replace hUp' := Box.mk hUp'
      replace h72 := Box.mk h72
      replace ds2 := Box.mk ds2
      replace hem := Box.mk hem
      replace hne := Box.mk hne
      repeat' (first | (k_unfold; (try dsimp only)) | ((fail_if_success (with_reducible show (ite _ _ _))); first | walk1 | (dsimp only; walk1) | (leave1; try dsimp only)))
      rw [if_pos rfl]
      by_cases hcn : Str.ofString "SSL_CN" ∈ R.map (·.1)
      · obtain ⟨⟨k0, b0⟩, hb0, e0⟩ := List.mem_map.mp hcn
        dsimp only at e0
        subst e0
        obtain ⟨y1, hy1, hr1⟩ := rel_get rel1.out hnd.out hb0
        obtain ⟨y2, hy2, hr2⟩ := rel_get relT.out hnd.out hb0
        repeat' (first | (k_unfold; (try dsimp only)) | ((fail_if_success (with_reducible show (ite _ _ _))); first | walk1 | (dsimp only; walk1) | (leave1; try dsimp only)))
        rw [if_pos rfl]
        repeat' (first | (k_unfold; (try dsimp only)) | (k_end; wrow_close) | ((fail_if_success (with_reducible show (ite _ _ _))); (fail_if_success (with_reducible show wpAny _ _ (compareOp CmpOp.Eq y1 y2) _ _ _)); first | walk1 | (dsimp only; walk1) | (leave1; try dsimp only)))
        refine rv_cmp hr1 hr2 ?_
        repeat' (first | (k_unfold; (try dsimp only)) | ((fail_if_success (with_reducible show (ite _ _ _))); first | walk1 | (dsimp only; walk1) | (leave1; try dsimp only)))
        rw [if_pos rfl]
        repeat' (first | (k_unfold; (try dsimp only)) | ((fail_if_success (with_reducible show (ite _ _ _))); first | walk1 | (dsimp only; walk1) | (leave1; try dsimp only)))
        (with_reducible rename Fr _ _ _ _ => F9); (with_reducible rename News _ _ _ _ => N9)
        exact hnext.out _ _ _ tb' _ F9 N9 hTb'.out (fun q hq => .tail _ (.tail _ (.tail _ (.tail _ (.tail _ (.tail _ (.tail _ (.tail _ (List.mem_append_left _ hq)))))))))
      · have hy1 := rel_none rel1.out hcn
        have hy2 := rel_none relT.out hcn
        repeat' (first | (k_unfold; (try dsimp only)) | ((fail_if_success (with_reducible show (ite _ _ _))); first | walk1 | (dsimp only; walk1) | (leave1; try dsimp only)))
        rw [if_pos rfl]
        repeat' (first | (k_unfold; (try dsimp only)) | ((fail_if_success (with_reducible show (ite _ _ _))); first | walk1 | (dsimp only; walk1) | (leave1; try dsimp only)))
        rw [if_pos rfl]
        repeat' (first | (k_unfold; (try dsimp only)) | ((fail_if_success (with_reducible show (ite _ _ _))); first | walk1 | (dsimp only; walk1) | (leave1; try dsimp only)))
        (with_reducible rename Fr _ _ _ _ => F9); (with_reducible rename News _ _ _ _ => N9)
        exact hnext.out _ _ _ tb' _ F9 N9 hTb'.out (fun q hq => .tail _ (.tail _ (.tail _ (.tail _ (.tail _ (.tail _ (.tail _ (.tail _ (List.mem_append_left _ hq)))))))))
    | bad =>
      rw [if_neg (by decide +kernel)]
      repeat' (first | (k_unfold; (try dsimp only)) | ((fail_if_success (with_reducible show (ite _ _ _))); first | walk1 | (dsimp only; walk1) | (leave1; try dsimp only)))
      (with_reducible rename Fr _ _ _ _ => F9); (with_reducible rename News _ _ _ _ => N9)
      exact hnext.out _ _ _ tb _ F9 N9 htb (fun q hq => .tail _ (.tail _ (.tail _ (.tail _ (.tail _ (List.mem_append_left _ hq))))))
    | unk =>
      rw [if_neg (by decide +kernel)]
      repeat' (first | (k_unfold; (try dsimp only)) | ((fail_if_success (with_reducible show (ite _ _ _))); first | walk1 | (dsimp only; walk1) | (leave1; try dsimp only)))
      (with_reducible rename Fr _ _ _ _ => F9); (with_reducible rename News _ _ _ _ => N9)
      exact hnext.out _ _ _ tb _ F9 N9 htb (fun q hq => .tail _ (.tail _ (.tail _ (.tail _ (.tail _ (List.mem_append_left _ hq))))))
    | crash =>
      rw [if_neg (by decide +kernel)]
      repeat' (first | (k_unfold; (try dsimp only)) | ((fail_if_success (with_reducible show (ite _ _ _))); first | walk1 | (dsimp only; walk1) | (leave1; try dsimp only)))
      (with_reducible rename Fr _ _ _ _ => F9); (with_reducible rename News _ _ _ _ => N9)
      exact hnext.out _ _ _ tb _ F9 N9 htb (fun q hq => .tail _ (.tail _ (.tail _ (.tail _ (.tail _ (List.mem_append_left _ hq))))))
end
end Mine
end

section
theorem Mine.rst_T6 {prog : PySem.Program} {w : PySem.World} {A : PySem.Around} {Q : PySem.Flow → PySem.Shared → Prop} {E : PySem.Value → PySem.Shared → Prop} {s : PySem.Shared} {env : PySem.Env} {pos : PySem.Pos} : True ∨ PySem.wpAny (PySem.model prog w) A (PySem.exec (PySem.Stmt.Pass pos) env) Q E s := by
  w_on
  w_top off
  first | (right; walk1; fail) | exact .inl trivial
open PySem PySem.W PySem.Calls PyProof.Rows PyProof.V
set_option Elab.async false
namespace Mine
local macro_rules | `(tactic| k_room) => `(tactic| ktr_room)
local macro_rules | `(tactic| k_units) => `(tactic| ktr_units)
local macro_rules | `(tactic| k_enter) => `(tactic| first
  | (refine' code_def ?k1 ?k2 ?k3 ?k4 ?k5 ?kA ?kF ?kK ?k6 ?k7 ?k8 ?k9 ?kB ?_ ?c2 ?c3 ?c4 ?c5; (case kA => exact rfl); (case kF => exact rfl); (case kK => first | exact rfl | assumption); (case k1 => k_asm); (case k2 => k_asm); (case k3 => k_asm); (case k4 => k_asm); (case k5 => k_asm); (case k6 => k_is); (case k7 => k_is); (case k8 => k_room); (case k9 => first | exact BindsTo.of_eq rfl | exact binds_K (by k_in) rfl (by k_is) rfl rfl rfl | fail "k_enter: no rule for these arguments"); (case c5 => decide); (case kB => exact locs rfl); (case c2 => exact rfl); (case c3 => exact rfl); (case c4 => exact rfl); k_whole; intro g' L' h' FG' F' N' B' X' T'; (try dsimp only); (try k_lift B'); (try k_fold))
  | (refine' code_defC ?k1 ?k2 ?k3 ?k4 ?k5 ?kA ?kF ?kK ?k6 ?k7 ?k8 ?k9 ?kB ?kD ?_ ?c2 ?c3 ?c4; (case kA => exact rfl); (case kF => exact rfl); (case kK => first | exact rfl | assumption); (case k1 => k_asm); (case k2 => k_asm); (case k3 => k_asm); (case k4 => k_asm); (case k5 => k_asm); (case k6 => k_is); (case k7 => k_is); (case k8 => k_room); (case k9 => first | exact BindsTo.of_eq rfl | exact binds_K (by k_in) rfl (by k_is) rfl rfl rfl | fail "k_enter: no rule for these arguments"); (case kB => exact rfl); (case kD => decide +kernel); (case c2 => exact rfl); (case c3 => exact rfl); (case c4 => exact rfl); k_whole; intro g' L' h' tk' cells' FG' F' N' Y' B' X' T' l1; (try k_lt l1); k_cells Y'; (try simp only [List.cons_append, List.nil_append] at N'); (try dsimp only); (try k_lift B'); (try k_fold)))
local macro_rules | `(tactic| walk_at "exec For Name Subscript cons nil") => `(tactic| (k_here; (rename Fr _ _ _ _ => lF'); (with_unfolding_all refine' For_hold lF' ?_; k_whole)))
local macro_rules | `(tactic| walk_at "exec For Name Call cons nil") => `(tactic| (k_here; (rename Fr _ _ _ _ => lF'); (with_unfolding_all refine' For_hold lF' ?_; k_whole)))
local macro_rules | `(tactic| walk_at "exec For Name Tuple cons nil") => `(tactic| (k_here; (rename Fr _ _ _ _ => lF'); (with_unfolding_all refine' For_hold lF' ?_; k_whole)))
local macro_rules | `(tactic| walk_at "exec For Name Name cons nil") => `(tactic| (k_here; (rename Fr _ _ _ _ => lF'); (with_unfolding_all refine' For_hold lF' ?_; k_whole)))
local macro_rules | `(tactic| walk_at "exec For Tuple Name cons nil") => `(tactic| (k_here; (rename Fr _ _ _ _ => lF'); (with_unfolding_all refine' For_hold lF' ?_; k_whole)))
local macro_rules | `(tactic| k_all) => `(tactic| first | with_reducible assumption | exact ne_ge (by with_reducible assumption) (by omega) | exact List.forall_mem_nil _ | (refine' List.forall_mem_cons.mpr ⟨?a, ?b⟩; (case a => k_ne); (case b => k_all)))
local macro_rules | `(tactic| walk_at "call builtin:list.append") => `(tactic| (k_here; (with_reducible show wpAny _ _ (call (Value.builtin _) [Value.ref _, _]) _ _ _); k_dflt (refine' append_K ?k1 ?k2 ?k3 ?_ ?z; (case k1 => k_asm); (case k2 => k_asm); (case k3 => k_upd); (case z => (rw [List.size_toArray, sizeLine_eq]; omega)); k_whole); intro h' F' N'; (try k_sweep)))
local macro_rules | `(tactic| walk_at "CompSrc") => `(tactic| (k_here; refine CompSrc_hold ?_))
local macro_rules | `(tactic| walk_at "SrcLP") => `(tactic| (k_here; refine SrcLP_hold ?_))
local macro_rules | `(tactic| walk_at "getMethod bytes") => `(tactic| (k_here; (with_reducible refine J.method ?_)))
local macro_rules | `(tactic| walk_at "call builtin:bytes.join") => `(tactic| (k_here; k_dflt (refine' J.join_N ?jN ?jm ?jb ?jz ?_; (case jN => k_asm); (case jm => k_mem); (case jb => assumption); (case jz => first | assumption | omega)); intro _ _))
local macro_rules | `(tactic| k_mem) => `(tactic| first | exact List.Mem.head _ | with_reducible assumption | ((refine mem_of ?_); with_reducible assumption) | (refine List.Mem.tail _ ?_; k_mem))
local macro_rules | `(tactic| walk_at "call ref") => `(tactic| (k_here; (with_reducible show wpAny _ _ (call (Value.ref 135) _) _ _ _); k_dflt (refine' c_entry _ _ _ _ _ ?g0 ?g1 ?g2 _ _ _ _ _ _ _ _ _ _ _ _ _ _ _ _ _ ?k1 ?k2 ?k3 ?k4 ?k5 ?kK ?kd ?ku ?_; (case k1 => k_asm); (case k2 => k_asm); (case k3 => k_asm); (case k4 => k_asm); (case k5 => k_asm); (case kK => first | exact rfl | assumption); (case g0 => kba_bound); (case g1 => kba_bound); (case g2 => kba_bound); (case kd => ktr_room); (case ku => ktr_units); k_whole); intro t' h' tk' F' N'; (try k_sweep)))
noncomputable def lawHead (P : Params) : List Stmt := (lawBody P).take 3
mutual
theorem datIn_cut {own extra : List (Addr × Obj)} (hx : ∀ p ∈ extra, ∀ its n, p.2.data ≠ .seq its n) : ∀ {v : Value} {d : Dat}, DatIn (own ++ extra) v d → DatIn own v d
  | _, _, .none => .none
  | _, _, .bool b => .bool b
  | _, _, .int i t => .int i t
  | _, _, .str x t => .str x t
  | _, _, .bytes b t => .bytes b t
  | _, _, .tuple hm hd => .tuple ((List.mem_append.mp hm).elim id fun h => absurd rfl (hx _ h _ _)) (datAll_cut hx hd)
  | _, _, .list hm hd => .list ((List.mem_append.mp hm).elim id fun h => absurd rfl (hx _ h _ _)) (datAll_cut hx hd)
theorem datAll_cut {own extra : List (Addr × Obj)} (hx : ∀ p ∈ extra, ∀ its n, p.2.data ≠ .seq its n) : ∀ {vs : List Value} {ds : List Dat}, DatAll (own ++ extra) vs ds → DatAll own vs ds
  | _, _, .nil => .nil
  | _, _, .cons h1 h2 => .cons (datIn_cut hx h1) (datAll_cut hx h2)
end
section
variable {w : World} {p : Program} {loose : List Str} {mean : ExcName → Option Value} {mg mb : Str → Option Value} {dp un : Nat} {gd : Option (List Code)} {A₀ : Around} {E : Value → Shared → Prop} {s : Shared} {g : Heap} {L fa : Addr} {cd : Value} {m : Str → Option Value} {Q : Flow → Shared → Prop}
  {cI : Obj} {lS : Addr} {vs : List Value} {ns : List Int} {v0 : Option Value}
set_option maxRecDepth 100000 in
set_option maxHeartbeats 2000000 in
theorem law_head (B : Below A₀ g [] g) (X : (Mine.hd.heap_39 w.params).In g) (Tp : Top p loose mean mg mb g)
    (F0 : Fr g L s.heap m) (h1 : m (Str.ofString "script") = some (.ref lS)) (hl : g.IsList lS vs.toArray) (hi : IntsAre vs ns) (hnl : ns.length ≤ 63)
    (hcI : cI.data = .cell v0) (N : News g L s.heap [(L + 1, cI), (72, tabObj #[])]) (h72L : L + 1 ≠ 72)
    (hdp : dp + 150 < recursionLimit) (hun : un + 800 < cLine) (hPE : PassesOwn (model PySem.Challenge.rw_fc0001_01.row.prog w) (ktrTop dp un gd (Str.ofString "law") (lawScope w.params) L fa cd (cellsFrom (L+1) (lawScope w.params).names []) []) (envX (Str.ofString "law") (lawScope w.params) L fa cd (cellsFrom (L+1) (lawScope w.params).names [])) E)
    (hnext : ∀ h' tk' m' own lE vsE nE c1 tc tO, Fr g L h' m' → News g L h' ((L + 1, cI) :: ([(72, tabObj #[])] ++ own)) → (∀ q ∈ own, q.1 ≠ 72) → (∀ q ∈ own, q.1 ≠ L + 1) → (lE, listOf (List.toArray vsE) nE) ∈ own → DatAll own vsE ((ents ns).map entD) → 0 ≤ c1 ∧ c1 ≤ 6 → m' (Str.ofString "entries") = some (.ref lE) → m' (Str.ofString "octets") = some (.bytes (joinB ((ents ns).map fun e => entryB e.kind e.value)) tO) → m' (Str.ofString "cut") = some (.int c1 tc) → Q .next { s with heap := h', toks := tk' }) :
    wpAny (model PySem.Challenge.rw_fc0001_01.row.prog w) (ktrTop dp un gd (Str.ofString "law") (lawScope w.params) L fa cd (cellsFrom (L+1) (lawScope w.params).names []) []) (execs (lawHead w.params) (envX (Str.ofString "law") (lawScope w.params) L fa cd (cellsFrom (L+1) (lawScope w.params).names []))) Q E s := by
  have X0 := X
  revert X
  k_fill
  intro X
  generalize hps : lawScope w.params = scope at hPE ⊢
  conv at hps => lhs; whnf
  subst hps
  generalize hrb : lawHead w.params = rb
  conv at hrb => lhs; whnf
  subst hrb
  have F := fr_at F0 h1
  clear F0 h1
  replace hPE := Box.mk hPE
  replace hnext := Box.mk hnext
  repeat' (first | (k_unfold; (try dsimp only)) | ((fail_if_success (with_reducible show (ite _ _ _))); (fail_if_success (with_reducible show wpAny _ _ (call (Value.ref _) [_] _) _ _ _)); first | walk1 | (dsimp only; walk1) | (leave1; try dsimp only)))
  refine c_entries _ lS vs ns hi hnl _ _ _ _ _ _ _ _ _ _ g g L _ _ _ _ B F X N Tp rfl (by omega) (by omega) ⟨hl, ?_⟩
  intro lE vsE nE own h2 tk2 F2 N2 hmE hOff hD
  clear F N
  repeat' (first | (k_unfold; (try dsimp only)) | ((fail_if_success (with_reducible show (ite _ _ _))); first | walk1 | (dsimp only; walk1) | (leave1; try dsimp only)))
  refine Hold.intro ?_
  (with_reducible rename Fr _ _ _ _ => F4); (with_reducible rename News _ _ _ _ => N4)
  have hel : (ents ns).length ≤ 12 := by unfold ents; rw [List.length_map, List.length_take]; omega
  have hvl : vsE.length = (ents ns).length := by have := hD.length; rwa [List.length_map] at this
  have hek : ∀ e ∈ ents ns, EntOk e := by
    intro e he
    obtain ⟨n, _, rfl⟩ := List.mem_map.mp he
    exact entOf_ok n
  generalize hes : ents ns = es at hel hvl hek hD
  generalize hld : own ++ [(L + 1, cI), (72, tabObj #[])] = ld at N4 hD
  have hmE' : (lE, W.listOf vsE.toArray nE) ∈ ld := by rw [← hld]; exact List.mem_append_left _ hmE
  replace hek := Box.mk hek
  replace hOff := Box.mk hOff
  refine LCg.CompSrc.ledger (by rfl) F4 N4 hmE' (by rw [List.size_toArray, sizeLine_eq]; omega) ?_
  intro g2
  refine compRest_ind (fun i ys nw => nw = ld ∧ BytesAre ys ((es.take i).map fun e => entryB e.kind e.value)) ⟨rfl, .nil⟩ ?_ ?_
  · rintro i v I5 oI5 C5 oC5 D5 m5 ys nw h5 tk5 E5 hi5 hv5 ⟨rfl, hB⟩ hC5 hx5 F7 N7 off5 ne5
    have hi' : i < es.length := by rw [List.size_toArray] at hi5; omega
    obtain ⟨v', hv', hdv⟩ := datAll_get hD (i := i) (d := entD es[i]) (by rw [List.getElem?_map, List.getElem?_eq_getElem hi']; rfl)
    obtain rfl : v' = v := by
      have : vsE[i]? = some v := by simpa using hv5
      rw [hv'] at this; exact Option.some.inj this
    have hok := hek.out es[i] (List.getElem_mem hi')
    have hei : es[i]? = some es[i] := List.getElem?_eq_getElem hi'
    generalize es[i] = e at hdv hok hei
    obtain ⟨kk, ev, ei, eb⟩ := e
    obtain ⟨aE, tE1, tE2, nE1, il, wsS, nS, rfl, hmT, _, _⟩ := ent_inv hdv
    dsimp only at hmT
    have hkb := kinds_bd hok.kind
    have hsz := hok.hi
    dsimp only at hkb hsz
    have hb1 : 0 ≤ kk := hkb.1
    have hb2 : kk ≤ 255 := by omega
    have hb3 : ev.size < 65536 := by omega
    replace hB := Box.mk hB
    replace hok := Box.mk hok
    replace hei := Box.mk hei
    replace hdv := Box.mk hdv
    replace hD := Box.mk hD
    try clear F4
    try clear N4
    dsimp only
    show wpAny _ _ _ _ _ _
    k_fold
    repeat' (first | (k_unfold; (try dsimp only)) | ((fail_if_success (with_reducible show (ite _ _ _))); first | walk1 | (dsimp only; walk1) | (leave1; try dsimp only)))
    (with_reducible rename Fr _ _ _ _ => F9); (with_reducible rename News _ _ _ _ => N9)
    refine LCg.CompEnd.intro F9 N9 _ (fun p hp => hp) off5 (.inr ⟨_, hmE', rfl, _, rfl⟩) ⟨rfl, ?_⟩
    rw [List.take_add_one, hei.out, List.map_append]
    exact hB.out.snoc _ _
  · rintro ys nw ⟨rfl, hB⟩
    rw [List.size_toArray, hvl, List.take_length] at hB
    have hjs := joinB_le (M := 203) (bs := es.map fun e => entryB e.kind e.value) (by
      intro b hb
      obtain ⟨e, he, rfl⟩ := List.mem_map.mp hb
      rw [entryB_size]
      have := (hek.out e he).hi
      omega)
    rw [List.length_map] at hjs
    have hjs2 : (joinB (es.map fun e => entryB e.kind e.value)).size ≤ 16777216 := by omega
    try clear F4
    try clear N4
    repeat' (first | (k_unfold; (try dsimp only)) | ((fail_if_success (with_reducible show (ite _ _ _))); first | walk1 | (dsimp only; walk1) | (leave1; try dsimp only)))
    rename_i hJ tJ _ _ FJ NJ
    have NJ2 : News g L _ nw := fun q hq => NJ q (.tail _ hq)
    clear NJ
    by_cases hc3 : (((ns.length : Int).fmod 3) == 2) = true
    · rw [if_pos hc3]
      repeat' (first | (k_unfold; (try dsimp only)) | ((fail_if_success (with_reducible show (ite _ _ _))); first | walk1 | (dsimp only; walk1) | (leave1; try dsimp only)))
      show wpAny _ _ (execs [] _) _ _ _
      refine wpAny_execs_nil ?_
      (with_reducible rename Fr _ _ _ _ => F9); (with_reducible rename News _ _ _ _ => N9)
      subst hes
      subst hld
      have N10 : News g L _ (own ++ [(L + 1, cI), (72, tabObj #[])]) := fun q hq => N9 q (.tail _ hq)
      refine hnext.out _ _ _ own lE vsE nE _ _ _ F9 (fun q hq => N10 q ?_) (fun q hq => hOff.out q hq (72, tabObj #[]) (.tail _ (.head _))) (fun q hq => hOff.out q hq (L + 1, cI) (.head _)) hmE (datAll_cut ?_ hD) ?_ rfl rfl rfl
      · simp only [List.mem_cons, List.mem_append, List.not_mem_nil, or_false] at hq ⊢
        rcases hq with h | h | h
        · exact .inr (.inl h)
        · exact .inr (.inr h)
        · exact .inl h
      · intro q hq its n
        rcases List.mem_cons.mp hq with rfl | hq
        · rw [hcI]; exact fun e => by cases e
        · rw [List.mem_singleton.mp hq]; exact fun e => by cases e
      · have := fmod_bd (List.take 12 ns).sum (k := 7) (by decide); omega
    · rw [if_neg hc3]
      repeat' (first | (k_unfold; (try dsimp only)) | ((fail_if_success (with_reducible show (ite _ _ _))); first | walk1 | (dsimp only; walk1) | (leave1; try dsimp only)))
      show wpAny _ _ (execs [] _) _ _ _
      refine wpAny_execs_nil ?_
      (with_reducible rename Fr _ _ _ _ => F9); (with_reducible rename News _ _ _ _ => N9)
      subst hes
      subst hld
      refine hnext.out _ _ _ own lE vsE nE _ _ _ F9 (fun q hq => N9 q ?_) (fun q hq => hOff.out q hq (72, tabObj #[]) (.tail _ (.head _))) (fun q hq => hOff.out q hq (L + 1, cI) (.head _)) hmE (datAll_cut ?_ hD) ?_ rfl rfl rfl
      · simp only [List.mem_cons, List.mem_append, List.not_mem_nil, or_false] at hq ⊢
        rcases hq with h | h | h
        · exact .inr (.inl h)
        · exact .inr (.inr h)
        · exact .inl h
      · intro q hq its n
        rcases List.mem_cons.mp hq with rfl | hq
        · rw [hcI]; exact fun e => by cases e
        · rw [List.mem_singleton.mp hq]; exact fun e => by cases e
      · omega
end
end Mine
end

section
theorem Mine.rst_T7 {prog : PySem.Program} {w : PySem.World} {A : PySem.Around} {Q : PySem.Flow → PySem.Shared → Prop} {E : PySem.Value → PySem.Shared → Prop} {s : PySem.Shared} {env : PySem.Env} {pos : PySem.Pos} : True ∨ PySem.wpAny (PySem.model prog w) A (PySem.exec (PySem.Stmt.Pass pos) env) Q E s := by
  w_on
  w_top off
  first | (right; walk1; fail) | exact .inl trivial
open PySem PySem.W PySem.Calls PyProof.Rows PyProof.V
set_option Elab.async false
namespace Mine
local macro_rules | `(tactic| k_room) => `(tactic| ktr_room)
local macro_rules | `(tactic| k_units) => `(tactic| ktr_units)
local macro_rules | `(tactic| k_enter) => `(tactic| first
  | (refine' code_def ?k1 ?k2 ?k3 ?k4 ?k5 ?kA ?kF ?kK ?k6 ?k7 ?k8 ?k9 ?kB ?_ ?c2 ?c3 ?c4 ?c5; (case kA => exact rfl); (case kF => exact rfl); (case kK => first | exact rfl | assumption); (case k1 => k_asm); (case k2 => k_asm); (case k3 => k_asm); (case k4 => k_asm); (case k5 => k_asm); (case k6 => k_is); (case k7 => k_is); (case k8 => k_room); (case k9 => first | exact BindsTo.of_eq rfl | exact binds_K (by k_in) rfl (by k_is) rfl rfl rfl | fail "k_enter: no rule for these arguments"); (case c5 => decide); (case kB => exact locs rfl); (case c2 => exact rfl); (case c3 => exact rfl); (case c4 => exact rfl); k_whole; intro g' L' h' FG' F' N' B' X' T'; (try dsimp only); (try k_lift B'); (try k_fold))
  | (refine' code_defC ?k1 ?k2 ?k3 ?k4 ?k5 ?kA ?kF ?kK ?k6 ?k7 ?k8 ?k9 ?kB ?kD ?_ ?c2 ?c3 ?c4; (case kA => exact rfl); (case kF => exact rfl); (case kK => first | exact rfl | assumption); (case k1 => k_asm); (case k2 => k_asm); (case k3 => k_asm); (case k4 => k_asm); (case k5 => k_asm); (case k6 => k_is); (case k7 => k_is); (case k8 => k_room); (case k9 => first | exact BindsTo.of_eq rfl | exact binds_K (by k_in) rfl (by k_is) rfl rfl rfl | fail "k_enter: no rule for these arguments"); (case kB => exact rfl); (case kD => decide +kernel); (case c2 => exact rfl); (case c3 => exact rfl); (case c4 => exact rfl); k_whole; intro g' L' h' tk' cells' FG' F' N' Y' B' X' T' l1; (try k_lt l1); k_cells Y'; (try simp only [List.cons_append, List.nil_append] at N'); (try dsimp only); (try k_lift B'); (try k_fold)))
local macro_rules | `(tactic| walk_at "exec For Name Subscript cons nil") => `(tactic| (k_here; (rename Fr _ _ _ _ => lF'); (with_unfolding_all refine' For_hold lF' ?_; k_whole)))
local macro_rules | `(tactic| walk_at "exec For Name Call cons nil") => `(tactic| (k_here; (rename Fr _ _ _ _ => lF'); (with_unfolding_all refine' For_hold lF' ?_; k_whole)))
local macro_rules | `(tactic| walk_at "exec For Name Tuple cons nil") => `(tactic| (k_here; (rename Fr _ _ _ _ => lF'); (with_unfolding_all refine' For_hold lF' ?_; k_whole)))
local macro_rules | `(tactic| walk_at "exec For Name Name cons nil") => `(tactic| (k_here; (rename Fr _ _ _ _ => lF'); (with_unfolding_all refine' For_hold lF' ?_; k_whole)))
local macro_rules | `(tactic| walk_at "exec For Tuple Name cons nil") => `(tactic| (k_here; (rename Fr _ _ _ _ => lF'); (with_unfolding_all refine' For_hold lF' ?_; k_whole)))
local macro_rules | `(tactic| k_all) => `(tactic| first | with_reducible assumption | exact ne_ge (by with_reducible assumption) (by omega) | exact List.forall_mem_nil _ | (refine' List.forall_mem_cons.mpr ⟨?a, ?b⟩; (case a => k_ne); (case b => k_all)))
local macro_rules | `(tactic| walk_at "call builtin:list.append") => `(tactic| (k_here; (with_reducible show wpAny _ _ (call (Value.builtin _) [Value.ref _, _]) _ _ _); k_dflt (refine' append_K ?k1 ?k2 ?k3 ?_ ?z; (case k1 => k_asm); (case k2 => k_asm); (case k3 => k_upd); (case z => (rw [List.size_toArray, sizeLine_eq]; omega)); k_whole); intro h' F' N'; (try k_sweep)))
local macro_rules | `(tactic| k_mem) => `(tactic| first | exact List.Mem.head _ | with_reducible assumption | ((refine mem_of ?_); with_reducible assumption) | (refine List.Mem.tail _ ?_; k_mem))
theorem sub_last {prog : Program} {w : World} {A : Around} {E : Value → Shared → Prop} {s : Shared} {h₀ : Heap} {L l : Addr} {news : List (Addr × Obj)} {vs : List Value} {n : Nat} {x : Value} {t : Tok} {Q : Value → Shared → Prop} {value slice : PySem.Expr} (N : News h₀ L s.heap news) (hm : (l, listOf vs.toArray n) ∈ news) (hx : vs[vs.length - 1]? = some x) (h : Q x s)
    (hs : subscripted slice false (.ref l) (.int (-1) t) = operate [.ref l, .int (-1) t] (getItem (.ref l) (.int (-1) t)) := by with_unfolding_all rfl) :
    wpAny (model prog w) A (subscriptTail value slice (.ref l) (.int (-1) t)) Q E s := by
  have hpos : 0 < vs.length := by
    have := (List.getElem?_eq_some_iff.mp hx).1; omega
  refine tail_any (News.isList N hm).typeIs slot_list_getitem.lookup (wpAny_getItem_list_neg (x := x) (News.isList N hm) (by decide) (by rw [List.size_toArray]; omega) (by decide) ?_ h) hs
  rw [List.size_toArray, show ((-1 : Int) + (vs.length : Int)).toNat = vs.length - 1 by omega]
  simpa using hx
local macro_rules | `(tactic| walk_at "subscriptTail") => `(tactic| (k_here; (with_reducible show wpAny _ _ (subscriptTail _ _ (Value.ref _) (Value.int _ _)) _ _ _); (fail_if_success (with_reducible show wpAny _ _ (subscriptTail _ _ (Value.ref _) (Value.int 1 _)) _ _ _)); (with_unfolding_all refine' sub_last ?N ?m ?x ?_ ?z; (case N => k_asm); (case m => k_mem); (case x => with_reducible assumption); (case z => with_unfolding_all rfl); k_whole)))
noncomputable def lawCut (P : Params) : List Stmt := ((lawBody P).drop 3).take 3
section
variable {w : World} {p : Program} {loose : List Str} {mean : ExcName → Option Value} {mg mb : Str → Option Value} {A : Around} {cl : List (Str × Addr)} {E : Value → Shared → Prop} {s : Shared} {g : Heap} {L fa : Addr} {cd : Value} {m : Str → Option Value} {Q : Flow → Shared → Prop}
  {own : List (Addr × Obj)} {lE : Addr} {vsE : List Value} {nE : Nat} {es : List Ent} {c1 : Int} {tc tO : Tok} {full : Array UInt8}
set_option maxRecDepth 100000 in
set_option maxHeartbeats 2000000 in
theorem law_cut (X : (Mine.hd.heap_39 w.params).In g) (Tp : Top p loose mean mg mb g)
    (F0 : Fr g L s.heap m) (N : News g L s.heap own) (h1 : m (Str.ofString "entries") = some (.ref lE)) (h2 : m (Str.ofString "octets") = some (.bytes full tO)) (h3 : m (Str.ofString "cut") = some (.int c1 tc))
    (hm : (lE, listOf vsE.toArray nE) ∈ own) (hD : DatAll own vsE (es.map entD)) (hes : es.length ≤ 12) (hek : ∀ e ∈ es, EntOk e) (hc1 : 0 ≤ c1 ∧ c1 ≤ 6) (hfl : full.size ≤ 1000000)
    (hAh : A.handled = none) (hfv : ∀ e, es.getLast? = some e → e.value.size ≤ full.size)
    (hnext : ∀ h' tk' m' ob to tc' c2, Fr g L h' m' → News g L h' own → (∀ e, es.getLast? = some e → c2 = min c1 e.value.size) → (es = [] → c2 = 0) → KBw.bInts ob = (KBw.bInts full).take ((KBw.bInts full).length - c2.toNat) → m' (Str.ofString "entries") = some (.ref lE) → m' (Str.ofString "octets") = some (.bytes ob to) → m' (Str.ofString "cut") = some (.int c2 tc') → m' (Str.ofString "right") = some (.bool true) → Q .next { s with heap := h', toks := tk' }) :
    wpAny (model PySem.Challenge.rw_fc0001_01.row.prog w) A (execs (lawCut w.params) (envX (Str.ofString "law") (lawScope w.params) L fa cd cl)) Q E s := by
  revert X
  k_fill
  intro X
  generalize hps : lawScope w.params = scope
  conv at hps => lhs; whnf
  subst hps
  generalize hrb : lawCut w.params = rb
  conv at hrb => lhs; whnf
  subst hrb
  have F := frL [(Str.ofString "entries", _), (Str.ofString "octets", _), (Str.ofString "cut", _)] (by
      intro p hp
      simp only [List.mem_cons, List.not_mem_nil, or_false] at hp
      rcases hp with rfl | rfl | rfl
      · exact h1
      · exact h2
      · exact h3) F0
  clear F0 h1 h2 h3
  have hvl : vsE.length = es.length := by have := hD.length; rwa [List.length_map] at this
  generalize hks : KBw.bInts full = ks at hnext
  have hkl : ks.length = full.size := by rw [← hks]; exact KBw.ints_length full
  replace hnext := Box.mk hnext
  repeat' (first | (k_unfold; (try dsimp only)) | ((fail_if_success (with_reducible show (ite _ _ _))); first | walk1 | (dsimp only; walk1) | (leave1; try dsimp only)))
  (with_reducible rename Fr _ _ _ _ => F4); (with_reducible rename News _ _ _ _ => N4)
  refine wpAny_truthy_list (News.isList N4 hm) (by rw [List.size_toArray]; omega) ?_
  by_cases hne : es = []
  · subst hne
    obtain rfl : vsE = [] := List.eq_nil_of_length_eq_zero (by simpa using hvl)
    rw [if_neg (by decide)]
    repeat' (first | (k_unfold; (try dsimp only)) | ((fail_if_success (with_reducible show (ite _ _ _))); first | walk1 | (dsimp only; walk1) | (leave1; try dsimp only)))
    (with_reducible rename Fr _ _ _ _ => F9); (with_reducible rename News _ _ _ _ => N9)
    rename_i kbcK _ _ 
    refine wpAny_execs_nil (hnext.out _ _ _ _ _ _ 0 F9 N9 (fun _ h => by cases h) (fun _ => rfl) ?_ rfl rfl rfl rfl)
    rw [kbcK, Int.sub_zero, clipAt_nat, Nat.min_self]; rfl
  · have hpos : 0 < es.length := List.length_pos_iff.mpr hne
    rw [if_pos (by cases vsE with | nil => simp at hvl; omega | cons => rfl)]
    have hlt : es.length - 1 < es.length := by omega
    obtain ⟨v', hv', hdv⟩ := datAll_get hD (i := es.length - 1) (d := entD es[es.length - 1]) (by rw [List.getElem?_map, List.getElem?_eq_getElem hlt]; rfl)
    have hok := hek es[es.length - 1] (List.getElem_mem hlt)
    have hgl : es.getLast? = some es[es.length - 1] := by rw [List.getLast?_eq_getElem?, List.getElem?_eq_getElem hlt]
    generalize es[es.length - 1] = e at hdv hok hgl
    obtain ⟨kk, ev, ei, eb⟩ := e
    obtain ⟨aE, tE1, tE2, nE1, il, wsS, nS, rfl, hmT, _, _⟩ := ent_inv hdv
    dsimp only at hmT
    rw [← hvl] at hv'
    have hsz := hok.hi
    dsimp only at hsz
    have hevl := KBw.ints_length ev
    generalize hevs : KBw.bInts ev = evs at hevl
    have hevb : evs.length ≤ 1000000 := by omega
    replace hok := Box.mk hok
    replace hgl := Box.mk hgl
    replace hdv := Box.mk hdv
    replace hD := Box.mk hD
    replace hek := Box.mk hek
    repeat' (first | (k_unfold; (try dsimp only)) | ((fail_if_success (with_reducible show (ite _ _ _))); first | walk1 | (dsimp only; walk1) | (leave1; try dsimp only)))
    (with_reducible rename Fr _ _ _ _ => F9); (with_reducible rename News _ _ _ _ => N9)
    refine min_two_N (hh := hAh) F9 N9 ?_
    intro h10 tk10 F10 N10
    try clear F9
    try clear N9
    generalize hc2 : (if (evs.length : Int) < c1 then (evs.length : Int) else c1) = c2
    have hc2b : 0 ≤ c2 ∧ c2 ≤ 6 := by rw [← hc2]; split <;> omega
    repeat' (first | (k_unfold; (try dsimp only)) | ((fail_if_success (with_reducible show (ite _ _ _))); first | walk1 | (dsimp only; walk1) | (leave1; try dsimp only)))
    (with_reducible rename Fr _ _ _ _ => F9); (with_reducible rename News _ _ _ _ => N9)
    rename_i kbcK _ _
    have hfe := hfv _ hgl.out
    dsimp only at hfe
    have hc2l : c2 ≤ ks.length := by rw [← hc2, hkl]; split <;> omega
    refine wpAny_execs_nil (hnext.out _ _ _ _ _ _ c2 F9 N9 (fun e h => ?_) (fun h => absurd h hne) ?_ rfl rfl rfl rfl)
    · rw [hgl.out] at h
      cases h
      dsimp only
      rw [← hc2]
      split <;> omega
    · rw [kbcK, show ((ks.length : Int) - c2) = ((ks.length - c2.toNat : Nat) : Int) by omega, clipAt_nat, Nat.min_eq_left (by omega)]
end
end Mine
end

section
theorem Mine.rst_V1 {prog : PySem.Program} {w : PySem.World} {A : PySem.Around} {Q : PySem.Flow → PySem.Shared → Prop} {E : PySem.Value → PySem.Shared → Prop} {s : PySem.Shared} {env : PySem.Env} {pos : PySem.Pos} : True ∨ PySem.wpAny (PySem.model prog w) A (PySem.exec (PySem.Stmt.Pass pos) env) Q E s := by
  w_on
  w_top off
  first | (right; walk1; fail) | exact .inl trivial
open PySem PySem.W PySem.Calls PyProof.Rows PyProof.V
set_option Elab.async false
namespace Mine
/-! The plain law: what parse computes on the octets of the entries is what the law's own walk tells. -/
def inNames : List Str := [Str.ofString "SSL_VERSION", Str.ofString "SSL_CN", Str.ofString "SSL_CIPHER", Str.ofString "SSL_SIG_ALG", Str.ofString "SSL_KEY_ALG", Str.ofString "x26"]
def isIn (k : Str) : Bool := decide (k ∈ inNames)
theorem small_in {k : Int} (h : 33 ≤ k ∧ k ≤ 38) : isIn (nm k) = true := by
  have : k = 33 ∨ k = 34 ∨ k = 35 ∨ k = 36 ∨ k = 37 ∨ k = 38 := by omega
  rcases this with rfl | rfl | rfl | rfl | rfl | rfl <;> decide +kernel
def topK : List Int := [1, 2, 5, 48, 3, 224, 32]
theorem top_out {k : Int} (h : k ∈ topK) : isIn (nm k) = false := by
  simp only [topK, List.mem_cons, List.not_mem_nil, or_false] at h
  rcases h with rfl | rfl | rfl | rfl | rfl | rfl | rfl <;> decide +kernel
theorem top_kinds {k : Int} (h : k ∈ topK) : k ∈ kinds := by
  simp only [topK, List.mem_cons, List.not_mem_nil, or_false] at h
  rcases h with rfl | rfl | rfl | rfl | rfl | rfl | rfl <;> decide
section
variable {β : Type}
theorem put_keys (l : List (Str × β)) (k : Str) (v : β) (x : Str) : x ∈ (put l k v).map (·.1) ↔ x ∈ l.map (·.1) ∨ x = k := by
  unfold put
  split
  · rename_i h
    obtain ⟨p, hp, hk⟩ := List.any_eq_true.mp h
    have hk : p.1 = k := by simpa using hk
    have e : (l.map (fun kv => if kv.1 = k then (kv.1, v) else kv)).map (·.1) = l.map (·.1) := by
      rw [List.map_map]
      refine List.map_congr_left fun q _ => ?_
      dsimp only [Function.comp]
      split <;> rfl
    rw [e]
    refine ⟨.inl, fun h => h.elim id fun e => ?_⟩
    exact List.mem_map.mpr ⟨p, hp, by rw [hk, e]⟩
  · rw [List.map_append, List.mem_append]
    simp
theorem put_nodup {l : List (Str × β)} (h : (l.map (·.1)).Nodup) (k : Str) (v : β) : ((put l k v).map (·.1)).Nodup := by
  unfold put
  split
  · have e : (l.map (fun kv => if kv.1 = k then (kv.1, v) else kv)).map (·.1) = l.map (·.1) := by
      rw [List.map_map]
      refine List.map_congr_left fun q _ => ?_
      dsimp only [Function.comp]
      split <;> rfl
    rw [e]; exact h
  · rename_i hn
    rw [List.map_append, List.nodup_append]
    refine ⟨h, by simp, ?_⟩
    intro a ha b hb
    simp only [List.map_cons, List.map_nil, List.mem_singleton] at hb
    subst hb
    intro e
    subst e
    obtain ⟨p, hp, rfl⟩ := List.mem_map.mp ha
    exact hn (List.any_eq_true.mpr ⟨p, hp, by simp⟩)
theorem put_filter_in {l : List (Str × β)} {k : Str} {v : β} (hk : isIn k = true) : (put l k v).filter (fun p => !isIn p.1) = l.filter (fun p => !isIn p.1) := by
  unfold put
  split
  · rename_i h
    clear h
    induction l with
    | nil => rfl
    | cons p r ih =>
      rw [List.map_cons, List.filter_cons, List.filter_cons, ih]
      by_cases e : p.1 = k
      · simp [e, hk]
      · simp [e]
  · rw [List.filter_append]
    simp [hk]
theorem put_filter_out {l : List (Str × β)} {k : Str} {v : β} (hk : isIn k = false) : (put l k v).filter (fun p => !isIn p.1) = put (l.filter (fun p => !isIn p.1)) k v := by
  have hany : (l.filter (fun p => !isIn p.1)).any (fun kv => kv.1 = k) = l.any (fun kv => kv.1 = k) := by
    rw [Bool.eq_iff_iff, List.any_eq_true, List.any_eq_true]
    constructor
    · rintro ⟨p, hp, e⟩; exact ⟨p, (List.mem_filter.mp hp).1, e⟩
    · rintro ⟨p, hp, e⟩
      refine ⟨p, List.mem_filter.mpr ⟨hp, ?_⟩, e⟩
      have : p.1 = k := by simpa using e
      rw [this, hk]; rfl
  unfold put
  rw [hany]
  split
  · rename_i h
    clear h hany
    induction l with
    | nil => rfl
    | cons p r ih =>
      rw [List.map_cons, List.filter_cons, List.filter_cons, ih]
      by_cases e : p.1 = k
      · simp [e, hk]
      · simp only [e, if_false]
        split <;> simp [e]
  · rw [List.filter_append]
    simp [hk]
end
structure Inv (T' T : LS) (I : List Str) : Prop where
  top : T'.filter (fun p => !isIn p.1) = T
  nodup : (T'.map (·.1)).Nodup
  mem : ∀ k, isIn k = true → (k ∈ T'.map (·.1) ↔ k ∈ I)
  sub : ∀ k ∈ I, isIn k = true
theorem Inv.nil : Inv [] [] [] := ⟨rfl, .nil, fun _ _ => Iff.rfl, fun _ h => nomatch h⟩
theorem Inv.inner {T' T : LS} {I : List Str} (h : Inv T' T I) {k : Str} (hk : isIn k = true) (v : Int) : Inv (put T' k v) T (I ++ [k]) := by
  refine ⟨by rw [put_filter_in hk]; exact h.top, put_nodup h.nodup k v, fun x hx => ?_, fun x hx => ?_⟩
  · rw [put_keys, List.mem_append, List.mem_singleton, h.mem x hx]
  · rcases List.mem_append.mp hx with hx | hx
    · exact h.sub x hx
    · rw [List.mem_singleton.mp hx]; exact hk
theorem Inv.outer {T' T : LS} {I : List Str} (h : Inv T' T I) {k : Str} (hk : isIn k = false) (v : Int) : Inv (put T' k v) (put T k v) I := by
  refine ⟨by rw [put_filter_out hk, h.top], put_nodup h.nodup k v, fun x hx => ?_, h.sub⟩
  rw [put_keys, h.mem x hx]
  refine ⟨fun q => q.elim id fun e => ?_, .inl⟩
  rw [e, hk] at hx; cases hx
abbrev entI (k : Int) (v : List Int) : List Int := k :: 0 :: (v.length : Int) :: v
def flatI (l : List (Int × Array UInt8)) : List Int := (l.map fun p => entI p.1 (KBw.bInts p.2)).flatten
theorem value2 (n : Nat) : KFB.value [0, (n : Int)] = n := by
  unfold KFB.value; simp
theorem pars_inner (strict po : Bool) (sub : List Int → Int → RS → LS → Res) (off : Int) (tail : List Int) (br : Bool) (hbr : (br = false ∧ tail = []) ∨ (br = true ∧ ∃ x : List Int, x.length < 9 ∧ tail = 33 :: 0 :: 9 :: x)) :
    ∀ (l : List (Int × Array UInt8)) (n : Nat) (i : Int) (R : RS) (T' T : LS) (I : List Str), (∀ p ∈ l, 33 ≤ p.1 ∧ p.1 ≤ 38) → (flatI l ++ tail).length < n → Inv T' T I →
      ∃ T2, parsGo strict po sub n (flatI l ++ tail) i off R T' = ((if (walkIn strict l R I).1 then (if br then .bad else .ok) else .unk), (walkIn strict l R I).2.1, T2) ∧ ((walkIn strict l R I).1 = true → Inv T2 T (walkIn strict l R I).2.2)
  | [], n, i, R, T', T, I, _, hn, hI => by
    show ∃ T2, parsGo strict po sub n tail i off R T' = ((if br then .bad else .ok), R, T2) ∧ (true = true → Inv T2 T I)
    obtain ⟨m, rfl⟩ : ∃ m, n = m + 1 := ⟨n - 1, by omega⟩
    rcases hbr with ⟨rfl, rfl⟩ | ⟨rfl, x, hx, rfl⟩
    · exact ⟨T', rfl, fun _ => hI⟩
    · refine ⟨T', ?_, fun _ => hI⟩
      rw [parsGo_bad (ln := 9) (by decide) (by show KFB.value [0, 9] = ((9 : Nat) : Int); decide) (by simp only [List.drop_succ_cons, List.drop_zero, List.length_take]; omega)]
      rfl
  | (k, v) :: r, n, i, R, T', T, I, hl, hn, hI => by
    have hk := hl (k, v) (.head _)
    dsimp only at hk
    have hkk := small_kind hk
    have hlen := KBw.ints_length v
    have e1 : flatI ((k, v) :: r) ++ tail = k :: 0 :: ((KBw.bInts v).length : Int) :: (KBw.bInts v ++ (flatI r ++ tail)) := by
      show (entI k (KBw.bInts v) ++ flatI r) ++ tail = _
      simp
    rw [e1] at hn ⊢
    obtain ⟨m, rfl⟩ : ∃ m, n = m + 1 := ⟨n - 1, by omega⟩
    have t1 : KFB.value (List.take 2 (0 :: ((KBw.bInts v).length : Int) :: (KBw.bInts v ++ (flatI r ++ tail)))) = ((KBw.bInts v).length : Nat) := value2 _
    have t2 : List.take (KBw.bInts v).length (List.drop 2 (0 :: ((KBw.bInts v).length : Int) :: (KBw.bInts v ++ (flatI r ++ tail)))) = KBw.bInts v := by
      show List.take _ (KBw.bInts v ++ _) = _
      rw [List.take_left']; rfl
    have t3 : List.drop (KBw.bInts v).length (List.drop 2 (0 :: ((KBw.bInts v).length : Int) :: (KBw.bInts v ++ (flatI r ++ tail)))) = flatI r ++ tail := by
      show List.drop _ (KBw.bInts v ++ _) = _
      rw [List.drop_left']; rfl
    have hns : ¬ (List.take (KBw.bInts v).length (List.drop 2 (0 :: ((KBw.bInts v).length : Int) :: (KBw.bInts v ++ (flatI r ++ tail))))).length < (KBw.bInts v).length := by rw [t2]; omega
    by_cases hu : (strict && !known k) = true
    · have hst : strict = true := by cases strict; simp at hu; rfl
      have hkn : known k = false := by cases h : known k; rfl; rw [h] at hu; simp at hu
      refine ⟨T', ?_, ?_⟩
      · rw [parsGo_unk hkk t1 hns hst hkn]
        unfold walkIn; rw [hu]; rfl
      · unfold walkIn; rw [hu]; exact fun h => by cases h
    · have hu' : (strict && !known k) = false := Bool.eq_false_iff.mpr hu
      have hw : walkIn strict ((k, v) :: r) R I = walkIn strict r (put R (nm k) (.oct (KBw.bInts v))) (I ++ [nm k]) := by
        conv => lhs; unfold walkIn
        rw [hu', if_neg (by decide)]
      obtain ⟨T2, h2, h3⟩ := pars_inner strict po sub off tail br hbr r m (i + (3 + ((KBw.bInts v).length : Nat))) (put R (nm k) (.oct (KBw.bInts v))) (put T' (nm k) (off + i)) T (I ++ [nm k]) (fun p hp => hl p (.tail _ hp)) (by simp only [List.length_cons, List.length_append] at hn ⊢; omega) (hI.inner (small_in hk) _)
      refine ⟨T2, ?_, ?_⟩
      · rw [parsGo_plain hkk t1 hns hu' (by omega), t2, t3, h2, hw]
      · rw [hw]; exact h3
end Mine
end

section
theorem Mine.rst_V2 {prog : PySem.Program} {w : PySem.World} {A : PySem.Around} {Q : PySem.Flow → PySem.Shared → Prop} {E : PySem.Value → PySem.Shared → Prop} {s : PySem.Shared} {env : PySem.Env} {pos : PySem.Pos} : True ∨ PySem.wpAny (PySem.model prog w) A (PySem.exec (PySem.Stmt.Pass pos) env) Q E s := by
  w_on
  w_top off
  first | (right; walk1; fail) | exact .inl trivial
open PySem PySem.W PySem.Calls PyProof.Rows PyProof.V
set_option Elab.async false
namespace Mine
structure Wf (e : Ent) : Prop where
  top : e.kind ∈ topK
  ssl : e.kind = 32 → ∃ (c0 a b c d : Int) (tail : List Int), KBw.bInts e.value = c0 :: a :: b :: c :: d :: (flatI e.inner ++ tail) ∧ ((e.broken = false ∧ tail = []) ∨ (e.broken = true ∧ ∃ x : List Int, x.length < 9 ∧ tail = 33 :: 0 :: 9 :: x))
  small : ∀ p ∈ e.inner, 33 ≤ p.1 ∧ p.1 ≤ 38
  hi : e.value.size ≤ 200
def flatC : List Ent → Nat → List Int
  | [], _ => []
  | [e], c => e.kind :: 0 :: ((KBw.bInts e.value).length : Int) :: (KBw.bInts e.value).take ((KBw.bInts e.value).length - c)
  | e :: e2 :: r, c => e.kind :: 0 :: ((KBw.bInts e.value).length : Int) :: (KBw.bInts e.value ++ flatC (e2 :: r) c)
theorem flatC_cons {e : Ent} {r : List Ent} {c : Nat} (h : ¬ (r = [] ∧ c ≠ 0)) : flatC (e :: r) c = e.kind :: 0 :: ((KBw.bInts e.value).length : Int) :: (KBw.bInts e.value ++ flatC r c) := by
  cases r with
  | nil =>
    have hc : c = 0 := by
      by_cases q : c = 0
      · exact q
      · exact absurd ⟨rfl, q⟩ h
    subst hc
    show _ :: _ :: _ :: List.take (_ - 0) _ = _
    rw [Nat.sub_zero, List.take_length]
    show _ = _ :: _ :: _ :: (_ ++ [])
    rw [List.append_nil]
  | cons e2 r => rfl
structure MainOut (strict po : Bool) (W : Out × RS × LS × List Str) (p : Res) : Prop where
  r : p.2.1 = W.2.1
  ok : W.1 = .ok → p.1 = .ok ∧ Inv p.2.2 W.2.2.1 W.2.2.2
  unk : W.1 = .unk → p.1 = .unk
  badp : W.1 = .bad → po = true → (p.1 = .ok ∨ p.1 = .bad) ∧ Inv p.2.2 W.2.2.1 W.2.2.2
  badn : W.1 = .bad → po = false → p.1 = .bad
  nc : W.1 ≠ .crash
theorem pars_main (strict po : Bool) (c : Nat) : ∀ (es : List Ent) (n : Nat) (i : Int) (R : RS) (T' T : LS) (I : List Str), (∀ e ∈ es, Wf e) → (∀ e, es.getLast? = some e → c ≤ e.value.size) → (flatC es c).length < n → Inv T' T I →
    MainOut strict po (walkGo strict (decide (c ≠ 0)) es i R T I) (parsGo strict po (pars strict po 1) n (flatC es c) i 0 R T')
  | [], n, i, R, T', T, I, _, _, hn, hI => by
    obtain ⟨m, rfl⟩ : ∃ m, n = m + 1 := ⟨n - 1, by omega⟩
    exact ⟨rfl, fun _ => ⟨rfl, hI⟩, fun h => (by cases h), fun h => (by cases h), fun h => (by cases h), fun h => (by cases h)⟩
  | e :: r, n, i, R, T', T, I, hwf, hc, hn, hI => by
    have we := hwf e (.head _)
    have hkk := top_kinds we.top
    have hlen := KBw.ints_length e.value
    by_cases hcut : r = [] ∧ c ≠ 0
    · obtain ⟨rfl, hc0⟩ := hcut
      have hce := hc e rfl
      have e1 : flatC [e] c = e.kind :: 0 :: ((KBw.bInts e.value).length : Int) :: (KBw.bInts e.value).take ((KBw.bInts e.value).length - c) := rfl
      rw [e1] at hn ⊢
      obtain ⟨m, rfl⟩ : ∃ m, n = m + 1 := ⟨n - 1, by omega⟩
      have hb := parsGo_bad (strict := strict) (po := po) (sub := pars strict po 1) (n := m) (ln := (KBw.bInts e.value).length) (r := 0 :: ((KBw.bInts e.value).length : Int) :: (KBw.bInts e.value).take ((KBw.bInts e.value).length - c)) (i := i) (off := 0) (R := R) (T := T') hkk (value2 _) (by
        show (List.take _ (List.take _ _)).length < _
        rw [List.length_take, List.length_take]; omega)
      rw [walkGo_cut (by rw [decide_eq_true hc0]; rfl), hb]
      exact ⟨rfl, fun h => (by cases h), fun h => (by cases h), fun _ _ => ⟨.inr rfl, hI⟩, fun _ _ => rfl, fun h => (by cases h)⟩
    · have hce : (decide (c ≠ 0) && r.isEmpty) = false := by
        rw [Bool.and_eq_false_iff]
        by_cases q : r = []
        · left
          exact decide_eq_false fun h => hcut ⟨q, h⟩
        · right; exact List.isEmpty_eq_false_iff.mpr q
      rw [flatC_cons hcut] at hn ⊢
      obtain ⟨m, rfl⟩ : ∃ m, n = m + 1 := ⟨n - 1, by omega⟩
      have hc' : ∀ e', r.getLast? = some e' → c ≤ e'.value.size := by
        intro e' he
        apply hc e'
        cases r with
        | nil => simp at he
        | cons a r => rw [List.getLast?_cons_cons]; exact he
      obtain ⟨kk, ev, ei, eb⟩ := e
      dsimp only at hlen hkk hn ⊢
      have t1 : KFB.value (List.take 2 (0 :: ((KBw.bInts ev).length : Int) :: (KBw.bInts ev ++ flatC r c))) = ((KBw.bInts ev).length : Nat) := value2 _
      have t2 : List.take (KBw.bInts ev).length (List.drop 2 (0 :: ((KBw.bInts ev).length : Int) :: (KBw.bInts ev ++ flatC r c))) = KBw.bInts ev := by
        show List.take _ (KBw.bInts ev ++ _) = _
        rw [List.take_left']; rfl
      have t3 : List.drop (KBw.bInts ev).length (List.drop 2 (0 :: ((KBw.bInts ev).length : Int) :: (KBw.bInts ev ++ flatC r c))) = flatC r c := by
        show List.drop _ (KBw.bInts ev ++ _) = _
        rw [List.drop_left']; rfl
      have hns : ¬ (List.take (KBw.bInts ev).length (List.drop 2 (0 :: ((KBw.bInts ev).length : Int) :: (KBw.bInts ev ++ flatC r c)))).length < (KBw.bInts ev).length := by rw [t2]; omega
      have hm : (flatC r c).length < m := by simp only [List.length_cons, List.length_append] at hn; omega
      have hlz : ((KBw.bInts ev).length : Int) = (ev.size : Int) := by rw [hlen]
      by_cases hu : (strict && !known kk) = true
      · have hst : strict = true := by cases strict; simp at hu; rfl
        have hkn : known kk = false := by cases h : known kk; rfl; rw [h] at hu; simp at hu
        rw [walkGo_unk hce hu, parsGo_unk hkk t1 hns hst hkn]
        exact ⟨rfl, fun h => (by cases h), fun _ => rfl, fun h => (by cases h), fun h => (by cases h), fun h => (by cases h)⟩
      · have hu' : (strict && !known kk) = false := Bool.eq_false_iff.mpr hu
        by_cases h32 : kk = 32
        · subst h32
          obtain ⟨c0, a, b, cc, d, tail, hv, hbr⟩ := we.ssl rfl
          dsimp only at hv hbr
          have hin := pars_inner strict po (pars strict po 0) i tail eb hbr ei ((flatI ei ++ tail).length + 1) 0 (sslR R (KBw.bInts ev)) (put T' (nm 32) i) (put T (nm 32) i) I we.small (Nat.lt_succ_self _) (hI.outer (by decide +kernel) i)
          obtain ⟨T2, h2, h3⟩ := hin
          have hR : sslR R (KBw.bInts ev) = put (put R sCli (.num c0)) sVer (.num (KFB.value ((a :: b :: cc :: d :: (flatI ei ++ tail)).take 4))) := by
            rw [hv]
            unfold sslR KFB.value
            simp
          have hsub : pars strict po 1 ((a :: b :: cc :: d :: (flatI ei ++ tail)).drop 4) i (put (put R sCli (.num c0)) sVer (.num (KFB.value ((a :: b :: cc :: d :: (flatI ei ++ tail)).take 4)))) (put T' (nm 32) (0 + i)) = ((if (walkIn strict ei (sslR R (KBw.bInts ev)) I).1 then (if eb then .bad else .ok) else .unk), (walkIn strict ei (sslR R (KBw.bInts ev)) I).2.1, T2) := by
            rw [← hR, Int.zero_add]
            exact h2
          rw [walkGo_ssl hce, parsGo_ssl (c := c0) (v := a :: b :: cc :: d :: (flatI ei ++ tail)) t1 hns (t2.trans hv), hsub]
          cases hw : walkIn strict ei (sslR R (KBw.bInts ev)) I with
          | mk b1 w2 =>
            obtain ⟨R2, I2⟩ := w2
            rw [hw] at h3
            cases b1 with
            | false =>
              dsimp only
              exact ⟨rfl, fun h => (by cases h), fun _ => rfl, fun h => (by cases h), fun h => (by cases h), fun h => (by cases h)⟩
            | true =>
              have hI2 := h3 rfl
              dsimp only at hI2 ⊢
              cases eb with
              | true =>
                simp only [if_true]
                cases po with
                | true => exact ⟨rfl, fun h => (by cases h), fun h => (by cases h), fun _ _ => ⟨.inl rfl, hI2⟩, fun _ h => (by cases h), fun h => (by cases h)⟩
                | false => exact ⟨rfl, fun h => (by cases h), fun h => (by cases h), fun _ h => (by cases h), fun _ _ => rfl, fun h => (by cases h)⟩
              | false =>
                simp only [if_true, Bool.false_eq_true, if_false]
                rw [t3, hlz]
                exact pars_main strict po c r m (i + (3 + (ev.size : Int))) (put R2 sSSL (.flag true)) T2 (put T (nm 32) i) I2 (fun e he => hwf e (.tail _ he)) hc' hm hI2
        · rw [walkGo_plain hce hu' h32, parsGo_plain hkk t1 hns hu' h32, t2, t3, Int.zero_add, hlz]
          exact pars_main strict po c r m (i + (3 + (ev.size : Int))) _ _ _ I (fun e he => hwf e (.tail _ he)) hc' hm (hI.outer (top_out we.top) _)
end Mine
end

section
theorem Mine.rst_V3 {prog : PySem.Program} {w : PySem.World} {A : PySem.Around} {Q : PySem.Flow → PySem.Shared → Prop} {E : PySem.Value → PySem.Shared → Prop} {s : PySem.Shared} {env : PySem.Env} {pos : PySem.Pos} : True ∨ PySem.wpAny (PySem.model prog w) A (PySem.exec (PySem.Stmt.Pass pos) env) Q E s := by
  w_on
  w_top off
  first | (right; walk1; fail) | exact .inl trivial
open PySem PySem.W PySem.Calls PyProof.Rows PyProof.V
set_option Elab.async false
namespace Mine
theorem bI_byteArr {ns : List Int} (h : ∀ k ∈ ns, 0 ≤ k ∧ k < 256) : KBw.bInts (byteArr ns) = ns := by
  unfold byteArr
  rw [KBw.ints_list, List.map_map]
  conv => rhs; rw [← List.map_id ns]
  refine List.map_congr_left fun k hk => ?_
  obtain ⟨h0, h1⟩ := h k hk
  show ((k.toNat.toUInt8).toNat : Int) = k
  rw [Nat.toUInt8_eq, UInt8.toNat_ofNat']
  omega
theorem bI_entry {k : Int} {v : Array UInt8} (hk : 0 ≤ k ∧ k < 256) (hv : v.size ≤ 200) : KBw.bInts (entryB k v) = k :: 0 :: ((KBw.bInts v).length : Int) :: KBw.bInts v := by
  have e1 : (v.size : Int).fdiv 256 = 0 := by rw [fdivN _ _ (by decide)]; omega
  have e2 : (v.size : Int).fmod 256 = v.size := by rw [fmodN _ _ (by decide)]; omega
  unfold entryB
  rw [e1, e2, KBw.ints_app (bI_byteArr (by
    intro x hx
    simp only [List.mem_cons, List.not_mem_nil, or_false] at hx
    rcases hx with rfl | rfl | rfl
    · exact hk
    · omega
    · omega)) rfl, KBw.ints_length]
  rfl
theorem bI_joinB (bs : List (Array UInt8)) : KBw.bInts (joinB bs) = (bs.map KBw.bInts).flatten := by
  unfold joinB
  have key : ∀ (l : List (Array UInt8)) (acc : Array UInt8), KBw.bInts (l.foldl (· ++ ·) acc) = KBw.bInts acc ++ (l.map KBw.bInts).flatten := by
    intro l
    induction l with
    | nil => intro acc; simp
    | cons b l ih =>
      intro acc
      rw [List.foldl_cons, ih, KBw.ints_app rfl rfl, List.map_cons, List.flatten_cons, List.append_assoc]
  rw [key]; rfl
theorem bI_octs (count seed : Int) : KBw.bInts (octs count seed) = (rangeKs 0 count.toNat).map fun k' => (seed + 29 * k').fmod 256 := by
  unfold octs
  refine bI_byteArr fun k hk => ?_
  obtain ⟨x, _, rfl⟩ := List.mem_map.mp hk
  exact fmod_bd _ (by decide)
theorem flatI_eq {l : List (Int × Array UInt8)} (h : ∀ p ∈ l, 33 ≤ p.1 ∧ p.1 ≤ 38 ∧ p.2.size ≤ 11) : KBw.bInts (joinB (l.map fun p => entryB p.1 p.2)) = flatI l := by
  rw [bI_joinB, List.map_map]
  unfold flatI
  congr 1
  refine List.map_congr_left fun p hp => ?_
  obtain ⟨a, b, c⟩ := h p hp
  exact bI_entry ⟨by omega, by omega⟩ (by omega)
theorem base_ints (form : Int) : ∃ c0 a b c d, KBw.bInts (baseOf form) = c0 :: a :: b :: c :: d :: flatI (innerOf form) := by
  unfold baseOf
  rw [KBw.ints_app (bI_octs 5 form) (flatI_eq (small_bd form))]
  exact ⟨_, _, _, _, _, rfl⟩
theorem entOf_wf (n : Int) : Wf (entOf n) := by
  have hp := fmod_bd n (k := 10) (by decide)
  have hhi := (entOf_ok n).hi
  obtain ⟨c0, a, b, c, d, hb⟩ := base_ints (n.fdiv 10)
  have h9 := fmod_bd (n.fdiv 10) (k := 9) (by decide)
  refine ⟨?_, ?_, (entOf_ok n).small, hhi⟩
  · unfold entOf
    dsimp only
    split
    · dsimp only
      have hc : (n.fmod 10) = 0 ∨ (n.fmod 10) = 1 ∨ (n.fmod 10) = 2 ∨ (n.fmod 10) = 3 ∨ (n.fmod 10) = 4 ∨ (n.fmod 10) = 5 := by omega
      rcases hc with e | e | e | e | e | e <;> rw [e] <;> decide
    split <;> exact (by decide : (32 : Int) ∈ topK)
  · unfold entOf
    dsimp only
    split
    · dsimp only
      have hc : (n.fmod 10) = 0 ∨ (n.fmod 10) = 1 ∨ (n.fmod 10) = 2 ∨ (n.fmod 10) = 3 ∨ (n.fmod 10) = 4 ∨ (n.fmod 10) = 5 := by omega
      rcases hc with e | e | e | e | e | e <;> rw [e] <;> intro h <;> exact absurd h (by decide)
    split
    · intro _
      dsimp only
      refine ⟨c0, a, b, c, d, 33 :: 0 :: 9 :: KBw.bInts (octs ((n.fdiv 10).fmod 9) (n.fdiv 10)), ?_, .inr ⟨rfl, _, ?_, rfl⟩⟩
      · rw [KBw.ints_app (KBw.ints_app hb (bI_byteArr (by decide))) rfl]
        simp
      · rw [KBw.ints_length, octs_size]; omega
    · intro _
      dsimp only
      exact ⟨c0, a, b, c, d, [], by rw [hb, List.append_nil], .inl ⟨rfl, rfl⟩⟩
theorem le_sum_mem : ∀ {l : List Nat} {a : Nat}, a ∈ l → a ≤ l.sum
  | b :: l, a, h => by
    rw [List.sum_cons]
    rcases List.mem_cons.mp h with rfl | h
    · omega
    · have := le_sum_mem h; omega
theorem flat_cut : ∀ (es : List Ent) (c : Nat), (∀ e ∈ es, EntOk e) → (∀ e, es.getLast? = some e → c ≤ e.value.size) → (es = [] → c = 0) →
    (es.map fun e => KBw.bInts (entryB e.kind e.value)).flatten.take ((es.map fun e => KBw.bInts (entryB e.kind e.value)).flatten.length - c) = flatC es c
  | [], c, _, _, _ => by simp [flatC]
  | [e], c, hk, hc, _ => by
    have he := hk e (.head _)
    have hce := hc e rfl
    have hl := KBw.ints_length e.value
    simp only [List.map_cons, List.map_nil, List.flatten_cons, List.flatten_nil, List.append_nil]
    rw [bI_entry (kinds_bd he.kind) he.hi]
    simp only [List.length_cons]
    rw [show (KBw.bInts e.value).length + 1 + 1 + 1 - c = ((KBw.bInts e.value).length - c) + 1 + 1 + 1 by omega]
    rfl
  | e :: e2 :: r, c, hk, hc, _ => by
    have he := hk e (.head _)
    have ih := flat_cut (e2 :: r) c (fun x hx => hk x (.tail _ hx)) (fun x hx => hc x (by rw [List.getLast?_cons_cons]; exact hx)) (fun h => by cases h)
    have hcl : c ≤ ((e2 :: r).map fun e => KBw.bInts (entryB e.kind e.value)).flatten.length := by
      obtain ⟨x, hx⟩ : ∃ x, (e2 :: r).getLast? = some x := by
        rw [List.getLast?_cons]; exact ⟨_, rfl⟩
      have h1 := hc x (by rw [List.getLast?_cons_cons]; exact hx)
      have hm := List.mem_of_getLast? hx
      have hxk := hk x (.tail _ hm)
      rw [List.length_flatten]
      have h2 : (KBw.bInts (entryB x.kind x.value)).length ≤ (List.map List.length ((e2 :: r).map fun e => KBw.bInts (entryB e.kind e.value))).sum := by
        have : (KBw.bInts (entryB x.kind x.value)).length ∈ List.map List.length ((e2 :: r).map fun e => KBw.bInts (entryB e.kind e.value)) := List.mem_map.mpr ⟨_, List.mem_map.mpr ⟨x, hm, rfl⟩, rfl⟩
        exact le_sum_mem this
      rw [KBw.ints_length, entryB_size] at h2
      omega
    rw [List.map_cons, List.flatten_cons, flatC_cons (by rintro ⟨h, _⟩; cases h), ← ih, bI_entry (kinds_bd he.kind) he.hi, List.length_append]
    generalize ((e2 :: r).map fun e => KBw.bInts (entryB e.kind e.value)).flatten = F at hcl
    rw [show (e.kind :: 0 :: ((KBw.bInts e.value).length : Int) :: KBw.bInts e.value).length + F.length - c = (e.kind :: 0 :: ((KBw.bInts e.value).length : Int) :: KBw.bInts e.value).length + (F.length - c) by omega, List.take_append, List.take_of_length_le (by omega)]
    simp
end Mine
end

section
theorem Mine.rst_V4 {prog : PySem.Program} {w : PySem.World} {A : PySem.Around} {Q : PySem.Flow → PySem.Shared → Prop} {E : PySem.Value → PySem.Shared → Prop} {s : PySem.Shared} {env : PySem.Env} {pos : PySem.Pos} : True ∨ PySem.wpAny (PySem.model prog w) A (PySem.exec (PySem.Stmt.Pass pos) env) Q E s := by
  w_on
  w_top off
  first | (right; walk1; fail) | exact .inl trivial
open PySem PySem.W PySem.Calls PyProof.Rows PyProof.V
set_option Elab.async false
namespace Mine
theorem perm_mem : ∀ {l m : List Str}, l.Nodup → m.Nodup → (∀ x, x ∈ l ↔ x ∈ m) → l.Perm m
  | [], m, _, _, h => by
    cases m with
    | nil => exact .nil
    | cons a m => exact absurd ((h a).mpr (.head _)) (fun h => nomatch h)
  | a :: l, m, hl, hm, h => by
    obtain ⟨ha, hl⟩ := List.nodup_cons.mp hl
    have hma := (h a).mp (.head _)
    refine List.Perm.trans (.cons a (perm_mem (m := m.erase a) hl (hm.erase a) fun x => ?_)) (List.perm_cons_erase hma).symm
    rw [hm.mem_erase_iff]
    constructor
    · intro hx
      exact ⟨fun e => ha (e ▸ hx), (h x).mp (.tail _ hx)⟩
    · rintro ⟨hne, hx⟩
      rcases List.mem_cons.mp ((h x).mpr hx) with e | e
      · exact absurd e hne
      · exact e
theorem any_mem {I : List Str} {x : Str} : I.any (· == x) = true ↔ x ∈ I := by
  rw [List.any_eq_true]
  constructor
  · rintro ⟨y, hy, e⟩
    have : y = x := by simpa using e
    exact this ▸ hy
  · exact fun h => ⟨x, h, by simp⟩
theorem in_cases {x : Str} (h : isIn x = true) : x ∈ namesL ∨ x = Str.ofString "x26" := by
  have h := of_decide_eq_true h
  simp only [inNames, List.mem_cons, List.not_mem_nil, or_false] at h
  rcases h with rfl | rfl | rfl | rfl | rfl | rfl
  · left; decide +kernel
  · left; decide +kernel
  · left; decide +kernel
  · left; decide +kernel
  · left; decide +kernel
  · right; rfl
theorem namesL_nodup : namesL.Nodup := by decide +kernel
theorem x26_not : Str.ofString "x26" ∉ namesL := by decide +kernel
theorem inv_filter {T' T : LS} {I : List Str} (h : Inv T' T I) : T'.filter (fun p => !I.any (· == p.1)) = T := by
  rw [← h.top]
  refine List.filter_congr fun p hp => ?_
  congr 1
  rw [Bool.eq_iff_iff, any_mem]
  exact ⟨h.sub _, fun q => (h.mem _ q).mp (List.mem_map_of_mem hp)⟩
theorem inv_perm {T' T : LS} {I : List Str} (h : Inv T' T I) : (T'.map (·.1)).Perm (T.map (·.1) ++ namesL.filter (fun x => I.any (· == x)) ++ (if I.any (· == Str.ofString "x26") then [Str.ofString "x26"] else [])) := by
  have hTin : ∀ x ∈ T.map (·.1), x ∈ T'.map (·.1) ∧ isIn x = false := by
    intro x hx
    rw [← h.top] at hx
    obtain ⟨p, hp, rfl⟩ := List.mem_map.mp hx
    obtain ⟨hp, hi⟩ := List.mem_filter.mp hp
    exact ⟨List.mem_map_of_mem hp, by simpa using hi⟩
  have hx26 : ∀ x, x ∈ (if I.any (· == Str.ofString "x26") then [Str.ofString "x26"] else []) ↔ x = Str.ofString "x26" ∧ x ∈ I := by
    intro x
    split
    · rename_i q
      rw [any_mem] at q
      rw [List.mem_singleton]
      exact ⟨fun e => ⟨e, e ▸ q⟩, fun e => e.1⟩
    · rename_i q
      rw [any_mem] at q
      exact ⟨(fun e => nomatch e), fun e => absurd (e.1 ▸ e.2) q⟩
  have hnm : ∀ x, x ∈ namesL.filter (fun x => I.any (· == x)) ↔ x ∈ namesL ∧ x ∈ I := by
    intro x
    rw [List.mem_filter, any_mem]
  have hTn : (T.map (·.1)).Nodup := by
    rw [← h.top]
    exact h.nodup.sublist (List.filter_sublist.map _)
  refine perm_mem h.nodup ?_ fun x => ?_
  · rw [List.nodup_append, List.nodup_append]
    refine ⟨⟨hTn, namesL_nodup.sublist List.filter_sublist, ?_⟩, ?_, ?_⟩
    · intro a ha b hb e
      subst e
      have := h.sub _ ((hnm a).mp hb).2
      rw [(hTin a ha).2] at this
      cases this
    · split <;> simp
    · intro a ha b hb e
      subst e
      obtain ⟨e, hI⟩ := (hx26 a).mp hb
      rcases List.mem_append.mp ha with ha | ha
      · have := h.sub _ hI
        rw [(hTin a ha).2] at this
        cases this
      · exact x26_not (e ▸ ((hnm a).mp ha).1)
  · rw [List.mem_append, List.mem_append, hnm, hx26]
    constructor
    · intro hx
      cases hi : isIn x with
      | true =>
        have hI := (h.mem x hi).mp hx
        rcases in_cases hi with q | q
        · exact .inl (.inr ⟨q, hI⟩)
        · exact .inr ⟨q, hI⟩
      | false =>
        obtain ⟨p, hp, rfl⟩ := List.mem_map.mp hx
        refine .inl (.inl (List.mem_map_of_mem ?_))
        rw [← h.top, List.mem_filter]
        exact ⟨hp, by rw [hi]; rfl⟩
    · rintro ((q | q) | q)
      · exact (hTin x q).1
      · exact (h.mem x (h.sub _ q.2)).mpr q.2
      · exact (h.mem x (h.sub _ q.2)).mpr q.2
theorem plain_of {st pt : Bool} {W : Out × RS × LS × List Str} {KS : List Int} (M : MainOut st pt W (pars st pt 2 KS 0 [] [])) : Plain st pt W.1 W.2.1 W.2.2.1 W.2.2.2 KS := by
  have hkeys := (pars_keys st pt 2 KS 0 [] [] (fun _ h => nomatch h) (fun _ h => nomatch h)).2
  have hnc : (pars st pt 2 KS 0 [] []).1 ≠ .crash := by
    cases ho : W.1 with
    | ok => rw [(M.ok ho).1]; decide
    | unk => rw [M.unk ho]; decide
    | crash => exact absurd ho M.nc
    | bad =>
      cases pt with
      | true =>
        rcases (M.badp ho rfl).1 with e | e <;> rw [e] <;> decide
      | false => rw [M.badn ho rfl]; decide
  refine ⟨hnc, ?_, ?_⟩
  · intro h
    generalize hp : pars st pt 2 KS 0 [] [] = p at M
    obtain ⟨o, R, T⟩ := p
    rcases h with h | ⟨h, h2⟩
    · have := M.unk h
      dsimp only at this
      subst this
      rw [h]; unfold readOut; rw [hp]; rfl
    · have := M.badn h h2
      dsimp only at this
      subst this
      rw [h]; unfold readOut; rw [hp, h2]; rfl
  · intro h
    generalize hp : pars st pt 2 KS 0 [] [] = p at M hkeys
    obtain ⟨o, R, T⟩ := p
    have hR := M.r
    have key : (o = .ok ∨ (o = .bad ∧ pt = true)) ∧ Inv T W.2.2.1 W.2.2.2 := by
      cases ho : W.1 with
      | ok => exact ⟨.inl (M.ok ho).1, (M.ok ho).2⟩
      | unk => exact absurd (.inl ho) h
      | crash => exact absurd ho M.nc
      | bad =>
        cases hpt : pt with
        | true =>
          obtain ⟨e, hI⟩ := M.badp ho hpt
          exact ⟨e.elim .inl (fun e => .inr ⟨e, rfl⟩), hI⟩
        | false => exact absurd (.inr ⟨ho, hpt⟩) h
    have hr : readOut st pt KS = (Str.ofString "sound", R, T) := by
      unfold readOut
      rw [hp]
      rcases key.1 with e | ⟨e, e2⟩
      · subst e; rfl
      · subst e; rw [e2]; rfl
    rw [hr]
    exact ⟨rfl, hR, hkeys, inv_perm key.2, inv_filter key.2⟩
theorem walkGo_len (strict cut : Bool) : ∀ (es : List Ent) (a : Int) (R : RS) (T : LS) (I : List Str), (∀ e ∈ es, EntOk e) → (walkGo strict cut es a R T I).2.2.2.length ≤ I.length + 3 * es.length
  | [], _, _, _, _, _ => Nat.le_add_right _ _
  | e :: r, a, R, T, I, h => by
    have he := h e (.head _)
    have key : ∀ R', (walkIn strict e.inner R' I).2.2.length ≤ I.length + 3 := fun R' => Nat.le_trans (walkIn_len strict e.inner R' I) (Nat.add_le_add_left he.len _)
    have hr : ∀ e ∈ r, EntOk e := fun e hq => h e (.tail _ hq)
    unfold walkGo
    split
    · exact Nat.le_add_right _ _
    split
    · exact Nat.le_add_right _ _
    dsimp only
    split
    · split
      · rename_i R2 I2 hw
        have : I2.length ≤ I.length + 3 := by rw [show I2.length = _ from (congrArg (fun x => x.2.2.length) hw).symm]; exact key _
        simp only [List.length_cons]
        omega
      · rename_i R2 I2 hw
        have : I2.length ≤ I.length + 3 := by rw [show I2.length = _ from (congrArg (fun x => x.2.2.length) hw).symm]; exact key _
        split
        · simp only [List.length_cons]; omega
        · have ih := walkGo_len strict cut r (a + (3 + e.value.size)) (put R2 sSSL (.flag (!e.broken))) (put T (nm e.kind) a) I2 hr
          simp only [List.length_cons]
          omega
    · have ih := walkGo_len strict cut r (a + (3 + e.value.size)) (put R (nm e.kind) (.oct (KBw.bInts e.value))) (put T (nm e.kind) a) I hr
      simp only [List.length_cons]
      omega
theorem walkGo_keysT (strict cut : Bool) : ∀ (es : List Ent) (a : Int) (R : RS) (T : LS) (I : List Str), (∀ e ∈ es, EntOk e) → KeysIn T → KeysIn (walkGo strict cut es a R T I).2.2.1
  | [], _, _, _, _, _, hT => hT
  | e :: r, a, R, T, I, h, hT => by
    have he := h e (.head _)
    have hr : ∀ e ∈ r, EntOk e := fun e hq => h e (.tail _ hq)
    have hT' := keysIn_put hT (nm_in he.kind) a
    unfold walkGo
    split
    · exact hT
    split
    · exact hT
    dsimp only
    split
    · split
      · exact hT'
      · split
        · exact hT'
        · exact walkGo_keysT strict cut r _ _ _ _ hr hT'
    · exact walkGo_keysT strict cut r _ _ _ _ hr hT'
theorem law_plain (ns : List Int) (c1 c2 : Int) (ob : Array UInt8) (h1 : 0 ≤ c1 ∧ c1 ≤ 6) (hl : ∀ e, (ents ns).getLast? = some e → c2 = min c1 e.value.size) (h0 : ents ns = [] → c2 = 0) (hb : KBw.bInts ob = (KBw.bInts (joinB ((ents ns).map fun e => entryB e.kind e.value))).take ((KBw.bInts (joinB ((ents ns).map fun e => entryB e.kind e.value))).length - c2.toNat)) :
      AllPlain (ents ns) c2 (KBw.bInts ob) ∧ ((walkGo false (decide (c2 ≠ 0)) (ents ns) 0 [] [] []).1 = .ok → ∃ T2, pars false false 2 (KBw.bInts ob) 0 [] [] = (.ok, (walkGo false (decide (c2 ≠ 0)) (ents ns) 0 [] [] []).2.1, T2)) := by
  have hel : (ents ns).length ≤ 12 := by unfold ents; rw [List.length_map, List.length_take]; omega
  have hek : ∀ e ∈ ents ns, EntOk e := by
    intro e he
    obtain ⟨n, _, rfl⟩ := List.mem_map.mp he
    exact entOf_ok n
  have hwf : ∀ e ∈ ents ns, Wf e := by
    intro e he
    obtain ⟨n, _, rfl⟩ := List.mem_map.mp he
    exact entOf_wf n
  generalize ents ns = es at *
  have hc2 : 0 ≤ c2 := by
    cases es with
    | nil => rw [h0 rfl]; exact Int.le_refl _
    | cons a r =>
      have := hl _ List.getLast?_cons
      omega
  have hcl : ∀ e, es.getLast? = some e → c2.toNat ≤ e.value.size := by
    intro e he
    have := hl e he
    omega
  have hdec : decide (c2.toNat ≠ 0) = decide (c2 ≠ 0) := by
    rw [decide_eq_decide]; omega
  have hKS : KBw.bInts ob = flatC es c2.toNat := by
    rw [hb, bI_joinB, List.map_map]
    exact flat_cut es c2.toNat hek hcl (fun e => by rw [h0 e]; rfl)
  rw [hKS]
  have main : ∀ st pt, MainOut st pt (walkGo st (decide (c2 ≠ 0)) es 0 [] [] []) (pars st pt 2 (flatC es c2.toNat) 0 [] []) := by
    intro st pt
    rw [← hdec]
    exact pars_main st pt c2.toNat es _ 0 [] [] [] [] hwf hcl (Nat.lt_succ_self _) Inv.nil
  refine ⟨⟨fun st pt => plain_of (main st pt), fun st => (main st false).nc, fun st => ?_, fun st => walkGo_keysT _ _ _ _ _ _ _ hek (fun _ h => nomatch h)⟩, fun ho => ?_⟩
  · have := walkGo_len st (decide (c2 ≠ 0)) es 0 [] [] [] hek
    simp only [List.length_nil] at this
    omega
  · have M := main false false
    generalize pars false false 2 (flatC es c2.toNat) 0 [] [] = p at M
    obtain ⟨o, R, T⟩ := p
    have e1 := (M.ok ho).1
    have e2 := M.r
    dsimp only at e1 e2
    exact ⟨T, by rw [e1, e2]⟩
end Mine
end

section
theorem Mine.rst_K1 {prog : PySem.Program} {w : PySem.World} {A : PySem.Around} {Q : PySem.Flow → PySem.Shared → Prop} {E : PySem.Value → PySem.Shared → Prop} {s : PySem.Shared} {env : PySem.Env} {pos : PySem.Pos} : True ∨ PySem.wpAny (PySem.model prog w) A (PySem.exec (PySem.Stmt.Pass pos) env) Q E s := by
  w_on
  w_top off
  first | (right; walk1; fail) | exact .inl trivial
open PySem PySem.W PySem.Calls PyProof.Rows PyProof.V
set_option Elab.async false
namespace Mine
theorem execs_app (l r : List Stmt) (env : Env) : execs (l ++ r) env = execs l env >>= fun f => match f with | .next => execs r env | f => pure f := by
  induction l with
  | nil =>
    show execs r env = (pure Flow.next >>= _)
    rw [pure_bind]
  | cons a l ih =>
    rw [List.cons_append, execs_cons, execs_cons, bind_assoc]
    congr 1
    funext f
    cases f with
    | next => exact ih
    | _ => rw [pure_bind]
theorem wpAny_execs_app {M : Model} {A : Around} {E : Value → Shared → Prop} {s : Shared} {l r : List Stmt} {env : Env} {Q : Flow → Shared → Prop} (h : wpAny M A (execs l env) (fun f s' => match f with | .next => wpAny M A (execs r env) Q E s' | f => Q f s') E s) : wpAny M A (execs (l ++ r) env) Q E s := by
  rw [execs_app]
  refine wpAny_bind (wpAny_mono h (fun f s' h' => ?_) fun _ _ x => x)
  cases f with
  | next => exact h'
  | brk => exact wpAny_pure h'
  | cont => exact wpAny_pure h'
  | ret v => exact wpAny_pure h'
theorem lawBody_split (P : Params) : lawBody P = lawHead P ++ (lawCut P ++ ([lawFor P] ++ lawTail P)) := by
  have hl : (lawBody P).length = 10 := by kernel_rfl
  unfold lawHead lawCut lawFor lawTail
  generalize lawBody P = l at hl
  match l, hl with
  | [_, _, _, _, _, _, _, _, _, _], _ => rfl
section
variable {w : World} {p : Program} {loose : List Str} {mean : ExcName → Option Value} {mg mb : Str → Option Value} {dp un : Nat} {gd : Option (List Code)} {A₀ : Around} {E : Value → Shared → Prop} {s : Shared} {g : Heap} {L fa : Addr} {cd : Value} {m : Str → Option Value} {Q : Flow → Shared → Prop}
  {cI : Obj} {lS : Addr} {vs : List Value} {ns : List Int} {v0 : Option Value}
theorem mem_size {es : List Ent} {e : Ent} (h : e ∈ es) : (entryB e.kind e.value).size ≤ (joinB (es.map fun e => entryB e.kind e.value)).size := by
  rw [J.joinB_size]
  have key : ∀ (l : List (Array UInt8)) (n : Nat), n ≤ l.foldl (fun n b => n + b.size) n := by
    intro l
    induction l with
    | nil => intro n; exact Nat.le_refl _
    | cons b l ih => intro n; rw [List.foldl_cons]; exact Nat.le_trans (Nat.le_add_right _ _) (ih _)
  have key2 : ∀ (l : List (Array UInt8)) (n : Nat) (b : Array UInt8), b ∈ l → b.size ≤ l.foldl (fun n b => n + b.size) n := by
    intro l
    induction l with
    | nil => intro n b h; cases h
    | cons c l ih =>
      intro n b h
      rw [List.foldl_cons]
      rcases List.mem_cons.mp h with rfl | h
      · exact Nat.le_trans (Nat.le_add_left _ _) (key _ _)
      · exact ih _ b h
  exact key2 _ 0 _ (List.mem_map_of_mem h)
theorem law_all (hV : ∀ (ns : List Int) (c1 c2 : Int) (ob : Array UInt8), 0 ≤ c1 ∧ c1 ≤ 6 → (∀ e, (ents ns).getLast? = some e → c2 = min c1 e.value.size) → (ents ns = [] → c2 = 0) → KBw.bInts ob = (KBw.bInts (joinB ((ents ns).map fun e => entryB e.kind e.value))).take ((KBw.bInts (joinB ((ents ns).map fun e => entryB e.kind e.value))).length - c2.toNat) →
      AllPlain (ents ns) c2 (KBw.bInts ob) ∧ ((walkGo false (decide (c2 ≠ 0)) (ents ns) 0 [] [] []).1 = .ok → ∃ T2, pars false false 2 (KBw.bInts ob) 0 [] [] = (.ok, (walkGo false (decide (c2 ≠ 0)) (ents ns) 0 [] [] []).2.1, T2)))
    (B : Below A₀ g [] g) (X : (Mine.hd.heap_39 w.params).In g) (Tp : Top p loose mean mg mb g) (hC : CodeHd g 76 72)
    (F0 : Fr g L s.heap m) (h1 : m (Str.ofString "script") = some (.ref lS)) (hl : g.IsList lS vs.toArray) (hi : IntsAre vs ns) (hnl : ns.length ≤ 63)
    (hcI : cI.data = .cell v0) (N : News g L s.heap [(L + 1, cI), (72, tabObj #[])]) (h72L : L + 1 ≠ 72)
    (hdp : dp + 150 < recursionLimit) (hun : un + 800 < cLine) (hPE : PassesOwn (model PySem.Challenge.rw_fc0001_01.row.prog w) (ktrTop dp un gd (Str.ofString "law") (lawScope w.params) L fa cd (cellsFrom (L+1) (lawScope w.params).names []) []) (envX (Str.ofString "law") (lawScope w.params) L fa cd (cellsFrom (L+1) (lawScope w.params).names [])) E)
    (hnext : ∀ h' tk' m' ps news', Fr g L h' m' → News g L h' news' → (72, tabObj ps) ∈ news' → Q (.ret (.bool true)) { s with heap := h', toks := tk' }) :
    wpAny (model PySem.Challenge.rw_fc0001_01.row.prog w) (ktrTop dp un gd (Str.ofString "law") (lawScope w.params) L fa cd (cellsFrom (L+1) (lawScope w.params).names []) []) (execs (lawBody w.params) (envX (Str.ofString "law") (lawScope w.params) L fa cd (cellsFrom (L+1) (lawScope w.params).names []))) Q E s := by
  have hel : (ents ns).length ≤ 12 := by unfold ents; rw [List.length_map, List.length_take]; omega
  have hek : ∀ e ∈ ents ns, EntOk e := by
    intro e he
    obtain ⟨n, _, rfl⟩ := List.mem_map.mp he
    exact entOf_ok n
  have hjs := joinB_le (M := 203) (bs := (ents ns).map fun e => entryB e.kind e.value) (by
    intro b hb
    obtain ⟨e, he, rfl⟩ := List.mem_map.mp hb
    rw [entryB_size]
    have := (hek e he).hi
    omega)
  rw [List.length_map] at hjs
  rw [lawBody_split]
  refine wpAny_execs_app (law_head B X Tp F0 h1 hl hi hnl hcI N h72L hdp hun hPE ?_)
  intro h2 tk2 m2 own lE vsE nE c1 tc tO F2 N2 o72 oL hm hD hc1 x1 x2 x3
  dsimp only
  refine wpAny_execs_app (law_cut X Tp F2 N2 x1 x2 x3 (.tail _ (.tail _ hm)) (DatAll.mono (fun q hq => .tail _ (.tail _ hq)) hD) hel hek hc1 (by omega) rfl ?_ ?_)
  · intro e he
    have := mem_size (List.mem_of_getLast? he)
    rw [entryB_size] at this
    omega
  intro h3 tk3 m3 ob to tc' c2 F3 N3 z1 z2 z3 y1 y2 y3 y4
  dsimp only
  obtain ⟨hP, hR⟩ := hV ns c1 c2 ob hc1 z1 z2 z3
  have hob : (KBw.bInts ob).length ≤ 1000000 := by
    rw [z3, List.length_take, KBw.ints_length]; omega
  refine wpAny_execs_cons (law_for (tb := [(72, tabObj #[])]) B X Tp hC F3 y1 y2 y3 y4 hcI N3 (.inl rfl) o72 h72L oL hm hD hel hek hob hP hdp hun hPE ?_)
  intro h4 tk4 m4 tb4 cI4 v4 F4 N4 htb4 hc4 r1 r2 r3 r4
  dsimp only
  refine law_tail B X Tp hC F4 r2 r3 r4 r1 hc4 N4 htb4 o72 h72L hm hD hel hek hob hR hdp hun hPE ?_
  intro h5 tk5 m5 tb5 news5 F5 N5 htb5 hsub
  obtain ⟨ps, hps⟩ := tab_mem htb5
  exact hnext h5 tk5 m5 ps news5 F5 N5 (hsub _ hps)
end
set_option maxRecDepth 100000 in
set_option maxHeartbeats 2000000 in
theorem hh : PySem.Challenge.rw_fc0001_01.Holds := by
  refine Mine.hd ?_
  k_go0
  all_goals try k_fold
  refine law_all law_plain (by assumption) (by assumption) (by assumption) (by assumption) (by assumption) rfl (by assumption) (by assumption) ?_ (by assumption) (by assumption) ?_ ?_ ?_ ?_ ?_
  · omega
  · have hl0 := (by assumption : @LT.lt Nat _ 72 _)
    exact fun e => absurd hl0 (by rw [← e]; exact fun q => absurd q (by omega))
  · decide
  · first | decide | (have hcL9 := cLine_is; simp only [cLine] at hcL9 ⊢; decide)
  · passes_own
  · intro h' tk' m' ps news' F9 N9 hm9
    k_steps
end Mine
end

theorem PySem.Challenge.cw_fc0001_01_holds : PySem.Challenge.rw_fc0001_01.Holds :=
  Mine.hh
