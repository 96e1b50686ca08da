import PyProof.Rows.All
import Wide.All
import OpenK.AllK
import Wide.FinOn
import Lean
import PySem.Challenge.RW_eg5007_01
open PySem PySem.W PyProof.Rows PySem.Calls
set_option Elab.async false
set_option maxRecDepth 100000
set_option maxHeartbeats 4000000
set_option linter.unusedVariables false
namespace Mine
set_option maxHeartbeats 8000000 in
open_top hd for PySem.Challenge.rw_eg5007_01
section

/-- the end of a call: the caller has all as it was, and the objects nx beside -/
def Bye (h₀ : Heap) (L : Addr) (mF : Str → Option Value) (g : Heap) (news : List (Addr × Obj)) (R : Result → Shared → Prop) (v : Value) (s' : Shared) : Prop :=
  ∃ (L' : Addr) (m' : Str → Option Value) (nx : List (Addr × Obj)), Fr g L' s'.heap m' ∧ News g L' s'.heap nx ∧ (Fr h₀ L s'.heap mF → News h₀ L s'.heap (nx ++ news) → (∀ q ∈ news, ∀ r ∈ nx, q.1 ≠ r.1) → R (.ok (.ret v)) s')

theorem bye_back {h₀ : Heap} {L : Addr} {mF : Str → Option Value} {news : List (Addr × Obj)} {R : Result → Shared → Prop} {v : Value} {s s' : Shared} (F : Fr h₀ L s.heap mF) (N : News h₀ L s.heap news) (h : Bye h₀ L mF s.heap news R v s') : R (.ok (.ret v)) s' := by
  obtain ⟨L', m', nx, F', N', k⟩ := h
  refine k ⟨F.ns.keeps F'.keep, fun b o e => F'.keep b o (F.keep b o e), F.above⟩ (fun q hq => ?_) (fun q hq r hr e => ?_)
  · rcases List.mem_append.mp hq with hq | hq
    · refine ⟨(N' q hq).1, fun e => ?_, ?_⟩
      · obtain ⟨oL, _, _, hL, _⟩ := F.ns
        have := (N' q hq).2.2
        rw [e, hL] at this; cases this
      · cases hx : h₀.get? q.1 with
        | none => rfl
        | some o => have := (N' q hq).2.2; rw [F.keep _ _ hx] at this; cases this
    · exact ⟨F'.keep _ _ (N q hq).1, (N q hq).2.1, (N q hq).2.2⟩
  · have h1 := (N q hq).1
    have h2 := (N' r hr).2.2
    rw [← e, h1] at h2; cases h2

section
variable {prog : Program} {w : World} {A₀ A : Around} {s : Shared} {base h₀ : Heap} {outer : List Env} {L : Addr} {mF : Str → Option Value} {env : Env} {news : List (Addr × Obj)} {K : Frag} {p : Program} {loose : List Str} {mean : ExcName → Option Value} {mg mb : Str → Option Value}
  {R : Result → Shared → Prop} {name qual : Str} {params : Arguments} {body : List Stmt} {scope : Scope} {cl : List (Str × Addr)} {dV kV doc pm cdv ct : Value} {an : Option Addr} {fo : Obj} {f : Addr} {args : Args} {binds : List (Str × Value)}

/-- a def without cells of its own is entered: all that stands is the ground -/
theorem enterB (B : Below A₀ base outer h₀) (F : Fr h₀ L s.heap mF) (X : K.In h₀) (N : News h₀ L s.heap news) (T : Top p loose mean mg mb h₀) (hA : A.frames = some (env :: outer)) (hf : env.frame = some L) (hke : env.scope.kind = .function)
    (ho : s.heap.get? f = some fo) (hd : fo.data = .func (fnX name qual params body scope cl dV kV doc pm an cdv ct)) (hcd : s.heap.CodeRec cdv qual) (hroom : A.depth < recursionLimit)
    (hbind : BindsTo s (fnX name qual params body scope cl dV kV doc pm an cdv ct) args binds) (hloc : ∀ y ∈ binds, scope.names.lookup y.1 = some .local)
    (h : ∀ L' h₁, Fr s.heap L' h₁ (fun y => binds.reverse.lookup y) → News s.heap L' h₁ [] → Below A base (env :: outer) s.heap → K.In s.heap → Top p loose mean mg mb s.heap →
      wpAny (model prog w) (A.deeper (envX qual scope L' f cdv cl)) (execs body (envX qual scope L' f cdv cl))
        (fun fl s' => Bye h₀ L mF s.heap news R (match fl with | .ret v => v | _ => .none) s')
        (fun e s' => wpAny (model prog w) (A.deeper (envX qual scope L' f cdv cl)) (leaving (envX qual scope L' f cdv cl) e) (fun _ s'' => R (.error e) s'') (fun e' s'' => R (.error e') s'') s')
        { s with heap := h₁, toks := s.toks + binds.length })
    (hcell : ∀ x ∈ scope.names, x.2 ≠ .cell) (hco : scope.isCoroutine = false) (hgen : scope.isGenerator = false) (hk : scope.kind = .function) : codeAny (model prog w) A (.call (.ref f) args) R s := by
  have B₁ := pushX B F hf hke
  refine codeAny_call_def (fd := fnX name qual params body scope cl dV kV doc pm an cdv ct) (body := body) (binds := binds) hroom ho hd (T.nolimit.keeps F.keep) hcd rfl hbind hcell hloc (fun h₁ hns hk₁ => ?_) hco hgen hk
  exact wpAny_mono (h s.heap.objs.size h₁ ⟨hns, hk₁, Nat.le_refl _⟩ News.nil ⟨hA, B₁.stays, B₁.frames⟩ (X.keeps F.keep) (T.keeps F.keep)) (fun fl s' hl => bye_back F N hl) fun _ _ y => y

/-- a def with cells of its own -/
theorem enterBC (B : Below A₀ base outer h₀) (F : Fr h₀ L s.heap mF) (X : K.In h₀) (N : News h₀ L s.heap news) (T : Top p loose mean mg mb h₀) (hA : A.frames = some (env :: outer)) (hf : env.frame = some L) (hke : env.scope.kind = .function)
    (ho : s.heap.get? f = some fo) (hd : fo.data = .func (fnX name qual params body scope [] dV kV doc pm an cdv ct)) (hcd : s.heap.CodeRec cdv qual) (hroom : A.depth < recursionLimit)
    (hbind : BindsTo s (fnX name qual params body scope [] dV kV doc pm an cdv ct) args binds)
    (hkind : ∀ n, ∀ x ∈ binds, scope.names.lookup x.1 = some .local ∨ (scope.names.lookup x.1 = some .cell ∧ ((cellsFrom n scope.names []).lookup x.1).isSome = true))
    (hnd : ((cellsFrom 0 scope.names []).map (·.1)).Nodup)
    (h : ∀ L' h₁ tk cells, Fr s.heap L' h₁ (bindL (envOfC qual scope L' f cdv).kindOf binds fun _ => none) → News s.heap L' h₁ cells →
      CellsAre (bindC (envOfC qual scope L' f cdv).kindOf binds fun _ => none) (cellsFrom (L' + 1) scope.names []) cells → Below A base (env :: outer) s.heap → K.In s.heap → Top p loose mean mg mb s.heap →
      wpAny (model prog w) (A.deeper (envOfC qual scope L' f cdv)) (execs body (envOfC qual scope L' f cdv))
        (fun fl s' => Bye h₀ L mF s.heap news R (match fl with | .ret v => v | _ => .none) s')
        (fun e s' => wpAny (model prog w) (A.deeper (envOfC qual scope L' f cdv)) (leaving (envOfC qual scope L' f cdv) e) (fun _ s'' => R (.error e) s'') (fun e' s'' => R (.error e') s'') s')
        { s with heap := h₁, toks := tk })
    (hco : scope.isCoroutine = false) (hgen : scope.isGenerator = false) (hk : scope.kind = .function) : codeAny (model prog w) A (.call (.ref f) args) R s := by
  have B₁ := pushX B F hf hke
  refine codeAny_call_function hroom ho hd hco hgen rfl hcd (hbind _ _ _ _ ?_)
  refine wpAny_newFunctionEnv_cells hk (hkind _) fun env' he s' x => ?_
  subst he
  refine ⟨(T.nolimit.keeps F.keep).keeps x.toInCall.keep, codeAny_func ?_⟩
  obtain ⟨h₁, tk, rfl, _⟩ := x.done
  have hk₁ := x.toInCall.keep
  obtain ⟨cells, NC, Y⟩ := Cl.news (h₀ := s.heap) (Nat.le_refl _) fun n c hm => ⟨x.cell n c (lookup_of_mem_nodup (cellsFrom_names scope.names 0 (s.heap.objs.size + 1) [] [] rfl ▸ hnd) hm), x.above n c hm⟩
  exact wpAny_mono (h s.heap.objs.size h₁ tk cells ⟨x.toInCall.ns, hk₁, Nat.le_refl _⟩ NC Y ⟨hA, B₁.stays, B₁.frames⟩ (X.keeps F.keep) (T.keeps F.keep)) (fun fl s' hl => bye_back F N hl) fun _ _ y => y
end

section
variable {prog : Program} {w : World} {A₀ A : Around} {s : Shared} {base h₀ : Heap} {outer : List Env} {L : Addr} {mF : Str → Option Value} {env : Env} {news : List (Addr × Obj)} {K : Frag} {p : Program} {loose : List Str} {mean : ExcName → Option Value} {mg mb : Str → Option Value}
  {R : Result → Shared → Prop} {name qual : Str} {params : Arguments} {body : List Stmt} {scope : Scope} {dV kV doc pm cdv ct oc : Value} {an od : Option Addr} {osl : Array (Option Value)} {f : Addr} {args : Args} {binds : List (Str × Value)}
theorem enterK (B : Below A₀ base outer h₀) (F : Fr h₀ L s.heap mF) (X : K.In h₀) (N : News h₀ L s.heap news) (T : Top p loose mean mg mb h₀) (hA : A.frames = some (env :: outer)) (hf : env.frame = some L) (hke : env.scope.kind = .function)
    (ho : K.lookup f = some ⟨oc, od, .func (fnOf name qual params body scope dV kV doc pm an cdv ct), osl⟩) (hcd : codeIn K cdv qual = true) (hroom : A.depth < recursionLimit)
    (hbind : BindsTo s (fnOf name qual params body scope dV kV doc pm an cdv ct) args binds) (hloc : ∀ y ∈ binds, scope.names.lookup y.1 = some .local)
    (h : ∀ L' h₁, Fr s.heap L' h₁ (fun y => binds.reverse.lookup y) → News s.heap L' h₁ [] → Below A base (env :: outer) s.heap → K.In s.heap → Top p loose mean mg mb s.heap →
      wpAny (model prog w) (A.deeper (envOf qual scope L' f cdv)) (execs body (envOf qual scope L' f cdv))
        (fun fl s' => Bye h₀ L mF s.heap news R (match fl with | .ret v => v | _ => .none) s')
        (fun e s' => wpAny (model prog w) (A.deeper (envOf qual scope L' f cdv)) (leaving (envOf qual scope L' f cdv) e) (fun _ s'' => R (.error e) s'') (fun e' s'' => R (.error e') s'') s')
        { s with heap := h₁, toks := s.toks + binds.length })
    (hco : scope.isCoroutine = false) (hgen : scope.isGenerator = false) (hk : scope.kind = .function) (hcell : ∀ x ∈ scope.names, x.2 ≠ .cell) : codeAny (model prog w) A (.call (.ref f) args) R s :=
  enterB (cl := []) B F X N T hA hf hke ((X.keeps F.keep) _ _ ho) rfl (codeRec_of (X.keeps F.keep) hcd) hroom hbind hloc h hcell hco hgen hk
theorem enterKC (B : Below A₀ base outer h₀) (F : Fr h₀ L s.heap mF) (X : K.In h₀) (N : News h₀ L s.heap news) (T : Top p loose mean mg mb h₀) (hA : A.frames = some (env :: outer)) (hf : env.frame = some L) (hke : env.scope.kind = .function)
    (ho : K.lookup f = some ⟨oc, od, .func (fnOf name qual params body scope dV kV doc pm an cdv ct), osl⟩) (hcd : codeIn K cdv qual = true) (hroom : A.depth < recursionLimit)
    (hbind : BindsTo s (fnOf name qual params body scope dV kV doc pm an cdv ct) args binds)
    (hkind : (binds.all fun y => scope.names.lookup y.1 == some .local || scope.names.lookup y.1 == some .cell) = true)
    (hnd : ((cellsFrom 0 scope.names []).map (·.1)).Nodup)
    (h : ∀ L' h₁ tk cells, Fr s.heap L' h₁ (bindL (envOfC qual scope L' f cdv).kindOf binds fun _ => none) → News s.heap L' h₁ cells →
      CellsAre (bindC (envOfC qual scope L' f cdv).kindOf binds fun _ => none) (cellsFrom (L' + 1) scope.names []) cells → Below A base (env :: outer) s.heap → K.In s.heap → Top p loose mean mg mb s.heap →
      wpAny (model prog w) (A.deeper (envOfC qual scope L' f cdv)) (execs body (envOfC qual scope L' f cdv))
        (fun fl s' => Bye h₀ L mF s.heap news R (match fl with | .ret v => v | _ => .none) s')
        (fun e s' => wpAny (model prog w) (A.deeper (envOfC qual scope L' f cdv)) (leaving (envOfC qual scope L' f cdv) e) (fun _ s'' => R (.error e) s'') (fun e' s'' => R (.error e') s'') s')
        { s with heap := h₁, toks := tk })
    (hco : scope.isCoroutine = false) (hgen : scope.isGenerator = false) (hk : scope.kind = .function) : codeAny (model prog w) A (.call (.ref f) args) R s :=
  enterBC B F X N T hA hf hke ((X.keeps F.keep) _ _ ho) rfl (codeRec_of (X.keeps F.keep) hcd) hroom hbind (kindsX hkind) hnd h hco hgen hk
end

/-- what a call of the def at f gives back: the value, the objects that it leaves behind -/
def Gives (prog : Program) (w : World) (K : Frag) (p : Program) (loose : List Str) (mean : ExcName → Option Value) (mg mb : Str → Option Value) (D : Nat) (f : Addr) (pre : Heap → Prop) (args : List Value) (post : Value → List (Addr × Obj) → Prop) : Prop :=
  ∀ (dp un : Nat) (gd : Option (List Code)) (cn : Str) (cs : Scope) (a : Addr) (ccd : Value) (cl : List (Str × Addr)) (outer : List Env) (A₀ : Around) (base h₀ : Heap) (L : Addr) (mF : Str → Option Value) (news : List (Addr × Obj)) (s : Shared) (Q E : Value → Shared → Prop),
    Below A₀ base outer h₀ → Fr h₀ L s.heap mF → K.In h₀ → News h₀ L s.heap news → Top p loose mean mg mb h₀ → cs.kind = .function → dp + D < recursionLimit → un + 8 * D < cLine → pre s.heap →
    (∀ v nx h' tk', post v nx → Fr h₀ L h' mF → News h₀ L h' (nx ++ news) → (∀ q ∈ news, ∀ r ∈ nx, q.1 ≠ r.1) → Q v { s with heap := h', toks := tk' }) →
    wpAny (model prog w) (ktrTop dp un gd cn cs L a ccd cl outer) (call (.ref f) args) Q E s

theorem nat_xor_and (m : Nat) : ∀ n : Nat, (m ^^^ n) + 2 * (m &&& n) = m + n := by
  induction m using Nat.strongRecOn with
  | ind m ih =>
    intro n
    by_cases h0 : m = 0
    · subst h0; simp
    have h := ih (m / 2) (by omega) (n / 2)
    have e1 : (m ^^^ n) / 2 = (m / 2) ^^^ (n / 2) := by
      simpa [Nat.shiftRight_eq_div_pow] using (Nat.shiftRight_xor_distrib (a := m) (b := n) (i := 1))
    have e2 : (m &&& n) / 2 = (m / 2) &&& (n / 2) := by
      simpa [Nat.shiftRight_eq_div_pow] using (Nat.shiftRight_and_distrib (a := m) (b := n) (i := 1))
    have e3 : (m ^^^ n) % 2 = (m % 2 + n % 2) % 2 := by
      have := Nat.xor_mod_two_pow (a := m) (b := n) (n := 1)
      simp only [Nat.pow_one] at this
      rw [this]
      rcases Nat.mod_two_eq_zero_or_one m with a | a <;> rcases Nat.mod_two_eq_zero_or_one n with b | b <;> rw [a, b] <;> decide
    have e4 : (m &&& n) % 2 = (m % 2) * (n % 2) := by
      have := Nat.and_mod_two_pow (a := m) (b := n) (n := 1)
      simp only [Nat.pow_one] at this
      rw [this]
      rcases Nat.mod_two_eq_zero_or_one m with a | a <;> rcases Nat.mod_two_eq_zero_or_one n with b | b <;> rw [a, b] <;> decide
    rcases Nat.mod_two_eq_zero_or_one m with a | a <;> rcases Nat.mod_two_eq_zero_or_one n with b | b <;> rw [a, b] at e3 e4 <;> omega

theorem bitAnd_nat (a b : Nat) : Builtin.bitAnd (a : Int) (b : Int) = ((a &&& b : Nat) : Int) := by
  rw [bitAnd_pp (by omega) (by omega)]; rfl
theorem bitOr_nat (a b : Nat) : Builtin.bitOr (a : Int) (b : Int) = ((a ||| b : Nat) : Int) := by
  rw [bitOr_and, bitAnd_nat]
  have := nat_or_add_and a b
  omega
theorem bitXor_nat (a b : Nat) : Builtin.bitXor (a : Int) (b : Int) = ((a ^^^ b : Nat) : Int) := by
  unfold Builtin.bitXor
  rw [bitOr_nat, bitAnd_nat]
  have h1 := nat_or_add_and a b
  have h2 := nat_xor_and a b
  omega
theorem fdiv_nat (a b : Nat) : (a : Int).fdiv (b : Int) = ((a / b : Nat) : Int) := by
  rw [Int.fdiv_eq_ediv_of_nonneg _ (by omega)]; rfl
theorem fmod_nat (a b : Nat) : (a : Int).fmod (b : Int) = ((a % b : Nat) : Int) := by
  rw [Int.fmod_eq_emod_of_nonneg _ (by omega)]; rfl

section
variable {prog : Program} {w : World} {A : Around} {E : Value → Shared → Prop} {s : Shared} {x y : Int} {a b : Nat} {t u : Tok} {Q : Value → Shared → Prop}

theorem xor_n (hx : x = (a : Int)) (hy : y = (b : Int)) (h : Q (.int ((a ^^^ b : Nat) : Int) s.toks) { s with toks := s.toks + 1 }) : wpAny (model prog w) A (binaryOp .BitXor (.int x t) (.int y u)) Q E s := by
  subst hx; subst hy; exact xor_int (by rw [bitXor_nat]; exact h)
theorem and_n (hx : x = (a : Int)) (hy : y = (b : Int)) (h : Q (.int ((a &&& b : Nat) : Int) s.toks) { s with toks := s.toks + 1 }) : wpAny (model prog w) A (binaryOp .BitAnd (.int x t) (.int y u)) Q E s := by
  subst hx; subst hy; exact and_int (by rw [bitAnd_nat]; exact h)
theorem or_n (hx : x = (a : Int)) (hy : y = (b : Int)) (h : Q (.int ((a ||| b : Nat) : Int) s.toks) { s with toks := s.toks + 1 }) : wpAny (model prog w) A (binaryOp .BitOr (.int x t) (.int y u)) Q E s := by
  subst hx; subst hy; exact or_int (by rw [bitOr_nat]; exact h)
theorem ixor_n (hx : x = (a : Int)) (hy : y = (b : Int)) (h : Q (.int ((a ^^^ b : Nat) : Int) s.toks) { s with toks := s.toks + 1 }) : wpAny (model prog w) A (inplaceOp .BitXor (.int x t) (.int y u)) Q E s := by
  subst hx; subst hy; exact ixor_int (by rw [bitXor_nat]; exact h)
theorem shl_size {k : Nat} (ha : a < 2 ^ k) (hk : k + b ≤ 2 ^ 20) : (Builtin.Int.intBits (a : Int) : Int) + (b : Int) ≤ 2 ^ 27 := by
  have := intBits_le (a := (a : Int)) (k := k) (by simpa using ha)
  omega
theorem shl_val (a b : Nat) : (a : Int) * 2 ^ (b : Int).toNat = ((a <<< b : Nat) : Int) := by
  rw [Nat.shiftLeft_eq, Int.toNat_natCast, two_pow_cast, Int.natCast_mul]
theorem shl_n (hx : x = (a : Int)) (hy : y = (b : Int)) (ha : a < 2 ^ 200) (hk : y ≤ 1000000) (h : Q (.int ((a <<< b : Nat) : Int) s.toks) { s with toks := s.toks + 1 }) : wpAny (model prog w) A (binaryOp .LShift (.int x t) (.int y u)) Q E s := by
  subst hx; subst hy; exact lshift_int (by omega) (shl_size ha (by omega)) (by rw [shl_val]; exact h)
theorem ishl_n (hx : x = (a : Int)) (hy : y = (b : Int)) (ha : a < 2 ^ 200) (hk : y ≤ 1000000) (h : Q (.int ((a <<< b : Nat) : Int) s.toks) { s with toks := s.toks + 1 }) : wpAny (model prog w) A (inplaceOp .LShift (.int x t) (.int y u)) Q E s := by
  subst hx; subst hy; exact ilshift_int (by omega) (shl_size ha (by omega)) (by rw [shl_val]; exact h)
theorem shr_val (a b : Nat) : (a : Int).fdiv (2 ^ (b : Int).toNat) = ((a >>> b : Nat) : Int) := by
  rw [Nat.shiftRight_eq_div_pow, Int.toNat_natCast, two_pow_cast, fdiv_nat]
theorem shr_n (hx : x = (a : Int)) (hy : y = (b : Int)) (h : Q (.int ((a >>> b : Nat) : Int) s.toks) { s with toks := s.toks + 1 }) : wpAny (model prog w) A (binaryOp .RShift (.int x t) (.int y u)) Q E s := by
  subst hx; subst hy; exact rshift_int (by omega) (by rw [shr_val]; exact h)
theorem ishr_n (hx : x = (a : Int)) (hy : y = (b : Int)) (h : Q (.int ((a >>> b : Nat) : Int) s.toks) { s with toks := s.toks + 1 }) : wpAny (model prog w) A (inplaceOp .RShift (.int x t) (.int y u)) Q E s := by
  subst hx; subst hy; exact irshift_int (by omega) (by rw [shr_val]; exact h)
theorem add_n (hx : x = (a : Int)) (hy : y = (b : Int)) (h : Q (.int ((a + b : Nat) : Int) s.toks) { s with toks := s.toks + 1 }) : wpAny (model prog w) A (binaryOp .Add (.int x t) (.int y u)) Q E s := by
  subst hx; subst hy; exact add_int (by rw [← Int.natCast_add]; exact h)
theorem sub_n (hx : x = (a : Int)) (hy : y = (b : Int)) (hyx : y ≤ x) (h : Q (.int ((a - b : Nat) : Int) s.toks) { s with toks := s.toks + 1 }) : wpAny (model prog w) A (binaryOp .Sub (.int x t) (.int y u)) Q E s := by
  subst hx; subst hy; have hab : b ≤ a := by omega
  exact sub_int (by rw [← Int.natCast_sub hab]; exact h)
theorem mod_n (hx : x = (a : Int)) (hy : y = (b : Int)) (hb : b ≠ 0) (h : Q (.int ((a % b : Nat) : Int) s.toks) { s with toks := s.toks + 1 }) : wpAny (model prog w) A (binaryOp .Mod (.int x t) (.int y u)) Q E s := by
  subst hx; subst hy; exact mod_int' (by omega) (by rw [fmod_nat]; exact h)
theorem imod_n (hx : x = (a : Int)) (hy : y = (b : Int)) (hb : b ≠ 0) (h : Q (.int ((a % b : Nat) : Int) s.toks) { s with toks := s.toks + 1 }) : wpAny (model prog w) A (inplaceOp .Mod (.int x t) (.int y u)) Q E s := by
  subst hx; subst hy; exact imod_int (by omega) (by rw [fmod_nat]; exact h)
theorem mul_n (hx : x = (a : Int)) (hy : y = (b : Int)) (ha : a < 2 ^ 250) (h : Q (.int ((a * b : Nat) : Int) s.toks) { s with toks := s.toks + 1 }) (hb : b < 2 ^ 250) : wpAny (model prog w) A (binaryOp .Mult (.int x t) (.int y u)) Q E s := by
  subst hx; subst hy
  refine mul_int (by rw [← Int.natCast_mul]; exact h) (IntMulOk.of_le (m := 250) (n := 250) (intBits_le (by simpa using ha)) (intBits_le (by simpa using hb)) (by decide))
theorem lt_n (hx : x = (a : Int)) (hy : y = (b : Int)) (h : Q (.bool (decide (a < b))) s) : wpAny (model prog w) A (compareOp .Lt (.int x t) (.int y u)) Q E s := by
  subst hx; subst hy
  refine lt_int ?_
  have : decide ((a : Int) < (b : Int)) = decide (a < b) := by simp
  rw [this]; exact h
theorem truthy_n {Q : Bool → Shared → Prop} (hx : x = (a : Int)) (h : Q (decide (a ≠ 0)) s) : wpAny (model prog w) A (truthy (.int x t)) Q E s := by
  subst hx
  refine truthy_int ?_
  have : ((a : Int) != 0) = decide (a ≠ 0) := by
    by_cases h0 : a = 0
    · subst h0; rfl
    · have : (a : Int) ≠ 0 := by omega
      simp [h0]
  rw [this]; exact h
end
/-- a natural number, nothing left behind -/
def RetN (x : Nat) (v : Value) (nx : List (Addr × Obj)) : Prop := nx = [] ∧ ∃ t, v = .int (x : Int) t
/-- the same for this text's written part -/
def GV (w : World) (p : Program) (loose : List Str) (mean : ExcName → Option Value) (mg mb : Str → Option Value) (D : Nat) (f : Addr) (pre : Heap → Prop) (args : List Value) (post : Value → List (Addr × Obj) → Prop) : Prop :=
  Gives PySem.Challenge.rw_eg5007_01.row.prog w (hd.heap_39 w.params) p loose mean mg mb D f pre args post
abbrev NoPre (_ : Heap) : Prop := True
section
variable {w : World} {p : Program} {loose : List Str} {mean : ExcName → Option Value} {mg mb : Str → Option Value} {D : Nat} {f : Addr} {pre : Heap → Prop} {args : List Value} {post : Value → List (Addr × Obj) → Prop}
  {dp un : Nat} {gd : Option (List Code)} {cn : Str} {cs : Scope} {a : Addr} {ccd : Value} {cl : List (Str × Addr)} {outer : List Env} {A₀ : Around} {base h₀ : Heap} {L : Addr} {mF : Str → Option Value} {news : List (Addr × Obj)} {s : Shared} {Q E : Value → Shared → Prop}
theorem use_g (G : GV w p loose mean mg mb D f pre args post) (B : Below A₀ base outer h₀) (F : Fr h₀ L s.heap mF) (X : (hd.heap_39 w.params).In h₀) (N : News h₀ L s.heap news) (T : Top p loose mean mg mb h₀) (hk : cs.kind = .function) (hd : dp + D < recursionLimit) (hu : un + 8 * D < cLine) (hp : pre s.heap)
    (h : ∀ v nx h' tk', post v nx → Fr h₀ L h' mF → News h₀ L h' (nx ++ news) → (∀ q ∈ news, ∀ r ∈ nx, q.1 ≠ r.1) → Q v { s with heap := h', toks := tk' }) :
    wpAny (model PySem.Challenge.rw_eg5007_01.row.prog w) (ktrTop dp un gd cn cs L a ccd cl outer) (call (.ref f) args) Q E s := G _ _ _ _ _ _ _ _ _ _ _ _ _ _ _ _ _ _ B F X N T hk hd hu hp h
theorem use_n {x : Nat} (G : GV w p loose mean mg mb D f pre args (RetN x)) (B : Below A₀ base outer h₀) (F : Fr h₀ L s.heap mF) (X : (hd.heap_39 w.params).In h₀) (N : News h₀ L s.heap news) (T : Top p loose mean mg mb h₀) (hk : cs.kind = .function) (hd : dp + D < recursionLimit) (hu : un + 8 * D < cLine) (hp : pre s.heap)
    (h : ∀ t h' tk', Fr h₀ L h' mF → News h₀ L h' news → Q (.int (x : Int) t) { s with heap := h', toks := tk' }) :
    wpAny (model PySem.Challenge.rw_eg5007_01.row.prog w) (ktrTop dp un gd cn cs L a ccd cl outer) (call (.ref f) args) Q E s := by
  refine use_g G B F X N T hk hd hu hp fun v nx h' tk' hv F' N' _ => ?_
  obtain ⟨rfl, t, rfl⟩ := hv
  exact h t h' tk' F' N'
end
theorem byeProbe {h₀ : Heap} {L : Addr} {mF : Str → Option Value} {g : Heap} {news : List (Addr × Obj)} {R : Result → Shared → Prop} {v : Value} {s' : Shared} (h : Bye h₀ L mF g news R v s') : Bye h₀ L mF g news R v s' := h
theorem one_le_shl (n : Nat) : 1 ≤ 1 <<< n := by
  rw [Nat.shiftLeft_eq, Nat.one_mul]; exact Nat.one_le_two_pow
/-- the low n bits of an int -/
def lowN (x : Int) (n : Nat) : Nat := (x % 2 ^ n).toNat
theorem lowN_cast (x : Int) (n : Nat) : ((lowN x n : Nat) : Int) = x % 2 ^ n :=
  Int.toNat_of_nonneg (Int.emod_nonneg _ (by have := kbt_pos n; omega))
theorem lowN_lt (x : Int) (n : Nat) : lowN x n < 2 ^ n := by
  have h1 := lowN_cast x n
  have h2 := Int.emod_lt_of_pos x (kbt_pos n)
  rw [← h1, two_pow_cast] at h2
  omega
theorem mask_cast (n : Nat) : (((1 <<< n) - 1 : Nat) : Int) = 2 ^ n - 1 := by
  rw [Int.natCast_sub (one_le_shl n), Nat.shiftLeft_eq, Nat.one_mul, two_pow_cast]; rfl
section
variable {prog : Program} {w : World} {A : Around} {E : Value → Shared → Prop} {s : Shared} {x y : Int} {a b n : Nat} {t u : Tok} {Q : Value → Shared → Prop}
theorem and_low (hy : y = (((1 <<< n) - 1 : Nat) : Int)) (h : Q (.int ((lowN x n : Nat) : Int) s.toks) { s with toks := s.toks + 1 }) : wpAny (model prog w) A (binaryOp .BitAnd (.int x t) (.int y u)) Q E s := by
  subst hy
  refine and_int ?_
  rw [mask_cast, kbt_mask, ← lowN_cast]; exact h
theorem mod_i (h0 : 0 < y) (h : Q (.int (((x.fmod y).toNat : Nat) : Int) s.toks) { s with toks := s.toks + 1 }) : wpAny (model prog w) A (binaryOp .Mod (.int x t) (.int y u)) Q E s := by
  refine mod_int' (by omega) ?_
  rw [Int.toNat_of_nonneg (Int.fmod_nonneg_of_pos _ h0)] at h; exact h
end
theorem fmod_toNat_lt (x : Int) : (x.fmod 255).toNat < 255 := by
  have h0 := Int.fmod_nonneg_of_pos x (show (0 : Int) < 255 by decide)
  have h1 := Int.fmod_lt_of_pos x (show (0 : Int) < 255 by decide)
  omega
theorem fmod_toNat_le (x : Int) : (((x.fmod 255).toNat : Nat) : Int) ≤ 255 := by have := fmod_toNat_lt x; omega
theorem shl_place (x : Int) : (((x.fmod 255).toNat : Nat) : Int) ≤ 1000000 := by have := fmod_toNat_lt x; omega
theorem one_le_shl' (n : Nat) : (1 : Int) ≤ ((1 <<< n : Nat) : Int) := by have := one_le_shl n; omega
section
variable {prog : Program} {w : World} {A : Around} {E : Value → Shared → Prop} {s : Shared} {x y : Int} {t u : Tok} {Q : Value → Shared → Prop}
theorem mul_i (hx0 : -(2 ^ 64) < x) (hx1 : x < 2 ^ 64) (hy0 : -(2 ^ 64) < y) (hy1 : y < 2 ^ 64) (h : Q (.int (x * y) s.toks) { s with toks := s.toks + 1 }) : wpAny (model prog w) A (binaryOp .Mult (.int x t) (.int y u)) Q E s :=
  mul_int h (IntMulOk.of_le (m := 64) (n := 64) (intBits_le (by omega)) (intBits_le (by omega)) (by decide))
end
theorem and_lowL {prog : Program} {w : World} {A : Around} {E : Value → Shared → Prop} {s : Shared} {x y : Int} {t u : Tok} {Q : Value → Shared → Prop} (n : Nat) (hy : y = 2 ^ n - 1) (h : Q (.int ((lowN x n : Nat) : Int) s.toks) { s with toks := s.toks + 1 }) : wpAny (model prog w) A (binaryOp .BitAnd (.int x t) (.int y u)) Q E s :=
  and_low (n := n) (by rw [mask_cast]; exact hy) h
theorem ints_getN {vs : List Value} {T : List Nat} (hi : IntsAre vs (T.map fun k : Nat => (k : Int))) {i : Nat} (hlt : i < T.length) : ∃ u, vs[i]? = some (.int ((T.getD i 0 : Nat) : Int) u) := by
  obtain ⟨u, hu⟩ := hi.get i ((T.getD i 0 : Nat) : Int) (by simp [hlt])
  exact ⟨u, hu⟩
theorem item_n {prog : Program} {w : World} {A : Around} {E : Value → Shared → Prop} {s : Shared} {h₀ : Heap} {L l : Addr} {mF : Str → Option Value} {value slice : PySem.Expr} {vs : List Value} {T : List Nat} {x : Int} {i : Nat} {t : Tok} {Q : Value → Shared → Prop}
    (hl : h₀.IsList l vs.toArray) (F : Fr h₀ L s.heap mF) (hi : IntsAre vs (T.map fun k : Nat => (k : Int))) (hx : x = (i : Int)) (hlt : i < T.length) (hT : T.length ≤ 100000) (h : ∀ u, Q (.int ((T.getD i 0 : Nat) : Int) u) s)
    (hs : subscripted slice false (.ref l) (.int x t) = operate [.ref l, .int x t] (getItem (.ref l) (.int x t)) := by with_unfolding_all rfl) :
    wpAny (model prog w) A (subscriptTail value slice (.ref l) (.int x t)) Q E s := by
  subst hx
  obtain ⟨u, hu⟩ := ints_getN hi hlt
  have hl' : s.heap.IsList l vs.toArray := hl.at fun o e => F.keep l o e
  exact tail_any hl'.typeIs slot_list_getitem.lookup (wpAny_getItem_list hl' (by omega) (by omega) (by simpa using hu) (h u)) hs
theorem lit_n (n : Nat) : (@OfNat.ofNat Int n _) = ((@OfNat.ofNat Nat n _ : Nat) : Int) := rfl
theorem pyIterProbe {M : Model} {A : Around} {v : Value} {Q : Value → Shared → Prop} {E : Value → Shared → Prop} {s : Shared} (h : wpAny M A (pyIter v) Q E s) : wpAny M A (pyIter v) Q E s := h
theorem whileProbe {M : Model} {A : Around} {test : Expr} {body orelse : List Stmt} {pos : Pos} {env : Env} {Q : Flow → Shared → Prop} {E : Value → Shared → Prop} {s : Shared} (h : wpAny M A (exec (.While test body orelse pos) env) Q E s) : wpAny M A (exec (.While test body orelse pos) env) Q E s := h
theorem rng_small {n : Nat} (hn : n ≤ 100000) : Builtin.Range.small 0 (n : Int) 1 = true := by
  exact small_one (by omega) (by omega) (by omega) (by omega)
theorem rng_size {n : Nat} : Builtin.Range.rangeSize 0 (n : Int) 1 = (n : Int) := by
  unfold Builtin.Range.rangeSize
  rw [if_pos (by decide)]
  by_cases h : (0 : Int) < (n : Int)
  · rw [if_pos h, Int.ediv_one]; omega
  · rw [if_neg h]; omega
theorem kswProbe {σ : Type} {h₀ : Heap} {L : Addr} {s : Shared} {Led : σ → List (Addr × Obj)} {ps : σ → List (Str × Value)} {Facts : σ → Prop} {stored : List Str} {m₀ : Str → Option Value} {P : σ → Prop} {μ : σ → Nat} {c : σ} {s₂ : Shared}
    (h : KswEnd h₀ L s Led ps Facts stored m₀ P μ c s₂) : KswEnd h₀ L s Led ps Facts stored m₀ P μ c s₂ := h
theorem invProbe {h₀ : Heap} {L : Addr} {J : (Str → Option Value) → List (Addr × Obj) → Prop} {own : List (Addr × Obj)} {adr : List Addr} {s₁ s₂ : Shared} (h : InvEndN h₀ L J own adr s₁ s₂) : InvEndN h₀ L J own adr s₁ s₂ := h
end
local macro_rules | `(tactic| walk_at "And") => `(tactic| fail "And")
local macro_rules | `(tactic| walk_at "CompEnd") => `(tactic| fail "CompEnd")
local macro_rules | `(tactic| walk_at "CompSrc") => `(tactic| fail "CompSrc")
local macro_rules | `(tactic| walk_at "GrownAll") => `(tactic| fail "GrownAll")
local macro_rules | `(tactic| walk_at "KCfEl") => `(tactic| fail "KCfEl")
local macro_rules | `(tactic| walk_at "TupSrc") => `(tactic| fail "TupSrc")
local macro_rules | `(tactic| walk_at "binaryOp Add int int") => `(tactic| fail "binaryOp Add int int")
local macro_rules | `(tactic| walk_at "binaryOp BitAnd int int") => `(tactic| fail "binaryOp BitAnd int int")
local macro_rules | `(tactic| walk_at "binaryOp BitOr int int") => `(tactic| fail "binaryOp BitOr int int")
local macro_rules | `(tactic| walk_at "binaryOp BitXor int int") => `(tactic| fail "binaryOp BitXor int int")
local macro_rules | `(tactic| walk_at "binaryOp FloorDiv int int") => `(tactic| fail "binaryOp FloorDiv int int")
local macro_rules | `(tactic| walk_at "binaryOp LShift int int") => `(tactic| fail "binaryOp LShift int int")
local macro_rules | `(tactic| walk_at "binaryOp Mod int int") => `(tactic| fail "binaryOp Mod int int")
local macro_rules | `(tactic| walk_at "binaryOp Mult int int") => `(tactic| fail "binaryOp Mult int int")
local macro_rules | `(tactic| walk_at "binaryOp RShift int int") => `(tactic| fail "binaryOp RShift int int")
local macro_rules | `(tactic| walk_at "binaryOp Sub int int") => `(tactic| fail "binaryOp Sub int int")
local macro_rules | `(tactic| walk_at "call builtin:bytes.join") => `(tactic| fail "call builtin:bytes.join")
local macro_rules | `(tactic| walk_at "call builtin:int.to_bytes") => `(tactic| fail "call builtin:int.to_bytes")
local macro_rules | `(tactic| walk_at "call builtin:pow") => `(tactic| fail "call builtin:pow")
local macro_rules | `(tactic| walk_at "call ref") => `(tactic| fail "call ref")
local macro_rules | `(tactic| walk_at "callWith ref") => `(tactic| fail "callWith ref")
local macro_rules | `(tactic| walk_at "callWith ref nil nil") => `(tactic| fail "callWith ref nil nil")
local macro_rules | `(tactic| walk_at "compareOp Eq int int") => `(tactic| fail "compareOp Eq int int")
local macro_rules | `(tactic| walk_at "compareOp Lt int int") => `(tactic| fail "compareOp Lt int int")
local macro_rules | `(tactic| walk_at "compareOp NotEq int int") => `(tactic| fail "compareOp NotEq int int")
local macro_rules | `(tactic| walk_at "eval IfExp") => `(tactic| fail "eval IfExp")
local macro_rules | `(tactic| walk_at "eval Lambda") => `(tactic| fail "eval Lambda")
local macro_rules | `(tactic| walk_at "eval ListComp") => `(tactic| fail "eval ListComp")
local macro_rules | `(tactic| walk_at "eval Name") => `(tactic| fail "eval Name")
local macro_rules | `(tactic| walk_at "evalAll") => `(tactic| fail "evalAll")
local macro_rules | `(tactic| walk_at "exec FunctionDef") => `(tactic| fail "exec FunctionDef")
local macro_rules | `(tactic| walk_at "execs cons") => `(tactic| fail "execs cons")
local macro_rules | `(tactic| walk_at "execs nil") => `(tactic| fail "execs nil")
local macro_rules | `(tactic| walk_at "getMethod bytes") => `(tactic| fail "getMethod bytes")
local macro_rules | `(tactic| walk_at "inplaceOp BitXor int int") => `(tactic| fail "inplaceOp BitXor int int")
local macro_rules | `(tactic| walk_at "inplaceOp LShift int int") => `(tactic| fail "inplaceOp LShift int int")
local macro_rules | `(tactic| walk_at "inplaceOp Mod int int") => `(tactic| fail "inplaceOp Mod int int")
local macro_rules | `(tactic| walk_at "inplaceOp RShift int int") => `(tactic| fail "inplaceOp RShift int int")
local macro_rules | `(tactic| walk_at "makeFunction") => `(tactic| fail "makeFunction")
local macro_rules | `(tactic| walk_at "makeTail") => `(tactic| fail "makeTail")
local macro_rules | `(tactic| walk_at "subscriptTail") => `(tactic| fail "subscriptTail")
local macro_rules | `(tactic| walk_at "subscriptTail Name Constant ref int") => `(tactic| fail "subscriptTail Name Constant ref int")
local macro_rules | `(tactic| walk_at "truthy int") => `(tactic| fail "truthy int")
local macro_rules | `(tactic| walk_at "subscriptTail Name Name ref int") => `(tactic| fail "subscriptTail")
local macro_rules | `(tactic| walk_at "subscriptTail Name BinOp ref int") => `(tactic| fail "subscriptTail")
local macro_rules | `(tactic| walk_at "subscriptTail Name Call ref int") => `(tactic| fail "subscriptTail")
local macro_rules | `(tactic| walk_at "subscriptTail Tuple Name ref int") => `(tactic| fail "subscriptTail")
local macro_rules | `(tactic| walk_at "subscriptTail Tuple BinOp ref int") => `(tactic| fail "subscriptTail")
local macro_rules | `(tactic| walk_at "subscriptTail Tuple Constant ref int") => `(tactic| fail "subscriptTail")
local macro_rules | `(tactic| walk_at "subscriptTail Tuple Call ref int") => `(tactic| fail "subscriptTail")
local macro_rules | `(tactic| fail "binaryOp BitXor int int") => `(tactic| k_dflt (((with_reducible refine' xor_n ?h1 ?h2 ?_); (case h1 => k_dflt (first | with_reducible exact lit_n _ | rfl)); (case h2 => k_dflt (first | with_reducible exact lit_n _ | rfl)))))
local macro_rules | `(tactic| fail "inplaceOp BitXor int int") => `(tactic| k_dflt (((with_reducible refine' ixor_n ?h1 ?h2 ?_); (case h1 => k_dflt (first | with_reducible exact lit_n _ | rfl)); (case h2 => k_dflt (first | with_reducible exact lit_n _ | rfl)))))
local macro_rules | `(tactic| fail "binaryOp BitAnd int int") => `(tactic| k_dflt (first | ((with_reducible refine' and_n ?h1 ?h2 ?_); (case h1 => k_dflt (first | with_reducible exact lit_n _ | rfl)); (case h2 => k_dflt (first | with_reducible exact lit_n _ | rfl))) | ((with_reducible refine' and_low ?h1 ?_); (case h1 => k_dflt (first | with_reducible exact lit_n _ | rfl)))))
local macro_rules | `(tactic| fail "binaryOp BitOr int int") => `(tactic| k_dflt (((with_reducible refine' or_n ?h1 ?h2 ?_); (case h1 => k_dflt (first | with_reducible exact lit_n _ | rfl)); (case h2 => k_dflt (first | with_reducible exact lit_n _ | rfl)))))
local macro_rules | `(tactic| fail "binaryOp RShift int int") => `(tactic| k_dflt (((with_reducible refine' shr_n ?h1 ?h2 ?_); (case h1 => k_dflt (first | with_reducible exact lit_n _ | rfl)); (case h2 => k_dflt (first | with_reducible exact lit_n _ | rfl)))))
local macro_rules | `(tactic| fail "inplaceOp RShift int int") => `(tactic| k_dflt (((with_reducible refine' ishr_n ?h1 ?h2 ?_); (case h1 => k_dflt (first | with_reducible exact lit_n _ | rfl)); (case h2 => k_dflt (first | with_reducible exact lit_n _ | rfl)))))
local macro_rules | `(tactic| fail "binaryOp Add int int") => `(tactic| k_dflt (((with_reducible refine' add_n ?h1 ?h2 ?_); (case h1 => k_dflt (first | with_reducible exact lit_n _ | rfl)); (case h2 => k_dflt (first | with_reducible exact lit_n _ | rfl)))))
local macro_rules | `(tactic| fail "binaryOp Sub int int") => `(tactic| k_dflt (((with_reducible refine' sub_n ?h1 ?h2 ?h3 ?_); (case h1 => k_dflt (first | with_reducible exact lit_n _ | rfl)); (case h2 => k_dflt (first | with_reducible exact lit_n _ | rfl)); (case h3 => k_dflt (first | assumption | exact one_le_shl' _ | omega | exact fmod_toNat_le _)))))
local macro_rules | `(tactic| fail "binaryOp Mod int int") => `(tactic| k_dflt (first | ((with_reducible refine' mod_n ?h1 ?h2 ?h3 ?_); (case h1 => k_dflt (first | with_reducible exact lit_n _ | rfl)); (case h2 => k_dflt (first | with_reducible exact lit_n _ | rfl)); (case h3 => k_dflt (decide))) | ((with_reducible refine' mod_i ?h1 ?_); (case h1 => decide))))
local macro_rules | `(tactic| fail "inplaceOp Mod int int") => `(tactic| k_dflt (((with_reducible refine' imod_n ?h1 ?h2 ?h3 ?_); (case h1 => k_dflt (first | with_reducible exact lit_n _ | rfl)); (case h2 => k_dflt (first | with_reducible exact lit_n _ | rfl)); (case h3 => k_dflt (decide)))))
local macro_rules | `(tactic| fail "truthy int") => `(tactic| k_dflt (((with_reducible refine' truthy_n ?h1 ?_); (case h1 => k_dflt (first | with_reducible exact lit_n _ | rfl)))))
local macro_rules | `(tactic| fail "compareOp Lt int int") => `(tactic| k_dflt (((with_reducible refine' lt_n ?h1 ?h2 ?_); (case h1 => k_dflt (first | with_reducible exact lit_n _ | rfl)); (case h2 => k_dflt (first | with_reducible exact lit_n _ | rfl)))))
local macro_rules | `(tactic| fail "shl room") => `(tactic| first | assumption | (exact Nat.lt_of_lt_of_le (by assumption) (Nat.pow_le_pow_right (by decide) (by decide))) | (exact Nat.lt_of_lt_of_le (m := 2 ^ 20) (by decide) (Nat.pow_le_pow_right (by decide) (by decide))))
local macro_rules | `(tactic| fail "binaryOp LShift int int") => `(tactic| k_dflt (((with_reducible refine' shl_n ?h1 ?h2 ?h3 ?h4 ?_); (case h1 => k_dflt (first | with_reducible exact lit_n _ | rfl)); (case h2 => k_dflt (first | with_reducible exact lit_n _ | rfl)); (case h3 => k_dflt (fail "shl room")); (case h4 => k_dflt (first | decide | omega | exact shl_place _)))))
local macro_rules | `(tactic| fail "binaryOp Mult int int") => `(tactic| k_dflt (first | ((with_reducible refine' mul_n ?h1 ?h2 ?h3 ?_ ?h4); (case h1 => k_dflt (first | with_reducible exact lit_n _ | rfl)); (case h2 => k_dflt (first | with_reducible exact lit_n _ | rfl)); (case h3 => k_dflt (first | decide | assumption)); (case h4 => k_dflt (first | decide | assumption))) | ((with_reducible refine' mul_i ?h1 ?h2 ?h3 ?h4 ?_); (case h1 => omega); (case h2 => omega); (case h3 => omega); (case h4 => omega))))
local macro_rules | `(tactic| fail "inplaceOp LShift int int") => `(tactic| k_dflt (((with_reducible refine' ishl_n ?h1 ?h2 ?h3 ?h4 ?_); (case h1 => k_dflt (first | with_reducible exact lit_n _ | rfl)); (case h2 => k_dflt (first | with_reducible exact lit_n _ | rfl)); (case h3 => k_dflt (fail "shl room")); (case h4 => k_dflt (first | decide | omega | exact shl_place _)))))
local macro_rules | `(tactic| fail "enter") => `(tactic| k_dflt (refine' enterK ?k1 ?k2 ?k3 ?k4 ?k5 ?kA ?kF ?kK ?k6 ?k7 ?k8 ?k9 ?kB ?_ ?c2 ?c3 ?c4 ?c5; (case kA => exact rfl); (case kF => exact rfl); (case kK => assumption); (case k1 => k_asm); (case k2 => k_asm); (case k3 => k_asm); (case k4 => k_asm); (case k5 => k_asm); (case k6 => k_is); (case k7 => k_is); (case k8 => ktr_room); (case k9 => first | exact BindsTo.of_eq rfl | exact binds_K (by k_in) rfl (by k_is) rfl rfl rfl); (case c5 => decide); (case kB => exact locs rfl); (case c2 => exact rfl); (case c3 => exact rfl); (case c4 => exact rfl); k_whole; intro L' h' F' N' B' X' T'; (try dsimp only); (try k_fold)))
local macro_rules | `(tactic| fail "enterC") => `(tactic| k_dflt (refine' enterKC ?k1 ?k2 ?k3 ?k4 ?k5 ?kA ?kF ?kK ?k6 ?k7 ?k8 ?k9 ?kB ?kD ?_ ?c2 ?c3 ?c4; (case kA => exact rfl); (case kF => exact rfl); (case kK => assumption); (case k1 => k_asm); (case k2 => k_asm); (case k3 => k_asm); (case k4 => k_asm); (case k5 => k_asm); (case k6 => k_is); (case k7 => k_is); (case k8 => ktr_room); (case k9 => first | exact BindsTo.of_eq rfl | exact binds_K (by k_in) rfl (by k_is) rfl rfl rfl); (case kB => exact rfl); (case kD => decide +kernel); (case c2 => exact rfl); (case c3 => exact rfl); (case c4 => exact rfl); k_whole; intro L' h' tk' cells' F' N' Y' B' X' T'; k_cells Y'; (try simp only [List.cons_append, List.nil_append] at N'); (try dsimp only); (try k_fold)))
local macro_rules | `(tactic| fail "enterH") => `(tactic| k_dflt (refine' code_def ?k1 ?k2 ?k3 ?k4 ?k5 ?kA ?kF ?kK ?k6 ?k7 ?k8 ?k9 ?kB ?_ ?c2 ?c3 ?c4 ?c5; (case kA => exact rfl); (case kF => exact rfl); (case kK => first | exact rfl | assumption); (case k1 => k_asm); (case k2 => k_asm); (case k3 => k_asm); (case k4 => k_asm); (case k5 => k_asm); (case k6 => k_is); (case k7 => k_is); (case k8 => ktr_room); (case k9 => exact BindsTo.of_eq rfl); (case c5 => decide); (case kB => exact locs rfl); (case c2 => exact rfl); (case c3 => exact rfl); (case c4 => exact rfl); k_whole; intro g' L' h' FG' F' N' B' X' T'; (try dsimp only); (try k_fold)))
local macro_rules | `(tactic| fail "use sides") => `(tactic| ((case k1 => k_asm); (case k2 => k_asm); (case k3 => k_asm); (case k4 => k_asm); (case k5 => k_asm); (case kK => first | exact rfl | assumption)))
local macro_rules | `(tactic| fail "use n") => `(tactic| (k_here; k_dflt (refine' use_n ?kG ?k1 ?k2 ?k3 ?k4 ?k5 ?kK ?kd ?ku ?kP ?_; fail "use sides"; (case kG => fail "which"); (case kP => trivial); (case kd => ktr_room); (case ku => ktr_units)); intro t' h' tk' F' N'; (try dsimp only); (try k_fold)))
local macro_rules | `(tactic| fail "go") => `(tactic| repeat' (first | (k_unfold; (try dsimp only)) | ((fail_if_success (with_reducible refine pyIterProbe ?_)); (fail_if_success (with_reducible refine whileProbe ?_)); (fail_if_success (with_reducible refine kswProbe ?_)); (fail_if_success (with_reducible refine invProbe ?_)); (fail_if_success (with_reducible refine byeProbe ?_)); first | walk1 | (dsimp only; walk1) | (dsimp only; k_unfold; (try dsimp only)))))
local macro_rules | `(tactic| fail "execs cons") => `(tactic| ((with_reducible refine wpAny_execs_cons ?_); try dsimp only))
local macro_rules | `(tactic| fail "execs nil") => `(tactic| (with_reducible refine wpAny_execs_nil ?_))
local macro_rules | `(tactic| is_list) => `(tactic| first | (with_reducible assumption) | exact Fr.lst (by with_reducible assumption) (by with_reducible assumption) | exact News.isList (by with_reducible assumption) (by news_mem))
local macro_rules | `(tactic| fail "callWith ref") => `(tactic| (k_here; (with_reducible show wpAny _ _ (callWith _ (Value.ref _) _ (backTo _ (starEach (_ :: _) _)) []) _ _ _); k_dflt (refine' callWith_K ?k1 ?k2 ?_; (case k1 => k_asm); (case k2 => k_is); k_whole)))
section
theorem bj_slot : Slot "bytes" "join" "bytes.join" :=
  .of (owner := "bytes") (n := "join") (by rw [typeLookup_type, builtinLookup_eq_fast]; kernel_rfl) (by decide +kernel) (by decide +kernel) (by decide +kernel)
    (by first | exact .inl (by decide +kernel) | exact .inr (by decide +kernel)) (by rw [isSubtype_type]; kernel_rfl)
theorem bj_type : typeOf (.builtin "bytes.join") = pure (.type "method_descriptor") := by show builtinType _ = _; rw [builtinType_eq_fast]; kernel_rfl
theorem bj_entry : entryFor table "bytes.join" = some Builtin.«bytes.join» := entryFor_of_fast (by kernel_rfl)
theorem bj_args (a b : Value) : argsOk "bytes.join" ⟨[a, b], []⟩ := by unfold argsOk; kernel_rfl
section
variable {prog : Program} {w : World} {M : Model} {A : Around} {E : Value → Shared → Prop} {s : Shared} {b c : Array UInt8} {t u : Tok} {l : Addr}
theorem bj_method {pl : Sem Bool} {Q : Value × List Value → Shared → Prop} (h : Q (.builtin "bytes.join", [.bytes b t]) s) : wpAny M A (getMethod (.bytes b t) "join" pl) Q E s := by
  with_reducible exact KBd.method_of (.bytes b t) (typeIs_bytes _ _ _) bj_slot bj_type KBd.noRef h
theorem bj_call {Q : Value → Shared → Prop} {o : Obj} {n : Nat} (ho : s.heap.get? l = some o) (hc : o.cls = .type "list") (hd : o.data = .seq #[.bytes c u] n) (h : Q (.bytes c u) s) : wpAny (model prog w) A (call (.builtin "bytes.join") [.bytes b t, .ref l]) Q E s := by
  refine wpAny_call_entry bj_slot (typeIs_bytes s b t) bj_entry ?_ (bj_args _ _)
  unfold Builtin.«bytes.join» Builtin.Bytes.joinM
  refine wpAny_bind (wpAny_of_eq (a := (.bytes b t, .ref l)) (by kernel_rfl) ?_)
  dsimp only
  refine wpAny_ite_true (by decide) ?_
  refine wpAny_bind ?_
  unfold Builtin.Bytes.joinItems
  refine wpAny_bind (wpAny_typeOf_ref ho ?_)
  rw [hc]
  refine wpAny_ite_true (by decide) ?_
  refine wpAny_pure ?_
  refine wpAny_bind (wpAny_seqItems ho hd ?_)
  dsimp only
  refine wpAny_ite_true (by decide) ?_
  refine wpAny_bind (wpAny_typeOf (typeIs_bytes s c u) ?_)
  refine wpAny_ite_true (by decide) ?_
  refine wpAny_bind (wpAny_rule ?_)
  refine wpAny_bind (wpAny_pure ?_)
  exact wpAny_pure ⟨_, rfl, h⟩
end
end
section
def ViewIs (w : World) (b : Array UInt8) (t : Tok) (v : Value) (nx : List (Addr × Obj)) : Prop := ∃ x d k, v = .ref x ∧ nx = [(x, instObj 49 d), (d, dictOf [⟨PyData.keyHash w.params (Str.ofString "octets"), .str (Str.ofString "octets") k, .bytes b t⟩] 1)]
local macro_rules | `(tactic| fail "getMethod bytes") => `(tactic| k_dflt (refine bj_method ?_))
local macro_rules | `(tactic| fail "call builtin:bytes.join") => `(tactic| (k_here; k_dflt (refine' bj_call ?ho ?hc ?hd ?_; (case ho => exact News.get (by k_asm) (by k_mem)); (case hc => exact rfl); (case hd => exact rfl)); (try dsimp only)))
theorem bview_gives {w : World} {p : Program} {loose : List Str} {mean : ExcName → Option Value} {mg mb : Str → Option Value} (b : Array UInt8) (t : Tok) :
    GV w p loose mean mg mb 2 60 NoPre [.bytes b t] (ViewIs w b t) := by
  unfold GV
  k_fill
  unfold Gives
  intro dp un gd cn cs ad ccd cl outer A₀ base h₀ L mF news s Q E B F X N T hk hdp hun hpre hret
  refine wpAny_call ?_
  fail "enter"
  fail "go"
  rename News _ _ _ _ => N1
  exact ⟨_, _, _, by assumption, fun p hp => N1 p (.tail _ hp), fun F1 N1 D1 => hret _ _ _ _ ⟨_, _, _, rfl, rfl⟩ F1 N1 D1⟩
end
section
def crcStep8 (T : List Nat) (c x : Nat) : Nat := T.getD (x ^^^ c) 0
def crcStepF (k mask : Nat) (T : List Nat) (c x : Nat) : Nat := T.getD (x ^^^ ((c >>> k) &&& 255)) 0 ^^^ ((c <<< 8) &&& mask)
def crcStepR (T : List Nat) (c x : Nat) : Nat := T.getD (x ^^^ (c &&& 255)) 0 ^^^ (c >>> 8)
theorem and255_lt (a : Nat) : a &&& 255 < 256 := Nat.lt_of_le_of_lt Nat.and_le_right (by decide)
theorem crcStep8_lt {T : List Nat} (hT : ∀ i, T.getD i 0 < 2 ^ 8) (c x : Nat) : crcStep8 T c x < 2 ^ 8 := hT _
theorem crcStepF_lt {T : List Nat} {n k mask : Nat} (hT : ∀ i, T.getD i 0 < 2 ^ n) (hm : mask < 2 ^ n) (c x : Nat) : crcStepF k mask T c x < 2 ^ n :=
  Nat.xor_lt_two_pow (hT _) (Nat.lt_of_le_of_lt Nat.and_le_right hm)
theorem crcStepR_lt {T : List Nat} {n : Nat} (hT : ∀ i, T.getD i 0 < 2 ^ n) {c x : Nat} (hc : c < 2 ^ n) : crcStepR T c x < 2 ^ n :=
  Nat.xor_lt_two_pow (hT _) (Nat.lt_of_le_of_lt (by rw [Nat.shiftRight_eq_div_pow]; exact Nat.div_le_self _ _) hc)
def CrcInv (f : Nat → Nat → Nat) (n c0 : Nat) (pre : List Int) (c : Nat) : Prop := c < 2 ^ n ∧ c = (pre.map Int.toNat).foldl f c0
theorem crcInv_step {f : Nat → Nat → Nat} {n c0 c : Nat} {pre : List Int} {x : Nat} (h : CrcInv f n c0 pre c) (hl : f c x < 2 ^ n) : CrcInv f n c0 (pre ++ [(x : Int)]) (f c x) := by
  refine ⟨hl, ?_⟩
  rw [List.map_append, List.foldl_append, ← h.2]
  rfl

local macro_rules | `(tactic| fail "call ref") => `(tactic| (k_here; k_dflt (refine' use_g ?kG ?k1 ?k2 ?k3 ?k4 ?k5 ?kK ?kd ?ku ?kP ?_; fail "use sides"; (case kG => exact bview_gives _ _); (case kP => trivial); (case kd => ktr_room); (case ku => ktr_units)); intro v' nx' h' tk' hv' F' N' D'; obtain ⟨x', d', k', hv', hx'⟩ := hv'; subst hv'; subst hx'; (simp only [List.cons_append, List.nil_append] at N'); (try dsimp only); (try k_fold)))
local macro_rules | `(tactic| fail "call ref") => `(tactic| (k_here; (with_unfolding_all show wpAny _ _ (call (Value.ref 46) [Value.ref _]) _ _ _); (refine wpAny_call ?_); fail "enterH"))
local macro_rules | `(tactic| fail "binaryOp BitAnd int int") => `(tactic| k_dflt (first | ((with_reducible refine' and_n ?h1 ?h2 ?_); (case h1 => k_dflt (first | with_reducible exact lit_n _ | rfl)); (case h2 => k_dflt (first | with_reducible exact lit_n _ | rfl))) | ((with_reducible refine' and_lowL 8 ?h1 ?_); (case h1 => decide)) | ((with_reducible refine' and_lowL 16 ?h1 ?_); (case h1 => decide)) | ((with_reducible refine' and_lowL 24 ?h1 ?_); (case h1 => decide)) | ((with_reducible refine' and_lowL 32 ?h1 ?_); (case h1 => decide))))
local macro_rules | `(tactic| fail "subscriptTail") => `(tactic| (k_here; (with_reducible show wpAny _ _ (subscriptTail _ _ (Value.ref _) (Value.int _ _)) _ _ _); k_dflt (((with_reducible refine' item_n ?h1 ?h2 ?h3 ?h4 ?h5 ?h6 ?_); (case h1 => k_dflt (assumption)); (case h2 => k_dflt (k_asm)); (case h3 => k_dflt (assumption)); (case h4 => k_dflt (first | with_reducible exact lit_n _ | rfl)); (case h5 => k_dflt (fail "index")); (case h6 => k_dflt (omega)))); intro u'; (try dsimp only)))
local macro_rules | `(tactic| fail "index") => `(tactic| (exact Nat.lt_of_lt_of_eq (Nat.xor_lt_two_pow (n := 8) (by assumption) (by assumption)) (Eq.symm (by assumption))))
theorem crc8_gives {w : World} {p : Program} {loose : List Str} {mean : ExcName → Option Value} {mg mb : Str → Option Value} (b : Array UInt8) (c : Int) (tb : Addr) (vs : List Value) (T : List Nat) (t1 t2 : Tok) (hi : IntsAre vs (T.map fun k : Nat => (k : Int))) (hT8 : T.length = 256) (hT : ∀ i, T.getD i 0 < 2 ^ 8) :
    GV w p loose mean mg mb 4 67 (fun h => h.IsList tb vs.toArray) [.bytes b t1, .int c t2, .ref tb] (RetN ((b.toList.map UInt8.toNat).foldl (crcStep8 T) (lowN c 8))) := by
  unfold GV
  k_fill
  unfold Gives
  intro dp un gd cn cs ad ccd cl outer A₀ base h₀ L mF news s Q E B F X N TT hk hdp hun hpre hret
  refine wpAny_call ?_
  fail "enter"
  fail "go"
  rename News _ _ _ _ => N5
  rename Fr _ _ _ _ => F5
  with_unfolding_all refine' KStb.kst_bytes (σ := Nat × Tok) (ks := KBw.bInts b) (len := (KBw.bInts b).length) (fun _ => []) (fun d => [(Str.ofString "crc", .int (d.1 : Int) d.2)]) (fun _ => True) [] (fun pre d => CrcInv (crcStep8 T) 8 (lowN c 8) pre d.1) (lowN c 8, _) rfl rfl rfl F5 ?kn trivial ?kk ?kp ?kt ?kd
  case kn => exact fun p hp => nomatch hp
  case kk => kst_all
  case kp => exact ⟨lowN_lt c 8, rfl⟩
  case kt =>
    clear F5 N5
    intro d pre post k tk u h5 tk5 own hk5 hlt hk0 hk1 hoff _ hP F6 N6
    obtain ⟨a, ta⟩ := d
    dsimp only [kstB] at hP F6
    obtain ⟨x, rfl⟩ : ∃ x : Nat, k = (x : Int) := ⟨k.toNat, by omega⟩
    have hx1 : x < 2 ^ 8 := by omega
    have hP1 := hP.1
    have ha : a < 2 ^ 200 := Nat.lt_of_lt_of_le hP.1 (Nat.pow_le_pow_right (by decide) (by decide))
    show wpAny _ _ _ _ _ _
    k_fold
    fail "go"
    exact kst_end (_, _) (by assumption) (by assumption) (fun p hp => nomatch hp) (by first | exact fun p hp => hp | exact fun p hp => List.mem_append_right _ hp) rfl trivial (by kst_all) (by kst_same) (crcInv_step hP (crcStep8_lt hT _ _))
  case kd =>
    clear F5 N5
    intro d u h5 tk5 _ _ hP F6 N6
    obtain ⟨a, ta⟩ := d
    dsimp only [kstB] at hP F6
    have hP2 : a = (b.toList.map UInt8.toNat).foldl (crcStep8 T) (lowN c 8) := by
      rw [hP.2, KBw.bInts, List.map_map]; rfl
    subst hP2
    fail "go"
    exact ⟨_, _, [], by assumption, by assumption, fun F1 N1 D1 => hret (.int (((b.toList.map UInt8.toNat).foldl (crcStep8 T) (lowN c 8) : Nat) : Int) _) [] _ _ ⟨rfl, _, rfl⟩ F1 N1 D1⟩
local macro_rules | `(tactic| fail "index") => `(tactic| (exact Nat.lt_of_lt_of_eq (Nat.xor_lt_two_pow (n := 8) (by assumption) (by assumption)) (Eq.symm (by assumption))))
theorem crc8r_gives {w : World} {p : Program} {loose : List Str} {mean : ExcName → Option Value} {mg mb : Str → Option Value} (b : Array UInt8) (c : Int) (tb : Addr) (vs : List Value) (T : List Nat) (t1 t2 : Tok) (hi : IntsAre vs (T.map fun k : Nat => (k : Int))) (hT8 : T.length = 256) (hT : ∀ i, T.getD i 0 < 2 ^ 8) :
    GV w p loose mean mg mb 4 74 (fun h => h.IsList tb vs.toArray) [.bytes b t1, .int c t2, .ref tb] (RetN ((b.toList.map UInt8.toNat).foldl (crcStep8 T) (lowN c 8))) := by
  unfold GV
  k_fill
  unfold Gives
  intro dp un gd cn cs ad ccd cl outer A₀ base h₀ L mF news s Q E B F X N TT hk hdp hun hpre hret
  refine wpAny_call ?_
  fail "enter"
  fail "go"
  rename News _ _ _ _ => N5
  rename Fr _ _ _ _ => F5
  with_unfolding_all refine' KStb.kst_bytes (σ := Nat × Tok) (ks := KBw.bInts b) (len := (KBw.bInts b).length) (fun _ => []) (fun d => [(Str.ofString "crc", .int (d.1 : Int) d.2)]) (fun _ => True) [] (fun pre d => CrcInv (crcStep8 T) 8 (lowN c 8) pre d.1) (lowN c 8, _) rfl rfl rfl F5 ?kn trivial ?kk ?kp ?kt ?kd
  case kn => exact fun p hp => nomatch hp
  case kk => kst_all
  case kp => exact ⟨lowN_lt c 8, rfl⟩
  case kt =>
    clear F5 N5
    intro d pre post k tk u h5 tk5 own hk5 hlt hk0 hk1 hoff _ hP F6 N6
    obtain ⟨a, ta⟩ := d
    dsimp only [kstB] at hP F6
    obtain ⟨x, rfl⟩ : ∃ x : Nat, k = (x : Int) := ⟨k.toNat, by omega⟩
    have hx1 : x < 2 ^ 8 := by omega
    have hP1 := hP.1
    have ha : a < 2 ^ 200 := Nat.lt_of_lt_of_le hP.1 (Nat.pow_le_pow_right (by decide) (by decide))
    show wpAny _ _ _ _ _ _
    k_fold
    fail "go"
    exact kst_end (_, _) (by assumption) (by assumption) (fun p hp => nomatch hp) (by first | exact fun p hp => hp | exact fun p hp => List.mem_append_right _ hp) rfl trivial (by kst_all) (by kst_same) (crcInv_step hP (crcStep8_lt hT _ _))
  case kd =>
    clear F5 N5
    intro d u h5 tk5 _ _ hP F6 N6
    obtain ⟨a, ta⟩ := d
    dsimp only [kstB] at hP F6
    have hP2 : a = (b.toList.map UInt8.toNat).foldl (crcStep8 T) (lowN c 8) := by
      rw [hP.2, KBw.bInts, List.map_map]; rfl
    subst hP2
    fail "go"
    exact ⟨_, _, [], by assumption, by assumption, fun F1 N1 D1 => hret (.int (((b.toList.map UInt8.toNat).foldl (crcStep8 T) (lowN c 8) : Nat) : Int) _) [] _ _ ⟨rfl, _, rfl⟩ F1 N1 D1⟩
local macro_rules | `(tactic| fail "index") => `(tactic| (exact Nat.lt_of_lt_of_eq (Nat.xor_lt_two_pow (n := 8) (by assumption) (and255_lt _)) (Eq.symm (by assumption))))
theorem crc16_gives {w : World} {p : Program} {loose : List Str} {mean : ExcName → Option Value} {mg mb : Str → Option Value} (b : Array UInt8) (c : Int) (tb : Addr) (vs : List Value) (T : List Nat) (t1 t2 : Tok) (hi : IntsAre vs (T.map fun k : Nat => (k : Int))) (hT8 : T.length = 256) (hT : ∀ i, T.getD i 0 < 2 ^ 16) :
    GV w p loose mean mg mb 4 81 (fun h => h.IsList tb vs.toArray) [.bytes b t1, .int c t2, .ref tb] (RetN ((b.toList.map UInt8.toNat).foldl (crcStepF 8 65280 T) (lowN c 16))) := by
  unfold GV
  k_fill
  unfold Gives
  intro dp un gd cn cs ad ccd cl outer A₀ base h₀ L mF news s Q E B F X N TT hk hdp hun hpre hret
  refine wpAny_call ?_
  fail "enter"
  fail "go"
  rename News _ _ _ _ => N5
  rename Fr _ _ _ _ => F5
  with_unfolding_all refine' KStb.kst_bytes (σ := Nat × Tok) (ks := KBw.bInts b) (len := (KBw.bInts b).length) (fun _ => []) (fun d => [(Str.ofString "crc", .int (d.1 : Int) d.2)]) (fun _ => True) [] (fun pre d => CrcInv (crcStepF 8 65280 T) 16 (lowN c 16) pre d.1) (lowN c 16, _) rfl rfl rfl F5 ?kn trivial ?kk ?kp ?kt ?kd
  case kn => exact fun p hp => nomatch hp
  case kk => kst_all
  case kp => exact ⟨lowN_lt c 16, rfl⟩
  case kt =>
    clear F5 N5
    intro d pre post k tk u h5 tk5 own hk5 hlt hk0 hk1 hoff _ hP F6 N6
    obtain ⟨a, ta⟩ := d
    dsimp only [kstB] at hP F6
    obtain ⟨x, rfl⟩ : ∃ x : Nat, k = (x : Int) := ⟨k.toNat, by omega⟩
    have hx1 : x < 2 ^ 8 := by omega
    have hP1 := hP.1
    have ha : a < 2 ^ 200 := Nat.lt_of_lt_of_le hP.1 (Nat.pow_le_pow_right (by decide) (by decide))
    show wpAny _ _ _ _ _ _
    k_fold
    fail "go"
    exact kst_end (_, _) (by assumption) (by assumption) (fun p hp => nomatch hp) (by first | exact fun p hp => hp | exact fun p hp => List.mem_append_right _ hp) rfl trivial (by kst_all) (by kst_same) (crcInv_step hP (crcStepF_lt hT (by decide) _ _))
  case kd =>
    clear F5 N5
    intro d u h5 tk5 _ _ hP F6 N6
    obtain ⟨a, ta⟩ := d
    dsimp only [kstB] at hP F6
    have hP2 : a = (b.toList.map UInt8.toNat).foldl (crcStepF 8 65280 T) (lowN c 16) := by
      rw [hP.2, KBw.bInts, List.map_map]; rfl
    subst hP2
    fail "go"
    exact ⟨_, _, [], by assumption, by assumption, fun F1 N1 D1 => hret (.int (((b.toList.map UInt8.toNat).foldl (crcStepF 8 65280 T) (lowN c 16) : Nat) : Int) _) [] _ _ ⟨rfl, _, rfl⟩ F1 N1 D1⟩
local macro_rules | `(tactic| fail "index") => `(tactic| (exact Nat.lt_of_lt_of_eq (Nat.xor_lt_two_pow (n := 8) (by assumption) (and255_lt _)) (Eq.symm (by assumption))))
theorem crc16r_gives {w : World} {p : Program} {loose : List Str} {mean : ExcName → Option Value} {mg mb : Str → Option Value} (b : Array UInt8) (c : Int) (tb : Addr) (vs : List Value) (T : List Nat) (t1 t2 : Tok) (hi : IntsAre vs (T.map fun k : Nat => (k : Int))) (hT8 : T.length = 256) (hT : ∀ i, T.getD i 0 < 2 ^ 16) :
    GV w p loose mean mg mb 4 88 (fun h => h.IsList tb vs.toArray) [.bytes b t1, .int c t2, .ref tb] (RetN ((b.toList.map UInt8.toNat).foldl (crcStepR T) (lowN c 16))) := by
  unfold GV
  k_fill
  unfold Gives
  intro dp un gd cn cs ad ccd cl outer A₀ base h₀ L mF news s Q E B F X N TT hk hdp hun hpre hret
  refine wpAny_call ?_
  fail "enter"
  fail "go"
  rename News _ _ _ _ => N5
  rename Fr _ _ _ _ => F5
  with_unfolding_all refine' KStb.kst_bytes (σ := Nat × Tok) (ks := KBw.bInts b) (len := (KBw.bInts b).length) (fun _ => []) (fun d => [(Str.ofString "crc", .int (d.1 : Int) d.2)]) (fun _ => True) [] (fun pre d => CrcInv (crcStepR T) 16 (lowN c 16) pre d.1) (lowN c 16, _) rfl rfl rfl F5 ?kn trivial ?kk ?kp ?kt ?kd
  case kn => exact fun p hp => nomatch hp
  case kk => kst_all
  case kp => exact ⟨lowN_lt c 16, rfl⟩
  case kt =>
    clear F5 N5
    intro d pre post k tk u h5 tk5 own hk5 hlt hk0 hk1 hoff _ hP F6 N6
    obtain ⟨a, ta⟩ := d
    dsimp only [kstB] at hP F6
    obtain ⟨x, rfl⟩ : ∃ x : Nat, k = (x : Int) := ⟨k.toNat, by omega⟩
    have hx1 : x < 2 ^ 8 := by omega
    have hP1 := hP.1
    have ha : a < 2 ^ 200 := Nat.lt_of_lt_of_le hP.1 (Nat.pow_le_pow_right (by decide) (by decide))
    show wpAny _ _ _ _ _ _
    k_fold
    fail "go"
    exact kst_end (_, _) (by assumption) (by assumption) (fun p hp => nomatch hp) (by first | exact fun p hp => hp | exact fun p hp => List.mem_append_right _ hp) rfl trivial (by kst_all) (by kst_same) (crcInv_step hP (crcStepR_lt hT hP.1))
  case kd =>
    clear F5 N5
    intro d u h5 tk5 _ _ hP F6 N6
    obtain ⟨a, ta⟩ := d
    dsimp only [kstB] at hP F6
    have hP2 : a = (b.toList.map UInt8.toNat).foldl (crcStepR T) (lowN c 16) := by
      rw [hP.2, KBw.bInts, List.map_map]; rfl
    subst hP2
    fail "go"
    exact ⟨_, _, [], by assumption, by assumption, fun F1 N1 D1 => hret (.int (((b.toList.map UInt8.toNat).foldl (crcStepR T) (lowN c 16) : Nat) : Int) _) [] _ _ ⟨rfl, _, rfl⟩ F1 N1 D1⟩
local macro_rules | `(tactic| fail "index") => `(tactic| (exact Nat.lt_of_lt_of_eq (Nat.xor_lt_two_pow (n := 8) (by assumption) (and255_lt _)) (Eq.symm (by assumption))))
theorem crc24_gives {w : World} {p : Program} {loose : List Str} {mean : ExcName → Option Value} {mg mb : Str → Option Value} (b : Array UInt8) (c : Int) (tb : Addr) (vs : List Value) (T : List Nat) (t1 t2 : Tok) (hi : IntsAre vs (T.map fun k : Nat => (k : Int))) (hT8 : T.length = 256) (hT : ∀ i, T.getD i 0 < 2 ^ 24) :
    GV w p loose mean mg mb 4 95 (fun h => h.IsList tb vs.toArray) [.bytes b t1, .int c t2, .ref tb] (RetN ((b.toList.map UInt8.toNat).foldl (crcStepF 16 16776960 T) (lowN c 24))) := by
  unfold GV
  k_fill
  unfold Gives
  intro dp un gd cn cs ad ccd cl outer A₀ base h₀ L mF news s Q E B F X N TT hk hdp hun hpre hret
  refine wpAny_call ?_
  fail "enter"
  fail "go"
  rename News _ _ _ _ => N5
  rename Fr _ _ _ _ => F5
  with_unfolding_all refine' KStb.kst_bytes (σ := Nat × Tok) (ks := KBw.bInts b) (len := (KBw.bInts b).length) (fun _ => []) (fun d => [(Str.ofString "crc", .int (d.1 : Int) d.2)]) (fun _ => True) [] (fun pre d => CrcInv (crcStepF 16 16776960 T) 24 (lowN c 24) pre d.1) (lowN c 24, _) rfl rfl rfl F5 ?kn trivial ?kk ?kp ?kt ?kd
  case kn => exact fun p hp => nomatch hp
  case kk => kst_all
  case kp => exact ⟨lowN_lt c 24, rfl⟩
  case kt =>
    clear F5 N5
    intro d pre post k tk u h5 tk5 own hk5 hlt hk0 hk1 hoff _ hP F6 N6
    obtain ⟨a, ta⟩ := d
    dsimp only [kstB] at hP F6
    obtain ⟨x, rfl⟩ : ∃ x : Nat, k = (x : Int) := ⟨k.toNat, by omega⟩
    have hx1 : x < 2 ^ 8 := by omega
    have hP1 := hP.1
    have ha : a < 2 ^ 200 := Nat.lt_of_lt_of_le hP.1 (Nat.pow_le_pow_right (by decide) (by decide))
    show wpAny _ _ _ _ _ _
    k_fold
    fail "go"
    exact kst_end (_, _) (by assumption) (by assumption) (fun p hp => nomatch hp) (by first | exact fun p hp => hp | exact fun p hp => List.mem_append_right _ hp) rfl trivial (by kst_all) (by kst_same) (crcInv_step hP (crcStepF_lt hT (by decide) _ _))
  case kd =>
    clear F5 N5
    intro d u h5 tk5 _ _ hP F6 N6
    obtain ⟨a, ta⟩ := d
    dsimp only [kstB] at hP F6
    have hP2 : a = (b.toList.map UInt8.toNat).foldl (crcStepF 16 16776960 T) (lowN c 24) := by
      rw [hP.2, KBw.bInts, List.map_map]; rfl
    subst hP2
    fail "go"
    exact ⟨_, _, [], by assumption, by assumption, fun F1 N1 D1 => hret (.int (((b.toList.map UInt8.toNat).foldl (crcStepF 16 16776960 T) (lowN c 24) : Nat) : Int) _) [] _ _ ⟨rfl, _, rfl⟩ F1 N1 D1⟩
local macro_rules | `(tactic| fail "index") => `(tactic| (exact Nat.lt_of_lt_of_eq (Nat.xor_lt_two_pow (n := 8) (by assumption) (and255_lt _)) (Eq.symm (by assumption))))
theorem crc24r_gives {w : World} {p : Program} {loose : List Str} {mean : ExcName → Option Value} {mg mb : Str → Option Value} (b : Array UInt8) (c : Int) (tb : Addr) (vs : List Value) (T : List Nat) (t1 t2 : Tok) (hi : IntsAre vs (T.map fun k : Nat => (k : Int))) (hT8 : T.length = 256) (hT : ∀ i, T.getD i 0 < 2 ^ 24) :
    GV w p loose mean mg mb 4 102 (fun h => h.IsList tb vs.toArray) [.bytes b t1, .int c t2, .ref tb] (RetN ((b.toList.map UInt8.toNat).foldl (crcStepR T) (lowN c 24))) := by
  unfold GV
  k_fill
  unfold Gives
  intro dp un gd cn cs ad ccd cl outer A₀ base h₀ L mF news s Q E B F X N TT hk hdp hun hpre hret
  refine wpAny_call ?_
  fail "enter"
  fail "go"
  rename News _ _ _ _ => N5
  rename Fr _ _ _ _ => F5
  with_unfolding_all refine' KStb.kst_bytes (σ := Nat × Tok) (ks := KBw.bInts b) (len := (KBw.bInts b).length) (fun _ => []) (fun d => [(Str.ofString "crc", .int (d.1 : Int) d.2)]) (fun _ => True) [] (fun pre d => CrcInv (crcStepR T) 24 (lowN c 24) pre d.1) (lowN c 24, _) rfl rfl rfl F5 ?kn trivial ?kk ?kp ?kt ?kd
  case kn => exact fun p hp => nomatch hp
  case kk => kst_all
  case kp => exact ⟨lowN_lt c 24, rfl⟩
  case kt =>
    clear F5 N5
    intro d pre post k tk u h5 tk5 own hk5 hlt hk0 hk1 hoff _ hP F6 N6
    obtain ⟨a, ta⟩ := d
    dsimp only [kstB] at hP F6
    obtain ⟨x, rfl⟩ : ∃ x : Nat, k = (x : Int) := ⟨k.toNat, by omega⟩
    have hx1 : x < 2 ^ 8 := by omega
    have hP1 := hP.1
    have ha : a < 2 ^ 200 := Nat.lt_of_lt_of_le hP.1 (Nat.pow_le_pow_right (by decide) (by decide))
    show wpAny _ _ _ _ _ _
    k_fold
    fail "go"
    exact kst_end (_, _) (by assumption) (by assumption) (fun p hp => nomatch hp) (by first | exact fun p hp => hp | exact fun p hp => List.mem_append_right _ hp) rfl trivial (by kst_all) (by kst_same) (crcInv_step hP (crcStepR_lt hT hP.1))
  case kd =>
    clear F5 N5
    intro d u h5 tk5 _ _ hP F6 N6
    obtain ⟨a, ta⟩ := d
    dsimp only [kstB] at hP F6
    have hP2 : a = (b.toList.map UInt8.toNat).foldl (crcStepR T) (lowN c 24) := by
      rw [hP.2, KBw.bInts, List.map_map]; rfl
    subst hP2
    fail "go"
    exact ⟨_, _, [], by assumption, by assumption, fun F1 N1 D1 => hret (.int (((b.toList.map UInt8.toNat).foldl (crcStepR T) (lowN c 24) : Nat) : Int) _) [] _ _ ⟨rfl, _, rfl⟩ F1 N1 D1⟩
local macro_rules | `(tactic| fail "index") => `(tactic| (exact Nat.lt_of_lt_of_eq (Nat.xor_lt_two_pow (n := 8) (by assumption) (and255_lt _)) (Eq.symm (by assumption))))
theorem crc32_gives {w : World} {p : Program} {loose : List Str} {mean : ExcName → Option Value} {mg mb : Str → Option Value} (b : Array UInt8) (c : Int) (tb : Addr) (vs : List Value) (T : List Nat) (t1 t2 : Tok) (hi : IntsAre vs (T.map fun k : Nat => (k : Int))) (hT8 : T.length = 256) (hT : ∀ i, T.getD i 0 < 2 ^ 32) :
    GV w p loose mean mg mb 4 109 (fun h => h.IsList tb vs.toArray) [.bytes b t1, .int c t2, .ref tb] (RetN ((b.toList.map UInt8.toNat).foldl (crcStepF 24 4294967040 T) (lowN c 32))) := by
  unfold GV
  k_fill
  unfold Gives
  intro dp un gd cn cs ad ccd cl outer A₀ base h₀ L mF news s Q E B F X N TT hk hdp hun hpre hret
  refine wpAny_call ?_
  fail "enter"
  fail "go"
  rename News _ _ _ _ => N5
  rename Fr _ _ _ _ => F5
  with_unfolding_all refine' KStb.kst_bytes (σ := Nat × Tok) (ks := KBw.bInts b) (len := (KBw.bInts b).length) (fun _ => []) (fun d => [(Str.ofString "crc", .int (d.1 : Int) d.2)]) (fun _ => True) [] (fun pre d => CrcInv (crcStepF 24 4294967040 T) 32 (lowN c 32) pre d.1) (lowN c 32, _) rfl rfl rfl F5 ?kn trivial ?kk ?kp ?kt ?kd
  case kn => exact fun p hp => nomatch hp
  case kk => kst_all
  case kp => exact ⟨lowN_lt c 32, rfl⟩
  case kt =>
    clear F5 N5
    intro d pre post k tk u h5 tk5 own hk5 hlt hk0 hk1 hoff _ hP F6 N6
    obtain ⟨a, ta⟩ := d
    dsimp only [kstB] at hP F6
    obtain ⟨x, rfl⟩ : ∃ x : Nat, k = (x : Int) := ⟨k.toNat, by omega⟩
    have hx1 : x < 2 ^ 8 := by omega
    have hP1 := hP.1
    have ha : a < 2 ^ 200 := Nat.lt_of_lt_of_le hP.1 (Nat.pow_le_pow_right (by decide) (by decide))
    show wpAny _ _ _ _ _ _
    k_fold
    fail "go"
    exact kst_end (_, _) (by assumption) (by assumption) (fun p hp => nomatch hp) (by first | exact fun p hp => hp | exact fun p hp => List.mem_append_right _ hp) rfl trivial (by kst_all) (by kst_same) (crcInv_step hP (crcStepF_lt hT (by decide) _ _))
  case kd =>
    clear F5 N5
    intro d u h5 tk5 _ _ hP F6 N6
    obtain ⟨a, ta⟩ := d
    dsimp only [kstB] at hP F6
    have hP2 : a = (b.toList.map UInt8.toNat).foldl (crcStepF 24 4294967040 T) (lowN c 32) := by
      rw [hP.2, KBw.bInts, List.map_map]; rfl
    subst hP2
    fail "go"
    exact ⟨_, _, [], by assumption, by assumption, fun F1 N1 D1 => hret (.int (((b.toList.map UInt8.toNat).foldl (crcStepF 24 4294967040 T) (lowN c 32) : Nat) : Int) _) [] _ _ ⟨rfl, _, rfl⟩ F1 N1 D1⟩
local macro_rules | `(tactic| fail "index") => `(tactic| (exact Nat.lt_of_lt_of_eq (Nat.xor_lt_two_pow (n := 8) (by assumption) (and255_lt _)) (Eq.symm (by assumption))))
theorem crc32r_gives {w : World} {p : Program} {loose : List Str} {mean : ExcName → Option Value} {mg mb : Str → Option Value} (b : Array UInt8) (c : Int) (tb : Addr) (vs : List Value) (T : List Nat) (t1 t2 : Tok) (hi : IntsAre vs (T.map fun k : Nat => (k : Int))) (hT8 : T.length = 256) (hT : ∀ i, T.getD i 0 < 2 ^ 32) :
    GV w p loose mean mg mb 4 116 (fun h => h.IsList tb vs.toArray) [.bytes b t1, .int c t2, .ref tb] (RetN ((b.toList.map UInt8.toNat).foldl (crcStepR T) (lowN c 32))) := by
  unfold GV
  k_fill
  unfold Gives
  intro dp un gd cn cs ad ccd cl outer A₀ base h₀ L mF news s Q E B F X N TT hk hdp hun hpre hret
  refine wpAny_call ?_
  fail "enter"
  fail "go"
  rename News _ _ _ _ => N5
  rename Fr _ _ _ _ => F5
  with_unfolding_all refine' KStb.kst_bytes (σ := Nat × Tok) (ks := KBw.bInts b) (len := (KBw.bInts b).length) (fun _ => []) (fun d => [(Str.ofString "crc", .int (d.1 : Int) d.2)]) (fun _ => True) [] (fun pre d => CrcInv (crcStepR T) 32 (lowN c 32) pre d.1) (lowN c 32, _) rfl rfl rfl F5 ?kn trivial ?kk ?kp ?kt ?kd
  case kn => exact fun p hp => nomatch hp
  case kk => kst_all
  case kp => exact ⟨lowN_lt c 32, rfl⟩
  case kt =>
    clear F5 N5
    intro d pre post k tk u h5 tk5 own hk5 hlt hk0 hk1 hoff _ hP F6 N6
    obtain ⟨a, ta⟩ := d
    dsimp only [kstB] at hP F6
    obtain ⟨x, rfl⟩ : ∃ x : Nat, k = (x : Int) := ⟨k.toNat, by omega⟩
    have hx1 : x < 2 ^ 8 := by omega
    have hP1 := hP.1
    have ha : a < 2 ^ 200 := Nat.lt_of_lt_of_le hP.1 (Nat.pow_le_pow_right (by decide) (by decide))
    show wpAny _ _ _ _ _ _
    k_fold
    fail "go"
    exact kst_end (_, _) (by assumption) (by assumption) (fun p hp => nomatch hp) (by first | exact fun p hp => hp | exact fun p hp => List.mem_append_right _ hp) rfl trivial (by kst_all) (by kst_same) (crcInv_step hP (crcStepR_lt hT hP.1))
  case kd =>
    clear F5 N5
    intro d u h5 tk5 _ _ hP F6 N6
    obtain ⟨a, ta⟩ := d
    dsimp only [kstB] at hP F6
    have hP2 : a = (b.toList.map UInt8.toNat).foldl (crcStepR T) (lowN c 32) := by
      rw [hP.2, KBw.bInts, List.map_map]; rfl
    subst hP2
    fail "go"
    exact ⟨_, _, [], by assumption, by assumption, fun F1 N1 D1 => hret (.int (((b.toList.map UInt8.toNat).foldl (crcStepR T) (lowN c 32) : Nat) : Int) _) [] _ _ ⟨rfl, _, rfl⟩ F1 N1 D1⟩
end
section
def firstStep (c : Nat × Nat) : Nat × Nat := (2 * c.1 % 255, if 2 * c.1 % 255 < c.2 then 2 * c.1 % 255 else c.2)
def firstAt (j : Nat) : Nat → Nat × Nat
  | 0 => (j % 255, j % 255)
  | k + 1 => firstStep (firstAt j k)
def firstN (j : Nat) : Nat := (firstAt j 7).2

theorem first_stepT {j a b : Nat} {pre : List Int} {k : Int} (h : (a, b) = firstAt j pre.length) (h1 : 2 * a % 255 < b) : (2 * a % 255, 2 * a % 255) = firstAt j (pre ++ [k]).length := by
  rw [List.length_append]
  show _ = firstStep (firstAt j pre.length)
  rw [← h]; unfold firstStep; dsimp only; rw [if_pos h1]
theorem first_stepF {j a b : Nat} {pre : List Int} {k : Int} (h : (a, b) = firstAt j pre.length) (h1 : ¬ 2 * a % 255 < b) : (2 * a % 255, b) = firstAt j (pre ++ [k]).length := by
  rw [List.length_append]
  show _ = firstStep (firstAt j pre.length)
  rw [← h]; unfold firstStep; dsimp only; rw [if_neg h1]

theorem first_gives {w : World} {p : Program} {loose : List Str} {mean : ExcName → Option Value} {mg mb : Str → Option Value} (j : Nat) (t : Tok) :
    GV w p loose mean mg mb 1 207 NoPre [.int (j : Int) t] (RetN (firstN j)) := by
  unfold GV
  k_fill
  unfold Gives
  intro dp un gd cn cs ad ccd cl outer A₀ base h₀ L mF news s Q E B F X N TT hk hdp hun hpre hret
  refine wpAny_call ?_
  fail "enter"
  fail "go"
  rename IsRange _ _ _ _ _ _ _ _ => hR
  rename News _ _ _ _ => N5
  rename Fr _ _ _ _ => F5
  with_unfolding_all refine' kst_range (σ := (Nat × Nat) × (Tok × Tok)) (n := 7) (fun _ => []) (fun c => [(Str.ofString "j", .int (c.1.1 : Int) c.2.1), (Str.ofString "first", .int (c.1.2 : Int) c.2.2)]) (fun _ => True) [] (fun pre c => c.1 = firstAt j pre.length) ((j % 255, j % 255), (_, _)) rfl hR ?ks ?kn F5 N5 trivial ?kk ?kp ?kt ?kd
  case ks => decide +kernel
  case kn => decide +kernel
  case kk => kst_all
  case kp => rfl
  case kt =>
    clear F5 N5
    intro c pre k tk u h5 tk5 own hk5 hlt hoff _ hP F6 N6
    obtain ⟨⟨a, b⟩, ta, tb⟩ := c
    dsimp only [kstB] at hP F6
    show wpAny _ _ _ _ _ _
    k_fold
    fail "go"
    · exact kst_end ((_, _), (_, _)) (by assumption) (by assumption) (fun p hp => nomatch hp) (by first | exact fun p hp => hp | exact fun p hp => List.mem_append_right _ hp) rfl trivial (by kst_all) (by kst_same) (first_stepT hP (by assumption))
    · exact kst_end ((_, _), (_, _)) (by assumption) (by assumption) (fun p hp => nomatch hp) (by first | exact fun p hp => hp | exact fun p hp => List.mem_append_right _ hp) rfl trivial (by kst_all) (by kst_same) (first_stepF hP (by assumption))
  case kd =>
    clear F5 N5
    intro c u h5 tk5 _ hP F6 N6
    obtain ⟨⟨a, b⟩, ta, tb⟩ := c
    dsimp only [kstB] at hP F6
    rw [rangeKs_length] at hP
    have hP2 : b = firstN j := congrArg Prod.snd hP
    subst hP2
    fail "go"
    exact ⟨_, _, [], by assumption, by assumption, fun F1 N1 D1 => hret (.int ((firstN j : Nat) : Int) tb) [] _ _ ⟨rfl, tb, rfl⟩ F1 N1 D1⟩
end
section
def revStep (c : Nat × Nat) : Nat × Nat := (c.1 >>> 1, (c.2 <<< 1) ||| (c.1 &&& 1))
def revAt (x : Nat) : Nat → Nat × Nat
  | 0 => (x, 0)
  | k + 1 => revStep (revAt x k)
def revN (x n : Nat) : Nat := (revAt x n).2
theorem revAt_lt (x : Nat) : ∀ k, (revAt x k).2 < 2 ^ k
  | 0 => by show (0 : Nat) < 2 ^ 0; decide
  | k + 1 => by
    have h := revAt_lt x k
    show ((revAt x k).2 <<< 1) ||| ((revAt x k).1 &&& 1) < 2 ^ (k + 1)
    refine Nat.or_lt_two_pow ?_ ?_
    · rw [Nat.shiftLeft_eq, Nat.pow_succ]; omega
    · rw [Nat.and_one_is_mod]
      have := Nat.mod_lt (revAt x k).1 (show 0 < 2 by decide)
      have h2 : 2 ^ 1 ≤ 2 ^ (k + 1) := Nat.pow_le_pow_right (by decide) (by omega)
      omega
theorem rev_lt {x n a b : Nat} {pre : List Int} (h : (a, b) = revAt x pre.length) (hl : pre.length < n) (hn : n ≤ 64) : b < 2 ^ 64 := by
  have h1 := revAt_lt x pre.length
  rw [← h] at h1
  exact Nat.lt_of_lt_of_le h1 (Nat.pow_le_pow_right (by decide) (by omega))
theorem rev_step {x a b : Nat} {pre : List Int} {k : Int} (h : (a, b) = revAt x pre.length) : (a >>> 1, (b <<< 1) ||| (a &&& 1)) = revAt x (pre ++ [k]).length := by
  rw [List.length_append]
  show _ = revStep (revAt x pre.length)
  rw [← h]; rfl

theorem bitrev_gives {w : World} {p : Program} {loose : List Str} {mean : ExcName → Option Value} {mg mb : Str → Option Value} (x n : Nat) (t u : Tok) (hn : n ≤ 64) :
    GV w p loose mean mg mb 1 152 NoPre [.int (x : Int) t, .int (n : Int) u] (RetN (revN x n)) := by
  unfold GV
  k_fill
  unfold Gives
  intro dp un gd cn cs ad ccd cl outer A₀ base h₀ L mF news s Q E B F X N TT hk hdp hun hpre hret
  refine wpAny_call ?_
  fail "enter"
  fail "go"
  rename IsRange _ _ _ _ _ _ _ _ => hR
  rename News _ _ _ _ => N5
  rename Fr _ _ _ _ => F5
  with_unfolding_all refine' kst_range (σ := (Nat × Nat) × (Tok × Tok)) (n := n) (fun _ => []) (fun c => [(Str.ofString "x", .int (c.1.1 : Int) c.2.1), (Str.ofString "y", .int (c.1.2 : Int) c.2.2)]) (fun _ => True) [] (fun pre c => c.1 = revAt x pre.length) ((x, 0), (_, _)) rfl hR ?ks ?kn F5 N5 trivial ?kk ?kp ?kt ?kd
  case ks => exact rng_small (by omega)
  case kn => exact rng_size
  case kk => kst_all
  case kp => rfl
  case kt =>
    clear F5 N5
    intro c pre k tk u h5 tk5 own hk5 hlt hoff _ hP F6 N6
    obtain ⟨⟨a, b⟩, ta, tb⟩ := c
    dsimp only [kstB] at hP F6
    have hb := rev_lt hP hlt hn
    show wpAny _ _ _ _ _ _
    k_fold
    fail "go"
    exact kst_end ((_, _), (_, _)) (by assumption) (by assumption) (fun p hp => nomatch hp) (by first | exact fun p hp => hp | exact fun p hp => List.mem_append_right _ hp) rfl trivial (by kst_all) (by kst_same) (rev_step hP)
  case kd =>
    clear F5 N5
    intro c u h5 tk5 _ hP F6 N6
    obtain ⟨⟨a, b⟩, ta, tb⟩ := c
    dsimp only [kstB] at hP F6
    rw [rangeKs_length] at hP
    have hP2 : b = revN x n := congrArg Prod.snd hP
    subst hP2
    fail "go"
    exact ⟨_, _, [], by assumption, by assumption, fun F1 N1 D1 => hret (.int ((revN x n : Nat) : Int) tb) [] _ _ ⟨rfl, tb, rfl⟩ F1 N1 D1⟩
end
section
def bytecrcStep (poly : Nat) (n : Nat) (c : Nat) : Nat := if c &&& (1 <<< (n - 1)) ≠ 0 then (c <<< 1) ^^^ poly else c <<< 1
def bytecrcAt (poly : Nat) (n : Nat) (c : Nat) : Nat → Nat
  | 0 => c
  | k + 1 => bytecrcStep poly n (bytecrcAt poly n c k)
def bytecrcN (c poly n : Nat) : Nat := bytecrcAt poly n c 8 &&& ((1 <<< n) - 1)
theorem bytecrcAt_lt {poly n c : Nat} (hp : poly < 2 ^ 64) (hc : c < 2 ^ 64) : ∀ k, bytecrcAt poly n c k < 2 ^ (64 + k)
  | 0 => hc
  | k + 1 => by
    have h := bytecrcAt_lt (n := n) hp hc k
    have hp' : poly < 2 ^ (64 + (k + 1)) := Nat.lt_of_lt_of_le hp (Nat.pow_le_pow_right (by decide) (by omega))
    show bytecrcStep poly n (bytecrcAt poly n c k) < 2 ^ (64 + (k + 1))
    generalize bytecrcAt poly n c k = d at h
    have hd : d <<< 1 < 2 ^ (64 + (k + 1)) := by
      rw [show 64 + (k + 1) = (64 + k) + 1 from rfl, Nat.pow_succ]
      rw [Nat.shiftLeft_eq]; omega
    unfold bytecrcStep
    split
    · exact Nat.xor_lt_two_pow hd hp'
    · exact hd
theorem bytecrc_lt {poly n c a : Nat} {pre : List Int} (hp : poly < 2 ^ 64) (hc : c < 2 ^ 64) (h : a = bytecrcAt poly n c pre.length) (hl : pre.length < 8) : a < 2 ^ 100 := by
  rw [h]; exact Nat.lt_of_lt_of_le (bytecrcAt_lt hp hc _) (Nat.pow_le_pow_right (by decide) (by omega))
theorem bytecrc_stepT {poly n c a : Nat} {pre : List Int} {k : Int} (h : a = bytecrcAt poly n c pre.length) (h1 : a &&& (1 <<< (n - 1)) ≠ 0) : (a <<< 1) ^^^ poly = bytecrcAt poly n c (pre ++ [k]).length := by
  rw [List.length_append]
  show _ = bytecrcStep poly n (bytecrcAt poly n c pre.length)
  rw [← h]; unfold bytecrcStep; rw [if_pos h1]
theorem bytecrc_stepF {poly n c a : Nat} {pre : List Int} {k : Int} (h : a = bytecrcAt poly n c pre.length) (h1 : ¬ a &&& (1 <<< (n - 1)) ≠ 0) : a <<< 1 = bytecrcAt poly n c (pre ++ [k]).length := by
  rw [List.length_append]
  show _ = bytecrcStep poly n (bytecrcAt poly n c pre.length)
  rw [← h]; unfold bytecrcStep; rw [if_neg h1]

theorem bytecrc_gives {w : World} {p : Program} {loose : List Str} {mean : ExcName → Option Value} {mg mb : Str → Option Value} (c poly n : Nat) (t u v : Tok) (hc : c < 2 ^ 64) (hp : poly < 2 ^ 64) (hn : n ≤ 64) (hn1 : 1 ≤ n) :
    GV w p loose mean mg mb 1 159 NoPre [.int (c : Int) t, .int (poly : Int) u, .int (n : Int) v] (RetN (bytecrcN c poly n)) := by
  unfold GV
  k_fill
  unfold Gives
  intro dp un gd cn cs ad ccd cl outer A₀ base h₀ L mF news s Q E B F X N TT hk hdp hun hpre hret
  refine wpAny_call ?_
  fail "enter"
  fail "go"
  rename IsRange _ _ _ _ _ _ _ _ => hR
  rename News _ _ _ _ => N5
  rename Fr _ _ _ _ => F5
  with_unfolding_all refine' kst_range (σ := Nat × Tok) (n := 8) (fun _ => []) (fun c => [(Str.ofString "crc", .int (c.1 : Int) c.2)]) (fun _ => True) [] (fun pre d => d.1 = bytecrcAt poly n c pre.length) (c, _) rfl hR ?ks ?kn F5 N5 trivial ?kk ?kp ?kt ?kd
  case ks => decide +kernel
  case kn => decide +kernel
  case kk => kst_all
  case kp => rfl
  case kt =>
    clear F5 N5
    intro c pre k tk u h5 tk5 own hk5 hlt hoff _ hP F6 N6
    obtain ⟨a, ta⟩ := c
    dsimp only [kstB] at hP F6
    have hb := bytecrc_lt hp hc hP hlt
    show wpAny _ _ _ _ _ _
    k_fold
    fail "go"
    · exact kst_end (_, _) (by assumption) (by assumption) (fun p hp => nomatch hp) (by first | exact fun p hp => hp | exact fun p hp => List.mem_append_right _ hp) rfl trivial (by kst_all) (by kst_same) (bytecrc_stepT hP (by assumption))
    · exact kst_end (_, _) (by assumption) (by assumption) (fun p hp => nomatch hp) (by first | exact fun p hp => hp | exact fun p hp => List.mem_append_right _ hp) rfl trivial (by kst_all) (by kst_same) (bytecrc_stepF hP (by assumption))
  case kd =>
    clear F5 N5
    intro c u h5 tk5 _ hP F6 N6
    obtain ⟨a, ta⟩ := c
    dsimp only [kstB] at hP F6
    rw [rangeKs_length] at hP
    replace hP : a = bytecrcAt poly n c 8 := hP
    subst hP
    fail "go"
    exact ⟨_, _, [], by assumption, by assumption, fun F1 N1 D1 => hret (.int ((bytecrcN c poly n : Nat) : Int) _) [] _ _ ⟨rfl, _, rfl⟩ F1 N1 D1⟩
end
section
def bytecrcrStep (poly : Nat) (c : Nat) : Nat := if c &&& 1 ≠ 0 then (c >>> 1) ^^^ poly else c >>> 1
def bytecrcrAt (poly : Nat) (c : Nat) : Nat → Nat
  | 0 => c
  | k + 1 => bytecrcrStep poly (bytecrcrAt poly c k)
def bytecrcrN (c poly n : Nat) : Nat := bytecrcrAt poly c 8 &&& ((1 <<< n) - 1)
theorem bytecrcrAt_lt {poly c : Nat} (hp : poly < 2 ^ 64) (hc : c < 2 ^ 64) : ∀ k, bytecrcrAt poly c k < 2 ^ (64 + k)
  | 0 => hc
  | k + 1 => by
    have h := bytecrcrAt_lt hp hc k
    have hp' : poly < 2 ^ (64 + (k + 1)) := Nat.lt_of_lt_of_le hp (Nat.pow_le_pow_right (by decide) (by omega))
    show bytecrcrStep poly (bytecrcrAt poly c k) < 2 ^ (64 + (k + 1))
    generalize bytecrcrAt poly c k = d at h
    have hd : d >>> 1 < 2 ^ (64 + (k + 1)) := by
      rw [show 64 + (k + 1) = (64 + k) + 1 from rfl, Nat.pow_succ]
      rw [Nat.shiftRight_eq_div_pow]; omega
    unfold bytecrcrStep
    split
    · exact Nat.xor_lt_two_pow hd hp'
    · exact hd
theorem bytecrcr_lt {poly c a : Nat} {pre : List Int} (hp : poly < 2 ^ 64) (hc : c < 2 ^ 64) (h : a = bytecrcrAt poly c pre.length) (hl : pre.length < 8) : a < 2 ^ 100 := by
  rw [h]; exact Nat.lt_of_lt_of_le (bytecrcrAt_lt hp hc _) (Nat.pow_le_pow_right (by decide) (by omega))
theorem bytecrcr_stepT {poly c a : Nat} {pre : List Int} {k : Int} (h : a = bytecrcrAt poly c pre.length) (h1 : a &&& 1 ≠ 0) : (a >>> 1) ^^^ poly = bytecrcrAt poly c (pre ++ [k]).length := by
  rw [List.length_append]
  show _ = bytecrcrStep poly (bytecrcrAt poly c pre.length)
  rw [← h]; unfold bytecrcrStep; rw [if_pos h1]
theorem bytecrcr_stepF {poly c a : Nat} {pre : List Int} {k : Int} (h : a = bytecrcrAt poly c pre.length) (h1 : ¬ a &&& 1 ≠ 0) : a >>> 1 = bytecrcrAt poly c (pre ++ [k]).length := by
  rw [List.length_append]
  show _ = bytecrcrStep poly (bytecrcrAt poly c pre.length)
  rw [← h]; unfold bytecrcrStep; rw [if_neg h1]

theorem bytecrcr_gives {w : World} {p : Program} {loose : List Str} {mean : ExcName → Option Value} {mg mb : Str → Option Value} (c poly n : Nat) (t u v : Tok) (hc : c < 2 ^ 64) (hp : poly < 2 ^ 64) (hn : n ≤ 64) (hn1 : 1 ≤ n) :
    GV w p loose mean mg mb 1 166 NoPre [.int (c : Int) t, .int (poly : Int) u, .int (n : Int) v] (RetN (bytecrcrN c poly n)) := by
  unfold GV
  k_fill
  unfold Gives
  intro dp un gd cn cs ad ccd cl outer A₀ base h₀ L mF news s Q E B F X N TT hk hdp hun hpre hret
  refine wpAny_call ?_
  fail "enter"
  fail "go"
  rename IsRange _ _ _ _ _ _ _ _ => hR
  rename News _ _ _ _ => N5
  rename Fr _ _ _ _ => F5
  with_unfolding_all refine' kst_range (σ := Nat × Tok) (n := 8) (fun _ => []) (fun c => [(Str.ofString "crc", .int (c.1 : Int) c.2)]) (fun _ => True) [] (fun pre d => d.1 = bytecrcrAt poly c pre.length) (c, _) rfl hR ?ks ?kn F5 N5 trivial ?kk ?kp ?kt ?kd
  case ks => decide +kernel
  case kn => decide +kernel
  case kk => kst_all
  case kp => rfl
  case kt =>
    clear F5 N5
    intro c pre k tk u h5 tk5 own hk5 hlt hoff _ hP F6 N6
    obtain ⟨a, ta⟩ := c
    dsimp only [kstB] at hP F6
    have hb := bytecrcr_lt hp hc hP hlt
    show wpAny _ _ _ _ _ _
    k_fold
    fail "go"
    · exact kst_end (_, _) (by assumption) (by assumption) (fun p hp => nomatch hp) (by first | exact fun p hp => hp | exact fun p hp => List.mem_append_right _ hp) rfl trivial (by kst_all) (by kst_same) (bytecrcr_stepT hP (by assumption))
    · exact kst_end (_, _) (by assumption) (by assumption) (fun p hp => nomatch hp) (by first | exact fun p hp => hp | exact fun p hp => List.mem_append_right _ hp) rfl trivial (by kst_all) (by kst_same) (bytecrcr_stepF hP (by assumption))
  case kd =>
    clear F5 N5
    intro c u h5 tk5 _ hP F6 N6
    obtain ⟨a, ta⟩ := c
    dsimp only [kstB] at hP F6
    rw [rangeKs_length] at hP
    replace hP : a = bytecrcrAt poly c 8 := hP
    subst hP
    fail "go"
    exact ⟨_, _, [], by assumption, by assumption, fun F1 N1 D1 => hret (.int ((bytecrcrN c poly n : Nat) : Int) _) [] _ _ ⟨rfl, _, rfl⟩ F1 N1 D1⟩
end
section
/-- the place of bit i -/
def mvPlace (count : Nat) (back : Bool) (m : Nat) (shift : Int) (i : Nat) : Nat := (((m : Int) * (((if back then count - 1 - i else i : Nat) : Int) + shift)).fmod 255).toNat
def mvBit (count : Nat) (back : Bool) (m : Nat) (shift : Int) (i : Nat) : Nat := 1 <<< (if back then 255 - mvPlace count back m shift i else mvPlace count back m shift i)
def mvAt (bits count : Nat) (back : Bool) (m : Nat) (shift : Int) : Nat → Nat
  | 0 => 0
  | k + 1 => if (bits >>> k) &&& 1 ≠ 0 then mvAt bits count back m shift k ^^^ mvBit count back m shift k else mvAt bits count back m shift k
def movedN (bits count : Nat) (back : Bool) (m : Nat) (shift : Int) : Nat := mvAt bits count back m shift count
theorem mv_stepT {bits count a m : Nat} {back : Bool} {shift : Int} {pre : List Int} {k : Int} (h : a = mvAt bits count back m shift pre.length) (h1 : (bits >>> pre.length) &&& 1 ≠ 0) : a ^^^ mvBit count back m shift pre.length = mvAt bits count back m shift (pre ++ [k]).length := by
  rw [List.length_append, h]
  show _ = if (bits >>> pre.length) &&& 1 ≠ 0 then _ else _
  rw [if_pos h1]
theorem mv_stepF {bits count a m : Nat} {back : Bool} {shift : Int} {pre : List Int} {k : Int} (h : a = mvAt bits count back m shift pre.length) (h1 : ¬ (bits >>> pre.length) &&& 1 ≠ 0) : a = mvAt bits count back m shift (pre ++ [k]).length := by
  rw [List.length_append, h]
  show _ = if (bits >>> pre.length) &&& 1 ≠ 0 then _ else _
  rw [if_neg h1]

theorem moved_gives_true {w : World} {p : Program} {loose : List Str} {mean : ExcName → Option Value} {mg mb : Str → Option Value} (bits count m : Nat) (shift : Int) (t u v z : Tok) (hcount : count ≤ 10000) (hm : m < 2 ^ 20) (hs0 : -10000 ≤ shift) (hs1 : shift ≤ 10000) :
    GV w p loose mean mg mb 1 228 NoPre [.int (bits : Int) t, .int (count : Int) u, .bool true, .int (m : Int) v, .int shift z] (RetN (movedN bits count true m shift)) := by
  unfold GV
  k_fill
  unfold Gives
  intro dp un gd cn cs ad ccd cl outer A₀ base h₀ L mF news s Q E B F X N TT hk hdp hun hpre hret
  refine wpAny_call ?_
  fail "enter"
  fail "go"
  rename IsRange _ _ _ _ _ _ _ _ => hR
  rename News _ _ _ _ => N5
  rename Fr _ _ _ _ => F5
  with_unfolding_all refine' kst_range (σ := Nat × Tok) (n := count) (fun _ => []) (fun c => [(Str.ofString "word", .int (c.1 : Int) c.2)]) (fun _ => True) [Str.ofString "place"] (fun pre d => d.1 = mvAt bits count true m shift pre.length) (0, _) rfl hR ?ks ?kn F5 N5 trivial ?kk ?kp ?kt ?kd
  case ks => exact rng_small (by omega)
  case kn => exact rng_size
  case kk => kst_all
  case kp => rfl
  case kt =>
    clear F5 N5
    intro c pre k tk u h5 tk5 own hk5 hlt hoff _ hP F6 N6
    obtain ⟨a, ta⟩ := c
    dsimp only [kstB] at hP F6
    have hk6 : k = (pre.length : Int) := by omega
    subst hk6
    show wpAny _ _ _ _ _ _
    k_fold
    fail "go"
    · exact kst_end (_, _) (by assumption) (by assumption) (fun p hp => nomatch hp) (by first | exact fun p hp => hp | exact fun p hp => List.mem_append_right _ hp) rfl trivial (by kst_all) (by kst_same) (mv_stepT hP (by assumption))
    · exact kst_end (_, _) (by assumption) (by assumption) (fun p hp => nomatch hp) (by first | exact fun p hp => hp | exact fun p hp => List.mem_append_right _ hp) rfl trivial (by kst_all) (by kst_same) (mv_stepF hP (by assumption))
  case kd =>
    clear F5 N5
    intro c u h5 tk5 _ hP F6 N6
    obtain ⟨a, ta⟩ := c
    dsimp only [kstB] at hP F6
    rw [rangeKs_length] at hP
    replace hP : a = movedN bits count true m shift := hP
    subst hP
    fail "go"
    exact ⟨_, _, [], by assumption, by assumption, fun F1 N1 D1 => hret (.int ((movedN bits count true m shift : Nat) : Int) _) [] _ _ ⟨rfl, _, rfl⟩ F1 N1 D1⟩
theorem moved_gives_false {w : World} {p : Program} {loose : List Str} {mean : ExcName → Option Value} {mg mb : Str → Option Value} (bits count m : Nat) (shift : Int) (t u v z : Tok) (hcount : count ≤ 10000) (hm : m < 2 ^ 20) (hs0 : -10000 ≤ shift) (hs1 : shift ≤ 10000) :
    GV w p loose mean mg mb 1 228 NoPre [.int (bits : Int) t, .int (count : Int) u, .bool false, .int (m : Int) v, .int shift z] (RetN (movedN bits count false m shift)) := by
  unfold GV
  k_fill
  unfold Gives
  intro dp un gd cn cs ad ccd cl outer A₀ base h₀ L mF news s Q E B F X N TT hk hdp hun hpre hret
  refine wpAny_call ?_
  fail "enter"
  fail "go"
  rename IsRange _ _ _ _ _ _ _ _ => hR
  rename News _ _ _ _ => N5
  rename Fr _ _ _ _ => F5
  with_unfolding_all refine' kst_range (σ := Nat × Tok) (n := count) (fun _ => []) (fun c => [(Str.ofString "word", .int (c.1 : Int) c.2)]) (fun _ => True) [Str.ofString "place"] (fun pre d => d.1 = mvAt bits count false m shift pre.length) (0, _) rfl hR ?ks ?kn F5 N5 trivial ?kk ?kp ?kt ?kd
  case ks => exact rng_small (by omega)
  case kn => exact rng_size
  case kk => kst_all
  case kp => rfl
  case kt =>
    clear F5 N5
    intro c pre k tk u h5 tk5 own hk5 hlt hoff _ hP F6 N6
    obtain ⟨a, ta⟩ := c
    dsimp only [kstB] at hP F6
    have hk6 : k = (pre.length : Int) := by omega
    subst hk6
    show wpAny _ _ _ _ _ _
    k_fold
    fail "go"
    · exact kst_end (_, _) (by assumption) (by assumption) (fun p hp => nomatch hp) (by first | exact fun p hp => hp | exact fun p hp => List.mem_append_right _ hp) rfl trivial (by kst_all) (by kst_same) (mv_stepT hP (by assumption))
    · exact kst_end (_, _) (by assumption) (by assumption) (fun p hp => nomatch hp) (by first | exact fun p hp => hp | exact fun p hp => List.mem_append_right _ hp) rfl trivial (by kst_all) (by kst_same) (mv_stepF hP (by assumption))
  case kd =>
    clear F5 N5
    intro c u h5 tk5 _ hP F6 N6
    obtain ⟨a, ta⟩ := c
    dsimp only [kstB] at hP F6
    rw [rangeKs_length] at hP
    replace hP : a = movedN bits count false m shift := hP
    subst hP
    fail "go"
    exact ⟨_, _, [], by assumption, by assumption, fun F1 N1 D1 => hret (.int ((movedN bits count false m shift : Nat) : Int) _) [] _ _ ⟨rfl, _, rfl⟩ F1 N1 D1⟩
theorem moved_gives {w : World} {p : Program} {loose : List Str} {mean : ExcName → Option Value} {mg mb : Str → Option Value} (bits count m : Nat) (back : Bool) (shift : Int) (t u v z : Tok) (hcount : count ≤ 10000) (hm : m < 2 ^ 20) (hs0 : -10000 ≤ shift) (hs1 : shift ≤ 10000) :
    GV w p loose mean mg mb 1 228 NoPre [.int (bits : Int) t, .int (count : Int) u, .bool back, .int (m : Int) v, .int shift z] (RetN (movedN bits count back m shift)) := by
  cases back
  · exact moved_gives_false bits count m shift t u v z hcount hm hs0 hs1
  · exact moved_gives_true bits count m shift t u v z hcount hm hs0 hs1
end
section
/-- carry-less product, from the state (v, a, b) -/
def clm : Nat → Nat → Nat → Nat → Nat
  | 0, v, _, _ => v
  | k + 1, v, a, b => clm k (if b % 2 = 1 then v ^^^ a else v) (a <<< 1) (b >>> 1)

theorem clm_zero : ∀ (k v a : Nat), clm k v a 0 = v
  | 0, _, _ => rfl
  | k + 1, v, a => by
    show clm k (if 0 % 2 = 1 then v ^^^ a else v) (a <<< 1) (0 >>> 1) = v
    rw [if_neg (by decide)]
    exact clm_zero k v _

def TimesInv (a b : Nat) (c : Nat × Nat × Nat) : Prop := ∃ k, k ≤ 64 ∧ c.2.1 < 2 ^ k ∧ c.1 < 2 ^ (128 - k) ∧ clm k c.2.2 c.1 c.2.1 = clm 64 0 a b
theorem times_size {a b a' b' v' : Nat} (h : TimesInv a b (a', b', v')) : a' < 2 ^ 128 := by
  obtain ⟨k, _, _, h, _⟩ := h
  exact Nat.lt_of_lt_of_le h (Nat.pow_le_pow_right (by decide) (by omega))
theorem times_step {a b a' b' v' : Nat} (h : TimesInv a b (a', b', v')) (h0 : b' ≠ 0) : TimesInv a b (a' <<< 1, b' >>> 1, if b' % 2 = 1 then v' ^^^ a' else v') := by
  obtain ⟨k, hk, hb, ha, e⟩ := h
  dsimp only at hb ha e
  cases k with
  | zero => simp at hb; omega
  | succ k =>
    refine ⟨k, by omega, ?_, ?_, e⟩
    · show b' >>> 1 < 2 ^ k
      rw [Nat.shiftRight_eq_div_pow]; rw [Nat.pow_succ] at hb; omega
    · show a' <<< 1 < 2 ^ (128 - k)
      have : 128 - k = (128 - (k + 1)) + 1 := by omega
      rw [this, Nat.pow_succ, Nat.shiftLeft_eq]; omega
theorem times_and {b' : Nat} : (b' &&& 1 ≠ 0) = (b' % 2 = 1) := by
  rw [Nat.and_one_is_mod]; apply propext; omega
theorem times_done {a b : Nat} {a' b' v' : Nat} (h : TimesInv a b (a', b', v')) (h0 : ¬ b' ≠ 0) : v' = clm 64 0 a b := by
  obtain ⟨k, _, _, _, e⟩ := h
  have : b' = 0 := by omega
  subst this
  rw [← e]; exact (clm_zero k v' a').symm
theorem shr_lt (b' : Nat) (h : b' ≠ 0) : b' >>> 1 < b' := by rw [Nat.shiftRight_eq_div_pow]; omega

theorem times_gives {w : World} {p : Program} {loose : List Str} {mean : ExcName → Option Value} {mg mb : Str → Option Value} (a b : Nat) (t u : Tok) (ha : a < 2 ^ 64) (hb : b < 2 ^ 64) :
    GV w p loose mean mg mb 1 214 NoPre [.int (a : Int) t, .int (b : Int) u] (RetN (clm 64 0 a b)) := by
  unfold GV
  k_fill
  unfold Gives
  intro dp un gd cn cs ad ccd cl outer A₀ base h₀ L mF news s Q E B F X N TT hk hdp hun hpre hret
  refine wpAny_call ?_
  fail "enter"
  fail "go"
  rename News _ _ _ _ => N5
  rename Fr _ _ _ _ => F5
  with_unfolding_all refine' ksw_while (σ := (Nat × Nat × Nat) × (Tok × Tok × Tok)) (fun _ => []) (fun c => [(Str.ofString "a", .int (c.1.1 : Int) c.2.1), (Str.ofString "b", .int (c.1.2.1 : Int) c.2.2.1), (Str.ofString "v", .int (c.1.2.2 : Int) c.2.2.2)]) (fun _ => True) [] (fun c => TimesInv a b c.1) (fun c => c.1.2.1) ((a, b, 0), (t, u, _)) F5 N5 trivial ?kk ?kp ?_ 
  case kk => kst_all
  case kp => exact ⟨64, by omega, hb, ha, rfl⟩
  clear F5 N5
  intro c u2 h6 tk6 _ hP F6 N6
  obtain ⟨⟨a', b', v'⟩, ta, tb, tv⟩ := c
  dsimp only [kstB] at hP F6
  have hsz : a' < 2 ^ 200 := Nat.lt_trans (times_size hP) (by decide)
  show wpAny _ _ _ _ _ _
  k_fold
  fail "go"
  · have h0 : b' ≠ 0 := by assumption
    have h1 : b' &&& 1 ≠ 0 := by assumption
    have hs := times_step hP h0
    rw [times_and] at h1; rw [if_pos h1] at hs
    refine ksw_end ((_, _, _), (_, _, _)) (by assumption) (by assumption) (fun p hp => nomatch hp) trivial (by kst_all) ?_ hs (shr_lt _ h0)
    ksw_same
  · have h0 : b' ≠ 0 := by assumption
    have h1 : ¬ b' &&& 1 ≠ 0 := by assumption
    have hs := times_step hP h0
    rw [times_and] at h1; rw [if_neg h1] at hs
    refine ksw_end ((_, _, _), (_, _, _)) (by assumption) (by assumption) (fun p hp => nomatch hp) trivial (by kst_all) ?_ hs (shr_lt _ h0)
    ksw_same
  · have h0 : ¬ b' ≠ 0 := by assumption
    have h2 := times_done hP h0
    subst h2
    exact ⟨_, _, [], by assumption, by assumption, fun F1 N1 D1 => hret (.int ((clm 64 0 a b : Nat) : Int) _) [] _ _ ⟨rfl, _, rfl⟩ F1 N1 D1⟩
end
section
theorem vpoly_gives_8 {w : World} {p : Program} {loose : List Str} {mean : ExcName → Option Value} {mg mb : Str → Option Value} (poly : Nat) (t : Tok) (h0 : 256 ≤ poly) (h1 : poly < 512) :
    GV w p loose mean mg mb 1 145 NoPre [.int (poly : Int) t] (RetN 8) := by
  unfold GV
  k_fill
  unfold Gives
  intro dp un gd cn cs ad ccd cl outer A₀ base h₀ L mF news s Q E B F X N TT hk hdp hun hpre hret
  refine wpAny_call ?_
  fail "enter"
  repeat' (first | (k_unfold; (try dsimp only)) | ((fail_if_success (with_reducible refine byeProbe ?_)); first | walk1 | (dsimp only; walk1)))
  exact ⟨_, _, [], by assumption, News.nil, fun F1 N1 D1 => hret (.int ((8 : Nat) : Int) _) [] _ _ ⟨rfl, _, rfl⟩ F1 N1 D1⟩
theorem vpoly_gives_16 {w : World} {p : Program} {loose : List Str} {mean : ExcName → Option Value} {mg mb : Str → Option Value} (poly : Nat) (t : Tok) (h0 : 65536 ≤ poly) (h1 : poly < 131072) :
    GV w p loose mean mg mb 1 145 NoPre [.int (poly : Int) t] (RetN 16) := by
  unfold GV
  k_fill
  unfold Gives
  intro dp un gd cn cs ad ccd cl outer A₀ base h₀ L mF news s Q E B F X N TT hk hdp hun hpre hret
  refine wpAny_call ?_
  fail "enter"
  repeat' (first | (k_unfold; (try dsimp only)) | ((fail_if_success (with_reducible refine byeProbe ?_)); first | walk1 | (dsimp only; walk1)))
  exact ⟨_, _, [], by assumption, News.nil, fun F1 N1 D1 => hret (.int ((16 : Nat) : Int) _) [] _ _ ⟨rfl, _, rfl⟩ F1 N1 D1⟩
theorem vpoly_gives_24 {w : World} {p : Program} {loose : List Str} {mean : ExcName → Option Value} {mg mb : Str → Option Value} (poly : Nat) (t : Tok) (h0 : 16777216 ≤ poly) (h1 : poly < 33554432) :
    GV w p loose mean mg mb 1 145 NoPre [.int (poly : Int) t] (RetN 24) := by
  unfold GV
  k_fill
  unfold Gives
  intro dp un gd cn cs ad ccd cl outer A₀ base h₀ L mF news s Q E B F X N TT hk hdp hun hpre hret
  refine wpAny_call ?_
  fail "enter"
  repeat' (first | (k_unfold; (try dsimp only)) | ((fail_if_success (with_reducible refine byeProbe ?_)); first | walk1 | (dsimp only; walk1)))
  exact ⟨_, _, [], by assumption, News.nil, fun F1 N1 D1 => hret (.int ((24 : Nat) : Int) _) [] _ _ ⟨rfl, _, rfl⟩ F1 N1 D1⟩
theorem vpoly_gives_32 {w : World} {p : Program} {loose : List Str} {mean : ExcName → Option Value} {mg mb : Str → Option Value} (poly : Nat) (t : Tok) (h0 : 4294967296 ≤ poly) (h1 : poly < 8589934592) :
    GV w p loose mean mg mb 1 145 NoPre [.int (poly : Int) t] (RetN 32) := by
  unfold GV
  k_fill
  unfold Gives
  intro dp un gd cn cs ad ccd cl outer A₀ base h₀ L mF news s Q E B F X N TT hk hdp hun hpre hret
  refine wpAny_call ?_
  fail "enter"
  repeat' (first | (k_unfold; (try dsimp only)) | ((fail_if_success (with_reducible refine byeProbe ?_)); first | walk1 | (dsimp only; walk1)))
  exact ⟨_, _, [], by assumption, News.nil, fun F1 N1 D1 => hret (.int ((32 : Nat) : Int) _) [] _ _ ⟨rfl, _, rfl⟩ F1 N1 D1⟩
theorem vpoly_gives {w : World} {p : Program} {loose : List Str} {mean : ExcName → Option Value} {mg mb : Str → Option Value} (poly n : Nat) (t : Tok) (hn : n = 8 ∨ n = 16 ∨ n = 24 ∨ n = 32) (h0 : 2 ^ n ≤ poly) (h1 : poly < 2 ^ (n + 1)) :
    GV w p loose mean mg mb 1 145 NoPre [.int (poly : Int) t] (RetN n) := by
  rcases hn with rfl | rfl | rfl | rfl
  · exact vpoly_gives_8 poly t h0 h1
  · exact vpoly_gives_16 poly t h0 h1
  · exact vpoly_gives_24 poly t h0 h1
  · exact vpoly_gives_32 poly t h0 h1
def Params3 (n : Nat) (i x : Int) (v : Value) (nx : List (Addr × Obj)) : Prop := ∃ T t1 t2 t3, v = .ref T ∧ nx = [(T, ({ cls := .type "tuple", data := .seq #[.int (n : Int) t1, .int (lowN i n : Int) t2, .int (lowN x n : Int) t3] } : Obj))]
local macro_rules | `(tactic| fail "call ref") => `(tactic| fail "use n")
local macro_rules | `(tactic| fail "which") => `(tactic| exact vpoly_gives _ _ _ (by assumption) (by assumption) (by assumption))
theorem vparams_gives {w : World} {p : Program} {loose : List Str} {mean : ExcName → Option Value} {mg mb : Str → Option Value} (poly n : Nat) (i x : Int) (t u v : Tok) (hn : n = 8 ∨ n = 16 ∨ n = 24 ∨ n = 32) (h0 : 2 ^ n ≤ poly) (h1 : poly < 2 ^ (n + 1)) :
    GV w p loose mean mg mb 2 189 NoPre [.int (poly : Int) t, .int i u, .int x v] (Params3 n i x) := by
  unfold GV
  k_fill
  unfold Gives
  intro dp un gd cn cs ad ccd cl outer A₀ base h₀ L mF news s Q E B F X N TT hk hdp hun hpre hret
  refine wpAny_call ?_
  fail "enter"
  repeat' (first | (k_unfold; (try dsimp only)) | ((fail_if_success (with_reducible refine byeProbe ?_)); first | walk1 | (dsimp only; walk1)))
  exact ⟨_, _, _, by assumption, by assumption, fun F1 N1 D1 => hret _ _ _ _ ⟨_, _, _, _, rfl, rfl⟩ F1 N1 D1⟩
end
section
def turnAt (poly : Nat) : Nat → Nat
  | 0 => 0
  | k + 1 => (turnAt poly k <<< 1) ||| ((poly >>> k) &&& 1)
def turnN (poly n : Nat) : Nat := turnAt poly (n + 1)
theorem turnAt_lt (poly : Nat) : ∀ k, turnAt poly k < 2 ^ k
  | 0 => by show (0 : Nat) < 2 ^ 0; decide
  | k + 1 => by
    have h := turnAt_lt poly k
    show (turnAt poly k <<< 1) ||| ((poly >>> k) &&& 1) < 2 ^ (k + 1)
    refine Nat.or_lt_two_pow ?_ ?_
    · rw [Nat.shiftLeft_eq, Nat.pow_succ]; omega
    · rw [Nat.and_one_is_mod]
      have := Nat.mod_lt (poly >>> k) (show 0 < 2 by decide)
      have h2 : 2 ^ 1 ≤ 2 ^ (k + 1) := Nat.pow_le_pow_right (by decide) (by omega)
      omega
theorem turn_lt {poly n a : Nat} {pre : List Int} (h : a = turnAt poly pre.length) (hl : pre.length < n + 1) (hn : n ≤ 64) : a < 2 ^ 200 := by
  have h1 := turnAt_lt poly pre.length
  rw [← h] at h1
  exact Nat.lt_of_lt_of_le h1 (Nat.pow_le_pow_right (by decide) (by omega))
theorem turn_step {poly a : Nat} {pre : List Int} {k : Int} (h : a = turnAt poly pre.length) : (a <<< 1) ||| ((poly >>> pre.length) &&& 1) = turnAt poly (pre ++ [k]).length := by
  rw [List.length_append]
  show _ = (turnAt poly pre.length <<< 1) ||| ((poly >>> pre.length) &&& 1)
  rw [← h]
def leftStep (t v : Nat) : Nat := if v &&& 1 ≠ 0 then (v ^^^ t) >>> 1 else v >>> 1
def leftAt (t v : Nat) : Nat → Nat
  | 0 => v
  | k + 1 => leftStep t (leftAt t v k)
theorem left_stepT {t v a : Nat} {pre : List Int} {k : Int} (h : a = leftAt t v pre.length) (h1 : a &&& 1 ≠ 0) : (a ^^^ t) >>> 1 = leftAt t v (pre ++ [k]).length := by
  rw [List.length_append]
  show _ = leftStep t (leftAt t v pre.length)
  rw [← h]; unfold leftStep; rw [if_pos h1]
theorem left_stepF {t v a : Nat} {pre : List Int} {k : Int} (h : a = leftAt t v pre.length) (h1 : ¬ a &&& 1 ≠ 0) : a >>> 1 = leftAt t v (pre ++ [k]).length := by
  rw [List.length_append]
  show _ = leftStep t (leftAt t v pre.length)
  rw [← h]; unfold leftStep; rw [if_neg h1]

theorem leftb_gives {w : World} {p : Program} {loose : List Str} {mean : ExcName → Option Value} {mg mb : Str → Option Value} (word count begun poly n : Nat) (t1 t2 t3 t4 t5 : Tok) (hc : count ≤ 10000) (hn : n ≤ 64) :
    GV w p loose mean mg mb 1 221 NoPre [.int (word : Int) t1, .int (count : Int) t2, .int (begun : Int) t3, .int (poly : Int) t4, .int (n : Int) t5, .bool true] (RetN (leftAt (turnN poly n) (word ^^^ begun) count)) := by
  unfold GV
  k_fill
  unfold Gives
  intro dp un gd cn cs ad ccd cl outer A₀ base h₀ L mF news s Q E B F X N TT hk hdp hun hpre hret
  refine wpAny_call ?_
  fail "enter"
  fail "go"
  rename IsRange _ _ _ _ _ _ _ _ => hR
  rename News _ _ _ _ => N5
  rename Fr _ _ _ _ => F5
  with_unfolding_all refine' kst_range (σ := Nat × Tok) (n := n + 1) (fun _ => []) (fun c => [(Str.ofString "turned", .int (c.1 : Int) c.2)]) (fun _ => True) [] (fun pre d => d.1 = turnAt poly pre.length) (0, _) rfl hR ?ks ?kn F5 N5 trivial ?kk ?kp ?kt ?kd
  case ks => exact rng_small (by omega)
  case kn => exact rng_size
  case kk => kst_all
  case kp => rfl
  case kt =>
    clear F5 N5
    intro c pre k tk u h5 tk5 own hk5 hlt hoff _ hP F6 N6
    obtain ⟨a, ta⟩ := c
    dsimp only [kstB] at hP F6
    have hk6 : k = (pre.length : Int) := by omega
    subst hk6
    have hb := turn_lt hP hlt hn
    show wpAny _ _ _ _ _ _
    k_fold
    fail "go"
    exact kst_end (_, _) (by assumption) (by assumption) (fun p hp => nomatch hp) (by first | exact fun p hp => hp | exact fun p hp => List.mem_append_right _ hp) rfl trivial (by kst_all) (by kst_same) (turn_step hP)
  case kd =>
    clear F5 N5
    intro c u h5 tk5 _ hP F6 N6
    obtain ⟨a, ta⟩ := c
    dsimp only [kstB] at hP F6
    rw [rangeKs_length] at hP
    replace hP : a = turnN poly n := hP
    subst hP
    fail "go"
    rename IsRange _ _ _ _ _ _ _ _ => hR
    rename News _ _ _ _ => N5
    rename Fr _ _ _ _ => F5
    with_unfolding_all refine' kst_range (σ := Nat × Tok) (n := count) (fun _ => []) (fun c => [(Str.ofString "v", .int (c.1 : Int) c.2)]) (fun _ => True) [] (fun pre d => d.1 = leftAt (turnN poly n) (word ^^^ begun) pre.length) (word ^^^ begun, _) rfl hR ?ks ?kn F5 N5 trivial ?kk ?kp ?kt ?kd
    case ks => exact rng_small (by omega)
    case kn => exact rng_size
    case kk => kst_all
    case kp => rfl
    case kt =>
      clear F5 N5
      intro c pre k tk u h5 tk5 own hk5 hlt hoff _ hP F6 N6
      obtain ⟨a, ta⟩ := c
      dsimp only [kstB] at hP F6
      show wpAny _ _ _ _ _ _
      k_fold
      fail "go"
      · exact kst_end (_, _) (by assumption) (by assumption) (fun p hp => nomatch hp) (by first | exact fun p hp => hp | exact fun p hp => List.mem_append_right _ hp) rfl trivial (by kst_all) (by kst_same) (left_stepT hP (by assumption))
      · exact kst_end (_, _) (by assumption) (by assumption) (fun p hp => nomatch hp) (by first | exact fun p hp => hp | exact fun p hp => List.mem_append_right _ hp) rfl trivial (by kst_all) (by kst_same) (left_stepF hP (by assumption))
    case kd =>
      clear F5 N5
      intro c u h5 tk5 _ hP F6 N6
      obtain ⟨a, ta⟩ := c
      dsimp only [kstB] at hP F6
      rw [rangeKs_length] at hP
      replace hP : a = leftAt (turnN poly n) (word ^^^ begun) count := hP
      subst hP
      fail "go"
      exact ⟨_, _, [], by assumption, by assumption, fun F1 N1 D1 => hret (.int ((leftAt (turnN poly n) (word ^^^ begun) count : Nat) : Int) _) [] _ _ ⟨rfl, _, rfl⟩ F1 N1 D1⟩
end
section
inductive LeftTo (poly n v0 : Nat) : Nat → Prop
  | start : LeftTo poly n v0 v0
  | step {v : Nat} : LeftTo poly n v0 v → 2 ^ n ≤ v → LeftTo poly n v0 (v ^^^ (poly <<< (v.log2 - n)))
theorem left_start {word begun n count : Nat} (hw : word < 2 ^ 100) (hb : begun < 2 ^ 64) (hc : count ≤ 100) (hn : n ≤ 64) : (word <<< n) ^^^ (begun <<< count) < 2 ^ 180 := by
  have e : ∀ {x k a : Nat}, x < 2 ^ a → a + k ≤ 180 → x <<< k < 2 ^ 180 := fun {x k a} hx hk => by
    rw [Nat.shiftLeft_eq]
    refine Nat.lt_of_lt_of_le (Nat.mul_lt_mul_of_pos_right hx (Nat.two_pow_pos k)) ?_
    rw [← Nat.pow_add]; exact Nat.pow_le_pow_right (by decide) hk
  exact Nat.xor_lt_two_pow (e hw (by omega)) (e hb (by omega))
theorem shr_ne {v n : Nat} (h : v >>> n ≠ 0) : 2 ^ n ≤ v := by
  rw [Nat.shiftRight_eq_div_pow] at h
  exact Nat.le_of_not_lt fun q => h (Nat.div_eq_of_lt q)
theorem shr_eq {v n : Nat} (h : ¬ v >>> n ≠ 0) : v < 2 ^ n := by
  rw [Nat.shiftRight_eq_div_pow] at h
  have h' : v / 2 ^ n = 0 := by omega
  rcases Nat.div_eq_zero_iff.mp h' with h | h
  · have := Nat.two_pow_pos n; omega
  · exact h
theorem bits_sub {v n : Nat} (h : v >>> n ≠ 0) : ((Builtin.Int.intBits (v : Int) : Nat) : Int) - 1 - (n : Int) = ((v.log2 - n : Nat) : Int) := by
  have h1 := shr_ne h
  have h0 : v ≠ 0 := by have := Nat.two_pow_pos n; omega
  have h2 : n ≤ v.log2 := (Nat.le_log2 h0).mpr h1
  unfold Builtin.Int.intBits
  rw [if_neg (by simpa using h0), Int.natAbs_natCast]
  omega
theorem bits_le {v n : Nat} (h : v < 2 ^ 180) : ((v.log2 - n : Nat) : Int) ≤ 1000000 := by
  by_cases h0 : v = 0
  · subst h0; simp
  · have := (Nat.log2_lt h0).mpr h
    omega
theorem xor_top {a b l : Nat} (a0 : 2 ^ l ≤ a) (a1 : a < 2 ^ (l + 1)) (b0 : 2 ^ l ≤ b) (b1 : b < 2 ^ (l + 1)) : a ^^^ b < 2 ^ l := by
  have e : ∀ {x : Nat}, 2 ^ l ≤ x → x < 2 ^ (l + 1) → x >>> l = 1 := fun {x} h0 h1 => by
    rw [Nat.shiftRight_eq_div_pow]
    rw [Nat.pow_succ] at h1
    exact Nat.div_eq_of_lt_le (by omega) (by omega)
  refine shr_eq ?_
  rw [Nat.shiftRight_xor_distrib, e a0 a1, e b0 b1]
  decide
theorem left_less {v n poly : Nat} (h : v >>> n ≠ 0) (hp0 : 2 ^ n ≤ poly) (hp1 : poly < 2 ^ (n + 1)) : v ^^^ (poly <<< (v.log2 - n)) < v := by
  have h1 := shr_ne h
  have h0 : v ≠ 0 := by have := Nat.two_pow_pos n; omega
  have h2 : n ≤ v.log2 := (Nat.le_log2 h0).mpr h1
  have h3 := Nat.log2_self_le h0
  have h4 : v < 2 ^ (v.log2 + 1) := Nat.lt_log2_self
  refine Nat.lt_of_lt_of_le (xor_top h3 h4 ?_ ?_) h3
  · rw [Nat.shiftLeft_eq]
    have := Nat.mul_le_mul_right (2 ^ (v.log2 - n)) hp0
    rwa [← Nat.pow_add, show n + (v.log2 - n) = v.log2 by omega] at this
  · rw [Nat.shiftLeft_eq]
    have := Nat.mul_lt_mul_of_pos_right hp1 (Nat.two_pow_pos (v.log2 - n))
    rwa [← Nat.pow_add, show n + 1 + (v.log2 - n) = v.log2 + 1 by omega] at this
theorem poly_room {n poly : Nat} (hn : n ≤ 64) (hp1 : poly < 2 ^ (n + 1)) : poly < 2 ^ 200 := Nat.lt_of_lt_of_le hp1 (Nat.pow_le_pow_right (by decide) (by omega))
theorem word_room {x : Nat} (h : x < 2 ^ 100) : x < 2 ^ 200 := Nat.lt_of_lt_of_le h (Nat.pow_le_pow_right (by decide) (by decide))
local macro_rules | `(tactic| fail "binaryOp LShift int int") => `(tactic| k_dflt (refine shl_n rfl (bits_sub (by assumption)) (poly_room (by assumption) (by assumption)) (by rw [bits_sub (by assumption)]; exact bits_le (by assumption)) ?_))

theorem leftf_gives {w : World} {p : Program} {loose : List Str} {mean : ExcName → Option Value} {mg mb : Str → Option Value} (word count begun poly n : Nat) (t1 t2 t3 t4 t5 : Tok) (hc : count ≤ 100) (hn : n ≤ 64) (hw : word < 2 ^ 100) (hb : begun < 2 ^ 64) (hp0 : 2 ^ n ≤ poly) (hp1 : poly < 2 ^ (n + 1)) :
    GV w p loose mean mg mb 1 221 NoPre [.int (word : Int) t1, .int (count : Int) t2, .int (begun : Int) t3, .int (poly : Int) t4, .int (n : Int) t5, .bool false] (fun v nx => ∃ r, RetN r v nx ∧ r < 2 ^ n ∧ LeftTo poly n ((word <<< n) ^^^ (begun <<< count)) r) := by
  unfold GV
  k_fill
  unfold Gives
  intro dp un gd cn cs ad ccd cl outer A₀ base h₀ L mF news s Q E B F X N TT hk hdp hun hpre hret
  refine wpAny_call ?_
  fail "enter"
  fail "go"
  rename News _ _ _ _ => N5
  rename Fr _ _ _ _ => F5
  with_unfolding_all refine' ksw_while (σ := Nat × Tok) (fun _ => []) (fun c => [(Str.ofString "v", .int (c.1 : Int) c.2)]) (fun _ => True) [] (fun c => LeftTo poly n ((word <<< n) ^^^ (begun <<< count)) c.1 ∧ c.1 < 2 ^ 180) (fun c => c.1) ((word <<< n) ^^^ (begun <<< count), _) F5 N5 trivial ?kk ?kp ?_
  case kk => kst_all
  case kp => exact ⟨.start, left_start hw hb hc hn⟩
  clear F5 N5
  intro c u2 h6 tk6 _ hP F6 N6
  obtain ⟨v, tv⟩ := c
  dsimp only [kstB] at hP F6
  obtain ⟨hP, hv180⟩ := hP
  show wpAny _ _ _ _ _ _
  k_fold
  fail "go"
  · have h0 : v >>> n ≠ 0 := by assumption
    have hl := left_less h0 hp0 hp1
    refine ksw_end (_, _) (by assumption) (by assumption) (fun p hp => nomatch hp) trivial (by kst_all) ?_ ⟨.step hP (shr_ne h0), Nat.lt_trans hl hv180⟩ hl
    ksw_same
  · have h0 : ¬ v >>> n ≠ 0 := by assumption
    exact ⟨_, _, [], by assumption, by assumption, fun F1 N1 D1 => hret (.int (v : Int) _) [] _ _ ⟨v, ⟨rfl, _, rfl⟩, shr_eq h0, hP⟩ F1 N1 D1⟩
end
section
abbrev castL (T : List Nat) : List Int := T.map fun k : Nat => (k : Int)
abbrev pairObj (x y : Value) : Obj := { cls := .type "tuple", data := .seq #[x, y] }
abbrev tupObj (xs : Array Value) : Obj := { cls := .type "tuple", data := .seq xs }
theorem rd_kind : builtinKind "_functools.reduce" = none := by decide +kernel
theorem rd_plain : plainId "_functools.reduce" = true := by decide +kernel
theorem rd_entry : entryFor table "_functools.reduce" = some Builtin.«_functools.reduce» := entryFor_of_fast (by kernel_rfl)
theorem rd_args (a b c : Value) : argsOk "_functools.reduce" ⟨[a, b, c], []⟩ := by unfold argsOk; kernel_rfl
theorem rdl_plain : plainId "_functools.reduce.loop" = true := by decide +kernel
theorem rdl_entry : entryFor table "_functools.reduce.loop" = some Builtin.«_functools.reduce.loop» := entryFor_of_fast (by kernel_rfl)

theorem news_same {h₀ h h' : Heap} {L d : Addr} {rest : List (Addr × Obj)} {o o' : Obj} (N : News h₀ L h ((d, o) :: rest)) (h2 : ∀ p ∈ rest, p.1 ≠ d) (hs : Heap.SameBut d h h') (ho : h'.get? d = some o') : News h₀ L h' ((d, o') :: rest) :=
  News.setAt (own := []) N (fun _ hp => nomatch hp) h2 hs ho
theorem fr_same {h₀ h h' : Heap} {L d : Addr} {mF : Str → Option Value} (F : Fr h₀ L h mF) (hL : d ≠ L) (hd : h₀.get? d = none) (hs : Heap.SameBut d h h') : Fr h₀ L h' mF :=
  ⟨F.ns.sameBut hs hL.symm, fun b o e => (hs.2 b fun q => by rw [q, hd] at e; cases e).trans (F.keep b o e), F.above⟩

/-- the rows so far with one more row -/
def addRow (rows : List Nat) (row : Nat) : List Nat := rows ++ rows.map (fun x => row ^^^ x)

section
variable {prog : Program} {w : World} {K : Frag} {p : Program} {loose : List Str} {mean : ExcName → Option Value} {mg mb : Str → Option Value} {D : Nat} {f : Addr} {FO : Obj} {CV : Value} {q : Str}
  {dp un : Nat} {gd : Option (List Code)} {cn : Str} {cs : Scope} {a : Addr} {ccd : Value} {cl : List (Str × Addr)} {outer : List Env} {A₀ : Around} {base h₀ : Heap} {L : Addr} {mF : Str → Option Value}

def LamDoes (prog : Program) (w : World) (K : Frag) (p : Program) (loose : List Str) (mean : ExcName → Option Value) (mg mb : Str → Option Value) (D : Nat) (f : Addr) (FO : Obj) (CV : Value) (q : Str) : Prop :=
  ∀ (rows : Addr) (vs : List Value) (ns : List Nat) (row : Nat) (t : Tok), IntsAre vs (castL ns) → ns.length ≤ 128 →
    Gives prog w K p loose mean mg mb D f (fun h => h.get? f = some FO ∧ h.CodeRec CV q ∧ h.IsList rows vs.toArray) [.ref rows, .int (row : Int) t] (fun v nx => ∃ R ws, v = .ref R ∧ nx = [(R, listOf ws.toArray 0)] ∧ IntsAre ws (castL (addRow ns row)))

theorem reduce_loop (hlam : LamDoes prog w K p loose mean mg mb D f FO CV q) (B : Below A₀ base outer h₀) (X : K.In h₀) (TT : Top p loose mean mg mb h₀) (hk : cs.kind = .function) (hdp : dp + D < recursionLimit) (hun : un + 1 + 8 * D < cLine)
    {I pr ow lst : Addr} {vl : List Value} {all : List Nat} {news : List (Addr × Obj)} {E : Value → Shared → Prop} {Q : Value → Shared → Prop} {s0 : Shared}
    (hf : (f, FO) ∈ news) (hlst : ∃ o, (lst, o) ∈ news ∧ o.cls = .type "list" ∧ ∃ n, o.data = .seq vl.toArray n) (hvl : IntsAre vl (castL all)) (how : ∃ y, (ow, tupObj y) ∈ news ∧ y[0]? = some (.ref f)) (hcv : ∀ h, News h₀ L h news → (∀ b o, h₀.get? b = some o → h.get? b = some o) → h.CodeRec CV q)
    (hdI : ∀ r ∈ news, r.1 ≠ I) (hdP : ∀ r ∈ news, r.1 ≠ pr) (hIP : I ≠ pr) :
    ∀ (k i : Nat) (r : Addr) (vs : List Value) (ns : List Nat) (n : Nat) (oI : Obj) (x y : Value) (s : Shared), all.length - i = k → i ≤ all.length → s.gens = s0.gens → s.drawn = s0.drawn → s.os = s0.os →
      Fr h₀ L s.heap mF → News h₀ L s.heap ((I, oI) :: (pr, pairObj x y) :: (r, listOf vs.toArray n) :: news) → s.heap.IsListIter I lst i → r ≠ I → r ≠ pr → IntsAre vs (castL ns) → ns.length * 2 ^ (all.length - i) ≤ 256 →
      (∀ R ws n' h' tk', Fr h₀ L h' mF → News h₀ L h' ((R, listOf ws.toArray n') :: news) → IntsAre ws (castL ((all.drop i).foldl addRow ns)) → Q (.ref R) { s0 with heap := h', toks := tk' }) →
      codeAny (model prog w) (ktrTop dp un gd cn cs L a ccd cl outer) (.builtin "_functools.reduce.loop" ⟨[.ref pr, .ref I, .ref ow, .ref r], []⟩) (fun r s' => match r with | .ok (.ret v) => Q v s' | .ok _ => False | .error e => E e s') s := by
  intro k
  induction k with
  | zero =>
    intro i r vs ns n oI x y s hki hi hg hdr hos F N hit hrI hrP hvs hsz hQ
    have hin : i = all.length := by omega
    subst hin
    refine codeAny_builtin rdl_entry ?_
    rw [Around.under_plainId rdl_plain _]
    obtain ⟨yo, hyo, hy0⟩ := how
    obtain ⟨lo, hlo, hlc, nl, hld⟩ := hlst
    have hmow := N (ow, tupObj yo) (.tail _ (.tail _ (.tail _ hyo)))
    have hml := N (lst, lo) (.tail _ (.tail _ (.tail _ hlo)))
    show wpAny _ _ (seqItems? (.ref ow) >>= _) _ _ s
    refine wpAny_bind (wpAny_seqItems hmow.1 rfl ?_)
    refine wpAny_bind (wpAny_pyNext_list_end (l := lst) (i := all.length) rfl hit ⟨lo, hml.1, hlc, nl, hld⟩ (by have := hvl.length; simp at this ⊢; omega) fun h' hx => ?_)
    refine wpAny_pure ?_
    have hI := N (I, oI) (.head _)
    have F' : Fr h₀ L h' mF := ⟨F.ns.extBut hx hI.2.1.symm, fun b o e => hx b o (fun q => by rw [q, hI.2.2] at e; cases e) (F.keep b o e), F.above⟩
    have N' : News h₀ L h' ((r, listOf vs.toArray n) :: news) := fun p hp => by
      have hp' := N p (.tail _ (.tail _ hp))
      refine ⟨hx _ _ ?_ hp'.1, hp'.2⟩
      rcases List.mem_cons.mp hp with rfl | hp
      · exact hrI
      · exact hdI p hp
    have := hQ r vs n h' s.toks F' N' (by rw [List.drop_of_length_le (Nat.le_refl _)]; exact hvs)
    have e : ({ s with heap := h' } : Shared) = { s0 with heap := h', toks := s.toks } := by
      cases s; cases s0; simp_all
    show Q (.ref r) { s with heap := h' }
    rw [e]; exact this
  | succ k ih =>
    intro i r vs ns n oI x y s hki hi hg hdr hos F N hit hrI hrP hvs hsz hQ
    have hlt : i < all.length := by omega
    refine codeAny_builtin rdl_entry ?_
    rw [Around.under_plainId rdl_plain _]
    obtain ⟨yo, hyo, hy0⟩ := id how
    obtain ⟨lo, hlo, hlc, nl, hld⟩ := id hlst
    have hmow := N (ow, tupObj yo) (.tail _ (.tail _ (.tail _ hyo)))
    have hml := N (lst, lo) (.tail _ (.tail _ (.tail _ hlo)))
    obtain ⟨tu, htu⟩ := hvl.get i ((all[i] : Nat) : Int) (by simp [hlt])
    show wpAny _ _ (seqItems? (.ref ow) >>= _) _ _ s
    refine wpAny_bind (wpAny_seqItems hmow.1 rfl ?_)
    refine wpAny_bind (wpAny_pyNext_list_item (l := lst) (i := i) hit ⟨lo, hml.1, hlc, nl, hld⟩ (x := .int ((all[i] : Nat) : Int) tu) (by simpa using htu) fun h' hit' hs' => ?_)
    have hI := N (I, oI) (.head _)
    obtain ⟨oI', hoI', hcI', hdI'⟩ := id hit'
    have F' := fr_same F hI.2.1 hI.2.2 hs'
    have N' : News h₀ L h' ((I, oI') :: (pr, pairObj x y) :: (r, listOf vs.toArray n) :: news) := news_same N (fun p hp => by
      rcases List.mem_cons.mp hp with rfl | hp
      · exact hIP.symm
      · rcases List.mem_cons.mp hp with rfl | hp
        · exact hrI
        · exact hdI p hp) hs' hoI'
    have hp1 := N' (pr, pairObj x y) (.tail _ (.head _))
    refine wpAny_bind (wpAny_seqItems hp1.1 rfl ?_)
    dsimp only
    refine wpAny_bind (wpAny_updateSeq_pair (T := pr) (a := x) (b := y) hp1.1 fun h2 hP2 hs2 => ?_)
    have hoff : ∀ p ∈ (r, listOf vs.toArray n) :: news, p.1 ≠ pr := fun p hp => by
      rcases List.mem_cons.mp hp with rfl | hp
      · exact hrP
      · exact hdP p hp
    have F2 := fr_same F' hp1.2.1 hp1.2.2 hs2
    have N2 : News h₀ L h2 ((I, oI') :: (pr, pairObj (.ref r) y) :: (r, listOf vs.toArray n) :: news) :=
      News.setAt (own := [(I, oI')]) N' (fun p hp => by rw [List.mem_singleton.mp hp]; exact hIP) hoff hs2 hP2
    refine wpAny_bind (wpAny_letGo ?_)
    have hp2 := N2 (pr, pairObj (.ref r) y) (.tail _ (.head _))
    refine wpAny_bind (wpAny_updateSeq_pair (T := pr) (a := .ref r) (b := y) hp2.1 fun h3 hP3 hs3 => ?_)
    have F3 := fr_same F2 hp2.2.1 hp2.2.2 hs3
    have N3 : News h₀ L h3 ((I, oI') :: (pr, pairObj (.ref r) (.int ((all[i] : Nat) : Int) tu)) :: (r, listOf vs.toArray n) :: news) :=
      News.setAt (own := [(I, oI')]) N2 (fun p hp => by rw [List.mem_singleton.mp hp]; exact hIP) hoff hs3 hP3
    refine wpAny_bind (wpAny_letGo ?_)
    have hfv : (Option.getD (some yo) #[]).getD 0 Value.none = .ref f := by
      rw [Option.getD_some, Array.getD_eq_getD_getElem?, hy0]; rfl
    rw [hfv]
    have hpow : 2 ^ (all.length - i) = 2 * 2 ^ (all.length - (i + 1)) := by
      rw [show all.length - i = (all.length - (i + 1)) + 1 by omega, Nat.pow_succ]; omega
    have hle : ns.length ≤ 128 := by
      rw [hpow] at hsz
      have h1 : 1 ≤ 2 ^ (all.length - (i + 1)) := Nat.one_le_two_pow
      have h2 : ns.length * 2 ≤ ns.length * (2 * 2 ^ (all.length - (i + 1))) := Nat.mul_le_mul_left _ (by omega)
      omega
    refine wpAny_bind (hlam r vs ns all[i] tu hvs hle dp (un + 1) gd cn cs a ccd cl outer A₀ base h₀ L mF _ { s with heap := h3 } _ _ B F3 X N3 TT hk hdp hun ⟨(N3 _ (.tail _ (.tail _ (.tail _ hf)))).1, hcv _ (fun p hp => N3 p (.tail _ (.tail _ (.tail _ hp)))) F3.keep, ⟨_, (N3 _ (.tail _ (.tail _ (.head _)))).1, rfl, _, rfl⟩⟩ fun v nx h4 tk4 hv F4 N4 D4 => ?_)
    obtain ⟨R, ws, rfl, rfl, hws⟩ := hv
    refine wpAny_pure ?_
    refine ⟨plainId_quiet rdl_plain _, ?_⟩
    have hRI : R ≠ I := fun e => D4 (I, oI') (.head _) _ (.head _) e.symm
    have hRP : R ≠ pr := fun e => D4 (pr, pairObj (.ref r) (.int ((all[i] : Nat) : Int) tu)) (.tail _ (.head _)) _ (.head _) e.symm
    have N5 : News h₀ L h4 ((I, oI') :: (pr, pairObj (.ref r) (.int ((all[i] : Nat) : Int) tu)) :: (R, listOf ws.toArray 0) :: news) := fun p hp => by
      rcases List.mem_cons.mp hp with rfl | hp
      · exact N4 _ (.tail _ (.head _))
      · rcases List.mem_cons.mp hp with rfl | hp
        · exact N4 _ (.tail _ (.tail _ (.head _)))
        · rcases List.mem_cons.mp hp with rfl | hp
          · exact N4 _ (.head _)
          · exact N4 _ (.tail _ (.tail _ (.tail _ (.tail _ hp))))
    refine ih (i + 1) R ws (addRow ns all[i]) 0 oI' _ _ { s with heap := h4, toks := tk4 } (by omega) (by omega) hg hdr hos F4 N5 ⟨oI', (N5 _ (.head _)).1, hcI', hdI'⟩ hRI hRP hws ?_ ?_
    · unfold addRow
      rw [List.length_append, List.length_map]
      rw [hpow] at hsz
      rw [show (ns.length + ns.length) * 2 ^ (all.length - (i + 1)) = ns.length * (2 * 2 ^ (all.length - (i + 1))) by rw [← Nat.mul_two, Nat.mul_assoc]]
      exact hsz
    · intro R' ws' n' h' tk' F6 N6 hw
      refine hQ R' ws' n' h' tk' F6 N6 ?_
      rw [List.drop_eq_getElem_cons hlt, List.foldl_cons]
      exact hw

theorem reduce_gives (hlam : LamDoes prog w K p loose mean mg mb D f FO CV q) (B : Below A₀ base outer h₀) (X : K.In h₀) (TT : Top p loose mean mg mb h₀) (hk : cs.kind = .function) (hdp : dp + D < recursionLimit) (hun : un + 1 + 8 * D < cLine)
    {lst ini : Addr} {vl vi : List Value} {all : List Nat} {news : List (Addr × Obj)} {E : Value → Shared → Prop} {Q : Value → Shared → Prop} {s : Shared}
    (F : Fr h₀ L s.heap mF) (N : News h₀ L s.heap news)
    (hf : (f, FO) ∈ news) (hlst : ∃ o, (lst, o) ∈ news ∧ o.cls = .type "list" ∧ ∃ n, o.data = .seq vl.toArray n) (hvl : IntsAre vl (castL all)) (hini : ∃ n, (ini, listOf vi.toArray n) ∈ news) (hvi : IntsAre vi (castL [0])) (hcv : ∀ h, News h₀ L h news → (∀ b o, h₀.get? b = some o → h.get? b = some o) → h.CodeRec CV q)
    (h8 : all.length ≤ 8)
    (hQ : ∀ R ws n' h' tk', Fr h₀ L h' mF → News h₀ L h' ((R, listOf ws.toArray n') :: news) → IntsAre ws (castL (all.foldl addRow [0])) → Q (.ref R) { s with heap := h', toks := tk' }) :
    wpAny (model prog w) (ktrTop dp un gd cn cs L a ccd cl outer) (call (.builtin "_functools.reduce") [.ref f, .ref lst, .ref ini]) Q E s := by
  refine call_function_tree rd_kind rd_plain rd_entry (rd_args _ _ _) ?_
  obtain ⟨lo, hlo, hlc, nl, hld⟩ := id hlst
  obtain ⟨ni, hin⟩ := id hini
  show wpAny _ _ (someArgs "reduce" 2 3 ⟨[.ref f, .ref lst, .ref ini], []⟩ >>= _) _ _ s
  refine wpAny_bind (wpAny_of_eq (a := [.ref f, .ref lst, .ref ini]) (by kernel_rfl) ?_)
  dsimp only
  refine wpAny_bind (wpAny_tryCatch ?_)
  refine wpAny_pyIter_list (l := lst) ⟨lo, (N _ hlo).1, hlc, nl, hld⟩ ?_
  have F1 := F.push ({ cls := .type "list_iterator", data := .fields #[.ref lst, .int 0 0] } : Obj)
  have N1 := News.push F N ({ cls := .type "list_iterator", data := .fields #[.ref lst, .int 0 0] } : Obj)
  refine wpAny_bind (wpAny_holding (wpAny_newTuple ?_))
  have F2 := F1.push (pairObj (rawInt 0) (rawInt 0))
  have N2 := News.push F1 N1 (pairObj (rawInt 0) (rawInt 0))
  refine wpAny_bind (wpAny_holding (wpAny_newTuple ?_))
  have F3 := F2.push (tupObj #[.ref f, .ref lst, .ref ini])
  have N3 := News.push F2 N2 (tupObj #[.ref f, .ref lst, .ref ini])
  refine wpAny_pure ⟨plainId_quiet rdl_plain _, ?_⟩
  generalize hI : s.heap.objs.size = I at *
  generalize hh1 : s.heap.push ({ cls := .type "list_iterator", data := .fields #[.ref lst, .int 0 0] } : Obj) = h1 at *
  generalize hpr : h1.objs.size = pr at *
  generalize hh2 : h1.push (pairObj (rawInt 0) (rawInt 0)) = h2 at *
  generalize how : h2.objs.size = ow at *
  have hlt1 : I < pr := by rw [← hpr, ← hh1, Heap.size_push, hI]; omega
  have hlt2 : pr < ow := by rw [← how, ← hh2, Heap.size_push, hpr]; omega
  have hold : ∀ r ∈ news, r.1 < I := fun r hr => by rw [← hI]; exact Heap.lt_size (N r hr).1
  have hmi := hold _ hin
  refine reduce_loop (news := (ow, tupObj #[.ref f, .ref lst, .ref ini]) :: news) (E := E) (Q := Q) (s0 := s) hlam B X TT hk hdp hun (.tail _ hf) ⟨lo, .tail _ hlo, hlc, nl, hld⟩ hvl ⟨_, .head _, rfl⟩ (fun h hn kk => hcv h (fun p hp => hn p (.tail _ hp)) kk) ?_ ?_ (Nat.ne_of_lt hlt1)
    all.length 0 ini vi [0] ni { cls := .type "list_iterator", data := .fields #[.ref lst, .int 0 0] } (rawInt 0) (rawInt 0) _ rfl (Nat.zero_le _) rfl rfl rfl F3 ?_ ?_ (Nat.ne_of_lt hmi) (Nat.ne_of_lt (Nat.lt_trans hmi hlt1)) hvi ?_ ?_
  · intro r hr
    rcases List.mem_cons.mp hr with rfl | hr
    · exact Nat.ne_of_gt (Nat.lt_trans hlt1 hlt2)
    · exact Nat.ne_of_lt (hold r hr)
  · intro r hr
    rcases List.mem_cons.mp hr with rfl | hr
    · exact Nat.ne_of_gt hlt2
    · exact Nat.ne_of_lt (Nat.lt_trans (hold r hr) hlt1)
  · exact fun p hp => by
      rcases List.mem_cons.mp hp with rfl | hp
      · exact N3 _ (.tail _ (.tail _ (.head _)))
      · rcases List.mem_cons.mp hp with rfl | hp
        · exact N3 _ (.tail _ (.head _))
        · rcases List.mem_cons.mp hp with rfl | hp
          · exact N3 _ (.tail _ (.tail _ (.tail _ hin)))
          · rcases List.mem_cons.mp hp with rfl | hp
            · exact N3 _ (.head _)
            · exact N3 _ (.tail _ (.tail _ (.tail _ hp)))
  · exact ⟨_, (N3 _ (.tail _ (.tail _ (.head _)))).1, rfl, rfl⟩
  · show 1 * 2 ^ (all.length - 0) ≤ 256
    have : 2 ^ (all.length - 0) ≤ 2 ^ 8 := Nat.pow_le_pow_right (by decide) (by omega)
    omega
  · intro R ws n' h' tk' F6 N6 hw
    exact hQ R ws n' h' tk' F6 (fun p hp => by
      rcases List.mem_cons.mp hp with rfl | hp
      · exact N6 _ (.head _)
      · exact N6 _ (.tail _ (.tail _ hp))) hw
end
end
section
abbrev tabs3 (a b c : Array Value) : List (Addr × Obj) := [(168, tabObj a), (173, tabObj b), (191, tabObj c)]
def Codes (h : Heap) : Prop := CodeHd h 170 168 ∧ CodeHd h 175 173 ∧ CodeHd h 195 191
theorem Codes.keeps {h h' : Heap} (x : Codes h) (k : ∀ b o, h.get? b = some o → h'.get? b = some o) : Codes h' := ⟨x.1.keeps k, x.2.1.keeps k, x.2.2.keeps k⟩
/-- a def's table of the code that it has made so far: its code objects lie in the ledger -/
def TabL (q : Str) (ps : Array Value) (led : List (Addr × Obj)) : Prop :=
  TriplesOk ps.toList ∧ ∀ pos v, codeAmong pos ps.toList = some v → ∃ c' oc vs t, v = .ref c' ∧ (c', oc) ∈ led ∧ oc.data = .fields vs ∧ vs[1]? = some (.str q t)
theorem TabL.more {q : Str} {ps : Array Value} {led led' : List (Addr × Obj)} (x : TabL q ps led) (h : ∀ p ∈ led, p ∈ led') : TabL q ps led' :=
  ⟨x.1, fun pos v e => let ⟨c', oc, vs, t, a, b, r⟩ := x.2 pos v e; ⟨c', oc, vs, t, a, h _ b, r⟩⟩
theorem codeAmong_snoc_ne {pos pos' : Pos} {c v : Value} (h : ¬ (pos.line = pos'.line ∧ pos.col = pos'.col)) : ∀ (l : List Value), TriplesOk l → codeAmong pos' (l ++ [rawInt pos.line, rawInt pos.col, c]) = some v → codeAmong pos' l = some v := by
  intro l
  fun_induction TriplesOk l with
  | case1 =>
    intro _ e
    simp only [List.nil_append, rawInt, codeAmong] at e
    split at e
    · rename_i hh
      simp only [Bool.and_eq_true, beq_iff_eq] at hh
      exact absurd ⟨by omega, by omega⟩ h
    · cases e
  | case2 a t b u x rest ih =>
    intro ht e
    simp only [List.cons_append, codeAmong] at e ⊢
    split at e
    · rename_i hh; rw [if_pos hh]; exact e
    · rename_i hh; rw [if_neg hh]; exact ih ht e
  | case3 => intro ht; exact ht.elim
theorem TabL.snoc {q : Str} {ps : Array Value} {led led' : List (Addr × Obj)} {pos : Pos} {c' : Addr} {oc : Obj} {vs : Array Value} {t : Tok} (x : TabL q ps led) (h : ∀ p ∈ led, p ∈ led') (hn : codeAmong pos ps.toList = none) (hm : (c', oc) ∈ led') (hd : oc.data = .fields vs) (hv : vs[1]? = some (.str q t)) :
    TabL q (ps ++ #[rawInt pos.line, rawInt pos.col, .ref c']) led' := by
  have e : (ps ++ #[rawInt pos.line, rawInt pos.col, .ref c']).toList = ps.toList ++ [rawInt pos.line, rawInt pos.col, .ref c'] := by simp
  refine ⟨by rw [e]; exact TriplesOk_snoc _ _ _ _ x.1, fun pos' v hv' => ?_⟩
  rw [e] at hv'
  by_cases hp : pos.line = pos'.line ∧ pos.col = pos'.col
  · have h2 : codeAmong pos' (ps.toList ++ [rawInt pos.line, rawInt pos.col, .ref c']) = codeAmong pos (ps.toList ++ [rawInt pos.line, rawInt pos.col, .ref c']) := by
      obtain ⟨p1, p2, p3, p4⟩ := pos
      obtain ⟨r1, r2, r3, r4⟩ := pos'
      obtain ⟨h1, h2⟩ := hp
      dsimp only at h1 h2
      subst h1; subst h2
      have gen : ∀ l : List Value, codeAmong ⟨p1, p2, r3, r4⟩ l = codeAmong ⟨p1, p2, p3, p4⟩ l := by
        intro l
        fun_induction codeAmong (⟨p1, p2, p3, p4⟩ : Pos) l <;> simp_all [codeAmong]
      exact gen _
    rw [h2, codeAmong_snoc _ x.1 hn] at hv'
    cases hv'
    exact ⟨c', oc, vs, t, rfl, hm, hd, hv⟩
  · obtain ⟨c2, oc2, vs2, t2, a1, a2, r⟩ := x.2 pos' v (codeAmong_snoc_ne hp _ x.1 hv')
    exact ⟨c2, oc2, vs2, t2, a1, h _ a2, r⟩
/-- the same, told of a heap -/
def TabH (q : Str) (ps : Array Value) (h : Heap) : Prop := TriplesOk ps.toList ∧ ∀ pos v, codeAmong pos ps.toList = some v → ∃ c', v = .ref c' ∧ h.CodeRec v q

theorem byeT_back {h₀ : Heap} {L : Addr} {mF : Str → Option Value} {tabs news : List (Addr × Obj)} {R : Result → Shared → Prop} {v : Value} {s s' : Shared} (F : Fr h₀ L s.heap mF) (N : News h₀ L s.heap (tabs ++ news)) (hd : ∀ q ∈ news, ∀ r ∈ tabs, q.1 ≠ r.1)
    (h : Bye h₀ L mF (hideAll s.heap (tabs.map (·.1))) news R v s') : R (.ok (.ret v)) s' := by
  obtain ⟨L', m', nx, F', N', k⟩ := h
  have nm : ∀ b o, h₀.get? b = some o → b ∉ tabs.map (·.1) := fun b o e q => by
    obtain ⟨p, hp, rfl⟩ := List.mem_map.mp q
    have := (N p (List.mem_append_left _ hp)).2.2
    rw [this] at e; cases e
  have st : ∀ b o, h₀.get? b = some o → (hideAll s.heap (tabs.map (·.1))).get? b = some o := fun b o e => hideAll_get _ (F.keep b o e) (nm b o e)
  obtain ⟨oL, es, ep, hL, hLd, hLk, hLf⟩ := F.ns
  have nL : L ∉ tabs.map (·.1) := fun q => by
    obtain ⟨p, hp, e⟩ := List.mem_map.mp q
    exact (N p (List.mem_append_left _ hp)).2.1 e
  have hLg := hideAll_get (tabs.map (·.1)) hL nL
  have nn : ∀ q ∈ news, (hideAll s.heap (tabs.map (·.1))).get? q.1 = some q.2 := fun q hq => hideAll_get _ (N q (List.mem_append_right _ hq)).1 fun hm => by
    obtain ⟨r, hr, e⟩ := List.mem_map.mp hm
    exact hd q hq r hr e.symm
  refine k ⟨⟨oL, es, ep, F'.keep L oL hLg, hLd, hLk, hLf⟩, fun b o e => F'.keep b o (st b o e), F.above⟩ (fun q hq => ?_) (fun q hq r hr e => ?_)
  · rcases List.mem_append.mp hq with hq | hq
    · refine ⟨(N' q hq).1, fun e => ?_, ?_⟩
      · have := (N' q hq).2.2
        rw [e, hLg] at this; cases this
      · cases hx : h₀.get? q.1 with
        | none => rfl
        | some o => have := (N' q hq).2.2; rw [st _ _ hx] at this; cases this
    · exact ⟨F'.keep _ _ (nn q hq), (N q (List.mem_append_right _ hq)).2⟩
  · have h1 := nn q hq
    have h2 := (N' r hr).2.2
    rw [← e, h1] at h2; cases h2

section
variable {prog : Program} {w : World} {A₀ A : Around} {s : Shared} {base h₀ : Heap} {outer : List Env} {L : Addr} {mF : Str → Option Value} {env : Env} {tabs news : List (Addr × Obj)} {K : Frag} {p : Program} {loose : List Str} {mean : ExcName → Option Value} {mg mb : Str → Option Value}

theorem groundT (B : Below A₀ base outer h₀) (F : Fr h₀ L s.heap mF) (X : K.In h₀) (N : News h₀ L s.heap (tabs ++ news)) (TT : Top p loose mean mg mb h₀) (hA : A.frames = some (env :: outer)) (hf : env.frame = some L) (hke : env.scope.kind = .function) :
    Below A base (env :: outer) (hideAll s.heap (tabs.map (·.1))) ∧ (∀ b o, h₀.get? b = some o → (hideAll s.heap (tabs.map (·.1))).get? b = some o) := by
  have nm : ∀ b o, h₀.get? b = some o → b ∉ tabs.map (·.1) := fun b o e q => by
    obtain ⟨p, hp, rfl⟩ := List.mem_map.mp q
    have := (N p (List.mem_append_left _ hp)).2.2
    rw [this] at e; cases e
  have st : ∀ b o, h₀.get? b = some o → (hideAll s.heap (tabs.map (·.1))).get? b = some o := fun b o e => hideAll_get _ (F.keep b o e) (nm b o e)
  obtain ⟨oL, es, ep, hL, hLd, hLk, hLf⟩ := F.ns
  have nL : L ∉ tabs.map (·.1) := fun q => by
    obtain ⟨p, hp, e⟩ := List.mem_map.mp q
    exact (N p (List.mem_append_left _ hp)).2.1 e
  have B₁ := pushX B F hf hke
  refine ⟨⟨hA, fun b o e => st b o (B.stays b o e), funFrames_hideAll B₁.frames fun env' he b hb hf' => ?_⟩, st⟩
  cases he with
  | head => exact nL ((Option.some.inj (hf.symm.trans hf') : L = b) ▸ hb)
  | tail _ he =>
    obtain ⟨L₁, o₁, hf₁, ho₁⟩ := funFrames_in B.frames env' he
    rw [hf₁] at hf'
    exact nm L₁ o₁ ho₁ ((Option.some.inj hf' : L₁ = b) ▸ hb)

variable {R : Result → Shared → Prop} {name qual : Str} {params : Arguments} {body : List Stmt} {scope : Scope} {dV kV doc pm cdv ct oc : Value} {an od : Option Addr} {osl : Array (Option Value)} {f : Addr} {args : Args} {binds : List (Str × Value)}
/-- as enterK, the tables in the ledger -/
theorem enterKT (B : Below A₀ base outer h₀) (F : Fr h₀ L s.heap mF) (X : K.In h₀) (N : News h₀ L s.heap (tabs ++ news)) (hdis : ∀ q ∈ news, ∀ r ∈ tabs, q.1 ≠ r.1) (TT : Top p loose mean mg mb h₀) (hA : A.frames = some (env :: outer)) (hf : env.frame = some L) (hke : env.scope.kind = .function)
    (ho : K.lookup f = some ⟨oc, od, .func (fnOf name qual params body scope dV kV doc pm an cdv ct), osl⟩) (hcd : codeIn K cdv qual = true) (hroom : A.depth < recursionLimit)
    (hbind : BindsTo s (fnOf name qual params body scope dV kV doc pm an cdv ct) args binds) (hloc : ∀ y ∈ binds, scope.names.lookup y.1 = some .local)
    (h : ∀ g L' h₁, (∀ b o, h₀.get? b = some o → g.get? b = some o) → (∀ q ∈ news, g.get? q.1 = some q.2) → g = hideAll s.heap (tabs.map (·.1)) → Fr g L' h₁ (fun y => binds.reverse.lookup y) → News g L' h₁ tabs → Below A base (env :: outer) g → K.In g → Top p loose mean mg mb g →
      wpAny (model prog w) (A.deeper (envOf qual scope L' f cdv)) (execs body (envOf qual scope L' f cdv))
        (fun fl s' => Bye h₀ L mF g news R (match fl with | .ret v => v | _ => .none) s')
        (fun e s' => wpAny (model prog w) (A.deeper (envOf qual scope L' f cdv)) (leaving (envOf qual scope L' f cdv) e) (fun _ s'' => R (.error e) s'') (fun e' s'' => R (.error e') s'') s')
        { s with heap := h₁, toks := s.toks + binds.length })
    (hco : scope.isCoroutine = false) (hgen : scope.isGenerator = false) (hk : scope.kind = .function) (hcell : ∀ x ∈ scope.names, x.2 ≠ .cell) : codeAny (model prog w) A (.call (.ref f) args) R s := by
  obtain ⟨BG, st⟩ := groundT B F X N TT hA hf hke
  have nn : ∀ q ∈ news, (hideAll s.heap (tabs.map (·.1))).get? q.1 = some q.2 := fun q hq => hideAll_get _ (N q (List.mem_append_right _ hq)).1 fun hm => by
    obtain ⟨r, hr, e⟩ := List.mem_map.mp hm
    exact hdis q hq r hr e.symm
  refine codeAny_call_def (fd := fnOf name qual params body scope dV kV doc pm an cdv ct) (body := body) (binds := binds) hroom ((X.keeps F.keep) _ _ ho) rfl (TT.nolimit.keeps F.keep) (codeRec_of (X.keeps F.keep) hcd) rfl hbind hcell hloc (fun h₁ hns hk₁ => ?_) hco hgen hk
  refine wpAny_mono (h _ s.heap.objs.size h₁ st nn rfl ⟨hns, fun b o e => hk₁ b o (of_hideAll _ e), Nat.le_of_eq (hideAll_size _ _)⟩ (fun p hp => ⟨hk₁ _ _ (N p (List.mem_append_left _ hp)).1, Nat.ne_of_lt (Heap.lt_size (N p (List.mem_append_left _ hp)).1), hideAll_none _ (List.mem_map_of_mem hp)⟩) BG (X.keeps st) (TT.keeps st)) (fun fl s' hl => byeT_back F N hdis hl) fun _ _ y => y

theorem enterKTC (B : Below A₀ base outer h₀) (F : Fr h₀ L s.heap mF) (X : K.In h₀) (N : News h₀ L s.heap (tabs ++ news)) (hdis : ∀ q ∈ news, ∀ r ∈ tabs, q.1 ≠ r.1) (TT : Top p loose mean mg mb h₀) (hA : A.frames = some (env :: outer)) (hf : env.frame = some L) (hke : env.scope.kind = .function)
    (ho : K.lookup f = some ⟨oc, od, .func (fnOf name qual params body scope dV kV doc pm an cdv ct), osl⟩) (hcd : codeIn K cdv qual = true) (hroom : A.depth < recursionLimit)
    (hbind : BindsTo s (fnOf name qual params body scope dV kV doc pm an cdv ct) args binds)
    (hkind : (binds.all fun y => scope.names.lookup y.1 == some .local || scope.names.lookup y.1 == some .cell) = true)
    (hnd : ((cellsFrom 0 scope.names []).map (·.1)).Nodup)
    (h : ∀ g L' h₁ tk cells, (∀ b o, h₀.get? b = some o → g.get? b = some o) → (∀ q ∈ news, g.get? q.1 = some q.2) → g = hideAll s.heap (tabs.map (·.1)) → Fr g L' h₁ (bindL (envOfC qual scope L' f cdv).kindOf binds fun _ => none) → News g L' h₁ (cells ++ tabs) →
      CellsAre (bindC (envOfC qual scope L' f cdv).kindOf binds fun _ => none) (cellsFrom (L' + 1) scope.names []) cells → Below A base (env :: outer) g → K.In g → Top p loose mean mg mb g → (∀ p ∈ tabs, p.1 < L') →
      wpAny (model prog w) (A.deeper (envOfC qual scope L' f cdv)) (execs body (envOfC qual scope L' f cdv))
        (fun fl s' => Bye h₀ L mF g news R (match fl with | .ret v => v | _ => .none) s')
        (fun e s' => wpAny (model prog w) (A.deeper (envOfC qual scope L' f cdv)) (leaving (envOfC qual scope L' f cdv) e) (fun _ s'' => R (.error e) s'') (fun e' s'' => R (.error e') s'') s')
        { s with heap := h₁, toks := tk })
    (hco : scope.isCoroutine = false) (hgen : scope.isGenerator = false) (hk : scope.kind = .function) : codeAny (model prog w) A (.call (.ref f) args) R s := by
  obtain ⟨BG, st⟩ := groundT B F X N TT hA hf hke
  have nn : ∀ q ∈ news, (hideAll s.heap (tabs.map (·.1))).get? q.1 = some q.2 := fun q hq => hideAll_get _ (N q (List.mem_append_right _ hq)).1 fun hm => by
    obtain ⟨r, hr, e⟩ := List.mem_map.mp hm
    exact hdis q hq r hr e.symm
  refine codeAny_call_function hroom ((X.keeps F.keep) _ _ ho) rfl hco hgen rfl (codeRec_of (X.keeps F.keep) hcd) (hbind _ _ _ _ ?_)
  refine wpAny_newFunctionEnv_cells hk (kindsX hkind _) fun env' he s' x => ?_
  subst he
  refine ⟨(TT.nolimit.keeps F.keep).keeps x.toInCall.keep, codeAny_func ?_⟩
  obtain ⟨h₁, tk, rfl, _⟩ := x.done
  have hk₁ := x.toInCall.keep
  obtain ⟨cells, NC, Y⟩ := Cl.news (h₀ := s.heap) (Nat.le_refl _) fun n c hm => ⟨x.cell n c (lookup_of_mem_nodup (cellsFrom_names scope.names 0 (s.heap.objs.size + 1) [] [] rfl ▸ hnd) hm), x.above n c hm⟩
  refine wpAny_mono (h _ s.heap.objs.size h₁ tk cells st nn rfl ⟨x.toInCall.ns, fun b o e => hk₁ b o (of_hideAll _ e), Nat.le_of_eq (hideAll_size _ _)⟩ (fun p hp => ?_) Y BG (X.keeps st) (TT.keeps st) (fun p hp => Heap.lt_size (N p (List.mem_append_left _ hp)).1)) (fun fl s' hl => byeT_back F N hdis hl) fun _ _ y => y
  rcases List.mem_append.mp hp with hp | hp
  · refine ⟨(NC p hp).1, (NC p hp).2.1, ?_⟩
    cases q : (hideAll s.heap (tabs.map (·.1))).get? p.1 with
    | none => rfl
    | some o => have := of_hideAll _ q; rw [(NC p hp).2.2] at this; cases this
  · exact ⟨hk₁ _ _ (N p (List.mem_append_left _ hp)).1, Nat.ne_of_lt (Heap.lt_size (N p (List.mem_append_left _ hp)).1), hideAll_none _ (List.mem_map_of_mem hp)⟩
end

section
variable {prog : Program} {w : World} {A₀ A : Around} {s : Shared} {base h₀ : Heap} {outer : List Env} {L : Addr} {mF : Str → Option Value} {env : Env} {news : List (Addr × Obj)} {K : Frag} {p : Program} {loose : List Str} {mean : ExcName → Option Value} {mg mb : Str → Option Value}
  {R : Result → Shared → Prop} {name qual : Str} {params : Arguments} {body : Expr} {scope : Scope} {pm cdv ct : Value} {fo : Obj} {f : Addr} {args : Args} {binds : List (Str × Value)}
/-- a lambda with cells of its own is entered: all that stands is the ground -/
theorem enterLC (B : Below A₀ base outer h₀) (F : Fr h₀ L s.heap mF) (X : K.In h₀) (N : News h₀ L s.heap news) (TT : Top p loose mean mg mb h₀) (hA : A.frames = some (env :: outer)) (hf : env.frame = some L) (hke : env.scope.kind = .function)
    (ho : s.heap.get? f = some fo) (hd : fo.data = .func (kla_fn name qual params body scope [] pm cdv ct)) (hcd : s.heap.CodeRec cdv qual) (hroom : A.depth < recursionLimit)
    (hbind : bindArgs (kla_fn name qual params body scope [] pm cdv ct) args = pure binds)
    (hkind : (binds.all fun y => scope.names.lookup y.1 == some .local || scope.names.lookup y.1 == some .cell) = true)
    (hnd : ((cellsFrom 0 scope.names []).map (·.1)).Nodup)
    (h : ∀ L' h₁ tk cells, Fr s.heap L' h₁ (bindL (envOfC qual scope L' f cdv).kindOf binds fun _ => none) → News s.heap L' h₁ cells →
      CellsAre (bindC (envOfC qual scope L' f cdv).kindOf binds fun _ => none) (cellsFrom (L' + 1) scope.names []) cells → Below A base (env :: outer) s.heap → K.In s.heap → Top p loose mean mg mb s.heap →
      wpAny (model prog w) (A.deeper (envOfC qual scope L' f cdv)) (eval body (envOfC qual scope L' f cdv))
        (fun v s' => Bye h₀ L mF s.heap news R v s')
        (fun e s' => wpAny (model prog w) (A.deeper (envOfC qual scope L' f cdv)) (leaving (envOfC qual scope L' f cdv) e) (fun _ s'' => R (.error e) s'') (fun e' s'' => R (.error e') s'') s')
        { s with heap := h₁, toks := tk })
    (hco : scope.isCoroutine = false) (hgen : scope.isGenerator = false) (hk : scope.kind = .function) : codeAny (model prog w) A (.call (.ref f) args) R s := by
  have B₁ := pushX B F hf hke
  refine kla_callFunE hroom ho hd hco hgen rfl hcd ?_
  rw [hbind]
  refine wpAny_pure (wpAny_newFunctionEnv_cells hk (kindsX hkind _) fun env' he s' x => ?_)
  subst he
  refine ⟨(TT.nolimit.keeps F.keep).keeps x.toInCall.keep, ?_⟩
  obtain ⟨h₁, tk, rfl, _⟩ := x.done
  have hk₁ := x.toInCall.keep
  obtain ⟨cells, NC, Y⟩ := Cl.news (h₀ := s.heap) (Nat.le_refl _) fun n c hm => ⟨x.cell n c (lookup_of_mem_nodup (cellsFrom_names scope.names 0 (s.heap.objs.size + 1) [] [] rfl ▸ hnd) hm), x.above n c hm⟩
  exact kla_codeExpr (wpAny_mono (h s.heap.objs.size h₁ tk cells ⟨x.toInCall.ns, hk₁, Nat.le_refl _⟩ NC Y ⟨hA, B₁.stays, B₁.frames⟩ (X.keeps F.keep) (TT.keeps F.keep)) (fun v s' hl => bye_back F N hl) fun _ _ y => y)
end

abbrev qLam : Str := Str.ofString "_mkTable.<locals>.<lambda>"
abbrev qLamR : Str := Str.ofString "_mkTable_r.<locals>.<lambda>"
abbrev qFun : Str := Str.ofString "_mkCrcFun.<locals>.crcfun"
def Tabs3 (a b c : Array Value) (led : List (Addr × Obj)) : Prop := TabL qLam a led ∧ TabL qLamR b led ∧ TabL qFun c led
theorem Tabs3.more {a b c : Array Value} {led led' : List (Addr × Obj)} (x : Tabs3 a b c led) (h : ∀ p ∈ led, p ∈ led') : Tabs3 a b c led' := ⟨x.1.more h, x.2.1.more h, x.2.2.more h⟩
/-- what a call gives back that may make code -/
def GivesT (w : World) (p : Program) (loose : List Str) (mean : ExcName → Option Value) (mg mb : Str → Option Value) (D : Nat) (f : Addr) (args : List Value) (post : Value → List (Addr × Obj) → List (Addr × Obj) → Prop) : Prop :=
  ∀ (dp un : Nat) (gd : Option (List Code)) (cn : Str) (cs : Scope) (ad : Addr) (ccd : Value) (cl : List (Str × Addr)) (outer : List Env) (A₀ : Around) (base h₀ : Heap) (L : Addr) (mF : Str → Option Value) (a b c : Array Value) (news old : List (Addr × Obj)) (s : Shared) (Q E : Value → Shared → Prop),
    Below A₀ base outer h₀ → Fr h₀ L s.heap mF → (hd.heap_39 w.params).In h₀ → News h₀ L s.heap (tabs3 a b c ++ news) → (∀ q ∈ old, h₀.get? q.1 = some q.2) → (∀ q ∈ news, ∀ r ∈ tabs3 a b c, q.1 ≠ r.1) → Codes h₀ → Tabs3 a b c (news ++ old) → Top p loose mean mg mb h₀ → cs.kind = .function → dp + D < recursionLimit → un + 8 * D < cLine →
    (∀ v nx a' b' c' h' tk', post v nx (news ++ old) → Fr h₀ L h' mF → News h₀ L h' (tabs3 a' b' c' ++ (nx ++ news)) → (∀ q ∈ nx ++ news, ∀ r ∈ tabs3 a' b' c', q.1 ≠ r.1) → Tabs3 a' b' c' (nx ++ news ++ old) → Q v { s with heap := h', toks := tk' }) →
    wpAny (model PySem.Challenge.rw_eg5007_01.row.prog w) (ktrTop dp un gd cn cs L ad ccd cl outer) (call (.ref f) args) Q E s

theorem both_in {h₀ g : Heap} {news old : List (Addr × Obj)} (nn : ∀ q ∈ news, g.get? q.1 = some q.2) (st : ∀ b o, h₀.get? b = some o → g.get? b = some o) (ho : ∀ q ∈ old, h₀.get? q.1 = some q.2) : ∀ q ∈ news ++ old, g.get? q.1 = some q.2 :=
  fun q hq => (List.mem_append.mp hq).elim (nn q) fun h => st _ _ (ho q h)
end
section
/-- a list comprehension over a tuple of the ledger -/
def TupAtL (h₀ : Heap) (ax : Addr) (its : Array Value) (news : List (Addr × Obj)) : Prop := h₀.IsTuple ax its ∨ ∃ o, (ax, o) ∈ news ∧ o.cls = .type "tuple" ∧ ∃ n, o.data = .seq its n
theorem TupAtL.tup {h₀ h : Heap} {L ax : Addr} {its : Array Value} {news : List (Addr × Obj)} (x : TupAtL h₀ ax its news) (k : ∀ b o, h₀.get? b = some o → h.get? b = some o) (N : News h₀ L h news) : h.IsTuple ax its := by
  rcases x with ⟨o, e, r⟩ | ⟨o, hm, hc, n, hd⟩
  · exact ⟨o, k _ _ e, r⟩
  · exact ⟨o, (N _ hm).1, hc, n, hd⟩
def TupSrc (prog : Program) (w : World) (A : Around) (h₀ : Heap) (L : Addr) (m : Str → Option Value) (env : Env) (elt : Expr) (x : Str) (scope : Scope) (cl : List (Str × Addr)) (Fin : Shared → List Value → List (Addr × Obj) → Prop) (xv : Value) (s₁ : Shared) : Prop :=
  ∃ ax its news, xv = .ref ax ∧ A.handled = none ∧ Fr h₀ L s₁.heap m ∧ News h₀ L s₁.heap news ∧ TupAtL h₀ ax its news ∧ its.size ≤ sizeLine ∧
    ∀ s₂ : Shared, (∃ h, s₂ = { s₁ with heap := h }) → LCg.CompRest prog w A h₀ L m env elt x scope cl s₂ (TupAtL h₀ ax its) (fun i v => its[i]? = some v) (Fin s₂) its.size 0 [] news
theorem TupSrc.ledger {prog : Program} {w : World} {A : Around} {h₀ : Heap} {L : Addr} {m : Str → Option Value} {env : Env} {elt : Expr} {x : Str} {scope : Scope} {cl : List (Str × Addr)} {Fin : Shared → List Value → List (Addr × Obj) → Prop} {ax : Addr} {its : Array Value} {k : Nat} {news : List (Addr × Obj)} {s₁ : Shared}
    (hh : A.handled = none) (F : Fr h₀ L s₁.heap m) (N : News h₀ L s₁.heap news) (hm : (ax, ({ cls := .type "tuple", data := .seq its k } : Obj)) ∈ news) (hsz : its.size ≤ sizeLine)
    (h : ∀ g, LCg.CompRest prog w A h₀ L m env elt x scope cl { s₁ with heap := g } (TupAtL h₀ ax its) (fun i v => its[i]? = some v) (Fin { s₁ with heap := g }) its.size 0 [] news) :
    TupSrc prog w A h₀ L m env elt x scope cl Fin (.ref ax) s₁ := ⟨ax, its, news, rfl, hh, F, N, .inr ⟨_, hm, rfl, _, rfl⟩, hsz, fun _ ⟨g, e⟩ => e ▸ h g⟩
theorem tup_st {h₀ : Heap} {L ax I : Addr} {its : Array Value} : ∀ i (h h' : Heap) (o : Obj) (nw : List (Addr × Obj)), (h.IsTupleIter I ax i ∧ h.IsTuple ax its) → h.get? I = some o → h'.get? I = some o → (∀ b o, h₀.get? b = some o → h'.get? b = some o) → News h₀ L h' nw → TupAtL h₀ ax its nw → (h'.IsTupleIter I ax i ∧ h'.IsTuple ax its) :=
  fun i h h' o nw st e e' k N S => ⟨by obtain ⟨o', q, r⟩ := st.1; rw [e] at q; cases q; exact ⟨o, e', r⟩, S.tup k N⟩
theorem ListComp_T {prog : Program} {w : World} {A : Around} {E : Value → Shared → Prop} {s : Shared} {h₀ : Heap} {L : Addr} {m : Str → Option Value} {env : Env} {elt : Expr} {elts : List Expr} {kt : _} {pt : Pos} {x : Str} {px : Pos} {scope : Scope} {cl : List (Str × Addr)} {pos : Pos} {Q : Value → Shared → Prop} (_F : Fr h₀ L s.heap m)
    (hclos : closureFor scope env = pure cl) (hcell : ∀ y ∈ scope.names, y.2 ≠ .cell) (hkind : scope.kind = .function)
    (hnames : ∀ y ∈ scope.names, y.2 = .local → scope.names.lookup y.1 = some .local) (hx : scope.names.lookup x = some .local)
    (h : wpAny (model prog w) A (eval (.Tuple elts kt pt) env) (TupSrc prog w A h₀ L m env elt x scope cl (fun s₂ => LCg.FinE h₀ L m s₂ Q)) E s)
    (hs : ∀ x, foldedSetIterable (.Tuple elts kt pt) env x = pure x := by intro _; rfl) :
    wpAny (model prog w) A (eval (.ListComp elt [⟨.Name x px, .Tuple elts kt pt, [], 0⟩] scope pos) env) Q E s := by
  rw [eval_ListComp]
  refine wpAny_comprehension_free (use := none) rfl hs hclos hkind hnames (wpAny_mono h (fun xv s₁ h₁ => ?_) fun _ _ e => e)
  obtain ⟨ax, its, news, rfl, hh, F, N, S, hsz, R⟩ := h₁
  have hl := S.tup F.keep N
  have hlt : ax < s₁.heap.objs.size := by obtain ⟨_, e, _⟩ := hl; exact Heap.lt_size e
  refine wpAny_pyIter_tuple hl ?_
  have up : ∀ b o, s₁.heap.get? b = some o → (s₁.heap.push { cls := .type "tuple_iterator", data := .fields #[.ref ax, .int 0 0] }).get? b = some o := fun b o e => Heap.get?_push_of_some _ e
  refine LCg.block_U (Walks.tuple hh s₁.heap.objs.size ax (Nat.ne_of_lt hlt) its) hsz (fun i h st => by obtain ⟨o, e, _⟩ := st.1; exact ⟨o, e⟩) tup_st hcell hkind hx ⟨⟨_, Heap.get?_push_size _ rfl, rfl, rfl⟩, hl.push _⟩ (fun b hb => ?_)
    (F.keeps up) (N.grown up) (Nat.ne_of_lt F.ns.lt) (next_is_new F) (fun p hp => Nat.ne_of_lt (Heap.lt_size (N p hp).1)) S (R _ ⟨_, rfl⟩) ?_
  · show b < (s₁.heap.push _).objs.size
    rw [Heap.size_push]
    rcases List.mem_cons.mp hb with rfl | hb
    · exact Nat.lt_succ_self _
    · rw [List.mem_singleton.mp hb]; exact Nat.lt_succ_of_lt hlt
  · intro D C h tk m' ys news' F' N' o1 hn hC₀ hD₀ hCL hDL hCD offC fin
    refine ⟨m', hn, fun h'' hs'' => fin D h'' tk (F'.change hs'' hCL hC₀) (fun p hp => ?_) o1⟩
    refine ⟨hs''.extBut _ _ ?_ (N' p hp).1, (N' p hp).2⟩
    rcases List.mem_cons.mp hp with rfl | hp
    · exact Ne.symm hCD
    · exact offC p hp
theorem tc_list {prog : Program} {w : World} {A : Around} {h₀ : Heap} {L : Addr} {m : Str → Option Value} {env : Env} {elt : Expr} {x : Str} {scope : Scope} {cl : List (Str × Addr)} {s : Shared} {S : List (Addr × Obj) → Prop} {Fin : List Value → List (Addr × Obj) → Prop} {news : List (Addr × Obj)} {vs : List Value} {ns : List Nat} (g : Nat → Nat) (hb : ∀ k ∈ ns, k < 2 ^ 64) (hi : IntsAre vs (ns.map fun k : Nat => (k : Int)))
    (turn : ∀ (k : Nat) t I oI C oC D m₂ ys h tk (E' : Value → Shared → Prop), k ∈ ns → k < 2 ^ 64 → LCg.NsObj oC m₂ → m₂ x = some (.int (k : Int) t) → Fr h₀ L h m → News h₀ L h ((I, oI) :: (C, oC) :: (D, LCg.lst ys) :: news) → LCg.Off3 I C D news → ((@Ne Nat I C) ∧ (@Ne Nat I D) ∧ (@Ne Nat C D)) →
      wpAny (model prog w) A (eval elt (compEnvC scope cl C env)) (LCg.CompEnd h₀ L m { s with heap := h, toks := tk } I oI C oC D (LCg.lst ys) S (fun y news' => KCfEl news ((g k : Nat) : Int) y news')) E' { s with heap := h, toks := tk })
    (fin : ∀ ys, IntsAre ys ((ns.map g).map fun k : Nat => (k : Int)) → Fin ys news) : LCg.CompRest prog w A h₀ L m env elt x scope cl s S (fun i v => vs.toArray[i]? = some v) Fin vs.toArray.size 0 [] news :=
  kcf_list (fun k => ((g k.toNat : Nat) : Int)) hi (fun k t I oI C oC D m₂ ys h tk E' hk hC hx F N off ne _ => by
    obtain ⟨kn, hkn, rfl⟩ := List.mem_map.mp hk
    exact turn kn t I oI C oC D m₂ ys h tk E' hkn (hb kn hkn) hC hx F N off ne) (fun ys hy => fin ys (by simpa [List.map_map, Function.comp_def] using hy))
end
section
theorem UpdF.self {P : Addr} {o : Obj} {news : List (Addr × Obj)} {g : Obj → List (Addr × Obj)} (U : UpdF P o news g) : g o = news := by
  obtain ⟨own, rest, rfl, hgr, _, _⟩ := U.split
  rw [hgr]
theorem TabL.rec {q : Str} {ps : Array Value} {led : List (Addr × Obj)} {h : Heap} {pos : Pos} {v : Value} (x : TabL q ps led) (hl : ∀ r ∈ led, h.get? r.1 = some r.2) (e : codeAmong pos ps.toList = some v) : ∃ c', v = .ref c' ∧ h.CodeRec (.ref c') q := by
  obtain ⟨c', oc, vs, t, rfl, hm, hd, hv⟩ := x.2 pos v e
  exact ⟨c', rfl, c', oc, vs, t, rfl, hl _ hm, hd, hv⟩
section
variable {M : Model} {A : Around} {E : Value → Shared → Prop} {s : Shared} {h₀ : Heap} {L a c P : Addr} {m mg mb : Str → Option Value} {cn : Str} {cs : Scope} {ccd : Value} {cl : List (Str × Addr)} {news : List (Addr × Obj)} {g : Obj → List (Addr × Obj)}
  {p : Program} {loose : List Str} {mean : ExcName → Option Value} {name qual : Str} {params : Arguments} {scope : Scope} {ps : Array Value} {pos : Pos} {firstLine : Nat} {clos : List (Str × Addr)} {led : List (Addr × Obj)}
/-- a lambda's object, its code made or found -/
theorem lam_any {body : Expr} {Q : Value → Shared → Prop} (F : Fr h₀ L s.heap m) (N : News h₀ L s.heap news) (T : Top p loose mean mg mb h₀) (C : CodeHd h₀ c P) (hcd : ccd = .ref c) (U : UpdF P (tabObj ps) news g) (ht : TabL qual ps led)
    (hcl : closureFor scope (envX cn cs L a ccd cl) = pure clos)
    (h : ∀ f c' a' nx ctv h' tk, Fr h₀ L h' m →
      News h₀ L h' ((f, kla_obj name qual params body scope clos ((mg "__name__").getD .none) c' ctv) :: (g (tabObj a') ++ nx)) →
      (∀ hh : Heap, (∀ q ∈ nx ++ led, hh.get? q.1 = some q.2) → hh.CodeRec (.ref c') qual) → TabL qual a' (nx ++ led) → (∀ q ∈ nx, ∀ r ∈ news, r.1 < q.1) → (∀ q ∈ nx, q.1 < f) → (∀ q ∈ news, q.1 < f) → Q (.ref f) { s with heap := h', toks := tk }) :
    wpAny M A (makeFunction name qual params (.expr body) scope (envX cn cs L a ccd cl) [] [] [] pos firstLine) Q E s := by
  cases hca : codeAmong pos ps.toList with
  | none =>
    refine kla_nest F N T C hcd U ht.1 hca hcl fun f c' oc vs t ctv h' tk F' N' hd hv hlt hcf => ?_
    refine h f c' _ [(c', oc)] ctv h' tk F' (fun q hq => N' q ?_) (fun hh NN => ⟨c', oc, vs, t, rfl, NN (c', oc) (.head _), hd, hv⟩) (ht.snoc (fun r hr => List.mem_append_right _ hr) hca (.head _) hd hv) ?_ ?_ fun q hq => Nat.lt_trans (hlt q hq) hcf
    · rcases List.mem_cons.mp hq with rfl | hq
      · exact .head _
      · rcases List.mem_append.mp hq with hq | hq
        · exact .tail _ (.tail _ hq)
        · rw [List.mem_singleton.mp hq]; exact .tail _ (.head _)
    · intro q hq r hr
      rw [List.mem_singleton.mp hq]; exact hlt r hr
    · intro q hq
      rw [List.mem_singleton.mp hq]; exact hcf
  | some v =>
    obtain ⟨c', _, _, _, rfl, _⟩ := ht.2 pos v hca
    have hrec : ∀ hh : Heap, (∀ q ∈ led, hh.get? q.1 = some q.2) → hh.CodeRec (.ref c') qual := fun hh kk => by
      obtain ⟨c2, e2, r2⟩ := ht.rec kk hca
      cases e2; exact r2
    obtain ⟨own, rest, e, hgr, _, _⟩ := U.split
    refine kla_hit F N T C hcd (by rw [e]; exact List.mem_append_right _ (.head _)) ht.1 hca hcl fun f ctv h' tk F' N' hlt => ?_
    refine h f c' ps [] ctv h' tk F' (by rw [List.append_nil, UpdF.self U]; exact N') (fun hh kk => hrec hh kk) ht (fun _ hq => nomatch hq) (fun _ hq => nomatch hq) hlt
theorem def_any {body : FuncBody} {dV : Value} {Q : Value → Shared → Prop} (F : Fr h₀ L s.heap m) (N : News h₀ L s.heap news) (T : Top p loose mean mg mb h₀) (C : CodeHd h₀ c P) (hcd : ccd = .ref c) (U : UpdF P (tabObj ps) news g) (ht : TabL qual ps led)
    (hcl : closureFor scope (envX cn cs L a ccd cl) = pure clos)
    (h : ∀ f c' a' nx ctv doc h' tk, Fr h₀ L h' m →
      News h₀ L h' ((f, kdv_obj name qual params body scope clos dV doc ((mg "__name__").getD .none) c' ctv) :: (g (tabObj a') ++ nx)) →
      (∀ hh : Heap, (∀ q ∈ nx ++ led, hh.get? q.1 = some q.2) → hh.CodeRec (.ref c') qual) → TabL qual a' (nx ++ led) → (∀ q ∈ nx, ∀ r ∈ news, r.1 < q.1) → (∀ q ∈ nx, q.1 < f) → (∀ q ∈ news, q.1 < f) → Q (.ref f) { s with heap := h', toks := tk }) :
    wpAny M A (makeTail name qual params body scope (envX cn cs L a ccd cl) dV .none none pos firstLine) Q E s := by
  cases hca : codeAmong pos ps.toList with
  | none =>
    refine kdv_nest F N T C hcd U ht.1 hca hcl fun f c' oc vs t ctv doc h' tk F' N' hd hv hlt hcf => ?_
    refine h f c' _ [(c', oc)] ctv doc h' tk F' (fun q hq => N' q ?_) (fun hh NN => ⟨c', oc, vs, t, rfl, NN (c', oc) (.head _), hd, hv⟩) (ht.snoc (fun r hr => List.mem_append_right _ hr) hca (.head _) hd hv) ?_ ?_ fun q hq => Nat.lt_trans (hlt q hq) hcf
    · rcases List.mem_cons.mp hq with rfl | hq
      · exact .head _
      · rcases List.mem_append.mp hq with hq | hq
        · exact .tail _ (.tail _ hq)
        · rw [List.mem_singleton.mp hq]; exact .tail _ (.head _)
    · intro q hq r hr
      rw [List.mem_singleton.mp hq]; exact hlt r hr
    · intro q hq
      rw [List.mem_singleton.mp hq]; exact hcf
  | some v =>
    obtain ⟨c', _, _, _, rfl, _⟩ := ht.2 pos v hca
    have hrec : ∀ hh : Heap, (∀ q ∈ led, hh.get? q.1 = some q.2) → hh.CodeRec (.ref c') qual := fun hh kk => by
      obtain ⟨c2, e2, r2⟩ := ht.rec kk hca
      cases e2; exact r2
    obtain ⟨own, rest, e, hgr, _, _⟩ := U.split
    refine kdv_hit F N T C hcd (by rw [e]; exact List.mem_append_right _ (.head _)) ht.1 hca hcl fun f ctv doc h' tk F' N' hlt => ?_
    refine h f c' ps [] ctv doc h' tk F' (by rw [List.append_nil, UpdF.self U]; exact N') (fun hh kk => hrec hh kk) ht (fun _ hq => nomatch hq) (fun _ hq => nomatch hq) hlt
end
theorem tabs3_at {a b c a' b' c' : Array Value} {r : Addr × Obj} (h : r ∈ tabs3 a' b' c') : ∃ r0 ∈ tabs3 a b c, r0.1 = r.1 := by
  simp only [List.mem_cons, List.not_mem_nil, or_false] at h
  rcases h with rfl | rfl | rfl
  · exact ⟨_, .head _, rfl⟩
  · exact ⟨_, .tail _ (.head _), rfl⟩
  · exact ⟨_, .tail _ (.tail _ (.head _)), rfl⟩
theorem not_tab {g h : Heap} {L R : Addr} {led : List (Addr × Obj)} {o : Obj} {a b c : Array Value} (N : News g L h led) (hR : (R, o) ∈ led) (ho : o.cls ≠ .none) (ht : ∀ r ∈ tabs3 a b c, r ∈ led) : ∀ r ∈ tabs3 a b c, R ≠ r.1 := by
  intro r hr e
  have h1 := (N _ hR).1
  have h2 := (N _ (ht r hr)).1
  rw [← e, h1] at h2
  have h3 := Option.some.inj h2
  refine ho ?_
  show o.cls = .none
  rw [show o = r.2 from h3]
  simp only [List.mem_cons, List.not_mem_nil, or_false] at hr
  rcases hr with rfl | rfl | rfl <;> rfl
theorem tabs_dis {nx new news : List (Addr × Obj)} {a b c a' b' c' a1 b1 c1 : Array Value} (hR : ∀ q ∈ new, ∀ r ∈ tabs3 a1 b1 c1, q.1 ≠ r.1) (hx : ∀ q ∈ nx, ∀ r ∈ tabs3 a b c, r.1 < q.1) (hd : ∀ q ∈ news, ∀ r ∈ tabs3 a b c, q.1 ≠ r.1) :
    ∀ q ∈ (new ++ nx) ++ news, ∀ r ∈ tabs3 a' b' c', q.1 ≠ r.1 := by
  intro q hq r hr
  obtain ⟨r0, h0, e⟩ := tabs3_at (a := a) (b := b) (c := c) hr
  rw [← e]
  rcases List.mem_append.mp hq with hq | hq
  · rcases List.mem_append.mp hq with hq | hq
    · obtain ⟨r1, h1, e1⟩ := tabs3_at (a := a1) (b := b1) (c := c1) hr
      rw [e, ← e1]
      exact hR q hq r1 h1
    · exact Nat.ne_of_gt (hx q hq r0 h0)
  · exact hd q hq r0 h0
/-- a list of these numbers, and what else was left behind -/
def TabPost (T : List Nat) (v : Value) (nx _led : List (Addr × Obj)) : Prop := ∃ R ws n' rest, v = .ref R ∧ nx = [(R, listOf ws.toArray n')] ++ rest ∧ IntsAre ws (castL T)
theorem row_cast (ns : List Nat) (r : Nat) : castL ns ++ (castL ns).map (fun k => Builtin.bitXor (r : Int) k) = castL (addRow ns r) := by
  simp [castL, addRow, List.map_map, Function.comp_def, bitXor_nat]
end
section
theorem keys_int {prog : Program} {w : World} {es : Array DictEntry} (h : (es.toList.all fun e => match e.key with | .int k _ => e.hash == hashInt k | _ => false) = true) : KeysOf (PySem.intKind prog w) es := by
  intro e he
  have h1 := List.all_eq_true.mp h e (by simpa using he)
  revert h1
  cases hk : e.key <;> intro h1 <;> simp at h1
  rename_i k t
  exact ⟨k, by rw [hk] at *; simp [intKind, Value.isInt], h1⟩
theorem kdict_item {prog : Program} {w : World} {A : Around} {E : Value → Shared → Prop} {s : Shared} {h₀ : Heap} {L d : Addr} {mF : Str → Option Value} {K : Frag} {value slice : PySem.Expr} {es : Array DictEntry} {ep : Nat} {k : Int} {u : Tok} {v : Value} {Q : Value → Shared → Prop}
    (F : Fr h₀ L s.heap mF) (X : K.In h₀) (hl : K.lookup d = some { cls := .type "dict", data := .dict es ep }) (hk : (es.toList.all fun e => match e.key with | .int k _ => e.hash == hashInt k | _ => false) = true)
    (hv : findBy Value.isInt es k = some v) (h : Q v { s with toks := s.toks + 1 })
    (hs : subscripted slice false (.ref d) (.int k u) = operate [.ref d, .int k u] (getItem (.ref d) (.int k u)) := by with_unfolding_all rfl) :
    wpAny (model prog w) A (subscriptTail value slice (.ref d) (.int k u)) Q E s := by
  have hg := F.keep _ _ (X _ _ hl)
  have hm : s.heap.MapOf (PySem.intKind prog w) d (findBy Value.isInt es) := ⟨_, es, ep, hg, ⟨rfl, rfl, rfl⟩, rfl, keys_int hk, fun _ => rfl⟩
  exact tail_any hm.typeIs slot_dict_getitem.lookup (wpAny_getItem_of (intKind_is _ _ _ _) hm hv h) hs
def crcA (n : Nat) (b : Bool) : Addr := 53 + 14 * (n / 8) + cond b 7 0
theorem sz_find {n : Nat} (hn : n = 8 ∨ n = 16 ∨ n = 24 ∨ n = 32) (t1 t2 t3 t4 t5 : Tok) : findBy Value.isInt #[⟨8, .int 8 t1, .ref 178⟩, ⟨16, .int 16 t2, .ref 179⟩, ⟨24, .int 24 t3, .ref 180⟩, ⟨32, .int 32 t4, .ref 181⟩, ⟨64, .int 64 t5, .ref 182⟩] (n : Int) = some (.ref (177 + n / 8)) := by
  rcases hn with rfl | rfl | rfl | rfl <;> rfl
theorem sz_item {prog : Program} {w : World} {A : Around} {E : Value → Shared → Prop} {s : Shared} {h₀ : Heap} {L : Addr} {mF : Str → Option Value} {K : Frag} {value slice : PySem.Expr} {n : Nat} {b : Bool} {k : Int} {u : Tok} {Q : Value → Shared → Prop}
    (hn : n = 8 ∨ n = 16 ∨ n = 24 ∨ n = 32) (F : Fr h₀ L s.heap mF) (X : K.In h₀) (hk : k = cond b 1 0)
    (hl : ∀ i : Nat, 1 ≤ i → i ≤ 4 → ∃ c, K.lookup (177 + i) = some { cls := .type "list", data := .seq #[.ref (53 + 14 * i), .ref (60 + 14 * i)] c }) (h : Q (.ref (crcA n b)) s)
    (hs : subscripted slice false (.ref (177 + n / 8)) (.int k u) = operate [.ref (177 + n / 8), .int k u] (getItem (.ref (177 + n / 8)) (.int k u)) := by with_unfolding_all rfl) :
    wpAny (model prog w) A (subscriptTail value slice (.ref (177 + n / 8)) (.int k u)) Q E s := by
  obtain ⟨c, hl⟩ := hl (n / 8) (by omega) (by omega)
  have hL : s.heap.IsList (177 + n / 8) #[.ref (53 + 14 * (n / 8)), .ref (60 + 14 * (n / 8))] := ⟨_, F.keep _ _ (X _ _ hl), rfl, _, rfl⟩
  refine tail_any hL.typeIs slot_list_getitem.lookup ?_ hs
  cases b
  · subst hk
    exact wpAny_getItem_list hL (by decide) (by decide) (x := .ref (53 + 14 * (n / 8))) rfl h
  · subst hk
    refine wpAny_getItem_list hL (by decide) (by decide) (x := .ref (60 + 14 * (n / 8))) rfl ?_
    have e : crcA n true = 60 + 14 * (n / 8) := by show 53 + 14 * (n / 8) + 7 = 60 + 14 * (n / 8); omega
    rw [e] at h; exact h
end
section
theorem lowN_succ (x : Int) (n : Nat) : lowN x (n + 1) = 2 * lowN (x / 2) n + (x % 2).toNat := by
  have h1 := lowN_cast x (n + 1)
  have h2 := lowN_cast (x / 2) n
  have h3 : x % 2 ^ (n + 1) = 2 * (x / 2 % 2 ^ n) + x % 2 := by
    have hp := kbt_pos n
    have e : (2 : Int) ^ (n + 1) = 2 * 2 ^ n := by rw [Int.pow_succ, Int.mul_comm]
    rw [e]
    have a1 := Int.emod_nonneg (x / 2) (show (2 : Int) ^ n ≠ 0 by omega)
    have a2 := Int.emod_lt_of_pos (x / 2) hp
    have a3 := Int.emod_add_mul_ediv (x / 2) (2 ^ n)
    have a4 : x = (2 * (x / 2 % 2 ^ n) + x % 2) + (2 * 2 ^ n) * (x / 2 / 2 ^ n) := by
      have e2 : (2 * 2 ^ n) * (x / 2 / 2 ^ n) = 2 * (2 ^ n * (x / 2 / 2 ^ n)) := by rw [Int.mul_assoc]
      rw [e2]; omega
    have a5 : x % (2 * 2 ^ n) = ((2 * (x / 2 % 2 ^ n) + x % 2) + (2 * 2 ^ n) * (x / 2 / 2 ^ n)) % (2 * 2 ^ n) := by rw [← a4]
    rw [a5, Int.add_mul_emod_self_left]
    exact Int.emod_eq_of_lt (by omega) (by omega)
  omega
theorem xor_pair (a b i j : Nat) (hi : i < 2) (hj : j < 2) : (2 * a + i) ^^^ (2 * b + j) = 2 * (a ^^^ b) + (i + j) % 2 := by
  have h1 : ((2 * a + i) ^^^ (2 * b + j)) / 2 = a ^^^ b := by
    have := Nat.shiftRight_xor_distrib (a := 2 * a + i) (b := 2 * b + j) (i := 1)
    simp only [Nat.shiftRight_eq_div_pow, Nat.pow_one] at this
    rw [this, show (2 * a + i) / 2 = a by omega, show (2 * b + j) / 2 = b by omega]
  have h2 : ((2 * a + i) ^^^ (2 * b + j)) % 2 = (i + j) % 2 := by
    have := Nat.xor_mod_two_pow (a := 2 * a + i) (b := 2 * b + j) (n := 1)
    simp only [Nat.pow_one] at this
    rw [this, show (2 * a + i) % 2 = i by omega, show (2 * b + j) % 2 = j by omega]
    have hi' : i = 0 ∨ i = 1 := by omega
    have hj' : j = 0 ∨ j = 1 := by omega
    rcases hi' with rfl | rfl <;> rcases hj' with rfl | rfl <;> rfl
  omega
theorem bitXor_halves (x y : Int) : Builtin.bitXor x y / 2 = Builtin.bitXor (x / 2) (y / 2) ∧ Builtin.bitXor x y % 2 = (x + y) % 2 := by
  rw [bitXor_and, bitXor_and, kbt_halves x y]
  split <;> rename_i h
  · obtain ⟨h1, h2⟩ := h; constructor <;> omega
  · constructor
    · have hx : x % 2 = 0 ∨ x % 2 = 1 := by omega
      have hy : y % 2 = 0 ∨ y % 2 = 1 := by omega
      rcases hx with hx | hx <;> rcases hy with hy | hy
      · omega
      · omega
      · omega
      · exact absurd ⟨hx, hy⟩ h
    · omega
theorem lowN_xor : ∀ (n : Nat) (x y : Int), lowN (Builtin.bitXor x y) n = lowN x n ^^^ lowN y n
  | 0, x, y => by
    have h : ∀ z : Int, lowN z 0 = 0 := fun z => by have := lowN_lt z 0; simpa using this
    rw [h, h, h]; rfl
  | n + 1, x, y => by
    obtain ⟨h1, h2⟩ := bitXor_halves x y
    rw [lowN_succ, lowN_succ x, lowN_succ y, h1, h2, lowN_xor n, xor_pair _ _ _ _ (by omega) (by omega)]
    have : ((x + y) % 2).toNat = ((x % 2).toNat + (y % 2).toNat) % 2 := by omega
    rw [this]
end
section
def leN (k x : Nat) : List Nat := (List.range k).map fun i => x / 256 ^ i % 256
def sideOf (bk : Bool) : PySem.Str := cond bk (PySem.Str.ofString "little") (PySem.Str.ofString "big")
def bytesN (bk : Bool) (k x : Nat) : List Nat := cond bk (leN k x) (leN k x).reverse
section
open PySem.Builtin.Int (intBits)
theorem tb_own {x k : Nat} (hx : x < 256 ^ k) : (KTBy.low (x : Int) k).map UInt8.toNat = leN k x := by
  have h := KTBy.low_ints (x := (x : Int)) (n := k) (by omega) (by rw [KTBy.p256]; omega)
  have e : ((KTBy.low (x : Int) k).map UInt8.toNat).map (fun c : Nat => (c : Int)) = (leN k x).map (fun c : Nat => (c : Int)) := by
    rw [List.map_map]
    refine h.trans ?_
    unfold leN
    rw [List.map_map]
    refine List.map_congr_left fun i _ => ?_
    show (x : Int) / 256 ^ i % 256 = ((x / 256 ^ i % 256 : Nat) : Int)
    rw [KTBy.p256]; rfl
  exact (List.map_inj_right (fun a b e => Int.ofNat.inj e)).mp e
variable {prog : Program} {w : World} {A : Around} {E : Value → Shared → Prop} {s : Shared} {x k : Nat} {t u v : Tok} {bk : Bool} {Q : Value → Shared → Prop}
theorem tb_call (hk : k ≤ 1000) (hx : x < 256 ^ k) (h : ∀ (b : Array UInt8) t' k', b.toList.map UInt8.toNat = bytesN bk k x → Q (.bytes b t') { s with toks := k' }) :
    wpAny (model prog w) A (call (.builtin "int.to_bytes") [.int (x : Int) t, .int (k : Int) u, .str (sideOf bk) v]) Q E s := by
  have hbits : intBits (x : Int) ≤ 8 * k := intBits_le_iff.mpr (by rw [Nat.pow_mul]; simpa using hx)
  have hlen : ∀ l : List UInt8, l = KTBy.low (x : Int) (Int.toNat (k : Int)) ∨ l = (KTBy.low (x : Int) (Int.toNat (k : Int))).reverse → l.length ≤ sizeLine := fun l hl => by
    have h1 := KTBy.low_length (x : Int) (Int.toNat (k : Int))
    rw [Int.toNat_natCast] at h1 hl
    rw [sizeLine_eq]
    rcases hl with rfl | rfl
    · omega
    · rw [List.length_reverse]; omega
  refine wpAny_call_entry KTBy.slot (typeIs_int s _ t) KTBy.entry ?_ (KTBy.args _ _ _)
  show wpAny _ _ (Builtin.Int.intOfSelf (.int (x : Int) t) >>= fun y => _) _ _ s
  refine wpAny_bind (wpAny_of_eq (a := (x : Int)) rfl ?_)
  show wpAny _ _ (Builtin.Int.intBindNamed "to_bytes" ["length", "byteorder", "signed"] 0 2 [.int (k : Int) u, .str (sideOf bk) v] [] >>= fun l => _) _ _ s
  refine wpAny_bind (wpAny_of_eq (a := [some (.int (k : Int) u), some (.str (sideOf bk) v), none]) (by kernel_rfl) ?_)
  show wpAny _ _ (Builtin.Int.intIndex "int.to_bytes" (.int (k : Int) u) >>= fun n => _) _ _ s
  refine wpAny_bind (wpAny_of_eq (a := (k : Int)) rfl ?_)
  have n1 : decide ((k : Int) < -(2 ^ 63 : Int)) = false := decide_eq_false (by omega)
  have n2 : decide ((k : Int) ≥ 2 ^ 63) = false := decide_eq_false (by omega)
  refine KTBy.if_not (by show (decide ((k : Int) < -(2 ^ 63 : Int)) || decide ((k : Int) ≥ 2 ^ 63)) = false; rw [n1, n2]; rfl) ?_
  refine wpAny_bind (wpAny_of_eq (a := sideOf bk) (by cases bk <;> kernel_rfl) ?_)
  refine wpAny_bind (wpAny_of_eq (a := false) rfl ?_)
  refine wpAny_bind (wpAny_of_eq (a := bk) (by cases bk <;> kernel_rfl) ?_)
  have n3 : decide ((k : Int) < 0) = false := decide_eq_false (by omega)
  have n4 : decide ((k : Int) > 2 ^ 63 - 1 - 33) = false := decide_eq_false (by omega)
  have n5 : decide ((k : Int) > (sizeLine : Int)) = false := decide_eq_false (by rw [sizeLine_eq]; omega)
  have n6 : decide ((x : Int) < 0) = false := decide_eq_false (by omega)
  have n7 : decide ((intBits (x : Int) : Int) > 8 * (k : Int)) = false := decide_eq_false (by omega)
  refine wpAny_ite_false n3 (wpAny_ite_false n4 (wpAny_ite_false n5 ?_))
  refine KTBy.if_not (by show (decide ((x : Int) < 0) && !false) = false; rw [n6]; rfl) ?_
  refine KTBy.if_not (by show (_ && decide ((intBits (x : Int) : Int) > 8 * (k : Int))) = false; rw [n7, Bool.and_false]) ?_
  cases bk
  · refine wpAny_bind (wpAny_mkBytes (wpAny_pure ⟨_, rfl, h _ _ _ ?_⟩) (hlen _ (.inr rfl)))
    show (List.reverse (KTBy.low (x : Int) (Int.toNat (k : Int)))).map UInt8.toNat = (leN k x).reverse
    rw [Int.toNat_natCast, List.map_reverse, tb_own hx]
  · refine wpAny_bind (wpAny_mkBytes (wpAny_pure ⟨_, rfl, h _ _ _ ?_⟩) (hlen _ (.inl rfl)))
    show (KTBy.low (x : Int) (Int.toNat (k : Int))).map UInt8.toNat = leN k x
    rw [Int.toNat_natCast, tb_own hx]
end
end
section
theorem pw_kind : builtinKind "pow" = none := by decide +kernel
theorem pw_plain : plainId "pow" = true := by decide +kernel
theorem pw_entry : entryFor table "pow" = some Builtin.«pow» := entryFor_of_fast (by kernel_rfl)
theorem pw_args (a b c : Value) : argsOk "pow" ⟨[a, b, c], []⟩ := by unfold argsOk; kernel_rfl
theorem pw_slot : Slot "int" (PySem.Str.ofString "__pow__") "int.__pow__" := (show PySem.dunder "pow" = PySem.Str.ofString "__pow__" by decide +kernel) ▸ F.slot_int_pow
section
variable {prog : Program} {w : World} {A : Around} {E : Value → Shared → Prop} {s : Shared} {m : Nat} {t u v : Tok} {Q : Value → Shared → Prop}
theorem pow_call (h : ∀ tk', Q (.int ((Builtin.powMod ((m : Int) % 255).toNat 15 255 : Nat) : Int) tk') { s with toks := tk' + 1 }) :
    wpAny (model prog w) A (call (.builtin "pow") [.int (m : Int) t, .int 15 u, .int 255 v]) Q E s := by
  refine call_function_tree pw_kind pw_plain pw_entry (pw_args _ _ _) ?_
  show wpAny _ _ (Builtin.Builtins.bindParams "pow" ["base", "exp", "mod"] 2 ⟨[.int (m : Int) t, .int 15 u, .int 255 v], []⟩ >>= _) _ _ s
  refine wpAny_bind (wpAny_of_eq (a := [some (.int (m : Int) t), some (.int 15 u), some (.int 255 v)]) (by kernel_rfl) ?_)
  show wpAny _ _ (rule "pow.mod" >>= fun _ => typeOf (.int (m : Int) t) >>= _) _ _ s
  refine wpAny_bind (wpAny_rule ?_)
  refine wpAny_bind (wpAny_of_eq (a := .type "int") rfl ?_)
  show wpAny _ _ (typeLookup (.type "int") "__pow__" >>= _) _ _ s
  refine wpAny_bind (wpAny_of_eq (a := some (.builtin "int.__pow__")) pw_slot.lookup ?_)
  show wpAny _ _ (callSpecial? (.int (m : Int) t) "__pow__" [.int 15 u, .int 255 v] >>= _) _ _ s
  refine wpAny_bind ?_
  have hs : Slot "int" ("__pow__" : PySem.Str) "int.__pow__" := pw_slot
  apply wpAny_callSpecial?_slot (T := "int") (id := "int.__pow__") (name := ("__pow__" : PySem.Str)) (typeIs_int s _ t) hs
  
  refine wpAny_call_entry (id := "int.__pow__") pw_slot (typeIs_int s _ t) F.entry_int_pow ?_ (F.args_int_pow_3 _ _ _)
  show wpAny _ _ (Builtin.Int.intOfSelf (.int (m : Int) t) >>= _) _ _ s
  refine wpAny_bind (wpAny_of_eq (a := (m : Int)) rfl ?_)
  show wpAny _ _ (asInt? (.int 15 u) >>= _) _ _ s
  refine wpAny_bind (wpAny_of_eq (a := some 15) rfl ?_)
  show wpAny _ _ (asInt? (.int 255 v) >>= _) _ _ s
  refine wpAny_bind (wpAny_of_eq (a := some 255) rfl ?_)
  show wpAny _ _ (do ret (← mkInt ((Builtin.powMod ((m : Int) % 255).toNat 15 255 : Nat) : Int))) _ _ s
  refine wpAny_ret_mkInt ?_
  show wpAny _ _ (ret _) _ _ _
  exact wpAny_pure (h _)
end
end
section
set_option hygiene false in
local macro_rules | `(tactic| fail "enterTC") => `(tactic| k_dflt (refine' enterKTC ?k1 ?k2 ?k3 ?k4 ?kdis ?k5 ?kA ?kF ?kK ?k6 ?k7 ?k8 ?k9 ?kB ?kD ?_ ?c2 ?c3 ?c4; (case kA => exact rfl); (case kF => exact rfl); (case kK => assumption); (case k1 => k_asm); (case k2 => k_asm); (case k3 => k_asm); (case k4 => k_asm); (case kdis => assumption); (case k5 => k_asm); (case k6 => k_is); (case k7 => k_is); (case k8 => ktr_room); (case k9 => first | exact BindsTo.of_eq rfl | exact binds_K (by k_in) rfl (by k_is) rfl rfl rfl); (case kB => exact rfl); (case kD => decide +kernel); (case c2 => exact rfl); (case c3 => exact rfl); (case c4 => exact rfl); k_whole; intro g' L' h' tk' cells' st' nn' hg' F' N' Y' B' X' T' l1; (try k_lt l1); k_cells Y'; (try simp only [List.cons_append, List.nil_append] at N'); (try dsimp only); (try k_fold)))
set_option hygiene false in
local macro_rules | `(tactic| fail "enterT") => `(tactic| k_dflt (refine' enterKT ?k1 ?k2 ?k3 ?k4 ?kdis ?k5 ?kA ?kF ?kK ?k6 ?k7 ?k8 ?k9 ?kB ?_ ?c2 ?c3 ?c4 ?c5; (case kA => exact rfl); (case kF => exact rfl); (case kK => assumption); (case k1 => k_asm); (case k2 => k_asm); (case k3 => k_asm); (case k4 => k_asm); (case kdis => assumption); (case k5 => k_asm); (case k6 => k_is); (case k7 => k_is); (case k8 => ktr_room); (case k9 => first | exact BindsTo.of_eq rfl | exact binds_K (by k_in) rfl (by k_is) rfl rfl rfl); (case c5 => decide); (case kB => exact locs rfl); (case c2 => exact rfl); (case c3 => exact rfl); (case c4 => exact rfl); k_whole; intro g' L' h' st' nn' hg' F' N' B' X' T'; (try dsimp only); (try k_fold)))
set_option hygiene false in
local macro_rules | `(tactic| fail "eval Lambda") => `(tactic| (k_here; k_dflt (refine' kla_eval ?d0 ?_; (case d0 => exact rfl)); k_dflt (refine' lam_any ?F ?N ?T ?C ?cd ?U ?t ?cl ?_; (case F => k_asm); (case N => k_asm); (case T => k_asm); (case cd => exact rfl); (case C => assumption); (case U => k_updF); (case t => assumption); (case cl => exact rfl); k_whole); intro f' c' a' nx' ct' h' tk' F' N' hcr' htb' hxa' hxf' l1; (try dsimp only at N'); (try simp only [List.cons_append, List.nil_append] at N'); (try k_lt l1)))
local macro_rules | `(tactic| fail "enterLam") => `(tactic| k_dflt (refine' enterLC ?k1 ?k2 ?k3 ?k4 ?k5 ?kA ?kF ?kK ?k6 ?k7 ?kc ?k8 ?k9 ?kB ?kD ?_ ?c2 ?c3 ?c4; (case kA => exact rfl); (case kF => exact rfl); (case kK => assumption); (case k6 => assumption); (case k7 => exact rfl); (case k1 => k_asm); (case k2 => k_asm); (case k3 => k_asm); (case k4 => k_asm); (case k5 => k_asm); (case kc => assumption); (case k8 => ktr_room); (case k9 => exact rfl); (case kB => exact rfl); (case kD => decide +kernel); (case c2 => exact rfl); (case c3 => exact rfl); (case c4 => exact rfl); k_whole; intro L' h' tk' cells' F' N' Y' B' X' T'; k_cells Y'; (try simp only [List.cons_append, List.nil_append] at N'); (try dsimp only); (try k_fold)))
local macro_rules | `(tactic| fail "call ref") => `(tactic| fail "use n")
local macro_rules | `(tactic| fail "eval ListComp") => `(tactic| (k_here; k_dflt (first | ((with_reducible refine' ListComp_T ?q1 ?q2 ?q3 ?q4 ?q5 ?q6 ?_ (hs := ?q7)); (case q7 => (intro _; rfl)); (case q1 => k_asm); (case q2 => with_unfolding_all rfl); (case q3 => decide); (case q4 => rfl); (case q5 => decide); (case q6 => rfl)) | ((with_reducible refine' LCg.ListComp_U (F₀ := ?q1) ?q2 ?q3 ?q4 ?q5 ?q6 ?_); (case q1 => k_asm); (case q2 => with_unfolding_all rfl); (case q3 => decide); (case q4 => rfl); (case q5 => decide); (case q6 => rfl)) | refine ListComp_T (by k_asm) (by with_unfolding_all rfl) (by decide) (by rfl) (by decide) (by rfl) ?_ | refine LCg.ListComp_U (F₀ := by k_asm) (by with_unfolding_all rfl) (by decide) (by rfl) (by decide) (by rfl) ?_)))
local macro_rules | `(tactic| fail "TupSrc") => `(tactic| (k_here; k_dflt (refine TupSrc.ledger (by rfl) (by k_asm) (by k_asm) (by k_mem) (by first | size_fits | exact Nat.le_of_ble_eq_true rfl) ?_); intro g'; (refine' tc_list (ns := [1, 2, 4, 8, 16, 32, 64, 128]) (by fail "row g") (by decide) (by repeat (first | exact .nil | refine .cons _ _ ?_)) (fun k' t' I' oI' C' oC' D' m' ys' h' tk' E' hk' hk2' hC' hx' F' N' off' ne' => ?_) ?_); (all_goals (try (simp only [LCg.Off3, and_true] at off'))); kcf_last))
local macro_rules | `(tactic| fail "CompSrc") => `(tactic| (k_here; k_dflt (refine LCg.CompSrc.base (by rfl) (by k_asm) (by k_asm) (by assumption) (by assumption) ?_); intro g'; (refine' tc_list (by fail "row g") (by assumption) (by assumption) (fun k' t' I' oI' C' oC' D' m' ys' h' tk' E' hk' hk2' hC' hx' F' N' off' ne' => ?_) ?_); (all_goals (try (simp only [LCg.Off3, and_true] at off'))); kcf_last))
local macro_rules | `(tactic| fail "CompEnd") => `(tactic| kcf_end)
local macro_rules | `(tactic| fail "KCfEl") => `(tactic| exact ⟨rfl, _, rfl⟩)
theorem mt_small {k : Nat} (h : k ∈ [1, 2, 4, 8, 16, 32, 64, 128]) : k < 2 ^ 8 := by
  simp only [List.mem_cons, List.not_mem_nil, or_false] at h
  rcases h with h | h | h | h | h | h | h | h <;> subst h <;> decide
theorem mt_shl {i n : Nat} (hi : i < 2 ^ 8) (h8 : 8 ≤ n) (hn : n ≤ 64) : i <<< (n - 8) < 2 ^ 64 := by
  rw [Nat.shiftLeft_eq]
  have h1 : i * 2 ^ (n - 8) < 2 ^ 8 * 2 ^ (n - 8) := Nat.mul_lt_mul_of_pos_right hi (Nat.two_pow_pos _)
  rw [← Nat.pow_add, show 8 + (n - 8) = n by omega] at h1
  exact Nat.lt_of_lt_of_le h1 (Nat.pow_le_pow_right (by decide) hn)
theorem mt_mask {poly n : Nat} (hn : n ≤ 64) : poly &&& ((1 <<< n) - 1) < 2 ^ 64 := by
  have h1 : poly &&& ((1 <<< n) - 1) ≤ (1 <<< n) - 1 := Nat.and_le_right
  rw [Nat.shiftLeft_eq, Nat.one_mul] at h1
  have h2 : 2 ^ n ≤ 2 ^ 64 := Nat.pow_le_pow_right (by decide) hn
  have h3 := Nat.two_pow_pos n
  rw [Nat.shiftLeft_eq, Nat.one_mul]
  omega
def tabN (poly n : Nat) : List Nat := ([1, 2, 4, 8, 16, 32, 64, 128].map fun k => bytecrcN (k <<< (n - 8)) (poly &&& ((1 <<< n) - 1)) n).foldl addRow [0]
set_option hygiene false in
local macro_rules | `(tactic| fail "row g") => `(tactic| first | exact (fun k => rowN ^^^ k) | exact fun k => bytecrcN (k <<< (n - 8)) (poly &&& ((1 <<< n) - 1)) n)
local macro_rules | `(tactic| fail "which") => `(tactic| exact bytecrc_gives _ _ _ _ _ _ (mt_shl (mt_small (by assumption)) (by assumption) (by assumption)) (mt_mask (by assumption)) (by omega) (by omega))
theorem mktable_gives {w : World} {p : Program} {loose : List Str} {mean : ExcName → Option Value} {mg mb : Str → Option Value} (poly n : Nat) (t u : Tok) (h8 : 8 ≤ n) (hn : n ≤ 64) :
    GivesT w p loose mean mg mb 3 171 [.int (poly : Int) t, .int (n : Int) u] (TabPost (tabN poly n)) := by
  unfold GivesT
  k_fill
  intro dp un gd cn cs ad ccd cl outer A₀ base h₀ L mF ta tb tc news old s Q E B F X N hold hdis hco htab TT hk hdp hun hret
  refine wpAny_call ?_
  fail "enterTC"
  obtain ⟨hcd1, hcd2, hcd3⟩ := hco.keeps (by assumption)
  have ht1 := htab.1
  have nn2 := both_in nn' st' hold
  fail "go"
  refine' reduce_gives (D := 0) ?lam ?B ?X ?TT ?hk ?hdp ?hun ?F ?N ?hf ?hlst ?hvl ?hini ?hvi ?hcv ?h8 ?hQ
  case F => k_asm
  case N => k_asm
  case hf => k_mem
  case hlst => exact ⟨_, by k_mem, rfl, _, rfl⟩
  case hvl => assumption
  case hini => exact ⟨_, by k_mem⟩
  case hvi => exact .cons _ _ .nil
  case hcv => exact fun hh NN kk => hcr' hh fun q hq => (List.mem_append.mp hq).elim (fun h => (NN q (by simp [h])).1) (fun h => kk _ _ (nn2 q h))
  case B => k_asm
  case X => k_asm
  case TT => k_asm
  case hk => rfl
  case hdp => ktr_room
  case hun => ktr_units
  case h8 => simp
  case lam =>
    intro rows vs ns rowN tr hvs hlen
    unfold Gives
    intro dp un gd cn cs ad ccd cl outer A₀ base h₀ L mF news s Q E B F X N TT hk hdp hun hpre hret
    obtain ⟨hfo, hcr, hls⟩ := hpre
    refine wpAny_call ?_
    fail "enterLam"
    fail "go"
    rename IntsAre _ (_ ++ _) => hI
    rename News _ _ _ _ => N1
    exact ⟨_, _, [(_, listOf _ 0)], by assumption, fun p hp => N1 p (by rcases List.mem_singleton.mp hp with rfl; exact .head _), fun F2 N2 D2 => hret _ _ _ _ ⟨_, _, rfl, rfl, row_cast _ _ ▸ hI⟩ F2 N2 D2⟩
  case hQ =>
    intro R ws n' h' tk' FR NR hws
    fail "go"
    dsimp only
    rename News _ _ _ _ => N1
    exact ⟨_, _, tabs3 a' tb tc ++ ([(R, listOf ws.toArray n')] ++ nx'), by assumption, fun p hp => N1 p (by simp only [List.mem_append, List.mem_cons, List.not_mem_nil, or_false] at hp ⊢; rcases hp with (rfl | rfl | rfl) | rfl | hp <;> simp [*]),
      fun F2 N2 D2 => hret _ ([(R, listOf ws.toArray n')] ++ nx') _ _ _ _ _ ⟨R, ws, n', nx', rfl, rfl, hws⟩ F2 (List.append_assoc _ _ _ ▸ N2)
        (tabs_dis (fun q hq => by rw [List.mem_singleton.mp hq]; exact not_tab (a := a') (b := tb) (c := tc) N1 (.head _) (by intro e; cases e) (fun r hr => by simp only [List.mem_cons, List.not_mem_nil, or_false] at hr; rcases hr with rfl | rfl | rfl <;> k_mem)) (fun q hq r hr => hxa' q hq r (.tail _ (.tail _ hr))) hdis)
        ⟨TabL.more (q := qLam) htb' (fun p hp => by simp only [List.mem_append] at hp ⊢; rcases hp with hp | hp | hp <;> simp [hp]), htab.2.1.more (fun p hp => by simp only [List.mem_append] at hp ⊢; rcases hp with hp | hp <;> simp [hp]), htab.2.2.more (fun p hp => by simp only [List.mem_append] at hp ⊢; rcases hp with hp | hp <;> simp [hp])⟩⟩
end
section
set_option hygiene false in
local macro_rules | `(tactic| fail "enterTC") => `(tactic| k_dflt (refine' enterKTC ?k1 ?k2 ?k3 ?k4 ?kdis ?k5 ?kA ?kF ?kK ?k6 ?k7 ?k8 ?k9 ?kB ?kD ?_ ?c2 ?c3 ?c4; (case kA => exact rfl); (case kF => exact rfl); (case kK => assumption); (case k1 => k_asm); (case k2 => k_asm); (case k3 => k_asm); (case k4 => k_asm); (case kdis => assumption); (case k5 => k_asm); (case k6 => k_is); (case k7 => k_is); (case k8 => ktr_room); (case k9 => first | exact BindsTo.of_eq rfl | exact binds_K (by k_in) rfl (by k_is) rfl rfl rfl); (case kB => exact rfl); (case kD => decide +kernel); (case c2 => exact rfl); (case c3 => exact rfl); (case c4 => exact rfl); k_whole; intro g' L' h' tk' cells' st' nn' hg' F' N' Y' B' X' T' l1; (try k_lt l1); k_cells Y'; (try simp only [List.cons_append, List.nil_append] at N'); (try dsimp only); (try k_fold)))
set_option hygiene false in
local macro_rules | `(tactic| fail "enterT") => `(tactic| k_dflt (refine' enterKT ?k1 ?k2 ?k3 ?k4 ?kdis ?k5 ?kA ?kF ?kK ?k6 ?k7 ?k8 ?k9 ?kB ?_ ?c2 ?c3 ?c4 ?c5; (case kA => exact rfl); (case kF => exact rfl); (case kK => assumption); (case k1 => k_asm); (case k2 => k_asm); (case k3 => k_asm); (case k4 => k_asm); (case kdis => assumption); (case k5 => k_asm); (case k6 => k_is); (case k7 => k_is); (case k8 => ktr_room); (case k9 => first | exact BindsTo.of_eq rfl | exact binds_K (by k_in) rfl (by k_is) rfl rfl rfl); (case c5 => decide); (case kB => exact locs rfl); (case c2 => exact rfl); (case c3 => exact rfl); (case c4 => exact rfl); k_whole; intro g' L' h' st' nn' hg' F' N' B' X' T'; (try dsimp only); (try k_fold)))
set_option hygiene false in
local macro_rules | `(tactic| fail "eval Lambda") => `(tactic| (k_here; k_dflt (refine' kla_eval ?d0 ?_; (case d0 => exact rfl)); k_dflt (refine' lam_any ?F ?N ?T ?C ?cd ?U ?t ?cl ?_; (case F => k_asm); (case N => k_asm); (case T => k_asm); (case cd => exact rfl); (case C => assumption); (case U => k_updF); (case t => assumption); (case cl => exact rfl); k_whole); intro f' c' a' nx' ct' h' tk' F' N' hcr' htb' hxa' hxf' l1; (try dsimp only at N'); (try simp only [List.cons_append, List.nil_append] at N'); (try k_lt l1)))
local macro_rules | `(tactic| fail "enterLam") => `(tactic| k_dflt (refine' enterLC ?k1 ?k2 ?k3 ?k4 ?k5 ?kA ?kF ?kK ?k6 ?k7 ?kc ?k8 ?k9 ?kB ?kD ?_ ?c2 ?c3 ?c4; (case kA => exact rfl); (case kF => exact rfl); (case kK => assumption); (case k6 => assumption); (case k7 => exact rfl); (case k1 => k_asm); (case k2 => k_asm); (case k3 => k_asm); (case k4 => k_asm); (case k5 => k_asm); (case kc => assumption); (case k8 => ktr_room); (case k9 => exact rfl); (case kB => exact rfl); (case kD => decide +kernel); (case c2 => exact rfl); (case c3 => exact rfl); (case c4 => exact rfl); k_whole; intro L' h' tk' cells' F' N' Y' B' X' T'; k_cells Y'; (try simp only [List.cons_append, List.nil_append] at N'); (try dsimp only); (try k_fold)))
local macro_rules | `(tactic| fail "call ref") => `(tactic| fail "use n")
local macro_rules | `(tactic| fail "eval ListComp") => `(tactic| (k_here; k_dflt (first | ((with_reducible refine' ListComp_T ?q1 ?q2 ?q3 ?q4 ?q5 ?q6 ?_ (hs := ?q7)); (case q7 => (intro _; rfl)); (case q1 => k_asm); (case q2 => with_unfolding_all rfl); (case q3 => decide); (case q4 => rfl); (case q5 => decide); (case q6 => rfl)) | ((with_reducible refine' LCg.ListComp_U (F₀ := ?q1) ?q2 ?q3 ?q4 ?q5 ?q6 ?_); (case q1 => k_asm); (case q2 => with_unfolding_all rfl); (case q3 => decide); (case q4 => rfl); (case q5 => decide); (case q6 => rfl)) | refine ListComp_T (by k_asm) (by with_unfolding_all rfl) (by decide) (by rfl) (by decide) (by rfl) ?_ | refine LCg.ListComp_U (F₀ := by k_asm) (by with_unfolding_all rfl) (by decide) (by rfl) (by decide) (by rfl) ?_)))
local macro_rules | `(tactic| fail "TupSrc") => `(tactic| (k_here; k_dflt (refine TupSrc.ledger (by rfl) (by k_asm) (by k_asm) (by k_mem) (by first | size_fits | exact Nat.le_of_ble_eq_true rfl) ?_); intro g'; (refine' tc_list (ns := [1, 2, 4, 8, 16, 32, 64, 128]) (by fail "row g") (by decide) (by repeat (first | exact .nil | refine .cons _ _ ?_)) (fun k' t' I' oI' C' oC' D' m' ys' h' tk' E' hk' hk2' hC' hx' F' N' off' ne' => ?_) ?_); (all_goals (try (simp only [LCg.Off3, and_true] at off'))); kcf_last))
local macro_rules | `(tactic| fail "CompSrc") => `(tactic| (k_here; k_dflt (refine LCg.CompSrc.base (by rfl) (by k_asm) (by k_asm) (by assumption) (by assumption) ?_); intro g'; (refine' tc_list (by fail "row g") (by assumption) (by assumption) (fun k' t' I' oI' C' oC' D' m' ys' h' tk' E' hk' hk2' hC' hx' F' N' off' ne' => ?_) ?_); (all_goals (try (simp only [LCg.Off3, and_true] at off'))); kcf_last))
local macro_rules | `(tactic| fail "CompEnd") => `(tactic| kcf_end)
local macro_rules | `(tactic| fail "KCfEl") => `(tactic| exact ⟨rfl, _, rfl⟩)
theorem mt_rev {x n : Nat} (hn : n ≤ 64) : revN x n < 2 ^ 64 := Nat.lt_of_lt_of_le (revAt_lt x n) (Nat.pow_le_pow_right (by decide) hn)
def tabrN (poly n : Nat) : List Nat := ([1, 2, 4, 8, 16, 32, 64, 128].map fun k => bytecrcrN k (revN (poly &&& ((1 <<< n) - 1)) n) n).foldl addRow [0]
set_option hygiene false in
local macro_rules | `(tactic| fail "row g") => `(tactic| first | exact (fun k => rowN ^^^ k) | exact fun k => bytecrcrN k (revN (poly &&& ((1 <<< n) - 1)) n) n)
local macro_rules | `(tactic| fail "which") => `(tactic| first | exact bytecrcr_gives _ _ _ _ _ _ (by assumption) (mt_rev (by assumption)) (by omega) (by omega) | exact bitrev_gives _ _ _ _ (by omega))
theorem mktabler_gives {w : World} {p : Program} {loose : List Str} {mean : ExcName → Option Value} {mg mb : Str → Option Value} (poly n : Nat) (t u : Tok) (h8 : 8 ≤ n) (hn : n ≤ 64) :
    GivesT w p loose mean mg mb 3 176 [.int (poly : Int) t, .int (n : Int) u] (TabPost (tabrN poly n)) := by
  unfold GivesT
  k_fill
  intro dp un gd cn cs ad ccd cl outer A₀ base h₀ L mF ta tb tc news old s Q E B F X N hold hdis hco htab TT hk hdp hun hret
  refine wpAny_call ?_
  fail "enterTC"
  obtain ⟨hcd1, hcd2, hcd3⟩ := hco.keeps (by assumption)
  have ht1 := htab.2.1
  have nn2 := both_in nn' st' hold
  fail "go"
  refine' reduce_gives (D := 0) ?lam ?B ?X ?TT ?hk ?hdp ?hun ?F ?N ?hf ?hlst ?hvl ?hini ?hvi ?hcv ?h8 ?hQ
  case F => k_asm
  case N => k_asm
  case hf => k_mem
  case hlst => exact ⟨_, by k_mem, rfl, _, rfl⟩
  case hvl => assumption
  case hini => exact ⟨_, by k_mem⟩
  case hvi => exact .cons _ _ .nil
  case hcv => exact fun hh NN kk => hcr' hh fun q hq => (List.mem_append.mp hq).elim (fun h => (NN q (by simp [h])).1) (fun h => kk _ _ (nn2 q h))
  case B => k_asm
  case X => k_asm
  case TT => k_asm
  case hk => rfl
  case hdp => ktr_room
  case hun => ktr_units
  case h8 => simp
  case lam =>
    intro rows vs ns rowN tr hvs hlen
    unfold Gives
    intro dp un gd cn cs ad ccd cl outer A₀ base h₀ L mF news s Q E B F X N TT hk hdp hun hpre hret
    obtain ⟨hfo, hcr, hls⟩ := hpre
    refine wpAny_call ?_
    fail "enterLam"
    fail "go"
    rename IntsAre _ (_ ++ _) => hI
    rename News _ _ _ _ => N1
    exact ⟨_, _, [(_, listOf _ 0)], by assumption, fun p hp => N1 p (by rcases List.mem_singleton.mp hp with rfl; exact .head _), fun F2 N2 D2 => hret _ _ _ _ ⟨_, _, rfl, rfl, row_cast _ _ ▸ hI⟩ F2 N2 D2⟩
  case hQ =>
    intro R ws n' h' tk' FR NR hws
    fail "go"
    dsimp only
    rename News _ _ _ _ => N1
    exact ⟨_, _, tabs3 ta a' tc ++ ([(R, listOf ws.toArray n')] ++ nx'), by assumption, fun p hp => N1 p (by simp only [List.mem_append, List.mem_cons, List.not_mem_nil, or_false] at hp ⊢; rcases hp with (rfl | rfl | rfl) | rfl | hp <;> simp [*]),
      fun F2 N2 D2 => hret _ ([(R, listOf ws.toArray n')] ++ nx') _ _ _ _ _ ⟨R, ws, n', nx', rfl, rfl, hws⟩ F2 (List.append_assoc _ _ _ ▸ N2)
        (tabs_dis (fun q hq => by rw [List.mem_singleton.mp hq]; exact not_tab (a := ta) (b := a') (c := tc) N1 (.head _) (by intro e; cases e) (fun r hr => by simp only [List.mem_cons, List.not_mem_nil, or_false] at hr; rcases hr with rfl | rfl | rfl <;> k_mem)) (fun q hq r hr => hxa' q hq r (.tail _ (.tail _ hr))) hdis)
        ⟨htab.1.more (fun p hp => by simp only [List.mem_append] at hp ⊢; rcases hp with hp | hp <;> simp [hp]), TabL.more (q := qLamR) htb' (fun p hp => by simp only [List.mem_append] at hp ⊢; rcases hp with hp | hp | hp <;> simp [hp]), htab.2.2.more (fun p hp => by simp only [List.mem_append] at hp ⊢; rcases hp with hp | hp <;> simp [hp])⟩⟩
end
section
def crcStep (n : Nat) (bk : Bool) (T : List Nat) (c x : Nat) : Nat := cond bk (crcStepR T c x) (crcStepF (n - 8) (2 ^ n - 256) T c x)
def crcN (n : Nat) (bk : Bool) (T : List Nat) (c : Nat) (xs : List Nat) : Nat := xs.foldl (crcStep n bk T) c
theorem low8_and {c : Nat} (h : c < 2 ^ 8) : c &&& 255 = c := by
  rw [show 255 = 2 ^ 8 - 1 from rfl, Nat.and_two_pow_sub_one_eq_mod, Nat.mod_eq_of_lt h]
theorem crcStep8_eq {T : List Nat} {c x : Nat} (bk : Bool) (hc : c < 2 ^ 8) : crcStep 8 bk T c x = crcStep8 T c x := by
  cases bk
  · show T.getD (x ^^^ ((c >>> 0) &&& 255)) 0 ^^^ ((c <<< 8) &&& 0) = _
    rw [Nat.and_zero, Nat.xor_zero, Nat.shiftRight_zero, low8_and hc]; rfl
  · show T.getD (x ^^^ (c &&& 255)) 0 ^^^ (c >>> 8) = _
    rw [low8_and hc, Nat.shiftRight_eq_div_pow, Nat.div_eq_of_lt hc, Nat.xor_zero]; rfl
theorem crcN_8 {T : List Nat} (hT : ∀ i, T.getD i 0 < 2 ^ 8) (bk : Bool) : ∀ (xs : List Nat) (c : Nat), c < 2 ^ 8 → crcN 8 bk T c xs = xs.foldl (crcStep8 T) c
  | [], _, _ => rfl
  | x :: xs, c, hc => by
    show crcN 8 bk T (crcStep 8 bk T c x) xs = xs.foldl (crcStep8 T) (crcStep8 T c x)
    rw [crcStep8_eq bk hc]
    exact crcN_8 hT bk xs _ (hT _)
theorem crc_any {w : World} {p : Program} {loose : List Str} {mean : ExcName → Option Value} {mg mb : Str → Option Value} (n : Nat) (bk : Bool) (hn : n = 8 ∨ n = 16 ∨ n = 24 ∨ n = 32) (b : Array UInt8) (c : Int) (tb : Addr) (vs : List Value) (T : List Nat) (t1 t2 : Tok) (hi : IntsAre vs (T.map fun k : Nat => (k : Int))) (hT8 : T.length = 256) (hT : ∀ i, T.getD i 0 < 2 ^ n) :
    GV w p loose mean mg mb 4 (crcA n bk) (fun h => h.IsList tb vs.toArray) [.bytes b t1, .int c t2, .ref tb] (RetN (crcN n bk T (lowN c n) (b.toList.map UInt8.toNat))) := by
  rcases hn with rfl | rfl | rfl | rfl
  · rw [crcN_8 hT bk _ _ (lowN_lt c 8)]
    cases bk
    · exact crc8_gives b c tb vs T t1 t2 hi hT8 hT
    · exact crc8r_gives b c tb vs T t1 t2 hi hT8 hT
  · cases bk
    · exact crc16_gives b c tb vs T t1 t2 hi hT8 hT
    · exact crc16r_gives b c tb vs T t1 t2 hi hT8 hT
  · cases bk
    · exact crc24_gives b c tb vs T t1 t2 hi hT8 hT
    · exact crc24r_gives b c tb vs T t1 t2 hi hT8 hT
  · cases bk
    · exact crc32_gives b c tb vs T t1 t2 hi hT8 hT
    · exact crc32r_gives b c tb vs T t1 t2 hi hT8 hT
/-- a table of 256 numbers below the power -/
def TabOk (n : Nat) (T : List Nat) : Prop := T.length = 256 ∧ ∀ i, T.getD i 0 < 2 ^ n
theorem addRow_lt {m : Nat} {rows : List Nat} {row : Nat} (h : ∀ x ∈ rows, x < 2 ^ m) (hr : row < 2 ^ m) : ∀ x ∈ addRow rows row, x < 2 ^ m := by
  intro x hx
  rcases List.mem_append.mp hx with hx | hx
  · exact h x hx
  · obtain ⟨y, hy, rfl⟩ := List.mem_map.mp hx
    exact Nat.xor_lt_two_pow hr (h y hy)
theorem addRows_lt {m : Nat} : ∀ (all rows : List Nat), (∀ x ∈ rows, x < 2 ^ m) → (∀ x ∈ all, x < 2 ^ m) → ∀ x ∈ all.foldl addRow rows, x < 2 ^ m
  | [], _, h, _ => h
  | a :: all, rows, h, ha => addRows_lt all _ (addRow_lt h (ha a (.head _))) fun x hx => ha x (.tail _ hx)
theorem addRows_len : ∀ (all rows : List Nat), (all.foldl addRow rows).length = rows.length * 2 ^ all.length
  | [], rows => by simp
  | a :: all, rows => by
    show (all.foldl addRow (addRow rows a)).length = _
    rw [addRows_len all]
    simp [addRow, Nat.pow_succ]
    rw [← Nat.two_mul, Nat.mul_comm 2 rows.length, Nat.mul_assoc, Nat.mul_comm 2]
theorem tab_ok {n : Nat} {all : List Nat} (h8 : all.length = 8) (h : ∀ x ∈ all, x < 2 ^ n) : TabOk n (all.foldl addRow [0]) := by
  refine ⟨by rw [addRows_len, h8]; rfl, fun i => ?_⟩
  have hl := addRows_lt all [0] (fun x hx => by rw [List.mem_singleton.mp hx]; exact Nat.two_pow_pos n) h
  by_cases hi : i < (all.foldl addRow [0]).length
  · rw [List.getD_eq_getElem?_getD, List.getElem?_eq_getElem hi]; exact hl _ (List.getElem_mem hi)
  · rw [List.getD_eq_getElem?_getD, List.getElem?_eq_none (Nat.not_lt.mp hi)]; exact Nat.two_pow_pos n
theorem low_lt (x n : Nat) : x &&& ((1 <<< n) - 1) < 2 ^ n := by
  rw [Nat.shiftLeft_eq, Nat.one_mul, Nat.and_two_pow_sub_one_eq_mod]
  exact Nat.mod_lt _ (Nat.two_pow_pos n)
def tabOf (poly n : Nat) (bk : Bool) : List Nat := cond bk (tabrN poly n) (tabN poly n)
theorem tabOf_t (poly n : Nat) : tabOf poly n true = tabrN poly n := by unfold tabOf; exact cond_true _ _
theorem tabOf_f (poly n : Nat) : tabOf poly n false = tabN poly n := by unfold tabOf; exact cond_false _ _
theorem tabOf_ok (poly n : Nat) (bk : Bool) : TabOk n (tabOf poly n bk) := by
  cases bk
  · exact tab_ok (by simp) fun x hx => by obtain ⟨k, _, rfl⟩ := List.mem_map.mp hx; exact low_lt _ _
  · exact tab_ok (by simp) fun x hx => by obtain ⟨k, _, rfl⟩ := List.mem_map.mp hx; exact low_lt _ _
theorem crcStep_lt {n : Nat} {bk : Bool} {T : List Nat} (hT : TabOk n T) (hn : n = 8 ∨ n = 16 ∨ n = 24 ∨ n = 32) {c x : Nat} (hc : c < 2 ^ n) : crcStep n bk T c x < 2 ^ n := by
  cases bk
  · exact Nat.xor_lt_two_pow (hT.2 _) (Nat.lt_of_le_of_lt Nat.and_le_right (by have := Nat.two_pow_pos n; omega))
  · refine Nat.xor_lt_two_pow (hT.2 _) (Nat.lt_of_le_of_lt ?_ hc)
    rw [Nat.shiftRight_eq_div_pow]; exact Nat.div_le_self _ _
theorem crcN_lt {n : Nat} {bk : Bool} {T : List Nat} (hT : TabOk n T) (hn : n = 8 ∨ n = 16 ∨ n = 24 ∨ n = 32) : ∀ (xs : List Nat) (c : Nat), c < 2 ^ n → crcN n bk T c xs < 2 ^ n
  | [], _, hc => hc
  | _ :: xs, _, hc => crcN_lt hT hn xs _ (crcStep_lt hT hn hc)
/-- what crcfun returns from the register c -/
def crcF (n : Nat) (bk : Bool) (T : List Nat) (xo c : Nat) (b : Array UInt8) : Nat := xo ^^^ crcN n bk T (xo ^^^ c) (b.toList.map UInt8.toNat)
theorem lowN_nat (x n : Nat) : lowN (x : Int) n = x % 2 ^ n := by
  have h := lowN_cast (x : Int) n
  rw [two_pow_cast, ← Int.natCast_emod] at h
  exact Int.ofNat.inj h
theorem lowN_small {x n : Nat} (h : x < 2 ^ n) : lowN (x : Int) n = x := by rw [lowN_nat, Nat.mod_eq_of_lt h]
end
section
theorem use_t {w : World} {p : Program} {loose : List Str} {mean : ExcName → Option Value} {mg mb : Str → Option Value} {D : Nat} {f : Addr} {args : List Value} {T : List Nat} {dp un : Nat} {gd : Option (List Code)} {cn : Str} {cs : Scope} {ad : Addr} {ccd : Value} {cl : List (Str × Addr)} {outer : List Env} {A₀ : Around} {base h₀ : Heap} {L : Addr} {mF : Str → Option Value} {a b c : Array Value} {news old : List (Addr × Obj)} {s : Shared} {Q E : Value → Shared → Prop}
    (G : GivesT w p loose mean mg mb D f args (TabPost T)) (B : Below A₀ base outer h₀) (F : Fr h₀ L s.heap mF) (X : (hd.heap_39 w.params).In h₀) (N : News h₀ L s.heap (tabs3 a b c ++ news)) (hdis : ∀ q ∈ news, ∀ r ∈ tabs3 a b c, q.1 ≠ r.1) (hold : ∀ q ∈ old, h₀.get? q.1 = some q.2) (hco : Codes h₀) (htab : Tabs3 a b c (news ++ old)) (TT : Top p loose mean mg mb h₀) (hk : cs.kind = .function) (hdp : dp + D < recursionLimit) (hun : un + 8 * D < cLine)
    (h : ∀ R ws n' rest a' b' c' h' tk', IntsAre ws (castL T) → Fr h₀ L h' mF → News h₀ L h' (tabs3 a' b' c' ++ ((R, listOf ws.toArray n') :: (rest ++ news))) → (∀ q ∈ (R, listOf ws.toArray n') :: (rest ++ news), ∀ r ∈ tabs3 a' b' c', q.1 ≠ r.1) → Tabs3 a' b' c' ((R, listOf ws.toArray n') :: (rest ++ (news ++ old))) → Q (.ref R) { s with heap := h', toks := tk' }) :
    wpAny (model PySem.Challenge.rw_eg5007_01.row.prog w) (ktrTop dp un gd cn cs L ad ccd cl outer) (call (.ref f) args) Q E s := by
  refine G dp un gd cn cs ad ccd cl outer A₀ base h₀ L mF a b c news old s Q E B F X N hold hdis hco htab TT hk hdp hun fun v nx a' b' c' h' tk' hv F' N' hd' ht' => ?_
  obtain ⟨R, ws, n', rest, rfl, rfl, hws⟩ := hv
  exact h R ws n' rest a' b' c' h' tk' hws F' (by simpa using N') (by simpa using hd') (by simpa using ht')
theorem led_order {g h : Heap} {L R : Addr} {a b c : Array Value} {o : Obj} {rest : List (Addr × Obj)} {x : Addr × Obj} (N : News g L h (tabs3 a b c ++ ((R, o) :: (rest ++ [x])))) : News g L h ((191, tabObj c) :: (168, tabObj a) :: (173, tabObj b) :: (R, o) :: x :: rest) := by
  intro q hq
  refine N q ?_
  simp only [List.mem_append, List.mem_cons, List.not_mem_nil, or_false] at hq ⊢
  rcases hq with rfl | rfl | rfl | rfl | rfl | hq <;> simp [*]
theorem led_apart {R : Addr} {a b c : Array Value} {o : Obj} {rest : List (Addr × Obj)} {x : Addr × Obj} (hd : ∀ q ∈ (R, o) :: (rest ++ [x]), ∀ r ∈ tabs3 a b c, q.1 ≠ r.1) : ∀ q ∈ (168, tabObj a) :: (173, tabObj b) :: (R, o) :: x :: rest, q.1 ≠ 191 := by
  intro q hq
  have h3 : (191, tabObj c) ∈ tabs3 a b c := .tail _ (.tail _ (.head _))
  simp only [List.mem_cons] at hq
  rcases hq with rfl | rfl | rfl | rfl | hq
  · show (168 : Nat) ≠ 191; decide
  · show (173 : Nat) ≠ 191; decide
  · exact hd _ (.head _) _ h3
  · exact hd q (.tail _ (List.mem_append_right _ (.head _))) _ h3
  · exact hd q (.tail _ (List.mem_append_left _ hq)) _ h3
theorem free_base {M : Model} {A : Around} {E : Value → Shared → Prop} {s : Shared} {h₀ : Heap} {L c : Addr} {mF : Str → Option Value} {env : Env} {x : Str} {pos : Pos} {v : Value} {o : Obj} {Q : Value → Shared → Prop} (F : Fr h₀ L s.heap mF) (ho : h₀.get? c = some o) (hd : o.data = .cell (some v)) (h : Q v s)
    (hk : env.scope.kind = .function) (hx : env.kindOf x = some .free) (hc : env.cells.lookup x = some c) (hb : (x == ("__debug__" : Str)) = false := by decide) (hn : (x == ("__classdict__" : Str)) = false := by decide) :
    wpAny M A (eval (.Name x pos) env) Q E s := wpAny_Name (wpAny_loadName_free hk hx hc ⟨o, F.keep _ _ ho, hd⟩ h hn) hb
def CrcDoes (w : World) (p : Program) (loose : List Str) (mean : ExcName → Option Value) (mg mb : Str → Option Value) (f : Addr) (pre : Heap → Prop) (n : Nat) (bk : Bool) (T : List Nat) (xo ini : Nat) : Prop :=
  ∀ (b : Array UInt8) (t : Tok), GV w p loose mean mg mb 5 f pre [.bytes b t] (RetN (crcF n bk T xo ini b)) ∧ ∀ (c : Int) (u : Tok), GV w p loose mean mg mb 5 f pre [.bytes b t, .int c u] (RetN (crcF n bk T xo (lowN c n) b))
def IsFn (o : Obj) : Prop := ∃ oc od fd sl, o = ⟨oc, od, .func fd, sl⟩
def CrcPost (w : World) (p : Program) (loose : List Str) (mean : ExcName → Option Value) (mg mb : Str → Option Value) (n : Nat) (bk : Bool) (T : List Nat) (xo ini : Nat) (v : Value) (nx led : List (Addr × Obj)) : Prop :=
  ∃ f R tp, v = .ref tp ∧ (∃ k, (tp, ({ cls := .type "tuple", data := .seq #[.ref f, .ref R] k } : Obj)) ∈ nx) ∧ (∃ o, (f, o) ∈ nx ∧ IsFn o) ∧ CrcDoes w p loose mean mg mb f (fun h => ∀ q ∈ nx ++ led, h.get? q.1 = some q.2) n bk T xo ini

theorem retN_of {a b : Nat} {t : Tok} (e : a = b) : RetN b (.int (a : Int) t) [] := ⟨rfl, t, by rw [e]⟩
theorem cf_a {n xo ini : Nat} {bk : Bool} {T : List Nat} {b : Array UInt8} (h0 : xo = 0) (hi : ini < 2 ^ n) : crcN n bk T (lowN (ini : Int) n) (b.toList.map UInt8.toNat) = crcF n bk T xo ini b := by
  subst h0; rw [lowN_small hi]; unfold crcF; rw [Nat.zero_xor, Nat.zero_xor]
theorem cf_b {n xo : Nat} {bk : Bool} {T : List Nat} {b : Array UInt8} {c : Int} (h0 : xo = 0) : crcN n bk T (lowN c n) (b.toList.map UInt8.toNat) = crcF n bk T xo (lowN c n) b := by
  subst h0; unfold crcF; rw [Nat.zero_xor, Nat.zero_xor]
theorem cf_c {n xo ini : Nat} {bk : Bool} {T : List Nat} {b : Array UInt8} (hx : xo < 2 ^ n) (hi : ini < 2 ^ n) : xo ^^^ crcN n bk T (lowN ((xo ^^^ ini : Nat) : Int) n) (b.toList.map UInt8.toNat) = crcF n bk T xo ini b := by
  rw [lowN_small (Nat.xor_lt_two_pow hx hi)]; rfl
theorem cf_d {n xo : Nat} {bk : Bool} {T : List Nat} {b : Array UInt8} {c : Int} (hx : xo < 2 ^ n) : xo ^^^ crcN n bk T (lowN (Builtin.bitXor (xo : Int) c) n) (b.toList.map UInt8.toNat) = crcF n bk T xo (lowN c n) b := by
  rw [lowN_xor, lowN_small hx]; rfl
theorem crc_bye {w : World} {p : Program} {loose : List Str} {mean : ExcName → Option Value} {mg mb : Str → Option Value} {n : Nat} {bk : Bool} {T : List Nat} {xo ini : Nat} {h₀ g h' : Heap} {L L' tp fA RA : Addr} {mF m' : Str → Option Value} {news old rest nx : List (Addr × Obj)} {x2 x3 x4 x5 : Addr × Obj} {a b c c2 : Array Value} {k tk : Nat} {cv : Value} {q : Str} {s : Shared} {Q E : Value → Shared → Prop}
    (hret : ∀ v nx a' b' c' h' tk', CrcPost w p loose mean mg mb n bk T xo ini v nx (news ++ old) → Fr h₀ L h' mF → News h₀ L h' (tabs3 a' b' c' ++ (nx ++ news)) → (∀ q ∈ nx ++ news, ∀ r ∈ tabs3 a' b' c', q.1 ≠ r.1) → Tabs3 a' b' c' (nx ++ news ++ old) → Q v { s with heap := h', toks := tk' })
    (F : Fr g L' h' m') (N : News g L' h' ((tp, { cls := .type "tuple", data := .seq #[.ref fA, .ref RA] k }) :: x2 :: x3 :: (191, tabObj c2) :: (168, tabObj a) :: (173, tabObj b) :: x4 :: x5 :: (rest ++ nx)))
    (ef : fA = x2.1) (eR : RA = x4.1) (hfn : IsFn x2.2) (h1 : 191 < tp) (h2 : 191 < x2.1) (h3 : 191 < x3.1) (hd1 : ∀ q ∈ x4 :: (rest ++ [x5]), ∀ r ∈ tabs3 a b c, q.1 ≠ r.1)
    (hxa : ∀ q ∈ nx, ∀ r ∈ x3 :: (191, tabObj c) :: (168, tabObj a) :: (173, tabObj b) :: x4 :: x5 :: rest, r.1 < q.1)
    (hdis : ∀ q ∈ news, ∀ r ∈ tabs3 a b c, q.1 ≠ r.1) (ht1 : Tabs3 a b c (x4 :: (rest ++ ([x5] ++ (news ++ old))))) (htb : TabL qFun c2 (nx ++ (x4 :: (rest ++ ([x5] ++ (news ++ old))))))
    (hcr : ∀ hh : Heap, (∀ q ∈ nx ++ (x4 :: (rest ++ ([x5] ++ (news ++ old)))), hh.get? q.1 = some q.2) → hh.CodeRec cv q)
    (does : ∀ pre : Heap → Prop, (∀ h, pre h → h.get? x2.1 = some x2.2 ∧ h.get? x3.1 = some x3.2 ∧ h.get? x4.1 = some x4.2 ∧ h.get? x5.1 = some x5.2 ∧ h.CodeRec cv q) → CrcDoes w p loose mean mg mb x2.1 pre n bk T xo ini) :
    Bye h₀ L mF g news (fun r s' => match r with | .ok (.ret v) => Q v s' | .ok _ => False | .error e => E e s') (.ref tp) { s with heap := h', toks := tk } := by
  subst ef; subst eR
  have hmem : ∀ q, q ∈ nx ++ (x4 :: (rest ++ ([x5] ++ (news ++ old)))) → q ∈ ([(tp, { cls := .type "tuple", data := .seq #[.ref x2.1, .ref x4.1] k }), x2, x3, x4, x5] ++ (rest ++ nx)) ++ news ++ old := by
    intro q hq
    simp only [List.mem_append, List.mem_cons, List.not_mem_nil, or_false] at hq ⊢
    rcases hq with hq | hq | hq | hq | hq | hq <;> simp [hq]
  refine ⟨_, _, tabs3 a b c2 ++ ([(tp, { cls := .type "tuple", data := .seq #[.ref x2.1, .ref x4.1] k }), x2, x3, x4, x5] ++ (rest ++ nx)), F, fun q hq => N q ?_, fun F2 N2 D2 => hret _ ([(tp, { cls := .type "tuple", data := .seq #[.ref x2.1, .ref x4.1] k }), x2, x3, x4, x5] ++ (rest ++ nx)) a b c2 h' tk
    ⟨x2.1, x4.1, tp, rfl, ⟨k, .head _⟩, ⟨x2.2, .tail _ (.head _), hfn⟩, does _ fun h hp => ⟨?_, ?_, ?_, ?_, ?_⟩⟩ F2 (List.append_assoc _ _ _ ▸ N2) ?_ ⟨ht1.1.more ?_, ht1.2.1.more ?_, htb.more hmem⟩⟩
  · simp only [List.mem_append, List.mem_cons, List.not_mem_nil, or_false] at hq ⊢
    rcases hq with (hq | hq | hq) | (hq | hq | hq | hq | hq) | hq | hq <;> simp [hq]
  · exact hp _ (List.mem_append_left _ (List.mem_append_left _ (.tail _ (.head _))))
  · exact hp _ (List.mem_append_left _ (List.mem_append_left _ (.tail _ (.tail _ (.head _)))))
  · exact hp _ (List.mem_append_left _ (List.mem_append_left _ (.tail _ (.tail _ (.tail _ (.head _))))))
  · exact hp _ (List.mem_append_left _ (List.mem_append_left _ (.tail _ (.tail _ (.tail _ (.tail _ (.head _)))))))
  · exact hcr h fun q hq => hp q (List.append_assoc _ _ _ ▸ hmem q hq)
  · intro q hq r hr
    obtain ⟨r0, h0, e⟩ := tabs3_at (a := a) (b := b) (c := c) hr
    have hr191 : r.1 ≤ 191 := by
      simp only [List.mem_cons, List.not_mem_nil, or_false] at hr
      rcases hr with rfl | rfl | rfl <;> simp
    rw [← e] at hr191 ⊢
    simp only [List.mem_append, List.mem_cons, List.not_mem_nil, or_false] at hq
    rcases hq with ((rfl | rfl | rfl | rfl | rfl) | hq | hq) | hq
    · exact Nat.ne_of_gt (Nat.lt_of_le_of_lt hr191 h1)
    · exact Nat.ne_of_gt (Nat.lt_of_le_of_lt hr191 h2)
    · exact Nat.ne_of_gt (Nat.lt_of_le_of_lt hr191 h3)
    · exact hd1 _ (.head _) _ h0
    · exact hd1 _ (.tail _ (List.mem_append_right _ (.head _))) _ h0
    · exact hd1 q (.tail _ (List.mem_append_left _ hq)) _ h0
    · refine Nat.ne_of_gt (hxa q hq r0 ?_)
      simp only [List.mem_cons, List.not_mem_nil, or_false] at h0
      rcases h0 with rfl | rfl | rfl
      · exact .tail _ (.tail _ (.head _))
      · exact .tail _ (.tail _ (.tail _ (.head _)))
      · exact .tail _ (.head _)
    · exact hdis q hq _ h0
  · exact fun q hq => hmem q (List.mem_append_right _ hq)
  · exact fun q hq => hmem q (List.mem_append_right _ hq)

theorem bye_ret {h₀ g : Heap} {L L' : Addr} {mF m' : Str → Option Value} {news nx : List (Addr × Obj)} {Q E : Value → Shared → Prop} {v : Value} {s' : Shared} (F : Fr g L' s'.heap m') (N : News g L' s'.heap nx) (k : Fr h₀ L s'.heap mF → News h₀ L s'.heap (nx ++ news) → (∀ q ∈ news, ∀ r ∈ nx, q.1 ≠ r.1) → Q v s') :
    Bye h₀ L mF g news (fun r s' => match r with | .ok (.ret v) => Q v s' | .ok _ => False | .error e => E e s') v s' := ⟨L', m', nx, F, N, k⟩
end
section
set_option hygiene false in
local macro_rules | `(tactic| fail "enterTC") => `(tactic| k_dflt (refine' enterKTC ?k1 ?k2 ?k3 ?k4 ?kdis ?k5 ?kA ?kF ?kK ?k6 ?k7 ?k8 ?k9 ?kB ?kD ?_ ?c2 ?c3 ?c4; (case kA => exact rfl); (case kF => exact rfl); (case kK => assumption); (case k1 => k_asm); (case k2 => k_asm); (case k3 => k_asm); (case k4 => k_asm); (case kdis => assumption); (case k5 => k_asm); (case k6 => k_is); (case k7 => k_is); (case k8 => ktr_room); (case k9 => first | exact BindsTo.of_eq rfl | exact binds_K (by k_in) rfl (by k_is) rfl rfl rfl); (case kB => exact rfl); (case kD => decide +kernel); (case c2 => exact rfl); (case c3 => exact rfl); (case c4 => exact rfl); k_whole; intro g' L' h' tk' cells' st' nn' hg' F' N' Y' B' X' T' l1; (try k_lt l1); k_cells Y'; (try simp only [List.cons_append, List.nil_append] at N'); (try dsimp only); (try k_fold)))
set_option hygiene false in
local macro_rules | `(tactic| fail "enterT") => `(tactic| k_dflt (refine' enterKT ?k1 ?k2 ?k3 ?k4 ?kdis ?k5 ?kA ?kF ?kK ?k6 ?k7 ?k8 ?k9 ?kB ?_ ?c2 ?c3 ?c4 ?c5; (case kA => exact rfl); (case kF => exact rfl); (case kK => assumption); (case k1 => k_asm); (case k2 => k_asm); (case k3 => k_asm); (case k4 => k_asm); (case kdis => assumption); (case k5 => k_asm); (case k6 => k_is); (case k7 => k_is); (case k8 => ktr_room); (case k9 => first | exact BindsTo.of_eq rfl | exact binds_K (by k_in) rfl (by k_is) rfl rfl rfl); (case c5 => decide); (case kB => exact locs rfl); (case c2 => exact rfl); (case c3 => exact rfl); (case c4 => exact rfl); k_whole; intro g' L' h' st' nn' hg' F' N' B' X' T'; (try dsimp only); (try k_fold)))
local macro_rules | `(tactic| fail "subscriptTail") => `(tactic| (k_here; k_dflt (refine kdict_item (by k_asm) (by k_asm) (by k_is) (by rfl) (sz_find (by assumption) _ _ _ _ _) ?_)))
local macro_rules | `(tactic| fail "subscriptTail") => `(tactic| (k_here; k_dflt (refine sz_item (b := true) (by assumption) (by k_asm) (by k_asm) rfl (by fail "sz lists") ?_)))
local macro_rules | `(tactic| fail "subscriptTail") => `(tactic| (k_here; k_dflt (refine sz_item (b := false) (by assumption) (by k_asm) (by k_asm) rfl (by fail "sz lists") ?_)))
local macro_rules | `(tactic| fail "sz lists") => `(tactic| (intro i h1 h4; (have hi : i = 1 ∨ i = 2 ∨ i = 3 ∨ i = 4 := by omega); rcases hi with hi | hi | hi | hi <;> subst hi <;> exact ⟨_, by k_is⟩))
local macro_rules | `(tactic| fail "exec FunctionDef") => `(tactic| (k_here; k_dflt (refine' kdv_def ?d0 ?k0 ?a0 ?_; (case d0 => exact rfl); (case k0 => exact rfl); (case a0 => exact rfl))))
local macro_rules | `(tactic| fail "evalAll") => `(tactic| (k_here; (with_reducible show wpAny _ _ (evalAll (evalEach _ _)) _ _ _); k_dflt (first | refine kdv_all1 ?_ | refine kdv_all0 ?_)))
local macro_rules | `(tactic| fail "makeFunction") => `(tactic| (k_here; k_dflt (refine' kdv_tuple ?F ?N ?ne ?_; (case F => k_asm); (case N => k_asm); (case ne => exact rfl); k_whole); intro t' h' F' N' l1; (try k_lt l1)))
set_option hygiene false in
local macro_rules | `(tactic| fail "makeTail") => `(tactic| (k_here; k_dflt (refine' def_any ?F ?N ?T ?C ?cd ?U ?t ?cl ?_; (case F => k_asm); (case N => k_asm); (case T => k_asm); (case cd => exact rfl); (case C => assumption); (case U => exact .tail (Nat.ne_of_gt (by omega)) (.head (by assumption))); (case t => assumption); (case cl => exact rfl); k_whole); intro f' c' a' nx' ct' dc' h' tk' F' N' hcr' htb' hxa' hxf' l1; (try dsimp only at N'); (try simp only [List.cons_append, List.nil_append] at N'); (try k_lt l1)))
set_option hygiene false in
local macro_rules | `(tactic| fail "enterFun") => `(tactic| (k_dflt (refine' enterB ?k1 ?k2 ?k3 ?k4 ?k5 ?kA ?kF ?kK ?k6 ?k7 ?kc ?k8 ?k9 ?kB ?_ ?c5 ?c2 ?c3 ?c4; (case kA => exact rfl); (case kF => exact rfl); (case kK => assumption); (case k6 => exact hfo); (case k7 => exact rfl); (case k1 => k_asm); (case k2 => k_asm); (case k3 => k_asm); (case k4 => k_asm); (case k5 => k_asm); (case kc => exact hcr); (case k8 => ktr_room); (case k9 => exact BindsTo.of_defaults rfl htu rfl rfl rfl); (case c5 => decide); (case kB => exact locs rfl); (case c2 => exact rfl); (case c3 => exact rfl); (case c4 => exact rfl); k_whole; intro L' h' F' N' B' X' T'; (try dsimp only); (try k_fold))))
set_option hygiene false in
local macro_rules | `(tactic| fail "call ref") => `(tactic| (k_here; k_dflt (refine' use_n (D := 4) ?kG ?k1 ?k2 ?k3 ?k4 ?k5 ?kK ?kd ?ku ?kP ?_; fail "use sides"; (case kG => exact crc_any _ _ hn _ _ _ _ _ _ _ hws hT.1 hT.2); (case kP => exact Fr.lst (by k_asm) hli2); (case kd => ktr_room); (case ku => ktr_units)); intro t' h' tk' F' N'; (try dsimp only); (try k_fold)))
set_option hygiene false in
local macro_rules | `(tactic| fail "callWith ref") => `(tactic| (k_here; k_dflt (refine' callWith_K ?k1 ?k2 ?_; (case k1 => k_asm); (case k2 => rcases hn with hn | hn | hn | hn <;> subst hn <;> k_is); k_whole)))
set_option hygiene false in
local macro_rules | `(tactic| fail "eval Name") => `(tactic| (k_here; k_dflt (refine free_base (by k_asm) hce hX2 ?_ rfl rfl rfl)))
theorem mkcrc_gives {w : World} {p : Program} {loose : List Str} {mean : ExcName → Option Value} {mg mb : Str → Option Value} (poly n : Nat) (ini xo : Nat) (bk : Bool) (t1 t2 t3 t4 : Tok) (hn : n = 8 ∨ n = 16 ∨ n = 24 ∨ n = 32) (hini : ini < 2 ^ n) (hxo : xo < 2 ^ n) :
    GivesT w p loose mean mg mb 6 196 [.int (poly : Int) t1, .int (n : Int) t2, .int (ini : Int) t3, .bool bk, .int (xo : Int) t4] (CrcPost w p loose mean mg mb n bk (tabOf poly n bk) xo ini) := by
  unfold GivesT
  k_fill
  intro dp un gd cn cs ad ccd cl outer A₀ base h₀ L mF ta tb tc news old s Q E B F X N hold hdis hco htab TT hk hdp hun hret
  refine wpAny_call ?_
  fail "enterTC"
  have nn2 := both_in nn' st' hold
  have hco' := hco.keeps (by assumption)
  obtain ⟨hcd1, hcd2, hcd3⟩ := id hco'
  cases bk with
  | true =>
    rw [tabOf_t] at hret
    fail "go"
    rename Obj => oX
    refine' use_t (D := 3) (a := ta) (b := tb) (c := tc) (news := [(L' + 1, oX)]) (old := news ++ old) (T := tabrN poly n) ?G ?B ?F ?X ?N ?hdis ?hold ?hco ?htab ?TT ?hk ?hdp ?hun ?_
    case TT => k_asm
    case N => exact fun q hq => N' q (by simp only [List.mem_append, List.mem_cons, List.not_mem_nil, or_false] at hq ⊢; rcases hq with (rfl | rfl | rfl) | rfl <;> simp)
    case G => exact mktabler_gives poly n _ _ (by omega) (by omega)
    case B => k_asm
    case F => k_asm
    case X => k_asm
    case hk => rfl
    case hdp => ktr_room
    case hun => ktr_units
    case hco => exact hco'
    case hold => exact nn2
    case htab => exact htab.more (fun q hq => List.mem_append_right _ hq)
    case hdis =>
      intro q hq r hr
      rw [List.mem_singleton.mp hq]
      simp only [List.mem_cons, List.not_mem_nil, or_false] at hr
      rcases hr with rfl | rfl | rfl <;> exact Nat.ne_of_gt (by omega)
    intro R ws n' rest a1 b1 c1 h1 tk1 hws F1 N1 hd1 ht1
    have N2 := led_order N1
    have hU := led_apart hd1
    have htc := ht1.2.2
    clear N1 N'
    have hT : TabOk n (tabrN poly n) := by rw [← tabOf_t]; exact tabOf_ok poly n true
    rename oX.data = _ => hX
    have hX2 : oX.data = .cell (some (.int (xo : Int) t4)) := hX
    fail "go"
    all_goals
      first | rename (xo : Int) = 0 => hx0 | rename (xo : Int) ≠ 0 => hx0
      rename News _ _ _ _ => N9
      refine crc_bye hret (by assumption) N9 rfl rfl ⟨_, _, _, _, rfl⟩ (by show (191 : Nat) < _; omega) (by show (191 : Nat) < f'; omega) (by dsimp only; show (191 : Nat) < _; omega) hd1 hxa' (fun q hq r hr => by obtain ⟨r0, h0, e⟩ := tabs3_at (a := ta) (b := tb) (c := tc) hr; rw [← e]; exact hdis q hq r0 h0) ht1 htb' hcr' ?_
      clear hret hcr' hxa' htb'
      intro pre hp b tb0
      refine ⟨?_, fun c0 u0 => ?_⟩
      all_goals
        unfold GV Gives
        intro dp un gd cn cs ad ccd cl outer A₀ base h₀ L mF news s Q E B F X N TT hk hdp hun hpre hret
        obtain ⟨hfo, htu, hli, hce, hcr⟩ := hp _ hpre
        have hli2 : s.heap.IsList R ws.toArray := ⟨_, hli, rfl, _, rfl⟩
        refine wpAny_call ?_
        fail "enterFun"
        fail "go"
        refine bye_ret (nx := []) (by with_reducible assumption) (by with_reducible assumption) (fun F1 N1 D1 => hret _ [] _ _ (retN_of ?_) F1 N1 D1)
        with_reducible first | exact cf_a (by omega) hini | exact cf_b (by omega) | exact cf_c hxo hini | exact cf_d hxo
  | false =>
    rw [tabOf_f] at hret
    fail "go"
    rename Obj => oX
    refine' use_t (D := 3) (a := ta) (b := tb) (c := tc) (news := [(L' + 1, oX)]) (old := news ++ old) (T := tabN poly n) ?G ?B ?F ?X ?N ?hdis ?hold ?hco ?htab ?TT ?hk ?hdp ?hun ?_
    case TT => k_asm
    case N => exact fun q hq => N' q (by simp only [List.mem_append, List.mem_cons, List.not_mem_nil, or_false] at hq ⊢; rcases hq with (rfl | rfl | rfl) | rfl <;> simp)
    case G => exact mktable_gives poly n _ _ (by omega) (by omega)
    case B => k_asm
    case F => k_asm
    case X => k_asm
    case hk => rfl
    case hdp => ktr_room
    case hun => ktr_units
    case hco => exact hco'
    case hold => exact nn2
    case htab => exact htab.more (fun q hq => List.mem_append_right _ hq)
    case hdis =>
      intro q hq r hr
      rw [List.mem_singleton.mp hq]
      simp only [List.mem_cons, List.not_mem_nil, or_false] at hr
      rcases hr with rfl | rfl | rfl <;> exact Nat.ne_of_gt (by omega)
    intro R ws n' rest a1 b1 c1 h1 tk1 hws F1 N1 hd1 ht1
    have N2 := led_order N1
    have hU := led_apart hd1
    have htc := ht1.2.2
    clear N1 N'
    have hT : TabOk n (tabN poly n) := by rw [← tabOf_f]; exact tabOf_ok poly n false
    rename oX.data = _ => hX
    have hX2 : oX.data = .cell (some (.int (xo : Int) t4)) := hX
    fail "go"
    all_goals
      first | rename (xo : Int) = 0 => hx0 | rename (xo : Int) ≠ 0 => hx0
      rename News _ _ _ _ => N9
      refine crc_bye hret (by assumption) N9 rfl rfl ⟨_, _, _, _, rfl⟩ (by show (191 : Nat) < _; omega) (by show (191 : Nat) < f'; omega) (by dsimp only; show (191 : Nat) < _; omega) hd1 hxa' (fun q hq r hr => by obtain ⟨r0, h0, e⟩ := tabs3_at (a := ta) (b := tb) (c := tc) hr; rw [← e]; exact hdis q hq r0 h0) ht1 htb' hcr' ?_
      clear hret hcr' hxa' htb'
      intro pre hp b tb0
      refine ⟨?_, fun c0 u0 => ?_⟩
      all_goals
        unfold GV Gives
        intro dp un gd cn cs ad ccd cl outer A₀ base h₀ L mF news s Q E B F X N TT hk hdp hun hpre hret
        obtain ⟨hfo, htu, hli, hce, hcr⟩ := hp _ hpre
        have hli2 : s.heap.IsList R ws.toArray := ⟨_, hli, rfl, _, rfl⟩
        refine wpAny_call ?_
        fail "enterFun"
        fail "go"
        refine bye_ret (nx := []) (by with_reducible assumption) (by with_reducible assumption) (fun F1 N1 D1 => hret _ [] _ _ (retN_of ?_) F1 N1 D1)
        with_reducible first | exact cf_a (by omega) hini | exact cf_b (by omega) | exact cf_c hxo hini | exact cf_d hxo
end
section
set_option hygiene false in
local macro_rules | `(tactic| fail "enterTC") => `(tactic| k_dflt (refine' enterKTC ?k1 ?k2 ?k3 ?k4 ?kdis ?k5 ?kA ?kF ?kK ?k6 ?k7 ?k8 ?k9 ?kB ?kD ?_ ?c2 ?c3 ?c4; (case kA => exact rfl); (case kF => exact rfl); (case kK => assumption); (case k1 => k_asm); (case k2 => k_asm); (case k3 => k_asm); (case k4 => k_asm); (case kdis => assumption); (case k5 => k_asm); (case k6 => k_is); (case k7 => k_is); (case k8 => ktr_room); (case k9 => first | exact BindsTo.of_eq rfl | exact binds_K (by k_in) rfl (by k_is) rfl rfl rfl); (case kB => exact rfl); (case kD => decide +kernel); (case c2 => exact rfl); (case c3 => exact rfl); (case c4 => exact rfl); k_whole; intro g' L' h' tk' cells' st' nn' hg' F' N' Y' B' X' T' l1; (try k_lt l1); k_cells Y'; (try simp only [List.cons_append, List.nil_append] at N'); (try dsimp only); (try k_fold)))
set_option hygiene false in
local macro_rules | `(tactic| fail "enterT") => `(tactic| k_dflt (refine' enterKT ?k1 ?k2 ?k3 ?k4 ?kdis ?k5 ?kA ?kF ?kK ?k6 ?k7 ?k8 ?k9 ?kB ?_ ?c2 ?c3 ?c4 ?c5; (case kA => exact rfl); (case kF => exact rfl); (case kK => assumption); (case k1 => k_asm); (case k2 => k_asm); (case k3 => k_asm); (case k4 => k_asm); (case kdis => assumption); (case k5 => k_asm); (case k6 => k_is); (case k7 => k_is); (case k8 => ktr_room); (case k9 => first | exact BindsTo.of_eq rfl | exact binds_K (by k_in) rfl (by k_is) rfl rfl rfl); (case c5 => decide); (case kB => exact locs rfl); (case c2 => exact rfl); (case c3 => exact rfl); (case c4 => exact rfl); k_whole; intro g' L' h' st' nn' hg' F' N' B' X' T'; (try dsimp only); (try k_fold)))
def MkPost (w : World) (p : Program) (loose : List Str) (mean : ExcName → Option Value) (mg mb : Str → Option Value) (n : Nat) (bk : Bool) (T : List Nat) (xo ini : Nat) (v : Value) (nx led : List (Addr × Obj)) : Prop :=
  ∃ f, v = .ref f ∧ (∃ o, (f, o) ∈ nx ∧ IsFn o) ∧ CrcDoes w p loose mean mg mb f (fun h => ∀ q ∈ nx ++ led, h.get? q.1 = some q.2) n bk T xo ini
theorem use_tg {w : World} {p : Program} {loose : List Str} {mean : ExcName → Option Value} {mg mb : Str → Option Value} {D : Nat} {f : Addr} {args : List Value} {post : Value → List (Addr × Obj) → List (Addr × Obj) → Prop} {dp un : Nat} {gd : Option (List Code)} {cn : Str} {cs : Scope} {ad : Addr} {ccd : Value} {cl : List (Str × Addr)} {outer : List Env} {A₀ : Around} {base h₀ : Heap} {L : Addr} {mF : Str → Option Value} {a b c : Array Value} {news old : List (Addr × Obj)} {s : Shared} {Q E : Value → Shared → Prop}
    (G : GivesT w p loose mean mg mb D f args post) (B : Below A₀ base outer h₀) (F : Fr h₀ L s.heap mF) (X : (hd.heap_39 w.params).In h₀) (N : News h₀ L s.heap (tabs3 a b c ++ news)) (hdis : ∀ q ∈ news, ∀ r ∈ tabs3 a b c, q.1 ≠ r.1) (hold : ∀ q ∈ old, h₀.get? q.1 = some q.2) (hco : Codes h₀) (htab : Tabs3 a b c (news ++ old)) (TT : Top p loose mean mg mb h₀) (hk : cs.kind = .function) (hdp : dp + D < recursionLimit) (hun : un + 8 * D < cLine)
    (h : ∀ v nx a' b' c' h' tk', post v nx (news ++ old) → Fr h₀ L h' mF → News h₀ L h' (tabs3 a' b' c' ++ (nx ++ news)) → (∀ q ∈ nx ++ news, ∀ r ∈ tabs3 a' b' c', q.1 ≠ r.1) → Tabs3 a' b' c' (nx ++ news ++ old) → Q v { s with heap := h', toks := tk' }) :
    wpAny (model PySem.Challenge.rw_eg5007_01.row.prog w) (ktrTop dp un gd cn cs L ad ccd cl outer) (call (.ref f) args) Q E s :=
  G dp un gd cn cs ad ccd cl outer A₀ base h₀ L mF a b c news old s Q E B F X N hold hdis hco htab TT hk hdp hun h
theorem CrcDoes.pre {w : World} {p : Program} {loose : List Str} {mean : ExcName → Option Value} {mg mb : Str → Option Value} {f : Addr} {pre pre' : Heap → Prop} {n : Nat} {bk : Bool} {T : List Nat} {xo ini : Nat} (d : CrcDoes w p loose mean mg mb f pre n bk T xo ini) (hp : ∀ h, pre' h → pre h) : CrcDoes w p loose mean mg mb f pre' n bk T xo ini :=
  fun b t => ⟨fun dp un gd cn cs a ccd cl outer A₀ base h₀ L mF news s Q E B F X N TT hk hd hu hpre h => (d b t).1 dp un gd cn cs a ccd cl outer A₀ base h₀ L mF news s Q E B F X N TT hk hd hu (hp _ hpre) h,
    fun c u dp un gd cn cs a ccd cl outer A₀ base h₀ L mF news s Q E B F X N TT hk hd hu hpre h => (d b t).2 c u dp un gd cn cs a ccd cl outer A₀ base h₀ L mF news s Q E B F X N TT hk hd hu (hp _ hpre) h⟩
set_option hygiene false in
local macro_rules | `(tactic| fail "subscriptTail") => `(tactic| (k_here; k_dflt (refine item_tupleT htp (j := 0) (by decide) (by decide) rfl rfl ?_)))
set_option hygiene false in
local macro_rules | `(tactic| fail "call ref") => `(tactic| (k_here; k_dflt (refine' use_g (D := 2) ?kG ?k1 ?k2 ?k3 ?k4 ?k5 ?kK ?kd ?ku ?kP ?_; fail "use sides"; (case kG => exact vparams_gives _ n _ _ _ _ _ hn h0 h1); (case kP => trivial); (case kd => ktr_room); (case ku => ktr_units)); intro v1 nx1 h1' tk1 hv1 F1 N1 D1; (obtain ⟨TP, ta1, ta2, ta3, hv1, hnx1⟩ := hv1); subst hv1; subst hnx1; (try simp only [List.cons_append, List.nil_append] at N1); (try dsimp only); (try k_fold)))
theorem mk_gives {w : World} {p : Program} {loose : List Str} {mean : ExcName → Option Value} {mg mb : Str → Option Value} (poly n : Nat) (i x : Int) (bk : Bool) (t1 t2 t3 : Tok) (hn : n = 8 ∨ n = 16 ∨ n = 24 ∨ n = 32) (h0 : 2 ^ n ≤ poly) (h1 : poly < 2 ^ (n + 1)) :
    GivesT w p loose mean mg mb 7 138 [.int (poly : Int) t1, .int i t2, .bool bk, .int x t3] (MkPost w p loose mean mg mb n bk (tabOf poly n bk) (lowN x n) (lowN i n)) := by
  unfold GivesT
  k_fill
  intro dp un gd cn cs ad ccd cl outer A₀ base h₀ L mF ta tb tc news old s Q E B F X N hold hdis hco htab TT hk hdp hun hret
  refine wpAny_call ?_
  fail "enterT"
  have nn2 := both_in nn' st' hold
  have hco' := hco.keeps (by assumption)
  fail "go"
  rename News _ _ _ _ => N9
  refine' use_tg (D := 6) (news := [(TP, _)]) (old := news ++ old) (a := ta) (b := tb) (c := tc) ?G ?B ?F ?X ?N ?hdis ?hold ?hco ?htab ?TT ?hk ?hdp ?hun ?_
  case TT => k_asm
  case G => exact mkcrc_gives poly n (lowN i n) (lowN x n) bk _ _ _ _ hn (lowN_lt _ _) (lowN_lt _ _)
  case N => exact fun q hq => N9 q (by rcases List.mem_append.mp hq with hq | hq; exact .tail _ hq; rw [List.mem_singleton.mp hq]; exact .head _)
  case B => k_asm
  case F => k_asm
  case X => k_asm
  case hk => rfl
  case hdp => ktr_room
  case hun => ktr_units
  case hco => exact hco'
  case hold => exact nn2
  case htab => exact htab.more (fun q hq => List.mem_append_right _ hq)
  case hdis =>
    intro q hq r hr
    rw [List.mem_singleton.mp hq]
    exact fun e => D1 r hr _ (.head _) e.symm
  intro v nx a1 b1 c1 h1 tk1 hv F2 N2 hd2 ht2
  obtain ⟨f, R, tp, rfl, ⟨k, hm⟩, ⟨fo, hfm, hfn⟩, hdoes⟩ := hv
  have htp : IsTup h1 tp [Value.ref f, Value.ref R].toArray := ⟨_, (N2 _ (List.mem_append_right _ (List.mem_append_left _ hm))).1, rfl, _, rfl⟩
  clear N9
  fail "go"
  exact ⟨_, _, tabs3 a1 b1 c1 ++ (nx ++ [(TP, _)]), by assumption, N2, fun FF NN DD => hret _ (nx ++ [(TP, _)]) a1 b1 c1 _ _
    ⟨f, rfl, ⟨fo, List.mem_append_left _ hfm, hfn⟩, hdoes.pre fun h hp q hq => hp q (by rw [List.append_assoc]; exact hq)⟩ FF (List.append_assoc _ _ _ ▸ NN)
    (fun q hq r hr => by
      rcases List.mem_append.mp hq with hq | hq
      · exact hd2 q hq r hr
      · obtain ⟨r0, h0, e⟩ := tabs3_at (a := ta) (b := tb) (c := tc) hr
        rw [← e]; exact hdis q hq r0 h0)
    (ht2.more fun q hq => by rw [List.append_assoc]; exact hq)⟩
end
section
def stepsL : List Nat := [1, 7, 11, 13, 17, 19, 23, 29]
def unitsL : List Nat := [1, 7, 11, 13, 19, 23, 29, 31, 37, 43, 47, 53, 59, 61, 91, 127]
def leastKV : List (Nat × Nat) := [(1, 285), (3, 375), (5, 499), (7, 361), (9, 445), (11, 487), (13, 299), (15, 471), (19, 357), (21, 395), (23, 355), (25, 283), (27, 319), (29, 397), (31, 301), (37, 351), (39, 505), (43, 451), (45, 313), (47, 425), (53, 391), (55, 433), (59, 333), (61, 463), (63, 477), (87, 419), (91, 501), (95, 415), (111, 379), (127, 369)]
def firstsL : List Nat := leastKV.map (·.1)
inductive EntsAre : List DictEntry → List (Nat × Nat) → Prop
  | nil : EntsAre [] []
  | cons (k v : Nat) (t u : Tok) {es : List DictEntry} {kv : List (Nat × Nat)} : EntsAre es kv → EntsAre (⟨(k : Int), .int (k : Int) t, .int (v : Int) u⟩ :: es) ((k, v) :: kv)
theorem EntsAre.find {es : List DictEntry} {kv : List (Nat × Nat)} (h : EntsAre es kv) (j v : Nat) (e : kv.lookup j = some v) : ∃ u, findBy Value.isInt es.toArray (j : Int) = some (.int (v : Int) u) := by
  induction h with
  | nil => cases e
  | cons k w t u r ih =>
    rename_i es kv
    unfold findBy
    simp only [List.find?_toArray, List.find?_cons]
    by_cases hk : j = k
    · subst hk
      rw [List.lookup_cons_self] at e
      cases e
      exact ⟨u, by simp [Value.isInt]⟩
    · have hb : Value.isInt (j : Int) (.int (k : Int) t) = false := by
        simp only [Value.isInt, beq_eq_false_iff_ne, ne_eq]; omega
      rw [hb]
      rw [List.lookup_cons, show (j == k) = false by simpa using hk] at e
      obtain ⟨u', hu⟩ := ih e
      refine ⟨u', ?_⟩
      unfold findBy at hu
      simpa [List.find?_toArray] using hu
section
variable {prog : Program} {w : World} {A : Around} {E : Value → Shared → Prop} {s : Shared} {h₀ : Heap} {L : Addr} {mF : Str → Option Value} {K : Frag} {value slice : PySem.Expr} {x y : Int} {t u : Tok} {Q : Value → Shared → Prop}
theorem nat_all {ns : List Nat} (h : (ns.all fun k => decide (k < 256)) = true) (r : Nat) : ns.getD r 0 < 256 := by
  by_cases hr : r < ns.length
  · rw [List.getD_eq_getElem?_getD, List.getElem?_eq_getElem hr]
    have := List.all_eq_true.mp h _ (List.getElem_mem hr)
    simpa using this
  · rw [List.getD_eq_getElem?_getD, List.getElem?_eq_none (Nat.not_lt.mp hr)]; decide
theorem mod_abs {k : Nat} (hy : y = (k : Int)) (hk : 0 < k) (h : ∀ r : Nat, (r : Int) = x.fmod (k : Int) → r < k → Q (.int (r : Int) s.toks) { s with toks := s.toks + 1 }) : wpAny (model prog w) A (binaryOp .Mod (.int x t) (.int y u)) Q E s := by
  subst hy
  have h0 := Int.fmod_nonneg_of_pos x (show (0 : Int) < (k : Int) by omega)
  have h1 := Int.fmod_lt_of_pos x (show (0 : Int) < (k : Int) by omega)
  refine mod_int' (by omega) ?_
  have h2 := h (x.fmod k).toNat (Int.toNat_of_nonneg h0) (by omega)
  rw [Int.toNat_of_nonneg h0] at h2; exact h2
theorem tup_nat {a : Addr} {l : List Value} {ns : List Nat} {r : Nat} (hT : IsTup s.heap a l.toArray) (hi : IntsAre l (ns.map fun k : Nat => (k : Int))) (hx : x = (r : Int)) (hr : r < ns.length) (hl : ns.length ≤ 1000) (hb : (ns.all fun k => decide (k < 256)) = true) (h : ∀ (j : Nat) u, j = ns.getD r 0 → j < 256 → Q (.int (j : Int) u) s)
    (hs : subscripted slice false (.ref a) (.int x t) = operate [.ref a, .int x t] (getItem (.ref a) (.int x t)) := by with_unfolding_all rfl) :
    wpAny (model prog w) A (subscriptTail value slice (.ref a) (.int x t)) Q E s := by
  subst hx
  obtain ⟨u, hu⟩ := ints_getN hi hr
  have hll : l.length = ns.length := by have := hi.length; simpa using this
  refine item_tupleT hT (j := r) (by omega) (by omega) ?_ hu (h _ u rfl (nat_all hb _)) hs
  have h0 : ¬ ((r : Int) < 0) := by omega
  have h1 : (decide (0 ≤ (r : Int)) && decide ((r : Int) < (l.length : Int))) = true := by
    rw [hll]; simp only [Bool.and_eq_true, decide_eq_true_eq]; omega
  unfold seqIndex?
  dsimp only
  rw [if_neg h0, if_pos h1, Int.toNat_natCast]
theorem tup_base {a : Addr} {l : List Value} {ns : List Nat} {r : Nat} (F : Fr h₀ L s.heap mF) (X : K.In h₀) (hl : K.lookup a = some { cls := .type "tuple", data := .seq l.toArray }) (hi : IntsAre l (ns.map fun k : Nat => (k : Int))) (hx : x = (r : Int)) (hr : r < ns.length) (hle : ns.length ≤ 1000) (hb : (ns.all fun k => decide (k < 256)) = true) (h : ∀ (j : Nat) u, j = ns.getD r 0 → j < 256 → Q (.int (j : Int) u) s)
    (hs : subscripted slice false (.ref a) (.int x t) = operate [.ref a, .int x t] (getItem (.ref a) (.int x t)) := by with_unfolding_all rfl) :
    wpAny (model prog w) A (subscriptTail value slice (.ref a) (.int x t)) Q E s :=
  tup_nat ⟨_, F.keep _ _ (X _ _ hl), rfl, _, rfl⟩ hi hx hr hle hb h hs
theorem tup_led {a : Addr} {l : List Value} {ns : List Nat} {r : Nat} {news : List (Addr × Obj)} (N : News h₀ L s.heap news) (hm : (a, ({ cls := .type "tuple", data := .seq l.toArray } : Obj)) ∈ news) (hi : IntsAre l (ns.map fun k : Nat => (k : Int))) (hx : x = (r : Int)) (hr : r < ns.length) (hle : ns.length ≤ 1000) (hb : (ns.all fun k => decide (k < 256)) = true) (h : ∀ (j : Nat) u, j = ns.getD r 0 → j < 256 → Q (.int (j : Int) u) s)
    (hs : subscripted slice false (.ref a) (.int x t) = operate [.ref a, .int x t] (getItem (.ref a) (.int x t)) := by with_unfolding_all rfl) :
    wpAny (model prog w) A (subscriptTail value slice (.ref a) (.int x t)) Q E s :=
  tup_nat ⟨_, (N _ hm).1, rfl, _, rfl⟩ hi hx hr hle hb h hs
theorem draw_item {l : Addr} {vs : List Value} {ds : List Int} {k : Nat} {news : List (Addr × Obj)} (N : News h₀ L s.heap news) (hm : (l, LCg.lst vs) ∈ news) (hi : IntsAre vs ds) (hx : x = (k : Int)) (hk : k < ds.length) (h : ∀ u, Q (.int (ds.getD k 0) u) s) (hk2 : k ≤ 1000)
    (hs : subscripted slice false (.ref l) (.int x t) = operate [.ref l, .int x t] (getItem (.ref l) (.int x t)) := by with_unfolding_all rfl) :
    wpAny (model prog w) A (subscriptTail value slice (.ref l) (.int x t)) Q E s := by
  subst hx
  obtain ⟨u, hu⟩ := hi.get k (ds.getD k 0) (by simp [hk])
  have hl : s.heap.IsList l vs.toArray := ⟨_, (N _ hm).1, rfl, _, rfl⟩
  exact tail_any hl.typeIs slot_list_getitem.lookup (wpAny_getItem_list hl (by omega) (by omega) (by simpa using hu) (h u)) hs
theorem least_item {d : Addr} {es : List DictEntry} {ep : Nat} {j : Nat} (F : Fr h₀ L s.heap mF) (X : K.In h₀) (hl : K.lookup d = some { cls := .type "dict", data := .dict es.toArray ep }) (hk : (es.all fun e => match e.key with | .int k _ => e.hash == hashInt k | _ => false) = true)
    (he : EntsAre es leastKV) (hx : x = (j : Int)) (hj : (leastKV.lookup j).isSome = true) (h : ∀ (v : Nat) u, leastKV.lookup j = some v → Q (.int (v : Int) u) { s with toks := s.toks + 1 })
    (hs : subscripted slice false (.ref d) (.int x t) = operate [.ref d, .int x t] (getItem (.ref d) (.int x t)) := by with_unfolding_all rfl) :
    wpAny (model prog w) A (subscriptTail value slice (.ref d) (.int x t)) Q E s := by
  subst hx
  obtain ⟨v, hv⟩ := Option.isSome_iff_exists.mp hj
  obtain ⟨u, hu⟩ := he.find j v hv
  exact kdict_item F X hl hk hu (h v u hv) hs
end
end
section
theorem frag_least (q : Params) : ∃ es ep, (hd.heap_39 q).lookup 197 = some { cls := .type "dict", data := .dict (List.toArray es) ep } ∧ (es.all fun e => match e.key with | .int k _ => e.hash == hashInt k | _ => false) = true ∧ EntsAre es leastKV :=
  ⟨_, _, rfl, rfl, by repeat (first | exact .nil | refine .cons _ _ _ _ ?_)⟩
theorem frag_firsts (q : Params) : ∃ l, (hd.heap_39 q).lookup 199 = some { cls := .type "tuple", data := .seq (List.toArray l) } ∧ IntsAre l (firstsL.map fun k : Nat => (k : Int)) :=
  ⟨_, rfl, by repeat (first | exact .nil | refine .cons _ _ ?_)⟩
theorem frag_units (q : Params) : ∃ l, (hd.heap_39 q).lookup 200 = some { cls := .type "tuple", data := .seq (List.toArray l) } ∧ IntsAre l (unitsL.map fun k : Nat => (k : Int)) :=
  ⟨_, rfl, by repeat (first | exact .nil | refine .cons _ _ ?_)⟩
section
variable {prog : Program} {w : World} {q : Params} {A : Around} {E : Value → Shared → Prop} {s : Shared} {h₀ : Heap} {L : Addr} {mF : Str → Option Value} {value slice : PySem.Expr} {x : Int} {t : Tok} {Q : Value → Shared → Prop}
theorem least_at {j : Nat} (F : Fr h₀ L s.heap mF) (X : (hd.heap_39 q).In h₀) (hx : x = (j : Int)) (hj : (leastKV.lookup j).isSome = true) (h : ∀ (v : Nat) u, leastKV.lookup j = some v → Q (.int (v : Int) u) { s with toks := s.toks + 1 })
    (hs : subscripted slice false (.ref 197) (.int x t) = operate [.ref 197, .int x t] (getItem (.ref 197) (.int x t)) := by with_unfolding_all rfl) :
    wpAny (model prog w) A (subscriptTail value slice (.ref 197) (.int x t)) Q E s :=
  let ⟨_, _, hl, hk, he⟩ := frag_least q
  least_item F X hl hk he hx hj h hs
theorem firsts_at {r : Nat} (F : Fr h₀ L s.heap mF) (X : (hd.heap_39 q).In h₀) (hx : x = (r : Int)) (hr : r < 30) (h : ∀ (j : Nat) u, j = firstsL.getD r 0 → j < 256 → Q (.int (j : Int) u) s)
    (hs : subscripted slice false (.ref 199) (.int x t) = operate [.ref 199, .int x t] (getItem (.ref 199) (.int x t)) := by with_unfolding_all rfl) :
    wpAny (model prog w) A (subscriptTail value slice (.ref 199) (.int x t)) Q E s :=
  let ⟨_, hl, hi⟩ := frag_firsts q
  tup_base (ns := firstsL) F X hl hi hx hr (by decide) (by decide) h hs
theorem units_at {r : Nat} (F : Fr h₀ L s.heap mF) (X : (hd.heap_39 q).In h₀) (hx : x = (r : Int)) (hr : r < 16) (h : ∀ (j : Nat) u, j = unitsL.getD r 0 → j < 256 → Q (.int (j : Int) u) s)
    (hs : subscripted slice false (.ref 200) (.int x t) = operate [.ref 200, .int x t] (getItem (.ref 200) (.int x t)) := by with_unfolding_all rfl) :
    wpAny (model prog w) A (subscriptTail value slice (.ref 200) (.int x t)) Q E s :=
  let ⟨_, hl, hi⟩ := frag_units q
  tup_base (ns := unitsL) F X hl hi hx hr (by decide) (by decide) h hs
end
end
section
def mOf (a b : Nat) : Nat := (unitsL.getD a 0 * (1 <<< b)) % 255
def invOf (m : Nat) : Nat := Builtin.powMod (m % 255) 15 255
def lOf (j : Nat) : Nat := (leastKV.lookup j).getD 0
theorem firstAt_mod (j : Nat) : ∀ k, firstAt j k = firstAt (j % 255) k
  | 0 => by show (j % 255, j % 255) = (j % 255 % 255, j % 255 % 255); rw [Nat.mod_mod]
  | k + 1 => by show firstStep (firstAt j k) = firstStep (firstAt (j % 255) k); rw [firstAt_mod j k]
theorem firstN_mod (j : Nat) : firstN (j % 255) = firstN j := by unfold firstN; rw [firstAt_mod j 7]
theorem firstN_cong {a b : Nat} (h : a % 255 = b % 255) : firstN a = firstN b := by rw [← firstN_mod a, h, firstN_mod]
theorem first_dbl0 : ∀ x < 255, firstN (2 * x) = firstN x := by decide +kernel
theorem first_dbl (x : Nat) : firstN (2 * x) = firstN x := by
  have h := first_dbl0 (x % 255) (Nat.mod_lt _ (by decide))
  rw [firstN_mod x] at h
  rw [← h]
  exact firstN_cong (by omega)
theorem first_pow (x : Nat) : ∀ k, firstN (x * 2 ^ k) = firstN x
  | 0 => by rw [Nat.pow_zero, Nat.mul_one]
  | k + 1 => by
    rw [show x * 2 ^ (k + 1) = 2 * (x * 2 ^ k) by rw [Nat.pow_succ, ← Nat.mul_assoc, Nat.mul_comm], first_dbl, first_pow x k]
theorem inv_split : ∀ a < 16, ∀ b < 8, invOf (mOf a b) % 255 = (invOf (mOf a 0) * 2 ^ ((8 - b) % 8)) % 255 := by decide +kernel
theorem g_same {a b : Nat} (ha : a < 16) (hb : b < 8) (j : Nat) : firstN (j * invOf (mOf a b)) = firstN (j * invOf (mOf a 0)) := by
  rw [← first_pow (j * invOf (mOf a 0)) ((8 - b) % 8)]
  refine firstN_cong ?_
  rw [Nat.mul_assoc, Nat.mul_mod, inv_split a ha b hb, ← Nat.mul_mod]
theorem look_ok0 : ∀ a < 16, ∀ r < 30, (leastKV.lookup (firstN (firstsL.getD r 0 * invOf (mOf a 0)))).isSome = true := by decide +kernel
theorem look_ok : ∀ a < 16, ∀ b < 8, ∀ r < 30, (leastKV.lookup (firstN (firstsL.getD r 0 * invOf (mOf a b)))).isSome = true := fun a ha b hb r hr => by
  rw [g_same ha hb]; exact look_ok0 a ha r hr
theorem look_first : ∀ r < 30, (leastKV.lookup (firstsL.getD r 0)).isSome = true := by decide +kernel
theorem least_rng : ∀ p ∈ leastKV, 2 ^ 8 ≤ p.2 ∧ p.2 < 2 ^ 9 := by decide +kernel
theorem lookup_mem {j v : Nat} : ∀ {kv : List (Nat × Nat)}, kv.lookup j = some v → (j, v) ∈ kv
  | [], e => nomatch e
  | (k, w) :: kv, e => by
    rw [List.lookup_cons] at e
    by_cases hk : (j == k) = true
    · rw [hk] at e
      have : j = k := by simpa using hk
      subst this
      cases e; exact .head _
    · have hk' : (j == k) = false := by simpa using hk
      rw [hk'] at e
      exact .tail _ (lookup_mem e)
theorem l_rng {j : Nat} (h : (leastKV.lookup j).isSome = true) : 2 ^ 8 ≤ lOf j ∧ lOf j < 2 ^ 9 := by
  obtain ⟨v, hv⟩ := Option.isSome_iff_exists.mp h
  unfold lOf
  rw [hv]
  exact least_rng _ (lookup_mem hv)
theorem firsts_lt : ∀ r < 30, firstsL.getD r 0 < 256 := by decide +kernel
theorem xor_keep {x y l : Nat} (h0 : 2 ^ l ≤ x) (h1 : x < 2 ^ (l + 1)) (hy : y < 2 ^ l) : 2 ^ l ≤ y ^^^ x ∧ y ^^^ x < 2 ^ (l + 1) := by
  refine ⟨shr_ne ?_, Nat.xor_lt_two_pow (Nat.lt_of_lt_of_le hy (Nat.pow_le_pow_right (by decide) (by omega))) h1⟩
  have e1 : x >>> l = 1 := by
    rw [Nat.shiftRight_eq_div_pow]
    rw [Nat.pow_succ] at h1
    exact Nat.div_eq_of_lt_le (by omega) (by omega)
  have e2 : y >>> l = 0 := by rw [Nat.shiftRight_eq_div_pow]; exact Nat.div_eq_of_lt hy
  rw [Nat.shiftRight_xor_distrib, e1, e2]
  decide
theorem clm_acc : ∀ (k v a b : Nat), clm k v a b = v ^^^ clm k 0 a b
  | 0, v, a, b => by show v = v ^^^ 0; rw [Nat.xor_zero]
  | k + 1, v, a, b => by
    show clm k (if b % 2 = 1 then v ^^^ a else v) (a <<< 1) (b >>> 1) = v ^^^ clm k (if b % 2 = 1 then 0 ^^^ a else 0) (a <<< 1) (b >>> 1)
    rw [clm_acc k (if b % 2 = 1 then v ^^^ a else v), clm_acc k (if b % 2 = 1 then 0 ^^^ a else 0)]
    split
    · rw [Nat.zero_xor, Nat.xor_assoc]
    · rw [Nat.zero_xor]
theorem clm_rng : ∀ (k a b i j : Nat), j < k → 2 ^ i ≤ a → a < 2 ^ (i + 1) → 2 ^ j ≤ b → b < 2 ^ (j + 1) → 2 ^ (i + j) ≤ clm k 0 a b ∧ clm k 0 a b < 2 ^ (i + j + 1)
  | 0, _, _, _, _, h, _, _, _, _ => absurd h (Nat.not_lt_zero _)
  | k + 1, a, b, i, j, hj, a0, a1, b0, b1 => by
    show 2 ^ (i + j) ≤ clm k (if b % 2 = 1 then 0 ^^^ a else 0) (a <<< 1) (b >>> 1) ∧ clm k (if b % 2 = 1 then 0 ^^^ a else 0) (a <<< 1) (b >>> 1) < 2 ^ (i + j + 1)
    have es : a <<< 1 = a * 2 := by rw [Nat.shiftLeft_eq]
    have eb : b >>> 1 = b / 2 := by rw [Nat.shiftRight_eq_div_pow]
    rw [clm_acc]
    cases j with
    | zero =>
      have : b = 1 := by omega
      subst this
      rw [show (1 : Nat) >>> 1 = 0 from rfl, clm_zero, if_pos (by decide), Nat.zero_xor, Nat.xor_zero]
      exact ⟨a0, a1⟩
    | succ j =>
      have h := clm_rng k (a <<< 1) (b >>> 1) (i + 1) j (by omega) (by rw [es, Nat.pow_succ]; omega) (by rw [es, Nat.pow_succ]; omega) (by rw [eb]; rw [Nat.pow_succ] at b0; omega) (by rw [eb]; rw [Nat.pow_succ] at b1; omega)
      rw [show i + 1 + j = i + (j + 1) by omega] at h
      refine xor_keep h.1 h.2 ?_
      have hp : 2 ^ (i + 1) ≤ 2 ^ (i + (j + 1)) := Nat.pow_le_pow_right (by decide) (by omega)
      split
      · rw [Nat.zero_xor]; omega
      · exact Nat.two_pow_pos _
/-- the place in firsts of turn i -/
def rAt (d1 : Int) (st i : Nat) : Nat := ((d1 + ((i * st : Nat) : Int)).fmod 30).toNat
def jAt (d1 : Int) (st i : Nat) : Nat := firstsL.getD (rAt d1 st i) 0
def pAt (d1 : Int) (st : Nat) : Nat → Nat
  | 0 => 1
  | i + 1 => clm 64 0 (pAt d1 st i) (lOf (jAt d1 st i))
def qAt (d1 : Int) (st inv : Nat) : Nat → Nat
  | 0 => 1
  | i + 1 => clm 64 0 (qAt d1 st inv i) (lOf (firstN (jAt d1 st i * inv)))
theorem r_lt (d1 : Int) (st i : Nat) : rAt d1 st i < 30 := by
  unfold rAt
  have h0 := Int.fmod_nonneg_of_pos (d1 + ((i * st : Nat) : Int)) (show (0 : Int) < 30 by decide)
  have h1 := Int.fmod_lt_of_pos (d1 + ((i * st : Nat) : Int)) (show (0 : Int) < 30 by decide)
  omega
theorem p_rng (d1 : Int) (st : Nat) : ∀ i, 2 ^ (8 * i) ≤ pAt d1 st i ∧ pAt d1 st i < 2 ^ (8 * i + 1)
  | 0 => by show 2 ^ 0 ≤ 1 ∧ 1 < 2 ^ 1; decide
  | i + 1 => by
    have h := p_rng d1 st i
    have l := l_rng (look_first _ (r_lt d1 st i))
    exact clm_rng 64 _ _ (8 * i) 8 (by decide) h.1 h.2 l.1 l.2
theorem q_rng (d1 : Int) (st a b : Nat) (ha : a < 16) (hb : b < 8) : ∀ i, 2 ^ (8 * i) ≤ qAt d1 st (invOf (mOf a b)) i ∧ qAt d1 st (invOf (mOf a b)) i < 2 ^ (8 * i + 1)
  | 0 => by show 2 ^ 0 ≤ 1 ∧ 1 < 2 ^ 1; decide
  | i + 1 => by
    have h := q_rng d1 st a b ha hb i
    have l := l_rng (look_ok a ha b hb _ (r_lt d1 st i))
    exact clm_rng 64 _ _ (8 * i) 8 (by decide) h.1 h.2 l.1 l.2
theorem rng_64 {x i : Nat} (h : 2 ^ (8 * i) ≤ x ∧ x < 2 ^ (8 * i + 1)) (hi : i ≤ 4) : x < 2 ^ 64 := Nat.lt_of_lt_of_le h.2 (Nat.pow_le_pow_right (by decide) (by omega))

theorem pow_inv {prog : Program} {w : World} {A : Around} {E : Value → Shared → Prop} {s : Shared} {x y z : Int} {m : Nat} {t u v : Tok} {Q : Value → Shared → Prop} (hx : x = (m : Int)) (hy : y = 15) (hz : z = 255) (h : ∀ tk', Q (.int ((invOf m : Nat) : Int) tk') { s with toks := tk' + 1 }) :
    wpAny (model prog w) A (call (.builtin "pow") [.int x t, .int y u, .int z v]) Q E s := by
  subst hx; subst hy; subst hz
  refine pow_call fun tk' => ?_
  have e : ((m : Int) % 255).toNat = m % 255 := by omega
  rw [e]; exact h tk'
theorem m_is {j r3 r4 m : Nat} (hj : j = unitsL.getD r3 0) (hm : (m : Int) = (((j * (1 <<< r4) : Nat) : Int)).fmod ((255 : Nat) : Int)) : m = mOf r3 r4 := by
  rw [fmod_nat] at hm
  unfold mOf
  rw [← hj]; omega
theorem one_shl_lt {r : Nat} (h : r < 8) : 1 <<< r < 2 ^ 250 := by
  rw [Nat.shiftLeft_eq, Nat.one_mul]; exact Nat.pow_lt_pow_right (by decide) (by omega)
open PySem.Builtin.Int (intBits) in
theorem draw_gen {ys : List Value} {f : Int → Int} (h : IntsAre ys (List.map f (rangeKs 0 (12 - 0 : Int).toNat))) (hb : ∀ k : Int, k.natAbs < 2 ^ 30 → intBits (f k) ≤ 1048576) : ∃ ds : List Int, IntsAre ys ds ∧ ds.length = 12 ∧ ∀ k, intBits (ds.getD k 0) ≤ 1048576 := by
  refine ⟨_, h, by simp [rangeKs], fun k => ?_⟩
  by_cases hk : k < (List.map f (rangeKs 0 (12 - 0 : Int).toNat)).length
  · rw [List.getD_eq_getElem?_getD, List.getElem?_eq_getElem hk, List.getElem_map]
    refine hb _ ?_
    have hm := mem_rangeKs (List.getElem_mem (l := rangeKs 0 (12 - 0 : Int).toNat) (n := k) (by simpa using hk))
    omega
  · rw [List.getD_eq_getElem?_getD, List.getElem?_eq_none (Nat.not_lt.mp hk)]
    decide
open PySem.Builtin.Int (intBits) in
theorem draw_bits {ns : List Int} (hl : PyData.layable0 (.list (ns.map .int)) = true) (k : Int) (hk : k.natAbs < 2 ^ 30) : intBits (if k < (ns.length : Int) then ns.getD k.toNat 0 else 13 * k + 2) ≤ 1048576 := by
  split
  · exact bits_getD hl
  · exact Nat.le_trans (intBits_le (k := 64) (by omega)) (by decide)
theorem inv_lt : ∀ a < 16, ∀ b < 8, invOf (mOf a b) < 255 := by decide +kernel
theorem look_64 {j v : Nat} (h : leastKV.lookup j = some v) : v < 2 ^ 64 := Nat.lt_trans (least_rng _ (lookup_mem h)).2 (by decide)
theorem look_is {j v : Nat} (h : leastKV.lookup j = some v) : v = lOf j := by unfold lOf; rw [h]; rfl
theorem some_first {j r : Nat} (hj : j = firstsL.getD r 0) (hr : r < 30) : (leastKV.lookup j).isSome = true := by rw [hj]; exact look_first r hr
theorem some_times {j r mm a b : Nat} (hj : j = firstsL.getD r 0) (hr : r < 30) (hm : mm = mOf a b) (ha : a < 16) (hb : b < 8) : (leastKV.lookup (firstN (j * invOf mm))).isSome = true := by rw [hj, hm]; exact look_ok a ha b hb r hr
theorem r_is {d1 : Int} {st i r : Nat} (h : (r : Int) = (d1 + ((i * st : Nat) : Int)).fmod ((30 : Nat) : Int)) : r = rAt d1 st i := by
  unfold rAt
  show r = ((d1 + ((i * st : Nat) : Int)).fmod ((30 : Nat) : Int)).toNat
  omega
theorem p_step {d1 : Int} {st r j v pp i : Nat} (hr : (r : Int) = (d1 + ((i * st : Nat) : Int)).fmod ((30 : Nat) : Int)) (hj : j = firstsL.getD r 0) (hv : leastKV.lookup j = some v) (hp : pp = pAt d1 st i) : clm 64 0 pp v = pAt d1 st (i + 1) := by
  rw [look_is hv, hj, r_is hr, hp]; rfl
theorem q_step {d1 : Int} {st r j v qq i inv : Nat} (hr : (r : Int) = (d1 + ((i * st : Nat) : Int)).fmod ((30 : Nat) : Int)) (hj : j = firstsL.getD r 0) (hv : leastKV.lookup (firstN (j * inv)) = some v) (hp : qq = qAt d1 st inv i) : clm 64 0 qq v = qAt d1 st inv (i + 1) := by
  rw [look_is hv, hj, r_is hr, hp]; rfl
end
section
/-- the sum (xor) of H i over the bits i of V below K -/
def bsum : Nat → Nat → (Nat → Nat) → Nat
  | 0, _, _ => 0
  | k + 1, V, H => bsum k V H ^^^ (if V.testBit k then H k else 0)
theorem x_swap (a b c d : Nat) : (a ^^^ b) ^^^ (c ^^^ d) = (a ^^^ c) ^^^ (b ^^^ d) := by
  rw [Nat.xor_assoc, ← Nat.xor_assoc b c d, Nat.xor_comm b c, Nat.xor_assoc c b d, ← Nat.xor_assoc]
theorem bsum_zero (H : Nat → Nat) : ∀ K, bsum K 0 H = 0
  | 0 => rfl
  | k + 1 => by show bsum k 0 H ^^^ (if (0 : Nat).testBit k then H k else 0) = 0; rw [bsum_zero H k, Nat.zero_testBit]; simp
theorem bsum_xor (a b : Nat) (H : Nat → Nat) : ∀ K, bsum K (a ^^^ b) H = bsum K a H ^^^ bsum K b H
  | 0 => (Nat.xor_self 0).symm
  | k + 1 => by
    show bsum k (a ^^^ b) H ^^^ (if (a ^^^ b).testBit k then H k else 0) = (bsum k a H ^^^ (if a.testBit k then H k else 0)) ^^^ (bsum k b H ^^^ (if b.testBit k then H k else 0))
    rw [bsum_xor a b H k, x_swap, Nat.testBit_xor]
    congr 1
    cases a.testBit k <;> cases b.testBit k <;> simp
theorem bsum_fun (V : Nat) (G H : Nat → Nat) : ∀ K, bsum K V (fun i => G i ^^^ H i) = bsum K V G ^^^ bsum K V H
  | 0 => (Nat.xor_self 0).symm
  | k + 1 => by
    show bsum k V (fun i => G i ^^^ H i) ^^^ (if V.testBit k then G k ^^^ H k else 0) = (bsum k V G ^^^ (if V.testBit k then G k else 0)) ^^^ (bsum k V H ^^^ (if V.testBit k then H k else 0))
    rw [bsum_fun V G H k, x_swap]
    congr 1
    cases V.testBit k <;> simp
theorem bsum_congr {V : Nat} {G H : Nat → Nat} : ∀ {K : Nat}, (∀ i < K, V.testBit i = true → G i = H i) → bsum K V G = bsum K V H
  | 0, _ => rfl
  | k + 1, h => by
    show bsum k V G ^^^ (if V.testBit k then G k else 0) = bsum k V H ^^^ (if V.testBit k then H k else 0)
    rw [bsum_congr fun i hi hb => h i (Nat.lt_succ_of_lt hi) hb]
    congr 1
    cases hb : V.testBit k
    · rfl
    · simp [h k (Nat.lt_succ_self k) hb]
theorem bsum_none (V : Nat) : ∀ K, bsum K V (fun _ => 0) = 0
  | 0 => rfl
  | k + 1 => by
    show bsum k V (fun _ => 0) ^^^ (if V.testBit k then 0 else 0) = 0
    rw [bsum_none V k]; cases V.testBit k <;> rfl
theorem bsum_more {V : Nat} (H : Nat → Nat) {K : Nat} (hV : V < 2 ^ K) : ∀ d, bsum (K + d) V H = bsum K V H
  | 0 => rfl
  | d + 1 => by
    show bsum (K + d) V H ^^^ (if V.testBit (K + d) then H (K + d) else 0) = bsum K V H
    rw [bsum_more H hV d, Nat.testBit_lt_two_pow (Nat.lt_of_lt_of_le hV (Nat.pow_le_pow_right (by decide) (by omega)))]
    simp
theorem bsum_le {V : Nat} (H : Nat → Nat) {K K' : Nat} (hV : V < 2 ^ K) (hK : K ≤ K') : bsum K' V H = bsum K V H := by
  have := bsum_more H hV (K' - K)
  rwa [show K + (K' - K) = K' by omega] at this
theorem bsum_one (H : Nat → Nat) {i : Nat} : ∀ {K : Nat}, i < K → bsum K (2 ^ i) H = H i
  | k + 1, h => by
    show bsum k (2 ^ i) H ^^^ (if (2 ^ i).testBit k then H k else 0) = H i
    by_cases hk : i = k
    · subst hk
      rw [Nat.testBit_two_pow_self]
      have h0 : bsum i (2 ^ i) H = 0 := by
        rw [bsum_congr (H := fun _ => 0) (fun j hj hb => ?_), bsum_none]
        rw [Nat.testBit_two_pow_of_ne (by omega)] at hb; cases hb
      rw [h0]; simp
    · rw [Nat.testBit_two_pow_of_ne hk, bsum_one H (by omega)]; simp
/-- a map that respects xor -/
def Lin (f : Nat → Nat) : Prop := ∀ a b, f (a ^^^ b) = f a ^^^ f b
theorem Lin.zero {f : Nat → Nat} (h : Lin f) : f 0 = 0 := by
  have := h 0 0
  rw [Nat.xor_self, Nat.xor_self] at this; exact this
theorem Lin.bsum {f : Nat → Nat} (h : Lin f) (V : Nat) (H : Nat → Nat) : ∀ K, f (bsum K V H) = bsum K V fun i => f (H i)
  | 0 => h.zero
  | k + 1 => by
    show f (Mine.bsum k V H ^^^ (if V.testBit k then H k else 0)) = Mine.bsum k V (fun i => f (H i)) ^^^ (if V.testBit k then f (H k) else 0)
    rw [h, Lin.bsum h V H k]
    congr 1
    cases V.testBit k
    · exact h.zero
    · rfl
theorem bsum_lin (K : Nat) (H : Nat → Nat) : Lin fun V => bsum K V H := fun a b => bsum_xor a b H K
theorem mod_succ_bit (V K : Nat) : V % 2 ^ (K + 1) = V % 2 ^ K ^^^ (if V.testBit K then 2 ^ K else 0) := by
  apply Nat.eq_of_testBit_eq
  intro i
  rw [Nat.testBit_xor, Nat.testBit_mod_two_pow, Nat.testBit_mod_two_pow]
  by_cases h : i = K
  · subst h
    cases hb : V.testBit i
    · simp
    · simp [Nat.testBit_two_pow_self]
  · by_cases h2 : i < K
    · have e : (if V.testBit K then 2 ^ K else 0).testBit i = false := by
        cases V.testBit K
        · simp
        · simp [Nat.testBit_two_pow_of_ne (Ne.symm h)]
      rw [e]; simp [h2, show i < K + 1 by omega]
    · have e : (if V.testBit K then 2 ^ K else 0).testBit i = false := by
        cases V.testBit K
        · simp
        · simp [Nat.testBit_two_pow_of_ne (Ne.symm h)]
      rw [e]; simp [h2, show ¬ i < K + 1 by omega]
theorem bsum_pow (V : Nat) : ∀ K, bsum K V (fun i => 2 ^ i) = V % 2 ^ K
  | 0 => by show 0 = V % 2 ^ 0; simp [Nat.mod_one]
  | k + 1 => by
    show bsum k V (fun i => 2 ^ i) ^^^ (if V.testBit k then 2 ^ k else 0) = V % 2 ^ (k + 1)
    rw [bsum_pow V k, mod_succ_bit]
theorem Lin.by_bits {f : Nat → Nat} (h : Lin f) {V K : Nat} (hV : V < 2 ^ K) : f V = Mine.bsum K V fun i => f (2 ^ i) := by
  have := h.bsum V (fun i => 2 ^ i) K
  rw [bsum_pow, Nat.mod_eq_of_lt hV] at this; exact this
theorem bsum_swap (V W : Nat) (H : Nat → Nat → Nat) (L : Nat) : ∀ K, bsum K V (fun i => bsum L W fun j => H i j) = bsum L W fun j => bsum K V fun i => H i j
  | 0 => (bsum_none W L).symm
  | k + 1 => by
    show bsum k V (fun i => bsum L W fun j => H i j) ^^^ (if V.testBit k then bsum L W fun j => H k j else 0) = bsum L W fun j => (bsum k V fun i => H i j) ^^^ (if V.testBit k then H k j else 0)
    rw [bsum_fun, bsum_swap V W H L k]
    congr 1
    cases V.testBit k
    · simp [bsum_none]
    · simp
theorem bsum_low (V : Nat) (H : Nat → Nat) : ∀ K, bsum (K + 1) V H = (if V.testBit 0 then H 0 else 0) ^^^ bsum K (V >>> 1) fun i => H (i + 1)
  | 0 => by
    show 0 ^^^ (if V.testBit 0 then H 0 else 0) = _ ^^^ 0
    rw [Nat.zero_xor, Nat.xor_zero]
  | k + 1 => by
    show bsum (k + 1) V H ^^^ (if V.testBit (k + 1) then H (k + 1) else 0) = _ ^^^ (bsum k (V >>> 1) (fun i => H (i + 1)) ^^^ (if (V >>> 1).testBit k then H (k + 1) else 0))
    rw [bsum_low V H k, Nat.xor_assoc, Nat.testBit_shiftRight, Nat.add_comm 1 k]
theorem bsum_shl (V : Nat) (H : Nat → Nat) (K : Nat) : bsum (K + 1) (V <<< 1) H = bsum K V fun i => H (i + 1) := by
  rw [bsum_low, show (V <<< 1).testBit 0 = false by simp, show (V <<< 1) >>> 1 = V by rw [Nat.shiftLeft_shiftRight]]
  simp
theorem clm_bsum : ∀ (k a b K : Nat) (H : Nat → Nat), a < 2 ^ K → b < 2 ^ k → bsum (K + k) (clm k 0 a b) H = bsum k b fun i => bsum K a fun j => H (i + j)
  | 0, a, b, K, H, _, _ => bsum_zero H K
  | k + 1, a, b, K, H, ha, hb => by
    show bsum (K + (k + 1)) (clm k (if b % 2 = 1 then 0 ^^^ a else 0) (a <<< 1) (b >>> 1)) H = _
    have hb2 : b >>> 1 < 2 ^ k := by rw [Nat.shiftRight_eq_div_pow]; rw [Nat.pow_succ] at hb; omega
    have ha2 : a <<< 1 < 2 ^ (K + 1) := by rw [Nat.shiftLeft_eq, Nat.pow_succ]; omega
    have ih := clm_bsum k (a <<< 1) (b >>> 1) (K + 1) H ha2 hb2
    rw [clm_acc, bsum_xor, show K + (k + 1) = K + 1 + k by omega, ih, bsum_low]
    congr 1
    · by_cases h : b % 2 = 1
      · rw [if_pos h, Nat.zero_xor, show b.testBit 0 = true by simpa [Nat.testBit_zero] using h, show K + 1 + k = K + (k + 1) by omega, bsum_le H ha (by omega)]
        simp
      · rw [if_neg h, show b.testBit 0 = false by simpa [Nat.testBit_zero] using h, bsum_zero]; rfl
    · congr 1
      funext i
      rw [bsum_shl]
      congr 1
      funext j
      rw [show i + (j + 1) = i + 1 + j by omega]
end
section
theorem clm_lt : ∀ (k a b K : Nat), a < 2 ^ K → clm k 0 a b < 2 ^ (K + k)
  | 0, _, _, _, _ => Nat.two_pow_pos _
  | k + 1, a, b, K, ha => by
    show clm k (if b % 2 = 1 then 0 ^^^ a else 0) (a <<< 1) (b >>> 1) < 2 ^ (K + (k + 1))
    rw [clm_acc]
    have h := clm_lt k (a <<< 1) (b >>> 1) (K + 1) (by rw [Nat.shiftLeft_eq, Nat.pow_succ]; omega)
    rw [show K + 1 + k = K + (k + 1) by omega] at h
    refine Nat.xor_lt_two_pow ?_ h
    split
    · rw [Nat.zero_xor]; exact Nat.lt_of_lt_of_le ha (Nat.pow_le_pow_right (by decide) (by omega))
    · exact Nat.two_pow_pos _
/-- the polynomial f in the shift by m, at a sequence F -/
def pol (m f : Nat) (F : Nat → Nat) (c : Nat) : Nat := bsum 400 f fun k => F (c + m * k)
theorem pol_comm (m m' f g : Nat) (F : Nat → Nat) : pol m f (pol m' g F) = pol m' g (pol m f F) := by
  funext c
  unfold pol
  rw [bsum_swap]
  congr 1; funext j; congr 1; funext i
  rw [Nat.add_right_comm]
theorem pol_zero (m f : Nat) : pol m f (fun _ => 0) = fun _ => 0 := by
  funext c; exact bsum_none _ _
theorem pol_clm (m a b : Nat) (F : Nat → Nat) (ha : a < 2 ^ 300) (hb : b < 2 ^ 64) : pol m (clm 64 0 a b) F = pol m b (pol m a F) := by
  funext c
  have hlt : clm 64 0 a b < 2 ^ (300 + 64) := clm_lt 64 a b 300 ha
  unfold pol
  rw [bsum_le (K := 300 + 64) _ hlt (by decide), clm_bsum 64 a b 300 _ ha hb, bsum_le (K := 64) (K' := 400) _ hb (by decide)]
  congr 1; funext i
  rw [bsum_le (K := 300) (K' := 400) _ ha (by decide)]
  congr 1; funext j
  rw [Nat.mul_add, Nat.add_assoc]
theorem pol_one (m : Nat) (F : Nat → Nat) : pol m 1 F = F := by
  funext c
  have h := bsum_one (i := 0) (K := 400) (fun k => F (c + m * k)) (by decide)
  rw [Nat.pow_zero] at h
  unfold pol
  rw [h, Nat.mul_zero, Nat.add_zero]
theorem bsum_sym (f : Nat) (s : Nat → Nat → Nat) (hs : ∀ i j, s i j = s j i) : ∀ K, bsum K f (fun i => bsum K f fun j => s i j) = bsum K f fun i => s i i
  | 0 => rfl
  | k + 1 => by
    have ih := bsum_sym f s hs k
    show bsum k f (fun i => bsum k f (fun j => s i j) ^^^ (if f.testBit k then s i k else 0)) ^^^ (if f.testBit k then bsum k f (fun j => s k j) ^^^ (if f.testBit k then s k k else 0) else 0) = bsum k f (fun i => s i i) ^^^ (if f.testBit k then s k k else 0)
    rw [bsum_fun, ih]
    cases hb : f.testBit k
    · simp [bsum_none]
    · have e : (bsum k f fun i => s i k) = bsum k f fun j => s k j := by congr 1; funext i; exact hs i k
      simp only [if_true, e]
      rw [Nat.xor_assoc, ← Nat.xor_assoc (bsum k f fun j => s k j), Nat.xor_self, Nat.zero_xor]
theorem pol_frob (m f : Nat) (F : Nat → Nat) : pol (2 * m) f F = pol m f (pol m f F) := by
  funext c
  unfold pol
  rw [bsum_sym f (fun i j => F (c + m * i + m * j)) (fun i j => by show F (c + m * i + m * j) = F (c + m * j + m * i); rw [Nat.add_right_comm])]
  congr 1; funext i
  rw [Nat.mul_assoc, Nat.two_mul, Nat.add_assoc]
end
section
def stepE (l r : Nat) : Nat := (r <<< 1) ^^^ (l * (r >>> 7))
def Eres (l : Nat) : Nat → Nat
  | 0 => 1
  | e + 1 => stepE l (Eres l e)
theorem stepE_lt {l r : Nat} (h0 : 2 ^ 8 ≤ l) (h1 : l < 2 ^ 9) (hr : r < 2 ^ 8) : stepE l r < 2 ^ 8 := by
  unfold stepE
  have es : r <<< 1 = r * 2 := by rw [Nat.shiftLeft_eq]
  have e7 : r >>> 7 = r / 128 := by rw [Nat.shiftRight_eq_div_pow]
  by_cases h : r < 128
  · rw [e7, show r / 128 = 0 by omega, Nat.mul_zero, Nat.xor_zero, es]; omega
  · rw [e7, show r / 128 = 1 by omega, Nat.mul_one]
    exact xor_top (l := 8) (by rw [es]; omega) (by rw [es]; omega) h0 h1
theorem Eres_lt {l : Nat} (h0 : 2 ^ 8 ≤ l) (h1 : l < 2 ^ 9) : ∀ e, Eres l e < 2 ^ 8
  | 0 => by show 1 < 2 ^ 8; decide
  | e + 1 => stepE_lt h0 h1 (Eres_lt h0 h1 e)
/-- a sequence that l kills is told by its first eight -/
theorem res_at {l : Nat} (h0 : 2 ^ 8 ≤ l) (h1 : l < 2 ^ 9) {H : Nat → Nat} (hA : ∀ c, pol 1 l H c = 0) : ∀ e c, H (c + e) = bsum 9 (Eres l e) fun k => H (c + k)
  | 0, c => (bsum_one (i := 0) (fun k => H (c + k)) (by decide : 0 < 9)).symm
  | e + 1, c => by
    have ih := res_at h0 h1 hA e (c + 1)
    have hr := Eres_lt h0 h1 e
    have hl : bsum 9 l (fun k => H (c + k)) = 0 := by
      have := hA c
      unfold pol at this
      rw [bsum_le (K := 9) _ h1 (by decide)] at this
      simpa using this
    show H (c + (e + 1)) = bsum 9 (stepE l (Eres l e)) fun k => H (c + k)
    unfold stepE
    rw [bsum_xor]
    have e1 : bsum 9 (Eres l e <<< 1) (fun k => H (c + k)) = H (c + 1 + e) := by
      rw [ih, bsum_le (K := 8) (K' := 9) (V := Eres l e) _ hr (by decide), bsum_shl]
      congr 1; funext i
      rw [show c + (i + 1) = c + 1 + i by omega]
    have e2 : bsum 9 (l * (Eres l e >>> 7)) (fun k => H (c + k)) = 0 := by
      have e7 : Eres l e >>> 7 = Eres l e / 128 := by rw [Nat.shiftRight_eq_div_pow]
      rw [e7]
      have : Eres l e / 128 = 0 ∨ Eres l e / 128 = 1 := by omega
      rcases this with h | h
      · rw [h, Nat.mul_zero, bsum_zero]
      · rw [h, Nat.mul_one, hl]
    rw [e1, e2, Nat.xor_zero, show c + (e + 1) = c + 1 + e by omega]
/-- the value of l at the u-th power, below l' -/
def chkAt (l l' u : Nat) : Nat := bsum 9 l fun k => Eres l' (u * k)
theorem dd_one {l l' u : Nat} (h0 : 2 ^ 8 ≤ l') (h1 : l' < 2 ^ 9) (hl : l < 2 ^ 9) (hc : chkAt l l' u = 0) {H : Nat → Nat} (hA : ∀ c, pol 1 l' H c = 0) : pol u l H = fun _ => 0 := by
  funext c
  unfold pol
  rw [bsum_le (K := 9) _ hl (by decide)]
  have e : (bsum 9 l fun k => H (c + u * k)) = bsum 9 l fun k => bsum 9 (Eres l' (u * k)) fun i => H (c + i) := by
    congr 1; funext k; exact res_at h0 h1 hA (u * k) c
  rw [e]
  have := (bsum_lin 9 fun i => H (c + i)).bsum l (fun k => Eres l' (u * k)) 9
  rw [← this]
  show bsum 9 (chkAt l l' u) _ = 0
  rw [hc, bsum_zero]
theorem dd_pow {l u : Nat} {H : Nat → Nat} (h : pol u l H = fun _ => 0) : ∀ b, pol (u * 2 ^ b) l H = fun _ => 0
  | 0 => by rw [Nat.pow_zero, Nat.mul_one]; exact h
  | b + 1 => by
    rw [show u * 2 ^ (b + 1) = 2 * (u * 2 ^ b) by rw [Nat.pow_succ]; rw [← Nat.mul_assoc, Nat.mul_comm]]
    rw [pol_frob, dd_pow h b, pol_zero]
/-- the product over a list, at a sequence -/
def polL (m : Nat) : List Nat → (Nat → Nat) → Nat → Nat
  | [], F => F
  | j :: js, F => pol m (lOf j) (polL m js F)
theorem polL_comm (m m' f : Nat) : ∀ (js : List Nat) (F : Nat → Nat), polL m js (pol m' f F) = pol m' f (polL m js F)
  | [], _ => rfl
  | j :: js, F => by
    show pol m (lOf j) (polL m js (pol m' f F)) = pol m' f (pol m (lOf j) (polL m js F))
    rw [polL_comm m m' f js F, pol_comm]
theorem polL_zero (m : Nat) : ∀ js, polL m js (fun _ => 0) = fun _ => 0
  | [] => rfl
  | j :: js => by
    show pol m (lOf j) (polL m js fun _ => 0) = _
    rw [polL_zero m js, pol_zero]
/-- from a product to the product of the partners at the power m -/
theorem prod_dd {m : Nat} {g : Nat → Nat} : ∀ (js : List Nat) (F : Nat → Nat), (∀ j ∈ js, ∀ H : Nat → Nat, (pol 1 (lOf (g j)) H = fun _ => 0) → pol m (lOf j) H = fun _ => 0) →
    (polL 1 (js.map g) F = fun _ => 0) → polL m js F = fun _ => 0
  | [], _, _, h => h
  | j :: js, F, hd, h => by
    have h1 : pol 1 (lOf (g j)) (polL 1 (js.map g) F) = fun _ => 0 := h
    have h2 := hd j (.head _) _ h1
    rw [← polL_comm] at h2
    have h3 := prod_dd js (pol m (lOf j) F) (fun i hi => hd i (.tail _ hi)) h2
    rw [polL_comm] at h3
    exact h3
theorem polL_append (m : Nat) : ∀ (xs ys : List Nat) (F : Nat → Nat), polL m (xs ++ ys) F = polL m xs (polL m ys F)
  | [], _, _ => rfl
  | x :: xs, ys, F => by
    show pol m (lOf x) (polL m (xs ++ ys) F) = _
    rw [polL_append m xs ys F]; rfl
theorem polL_perm {m : Nat} {xs ys : List Nat} (h : xs.Perm ys) (F : Nat → Nat) : polL m xs F = polL m ys F := by
  induction h with
  | nil => rfl
  | cons x _ ih => show pol m (lOf x) _ = pol m (lOf x) _; rw [ih]
  | swap x y l => show pol m (lOf y) (pol m (lOf x) _) = pol m (lOf x) (pol m (lOf y) _); rw [pol_comm]
  | trans _ _ a b => rw [a, b]
theorem perm_rest : ∀ (xs L : List Nat), xs.Nodup → (∀ x ∈ xs, x ∈ L) → ∃ r, L.Perm (xs ++ r)
  | [], L, _, _ => ⟨L, List.Perm.refl _⟩
  | x :: xs, L, hn, hs => by
    have hx := List.perm_cons_erase (hs x (.head _))
    have hn' := List.nodup_cons.mp hn
    obtain ⟨r, hr⟩ := perm_rest xs (L.erase x) hn'.2 (fun y hy => (List.mem_erase_of_ne (show y ≠ x from fun e => hn'.1 (by rw [← e]; exact hy))).mpr (hs y (.tail _ hy)))
    exact ⟨r, hx.trans (List.Perm.cons x hr)⟩
end
section
def chkRow (a : Nat) : Bool := (List.range 30).all fun r => chkAt (lOf (firstsL.getD r 0)) (lOf (firstN (firstsL.getD r 0 * invOf (mOf a 0)))) (unitsL.getD a 0) == 0
theorem chk_0 : chkRow 0 = true := by decide +kernel
theorem chk_1 : chkRow 1 = true := by decide +kernel
theorem chk_2 : chkRow 2 = true := by decide +kernel
theorem chk_3 : chkRow 3 = true := by decide +kernel
theorem chk_4 : chkRow 4 = true := by decide +kernel
theorem chk_5 : chkRow 5 = true := by decide +kernel
theorem chk_6 : chkRow 6 = true := by decide +kernel
theorem chk_7 : chkRow 7 = true := by decide +kernel
theorem chk_8 : chkRow 8 = true := by decide +kernel
theorem chk_9 : chkRow 9 = true := by decide +kernel
theorem chk_10 : chkRow 10 = true := by decide +kernel
theorem chk_11 : chkRow 11 = true := by decide +kernel
theorem chk_12 : chkRow 12 = true := by decide +kernel
theorem chk_13 : chkRow 13 = true := by decide +kernel
theorem chk_14 : chkRow 14 = true := by decide +kernel
theorem chk_15 : chkRow 15 = true := by decide +kernel
theorem chk_all {a : Nat} (h : a < 16) : chkRow a = true := by
  have : a = 0 ∨ a = 1 ∨ a = 2 ∨ a = 3 ∨ a = 4 ∨ a = 5 ∨ a = 6 ∨ a = 7 ∨ a = 8 ∨ a = 9 ∨ a = 10 ∨ a = 11 ∨ a = 12 ∨ a = 13 ∨ a = 14 ∨ a = 15 := by omega
  rcases this with rfl | rfl | rfl | rfl | rfl | rfl | rfl | rfl | rfl | rfl | rfl | rfl | rfl | rfl | rfl | rfl
  · exact chk_0
  · exact chk_1
  · exact chk_2
  · exact chk_3
  · exact chk_4
  · exact chk_5
  · exact chk_6
  · exact chk_7
  · exact chk_8
  · exact chk_9
  · exact chk_10
  · exact chk_11
  · exact chk_12
  · exact chk_13
  · exact chk_14
  · exact chk_15
theorem same_first : ∀ a < 16, ∀ b < 8, ∀ r < 30, firstN (firstsL.getD r 0 * invOf (mOf a b)) = firstN (firstsL.getD r 0 * invOf (mOf a 0)) := fun a ha b hb r _ => g_same ha hb _
theorem dd_all {a b r : Nat} (ha : a < 16) (hb : b < 8) (hr : r < 30) {H : Nat → Nat} (hA : pol 1 (lOf (firstN (firstsL.getD r 0 * invOf (mOf a b)))) H = fun _ => 0) : pol (unitsL.getD a 0 * 2 ^ b) (lOf (firstsL.getD r 0)) H = fun _ => 0 := by
  have l0 := l_rng (look_ok a ha b hb r hr)
  have l1 := l_rng (look_first r hr)
  have hc := List.all_eq_true.mp (chk_all ha) r (List.mem_range.mpr hr)
  have hc' : chkAt (lOf (firstsL.getD r 0)) (lOf (firstN (firstsL.getD r 0 * invOf (mOf a b)))) (unitsL.getD a 0) = 0 := by
    rw [same_first a ha b hb r hr]; simpa using hc
  exact dd_pow (dd_one l0.1 l0.2 l1.2 hc' fun c => congrFun hA c) b
end
section
def prodL : List Nat → Nat
  | [] => 1
  | j :: js => clm 64 0 (prodL js) (lOf j)
def AllL (js : List Nat) : Prop := ∀ j ∈ js, (leastKV.lookup j).isSome = true
theorem prodL_rng : ∀ (js : List Nat), AllL js → 2 ^ (8 * js.length) ≤ prodL js ∧ prodL js < 2 ^ (8 * js.length + 1)
  | [], _ => by show 2 ^ 0 ≤ 1 ∧ 1 < 2 ^ 1; decide
  | j :: js, h => by
    have ih := prodL_rng js fun i hi => h i (.tail _ hi)
    have l := l_rng (h j (.head _))
    exact clm_rng 64 _ _ (8 * js.length) 8 (by decide) ih.1 ih.2 l.1 l.2
theorem pol_prodL (m : Nat) : ∀ (js : List Nat) (F : Nat → Nat), AllL js → js.length ≤ 30 → pol m (prodL js) F = polL m js F
  | [], F, _, _ => pol_one m F
  | j :: js, F, h, hl => by
    have hl' : js.length + 1 ≤ 30 := hl
    have r := prodL_rng js fun i hi => h i (.tail _ hi)
    have l := l_rng (h j (.head _))
    show pol m (clm 64 0 (prodL js) (lOf j)) F = pol m (lOf j) (polL m js F)
    rw [pol_clm m _ _ F (Nat.lt_of_lt_of_le r.2 (Nat.pow_le_pow_right (by decide) (by omega))) (Nat.lt_trans l.2 (by decide)), pol_prodL m js F (fun i hi => h i (.tail _ hi)) (by omega)]
theorem firsts_all : AllL firstsL := by unfold AllL; decide +kernel
theorem whole : clm 64 0 (prodL firstsL) 32769 = 2 ^ 255 ^^^ 2 ^ 0 := by decide +kernel
theorem period_T {F : Nat → Nat} (h : polL 1 firstsL F = fun _ => 0) (c : Nat) : F (c + 255) = F c := by
  have r := prodL_rng firstsL firsts_all
  have h1 : pol 1 (2 ^ 255 ^^^ 2 ^ 0) F = fun _ => 0 := by
    rw [← whole, pol_clm 1 _ _ F (Nat.lt_of_lt_of_le r.2 (Nat.pow_le_pow_right (by decide) (by decide))) (by decide), pol_prodL 1 firstsL F firsts_all (by decide), h, pol_zero]
  have h2 := congrFun h1 c
  unfold pol at h2
  rw [bsum_xor, bsum_one _ (by decide), bsum_one _ (by decide)] at h2
  simp only [Nat.one_mul, Nat.mul_zero, Nat.add_zero] at h2
  have h3 : F (c + 255) ^^^ F c ^^^ F c = 0 ^^^ F c := by rw [h2]
  rw [Nat.xor_assoc, Nat.xor_self, Nat.xor_zero, Nat.zero_xor] at h3
  exact h3
theorem period {js : List Nat} {F : Nat → Nat} (hn : js.Nodup) (hs : ∀ j ∈ js, j ∈ firstsL) (h : polL 1 js F = fun _ => 0) (c : Nat) : F (c + 255) = F c := by
  obtain ⟨r, hr⟩ := perm_rest js firstsL hn hs
  refine period_T ?_ c
  rw [polL_perm hr, polL_perm List.perm_append_comm, polL_append, h, polL_zero]
theorem period_mul {F : Nat → Nat} (h : ∀ c, F (c + 255) = F c) : ∀ k c, F (c + 255 * k) = F c
  | 0, c => by rw [Nat.mul_zero, Nat.add_zero]
  | k + 1, c => by rw [Nat.mul_succ, ← Nat.add_assoc, h, period_mul h k c]
theorem period_mod {F : Nat → Nat} (h : ∀ c, F (c + 255) = F c) {a b : Nat} (e : a % 255 = b % 255) : F a = F b := by
  rw [← Nat.mod_add_div a 255, ← Nat.mod_add_div b 255, period_mul h, period_mul h, e]
end
section
/-- two sequences with the same recurrence: what a linear map does to the first n it does to all -/
theorem k_one {n P : Nat} (hP0 : 2 ^ n ≤ P) (hP1 : P < 2 ^ (n + 1)) (hn : n < 400) {F G : Nat → Nat} {Phi : Nat → Nat} (hl : Lin Phi) (hF : pol 1 P F = fun _ => 0) (hG : pol 1 P G = fun _ => 0) (h0 : ∀ e < n, Phi (F e) = G e) : ∀ e, Phi (F e) = G e := by
  have top : P.testBit n = true := by
    have e : P >>> n = 1 := by
      rw [Nat.shiftRight_eq_div_pow]
      rw [Nat.pow_succ] at hP1
      exact Nat.div_eq_of_lt_le (by omega) (by omega)
    have : (P >>> n).testBit 0 = true := by rw [e]; rfl
    rwa [Nat.testBit_shiftRight, Nat.add_zero] at this
  have hrec : ∀ (H : Nat → Nat), (pol 1 P H = fun _ => 0) → ∀ c, H (c + n) = bsum n P fun k => H (c + k) := by
    intro H hH c
    have h := congrFun hH c
    unfold pol at h
    rw [bsum_le (K := n + 1) _ hP1 (by omega)] at h
    have h2 : bsum n P (fun k => H (c + 1 * k)) ^^^ (if P.testBit n then H (c + 1 * n) else 0) = 0 := h
    rw [top] at h2
    simp only [Nat.one_mul, if_true] at h2
    have h3 : (bsum n P (fun k => H (c + k)) ^^^ H (c + n)) ^^^ H (c + n) = 0 ^^^ H (c + n) := by rw [h2]
    rw [Nat.xor_assoc, Nat.xor_self, Nat.xor_zero, Nat.zero_xor] at h3
    exact h3.symm
  intro e
  induction e using Nat.strongRecOn with
  | ind e ih =>
    by_cases he : e < n
    · exact h0 e he
    · obtain ⟨c, rfl⟩ : ∃ c, e = c + n := ⟨e - n, by omega⟩
      rw [hrec F hF c, hrec G hG c, hl.bsum]
      exact bsum_congr fun k hk _ => ih (c + k) (by omega)
end
section
def itn (f : Nat → Nat) : Nat → Nat → Nat
  | 0, x => x
  | k + 1, x => f (itn f k x)
theorem itn_add (f : Nat → Nat) (a : Nat) (x : Nat) : ∀ b, itn f (a + b) x = itn f b (itn f a x)
  | 0 => rfl
  | b + 1 => by show f (itn f (a + b) x) = f (itn f b (itn f a x)); rw [itn_add f a x b]
theorem itn_lin {f : Nat → Nat} (h : Lin f) : ∀ k, Lin (itn f k)
  | 0 => fun _ _ => rfl
  | k + 1 => fun a b => by show f (itn f k (a ^^^ b)) = f (itn f k a) ^^^ f (itn f k b); rw [itn_lin h k, h]
/-- a step: multiplication by x below P, at a basis B -/
structure Stp (n P : Nat) (Sq B : Nat → Nat) : Prop where
  lin : Lin Sq
  next : ∀ k, k + 1 < n → Sq (B k) = B (k + 1)
  top : Sq (B (n - 1)) = bsum n P B
def seqOf (Sq B : Nat → Nat) (e : Nat) : Nat := itn Sq e (B 0)
theorem seq_low {n P : Nat} {Sq B : Nat → Nat} (s : Stp n P Sq B) : ∀ k, k < n → seqOf Sq B k = B k
  | 0, _ => rfl
  | k + 1, h => by
    show Sq (seqOf Sq B k) = B (k + 1)
    rw [seq_low s k (by omega), s.next k h]
theorem seq_add {n P : Nat} {Sq B : Nat → Nat} (s : Stp n P Sq B) (c e : Nat) : seqOf Sq B (e + c) = itn Sq c (seqOf Sq B e) := itn_add Sq e (B 0) c
theorem seq_kill {n P : Nat} {Sq B : Nat → Nat} (s : Stp n P Sq B) (h0 : 1 ≤ n) (hP1 : P < 2 ^ (n + 1)) (hn : n < 400) (htop : P.testBit n = true) : pol 1 P (seqOf Sq B) = fun _ => 0 := by
  funext c
  unfold pol
  rw [bsum_le (K := n + 1) _ hP1 (by omega)]
  have e : (bsum (n + 1) P fun k => seqOf Sq B (c + 1 * k)) = itn Sq c (bsum (n + 1) P (seqOf Sq B)) := by
    rw [(itn_lin s.lin c).bsum]
    exact bsum_congr fun k _ _ => by rw [Nat.one_mul, Nat.add_comm, seq_add s]
  have z : bsum (n + 1) P (seqOf Sq B) = 0 := by
    show bsum n P (seqOf Sq B) ^^^ (if P.testBit n then seqOf Sq B n else 0) = 0
    rw [htop]
    simp only [if_true]
    have e1 : seqOf Sq B n = bsum n P B := by
      obtain ⟨m, rfl⟩ : ∃ m, n = m + 1 := ⟨n - 1, by omega⟩
      show Sq (seqOf Sq B m) = _
      rw [seq_low s m (by omega)]
      exact s.top
    have e2 : bsum n P (seqOf Sq B) = bsum n P B := bsum_congr fun k hk _ => seq_low s k hk
    rw [e1, e2, Nat.xor_self]
  rw [e, z]
  exact (itn_lin s.lin c).zero
end
section
def SqF (n P x : Nat) : Nat := (x <<< 1) ^^^ (if x.testBit (n - 1) then P else 0)
def BF (k : Nat) : Nat := 2 ^ k
def BB (n k : Nat) : Nat := 2 ^ (n - 1 - k)
def rP (n P : Nat) : Nat := bsum n P (BB n)
def SqB (n P x : Nat) : Nat := (x >>> 1) ^^^ (if x.testBit 0 then rP n P else 0)
theorem lin_if (i P a b : Nat) : (if (a ^^^ b).testBit i then P else 0) = (if a.testBit i then P else 0) ^^^ (if b.testBit i then P else 0) := by
  show (if (a ^^^ b).testBit i then P else 0) = (if a.testBit i then P else 0) ^^^ (if b.testBit i then P else 0)
  rw [Nat.testBit_xor]
  cases a.testBit i <;> cases b.testBit i <;> simp
theorem SqF_lin (n P : Nat) : Lin (SqF n P) := by
  intro a b
  unfold SqF
  rw [Nat.shiftLeft_xor_distrib, lin_if (n - 1) P a b, x_swap]
theorem SqB_lin (n P : Nat) : Lin (SqB n P) := by
  intro a b
  unfold SqB
  rw [Nat.shiftRight_xor_distrib, lin_if 0 (rP n P) a b, x_swap]
theorem stpF {n P : Nat} (h0 : 1 ≤ n) (hP0 : 2 ^ n ≤ P) (hP1 : P < 2 ^ (n + 1)) (htop : P.testBit n = true) : Stp n P (SqF n P) BF where
  lin := SqF_lin n P
  next := fun k hk => by
    unfold SqF BF
    rw [Nat.testBit_two_pow_of_ne (by omega), Nat.shiftLeft_eq, Nat.pow_one, ← Nat.pow_succ]
    simp
  top := by
    unfold SqF BF
    rw [Nat.testBit_two_pow_self, bsum_pow, Nat.shiftLeft_eq, Nat.pow_one, ← Nat.pow_succ, show (n - 1).succ = n by omega]
    have h := mod_succ_bit P n
    rw [htop, Nat.mod_eq_of_lt hP1] at h
    simp only [if_true] at h ⊢
    have h2 : 2 ^ n ^^^ P = 2 ^ n ^^^ (P % 2 ^ n ^^^ 2 ^ n) := congrArg (fun z => 2 ^ n ^^^ z) h
    rw [h2, Nat.xor_comm (P % 2 ^ n), ← Nat.xor_assoc, Nat.xor_self, Nat.zero_xor]
theorem stpB {n P : Nat} (h0 : 1 ≤ n) : Stp n P (SqB n P) (BB n) where
  lin := SqB_lin n P
  next := fun k hk => by
    unfold SqB BB
    rw [Nat.testBit_two_pow_of_ne (by omega), Nat.shiftRight_eq_div_pow, Nat.pow_one, show n - 1 - k = (n - 1 - (k + 1)) + 1 by omega, Nat.pow_succ]
    simp
  top := by
    unfold SqB
    rw [show BB n (n - 1) = 1 by unfold BB; rw [Nat.sub_self]]
    show (1 >>> 1) ^^^ (if (1 : Nat).testBit 0 then rP n P else 0) = bsum n P (BB n)
    simp [rP]
end
section
theorem addRow_get {f : Nat → Nat} (hf : Lin f) {a : Nat} {T : List Nat} (hl : T.length = 2 ^ a) (h : ∀ i < 2 ^ a, T.getD i 0 = f i) {r : Nat} (hr : r = f (2 ^ a)) : (addRow T r).length = 2 ^ (a + 1) ∧ ∀ i < 2 ^ (a + 1), (addRow T r).getD i 0 = f i := by
  refine ⟨by unfold addRow; rw [List.length_append, List.length_map, hl, Nat.pow_succ]; omega, fun i hi => ?_⟩
  unfold addRow
  by_cases h1 : i < 2 ^ a
  · rw [List.getD_eq_getElem?_getD, List.getElem?_append_left (by omega), ← List.getD_eq_getElem?_getD, h i h1]
  · have h2 : i - 2 ^ a < 2 ^ a := by rw [Nat.pow_succ] at hi; omega
    have h3 : T[i - 2 ^ a]? = some (f (i - 2 ^ a)) := by
      have := h _ h2
      rw [List.getD_eq_getElem?_getD, List.getElem?_eq_getElem (by omega)] at this
      rw [List.getElem?_eq_getElem (by omega)]
      exact congrArg some this
    rw [List.getD_eq_getElem?_getD, List.getElem?_append_right (by omega), List.getElem?_map, hl, h3, hr]
    show f (2 ^ a) ^^^ f (i - 2 ^ a) = f i
    rw [← hf]
    congr 1
    have e : 2 ^ a ^^^ (i - 2 ^ a) = 2 ^ a + (i - 2 ^ a) := by
      have h4 := Nat.two_pow_add_eq_or_of_lt h2 1
      have h5 := nat_xor_and (2 ^ a) (i - 2 ^ a)
      have h6 : 2 ^ a &&& (i - 2 ^ a) = 0 := by
        apply Nat.eq_of_testBit_eq
        intro j
        rw [Nat.testBit_and, Nat.zero_testBit]
        by_cases hj : j = a
        · subst hj; rw [Nat.testBit_lt_two_pow h2, Bool.and_false]
        · rw [Nat.testBit_two_pow_of_ne (Ne.symm hj), Bool.false_and]
      omega
    rw [e]; omega
theorem rows_ok {f g : Nat → Nat} (hf : Lin f) : ∀ (k a : Nat) (T rs : List Nat), rs.length = k → (∀ j (h : j < rs.length), rs[j] = f (2 ^ (a + j))) → T.length = 2 ^ a → (∀ i < 2 ^ a, T.getD i 0 = f i) → ∀ i < 2 ^ (a + k), (rs.foldl addRow T).getD i 0 = f i
  | 0, a, T, [], _, _, _, h, i, hi => h i hi
  | k + 1, a, T, r :: rs, hk, hr, hl, h, i, hi => by
    have h0 := addRow_get hf hl h (r := r) (hr 0 (by simp))
    show (rs.foldl addRow (addRow T r)).getD i 0 = f i
    refine rows_ok (g := g) hf k (a + 1) (addRow T r) rs (by simpa using hk) (fun j hj => ?_) h0.1 h0.2 i (by rw [show a + 1 + k = a + (k + 1) by omega]; exact hi)
    have := hr (j + 1) (by simpa using hj)
    rw [show a + 1 + j = a + (j + 1) by omega]
    simpa using this
end
section
theorem rP_lt {n P : Nat} (h : 1 ≤ n) : rP n P < 2 ^ n := by
  unfold rP
  have : ∀ K, bsum K P (BB n) < 2 ^ n := fun K => by
    induction K with
    | zero => exact Nat.two_pow_pos n
    | succ k ih =>
      show bsum k P (BB n) ^^^ (if P.testBit k then BB n k else 0) < 2 ^ n
      refine Nat.xor_lt_two_pow ih ?_
      split
      · exact Nat.pow_lt_pow_right (by decide) (by omega)
      · exact Nat.two_pow_pos n
  exact this n
theorem and_one_bit (c : Nat) : (c &&& 1 ≠ 0) = (c.testBit 0 = true) := by
  rw [Nat.and_one_is_mod, Nat.testBit_zero]
  apply propext; simp
theorem crcr_step {n P c : Nat} : bytecrcrStep (rP n P) c = SqB n P c := by
  unfold bytecrcrStep SqB
  by_cases h : c.testBit 0 = true
  · rw [if_pos (and_one_bit c ▸ h), if_pos h]
  · rw [if_neg (fun q => h (and_one_bit c ▸ q)), if_neg h, Nat.xor_zero]
theorem crcr_at {n P : Nat} (c : Nat) : ∀ k, bytecrcrAt (rP n P) c k = itn (SqB n P) k c
  | 0 => rfl
  | k + 1 => by
    show bytecrcrStep (rP n P) (bytecrcrAt (rP n P) c k) = SqB n P (itn (SqB n P) k c)
    rw [crcr_at c k, crcr_step]
theorem SqB_lt {n P c : Nat} (h : 1 ≤ n) (hc : c < 2 ^ n) : SqB n P c < 2 ^ n := by
  unfold SqB
  refine Nat.xor_lt_two_pow ?_ ?_
  · rw [Nat.shiftRight_eq_div_pow]; exact Nat.lt_of_le_of_lt (Nat.div_le_self _ _) hc
  · split
    · exact rP_lt h
    · exact Nat.two_pow_pos n
theorem itnB_lt {n P c : Nat} (h : 1 ≤ n) (hc : c < 2 ^ n) : ∀ k, itn (SqB n P) k c < 2 ^ n
  | 0 => hc
  | k + 1 => SqB_lt h (itnB_lt h hc k)
theorem bytecrcr_is {n P c : Nat} (h : 1 ≤ n) (hc : c < 2 ^ n) : bytecrcrN c (rP n P) n = itn (SqB n P) 8 c := by
  unfold bytecrcrN
  rw [crcr_at, Nat.shiftLeft_eq, Nat.one_mul, Nat.and_two_pow_sub_one_eq_mod, Nat.mod_eq_of_lt (itnB_lt h hc 8)]
end
section
theorem SqF_lt {n P c : Nat} (h : 1 ≤ n) (hP0 : 2 ^ n ≤ P) (hP1 : P < 2 ^ (n + 1)) (hc : c < 2 ^ n) : SqF n P c < 2 ^ n := by
  unfold SqF
  have hs : c <<< 1 = c * 2 := by rw [Nat.shiftLeft_eq]
  have hp : 2 ^ n = 2 ^ (n - 1) * 2 := by rw [← Nat.pow_succ]; congr 1; omega
  by_cases hb : c.testBit (n - 1) = true
  · rw [if_pos hb]
    have := Nat.ge_two_pow_of_testBit hb
    exact xor_top (by rw [hs]; omega) (by rw [hs, Nat.pow_succ]; omega) hP0 hP1
  · rw [if_neg hb, Nat.xor_zero, hs]
    have h2 : c < 2 ^ (n - 1) := by
      refine Nat.lt_of_not_le fun q => hb ?_
      have e : c >>> (n - 1) = 1 := by
        rw [Nat.shiftRight_eq_div_pow]
        exact Nat.div_eq_of_lt_le (by omega) (by omega)
      have : (c >>> (n - 1)).testBit 0 = true := by rw [e]; rfl
      rwa [Nat.testBit_shiftRight, Nat.add_zero] at this
    omega
theorem itnF_lt {n P c : Nat} (h : 1 ≤ n) (hP0 : 2 ^ n ≤ P) (hP1 : P < 2 ^ (n + 1)) (hc : c < 2 ^ n) : ∀ k, itn (SqF n P) k c < 2 ^ n
  | 0 => hc
  | k + 1 => SqF_lt h hP0 hP1 (itnF_lt h hP0 hP1 hc k)
theorem and_place {d m : Nat} : (d &&& (1 <<< m) ≠ 0) ↔ d.testBit m = true := by
  rw [Nat.shiftLeft_eq, Nat.one_mul]
  constructor
  · intro h
    cases hb : d.testBit m with
    | true => rfl
    | false =>
      exfalso; apply h
      apply Nat.eq_of_testBit_eq
      intro j
      rw [Nat.testBit_and, Nat.zero_testBit]
      by_cases hj : j = m
      · subst hj; rw [hb, Bool.false_and]
      · rw [Nat.testBit_two_pow_of_ne (Ne.symm hj), Bool.and_false]
  · intro h e
    have : (d &&& 2 ^ m).testBit m = true := by rw [Nat.testBit_and, h, Nat.testBit_two_pow_self]; rfl
    rw [e, Nat.zero_testBit] at this; cases this
theorem crc_step_mod {n P d e : Nat} (h : 1 ≤ n) (hP0 : 2 ^ n ≤ P) (hP1 : P < 2 ^ (n + 1)) (he : d % 2 ^ n = e) : bytecrcStep (P % 2 ^ n) n d % 2 ^ n = SqF n P e := by
  have hlt : e < 2 ^ n := by rw [← he]; exact Nat.mod_lt _ (Nat.two_pow_pos n)
  have h1 := Nat.mod_eq_of_lt (SqF_lt h hP0 hP1 hlt)
  rw [← h1]
  have hbit : e.testBit (n - 1) = d.testBit (n - 1) := by rw [← he, Nat.testBit_mod_two_pow]; simp; omega
  have hsh : (d <<< 1) % 2 ^ n = (e <<< 1) % 2 ^ n := by
    rw [← he, Nat.shiftLeft_eq, Nat.shiftLeft_eq, Nat.mod_mul_mod]
  unfold bytecrcStep SqF
  rw [hbit]
  by_cases hb : d.testBit (n - 1) = true
  · rw [if_pos (and_place.mpr hb), if_pos hb, Nat.xor_mod_two_pow, Nat.xor_mod_two_pow, hsh, Nat.mod_mod]
  · rw [if_neg (fun q => hb (and_place.mp q)), if_neg hb, Nat.xor_zero, hsh]
end
section
theorem crc_at_mod {n P c : Nat} (h : 1 ≤ n) (hP0 : 2 ^ n ≤ P) (hP1 : P < 2 ^ (n + 1)) (hc : c < 2 ^ n) : ∀ k, bytecrcAt (P % 2 ^ n) n c k % 2 ^ n = itn (SqF n P) k c
  | 0 => Nat.mod_eq_of_lt hc
  | k + 1 => crc_step_mod h hP0 hP1 (crc_at_mod h hP0 hP1 hc k)
theorem bytecrc_is {n P c : Nat} (h : 1 ≤ n) (hP0 : 2 ^ n ≤ P) (hP1 : P < 2 ^ (n + 1)) (hc : c < 2 ^ n) : bytecrcN c (P % 2 ^ n) n = itn (SqF n P) 8 c := by
  unfold bytecrcN
  rw [Nat.shiftLeft_eq, Nat.one_mul, Nat.and_two_pow_sub_one_eq_mod, crc_at_mod h hP0 hP1 hc]
theorem or_low {a b : Nat} (hb : b < 2) : (a <<< 1) ||| b = (a <<< 1) ^^^ b := by
  have e1 := nat_xor_and (a <<< 1) b
  have e2 := nat_or_add_and (a <<< 1) b
  have e3 : (a <<< 1) &&& b = 0 := by
    have : b = 0 ∨ b = 1 := by omega
    rcases this with rfl | rfl
    · exact Nat.and_zero _
    · rw [Nat.and_one_is_mod, Nat.shiftLeft_eq]; omega
  omega
theorem shl_lin : Lin fun x => x <<< 1 := fun a b => Nat.shiftLeft_xor_distrib
theorem rev_at (x : Nat) : ∀ k, revAt x k = (x >>> k, bsum k x fun i => 2 ^ (k - 1 - i))
  | 0 => rfl
  | k + 1 => by
    show revStep (revAt x k) = _
    rw [rev_at x k]
    unfold revStep
    dsimp only
    rw [Nat.and_one_is_mod, or_low (Nat.mod_lt _ (by decide)), shl_lin.bsum]
    refine Prod.ext ?_ ?_
    · show x >>> k >>> 1 = x >>> (k + 1)
      rw [Nat.shiftRight_add]
    · show (bsum k x fun i => 2 ^ (k - 1 - i) <<< 1) ^^^ (x >>> k % 2) = bsum k x (fun i => 2 ^ (k + 1 - 1 - i)) ^^^ (if x.testBit k then 2 ^ (k + 1 - 1 - k) else 0)
      congr 1
      · exact bsum_congr fun i hi _ => by rw [Nat.shiftLeft_eq, Nat.pow_one, ← Nat.pow_succ]; congr 1; omega
      · have hb : (x >>> k).testBit 0 = x.testBit k := by rw [Nat.testBit_shiftRight, Nat.add_zero]
        rw [Nat.testBit_zero] at hb
        rw [← hb, show k + 1 - 1 - k = 0 by omega, Nat.pow_zero]
        have : x >>> k % 2 = 0 ∨ x >>> k % 2 = 1 := by omega
        rcases this with h | h <;> rw [h] <;> simp
theorem rev_is (x n : Nat) : revN x n = bsum n x (BB n) := by unfold revN; rw [rev_at]; rfl
end
section
theorem bsum_mod (V n : Nat) (H : Nat → Nat) : ∀ K, K ≤ n → bsum K (V % 2 ^ n) H = bsum K V H
  | 0, _ => rfl
  | k + 1, h => by
    show bsum k (V % 2 ^ n) H ^^^ (if (V % 2 ^ n).testBit k then H k else 0) = bsum k V H ^^^ (if V.testBit k then H k else 0)
    rw [bsum_mod V n H k (by omega), Nat.testBit_mod_two_pow]
    simp [show k < n by omega]
theorem mask_mod (x n : Nat) : x &&& ((1 <<< n) - 1) = x % 2 ^ n := by rw [Nat.shiftLeft_eq, Nat.one_mul, Nat.and_two_pow_sub_one_eq_mod]
def SqOf (bk : Bool) (n P : Nat) : Nat → Nat := cond bk (SqB n P) (SqF n P)
def place (bk : Bool) (n x : Nat) : Nat := cond bk x (x <<< (n - 8))
theorem place_lin (bk : Bool) (n : Nat) : Lin (place bk n) := by
  intro a b
  cases bk
  · exact Nat.shiftLeft_xor_distrib
  · rfl
theorem SqOf_lin (bk : Bool) (n P : Nat) : Lin (SqOf bk n P) := by
  cases bk
  · exact SqF_lin n P
  · exact SqB_lin n P
theorem tab_is {n P : Nat} (bk : Bool) (h8 : 8 ≤ n) (hP0 : 2 ^ n ≤ P) (hP1 : P < 2 ^ (n + 1)) : ∀ i < 256, (tabOf P n bk).getD i 0 = itn (SqOf bk n P) 8 (place bk n i) := by
  have hf : Lin fun i => itn (SqOf bk n P) 8 (place bk n i) := fun a b => by
    show itn (SqOf bk n P) 8 (place bk n (a ^^^ b)) = _
    rw [place_lin, itn_lin (SqOf_lin bk n P)]
  have key : ∀ (rs : List Nat), rs.length = 8 → (∀ j (h : j < rs.length), rs[j] = itn (SqOf bk n P) 8 (place bk n (2 ^ j))) → ∀ i < 256, (rs.foldl addRow [0]).getD i 0 = itn (SqOf bk n P) 8 (place bk n i) := by
    intro rs hl hr i hi
    refine rows_ok (g := id) hf 8 0 [0] rs hl (fun j hj => by rw [Nat.zero_add]; exact hr j hj) rfl (fun i hi => ?_) i hi
    have : i = 0 := by omega
    subst this
    exact hf.zero.symm
  have pw : ∀ j (h : j < 8), ([1, 2, 4, 8, 16, 32, 64, 128] : List Nat)[j] = 2 ^ j := by decide
  have lt8 : ∀ j, j < 8 → 2 ^ j < 2 ^ n := fun j hj => Nat.pow_lt_pow_right (by decide) (by omega)
  cases bk
  · refine key _ (by simp) fun j hj => ?_
    have hj8 : j < 8 := by simpa using hj
    rw [List.getElem_map, pw j hj8, mask_mod]
    refine bytecrc_is (by omega) hP0 hP1 ?_
    rw [Nat.shiftLeft_eq, ← Nat.pow_add]
    exact Nat.pow_lt_pow_right (by decide) (by omega)
  · refine key _ (by simp) fun j hj => ?_
    have hj8 : j < 8 := by simpa using hj
    rw [List.getElem_map, pw j hj8, mask_mod, rev_is, bsum_mod _ _ _ n (Nat.le_refl _)]
    exact bytecrcr_is (by omega) (lt8 j hj8)
end
section
theorem SqF_small {n P x : Nat} (h : x < 2 ^ (n - 1)) : SqF n P x = x <<< 1 := by
  unfold SqF
  rw [Nat.testBit_lt_two_pow h]; simp
theorem itnF_small {n P : Nat} : ∀ (k x : Nat), k ≤ n → x < 2 ^ (n - k) → itn (SqF n P) k x = x <<< k
  | 0, x, _, _ => (Nat.shiftLeft_zero).symm
  | k + 1, x, hk, h => by
    have h1 : x < 2 ^ (n - k) := Nat.lt_of_lt_of_le h (Nat.pow_le_pow_right (by decide) (by omega))
    show SqF n P (itn (SqF n P) k x) = x <<< (k + 1)
    rw [itnF_small k x (by omega) h1, SqF_small, ← Nat.shiftLeft_add]
    rw [Nat.shiftLeft_eq]
    have := Nat.mul_lt_mul_of_pos_right h (Nat.two_pow_pos k)
    rw [← Nat.pow_add] at this
    exact Nat.lt_of_lt_of_le this (Nat.pow_le_pow_right (by decide) (by omega))
theorem SqB_shl {n P y : Nat} : SqB n P (y <<< 1) = y := by
  unfold SqB
  rw [show (y <<< 1).testBit 0 = false by simp, Nat.shiftLeft_shiftRight]; simp
theorem itnB_shl {n P : Nat} : ∀ (k y : Nat), itn (SqB n P) k (y <<< k) = y
  | 0, y => Nat.shiftLeft_zero
  | k + 1, y => by
    show SqB n P (itn (SqB n P) k (y <<< (k + 1))) = y
    rw [show y <<< (k + 1) = (y <<< 1) <<< k by rw [← Nat.shiftLeft_add, Nat.add_comm], itnB_shl k, SqB_shl]
theorem split_at (c k : Nat) : c = (c >>> k) <<< k ^^^ c % 2 ^ k := by
  apply Nat.eq_of_testBit_eq
  intro i
  rw [Nat.testBit_xor, Nat.testBit_shiftLeft, Nat.testBit_mod_two_pow]
  by_cases h : i < k
  · simp [h, show ¬ k ≤ i by omega]
  · simp [h, show k ≤ i by omega, Nat.testBit_shiftRight, show k + (i - k) = i by omega]
theorem and_255 (c : Nat) : c &&& 255 = c % 2 ^ 8 := Nat.and_two_pow_sub_one_eq_mod c 8
theorem crc_step_is {n P : Nat} (bk : Bool) (h8 : 8 ≤ n) (hP0 : 2 ^ n ≤ P) (hP1 : P < 2 ^ (n + 1)) {c x : Nat} (hc : c < 2 ^ n) (hx : x < 256) : crcStep n bk (tabOf P n bk) c x = itn (SqOf bk n P) 8 (c ^^^ place bk n x) := by
  have T := tab_is bk h8 hP0 hP1
  cases bk
  · show (tabOf P n false).getD (x ^^^ ((c >>> (n - 8)) &&& 255)) 0 ^^^ ((c <<< 8) &&& (2 ^ n - 256)) = itn (SqF n P) 8 (c ^^^ (x <<< (n - 8)))
    have hhi : c >>> (n - 8) < 2 ^ 8 := by
      rw [Nat.shiftRight_eq_div_pow]
      refine Nat.div_lt_of_lt_mul ?_
      rw [← Nat.pow_add, show n - 8 + 8 = n by omega]; exact hc
    have hlo : c % 2 ^ (n - 8) < 2 ^ (n - 8) := Nat.mod_lt _ (Nat.two_pow_pos _)
    rw [and_255, Nat.mod_eq_of_lt hhi, T _ (Nat.xor_lt_two_pow (n := 8) hx hhi)]
    have e1 : (c <<< 8) &&& (2 ^ n - 256) = itn (SqF n P) 8 (c % 2 ^ (n - 8)) := by
      rw [itnF_small 8 _ h8 hlo, ← Nat.and_two_pow_sub_one_eq_mod, Nat.shiftLeft_and_distrib]
      congr 1
      rw [Nat.shiftLeft_eq, Nat.sub_mul, ← Nat.pow_add, show n - 8 + 8 = n by omega]
    have e2 : c ^^^ (x <<< (n - 8)) = (x ^^^ (c >>> (n - 8))) <<< (n - 8) ^^^ c % 2 ^ (n - 8) := by
      rw [Nat.shiftLeft_xor_distrib, Nat.xor_assoc, ← split_at, Nat.xor_comm]
    rw [e1, e2, itn_lin (SqF_lin n P)]
    rfl
  · show (tabOf P n true).getD (x ^^^ (c &&& 255)) 0 ^^^ (c >>> 8) = itn (SqB n P) 8 (c ^^^ x)
    rw [and_255, T _ (Nat.xor_lt_two_pow (n := 8) hx (Nat.mod_lt _ (by decide)))]
    have e2 : c ^^^ x = (x ^^^ c % 2 ^ 8) ^^^ (c >>> 8) <<< 8 := by
      rw [Nat.xor_assoc, Nat.xor_comm (c % 2 ^ 8), ← split_at, Nat.xor_comm]
    rw [e2, itn_lin (SqB_lin n P), itnB_shl]
    rfl
end
section
theorem bsum_split (V : Nat) (H : Nat → Nat) (a : Nat) : ∀ b, bsum (a + b) V H = bsum a V H ^^^ bsum b (V >>> a) fun i => H (a + i)
  | 0 => (Nat.xor_zero _).symm
  | b + 1 => by
    show bsum (a + b) V H ^^^ (if V.testBit (a + b) then H (a + b) else 0) = bsum a V H ^^^ (bsum b (V >>> a) (fun i => H (a + i)) ^^^ (if (V >>> a).testBit b then H (a + b) else 0))
    rw [bsum_split V H a b, Nat.xor_assoc, Nat.testBit_shiftRight]
def BOf (bk : Bool) (n : Nat) : Nat → Nat := cond bk (BB n) BF
theorem stpOf {n P : Nat} (bk : Bool) (h0 : 1 ≤ n) (hP0 : 2 ^ n ≤ P) (hP1 : P < 2 ^ (n + 1)) (htop : P.testBit n = true) : Stp n P (SqOf bk n P) (BOf bk n) := by
  cases bk
  · exact stpF h0 hP0 hP1 htop
  · exact stpB h0
def FOf (bk : Bool) (n P : Nat) : Nat → Nat := seqOf (SqOf bk n P) (BOf bk n)
def ex (bk : Bool) (c i : Nat) : Nat := cond bk (c - 1 - i) i
theorem place_bits {n P : Nat} (bk : Bool) (h8 : 8 ≤ n) (hP0 : 2 ^ n ≤ P) (hP1 : P < 2 ^ (n + 1)) (htop : P.testBit n = true) {x : Nat} (hx : x < 2 ^ 8) : place bk n x = bsum 8 x fun b => FOf bk n P (cond bk (n - 1 - b) (n - 8 + b)) := by
  have s := stpOf bk (by omega) hP0 hP1 htop
  rw [(place_lin bk n).by_bits hx]
  refine bsum_congr fun b hb _ => ?_
  cases bk
  · show 2 ^ b <<< (n - 8) = seqOf _ _ (n - 8 + b)
    rw [seq_low s _ (by omega)]
    show 2 ^ b <<< (n - 8) = 2 ^ (n - 8 + b)
    rw [Nat.shiftLeft_eq, ← Nat.pow_add, Nat.add_comm]
  · show 2 ^ b = seqOf _ _ (n - 1 - b)
    rw [seq_low s _ (by omega)]
    show 2 ^ b = 2 ^ (n - 1 - (n - 1 - b))
    congr 1; omega
theorem itn_place {n P : Nat} (bk : Bool) (h8 : 8 ≤ n) (hP0 : 2 ^ n ≤ P) (hP1 : P < 2 ^ (n + 1)) (htop : P.testBit n = true) {x : Nat} (hx : x < 2 ^ 8) (k : Nat) : itn (SqOf bk n P) (8 + k) (place bk n x) = bsum 8 x fun b => FOf bk n P (cond bk (k + 7 - b) (k + b) + n) := by
  have s := stpOf bk (by omega) hP0 hP1 htop
  rw [place_bits bk h8 hP0 hP1 htop hx, (itn_lin s.lin _).bsum]
  refine bsum_congr fun b hb _ => ?_
  show itn (SqOf bk n P) (8 + k) (seqOf _ _ _) = _
  rw [← seq_add s]
  unfold FOf
  congr 1
  cases bk
  · show n - 8 + b + (8 + k) = k + b + n
    omega
  · show n - 1 - b + (8 + k) = k + 7 - b + n
    omega
theorem itn_lt {n P : Nat} (bk : Bool) (h : 1 ≤ n) (hP0 : 2 ^ n ≤ P) (hP1 : P < 2 ^ (n + 1)) {c : Nat} (hc : c < 2 ^ n) (k : Nat) : itn (SqOf bk n P) k c < 2 ^ n := by
  cases bk
  · exact itnF_lt h hP0 hP1 hc k
  · exact itnB_lt h hc k
theorem place_lt {n x : Nat} (bk : Bool) (h8 : 8 ≤ n) (hx : x < 2 ^ 8) : place bk n x < 2 ^ n := by
  cases bk
  · show x <<< (n - 8) < 2 ^ n
    rw [Nat.shiftLeft_eq]
    have := Nat.mul_lt_mul_of_pos_right hx (Nat.two_pow_pos (n - 8))
    rwa [← Nat.pow_add, show 8 + (n - 8) = n by omega] at this
  · exact Nat.lt_of_lt_of_le hx (Nat.pow_le_pow_right (by decide) h8)
end
section
theorem xor2 {a b c d : Nat} (h : a = c) (k : b = d) : a ^^^ b = c ^^^ d := by rw [h, k]
theorem crcN_lt2 {n P : Nat} (bk : Bool) (h8 : 8 ≤ n) (hP0 : 2 ^ n ≤ P) (hP1 : P < 2 ^ (n + 1)) : ∀ (xs : List Nat) (c : Nat), c < 2 ^ n → (∀ x ∈ xs, x < 256) → crcN n bk (tabOf P n bk) c xs < 2 ^ n
  | [], c, hc, _ => hc
  | x :: xs, c, hc, hx => by
    show crcN n bk (tabOf P n bk) (crcStep n bk (tabOf P n bk) c x) xs < 2 ^ n
    refine crcN_lt2 bk h8 hP0 hP1 xs _ ?_ fun y hy => hx y (.tail _ hy)
    have h := hx x (.head _)
    rw [crc_step_is bk h8 hP0 hP1 hc h]
    exact itn_lt bk (by omega) hP0 hP1 (Nat.xor_lt_two_pow hc (place_lt bk h8 h)) 8
theorem crcN_snoc {n : Nat} {bk : Bool} {T : List Nat} (c x : Nat) (xs : List Nat) : crcN n bk T c (xs ++ [x]) = crcStep n bk T (crcN n bk T c xs) x := by
  unfold crcN; rw [List.foldl_append]; rfl
theorem leN_lt (k x : Nat) : ∀ y ∈ leN k x, y < 256 := by
  intro y hy
  unfold leN at hy
  obtain ⟨i, _, rfl⟩ := List.mem_map.mp hy
  exact Nat.mod_lt _ (by decide)
theorem bytesN_lt (bk : Bool) (k x : Nat) : ∀ y ∈ bytesN bk k x, y < 256 := by
  intro y hy
  cases bk
  · exact leN_lt k x y (List.mem_reverse.mp hy)
  · exact leN_lt k x y hy
theorem p256 (k : Nat) : 256 ^ k = 2 ^ (8 * k) := by rw [Nat.pow_mul]
theorem leN_snoc (k x : Nat) : leN (k + 1) x = leN k x ++ [(x >>> (8 * k)) % 2 ^ 8] := by
  unfold leN
  rw [List.range_succ, List.map_append, List.map_singleton, p256 k, Nat.shiftRight_eq_div_pow]
theorem leN_cons (k x : Nat) : leN (k + 1) x = (x % 2 ^ 8) :: leN k (x >>> 8) := by
  unfold leN
  rw [List.range_succ_eq_map, List.map_cons, List.map_map, Nat.pow_zero, Nat.div_one]
  congr 1
  refine List.map_congr_left fun i _ => ?_
  show x / 256 ^ (i + 1) % 256 = (x >>> 8) / 256 ^ i % 256
  rw [Nat.shiftRight_eq_div_pow, Nat.div_div_eq_div_mul, Nat.pow_succ, Nat.mul_comm]
theorem crc_is {n P : Nat} (bk : Bool) (h8 : 8 ≤ n) (hP0 : 2 ^ n ≤ P) (hP1 : P < 2 ^ (n + 1)) (htop : P.testBit n = true) {c : Nat} (hc : c < 2 ^ n) : ∀ (k V : Nat), crcN n bk (tabOf P n bk) c (bytesN bk k V) = itn (SqOf bk n P) (8 * k) c ^^^ bsum (8 * k) V fun i => FOf bk n P (ex bk (8 * k) i + n)
  | 0, V => by
    have e : bytesN bk 0 V = [] := by cases bk <;> rfl
    rw [e]
    show c = c ^^^ 0
    rw [Nat.xor_zero]
  | k + 1, V => by
    have s := stpOf bk (by omega) hP0 hP1 htop
    have key : ∀ (W x : Nat), x < 256 → crcStep n bk (tabOf P n bk) (crcN n bk (tabOf P n bk) c (bytesN bk k W)) x = itn (SqOf bk n P) (8 * (k + 1)) c ^^^ ((bsum (8 * k) W fun i => FOf bk n P (ex bk (8 * k) i + n + 8)) ^^^ bsum 8 x fun b => FOf bk n P (cond bk (0 + 7 - b) (0 + b) + n)) := by
      intro W x hx
      have hlt := crcN_lt2 bk h8 hP0 hP1 (bytesN bk k W) c hc (bytesN_lt bk k W)
      rw [crc_step_is bk h8 hP0 hP1 hlt hx, itn_lin (SqOf_lin bk n P), crc_is bk h8 hP0 hP1 htop hc k W, itn_lin (SqOf_lin bk n P), ← itn_add, (itn_lin (SqOf_lin bk n P) 8).bsum, Nat.xor_assoc]
      have h0 := itn_place bk h8 hP0 hP1 htop hx 0
      rw [Nat.add_zero] at h0
      rw [h0]
      refine xor2 rfl (xor2 ?_ rfl)
      exact bsum_congr fun i _ _ => (seq_add s 8 _).symm
    cases bk
    · have e : bytesN false (k + 1) V = bytesN false k (V >>> 8) ++ [V % 2 ^ 8] := by
        show (leN (k + 1) V).reverse = (leN k (V >>> 8)).reverse ++ [V % 2 ^ 8]
        rw [leN_cons, List.reverse_cons]
      rw [e, crcN_snoc, key _ _ (Nat.mod_lt _ (by decide))]
      congr 1
      rw [show 8 * (k + 1) = 8 + 8 * k by omega, bsum_split, Nat.xor_comm, bsum_mod V 8 _ 8 (Nat.le_refl _)]
      refine xor2 ?_ ?_
      · exact bsum_congr fun i _ _ => by
          show FOf false n P (0 + i + n) = FOf false n P (i + n)
          rw [Nat.zero_add]
      · exact bsum_congr fun i _ _ => by
          show FOf false n P (i + n + 8) = FOf false n P (8 + i + n)
          congr 1; omega
    · have e : bytesN true (k + 1) V = bytesN true k V ++ [(V >>> (8 * k)) % 2 ^ 8] := leN_snoc k V
      rw [e, crcN_snoc, key _ _ (Nat.mod_lt _ (by decide))]
      congr 1
      rw [show 8 * (k + 1) = 8 * k + 8 by omega, bsum_split, bsum_mod _ 8 _ 8 (Nat.le_refl _)]
      refine xor2 ?_ ?_
      · exact bsum_congr fun i hi _ => by
          show FOf true n P (8 * k - 1 - i + n + 8) = FOf true n P (8 * k + 8 - 1 - i + n)
          congr 1; omega
      · exact bsum_congr fun i hi _ => by
          show FOf true n P (0 + 7 - i + n) = FOf true n P (8 * k + 8 - 1 - (8 * k + i) + n)
          congr 1; omega
theorem B_ex (bk : Bool) {n i : Nat} (hi : i < n) : BOf bk n (ex bk n i) = 2 ^ i := by
  cases bk
  · rfl
  · show 2 ^ (n - 1 - (n - 1 - i)) = 2 ^ i
    congr 1; omega
theorem ex_lt (bk : Bool) {n i : Nat} (hi : i < n) : ex bk n i < n := by
  cases bk
  · exact hi
  · show n - 1 - i < n
    omega
theorem ex_ex (bk : Bool) {n i : Nat} (hi : i < n) : ex bk n (ex bk n i) = i := by
  cases bk
  · rfl
  · show n - 1 - (n - 1 - i) = i
    omega
theorem F_ex {n P : Nat} (bk : Bool) (h1 : 1 ≤ n) (hP0 : 2 ^ n ≤ P) (hP1 : P < 2 ^ (n + 1)) (htop : P.testBit n = true) {i : Nat} (hi : i < n) : FOf bk n P (ex bk n i) = 2 ^ i := by
  unfold FOf
  rw [seq_low (stpOf bk h1 hP0 hP1 htop) _ (ex_lt bk hi), B_ex bk hi]
theorem itn_is {n P : Nat} (bk : Bool) (h1 : 1 ≤ n) (hP0 : 2 ^ n ≤ P) (hP1 : P < 2 ^ (n + 1)) (htop : P.testBit n = true) {c : Nat} (hc : c < 2 ^ n) (k : Nat) : itn (SqOf bk n P) k c = bsum n c fun i => FOf bk n P (ex bk n i + k) := by
  rw [(itn_lin (SqOf_lin bk n P) k).by_bits hc]
  refine bsum_congr fun i hi _ => ?_
  rw [← F_ex bk h1 hP0 hP1 htop hi]
  exact (seq_add (stpOf bk h1 hP0 hP1 htop) k _).symm
/-- the sum of the octets, begun with c -/
def sumN (bk : Bool) (n P c count V : Nat) : Nat := (bsum n c fun i => FOf bk n P (ex bk n i + count)) ^^^ bsum count V fun i => FOf bk n P (ex bk count i + n)
theorem crc_sum {n P : Nat} (bk : Bool) (h8 : 8 ≤ n) (hP0 : 2 ^ n ≤ P) (hP1 : P < 2 ^ (n + 1)) (htop : P.testBit n = true) {c : Nat} (hc : c < 2 ^ n) (k V : Nat) : crcN n bk (tabOf P n bk) c (bytesN bk k V) = sumN bk n P c (8 * k) V := by
  rw [crc_is bk h8 hP0 hP1 htop hc, itn_is bk (by omega) hP0 hP1 htop hc]; rfl
end
section
theorem turn_is (P : Nat) : ∀ k, turnAt P k = bsum k P fun i => 2 ^ (k - 1 - i)
  | 0 => rfl
  | k + 1 => by
    show (turnAt P k <<< 1) ||| ((P >>> k) &&& 1) = _
    rw [turn_is P k, Nat.and_one_is_mod, or_low (Nat.mod_lt _ (by decide)), shl_lin.bsum]
    show (bsum k P fun i => 2 ^ (k - 1 - i) <<< 1) ^^^ (P >>> k % 2) = bsum k P (fun i => 2 ^ (k + 1 - 1 - i)) ^^^ (if P.testBit k then 2 ^ (k + 1 - 1 - k) else 0)
    congr 1
    · exact bsum_congr fun i hi _ => by rw [Nat.shiftLeft_eq, Nat.pow_one, ← Nat.pow_succ]; congr 1; omega
    · have hb : (P >>> k).testBit 0 = P.testBit k := by rw [Nat.testBit_shiftRight, Nat.add_zero]
      rw [Nat.testBit_zero] at hb
      rw [← hb, show k + 1 - 1 - k = 0 by omega, Nat.pow_zero]
      have : P >>> k % 2 = 0 ∨ P >>> k % 2 = 1 := by omega
      rcases this with h | h <;> rw [h] <;> simp
theorem shr_lin (k : Nat) : Lin fun x => x >>> k := fun a b => Nat.shiftRight_xor_distrib
theorem turn_shr {n P : Nat} (h : 1 ≤ n) : turnN P n >>> 1 = rP n P := by
  unfold turnN
  rw [turn_is, (shr_lin 1).bsum]
  show (bsum n P fun i => 2 ^ (n + 1 - 1 - i) >>> 1) ^^^ (if P.testBit n then 2 ^ (n + 1 - 1 - n) >>> 1 else 0) = rP n P
  have e : (if P.testBit n then 2 ^ (n + 1 - 1 - n) >>> 1 else 0) = 0 := by
    rw [show n + 1 - 1 - n = 0 by omega]
    cases P.testBit n <;> rfl
  rw [e, Nat.xor_zero]
  unfold rP
  refine bsum_congr fun i hi _ => ?_
  show 2 ^ (n + 1 - 1 - i) >>> 1 = 2 ^ (n - 1 - i)
  rw [show n + 1 - 1 - i = (n - 1 - i) + 1 by omega, Nat.pow_succ, Nat.shiftRight_eq_div_pow, Nat.pow_one]
  exact Nat.mul_div_cancel _ (by decide)
theorem left_stepN {n P v : Nat} (h : 1 ≤ n) : leftStep (turnN P n) v = SqB n P v := by
  unfold leftStep SqB
  by_cases hb : v.testBit 0 = true
  · rw [if_pos (and_one_bit v ▸ hb), if_pos hb, Nat.shiftRight_xor_distrib, turn_shr h]
  · rw [if_neg (fun q => hb (and_one_bit v ▸ q)), if_neg hb, Nat.xor_zero]
theorem left_itn {n P : Nat} (h : 1 ≤ n) (v : Nat) : ∀ k, leftAt (turnN P n) v k = itn (SqB n P) k v
  | 0 => rfl
  | k + 1 => by
    show leftStep (turnN P n) (leftAt (turnN P n) v k) = SqB n P (itn (SqB n P) k v)
    rw [left_itn h v k, left_stepN h]
theorem itnB_pow {n P : Nat} (h : 1 ≤ n) (hP0 : 2 ^ n ≤ P) (hP1 : P < 2 ^ (n + 1)) (htop : P.testBit n = true) {i c : Nat} (hi : i < c) : itn (SqB n P) c (2 ^ i) = FOf true n P (c - 1 - i + n) := by
  have s := stpOf true h hP0 hP1 htop
  have e1 : itn (SqB n P) i (2 ^ i) = 1 := by
    have := itnB_shl (n := n) (P := P) i 1
    rwa [Nat.shiftLeft_eq, Nat.one_mul] at this
  have e2 : FOf true n P (n - 1) = 1 := by
    unfold FOf
    rw [seq_low s _ (by omega)]
    show 2 ^ (n - 1 - (n - 1)) = 1
    rw [Nat.sub_self]
  have e3 := itn_add (SqB n P) i (2 ^ i) (c - i)
  rw [show i + (c - i) = c by omega, e1, ← e2] at e3
  rw [e3]
  have e4 := seq_add s (c - i) (n - 1)
  have e5 : n - 1 + (c - i) = c - 1 - i + n := by omega
  rw [e5] at e4
  exact e4.symm
theorem leftb_is {n P : Nat} (h : 1 ≤ n) (hP0 : 2 ^ n ≤ P) (hP1 : P < 2 ^ (n + 1)) (htop : P.testBit n = true) {c word count : Nat} (hc : c < 2 ^ n) (hw : word < 2 ^ count) : leftAt (turnN P n) (word ^^^ c) count = sumN true n P c count word := by
  rw [left_itn h, itn_lin (SqB_lin n P), Nat.xor_comm]
  have h1 := itn_is true h hP0 hP1 htop hc count
  unfold sumN
  rw [← h1]
  congr 1
  rw [(itn_lin (SqB_lin n P) count).by_bits hw]
  exact bsum_congr fun i hi _ => itnB_pow h hP0 hP1 htop hi
theorem bsum_shlk (a k K : Nat) (H : Nat → Nat) : bsum (k + K) (a <<< k) H = bsum K a fun i => H (i + k) := by
  rw [bsum_split, Nat.shiftLeft_shiftRight]
  have e : bsum k (a <<< k) H = 0 := by
    rw [bsum_congr (H := fun _ => 0) (fun i hi hb => ?_), bsum_none]
    rw [Nat.testBit_shiftLeft] at hb
    simp [show ¬ k ≤ i by omega] at hb
  rw [e, Nat.zero_xor]
  exact bsum_congr fun i _ _ => by rw [Nat.add_comm]
theorem left_val {n P v0 : Nat} (hn : n ≤ 64) (hP0 : 2 ^ n ≤ P) (hP1 : P < 2 ^ (n + 1)) {F : Nat → Nat} (hF : pol 1 P F = fun _ => 0) (h0 : v0 < 2 ^ 180) {r : Nat} (h : LeftTo P n v0 r) : r < 2 ^ 180 ∧ bsum 600 r F = bsum 600 v0 F := by
  induction h with
  | start => exact ⟨h0, rfl⟩
  | @step v _ hv ih =>
    have hne : v >>> n ≠ 0 := by
      rw [Nat.shiftRight_eq_div_pow]
      have := Nat.div_pos hv (Nat.two_pow_pos n)
      omega
    have hlt := left_less hne hP0 hP1
    refine ⟨Nat.lt_trans hlt ih.1, ?_⟩
    rw [bsum_xor, ih.2]
    have hk : v.log2 - n ≤ 180 := by
      have hv0 : v ≠ 0 := by have := Nat.two_pow_pos n; omega
      have := (Nat.log2_lt hv0).mpr ih.1
      omega
    have hs : P <<< (v.log2 - n) < 2 ^ ((v.log2 - n) + 400) := by
      rw [Nat.shiftLeft_eq, Nat.pow_add, Nat.mul_comm]
      exact Nat.mul_lt_mul_of_pos_left (Nat.lt_of_lt_of_le hP1 (Nat.pow_le_pow_right (by decide) (by omega))) (Nat.two_pow_pos _)
    have e : bsum 600 (P <<< (v.log2 - n)) F = 0 := by
      rw [bsum_le F hs (by omega), bsum_shlk]
      have := congrFun hF (v.log2 - n)
      unfold pol at this
      rw [← this]
      exact bsum_congr fun i _ _ => by rw [Nat.one_mul, Nat.add_comm]
    rw [e, Nat.xor_zero]
theorem shl_lt {x a k : Nat} (h : x < 2 ^ a) : x <<< k < 2 ^ (k + a) := by
  rw [Nat.shiftLeft_eq, Nat.pow_add, Nat.mul_comm]
  exact Nat.mul_lt_mul_of_pos_left h (Nat.two_pow_pos _)
theorem leftf_is {n P : Nat} (h : 1 ≤ n) (hn : n ≤ 64) (hP0 : 2 ^ n ≤ P) (hP1 : P < 2 ^ (n + 1)) (htop : P.testBit n = true) {c word count r : Nat} (hc : c < 2 ^ n) (hw : word < 2 ^ count) (hk : count ≤ 100) (hr : r < 2 ^ n) (hl : LeftTo P n ((word <<< n) ^^^ (c <<< count)) r) : r = sumN false n P c count word := by
  have s := stpOf false h hP0 hP1 htop
  have hF : pol 1 P (FOf false n P) = fun _ => 0 := seq_kill s h hP1 (by omega) htop
  have hw2 := shl_lt (k := n) hw
  have hc2 := shl_lt (k := count) hc
  have h0 : (word <<< n) ^^^ (c <<< count) < 2 ^ 180 := Nat.xor_lt_two_pow (Nat.lt_of_lt_of_le hw2 (Nat.pow_le_pow_right (by decide) (by omega))) (Nat.lt_of_lt_of_le hc2 (Nat.pow_le_pow_right (by decide) (by omega)))
  have h1 := (left_val hn hP0 hP1 hF h0 hl).2
  rw [bsum_le _ hr (by omega), bsum_xor, bsum_le (K := n + count) _ hw2 (by omega), bsum_le (K := count + n) _ hc2 (by omega), bsum_shlk, bsum_shlk] at h1
  have e : bsum n r (FOf false n P) = r := by
    have h2 : bsum n r (FOf false n P) = bsum n r fun i => 2 ^ i := bsum_congr fun i hi _ => F_ex false h hP0 hP1 htop hi
    rw [h2, bsum_pow, Nat.mod_eq_of_lt hr]
  rw [e] at h1
  rw [h1, Nat.xor_comm]; rfl
end
section
theorem and_one_at (bits k : Nat) : ((bits >>> k) &&& 1 ≠ 0) = (bits.testBit k = true) := by
  rw [and_one_bit, Nat.testBit_shiftRight, Nat.add_zero]
theorem mvAt_is (bits count : Nat) (bk : Bool) (m : Nat) (shift : Int) : ∀ k, mvAt bits count bk m shift k = bsum k bits fun i => mvBit count bk m shift i
  | 0 => rfl
  | k + 1 => by
    show (if (bits >>> k) &&& 1 ≠ 0 then mvAt bits count bk m shift k ^^^ mvBit count bk m shift k else mvAt bits count bk m shift k) = bsum k bits (fun i => mvBit count bk m shift i) ^^^ (if bits.testBit k then mvBit count bk m shift k else 0)
    rw [mvAt_is bits count bk m shift k]
    by_cases h : bits.testBit k = true
    · rw [if_pos (and_one_at bits k ▸ h), if_pos h]
    · rw [if_neg (fun q => h (and_one_at bits k ▸ q)), if_neg h, Nat.xor_zero]
theorem mvPlace_lt (count : Nat) (bk : Bool) (m : Nat) (shift : Int) (i : Nat) : mvPlace count bk m shift i < 255 := fmod_toNat_lt _
theorem mvBit_is (count : Nat) (bk : Bool) (m : Nat) (shift : Int) (i : Nat) : mvBit count bk m shift i = 2 ^ (ex bk 256 (mvPlace count bk m shift i)) := by
  unfold mvBit
  rw [Nat.shiftLeft_eq, Nat.one_mul]
  cases bk <;> rfl
theorem ex_lt256 (bk : Bool) {i : Nat} (h : i < 256) : ex bk 256 i < 256 := ex_lt bk h
theorem bsum_lt (V : Nat) {H : Nat → Nat} {k : Nat} (h : ∀ i, H i < 2 ^ k) : ∀ K, bsum K V H < 2 ^ k
  | 0 => Nat.two_pow_pos k
  | K + 1 => by
    show bsum K V H ^^^ (if V.testBit K then H K else 0) < 2 ^ k
    refine Nat.xor_lt_two_pow (bsum_lt V h K) ?_
    split
    · exact h K
    · exact Nat.two_pow_pos k
theorem moved_lt (bits count : Nat) (bk : Bool) (m : Nat) (shift : Int) : movedN bits count bk m shift < 2 ^ 256 := by
  unfold movedN
  rw [mvAt_is]
  refine bsum_lt bits (fun i => ?_) count
  rw [mvBit_is]
  exact Nat.pow_lt_pow_right (by decide) (ex_lt256 bk (Nat.lt_of_lt_of_le (mvPlace_lt _ _ _ _ _) (by decide)))
/-- what the sum of a moved word is -/
theorem sum_moved (bk : Bool) (n Q bits count m : Nat) (shift : Int) : sumN bk n Q 0 256 (movedN bits count bk m shift) = bsum count bits fun i => FOf bk n Q (mvPlace count bk m shift i + n) := by
  unfold sumN movedN
  rw [bsum_zero, Nat.zero_xor, mvAt_is]
  have h := (bsum_lin 256 fun i => FOf bk n Q (ex bk 256 i + n)).bsum bits (fun i => mvBit count bk m shift i) count
  rw [h]
  refine bsum_congr fun i _ _ => ?_
  show bsum 256 (mvBit count bk m shift i) _ = _
  have hp : mvPlace count bk m shift i < 256 := Nat.lt_of_lt_of_le (mvPlace_lt _ _ _ _ _) (by decide)
  rw [mvBit_is, bsum_one _ (ex_lt256 bk hp), ex_ex bk hp]
theorem sum_xor (bk : Bool) (n Q count a b : Nat) : sumN bk n Q 0 count (a ^^^ b) = sumN bk n Q 0 count a ^^^ sumN bk n Q 0 count b := by
  unfold sumN
  rw [bsum_zero, Nat.zero_xor, Nat.zero_xor, Nat.zero_xor, bsum_xor]
theorem place_mod (count : Nat) (bk : Bool) (m : Nat) (shift : Int) (i sN : Nat) (h : (sN : Int) % 255 = shift % 255) : mvPlace count bk m shift i % 255 = (m * (ex bk count i + sN)) % 255 := by
  have e : (if bk then count - 1 - i else i : Nat) = ex bk count i := by cases bk <;> rfl
  unfold mvPlace
  rw [e]
  have h1 : ((m : Int) * ((ex bk count i : Nat) + shift)).fmod 255 = (m : Int) * ((ex bk count i : Nat) + shift) % 255 := Int.fmod_eq_emod_of_nonneg _ (by decide)
  have h2 : (m : Int) * ((ex bk count i : Nat) + shift) % 255 = ((m * (ex bk count i + sN) : Nat) : Int) % 255 := by
    rw [Int.natCast_mul, Int.natCast_add, Int.mul_emod, Int.add_emod, ← h, ← Int.add_emod, ← Int.mul_emod]
  rw [h1, h2]
  omega
end
section
def gOf (inv j : Nat) : Nat := firstN (j * inv)
def jsP (d1 : Int) (st : Nat) : Nat → List Nat
  | 0 => []
  | i + 1 => jAt d1 st i :: jsP d1 st i
theorem pAt_prod (d1 : Int) (st : Nat) : ∀ i, pAt d1 st i = prodL (jsP d1 st i)
  | 0 => rfl
  | i + 1 => by
    show clm 64 0 (pAt d1 st i) (lOf (jAt d1 st i)) = clm 64 0 (prodL (jsP d1 st i)) (lOf (jAt d1 st i))
    rw [pAt_prod d1 st i]
theorem qAt_prod (d1 : Int) (st inv : Nat) : ∀ i, qAt d1 st inv i = prodL ((jsP d1 st i).map (gOf inv))
  | 0 => rfl
  | i + 1 => by
    show clm 64 0 (qAt d1 st inv i) (lOf (gOf inv (jAt d1 st i))) = clm 64 0 (prodL ((jsP d1 st i).map (gOf inv))) (lOf (gOf inv (jAt d1 st i)))
    rw [qAt_prod d1 st inv i]
theorem jsP_len (d1 : Int) (st : Nat) : ∀ i, (jsP d1 st i).length = i
  | 0 => rfl
  | i + 1 => by show (jsP d1 st i).length + 1 = i + 1; rw [jsP_len d1 st i]
theorem look_mem {j : Nat} (h : (leastKV.lookup j).isSome = true) : j ∈ firstsL := by
  obtain ⟨v, hv⟩ := Option.isSome_iff_exists.mp h
  exact List.mem_map.mpr ⟨(j, v), lookup_mem hv, rfl⟩
theorem first_at {j : Nat} (h : j ∈ firstsL) : ∃ r, r < 30 ∧ firstsL.getD r 0 = j := by
  obtain ⟨r, hr, e⟩ := List.mem_iff_getElem.mp h
  have h30 : firstsL.length = 30 := by decide
  exact ⟨r, by omega, by rw [List.getD_eq_getElem?_getD, List.getElem?_eq_getElem hr, e]; rfl⟩
theorem g_mem {a b j : Nat} (ha : a < 16) (hb : b < 8) (h : j ∈ firstsL) : gOf (invOf (mOf a b)) j ∈ firstsL := by
  obtain ⟨r, hr, rfl⟩ := first_at h
  exact look_mem (look_ok a ha b hb r hr)
theorem mem_all {js : List Nat} (h : ∀ j ∈ js, j ∈ firstsL) : AllL js := fun j hj => by
  obtain ⟨r, hr, e⟩ := first_at (h j hj)
  rw [← e]; exact look_first r hr
theorem jsP_mem (d1 : Int) (st : Nat) : ∀ i, ∀ j ∈ jsP d1 st i, j ∈ firstsL
  | 0, j, h => nomatch h
  | i + 1, j, h => by
    rcases List.mem_cons.mp h with rfl | h
    · exact look_mem (look_first _ (r_lt d1 st i))
    · exact jsP_mem d1 st i j h
theorem g_mems {a b : Nat} {js : List Nat} (ha : a < 16) (hb : b < 8) (h : ∀ j ∈ js, j ∈ firstsL) : ∀ j ∈ js.map (gOf (invOf (mOf a b))), j ∈ firstsL := by
  intro j hj
  obtain ⟨i, hi, rfl⟩ := List.mem_map.mp hj
  exact g_mem ha hb (h i hi)
/-- P at the m-th powers kills what Q kills -/
theorem poly_at {a b : Nat} {js : List Nat} (ha : a < 16) (hb : b < 8) (hs : ∀ j ∈ js, j ∈ firstsL) (hl : js.length ≤ 30) {F : Nat → Nat} (hF : pol 1 (prodL (js.map (gOf (invOf (mOf a b))))) F = fun _ => 0) : pol (unitsL.getD a 0 * 2 ^ b) (prodL js) F = fun _ => 0 := by
  rw [pol_prodL 1 _ F (mem_all (g_mems ha hb hs)) (by rw [List.length_map]; exact hl)] at hF
  rw [pol_prodL _ js F (mem_all hs) hl]
  refine prod_dd js F (fun j hj H hH => ?_) hF
  obtain ⟨r, hr, e⟩ := first_at (hs j hj)
  rw [← e] at hH ⊢
  exact dd_all ha hb hr hH
theorem F_period {js : List Nat} {F : Nat → Nat} (hn : js.Nodup) (hs : ∀ j ∈ js, j ∈ firstsL) (hl : js.length ≤ 30) (hF : pol 1 (prodL js) F = fun _ => 0) (c : Nat) : F (c + 255) = F c :=
  period hn hs (by rw [← pol_prodL 1 js F (mem_all hs) hl]; exact hF) c
theorem shift_rec {m M P : Nat} {F : Nat → Nat} (hM : m % 255 = M % 255) (hp : ∀ c, F (c + 255) = F c) (hk : pol M P F = fun _ => 0) (C : Nat) : pol 1 P (fun e => F (C + m * e)) = fun _ => 0 := by
  funext c
  have h := congrFun hk (C + m * c)
  rw [← h]
  unfold pol
  refine bsum_congr fun k _ _ => period_mod hp ?_
  rw [Nat.one_mul, Nat.mul_add, ← Nat.add_assoc, Nat.add_mod, Nat.mul_mod m k, hM, ← Nat.mul_mod, ← Nat.add_mod]
theorem phi_all (bk : Bool) {n P m M : Nat} (h1 : 1 ≤ n) (hn : n < 400) (hP0 : 2 ^ n ≤ P) (hP1 : P < 2 ^ (n + 1)) (htop : P.testBit n = true) {F : Nat → Nat} (hM : m % 255 = M % 255) (hp : ∀ c, F (c + 255) = F c) (hk : pol M P F = fun _ => 0) (C : Nat) :
    ∀ e, bsum n (FOf bk n P e) (fun i => F (C + m * ex bk n i)) = F (C + m * e) := by
  refine k_one (Phi := fun v => bsum n v fun i => F (C + m * ex bk n i)) (G := fun e => F (C + m * e)) hP0 hP1 hn (bsum_lin n _) (seq_kill (stpOf bk h1 hP0 hP1 htop) h1 hP1 hn htop) (shift_rec hM hp hk C) fun e he => ?_
  have h2 := F_ex bk h1 hP0 hP1 htop (ex_lt bk he)
  rw [ex_ex bk he] at h2
  show bsum n (FOf bk n P e) (fun i => F (C + m * ex bk n i)) = F (C + m * e)
  rw [h2, bsum_one _ (ex_lt bk he), ex_ex bk he]
theorem FOf_lt (bk : Bool) {n P : Nat} (h1 : 1 ≤ n) (hP0 : 2 ^ n ≤ P) (hP1 : P < 2 ^ (n + 1)) (e : Nat) : FOf bk n P e < 2 ^ n := by
  unfold FOf seqOf
  refine itn_lt bk h1 hP0 hP1 ?_ e
  cases bk
  · show 2 ^ 0 < 2 ^ n
    exact Nat.pow_lt_pow_right (by decide) (by omega)
  · show 2 ^ (n - 1 - 0) < 2 ^ n
    exact Nat.pow_lt_pow_right (by decide) (by omega)
theorem sum_lt (bk : Bool) {n P : Nat} (h1 : 1 ≤ n) (hP0 : 2 ^ n ≤ P) (hP1 : P < 2 ^ (n + 1)) (c count V : Nat) : sumN bk n P c count V < 2 ^ n :=
  Nat.xor_lt_two_pow (bsum_lt _ (fun i => FOf_lt bk h1 hP0 hP1 _) _) (bsum_lt _ (fun i => FOf_lt bk h1 hP0 hP1 _) _)
/-- the sum of a word moved to places below 0 -/
theorem back_is (bk : Bool) {n Q m : Nat} (hp : ∀ c, FOf bk n Q (c + 255) = FOf bk n Q c) (v : Nat) : sumN bk n Q 0 256 (movedN v n bk m (-(n : Int))) = bsum n v fun i => FOf bk n Q (m * (254 * n) + n + m * ex bk n i) := by
  rw [sum_moved]
  refine bsum_congr fun i _ _ => period_mod hp ?_
  rw [Nat.add_mod, place_mod n bk m (-(n : Int)) i (254 * n) (by omega), ← Nat.add_mod]
  congr 1
  rw [Nat.mul_add]; omega
theorem law_c (bk : Bool) {n P Q m begun count word : Nat} (hp : ∀ c, FOf bk n Q (c + 255) = FOf bk n Q c) (hphi : ∀ e, bsum n (FOf bk n P e) (fun i => FOf bk n Q (m * (254 * n) + n + m * ex bk n i)) = FOf bk n Q (m * (254 * n) + n + m * e)) :
    sumN bk n Q 0 256 (movedN (sumN bk n P begun count word) n bk m (-(n : Int))) = sumN bk n Q 0 256 (movedN word count bk m 0 ^^^ movedN begun n bk m ((count : Int) - (n : Int))) := by
  rw [back_is bk hp, sum_xor, sum_moved, sum_moved]
  have hL := bsum_lin n fun i => FOf bk n Q (m * (254 * n) + n + m * ex bk n i)
  have e1 := hL (bsum n begun fun i => FOf bk n P (ex bk n i + count)) (bsum count word fun i => FOf bk n P (ex bk count i + n))
  have e2 := hL.bsum begun (fun i => FOf bk n P (ex bk n i + count)) n
  have e3 := hL.bsum word (fun i => FOf bk n P (ex bk count i + n)) count
  unfold sumN
  refine e1.trans ?_
  refine (xor2 e2 e3).trans ?_
  rw [Nat.xor_comm]
  refine xor2 ?_ ?_
  · refine bsum_congr fun i _ _ => ?_
    refine (hphi _).trans (period_mod hp ?_)
    rw [Nat.add_mod (mvPlace count bk m 0 i), place_mod count bk m 0 i 0 (by omega), ← Nat.add_mod, Nat.mul_add, Nat.add_zero]
    have e : m * (254 * n) + n + (m * ex bk count i + m * n) = m * ex bk count i + n + 255 * (m * n) := by
      rw [Nat.mul_left_comm]; omega
    rw [e, Nat.add_mul_mod_self_left]
  · refine bsum_congr fun i _ _ => ?_
    refine (hphi _).trans (period_mod hp ?_)
    rw [Nat.add_mod (mvPlace n bk m _ i), place_mod n bk m _ i (count + 254 * n) (by omega), ← Nat.add_mod, Nat.mul_add, Nat.mul_add, Nat.mul_add]
    congr 1; omega
theorem law_d (bk : Bool) {n P Q m inv s : Nat} (h1 : 1 ≤ n) (hP0 : 2 ^ n ≤ P) (hP1 : P < 2 ^ (n + 1)) (htop : P.testBit n = true) (hs : s < 2 ^ n) (hpQ : ∀ c, FOf bk n Q (c + 255) = FOf bk n Q c) (hpP : ∀ c, FOf bk n P (c + 255) = FOf bk n P c) (hmi : (inv * m) % 255 = 1)
    (hpsi : ∀ e, bsum n (FOf bk n Q e) (fun i => FOf bk n P (inv * (254 * n) + n + inv * ex bk n i)) = FOf bk n P (inv * (254 * n) + n + inv * e)) :
    sumN bk n P 0 256 (movedN (sumN bk n Q 0 256 (movedN s n bk m (-(n : Int)))) n bk inv (-(n : Int))) = s := by
  rw [back_is bk hpP, back_is bk hpQ]
  have hL := bsum_lin n fun i => FOf bk n P (inv * (254 * n) + n + inv * ex bk n i)
  refine (hL.bsum s (fun i => FOf bk n Q (m * (254 * n) + n + m * ex bk n i)) n).trans ?_
  have e : (bsum n s fun i => bsum n (FOf bk n Q (m * (254 * n) + n + m * ex bk n i)) fun i => FOf bk n P (inv * (254 * n) + n + inv * ex bk n i)) = bsum n s fun i => 2 ^ i := by
    refine bsum_congr fun i hi _ => ?_
    rw [hpsi, ← F_ex bk h1 hP0 hP1 htop hi]
    refine period_mod hpP ?_
    obtain ⟨k, hk⟩ : ∃ k, inv * m = 255 * k + 1 := ⟨inv * m / 255, by omega⟩
    have e1 : inv * (m * (254 * n) + n + m * ex bk n i) = (inv * m) * (254 * n) + inv * n + (inv * m) * ex bk n i := by
      rw [Nat.mul_add, Nat.mul_add, Nat.mul_assoc, Nat.mul_assoc]
    have e2 : inv * (254 * n) + n + inv * (m * (254 * n) + n + m * ex bk n i) = ex bk n i + 255 * (inv * n + n + k * (254 * n) + k * ex bk n i) := by
      rw [e1, hk, Nat.add_mul, Nat.add_mul, Nat.mul_left_comm inv 254 n, Nat.mul_assoc 255, Nat.mul_assoc 255]
      omega
    rw [e2, Nat.add_mul_mod_self_left]
  refine e.trans ?_
  rw [bsum_pow, Nat.mod_eq_of_lt hs]
end
section
theorem inv_inv : ∀ a < 16, ∀ b < 8, invOf (invOf (mOf a b)) = mOf a b := by decide +kernel
theorem inv_mul : ∀ a < 16, ∀ b < 8, (invOf (mOf a b) * mOf a b) % 255 = 1 := by decide +kernel
def unitAt (v : Nat) : Nat := ((List.range 128).find? fun k => mOf (k / 8) (k % 8) == v).getD 0
theorem unit_at : ∀ a < 16, ∀ b < 8, unitAt (invOf (mOf a b)) < 128 ∧ mOf (unitAt (invOf (mOf a b)) / 8) (unitAt (invOf (mOf a b)) % 8) = invOf (mOf a b) := by decide +kernel
theorem inv_unit {a b : Nat} (ha : a < 16) (hb : b < 8) : ∃ a' b', a' < 16 ∧ b' < 8 ∧ mOf a' b' = invOf (mOf a b) := by
  obtain ⟨h1, h2⟩ := unit_at a ha b hb
  exact ⟨_, _, by omega, by omega, h2⟩
theorem m_mod (a b : Nat) : mOf a b % 255 = (unitsL.getD a 0 * 2 ^ b) % 255 := by
  unfold mOf
  rw [Nat.mod_mod, Nat.shiftLeft_eq, Nat.one_mul]
theorem m_same (a b y : Nat) : firstN (y * mOf a b) = firstN (y * mOf a 0) := by
  have h : ∀ b, firstN (y * mOf a b) = firstN (y * unitsL.getD a 0) := fun b => by
    rw [← first_pow (y * unitsL.getD a 0) b]
    refine firstN_cong ?_
    rw [Nat.mul_assoc, Nat.mul_mod, m_mod, ← Nat.mul_mod]
  rw [h b, h 0]
theorem g_back0 : ∀ a < 16, ∀ r < 30, gOf (mOf a 0) (gOf (invOf (mOf a 0)) (firstsL.getD r 0)) = firstsL.getD r 0 := by decide +kernel
theorem g_back : ∀ a < 16, ∀ b < 8, ∀ r < 30, gOf (mOf a b) (gOf (invOf (mOf a b)) (firstsL.getD r 0)) = firstsL.getD r 0 := fun a ha b hb r hr => by
  have h := g_back0 a ha r hr
  unfold gOf at h ⊢
  rw [g_same ha hb, m_same a b]; exact h
def jsR (r st : Nat) : Nat → List Nat
  | 0 => []
  | i + 1 => firstsL.getD ((r + i * st) % 30) 0 :: jsR r st i
theorem jsR_nodup : ∀ r < 30, ∀ k < 8, ∀ i < 5, (jsR r (stepsL.getD k 0) i).Nodup := by decide +kernel
theorem jsP_R (d1 : Int) (st : Nat) : ∀ i, jsP d1 st i = jsR (d1.fmod 30).toNat st i
  | 0 => rfl
  | i + 1 => by
    show jAt d1 st i :: jsP d1 st i = firstsL.getD (((d1.fmod 30).toNat + i * st) % 30) 0 :: jsR (d1.fmod 30).toNat st i
    rw [jsP_R d1 st i]
    congr 1
    unfold jAt rAt
    congr 1
    rw [Int.fmod_eq_emod_of_nonneg _ (by decide), Int.fmod_eq_emod_of_nonneg _ (by decide)]
    generalize i * st = k
    omega
theorem jsP_nodup (d1 : Int) {k i : Nat} (hk : k < 8) (hi : i < 5) : (jsP d1 (stepsL.getD k 0) i).Nodup := by
  rw [jsP_R]
  refine jsR_nodup _ ?_ k hk i hi
  have h0 := Int.fmod_nonneg_of_pos d1 (show (0 : Int) < 30 by decide)
  have h1 := Int.fmod_lt_of_pos d1 (show (0 : Int) < 30 by decide)
  omega
theorem g_left {a b j : Nat} (ha : a < 16) (hb : b < 8) (h : j ∈ firstsL) : gOf (mOf a b) (gOf (invOf (mOf a b)) j) = j := by
  obtain ⟨r, hr, rfl⟩ := first_at h
  exact g_back a ha b hb r hr
theorem g_nodup {a b : Nat} {js : List Nat} (ha : a < 16) (hb : b < 8) (hs : ∀ j ∈ js, j ∈ firstsL) (hn : js.Nodup) : (js.map (gOf (invOf (mOf a b)))).Nodup := by
  refine List.pairwise_map.mpr (List.Pairwise.imp_of_mem (fun {x y} hx hy hxy e => hxy ?_) hn)
  have := congrArg (gOf (mOf a b)) e
  rwa [g_left ha hb (hs x hx), g_left ha hb (hs y hy)] at this
theorem g_back_map {a b : Nat} (ha : a < 16) (hb : b < 8) : ∀ {js : List Nat}, (∀ j ∈ js, j ∈ firstsL) → (js.map (gOf (invOf (mOf a b)))).map (gOf (mOf a b)) = js
  | [], _ => rfl
  | j :: js, h => by
    show gOf (mOf a b) (gOf (invOf (mOf a b)) j) :: (js.map (gOf (invOf (mOf a b)))).map (gOf (mOf a b)) = j :: js
    rw [g_left ha hb (h j (.head _)), g_back_map ha hb fun i hi => h i (.tail _ hi)]
theorem top_bit {n P : Nat} (hP0 : 2 ^ n ≤ P) (hP1 : P < 2 ^ (n + 1)) : P.testBit n = true := by
  have e : P >>> n = 1 := by
    rw [Nat.shiftRight_eq_div_pow]
    rw [Nat.pow_succ] at hP1
    exact Nat.div_eq_of_lt_le (by omega) (by omega)
  have : (P >>> n).testBit 0 = true := by rw [e]; rfl
  rwa [Nat.testBit_shiftRight, Nat.add_zero] at this
/-- the law, no program in sight -/
theorem law_both (bk : Bool) (d1 : Int) {k2 a b i n P Q m inv begun count word : Nat} (hk : k2 < 8) (ha : a < 16) (hb : b < 8) (hi0 : 1 ≤ i) (hi : i < 5) (hn : n = 8 * i) (hm : m = mOf a b) (hinv : inv = invOf m) (hP : P = pAt d1 (stepsL.getD k2 0) i) (hQ : Q = qAt d1 (stepsL.getD k2 0) inv i) :
    sumN bk n Q 0 256 (movedN (sumN bk n P begun count word) n bk m (-(n : Int))) = sumN bk n Q 0 256 (movedN word count bk m 0 ^^^ movedN begun n bk m ((count : Int) - (n : Int))) ∧
    sumN bk n P 0 256 (movedN (sumN bk n Q 0 256 (movedN word count bk m 0 ^^^ movedN begun n bk m ((count : Int) - (n : Int)))) n bk inv (-(n : Int))) = sumN bk n P begun count word := by
  have h1 : 1 ≤ n := by omega
  have hn4 : n < 400 := by omega
  have rP := p_rng d1 (stepsL.getD k2 0) i
  have rQ := q_rng d1 (stepsL.getD k2 0) a b ha hb i
  rw [← hm, ← hinv, ← hQ, ← hn] at rQ
  rw [← hP, ← hn] at rP
  have tP := top_bit rP.1 rP.2
  have tQ := top_bit rQ.1 rQ.2
  have kP : pol 1 P (FOf bk n P) = fun _ => 0 := seq_kill (stpOf bk h1 rP.1 rP.2 tP) h1 rP.2 hn4 tP
  have kQ : pol 1 Q (FOf bk n Q) = fun _ => 0 := seq_kill (stpOf bk h1 rQ.1 rQ.2 tQ) h1 rQ.2 hn4 tQ
  have nd := jsP_nodup d1 hk hi
  have mem := jsP_mem d1 (stepsL.getD k2 0) i
  have len := jsP_len d1 (stepsL.getD k2 0) i
  rw [pAt_prod] at hP
  rw [qAt_prod] at hQ
  generalize jsP d1 (stepsL.getD k2 0) i = js at *
  rw [hinv, hm] at hQ
  have memQ := g_mems ha hb mem
  have ndQ := g_nodup ha hb mem nd
  have lenQ : (js.map (gOf (invOf (mOf a b)))).length ≤ 30 := by rw [List.length_map]; omega
  have pP : ∀ c, FOf bk n P (c + 255) = FOf bk n P c := F_period nd mem (by omega) (hP ▸ kP)
  have pQ : ∀ c, FOf bk n Q (c + 255) = FOf bk n Q c := F_period ndQ memQ lenQ (hQ ▸ kQ)
  have dP : pol (unitsL.getD a 0 * 2 ^ b) P (FOf bk n Q) = fun _ => 0 := by
    have := poly_at ha hb mem (by omega) (F := FOf bk n Q) (hQ ▸ kQ)
    rw [← hP] at this; exact this
  obtain ⟨a', b', ha', hb', e'⟩ := inv_unit ha hb
  have dQ : pol (unitsL.getD a' 0 * 2 ^ b') Q (FOf bk n P) = fun _ => 0 := by
    have h2 := poly_at ha' hb' memQ lenQ (F := FOf bk n P) (by
      rw [e', inv_inv a ha b hb, g_back_map ha hb mem, ← hP]; exact kP)
    rw [← hQ] at h2; exact h2
  have phi := phi_all bk h1 hn4 rP.1 rP.2 tP (m := m) (by rw [hm]; exact m_mod a b) pQ dP (m * (254 * n) + n)
  have psi := phi_all bk h1 hn4 rQ.1 rQ.2 tQ (m := inv) (by rw [hinv, hm, ← e']; exact m_mod a' b') pP dQ (inv * (254 * n) + n)
  have c := law_c bk (begun := begun) (count := count) (word := word) pQ phi
  refine ⟨c, ?_⟩
  rw [← c]
  exact law_d bk h1 rP.1 rP.2 tP (sum_lt bk h1 rP.1 rP.2 _ _ _) pQ pP (by rw [hinv, hm]; exact inv_mul a ha b hb) psi
end
section
theorem left_gives {w : World} {p : Program} {loose : List Str} {mean : ExcName → Option Value} {mg mb : Str → Option Value} (word count begun poly n : Nat) (bk : Bool) (t1 t2 t3 t4 t5 : Tok) (hc : count ≤ 100) (h1 : 1 ≤ n) (hn : n ≤ 64) (hw : word < 2 ^ count) (hb : begun < 2 ^ n) (hp0 : 2 ^ n ≤ poly) (hp1 : poly < 2 ^ (n + 1)) :
    GV w p loose mean mg mb 1 221 NoPre [.int (word : Int) t1, .int (count : Int) t2, .int (begun : Int) t3, .int (poly : Int) t4, .int (n : Int) t5, .bool bk] (RetN (sumN bk n poly begun count word)) := by
  have htop := top_bit hp0 hp1
  cases bk
  · have hw2 : word < 2 ^ 100 := Nat.lt_of_lt_of_le hw (Nat.pow_le_pow_right (by decide) hc)
    have hb2 : begun < 2 ^ 64 := Nat.lt_of_lt_of_le hb (Nat.pow_le_pow_right (by decide) hn)
    have G := leftf_gives (w := w) (p := p) (loose := loose) (mean := mean) (mg := mg) (mb := mb) word count begun poly n t1 t2 t3 t4 t5 hc hn hw2 hb2 hp0 hp1
    unfold GV Gives at G ⊢
    intro dp un gd cn cs ad ccd cl outer A₀ base h₀ L mF news s Q E B F X N TT hk hdp hun hpre hret
    refine G dp un gd cn cs ad ccd cl outer A₀ base h₀ L mF news s Q E B F X N TT hk hdp hun hpre fun v nx h' tk' hv F' N' D' => hret v nx h' tk' ?_ F' N' D'
    obtain ⟨r, hr, hlt, hto⟩ := hv
    have e := leftf_is h1 hn hp0 hp1 htop hb hw hc hlt hto
    rw [← e]; exact hr
  · have G := leftb_gives (w := w) (p := p) (loose := loose) (mean := mean) (mg := mg) (mb := mb) word count begun poly n t1 t2 t3 t4 t5 (by omega) hn
    rw [leftb_is h1 hp0 hp1 htop hb hw] at G
    exact G
section
open PySem.Calls
variable {M : Model} {A : Around} {env : Env} {E : Value → Shared → Prop} {s : Shared}
theorem ifexp_side {test : Expr} {pos p1 p2 : Pos} {k1 k2 : Nat} {Q : Value → Shared → Prop}
    (h : wpAny M A (isTrue test env (eval test env)) (fun c s₂ => Q (.str (sideOf c) s₂.toks) { s₂ with toks := s₂.toks + 1 }) E s) :
    wpAny M A (eval (.IfExp test (.Constant (.str (Str.ofString "little")) k1 p1) (.Constant (.str (Str.ofString "big")) k2 p2) pos) env) Q E s :=
  IfExp_ (wpAny_mono h (fun c s₂ h2 => by cases c; exact Constant_str h2; exact Constant_str h2) fun _ _ x => x)
end
section
variable {prog : Program} {w : World} {A : Around} {E : Value → Shared → Prop} {s : Shared} {x y : Int} {a b : Nat} {t u : Tok} {Q : Value → Shared → Prop}
theorem floordiv_n (hx : x = (a : Int)) (hy : y = (b : Int)) (hb : b ≠ 0) (hb2 : b < 1000000) (h : Q (.int ((a / b : Nat) : Int) s.toks) { s with toks := s.toks + 1 }) : wpAny (model prog w) A (binaryOp .FloorDiv (.int x t) (.int y u)) Q E s := by
  subst hx; subst hy; exact floordiv_int (by omega) (by rw [fdiv_nat]; exact h) (.inl (PyProof.noPylong_small (by omega)))
theorem ne_same (e : x = y) (h : Q (.bool false) s) : wpAny (model prog w) A (compareOp .NotEq (.int x t) (.int y u)) Q E s := by
  subst e
  refine PyProof.Rows.ne_int ?_
  rw [show (x != x) = false by simp]; exact h
theorem eq_same (e : x = y) (h : Q (.bool true) s) : wpAny (model prog w) A (compareOp .Eq (.int x t) (.int y u)) Q E s := by
  subst e
  refine PyProof.Rows.eq_int ?_
  rw [show (x == x) = true by simp]; exact h
end
end
section
/-- what the law asks of its two polynomials -/
def LawOk (n P Q mm : Nat) : Prop := (2 ^ n ≤ P ∧ P < 2 ^ (n + 1)) ∧ (2 ^ n ≤ Q ∧ Q < 2 ^ (n + 1)) ∧ 8 ≤ n ∧ n ≤ 32 ∧ ∀ (bk : Bool) (begun count word : Nat),
    sumN bk n Q 0 256 (movedN (sumN bk n P begun count word) n bk mm (-(n : Int))) = sumN bk n Q 0 256 (movedN word count bk mm 0 ^^^ movedN begun n bk mm ((count : Int) - (n : Int))) ∧
    sumN bk n P 0 256 (movedN (sumN bk n Q 0 256 (movedN word count bk mm 0 ^^^ movedN begun n bk mm ((count : Int) - (n : Int)))) n bk (invOf mm) (-(n : Int))) = sumN bk n P begun count word
theorem law_ok {d1 : Int} {r2 r3 r4 r0 st mm pp qq : Nat} (h2 : r2 < 8) (h3 : r3 < 16) (h4 : r4 < 8) (h0 : r0 < 4) (hst : st = stepsL.getD r2 0) (hmm : mm = mOf r3 r4) (hp : pp = pAt d1 st (1 + r0)) (hq : qq = qAt d1 st (invOf mm) (1 + r0)) : LawOk (8 * (1 + r0)) pp qq mm := by
  have rP := p_rng d1 st (1 + r0)
  have rQ := q_rng d1 st r3 r4 h3 h4 (1 + r0)
  rw [← hmm, ← hq] at rQ
  rw [← hp] at rP
  refine ⟨rP, rQ, by omega, by omega, fun bk begun count word => ?_⟩
  subst hst
  exact law_both bk d1 h2 h3 h4 (by omega) (by omega) rfl hmm rfl hp hq
theorem x_back (a b : Nat) : (a ^^^ b) ^^^ a = b := by rw [Nat.xor_comm a b, Nat.xor_assoc, Nat.xor_self, Nat.xor_zero]
theorem crcF_sum {n P xo c k V : Nat} {bk : Bool} {b : Array UInt8} (h8 : 8 ≤ n) (hP : 2 ^ n ≤ P ∧ P < 2 ^ (n + 1)) (hx : xo < 2 ^ n) (hc : c < 2 ^ n) (hb : b.toList.map UInt8.toNat = bytesN bk k V) : crcF n bk (tabOf P n bk) xo c b ^^^ xo = sumN bk n P (xo ^^^ c) (8 * k) V := by
  unfold crcF
  rw [hb, crc_sum bk h8 hP.1 hP.2 (top_bit hP.1 hP.2) (Nat.xor_lt_two_pow hx hc), x_back]
theorem crcF_nil {n xo c : Nat} {bk : Bool} {T : List Nat} : crcF n bk T xo c #[] = c := by
  show xo ^^^ (xo ^^^ c) = c
  rw [← Nat.xor_assoc, Nat.xor_self, Nat.zero_xor]
section
variable {n P Q mm c word : Nat} {bk : Bool} {d6 d7 d9 : Int} {b0 b1 b2 b3 : Array UInt8}
theorem is_s (H : LawOk n P Q mm) (hb : b0.toList.map UInt8.toNat = bytesN bk (8 * c / 8) word) : crcF n bk (tabOf P n bk) (lowN d7 n) (lowN d6 n) b0 ^^^ lowN d7 n = sumN bk n P (lowN d6 n ^^^ lowN d7 n) (8 * c) word := by
  rw [show 8 * c / 8 = c by omega] at hb
  rw [crcF_sum H.2.2.1 H.1 (lowN_lt _ _) (lowN_lt _ _) hb, Nat.xor_comm (lowN d7 n)]
theorem is_0 (hP : 2 ^ n ≤ P ∧ P < 2 ^ (n + 1)) (h8 : 8 ≤ n) {V : Nat} (hb : b0.toList.map UInt8.toNat = bytesN bk 32 V) : crcF n bk (tabOf P n bk) (lowN d7 n) (lowN d7 n) b0 ^^^ lowN d7 n = sumN bk n P 0 256 V := by
  rw [crcF_sum h8 hP (lowN_lt _ _) (lowN_lt _ _) hb, Nat.xor_self]
theorem eq_1 (H : LawOk n P Q mm) (hb : b0.toList.map UInt8.toNat = bytesN bk (8 * c / 8) word) : ((crcF n bk (tabOf P n bk) (lowN d7 n) (lowN d6 n) b0 ^^^ lowN d7 n : Nat) : Int) = ((sumN bk n P (lowN d6 n ^^^ lowN d7 n) (8 * c) word : Nat) : Int) :=
  congrArg _ (is_s H hb)
theorem lowN_id {x n : Nat} (h : x < 2 ^ n) : lowN (x : Int) n = x := by
  unfold lowN
  have e : ((2 : Int) ^ n) = ((2 ^ n : Nat) : Int) := (two_pow_cast n).symm ▸ rfl
  rw [e, ← Int.natCast_emod, Int.toNat_natCast, Nat.mod_eq_of_lt h]
theorem eq_2 {V : Nat} (H : LawOk n P Q mm) (hb : b1.toList.map UInt8.toNat = bytesN bk 32 V) : ((crcF n bk (tabOf Q n bk) (lowN d9 n) (lowN d9 n) b1 ^^^ lowN d9 n : Nat) : Int) = ((lowN ((crcF n bk (tabOf Q n bk) (lowN d9 n) (lowN d9 n) b1 ^^^ lowN d9 n : Nat) : Int) n : Nat) : Int) := by
  rw [is_0 H.2.1 H.2.2.1 hb, lowN_id]
  exact sum_lt bk (by have := H.2.2.1; omega) H.2.1.1 H.2.1.2 _ _ _
theorem eq_3 (H : LawOk n P Q mm) (hb : b0.toList.map UInt8.toNat = bytesN bk (8 * c / 8) word) (hb1 : b1.toList.map UInt8.toNat = bytesN bk 32 (movedN word (8 * c) bk mm 0 ^^^ movedN (lowN d6 n ^^^ lowN d7 n) n bk mm (((8 * c : Nat) : Int) - (n : Int))))
    (hb2 : b2.toList.map UInt8.toNat = bytesN bk 32 (movedN (crcF n bk (tabOf P n bk) (lowN d7 n) (lowN d6 n) b0 ^^^ lowN d7 n) n bk mm (-(n : Int)))) :
    ((crcF n bk (tabOf Q n bk) (lowN d9 n) (lowN d9 n) b2 ^^^ lowN d9 n : Nat) : Int) = ((crcF n bk (tabOf Q n bk) (lowN d9 n) (lowN d9 n) b1 ^^^ lowN d9 n : Nat) : Int) := by
  rw [is_s H hb] at hb2
  rw [is_0 H.2.1 H.2.2.1 hb1, is_0 H.2.1 H.2.2.1 hb2, (H.2.2.2.2 bk _ _ _).1]
theorem eq_4 (H : LawOk n P Q mm) (hb : b0.toList.map UInt8.toNat = bytesN bk (8 * c / 8) word) (hb1 : b1.toList.map UInt8.toNat = bytesN bk 32 (movedN word (8 * c) bk mm 0 ^^^ movedN (lowN d6 n ^^^ lowN d7 n) n bk mm (((8 * c : Nat) : Int) - (n : Int))))
    (hb3 : b3.toList.map UInt8.toNat = bytesN bk 32 (movedN (crcF n bk (tabOf Q n bk) (lowN d9 n) (lowN d9 n) b1 ^^^ lowN d9 n) n bk (invOf mm) (-(n : Int)))) :
    ((crcF n bk (tabOf P n bk) (lowN d7 n) (lowN d7 n) b3 ^^^ lowN d7 n : Nat) : Int) = ((crcF n bk (tabOf P n bk) (lowN d7 n) (lowN d6 n) b0 ^^^ lowN d7 n : Nat) : Int) := by
  rw [is_0 H.2.1 H.2.2.1 hb1] at hb3
  rw [is_0 H.1 H.2.2.1 hb3, is_s H hb, (H.2.2.2.2 bk _ _ _).2]
theorem eq_5 {T : List Nat} {xo : Nat} : ((crcF n bk T xo (lowN d6 n) #[] : Nat) : Int) = ((lowN d6 n : Nat) : Int) := by rw [crcF_nil]
end
section
open PySem.Builtin.Int (intBits)
variable {prog : Program} {w : World} {A : Around} {E : Value → Shared → Prop} {s : Shared} {x y : Int} {v k : Nat} {t u z : Tok} {bk : Bool} {Q : Value → Shared → Prop}
theorem tb_n (hx : x = (v : Int)) (hy : y = (k : Int)) (hk : k ≤ 1000) (hv : v < 256 ^ k) (h : ∀ (b : Array UInt8) t' k', b.toList.map UInt8.toNat = bytesN bk k v → Q (.bytes b t') { s with toks := k' }) :
    wpAny (model prog w) A (call (.builtin "int.to_bytes") [.int x t, .int y u, .str (sideOf bk) z]) Q E s := by
  subst hx; subst hy; exact tb_call hk hv h
theorem mul_w (hx : intBits x ≤ 1048576) (hy : intBits y ≤ 1048576) (h : Q (.int (x * y) s.toks) { s with toks := s.toks + 1 }) : wpAny (model prog w) A (binaryOp .Mult (.int x t) (.int y u)) Q E s :=
  mul_int h (IntMulOk.of_le hx hy (by decide))
theorem eq_any (h : ∀ b : Bool, Q (.bool b) s) : wpAny (model prog w) A (compareOp .Eq (.int x t) (.int y u)) Q E s := PyProof.Rows.eq_int (h _)
end
theorem word_room8 {d : Int} {r : Nat} : lowN d (8 * r) < 256 ^ (8 * r / 8) := by
  rw [show 8 * r / 8 = r by omega, p256]; exact lowN_lt _ _
theorem moved_room {bits count m : Nat} {bk : Bool} {sh : Int} : movedN bits count bk m sh < 256 ^ 32 := by
  rw [p256]; exact moved_lt _ _ _ _ _
theorem moved_room2 {bits count m bits' count' m' : Nat} {bk bk' : Bool} {sh sh' : Int} : movedN bits count bk m sh ^^^ movedN bits' count' bk' m' sh' < 256 ^ 32 := by
  rw [p256]; exact Nat.xor_lt_two_pow (moved_lt _ _ _ _ _) (moved_lt _ _ _ _ _)
theorem tabs_none (led : List (Addr × Obj)) : Tabs3 #[] #[] #[] led :=
  ⟨⟨trivial, fun _ _ e => nomatch e⟩, ⟨trivial, fun _ _ e => nomatch e⟩, ⟨trivial, fun _ _ e => nomatch e⟩⟩
theorem led_open {h₀ h : Heap} {L : Addr} {x : Addr × Obj} {l : List (Addr × Obj)} (N : News h₀ L h l) (hx : x ∈ l) : ∃ R, (∀ q ∈ l, q ∈ R) ∧ News h₀ L h (x :: R) :=
  ⟨l, fun _ h => h, fun q hq => by rcases List.mem_cons.mp hq with rfl | h; exact N _ hx; exact N _ h⟩
theorem pre_of {h₀ h : Heap} {L : Addr} {l R : List (Addr × Obj)} (N : News h₀ L h l) (hR : ∀ q ∈ R, q ∈ l) : ∀ q ∈ R, h.get? q.1 = some q.2 := fun q hq => (N q (hR q hq)).1
def Off3 (d : Addr) : Prop := d ≠ (168 : Nat) ∧ d ≠ (173 : Nat) ∧ d ≠ (191 : Nat)
theorem led_split {h₀ h : Heap} {L : Addr} {d0 d1 d2 d3 d4 d5 : Addr} {o0 o1 o2 o3 o4 o5 : Obj} (N : News h₀ L h [(d0, o0), (d1, o1), (d2, o2), (d3, o3), (d4, o4), (d5, o5), (173, tabObj #[]), (168, tabObj #[]), (191, tabObj #[])]) (g0 : Off3 d0) (g1 : Off3 d1) (g2 : Off3 d2) (g3 : Off3 d3) (g4 : Off3 d4) (g5 : Off3 d5) :
    ∃ led0, (d3, o3) ∈ led0 ∧ News h₀ L h (tabs3 #[] #[] #[] ++ led0) ∧ ∀ q ∈ led0, ∀ r ∈ tabs3 #[] #[] #[], q.1 ≠ r.1 := by
  refine ⟨[(d0, o0), (d1, o1), (d2, o2), (d3, o3), (d4, o4), (d5, o5)], .tail _ (.tail _ (.tail _ (.head _))), fun q hq => N q ?_, fun q hq r hr => ?_⟩
  · rcases List.mem_append.mp hq with hq | hq
    · simp only [List.mem_cons, List.not_mem_nil, or_false] at hq
      rcases hq with rfl | rfl | rfl <;> simp
    · simp only [List.mem_cons, List.not_mem_nil, or_false] at hq
      rcases hq with rfl | rfl | rfl | rfl | rfl | rfl <;> simp
  · have h2 : Off3 q.1 := by
      simp only [List.mem_cons, List.not_mem_nil, or_false] at hq
      rcases hq with rfl | rfl | rfl | rfl | rfl | rfl <;> assumption
    simp only [List.mem_cons, List.not_mem_nil, or_false] at hr
    rcases hr with rfl | rfl | rfl
    · exact h2.1
    · exact h2.2.1
    · exact h2.2.2
theorem mem_f {α : Type} {T nx2 nx1 led0 R : List α} (h : ∀ q ∈ T ++ (nx2 ++ (nx1 ++ led0)), q ∈ R) : ∀ q ∈ nx1 ++ (led0 ++ []), q ∈ R := fun q hq => by
  rw [List.append_nil] at hq
  exact h q (List.mem_append_right _ (List.mem_append_right _ hq))
theorem mem_g {α : Type} {T nx2 nx1 led0 R : List α} (h : ∀ q ∈ T ++ (nx2 ++ (nx1 ++ led0)), q ∈ R) : ∀ q ∈ nx2 ++ (nx1 ++ led0 ++ []), q ∈ R := fun q hq => by
  rw [List.append_nil] at hq
  exact h q (List.mem_append_right _ hq)
section
variable {prog : Program} {w : World} {A : Around} {E : Value → Shared → Prop} {s : Shared} {x : Int} {a b n : Nat} {t u : Tok} {Q : Value → Shared → Prop}
theorem and_lowc (h : Q (.int ((lowN x n : Nat) : Int) s.toks) { s with toks := s.toks + 1 }) : wpAny (model prog w) A (binaryOp .BitAnd (.int x t) (.int (((1 <<< n - 1 : Nat)) : Int) u)) Q E s := and_low rfl h
theorem xor_c (h : Q (.int ((a ^^^ b : Nat) : Int) s.toks) { s with toks := s.toks + 1 }) : wpAny (model prog w) A (binaryOp .BitXor (.int (a : Int) t) (.int (b : Int) u)) Q E s := xor_n rfl rfl h
end
theorem fn_at {f : Addr} {nx R : List (Addr × Obj)} (h : ∃ o, (f, o) ∈ nx ∧ IsFn o) (hR : ∀ q ∈ nx, q ∈ R) : ∀ g : Heap, (∀ q ∈ R, g.get? q.1 = some q.2) → FnAt f g := by
  intro g hg
  obtain ⟨o, hm, oc, od, fd, sl, rfl⟩ := h
  exact ⟨oc, od, fd, sl, hg _ (hR _ hm)⟩
theorem grown_all {h₀ h : Heap} {L : Addr} {l : List (Addr × Obj)} {a b c : Array Value} (N : News h₀ L h l) (hm : ∀ q ∈ tabs3 a b c, q ∈ l) : GrownAll [(175, 173), (170, 168), (195, 191)] h :=
  ⟨GrownAt.of N (hm (173, tabObj b) (.tail _ (.head _))), GrownAt.of N (hm (168, tabObj a) (.head _)), GrownAt.of N (hm (191, tabObj c) (.tail _ (.tail _ (.head _)))), trivial⟩
theorem no_raise (args : List WData) (cls : ExcName) : PySem.Challenge.rw_eg5007_01.row.claim.raises args cls = false := rfl
theorem post_w (ns : List Int) : PySem.Challenge.rw_eg5007_01.row.claim.post [ofPy (PyData.list (List.map PyData.int ns))] (.bool true) [ofPy (PyData.list (List.map PyData.int ns))] = true := by
  wrow_post
end
section
theorem nm_i {a : Nat} {z : Int} (_h : (a : Int) = z) : ∃ b, b = a := ⟨a, rfl⟩
theorem nm_n {a z : Nat} (_h : a = z) : ∃ b, b = a := ⟨a, rfl⟩
theorem atAsg {M : Model} {A : Around} {nm : Str} {p q : Pos} {e : Expr} {env : Env} {Q : Flow → Shared → Prop} {E : Value → Shared → Prop} {s : Shared} (h : wpAny M A (exec (.Assign [.Name nm p] e q) env) Q E s) : wpAny M A (exec (.Assign [.Name nm p] e q) env) Q E s := h
local macro_rules | `(tactic| fail "go many") => `(tactic| repeat' (first | (k_unfold; (try dsimp only)) | ((fail_if_success (with_reducible refine atAsg (nm := Str.ofString "many") ?_)); first | walk1 | (dsimp only; walk1) | (dsimp only; k_unfold; (try dsimp only)))))
theorem mkProbe {M : Model} {A : Around} {args : List Value} {Q E : Value → Shared → Prop} {s : Shared} (h : wpAny M A (call (.ref 138) args) Q E s) : wpAny M A (call (.ref 138) args) Q E s := h
local macro_rules | `(tactic| fail "go mk") => `(tactic| repeat' (first | (k_unfold; (try dsimp only)) | ((fail_if_success (with_reducible refine mkProbe ?_)); first | walk1 | (dsimp only; walk1) | (dsimp only; k_unfold; (try dsimp only)))))
section
set_option hygiene false in
local macro_rules | `(tactic| fail "binaryOp Mod int int") => `(tactic| (k_dflt (((with_reducible refine' mod_abs ?h1 ?h2 ?_); (case h1 => k_dflt (first | with_reducible exact lit_n _ | rfl)); (case h2 => k_dflt (decide)))); intro r' hr' hl'))
local macro_rules | `(tactic| fail "binaryOp Mult int int") => `(tactic| k_dflt (((with_reducible refine' mul_n ?h1 ?h2 ?h3 ?_ ?h4); (case h1 => k_dflt (first | with_reducible exact lit_n _ | rfl)); (case h2 => k_dflt (first | with_reducible exact lit_n _ | rfl)); (case h3 => k_dflt (fail "small")); (case h4 => k_dflt (fail "small")))))
local macro_rules | `(tactic| fail "small") => `(tactic| first | decide | (exact one_shl_lt (by with_reducible assumption)) | exact Nat.lt_of_lt_of_le (by with_reducible assumption) (by decide) | omega)
set_option hygiene false in
local macro_rules | `(tactic| fail "subscriptTail") => `(tactic| (k_here; k_dflt (((with_reducible refine' tup_led (ns := stepsL) ?h1 ?h2 ?h3 ?h4 ?h5 ?h6 ?h7 ?_); (case h1 => k_dflt (k_asm)); (case h2 => k_dflt (k_mem)); (case h3 => k_dflt (repeat (first | exact .nil | refine .cons _ _ ?_))); (case h4 => k_dflt (first | with_reducible exact lit_n _ | rfl)); (case h5 => k_dflt (assumption)); (case h6 => k_dflt (decide)); (case h7 => k_dflt (decide)))); intro j' uj' hj' hjl'))
set_option hygiene false in
local macro_rules | `(tactic| fail "subscriptTail") => `(tactic| (k_here; (with_reducible show wpAny _ _ (subscriptTail (Expr.Name (Str.ofString "units") _) _ _ _) _ _ _); k_dflt (((with_reducible refine' units_at ?h1 ?h2 ?h3 ?h4 ?_); (case h1 => k_dflt (k_asm)); (case h2 => k_dflt (k_asm)); (case h3 => k_dflt (first | with_reducible exact lit_n _ | rfl)); (case h4 => k_dflt (assumption)))); intro j' uj' hj' hjl'))
set_option hygiene false in
local macro_rules | `(tactic| fail "subscriptTail") => `(tactic| (k_here; (with_reducible show wpAny _ _ (subscriptTail (Expr.Name (Str.ofString "firsts") _) _ _ _) _ _ _); k_dflt (((with_reducible refine' firsts_at ?h1 ?h2 ?h3 ?h4 ?_); (case h1 => k_dflt (k_asm)); (case h2 => k_dflt (k_asm)); (case h3 => k_dflt (first | with_reducible exact lit_n _ | rfl)); (case h4 => k_dflt (assumption)))); intro j' uj' hj' hjl'))
set_option hygiene false in
local macro_rules | `(tactic| fail "subscriptTail") => `(tactic| (k_here; (with_reducible show wpAny _ _ (subscriptTail (Expr.Name (Str.ofString "least") _) _ _ _) _ _ _); k_dflt (((with_reducible refine' least_at ?h1 ?h2 ?h3 ?h4 ?_); (case h1 => k_dflt (k_asm)); (case h2 => k_dflt (k_asm)); (case h3 => k_dflt (first | with_reducible exact lit_n _ | rfl)); (case h4 => k_dflt (with_reducible first | exact some_times (by assumption) (by assumption) hmm hl3 hl4 | exact some_first (by assumption) (by assumption))))); intro v' uv' hv'))
local macro_rules | `(tactic| fail "call builtin:pow") => `(tactic| (k_here; k_dflt (((with_reducible refine' pow_inv ?h1 rfl rfl ?_); (case h1 => k_dflt (first | with_reducible exact lit_n _ | rfl)))); intro tp'))
set_option hygiene false in
local macro_rules | `(tactic| fail "which") => `(tactic| first | exact first_gives _ _ | exact times_gives _ _ _ _ (by assumption) (look_64 (by assumption)) | exact moved_gives _ _ _ _ _ _ _ _ _ (by omega) (by omega) (by omega) (by omega) | exact left_gives _ _ _ _ _ _ _ _ _ _ _ (by omega) (by omega) (by omega) (lowN_lt _ _) (Nat.xor_lt_two_pow (lowN_lt _ _) (lowN_lt _ _)) hpr.1 hpr.2)
local macro_rules | `(tactic| fail "off3") => `(tactic| (refine ⟨?_, ?_, ?_⟩ <;> (show (_ : Nat) ≠ _) <;> omega))
local macro_rules | `(tactic| fail "binaryOp BitAnd int int") => `(tactic| (with_reducible refine and_lowc ?_))
local macro_rules | `(tactic| fail "binaryOp BitXor int int") => `(tactic| (with_reducible refine xor_c ?_))
local macro_rules | `(tactic| fail "binaryOp FloorDiv int int") => `(tactic| k_dflt (((with_reducible refine' floordiv_n ?h1 ?h2 ?h3 ?h4 ?_); (case h1 => k_dflt (first | with_reducible exact lit_n _ | rfl)); (case h2 => k_dflt (first | with_reducible exact lit_n _ | rfl)); (case h3 => k_dflt (decide)); (case h4 => k_dflt (decide)))))
set_option hygiene false in
local macro_rules | `(tactic| fail "compareOp NotEq int int") => `(tactic| k_dflt ((with_reducible refine' ne_same ?h1 ?_); (case h1 => with_reducible first | exact eq_1 HL (by assumption) | exact eq_2 HL (by assumption) | exact eq_3 HL (by assumption) (by assumption) (by assumption) | exact eq_4 HL (by assumption) (by assumption) (by assumption))))
local macro_rules | `(tactic| fail "compareOp Eq int int") => `(tactic| (k_dflt (first | ((with_reducible refine' eq_same ?h1 ?_); (case h1 => with_reducible exact eq_5)) | ((with_reducible refine eq_any ?_); intro bk'))))
local macro_rules | `(tactic| fail "eval IfExp") => `(tactic| (with_reducible refine ifexp_side ?_))
local macro_rules | `(tactic| fail "call builtin:int.to_bytes") => `(tactic| (k_here; k_dflt (((with_reducible refine' tb_n ?h1 ?h2 ?h3 ?h4 ?_); (case h1 => k_dflt (first | with_reducible exact lit_n _ | rfl)); (case h2 => k_dflt (first | with_reducible exact lit_n _ | rfl)); (case h3 => k_dflt (first | decide | omega)); (case h4 => k_dflt (first | exact word_room8 | exact moved_room | exact moved_room2)))); intro b' tb' kb' hb'))
set_option hygiene false in
local macro_rules | `(tactic| fail "subscriptTail Name Constant ref int") => `(tactic| (k_here; (with_reducible show wpAny _ _ (subscriptTail (Expr.Name (Str.ofString "draw") _) _ _ _) _ _ _); k_dflt (((with_reducible refine' draw_item ?h1 ?h2 hds ?h3 ?h4 ?_ ?h5); (case h1 => k_dflt (k_asm)); (case h2 => k_dflt (k_mem)); (case h3 => k_dflt (first | with_reducible exact lit_n _ | rfl)); (case h4 => k_dflt (rw [hds12]; decide)); (case h5 => k_dflt (decide)))); intro ud'))
set_option hygiene false in
local macro_rules | `(tactic| fail "GrownAll") => `(tactic| k_dflt (exact grown_all (by assumption) (fun q hq => by repeat (first | exact hTab q hq | refine List.Mem.tail _ ?_))))
set_option hygiene false in
local macro_rules | `(tactic| fail "fn of") => `(tactic| (first | refine hFa _ ?_ | refine hGa _ ?_) <;> exact pre_of (by assumption) (fun q hq => by repeat (first | exact hq | refine List.Mem.tail _ ?_)))
set_option hygiene false in
local macro_rules | `(tactic| fail "callWith ref nil nil") => `(tactic| (k_here; (first | (with_reducible show wpAny _ _ (callWith _ (Value.ref fa) _ _ _) _ _ _) | (with_reducible show wpAny _ _ (callWith _ (Value.ref ga) _ _ _) _ _ _)); k_dflt (first
  | (refine' callWith_F ?k1 ?_; (case k1 => fail "fn of"); k_whole)
  | (refine' callWith_F0 ?k1 ?_; (case k1 => fail "fn of"); k_whole; try dsimp only [List.nil_append, List.cons_append]))))
local macro_rules | `(tactic| fail "And") => `(tactic| ((with_reducible show FnAt _ _ ∧ _); k_dflt (refine ⟨by fail "fn of", ?_⟩); try dsimp only [List.nil_append, List.cons_append]))
set_option hygiene false in
local macro_rules | `(tactic| fail "binaryOp Mult int int") => `(tactic| k_dflt ((with_reducible refine' mul_w (hbits _) ?h1 ?_); (case h1 => decide +kernel)))
local macro_rules | `(tactic| fail "binaryOp Mult int int") => `(tactic| k_dflt (((with_reducible refine' mul_n ?h1 ?h2 ?h3 ?_ ?h4); (case h1 => k_dflt (first | with_reducible exact lit_n _ | rfl)); (case h2 => k_dflt (first | with_reducible exact lit_n _ | rfl)); (case h3 => k_dflt (fail "small")); (case h4 => k_dflt (fail "small")))))
set_option hygiene false in
local macro_rules | `(tactic| fail "call ref") => `(tactic| (k_here; k_dflt (refine' use_n ?kG ?k1 ?k2 ?k3 ?k4 ?k5 ?kK ?kd ?ku ?kP ?_; fail "use sides"; (case kG => first | exact (hf _ _).1 | exact (hf _ _).2 _ _ | exact (hg _ _).1 | exact (hg _ _).2 _ _); (case kP => exact pre_of (by assumption) (fun q hq => by repeat (first | exact hq | refine List.Mem.tail _ ?_))); (case kd => ktr_room); (case ku => ktr_units)); intro t' h' tk' F' N'; (try dsimp only); (try k_fold)))
local macro_rules | `(tactic| fail "call ref") => `(tactic| fail "use n")
local macro_rules | `(tactic| fail "execs cons") => `(tactic| (k_here; k_gentoks))
local macro_rules | `(tactic| fail "execs nil") => `(tactic| (k_here; k_gentoks))
set_option maxHeartbeats 16000000 in
theorem law_holds : PySem.Challenge.rw_eg5007_01.Holds := Mine.hd (by
  k_go0
  all_goals try k_fold
  fail "go many"
  rename IntsAre _ (List.map _ (rangeKs _ _)) => hI8
  obtain ⟨ds, hds, hds12, hbits⟩ := draw_gen hI8 (fun k hk => draw_bits (by assumption) k hk)
  clear hI8
  fail "go"
  rename _ = Int.fmod _ ((4 : Nat) : Int) => hr0
  rename _ = Int.fmod (ds.getD (Int.toNat 2) 0) ((8 : Nat) : Int) => hr2
  rename _ = Int.fmod _ ((16 : Nat) : Int) => hr3
  rename _ = Int.fmod (ds.getD (Int.toNat 4) 0) ((8 : Nat) : Int) => hr4
  rename _ = stepsL.getD _ 0 => hst
  rename _ = unitsL.getD _ 0 => hun
  rename _ = Int.fmod _ ((255 : Nat) : Int) => hm
  obtain ⟨r0, e0⟩ := nm_i hr0
  subst e0
  obtain ⟨r2, e0⟩ := nm_i hr2
  subst e0
  obtain ⟨r3, e0⟩ := nm_i hr3
  subst e0
  obtain ⟨r4, e0⟩ := nm_i hr4
  subst e0
  obtain ⟨st, e0⟩ := nm_n hst
  subst e0
  obtain ⟨mm, e0⟩ := nm_i hm
  subst e0
  have hmm := m_is hun hm
  have hl0 : r0 < 4 := by assumption
  have hl3 : r3 < 16 := by assumption
  have hl4 : r4 < 8 := by assumption
  have hl2 : r2 < 8 := by assumption
  have hml : mm < 255 := by assumption
  have hstl : st < 256 := by assumption
  rename IsRange _ _ _ _ _ _ _ _ => hR
  rename News _ _ _ _ => N5
  rename Fr _ _ _ _ => F5
  with_unfolding_all refine' kst_range (σ := (Nat × Nat) × (Tok × Tok)) (n := 1 + r0) (fun _ => _) (fun c => [(Str.ofString "p", .int (c.1.1 : Int) c.2.1), (Str.ofString "q", .int (c.1.2 : Int) c.2.2)]) (fun _ => True) [Str.ofString "j"] (fun pre c => c.1 = (pAt (ds.getD 1 0) st pre.length, qAt (ds.getD 1 0) st (invOf mm) pre.length)) ((1, 1), (_, _)) rfl hR ?ks ?kn F5 N5 trivial ?kk ?kp ?kt ?kd
  case ks => exact rng_small (by omega)
  case kn => exact rng_size
  case kk => kst_all
  case kp => rfl
  case kt =>
    clear F5 N5
    intro c pre k tk u h5 tk5 own hk5 hlt hoff _ hP F6 N6
    obtain ⟨⟨pp, qq⟩, ta, tb⟩ := c
    dsimp only [kstB] at hP F6
    try dsimp only at N6
    have hk6 : k = (pre.length : Int) := by omega
    subst hk6
    have hP1 : pp = pAt (ds.getD 1 0) st pre.length := congrArg Prod.fst hP
    have hP2 : qq = qAt (ds.getD 1 0) st (invOf mm) pre.length := congrArg Prod.snd hP
    have hpp : pp < 2 ^ 64 := by rw [hP1]; exact rng_64 (p_rng _ _ _) (by omega)
    have hqq : qq < 2 ^ 64 := by rw [hP2, hmm]; exact rng_64 (q_rng _ _ _ _ hl3 hl4 _) (by omega)
    have hinv : invOf mm < 255 := by rw [hmm]; exact inv_lt _ hl3 _ hl4
    show wpAny _ _ _ _ _ _
    k_fold
    fail "go"
    refine kst_end ((_, _), (_, _)) (by assumption) (by assumption) (fun p hp => List.mem_append_left _ hp) (fun p hp => List.mem_append_right _ hp) rfl trivial (by kst_all) (by kst_same) ?_
    show (_, _) = (pAt (ds.getD 1 0) st (pre ++ [(pre.length : Int)]).length, qAt (ds.getD 1 0) st (invOf mm) (pre ++ [(pre.length : Int)]).length)
    rw [List.length_append]
    exact Prod.ext (p_step hr' hj' (by with_reducible assumption) hP1) (q_step hr' hj' hv' hP2)
  case kd =>
    clear F5 N5
    intro c u h5 tk5 _ hP F6 N6
    obtain ⟨⟨pp, qq⟩, ta, tb⟩ := c
    dsimp only [kstB] at hP F6
    try dsimp only at N6
    rw [rangeKs_length] at hP
    obtain ⟨hP1, hP2⟩ := Prod.mk.inj hP
    have HL := law_ok hl2 hl3 hl4 hl0 hst hmm hP1 hP2
    have hpr := HL.1
    have hqr := HL.2.1
    have hinv : invOf mm < 255 := by rw [hmm]; exact inv_lt _ hl3 _ hl4
    fail "go mk"
    rename News _ _ _ _ => N7
    obtain ⟨led0, hdraw, N8, hd0⟩ := led_split N7 (by fail "off3") (by fail "off3") (by fail "off3") (by fail "off3") (by fail "off3") (by fail "off3")
    clear N7
    refine' use_tg (D := 7) (news := led0) (old := []) (a := #[]) (b := #[]) (c := #[]) ?G ?B ?F ?X ?N ?hdis ?hold ?hco ?htab ?TT ?hk ?hdp ?hun ?_
    case TT => k_asm
    case G => exact mk_gives pp (8 * (1 + r0)) _ _ _ _ _ _ (by omega) hpr.1 hpr.2
    case B => k_asm
    case F => k_asm
    case X => k_asm
    case hk => rfl
    case hdp => ktr_room
    case hun => ktr_units
    case hco => exact ⟨by with_reducible assumption, by with_reducible assumption, by with_reducible assumption⟩
    case hold => exact fun q hq => nomatch hq
    case N => exact N8
    case htab => exact tabs_none _
    case hdis => exact hd0
    intro v nx1 a1 b1 c1 h1 tk1 hv F8 N9 hd1 ht1
    obtain ⟨fa, rfl, hfn0, hf0⟩ := hv
    clear N8
    obtain ⟨R1, hR1, N10⟩ := led_open N9 (List.mem_append_right _ (List.mem_append_right _ hdraw))
    clear N9
    try dsimp only
    try k_fold
    fail "go mk"
    rename News _ _ _ _ => N11
    refine' use_tg (D := 7) (news := nx1 ++ led0) (old := []) (a := a1) (b := b1) (c := c1) ?G ?B ?F ?X ?N ?hdis ?hold ?hco ?htab ?TT ?hk ?hdp ?hun ?_
    case TT => k_asm
    case G => exact mk_gives qq (8 * (1 + r0)) _ _ _ _ _ _ (by omega) hqr.1 hqr.2
    case B => k_asm
    case F => k_asm
    case X => k_asm
    case hk => rfl
    case hdp => ktr_room
    case hun => ktr_units
    case hco => exact ⟨by with_reducible assumption, by with_reducible assumption, by with_reducible assumption⟩
    case hold => exact fun q hq => nomatch hq
    case N => exact fun q hq => N11 q (by repeat (first | exact hR1 _ hq | refine List.Mem.tail _ ?_))
    case htab => exact ht1
    case hdis => exact hd1
    intro v nx2 a2 b2 c2 h2 tk2 hv F12 N12 hd2 ht2
    obtain ⟨ga, rfl, hgn0, hg0⟩ := hv
    clear N11
    obtain ⟨R2, hR2, N13⟩ := led_open N12 (List.mem_append_right _ (List.mem_append_right _ (List.mem_append_right _ hdraw)))
    clear N12
    have hf := hf0.pre (pre' := fun h => ∀ q ∈ R2, h.get? q.1 = some q.2) fun h hp q hq => hp q (mem_f hR2 q hq)
    have hg := hg0.pre (pre' := fun h => ∀ q ∈ R2, h.get? q.1 = some q.2) fun h hp q hq => hp q (mem_g hR2 q hq)
    have hTab : ∀ q ∈ tabs3 a2 b2 c2, q ∈ R2 := fun q hq => hR2 q (List.mem_append_left _ hq)
    have hFa := fn_at hfn0 fun q hq => mem_f hR2 q (List.mem_append_left _ hq)
    have hGa := fn_at hgn0 fun q hq => mem_g hR2 q (List.mem_append_left _ hq)
    clear hfn0 hgn0 hf0 hg0 hR1 hR2 hd0 hd1 hd2 ht1 ht2
    try dsimp only
    try k_fold
    fail "go"
    exact goodW_bool (by with_reducible assumption) (by with_reducible assumption) (no_raise _) (post_w _))
end
end
end Mine
theorem PySem.Challenge.cw_eg5007_01_holds : PySem.Challenge.rw_eg5007_01.Holds :=
  Mine.law_holds
