import PyProof.Rows.All
import Wide.All
import OpenK.AllK
import Wide.FinOn
import Lean
import PySem.Challenge.RW_fe0054_01
open PySem PySem.W PyProof.Rows
set_option Elab.async false
section
namespace Mine
theorem good_bool {cl : Str → Option Addr} {mean : ExcName → Option Value} {args : List WData} {s₁ s' : Shared} {L : Addr} {m : Str → Option Value} {b : Bool}
    (F : Fr s₁.heap L s'.heap m) (hg : s'.gens = #[]) (hb : b = true) (hos : s'.os = s₁.os := by rfl) :
    GoodW PySem.Challenge.rw_fe0054_01.row.claim cl mean args s₁ (.ok (.ret (.bool b))) s' := by
  subst hb
  exact goodW_bool F hg (raisesW_false allW_false_nil) (postW_of rfl (w_eq_bool (w_res rfl) w_lit) rfl) hos
end Mine
end
section
namespace Mine
/-- where the walk is to stop: the goal itself, under a name that no line of the walk knows -/
def Stop (P : Prop) : Prop := P
/-- a mark: the walk is to go into the call of the def at this place -/
structure Entered (a : Nat) : Prop where
theorem Stop.out {P : Prop} (h : Stop P) : P := h
theorem Stop.go {P : Prop} (h : P) : Stop P := h
open PySem.Calls PyProof.V PySem.Spec

/-- what a call that hands back an int leaves: the caller's frame and ledger as they were -/
def RetI (h₀ : Heap) (L : Addr) (m : Str → Option Value) (news : List (Addr × Obj)) (s : Shared) (x : Int) (v : Value) (s' : Shared) : Prop :=
  ∃ t h' tk, v = .int x t ∧ s' = { s with heap := h', toks := tk } ∧ Fr h₀ L h' m ∧ News h₀ L h' news
theorem RetI.mk {h₀ : Heap} {L : Addr} {m : Str → Option Value} {news all : List (Addr × Obj)} {s : Shared} {x y : Int} {t tk : Nat} {h' : Heap} (e : y = x) (F : Fr h₀ L h' m) (N : News h₀ L h' all) (hs : ∀ p ∈ news, p ∈ all) :
    RetI h₀ L m news s x (.int y t) { s with heap := h', toks := tk } := ⟨t, h', tk, by rw [e], rfl, F, fun p hp => N p (hs p hp)⟩
theorem cut_int {M : Model} {A : Around} {E : Value → Shared → Prop} {s : Shared} {tree : Sem Value} {Q : Value → Shared → Prop} {h₀ : Heap} {L : Addr} {m : Str → Option Value} {news : List (Addr × Obj)} (x : Int) (_F : Fr h₀ L s.heap m) (_N : News h₀ L s.heap news)
    (walk : wpAny M A tree (RetI h₀ L m news s x) E s) (cont : ∀ t h' tk, Fr h₀ L h' m → News h₀ L h' news → Q (.int x t) { s with heap := h', toks := tk }) : wpAny M A tree Q E s :=
  wpAny_mono walk (fun v s' q => by obtain ⟨t, h', tk, rfl, rfl, F, N⟩ := q; exact cont t h' tk F N) fun _ _ e => e

section
variable {prog : Program} {w : World} {A : Around} {E : Value → Shared → Prop} {s : Shared} {env : Env} {h₀ : Heap} {x : Str} {body : List Stmt} {Q : Flow → Shared → Prop}

/-- what one turn of such a loop owes, at turn i with the letters ps d -/
def Turns {σ : Type} (prog : Program) (w : World) (A : Around) (E : Value → Shared → Prop) (s : Shared) (env : Env) (h₀ : Heap) (x : Str) (body : List Stmt) (Q : Flow → Shared → Prop) (a c : Int) (n : Nat) (m₀ : Str → Option Value) (news : List (Addr × Obj))
    (ps : σ → List (Str × Value)) (stored : List Str) (P : Nat → σ → Prop) (I : Addr) : Prop :=
  ∀ (d : σ) (i : Nat) (k : Int) t (u : Str → Option Value) h tk, (∀ p ∈ news, p.1 < I) → k = a + (i : Int) * c → i < n → P i d →
    Fr h₀ env.locals h (fun y => if y = x then some (.int k t) else kstB (fun z => if stored.contains z then u z else m₀ z) (ps d) y) → News h₀ env.locals h ((I, krsIt (a + ((i + 1 : Nat) : Int) * c) ((n : Int) - ((i + 1 : Nat) : Int)) c) :: news) →
    wpAny (model prog w) A (execs body env) (InvPostN h₀ env.locals (KstS (fun _ : σ => news) ps (fun _ => True) x stored m₀ (fun _ d => P (i + 1) d) []) [(I, krsIt (a + ((i + 1 : Nat) : Int) * c) ((n : Int) - ((i + 1 : Nat) : Int)) c)] (news.map (·.1)) { s with heap := h, toks := tk } Q) E { s with heap := h, toks := tk }

/-- with the turns, the library's unrolled loop stands at every count of turns left: by induction on that count -/
theorem lp_rest {σ : Type} {a c : Int} {n : Nat} {m₀ : Str → Option Value} {news : List (Addr × Obj)} {ps : σ → List (Str × Value)} {stored : List Str} {P : Nat → σ → Prop} {I : Addr} (low : ∀ p ∈ news, p.1 < I)
    (turn : Turns prog w A E s env h₀ x body Q a c n m₀ news ps stored P I)
    (done : ∀ (d : σ) (u : Str → Option Value) h tk, P n d → Fr h₀ env.locals h (fun y => if y = x then u y else kstB (fun z => if stored.contains z then u z else m₀ z) (ps d) y) → News h₀ env.locals h news → Q .next { s with heap := h, toks := tk }) :
    ∀ (left i : Nat), i + left = n → ∀ (m : Str → Option Value) (led : List (Addr × Obj)), KstS (fun _ : σ => news) ps (fun _ => True) x stored m₀ (fun _ d => P i d) [] m led → KrsRest prog w A E h₀ env x body Q s I a c n left i m led := by
  intro left
  induction left with
  | zero =>
    rintro i hi m news ⟨d, rfl, _, mine, others, inv⟩
    obtain rfl : i = n := hi
    exact .zero fun h tk F N => done d m h tk inv (kst_frOut mine others F) N
  | succ left ih =>
    rintro i hi m news ⟨d, rfl, _, mine, others, inv⟩
    refine .succ rfl fun t h tk F N => wpAny_mono (turn d i _ t m h tk low rfl (by omega) inv (kst_fr mine others F) N) (fun f s₂ q => ?_) fun _ _ e => e
    have on : InvEndN h₀ env.locals (KstS (fun _ : σ => news) ps (fun _ => True) x stored m₀ (fun _ d => P (i + 1) d) []) [(I, krsIt (a + ((i + 1 : Nat) : Int) * c) ((n : Int) - ((i + 1 : Nat) : Int)) c)] (news.map (·.1)) { s with heap := h, toks := tk } s₂ →
        UnrEnd h₀ env.locals { s with heap := h, toks := tk } I (krsIt (a + ((i + 1 : Nat) : Int) * c) ((n : Int) - ((i + 1 : Nat) : Int)) c) (KrsRest prog w A E h₀ env x body Q s I a c n left (i + 1)) s₂ := by
      rintro ⟨g, tk₂, m₂, all, led, rfl, F₂, N₂, sub, own, _, st⟩
      have same : led = news := st.elim fun _ z => z.1
      subst same
      exact .intro F₂ N₂ _ (List.forall_mem_cons.mpr ⟨own _ (.head _), sub⟩) (fun p hp => Nat.ne_of_lt (low p hp)) (ih (i + 1) (by omega) m₂ _ st)
    match f, q with
    | .ret _, q => exact q
    | .brk, q => exact q
    | .next, q => exact on q
    | .cont, q => exact on q

/-- a loop over a range of any step: the invariant P speaks of the turn's number and of the letters that ps lays into the frame; the ledger stays -/
theorem lp_range {σ : Type} {r : Addr} {a b c : Int} {t₀ u₀ v₀ : Tok} {n : Nat} {m₀ : Str → Option Value} {news : List (Addr × Obj)} (ps : σ → List (Str × Value)) (stored : List Str) (P : Nat → σ → Prop) (c₀ : σ)
    (calm : A.handled = none) (rg : IsRange s.heap r a b c t₀ u₀ v₀) (hs : Builtin.Range.small a b c = true) (hn : Builtin.Range.rangeSize a b c = (n : Int)) (F : Fr h₀ env.locals s.heap m₀) (N : News h₀ env.locals s.heap news) (hk : ∀ p ∈ ps c₀, m₀ p.1 = some p.2) (hp : P 0 c₀)
    (turn : ∀ (I : Addr) (d : σ) (i : Nat) (k : Int) t (u : Str → Option Value) h tk, (∀ p ∈ news, p.1 < I) → k = a + (i : Int) * c → i < n → P i d →
    Fr h₀ env.locals h (fun y => if y = x then some (.int k t) else kstB (fun z => if stored.contains z then u z else m₀ z) (ps d) y) → News h₀ env.locals h ((I, krsIt (a + ((i + 1 : Nat) : Int) * c) ((n : Int) - ((i + 1 : Nat) : Int)) c) :: news) →
    wpAny (model prog w) A (execs body env) (InvPostN h₀ env.locals (KstS (fun _ : σ => news) ps (fun _ => True) x stored m₀ (fun _ d => P (i + 1) d) []) [(I, krsIt (a + ((i + 1 : Nat) : Int) * c) ((n : Int) - ((i + 1 : Nat) : Int)) c)] (news.map (·.1)) { s with heap := h, toks := tk } Q) E { s with heap := h, toks := tk })
    (done : ∀ (d : σ) (u : Str → Option Value) h tk, P n d → Fr h₀ env.locals h (fun y => if y = x then u y else kstB (fun z => if stored.contains z then u z else m₀ z) (ps d) y) → News h₀ env.locals h news → Q .next { s with heap := h, toks := tk }) :
    wpAny (model prog w) A (pyIter (.ref r)) (fun it s₂ => LoopAtV prog w A h₀ env x body Q E it s₂) E s :=
  krs_iter calm rg hs hn F N fun I low => lp_rest low (turn I) done n 0 (Nat.zero_add n) m₀ news ⟨c₀, rfl, trivial, hk, fun _ _ _ _ => rfl, hp⟩

/-- the source of a comprehension: a tuple of the ledger -/
def TupAt (t : Addr) (its : Array Value) (k : Nat) (news : List (Addr × Obj)) : Prop := (t, ({ cls := .type "tuple", data := .seq its k } : Obj)) ∈ news
theorem TupAt.tuple {t L : Addr} {its : Array Value} {k : Nat} {news : List (Addr × Obj)} {h : Heap} (x : TupAt t its k news) (N : News h₀ L h news) : h.IsTuple t its := ⟨_, N.get x, rfl, k, rfl⟩

/-- a comprehension that is to run over such a tuple: what stands, and the rest of its walk -/
structure CompTup (prog : Program) (w : World) (A : Around) (h₀ : Heap) (L : Addr) (m : Str → Option Value) (env : Env) (elt : Expr) (x : Str) (scope : Scope) (cl : List (Str × Addr)) (Fin : Shared → List Value → List (Addr × Obj) → Prop) (src : Value) (s : Shared) : Prop where
  body : ∃ (t : Addr) (its : Array Value) (k : Nat) (led : List (Addr × Obj)), src = .ref t ∧ TupAt t its k led ∧ News h₀ L s.heap led ∧ its.size ≤ sizeLine ∧
    ∀ g : Heap, LCg.CompRest prog w A h₀ L m env elt x scope cl { s with heap := g } (TupAt t its k) (fun i v => its[i]? = some v) (Fin { s with heap := g }) its.size 0 [] led
  calm : A.handled = none
  frame : Fr h₀ L s.heap m
theorem CompTup.intro {L : Addr} {m : Str → Option Value} {elt : Expr} {scope : Scope} {cl : List (Str × Addr)} {Fin : Shared → List Value → List (Addr × Obj) → Prop} {t : Addr} {its : Array Value} {k : Nat} {led : List (Addr × Obj)}
    (calm : A.handled = none) (F : Fr h₀ L s.heap m) (N : News h₀ L s.heap led) (at_ : TupAt t its k led) (short : its.size ≤ sizeLine)
    (rest : ∀ g, LCg.CompRest prog w A h₀ L m env elt x scope cl { s with heap := g } (TupAt t its k) (fun i v => its[i]? = some v) (Fin { s with heap := g }) its.size 0 [] led) :
    CompTup prog w A h₀ L m env elt x scope cl Fin (.ref t) s := ⟨⟨t, its, k, led, rfl, at_, N, short, rest⟩, calm, F⟩

/-- the walker of a made tuple stays good for as long as the ledger does -/
theorem tup_state {L I t : Addr} {its : Array Value} {k : Nat} : ∀ i (h g : Heap) (o : Obj) (led : List (Addr × Obj)), (h.IsTupleIter I t i ∧ h.IsTuple t its) → h.get? I = some o → g.get? I = some o → (∀ b y, h₀.get? b = some y → g.get? b = some y) → News h₀ L g led → TupAt t its k led →
    (g.IsTupleIter I t i ∧ g.IsTuple t its) :=
  fun _ _ _ _ _ st before after _ N there => ⟨st.1.at fun _ e => (Option.some.inj (before.symm.trans e)) ▸ after, there.tuple N⟩

theorem comp_tup {elt iter : Expr} {px : Pos} {scope : Scope} {cl : List (Str × Addr)} {pos : Pos} {L : Addr} {m : Str → Option Value} {Q : Value → Shared → Prop} (_F : Fr h₀ L s.heap m)
    (cells : closureFor scope env = pure cl) (free : ∀ y ∈ scope.names, y.2 ≠ .cell) (kind : scope.kind = .function)
    (once : ∀ y ∈ scope.names, y.2 = .local → scope.names.lookup y.1 = some .local) (letter : scope.names.lookup x = some .local)
    (go : wpAny (model prog w) A (eval iter env) (CompTup prog w A h₀ L m env elt x scope cl (fun s₂ => LCg.FinE h₀ L m s₂ Q)) E s)
    (same : ∀ x, foldedSetIterable iter env x = pure x := by intro _; rfl) :
    wpAny (model prog w) A (eval (.ListComp elt [⟨.Name x px, iter, [], 0⟩] scope pos) env) Q E s := by
  rw [eval_ListComp]
  refine wpAny_comprehension_free (use := none) rfl same cells kind once (wpAny_mono go (fun _ s₁ c => ?_) fun _ _ e => e)
  obtain ⟨⟨t, its, k, led, rfl, there, N, short, rest⟩, calm, F⟩ := c
  have tup := there.tuple N
  have old : t < s₁.heap.objs.size := Heap.lt_size (N.get there)
  refine wpAny_pyIter_tuple tup ?_
  have grow : ∀ b o, s₁.heap.get? b = some o → (s₁.heap.push { cls := .type "tuple_iterator", data := .fields #[.ref t, .int 0 0] }).get? b = some o := fun _ _ => Heap.get?_push_of_some _
  have walks := Walks.tuple (prog := prog) (w := w) calm s₁.heap.objs.size t (Nat.ne_of_lt old) its
  refine LCg.block_U walks short (fun _ _ z => z.1.imp fun _ y => y.1) tup_state free kind letter ⟨⟨_, Heap.get?_push_size _ rfl, rfl, rfl⟩, tup.push _⟩ ?below (F.keeps grow) (N.grown grow) (Nat.ne_of_lt F.ns.lt) (next_is_new F) N.apart there (rest _) ?back
  case below =>
    have top : s₁.heap.objs.size < (s₁.heap.push { cls := .type "tuple_iterator", data := .fields #[.ref t, .int 0 0] }).objs.size := by rw [Heap.size_push]; exact Nat.lt_succ_self _
    exact List.forall_mem_cons.mpr ⟨top, List.forall_mem_cons.mpr ⟨Nat.lt_trans old top, List.forall_mem_nil _⟩⟩
  case back =>
    intro _ _ _ tk m' _ _ G M one own noC _ offL _ two apart fin
    exact ⟨m', own, fun _ hs => fin _ _ tk (ksk_fr G hs offL noC) (ksk_news M hs (List.forall_mem_cons.mpr ⟨two.symm, apart⟩)) one⟩
end
end Mine
end
section
namespace Mine

/-! ## plain functions: the law's side -/
/-- a word turned to the left, as the law reckons it -/
def lt (w p : Int) : Int := (w * 2 ^ p.toNat).fdiv 18446744073709551616 + (w * 2 ^ p.toNat).fmod 18446744073709551616
theorem sz_is : (1 : Int) * 2 ^ Int.toNat 64 = 18446744073709551616 := by decide
theorem lt_eq (w p : Int) : (w * 2 ^ p.toNat).fdiv (1 * 2 ^ Int.toNat 64) + ((w * 2 ^ p.toNat).fmod (1 * 2 ^ Int.toNat 64) + 0) = lt w p := by
  rw [sz_is, Int.add_zero, lt]
/-- eight octets from the k-th on, as a number, the least first -/
def low8 (os : List Int) (k : Nat) : Int := List.foldl (fun a k => a * 256 + k) 0 ((os.drop k).take 8).reverse
theorem low8_is {os : List Int} {k : Int} {j : Nat} (hk : k = (j : Int)) (h : j + 8 ≤ os.length) :
    List.foldl (fun a k => a * 256 + k) 0 (List.take (min (k + 8).toNat os.length - k.toNat) (List.drop k.toNat os)).reverse = low8 os j := by
  have e1 : k.toNat = j := by omega
  have e2 : min (k + 8).toNat os.length - k.toNat = 8 := by omega
  rw [e2, e1, low8]

/-- the law's mixing of a word into the first | the second half -/
def mix1 (w : Int) : Int := (lt ((w * 9782798678568883157).fmod 18446744073709551616) 31 * 5545529020109919103).fmod 18446744073709551616
def mix2 (w : Int) : Int := (lt ((w * 5545529020109919103).fmod 18446744073709551616) 33 * 9782798678568883157).fmod 18446744073709551616
def lawStep (os : List Int) (i : Nat) (p : Int × Int) : Int × Int :=
  let f := ((lt (Builtin.bitXor p.1 (mix1 (low8 os (16 * i)))) 27 + p.2) * 5 + 1390208809).fmod 18446744073709551616
  (f, ((lt (Builtin.bitXor p.2 (mix2 (low8 os (16 * i + 8)))) 31 + f) * 5 + 944331445).fmod 18446744073709551616)
noncomputable def lawSt (os : List Int) (i : Nat) : Int × Int := Nat.rec (motive := fun _ => Int × Int) (0, 0) (lawStep os) i

/-- a word of 64 bits -/
def Wd (w : Int) : Prop := 0 ≤ w ∧ w < 18446744073709551616
theorem Wd.fmod (x : Int) : Wd (x.fmod 18446744073709551616) := ⟨Int.fmod_nonneg_of_pos x (by decide), Int.fmod_lt_of_pos x (by decide)⟩
theorem lawSt_bounds (os : List Int) : ∀ i, Wd (lawSt os i).1 ∧ Wd (lawSt os i).2
  | 0 => have z : Wd 0 := ⟨by decide, by decide⟩; ⟨z, z⟩
  | _ + 1 => ⟨Wd.fmod _, Wd.fmod _⟩
theorem in_cut {os : List Int} {a b : Nat} (h : KBa.In os) : KBa.In ((os.drop a).take b) := fun n hn => h n (List.mem_of_mem_drop (List.mem_of_mem_take hn))

theorem nat_xor_add (m : Nat) : ∀ n : Nat, (m ^^^ n) + 2 * (m &&& n) = m + n := by
  induction m using Nat.strongRecOn with
  | ind m ih =>
    intro n
    by_cases h0 : m = 0
    · subst h0; simp
    · have ih' := ih (m / 2) (by omega) (n / 2)
      rw [← Nat.xor_div_two, ← Nat.and_div_two] at ih'
      have o1 := @Nat.xor_mod_two_eq_one m n
      have a1 := @Nat.and_mod_two_eq_one m n
      omega
theorem xor_nat (m n : Nat) : Builtin.bitXor (m : Int) (n : Int) = ((m ^^^ n : Nat) : Int) := by
  have h := nat_xor_add m n
  rw [bitXor_and, bitAnd_pp (by omega) (by omega), Int.toNat_natCast, Int.toNat_natCast]
  omega
theorem Wd.xor {x y : Int} (hx : Wd x) (hy : Wd y) : Wd (Builtin.bitXor x y) := by
  obtain ⟨m, rfl⟩ := Int.eq_ofNat_of_zero_le hx.1
  obtain ⟨n, rfl⟩ := Int.eq_ofNat_of_zero_le hy.1
  have h1 : m < 2 ^ 64 := by have := hx.2; omega
  have h2 : n < 2 ^ 64 := by have := hy.2; omega
  have h3 := Nat.xor_lt_two_pow h1 h2
  rw [xor_nat]
  constructor <;> omega
/-- the law's last mixing of a word, as it reckons it -/
def mixed (w : Int) : Int :=
  let w1 := (Builtin.bitXor w (w.fdiv (2 ^ Int.toNat 33)) * 18397679294719823053).fmod (1 * 2 ^ Int.toNat 64)
  let w2 := (Builtin.bitXor w1 (w1.fdiv (2 ^ Int.toNat 33)) * 14181476777654086739).fmod (1 * 2 ^ Int.toNat 64)
  Builtin.bitXor w2 (w2.fdiv (2 ^ Int.toNat 33))
theorem wd_pre {w : Int} (h : Wd w) : 0 ≤ w ∧ w < 18446744073709551616 := h
/-- what the law's turning asks of its call -/
theorem lt_pre {w p : Int} (h : Wd w) (h0 : 0 ≤ p) (h1 : p ≤ 64) : 0 ≤ w ∧ w < 18446744073709551616 ∧ 0 ≤ p ∧ p ≤ 64 := ⟨h.1, h.2, h0, h1⟩

theorem turn_ok {os : List Int} {i : Nat} {k f g : Int} (hk : k = 0 + (i : Int) * 16) (hi : i < os.length / 16) (hf : f = (lawSt os i).1) (hg : g = (lawSt os i).2) :
    ((lt (Builtin.bitXor f ((lt ((List.foldl (fun a k => a * 256 + k) 0 (List.take (min (k + 8).toNat os.length - k.toNat) (List.drop k.toNat os)).reverse * 9782798678568883157).fmod 18446744073709551616) 31 * 5545529020109919103).fmod 18446744073709551616)) 27 + g) * 5 + 1390208809).fmod 18446744073709551616 = (lawSt os (i + 1)).1 ∧
    ((lt (Builtin.bitXor g ((lt ((List.foldl (fun a k => a * 256 + k) 0 (List.take (min (k + 8 + 8).toNat os.length - (k + 8).toNat) (List.drop (k + 8).toNat os)).reverse * 5545529020109919103).fmod 18446744073709551616) 33 * 9782798678568883157).fmod 18446744073709551616)) 31 +
      ((lt (Builtin.bitXor f ((lt ((List.foldl (fun a k => a * 256 + k) 0 (List.take (min (k + 8).toNat os.length - k.toNat) (List.drop k.toNat os)).reverse * 9782798678568883157).fmod 18446744073709551616) 31 * 5545529020109919103).fmod 18446744073709551616)) 27 + g) * 5 + 1390208809).fmod 18446744073709551616) * 5 + 944331445).fmod 18446744073709551616 = (lawSt os (i + 1)).2 := by
  rw [low8_is (j := 16 * i) (by omega) (by omega), low8_is (j := 16 * i + 8) (by omega) (by omega)]
  subst hf hg
  exact ⟨rfl, rfl⟩
theorem size16 (n : Nat) : Builtin.Range.rangeSize 0 ((n * 16 : Nat) : Int) 16 = (n : Int) := by
  unfold Builtin.Range.rangeSize
  simp only [show ((16 : Int) > 0) by decide, if_true]
  split <;> omega
theorem size2 (n : Nat) : Builtin.Range.rangeSize 0 ((2 * n : Nat) : Int) 2 = (n : Int) := by
  unfold Builtin.Range.rangeSize
  simp only [show ((2 : Int) > 0) by decide, if_true]
  split <;> omega
/-- an octet with its sign -/
def sg (o : Int) : Int := if o > 127 then o - 256 else o
/-- octets with their signs, each at its place, laid over each other as the law does -/
noncomputable def sgX (l : List Int) (i : Nat) : Int := Nat.rec (motive := fun _ => Int) 0 (fun i x => Builtin.bitXor x ((sg (l.getD i 0) * 256 ^ i).fmod 18446744073709551616)) i
theorem sgX_zero (l : List Int) : sgX l 0 = 0 := rfl
theorem sgX_succ (l : List Int) (i : Nat) : sgX l (i + 1) = Builtin.bitXor (sgX l i) ((sg (l.getD i 0) * 256 ^ i).fmod 18446744073709551616) := rfl
theorem sgX_wd (l : List Int) : ∀ i, Wd (sgX l i)
  | 0 => have z : Wd 0 := ⟨by decide, by decide⟩; z
  | i + 1 => (sgX_wd l i).xor (Wd.fmod _)
theorem in_get {l : List Int} {k : Int} (h : KBa.In l) (h0 : 0 ≤ k) (h1 : k < (l.length : Int)) : 0 ≤ l.getD k.toNat 0 ∧ l.getD k.toNat 0 < 256 := by
  have e : l.getD k.toNat 0 = l[k.toNat]'(by omega) := by
    rw [List.getD_eq_getElem?_getD, List.getElem?_eq_getElem (by omega)]; rfl
  rw [e]
  exact h _ (List.getElem_mem _)
theorem sg_hi {l : List Int} {i : Nat} {k w : Int} (hk : k = 0 + (i : Int) * 1) (hw : w = sgX l i) (h : 127 < l.getD k.toNat 0) :
    Builtin.bitXor w (((l.getD k.toNat 0 - 256) * 256 ^ k.toNat).fmod (1 * 2 ^ Int.toNat 64)) = sgX l (i + 1) := by
  have e : k.toNat = i := by omega
  rw [e] at h ⊢
  rw [sz_is, sgX_succ, sg, if_pos h, hw]
theorem sg_lo {l : List Int} {i : Nat} {k w : Int} (hk : k = 0 + (i : Int) * 1) (hw : w = sgX l i) (h : ¬ 127 < l.getD k.toNat 0) :
    Builtin.bitXor w ((l.getD k.toNat 0 * 256 ^ k.toNat).fmod (1 * 2 ^ Int.toNat 64)) = sgX l (i + 1) := by
  have e : k.toNat = i := by omega
  rw [e] at h ⊢
  rw [sz_is, sgX_succ, sg, if_neg h, hw]
theorem fits_long {i : Int} (h0 : 0 ≤ i) (h1 : i ≤ 100000) : Builtin.Range.rangeFitsLong i = true := by
  unfold Builtin.Range.rangeFitsLong
  rw [Bool.and_eq_true]
  exact ⟨decide_eq_true (by omega), decide_eq_true (by omega)⟩
theorem small16 {n : Nat} (h : n ≤ 1000) : Builtin.Range.small 0 ((n * 16 : Nat) : Int) 16 = true := by
  unfold Builtin.Range.small
  rw [size16, fits_long (i := 0) (by omega) (by omega), fits_long (i := ((n * 16 : Nat) : Int)) (by omega) (by omega), fits_long (i := 16) (by omega) (by omega), fits_long (i := (n : Int)) (by omega) (by omega),
    if_pos (by decide), fits_long (by omega) (by omega)]
  simp
theorem small2 {n : Nat} (h : n ≤ 1000) : Builtin.Range.small 0 ((2 * n : Nat) : Int) 2 = true := by
  unfold Builtin.Range.small
  rw [size2, fits_long (i := 0) (by omega) (by omega), fits_long (i := ((2 * n : Nat) : Int)) (by omega) (by omega), fits_long (i := 2) (by omega) (by omega), fits_long (i := (n : Int)) (by omega) (by omega),
    if_pos (by decide), fits_long (by omega) (by omega)]
  simp

end Mine
end
section
namespace Mine
open PySem.Builtin.Int (intBits)

/-! ## bits of ints -/
theorem xor_halves (x y : Int) : Builtin.bitXor x y = 2 * Builtin.bitXor (x / 2) (y / 2) + (x % 2 + y % 2) % 2 := by
  have h1 := kbt_halves x y
  have h2 := bitXor_and x y
  have h3 := bitXor_and (x / 2) (y / 2)
  rw [h2, h3, h1]
  split <;> omega
theorem xor_div (x y : Int) : Builtin.bitXor x y / 2 = Builtin.bitXor (x / 2) (y / 2) := by
  have h := xor_halves x y
  omega
theorem xor_par (x y : Int) : Builtin.bitXor x y % 2 = (x % 2 + y % 2) % 2 := by
  have h := xor_halves x y
  omega
theorem pow_pos' (k : Nat) : (0 : Int) < 2 ^ k := kbt_pos k
theorem emod_succ (x : Int) (k : Nat) : x % 2 ^ (k + 1) = 2 * ((x / 2) % 2 ^ k) + x % 2 := by
  have hp := pow_pos' k
  have h0 := Int.emod_nonneg (x / 2) (show (2 : Int) ^ k ≠ 0 by omega)
  have h1 := Int.emod_lt_of_pos (x / 2) hp
  have h2 := Int.emod_def (x / 2) (2 ^ k)
  have e : (2 : Int) ^ (k + 1) = 2 * 2 ^ k := by rw [Int.pow_succ, Int.mul_comm]
  refine (kbt_unique (q := x / 2 / 2 ^ k) (by omega) ?_ (by omega) (by omega)).2
  rw [e, Int.mul_assoc]
  omega
theorem xor_emod (k : Nat) : ∀ x y : Int, Builtin.bitXor x y % 2 ^ k = Builtin.bitXor (x % 2 ^ k) (y % 2 ^ k) := by
  induction k with
  | zero =>
    intro x y
    simp only [Int.pow_zero, Int.emod_one]
    exact (bitXor_self 0).symm
  | succ k ih =>
    intro x y
    rw [emod_succ, xor_div, ih, xor_par, xor_halves (x % 2 ^ (k + 1)), emod_succ x, emod_succ y]
    have e1 : (2 * (x / 2 % 2 ^ k) + x % 2) / 2 = x / 2 % 2 ^ k := by omega
    have e2 : (2 * (y / 2 % 2 ^ k) + y % 2) / 2 = y / 2 % 2 ^ k := by omega
    rw [e1, e2]
    omega
theorem xor_emod64 (x y : Int) : Builtin.bitXor x y % 18446744073709551616 = Builtin.bitXor (x % 18446744073709551616) (y % 18446744073709551616) := by
  have h := xor_emod 64 x y
  have e : (2 : Int) ^ 64 = 18446744073709551616 := by decide
  rw [e] at h
  exact h
theorem xor_range (m : Nat) : ∀ x y : Int, -2 ^ m ≤ x → x < 2 ^ m → -2 ^ m ≤ y → y < 2 ^ m → -2 ^ m ≤ Builtin.bitXor x y ∧ Builtin.bitXor x y < 2 ^ m := by
  induction m with
  | zero =>
    intro x y h1 h2 h3 h4
    simp only [Int.pow_zero] at *
    have hx : x = 0 ∨ x = -1 := by omega
    have hy : y = 0 ∨ y = -1 := by omega
    rcases hx with rfl | rfl <;> rcases hy with rfl | rfl <;> decide
  | succ m ih =>
    intro x y h1 h2 h3 h4
    have e : (2 : Int) ^ (m + 1) = 2 * 2 ^ m := by rw [Int.pow_succ, Int.mul_comm]
    rw [e] at *
    have h := ih (x / 2) (y / 2) (by omega) (by omega) (by omega) (by omega)
    have hx := xor_halves x y
    omega
theorem bits_range {x : Int} {m : Nat} (h : intBits x ≤ m) : -2 ^ m ≤ x ∧ x < 2 ^ m := by
  have h1 := intBits_le_iff.mp h
  have e := kbt_cast m
  omega
theorem bits_of_range {x : Int} {m : Nat} (h0 : -2 ^ m ≤ x) (h1 : x < 2 ^ m) : intBits x ≤ m + 1 := by
  refine intBits_le_iff.mpr ?_
  have e := kbt_cast m
  have e2 := kbt_cast (m + 1)
  have e3 : (2 : Int) ^ (m + 1) = 2 * 2 ^ m := by rw [Int.pow_succ, Int.mul_comm]
  have hp := pow_pos' m
  omega
theorem bits_up {x : Int} {m n : Nat} (h : intBits x ≤ m) (hn : m ≤ n) : intBits x ≤ n := Nat.le_trans h hn
theorem bits_xor {x y : Int} {m n : Nat} (hx : intBits x ≤ m) (hy : intBits y ≤ n) : intBits (Builtin.bitXor x y) ≤ max m n + 1 := by
  have h1 := bits_range (bits_up hx (Nat.le_max_left m n))
  have h2 := bits_range (bits_up hy (Nat.le_max_right m n))
  have h := xor_range (max m n) x y h1.1 h1.2 h2.1 h2.2
  exact bits_of_range h.1 h.2
theorem bits_shl {x : Int} {m : Nat} (hx : intBits x ≤ m) (k : Nat) : intBits (x * 2 ^ k) ≤ m + (k + 1) :=
  intBits_mul_le hx (intBits_le_iff.mpr (by
    have e := kbt_cast k
    have e2 : ((2 : Int) ^ k).natAbs = 2 ^ k := by rw [← e]; exact Int.natAbs_natCast _
    rw [e2]
    exact Nat.pow_lt_pow_right (by decide) (Nat.lt_succ_self k)))
theorem bits_word {x : Int} (h : Wd x) : intBits x ≤ 64 := intBits_le_64 (by have := h.1; omega) (by have := h.2; omega)

/-! ## the turning of words -/
/-- rotl64, as it reckons on ints of any size -/
def rotl (x r : Int) : Int := Builtin.bitOr (x * 2 ^ r.toNat) (Builtin.bitAnd (x.fdiv (2 ^ (64 - r).toNat)) (2 ^ r.toNat - 1))
theorem and_low (k : Nat) : ∀ x z : Int, 0 ≤ z → z < 2 ^ k → Builtin.bitAnd (x * 2 ^ k) z = 0 := by
  induction k with
  | zero =>
    intro x z h0 h1
    simp only [Int.pow_zero] at h1
    have hz : z = 0 := by omega
    rw [hz, bitAnd_zero]
  | succ k ih =>
    intro x z h0 h1
    have e : (2 : Int) ^ (k + 1) = 2 * 2 ^ k := by rw [Int.pow_succ, Int.mul_comm]
    rw [e] at h1
    have e2 : x * (2 * 2 ^ k) = 2 * (x * 2 ^ k) := by rw [← Int.mul_assoc, Int.mul_comm x 2, Int.mul_assoc]
    rw [e, e2, kbt_halves]
    have e3 : 2 * (x * 2 ^ k) / 2 = x * 2 ^ k := by omega
    rw [e3, ih x (z / 2) (by omega) (by omega), if_neg (by omega)]
    rfl
theorem rotl_is (x r : Int) : rotl x r = x * 2 ^ r.toNat + (x.fdiv (2 ^ (64 - r).toNat)) % 2 ^ r.toNat := by
  have hp := pow_pos' r.toNat
  unfold rotl
  rw [kbt_mask, bitOr_and, and_low _ _ _ (Int.emod_nonneg _ (by omega)) (Int.emod_lt_of_pos _ hp)]
  omega
theorem rotl31 (x : Int) : rotl x 31 = x * 2147483648 + (x / 8589934592) % 2147483648 := by
  rw [rotl_is, Int.fdiv_eq_ediv_of_nonneg _ (by decide)]; rfl
theorem rotl27 (x : Int) : rotl x 27 = x * 134217728 + (x / 137438953472) % 134217728 := by
  rw [rotl_is, Int.fdiv_eq_ediv_of_nonneg _ (by decide)]; rfl
theorem rotl33 (x : Int) : rotl x 33 = x * 8589934592 + (x / 2147483648) % 8589934592 := by
  rw [rotl_is, Int.fdiv_eq_ediv_of_nonneg _ (by decide)]; rfl
theorem lt31 (w : Int) : lt w 31 = (w * 2147483648) / 18446744073709551616 + (w * 2147483648) % 18446744073709551616 := by
  unfold lt
  rw [Int.fdiv_eq_ediv_of_nonneg _ (by decide), Int.fmod_eq_emod_of_nonneg _ (by decide)]; rfl
theorem lt27 (w : Int) : lt w 27 = (w * 134217728) / 18446744073709551616 + (w * 134217728) % 18446744073709551616 := by
  unfold lt
  rw [Int.fdiv_eq_ediv_of_nonneg _ (by decide), Int.fmod_eq_emod_of_nonneg _ (by decide)]; rfl
theorem lt33 (w : Int) : lt w 33 = (w * 8589934592) / 18446744073709551616 + (w * 8589934592) % 18446744073709551616 := by
  unfold lt
  rw [Int.fdiv_eq_ediv_of_nonneg _ (by decide), Int.fmod_eq_emod_of_nonneg _ (by decide)]; rfl
theorem rotl31_mod (x : Int) : rotl x 31 % 18446744073709551616 = lt (x % 18446744073709551616) 31 := by
  rw [rotl31, lt31]
  have hw : x % 18446744073709551616 = 8589934592 * (x / 8589934592 % 2147483648) + x % 8589934592 := by omega
  have hx : x = 8589934592 * (x / 8589934592) + x % 8589934592 := by omega
  have h0 : 0 ≤ x / 8589934592 % 2147483648 ∧ x / 8589934592 % 2147483648 < 2147483648 := by omega
  have h1 : 0 ≤ x % 8589934592 ∧ x % 8589934592 < 8589934592 := by omega
  rw [hw]
  generalize x / 8589934592 % 2147483648 = p at h0 ⊢
  generalize x % 8589934592 = r at h1 hx ⊢
  generalize x / 8589934592 = q at hx
  have e1 : (8589934592 * p + r) * 2147483648 / 18446744073709551616 = p := by omega
  have e2 : (8589934592 * p + r) * 2147483648 % 18446744073709551616 = r * 2147483648 := by omega
  have e3 : (x * 2147483648 + p) % 18446744073709551616 = r * 2147483648 + p := by subst hx; omega
  rw [e1, e2, e3]
  omega
theorem rotl27_mod (x : Int) : rotl x 27 % 18446744073709551616 = lt (x % 18446744073709551616) 27 := by
  rw [rotl27, lt27]
  have hw : x % 18446744073709551616 = 137438953472 * (x / 137438953472 % 134217728) + x % 137438953472 := by omega
  have hx : x = 137438953472 * (x / 137438953472) + x % 137438953472 := by omega
  have h0 : 0 ≤ x / 137438953472 % 134217728 ∧ x / 137438953472 % 134217728 < 134217728 := by omega
  have h1 : 0 ≤ x % 137438953472 ∧ x % 137438953472 < 137438953472 := by omega
  rw [hw]
  generalize x / 137438953472 % 134217728 = p at h0 ⊢
  generalize x % 137438953472 = r at h1 hx ⊢
  generalize x / 137438953472 = q at hx
  have e1 : (137438953472 * p + r) * 134217728 / 18446744073709551616 = p := by omega
  have e2 : (137438953472 * p + r) * 134217728 % 18446744073709551616 = r * 134217728 := by omega
  have e3 : (x * 134217728 + p) % 18446744073709551616 = r * 134217728 + p := by subst hx; omega
  rw [e1, e2, e3]
  omega
theorem rotl33_mod (x : Int) : rotl x 33 % 18446744073709551616 = lt (x % 18446744073709551616) 33 := by
  rw [rotl33, lt33]
  have hw : x % 18446744073709551616 = 2147483648 * (x / 2147483648 % 8589934592) + x % 2147483648 := by omega
  have hx : x = 2147483648 * (x / 2147483648) + x % 2147483648 := by omega
  have h0 : 0 ≤ x / 2147483648 % 8589934592 ∧ x / 2147483648 % 8589934592 < 8589934592 := by omega
  have h1 : 0 ≤ x % 2147483648 ∧ x % 2147483648 < 2147483648 := by omega
  rw [hw]
  generalize x / 2147483648 % 8589934592 = p at h0 ⊢
  generalize x % 2147483648 = r at h1 hx ⊢
  generalize x / 2147483648 = q at hx
  have e1 : (2147483648 * p + r) * 8589934592 / 18446744073709551616 = p := by omega
  have e2 : (2147483648 * p + r) * 8589934592 % 18446744073709551616 = r * 8589934592 := by omega
  have e3 : (x * 8589934592 + p) % 18446744073709551616 = r * 8589934592 + p := by subst hx; omega
  rw [e1, e2, e3]
  omega
theorem bits_rotl {x r : Int} {m : Nat} (hx : intBits x ≤ m) (hr : r ≤ 64) : intBits (rotl x r) ≤ max (m + 65) 65 + 1 := by
  have hp := pow_pos' r.toNat
  rw [rotl_is]
  have h1 : intBits (x * 2 ^ r.toNat) ≤ m + 65 := bits_up (bits_shl hx r.toNat) (by omega)
  have h2 : intBits ((x.fdiv (2 ^ (64 - r).toNat)) % 2 ^ r.toNat) ≤ 65 := by
    have g0 := Int.emod_nonneg (x.fdiv (2 ^ (64 - r).toNat)) (show (2 : Int) ^ r.toNat ≠ 0 by omega)
    have g1 := Int.emod_lt_of_pos (x.fdiv (2 ^ (64 - r).toNat)) hp
    exact bits_up (bits_of_range (m := r.toNat) (by omega) g1) (by omega)
  exact intBits_add_le h1 h2
end Mine
end
section
namespace Mine
open PySem.Calls PyProof.V PySem.Spec
open PySem.Builtin (Struct.Code Struct.Format)

theorem like_bytes (b : Array UInt8) (t : Tok) : Builtin.Bytes.bytesLike "_struct.unpack" (.bytes b t) = pure b := by
  first | rfl | kernel_rfl

def fmtQ (n : Nat) : Struct.Format := { bigEndian := false, native := false, codes := (List.range (2 * n)).map fun i => ⟨'q', 1, 8 * i, 8⟩, size := 16 * n, items := 2 * n }
def fmtB (t : Nat) : Struct.Format := { bigEndian := false, native := true, codes := (List.range t).map fun i => ⟨'b', 1, i, 1⟩, size := t, items := t }

set_option maxRecDepth 100000 in
theorem fmtQ1 (u : Tok) : Builtin.Struct.moduleFormat (.str (Str.ofString "<" ++ Txt.mul (Str.ofString "qq") 1) u) = pure (fmtQ 1) := by kernel_rfl
set_option maxRecDepth 100000 in
theorem fmtQ2 (u : Tok) : Builtin.Struct.moduleFormat (.str (Str.ofString "<" ++ Txt.mul (Str.ofString "qq") 2) u) = pure (fmtQ 2) := by kernel_rfl
set_option maxRecDepth 100000 in
theorem fmtQ3 (u : Tok) : Builtin.Struct.moduleFormat (.str (Str.ofString "<" ++ Txt.mul (Str.ofString "qq") 3) u) = pure (fmtQ 3) := by kernel_rfl
theorem fmtQ_ok (u : Tok) {n : Nat} (h0 : 0 < n) (h : n ≤ 3) : Builtin.Struct.moduleFormat (.str (Str.ofString "<" ++ Txt.mul (Str.ofString "qq") (n : Int)) u) = pure (fmtQ n) := by
  have hn : n = 1 ∨ n = 2 ∨ n = 3 := by omega
  rcases hn with rfl | rfl | rfl
  · exact fmtQ1 u
  · exact fmtQ2 u
  · exact fmtQ3 u
theorem fmtB_ok (u : Tok) : ∀ {t : Nat}, t ≤ 15 → Builtin.Struct.moduleFormat (.str (Txt.mul (Str.ofString "b") (t : Int)) u) = pure (fmtB t)
  | 0, _ => by kernel_rfl
  | 1, _ => by kernel_rfl
  | 2, _ => by kernel_rfl
  | 3, _ => by kernel_rfl
  | 4, _ => by kernel_rfl
  | 5, _ => by kernel_rfl
  | 6, _ => by kernel_rfl
  | 7, _ => by kernel_rfl
  | 8, _ => by kernel_rfl
  | 9, _ => by kernel_rfl
  | 10, _ => by kernel_rfl
  | 11, _ => by kernel_rfl
  | 12, _ => by kernel_rfl
  | 13, _ => by kernel_rfl
  | 14, _ => by kernel_rfl
  | 15, _ => by kernel_rfl
  | n + 16, h => absurd h (by omega)
theorem un_kind : builtinKind "_struct.unpack" = none := by decide +kernel
theorem un_plain : plainId "_struct.unpack" = true := by decide +kernel
theorem un_entry : entryFor table "_struct.unpack" = some Builtin.«_struct.unpack» := by first | exact entryFor_of_fast (by kernel_rfl) | exact entryFor_of_tree (by kernel_rfl)
theorem un_args (a b : Value) : argsOk "_struct.unpack" ⟨[a, b], []⟩ := by unfold argsOk; kernel_rfl
end Mine
end
section
namespace Mine
open PySem.Calls PyProof.V PySem.Spec
open PySem.Builtin (Struct.Code Struct.Format)

/-- the number that one place of the format takes out of the bytes -/
def itemOf (b : Array UInt8) (c : Struct.Code) : Int :=
  let n := Builtin.Struct.natOf false (b.extract (0 + c.offset + 0 * c.size) (0 + c.offset + (0 + 1) * c.size))
  if (c.char.isLower && decide (n ≥ 2 ^ (8 * c.size - 1))) = true then (n : Int) - 2 ^ (8 * c.size) else n

theorem unpacked_ok {M : Model} {A : Around} {E : Value → Shared → Prop} {s : Shared} {f : Struct.Format} {b : Array UInt8} {Q : Value → Shared → Prop} (hc : ∀ c ∈ f.codes, c.count = 1 ∧ (c.char = 'q' ∨ c.char = 'b')) (hbe : f.bigEndian = false)
    (h : ∀ vs tk, IntsAre vs (f.codes.map (itemOf b)) → wpAny M A (newTuple vs) Q E { s with toks := tk }) : wpAny M A (Builtin.Struct.unpacked "_struct.unpack" f b 0) Q E s := by
  obtain ⟨be, na, codes, size, items⟩ := f
  dsimp only at hc hbe h
  subst hbe
  unfold Builtin.Struct.unpacked
  refine wpAny_bind ?_
  refine wpAny_forIn_list _ (fun rest out s' => ∃ pre vs tk, codes = pre ++ rest ∧ out = List.toArray vs ∧ IntsAre vs (pre.map (itemOf b)) ∧ s' = { s with toks := tk }) _ ?_ ?_ _ _ ⟨[], [], s.toks, rfl, rfl, .nil, rfl⟩
  · rintro ⟨ch, ct, off, sz⟩ rest out s' ⟨pre, vs, tk, hcs, rfl, hi, rfl⟩
    obtain ⟨h1, h2⟩ := hc ⟨ch, ct, off, sz⟩ (by rw [hcs]; simp)
    dsimp only at h1 h2
    subst h1
    have key : ∀ k : Nat, k = tk → wpAny M A (mkInt (itemOf b ⟨ch, 1, off, sz⟩) >>= fun v => pure (ForInStep.yield (vs.toArray.push v))) (fun r s' => match r with
        | .yield b' => ∃ pre vs tk, codes = pre ++ rest ∧ b' = List.toArray vs ∧ IntsAre vs (pre.map (itemOf b)) ∧ s' = { s with toks := tk }
        | .done b' => wpAny M A (newTuple b'.toList) Q E s') E { s with toks := tk } := by
      intro k _
      refine wpAny_bind (wpAny_mkInt (wpAny_pure ⟨pre ++ [⟨ch, 1, off, sz⟩], vs ++ [.int (itemOf b ⟨ch, 1, off, sz⟩) tk], tk + 1, by rw [hcs]; simp, by simp, ?_, rfl⟩))
      rw [List.map_append]
      exact IntsAre.append hi (.cons _ _ .nil)
    have key := key tk rfl
    rcases h2 with rfl | rfl
    · with_unfolding_all exact key
    · with_unfolding_all exact key
  · rintro out s' ⟨pre, vs, tk, hcs, rfl, hi, rfl⟩
    rw [List.append_nil] at hcs
    rw [hcs] at h
    exact h vs tk hi

section
variable {prog : Program} {w : World} {A : Around} {E : Value → Shared → Prop} {s : Shared} {h₀ : Heap} {L : Addr} {m : PySem.Str → Option Value} {news : List (Addr × Obj)}
/-- struct.unpack of a format whose places are all 'q' or 'b', one number each: a new tuple of these numbers -/
theorem call_unpack {f : Struct.Format} {fmt : PySem.Str} {u t : Tok} {b : Array UInt8} {Q : Value → Shared → Prop} (F : Fr h₀ L s.heap m) (N : News h₀ L s.heap news) (hf : Builtin.Struct.moduleFormat (.str fmt u) = pure f)
    (hc : ∀ c ∈ f.codes, c.count = 1 ∧ (c.char = 'q' ∨ c.char = 'b')) (hbe : f.bigEndian = false) (hsz : b.size = f.size) (hl : f.codes.length ≤ 1000)
    (h : ∀ D vs h' tk, Fr h₀ L h' m → News h₀ L h' ((D, ({ cls := .type "tuple", data := .seq (List.toArray vs) } : Obj)) :: news) → (∀ p ∈ news, p.1 < D) → IntsAre vs (f.codes.map (itemOf b)) → Q (.ref D) { s with heap := h', toks := tk }) :
    wpAny (model prog w) A (call (.builtin "_struct.unpack") [.str fmt u, .bytes b t]) Q E s := by
  refine Calls.call_function_entry un_kind un_plain un_entry (un_args _ _) ?_
  unfold Builtin.«_struct.unpack»
  refine wpAny_bind (wpAny_of_eq (a := ()) rfl ?_)
  refine wpAny_bind (wpAny_of_eq (a := ()) (by kernel_rfl) ?_)
  refine wpAny_bind (wpAny_of_eq hf ?_)
  unfold Builtin.Struct.unpackExact
  refine wpAny_bind (wpAny_of_eq (like_bytes b t) ?_)
  refine wpAny_bind (wpAny_pure ?_)
  refine KFB.if_not (by rw [hsz]; simp) ?_
  refine wpAny_bind (unpacked_ok hc hbe fun vs tk hi => ?_)
  refine newTuple_N (s := { s with toks := tk }) F N (fun h' F' N' => ?_) (by rw [hi.length, List.length_map, sizeLine_eq]; omega)
  exact wpAny_pure ⟨_, rfl, h _ vs h' tk F' N' (fun p hp => Heap.lt_size (N p hp).1) hi⟩
end
theorem codesQ {n : Nat} : ∀ c ∈ (fmtQ n).codes, c.count = 1 ∧ (c.char = 'q' ∨ c.char = 'b') := fun c hc => by
  obtain ⟨i, _, rfl⟩ := List.mem_map.mp hc
  exact ⟨rfl, .inl rfl⟩
theorem codesB {n : Nat} : ∀ c ∈ (fmtB n).codes, c.count = 1 ∧ (c.char = 'q' ∨ c.char = 'b') := fun c hc => by
  obtain ⟨i, _, rfl⟩ := List.mem_map.mp hc
  exact ⟨rfl, .inr rfl⟩
end Mine
end
section
namespace Mine
open PySem.Calls PyProof.V PySem.Spec
open PySem (sub_tuple_self init_tuple_lookup madeHere_tuple)
set_option maxRecDepth 100000
theorem tc_nil : checkTypeCall "tuple" ⟨[], []⟩ = pure () := by kernel_rfl
theorem nc_nil : checkBuiltinCall "tuple.__new__" ⟨[.type "tuple"], []⟩ = pure () := by kernel_rfl
theorem meets_tuple_new_nil :
    Meets (Builtin.«tuple.__new__» ⟨[.type "tuple"], []⟩)
      (fun _ R s => R (.ok (.ret (.ref s.heap.objs.size))) { s with heap := s.heap.push { cls := .type "tuple", data := .seq #[] } }) :=
  .of_wp fun prog w A R s h => by
    obtain ⟨hp, g, d, tk, os⟩ := s
    have hsub := sub_tuple_self
    have hinit := init_tuple_lookup
    have hmh := madeHere_tuple
    wp_walk
    exact ⟨_, rfl, h⟩
section
variable {prog : Program} {w : World} {A : Around} {E : Value → Shared → Prop} {s : Shared} {h₀ : Heap} {L : Addr} {m : PySem.Str → Option Value} {news : List (Addr × Obj)}
theorem call_tuple_nil {Q : Value → Shared → Prop} (F : Fr h₀ L s.heap m) (N : News h₀ L s.heap news)
    (h : ∀ D h', Fr h₀ L h' m → News h₀ L h' ((D, ({ cls := .type "tuple", data := .seq (List.toArray ([] : List Value)) } : Obj)) :: news) → (∀ p ∈ news, p.1 < D) → Q (.ref D) { s with heap := h' }) :
    wpAny (model prog w) A (call (.type "tuple") []) Q E s :=
  callType_new PySem.F.called_tuple (by decide) tc_nil nc_nil (fun obj => PySem.F.args_object_init_1 obj) PySem.F.entry_tuple_new
    meets_tuple_new_nil ⟨⟨_, Heap.get?_push_size _ rfl, rfl⟩, h _ _ (F.push _) (N.push F _) fun p hp => Heap.lt_size (N p hp).1⟩
end
end Mine
end
section
namespace Mine
open PySem.Builtin (Struct.Code Struct.Format)

/-- a number of 64 bits, with its sign -/
def s64 (x : Int) : Int := if x ≥ 9223372036854775808 then x - 18446744073709551616 else x
/-- what struct reads out of the whole sixteens of octets -/
def qItems (os : List Int) : List Int := (List.range (2 * (os.length / 16))).map fun i => s64 (low8 os (8 * i))
/-- .. and out of the rest -/
def bItems (os : List Int) : List Int := (os.drop (16 * (os.length / 16))).map sg

theorem clip16 (n : Nat) : clipAt n ((n : Int) - ((n : Nat) : Int).fmod 16) = 16 * (n / 16) := by
  have h := clipAt_cast n ((n : Int) - ((n : Nat) : Int).fmod 16)
  rw [Int.fmod_eq_emod_of_nonneg _ (by decide)] at h ⊢
  split at h <;> omega

theorem little_cast (l : List UInt8) : ((l.foldr (fun (c : UInt8) (n : Nat) => n * 256 + c.toNat) 0 : Nat) : Int) = (l.map fun c => ((c.toNat : Nat) : Int)).foldr (fun c n => n * 256 + c) 0 := by
  induction l with
  | nil => rfl
  | cons c r ih =>
    rw [List.foldr_cons, List.map_cons, List.foldr_cons, ← ih]
    omega
theorem nat_of (raw : Array UInt8) : ((Builtin.Struct.natOf false raw : Nat) : Int) = (KBw.bInts raw).foldr (fun c n => n * 256 + c) 0 := by
  unfold Builtin.Struct.natOf Builtin.Memoryview.littleEndian KBw.bInts
  rw [← little_cast]
  simp
theorem bInts_extract (b : Array UInt8) (i j : Nat) : KBw.bInts (b.extract i j) = ((KBw.bInts b).drop i).take (j - i) := by
  unfold KBw.bInts
  rw [Array.toList_extract, List.extract_eq_take_drop, List.map_take, List.map_drop]
theorem low8_take {os : List Int} {m k : Nat} (h : k + 8 ≤ m) : low8 (os.take m) k = low8 os k := by
  unfold low8
  rw [List.drop_take, List.take_take, show min 8 (m - k) = 8 by omega]
theorem itemQ {b : Array UInt8} {l : List Int} (hb : KBw.bInts b = l) (i : Nat) : itemOf b ⟨'q', 1, 8 * i, 8⟩ = s64 (low8 l (8 * i)) := by
  have e : ((Builtin.Struct.natOf false (b.extract (0 + 8 * i + 0 * 8) (0 + 8 * i + (0 + 1) * 8)) : Nat) : Int) = low8 l (8 * i) := by
    rw [nat_of, bInts_extract, hb, low8, List.foldl_reverse, show 0 + 8 * i + 0 * 8 = 8 * i by omega, show 0 + 8 * i + (0 + 1) * 8 - 8 * i = 8 by omega]
  unfold itemOf s64
  dsimp only
  rw [e]
  have hl : Char.isLower 'q' = true := by decide
  rw [hl, Bool.true_and]
  have hc : (decide (Builtin.Struct.natOf false (b.extract (0 + 8 * i + 0 * 8) (0 + 8 * i + (0 + 1) * 8)) ≥ 2 ^ (8 * 8 - 1)) = true) ↔ low8 l (8 * i) ≥ 9223372036854775808 := by
    rw [← e, decide_eq_true_eq]
    omega
  by_cases h : low8 l (8 * i) ≥ 9223372036854775808
  · rw [if_pos (hc.mpr h), if_pos h]; rfl
  · rw [if_neg (fun z => h (hc.mp z)), if_neg h]
theorem itemsQ {b : Array UInt8} {os : List Int} (hb : KBw.bInts b = os.take (16 * (os.length / 16))) : (fmtQ (os.length / 16)).codes.map (itemOf b) = qItems os := by
  unfold fmtQ qItems
  rw [List.map_map]
  refine List.map_congr_left fun i hi => ?_
  have h := List.mem_range.mp hi
  show itemOf b ⟨'q', 1, 8 * i, 8⟩ = _
  rw [itemQ hb, low8_take (by omega)]
theorem itemB {b : Array UInt8} {l : List Int} (hb : KBw.bInts b = l) {i : Nat} (hi : i < l.length) : itemOf b ⟨'b', 1, i, 1⟩ = sg (l[i]) := by
  have e : ((Builtin.Struct.natOf false (b.extract (0 + i + 0 * 1) (0 + i + (0 + 1) * 1)) : Nat) : Int) = l[i] := by
    rw [nat_of, bInts_extract, hb, show 0 + i + 0 * 1 = i by omega, show 0 + i + (0 + 1) * 1 - i = 1 by omega, List.drop_eq_getElem_cons hi, List.take_succ_cons, List.take_zero, List.foldr_cons, List.foldr_nil]
    omega
  unfold itemOf sg
  dsimp only
  rw [e]
  have hl : Char.isLower 'b' = true := by decide
  rw [hl, Bool.true_and]
  have hc : (decide (Builtin.Struct.natOf false (b.extract (0 + i + 0 * 1) (0 + i + (0 + 1) * 1)) ≥ 2 ^ (8 * 1 - 1)) = true) ↔ l[i] > 127 := by
    rw [← e, decide_eq_true_eq]
    omega
  by_cases h : l[i] > 127
  · rw [if_pos (hc.mpr h), if_pos h]; rfl
  · rw [if_neg (fun z => h (hc.mp z)), if_neg h]
theorem itemsB {b : Array UInt8} {os : List Int} (hb : KBw.bInts b = os.drop (16 * (os.length / 16))) : (fmtB (os.length % 16)).codes.map (itemOf b) = bItems os := by
  unfold fmtB bItems
  rw [List.map_map]
  refine List.ext_getElem ?_ fun i h1 h2 => ?_
  · simp only [List.length_map, List.length_range, List.length_drop]; omega
  · have hi : i < (os.drop (16 * (os.length / 16))).length := by simpa using h2
    simp only [List.getElem_map, List.getElem_range, Function.comp]
    exact itemB hb hi
theorem size_of {b : Array UInt8} {l : List Int} (hb : KBw.bInts b = l) : b.size = l.length := by rw [← hb, KBw.ints_length]
theorem fmtQ_at (u : Tok) {n : Nat} (h0 : ((n : Nat) : Int).fdiv 16 ≠ 0) (h : n ≤ 63) : Builtin.Struct.moduleFormat (.str (Str.ofString "<" ++ Txt.mul (Str.ofString "qq") (((n : Nat) : Int).fdiv 16)) u) = pure (fmtQ (n / 16)) := by
  have e : ((n : Nat) : Int).fdiv 16 = ((n / 16 : Nat) : Int) := by rw [Int.fdiv_eq_ediv_of_nonneg _ (by decide)]; omega
  rw [e] at h0 ⊢
  exact fmtQ_ok u (by omega) (by omega)
theorem fmtB_at (u : Tok) {n : Nat} : Builtin.Struct.moduleFormat (.str (Txt.mul (Str.ofString "b") (((n : Nat) : Int).fmod 16)) u) = pure (fmtB (n % 16)) := by
  have e : ((n : Nat) : Int).fmod 16 = ((n % 16 : Nat) : Int) := by rw [Int.fmod_eq_emod_of_nonneg _ (by decide)]; omega
  rw [e]
  exact fmtB_ok u (by omega)
theorem qItems_nil {os : List Int} (h : ¬ ((os.length : Nat) : Int).fdiv 16 ≠ 0) : qItems os = [] := by
  have e : ((os.length : Nat) : Int).fdiv 16 = ((os.length / 16 : Nat) : Int) := by rw [Int.fdiv_eq_ediv_of_nonneg _ (by decide)]; omega
  rw [e] at h
  have e2 : os.length / 16 = 0 := by omega
  unfold qItems
  rw [e2]
  rfl

abbrev tup (vs : List Value) : Obj := { cls := .type "tuple", data := .seq (List.toArray vs) }
/-- what body_and_tail leaves: a tuple of the body's numbers, of the tail's, of the length -/
def RetB (h₀ : Heap) (L : Addr) (m : Str → Option Value) (news : List (Addr × Obj)) (s : Shared) (os : List Int) (v : Value) (s' : Shared) : Prop :=
  ∃ r tb tt vb vt t h' tk, v = .ref r ∧ s' = { s with heap := h', toks := tk } ∧ Fr h₀ L h' m ∧ News h₀ L h' ((r, tup [.ref tb, .ref tt, .int os.length t]) :: (tt, tup vt) :: (tb, tup vb) :: news) ∧
    IntsAre vb (qItems os) ∧ IntsAre vt (bItems os) ∧ ((∀ p ∈ news, p.1 < tb) ∧ @LT.lt Nat _ tb tt ∧ @LT.lt Nat _ tt r)
theorem RetB.mk {h₀ : Heap} {L : Addr} {m : Str → Option Value} {news all : List (Addr × Obj)} {s : Shared} {os : List Int} {r tb tt : Addr} {vb vt : List Value} {t tk : Nat} {h' : Heap} (F : Fr h₀ L h' m) (N : News h₀ L h' all)
    (hs : ∀ p ∈ (r, tup [.ref tb, .ref tt, .int os.length t]) :: (tt, tup vt) :: (tb, tup vb) :: news, p ∈ all) (hb : IntsAre vb (qItems os)) (ht : IntsAre vt (bItems os)) (l1 : ∀ p ∈ news, p.1 < tb) (l2 : @LT.lt Nat _ tb tt) (l3 : @LT.lt Nat _ tt r) :
    RetB h₀ L m news s os (.ref r) { s with heap := h', toks := tk } := ⟨r, tb, tt, vb, vt, t, h', tk, rfl, rfl, F, fun p hp => N p (hs p hp), hb, ht, l1, l2, l3⟩
theorem cut_tup {M : Model} {A : Around} {E : Value → Shared → Prop} {s : Shared} {tree : Sem Value} {Q : Value → Shared → Prop} {h₀ : Heap} {L : Addr} {m : Str → Option Value} {news : List (Addr × Obj)} (os : List Int) (_F : Fr h₀ L s.heap m) (_N : News h₀ L s.heap news)
    (walk : wpAny M A tree (RetB h₀ L m news s os) E s) (cont : ∀ r tb tt vb vt t h' tk, Fr h₀ L h' m → News h₀ L h' ((r, tup [.ref tb, .ref tt, .int os.length t]) :: (tt, tup vt) :: (tb, tup vb) :: news) →
      IntsAre vb (qItems os) → IntsAre vt (bItems os) → (∀ p ∈ news, p.1 < tb) → (@LT.lt Nat _ tb tt) → (@LT.lt Nat _ tt r) → Q (.ref r) { s with heap := h', toks := tk }) : wpAny M A tree Q E s :=
  wpAny_mono walk (fun v s' q => by obtain ⟨r, tb, tt, vb, vt, t, h', tk, rfl, rfl, F, N, hb, ht, l1, l2, l3⟩ := q; exact cont r tb tt vb vt t h' tk F N hb ht l1 l2 l3) fun _ _ e => e

section
variable {prog : Program} {w : World} {A : Around} {E : Value → Shared → Prop} {s : Shared} {h₀ : Heap} {L : Addr} {m : PySem.Str → Option Value} {news : List (Addr × Obj)}
theorem tup_len {t : Addr} {vs : List Value} {n : Nat} {Q : Value → Shared → Prop} (N : News h₀ L s.heap news) (hm : (t, tup vs) ∈ news) (hl : vs.length = n) (hn : n ≤ 1000)
    (h : ∀ tk k, Q (.int (n : Int) tk) { s with toks := k }) : wpAny (model prog w) A (call (.builtin "len") [.ref t]) Q E s := by
  have e : (List.toArray vs).size = n := by rw [List.size_toArray, hl]
  exact len_tuple (N.isTup hm) (by rw [e]; omega) (by rw [e]; exact h _ _)
theorem tup_item {value slice : Expr} {t : Addr} {vs : List Value} {ns : List Int} {k : Int} {u : Tok} {n : Nat} {Q : Value → Shared → Prop} (N : News h₀ L s.heap news) (hm : (t, tup vs) ∈ news) (hi : IntsAre vs ns) (hl : vs.length = n) (hn : n ≤ 1000) (h0 : 0 ≤ k) (h1 : k < (n : Int))
    (h : ∀ tk, Q (.int (ns.getD k.toNat 0) tk) s)
    (hs : subscripted slice false (.ref t) (.int k u) = operate [.ref t, .int k u] (getItem (.ref t) (.int k u))) :
    wpAny (model prog w) A (subscriptTail value slice (.ref t) (.int k u)) Q E s := by
  have hln : ns.length = n := by rw [← hi.length, hl]
  have hlt : k.toNat < ns.length := by omega
  obtain ⟨tk, hx⟩ := hi.get k.toNat (ns[k.toNat]) (by rw [List.getElem?_eq_getElem hlt])
  have e : ns.getD k.toNat 0 = ns[k.toNat] := by rw [List.getD_eq_getElem?_getD, List.getElem?_eq_getElem hlt]; rfl
  refine item_tupleT (j := k.toNat) (N.isTup hm) (by omega) (by omega) ?_ hx (by rw [← e]; exact h tk) hs
  unfold seqIndex?
  rw [hl]
  simp only [if_neg (show ¬ k < 0 by omega)]
  rw [if_pos (by rw [Bool.and_eq_true]; exact ⟨decide_eq_true h0, decide_eq_true h1⟩)]
end
end Mine
end
section
namespace Mine
open PySem.Builtin.Int (intBits)

theorem bits_nil (n : Nat) : intBits 0 ≤ n := Nat.le_trans (by decide : intBits 0 ≤ 0) (Nat.zero_le n)
theorem pre_bits {x r : Int} {m : Nat} (h : 0 ≤ r ∧ r ≤ 64 ∧ intBits x ≤ m) : intBits x ≤ m := h.2.2
theorem bits_pre {x r : Int} {m : Nat} (h0 : 0 ≤ r) (h1 : r ≤ 64) (h : intBits x ≤ m) (hm : m ≤ 5000) : 0 ≤ r ∧ r ≤ 64 ∧ intBits x ≤ 5000 := ⟨h0, h1, Nat.le_trans h hm⟩
theorem bits_pre1 {x : Int} {m : Nat} (h : intBits x ≤ m) (hm : m ≤ 5000) : intBits x ≤ 5000 := Nat.le_trans h hm

/-! ## octets as words -/
theorem fold_bounds : ∀ (l : List Int), KBa.In l → ∀ acc : Int, 0 ≤ acc → 0 ≤ l.foldl (fun a k => a * 256 + k) acc ∧ l.foldl (fun a k => a * 256 + k) acc < (acc + 1) * 256 ^ l.length
  | [], _, acc, h0 => by simp; omega
  | o :: r, h, acc, h0 => by
    have ho := h o (List.mem_cons_self ..)
    have ih := fold_bounds r (fun n hn => h n (List.mem_cons_of_mem _ hn)) (acc * 256 + o) (by omega)
    rw [List.foldl_cons, List.length_cons, Int.pow_succ]
    refine ⟨ih.1, Int.lt_of_lt_of_le ih.2 ?_⟩
    have hp : (0 : Int) < 256 ^ r.length := pow_pos_of (by decide) _
    have e : (acc + 1) * (256 ^ r.length * 256) = ((acc + 1) * 256) * 256 ^ r.length := by rw [Int.mul_comm (256 ^ r.length) 256, ← Int.mul_assoc]
    rw [e]
    exact Int.mul_le_mul_of_nonneg_right (by omega) (Int.le_of_lt hp)
theorem low8_wd {os : List Int} (h : KBa.In os) (k : Nat) : Wd (low8 os k) := by
  have hb := fold_bounds ((os.drop k).take 8).reverse (fun n hn => in_cut h n (List.mem_reverse.mp hn)) 0 (Int.le_refl 0)
  have hl : ((os.drop k).take 8).reverse.length ≤ 8 := by rw [List.length_reverse, List.length_take]; omega
  have hp : (256 : Int) ^ ((os.drop k).take 8).reverse.length ≤ 256 ^ 8 := by
    generalize ((os.drop k).take 8).reverse.length = n at hl
    have hn : n = 0 ∨ n = 1 ∨ n = 2 ∨ n = 3 ∨ n = 4 ∨ n = 5 ∨ n = 6 ∨ n = 7 ∨ n = 8 := by omega
    rcases hn with rfl | rfl | rfl | rfl | rfl | rfl | rfl | rfl | rfl <;> decide
  refine ⟨hb.1, Int.lt_of_lt_of_le hb.2 ?_⟩
  rw [Int.zero_add, Int.one_mul]
  exact hp
theorem s64_mod {x : Int} (h : Wd x) : s64 x % 18446744073709551616 = x := by
  have h0 := h.1
  have h1 := h.2
  unfold s64
  split <;> omega
theorem s64_bits {x : Int} (h : Wd x) : intBits (s64 x) ≤ 64 := by
  have h0 := h.1
  have h1 := h.2
  refine intBits_le_64 ?_ ?_ <;> (unfold s64; split <;> omega)
theorem q_get {os : List Int} {j : Nat} (h : j < 2 * (os.length / 16)) : (qItems os).getD j 0 = s64 (low8 os (8 * j)) := by
  unfold qItems
  rw [List.getD_eq_getElem?_getD, List.getElem?_map, List.getElem?_range h]
  rfl
theorem q_bits {os : List Int} (ho : KBa.In os) {j : Nat} (h : j < 2 * (os.length / 16)) : intBits ((qItems os).getD j 0) ≤ 64 := by
  rw [q_get h]
  exact s64_bits (low8_wd ho _)

/-! ## the turn over a block -/
theorem mul_mod (x y : Int) : (x * y) % 18446744073709551616 = ((x % 18446744073709551616) * (y % 18446744073709551616)) % 18446744073709551616 := Int.mul_emod x y _
theorem fmod_is (x : Int) : x.fmod 18446744073709551616 = x % 18446744073709551616 := Int.fmod_eq_emod_of_nonneg x (by decide)
theorem mix1_mod {b low : Int} (h : b % 18446744073709551616 = low % 18446744073709551616) : (rotl (b * -8663945395140668459) 31 * 5545529020109919103) % 18446744073709551616 = mix1 low := by
  unfold mix1
  rw [fmod_is, fmod_is, mul_mod, rotl31_mod, mul_mod b, h]
  have e1 : (-8663945395140668459 : Int) % 18446744073709551616 = 9782798678568883157 % 18446744073709551616 := by decide
  rw [e1, ← mul_mod low]
  have e2 := mul_mod (lt ((low * 9782798678568883157) % 18446744073709551616) 31) 5545529020109919103
  rw [e2]
  have e3 : lt ((low * 9782798678568883157) % 18446744073709551616) 31 % 18446744073709551616 = lt ((low * 9782798678568883157) % 18446744073709551616) 31 := by
    have e4 := rotl31_mod (low * 9782798678568883157)
    rw [← e4, Int.emod_emod_of_dvd _ (Int.dvd_refl _)]
  rw [e3]
theorem mix2_mod {b low : Int} (h : b % 18446744073709551616 = low % 18446744073709551616) : (rotl (b * 5545529020109919103) 33 * -8663945395140668459) % 18446744073709551616 = mix2 low := by
  unfold mix2
  rw [fmod_is, fmod_is, mul_mod, rotl33_mod, mul_mod b, h, ← mul_mod low]
  have e1 : (-8663945395140668459 : Int) % 18446744073709551616 = 9782798678568883157 % 18446744073709551616 := by decide
  rw [e1]
  have e2 := mul_mod (lt ((low * 5545529020109919103) % 18446744073709551616) 33) 9782798678568883157
  rw [e2]
  have e3 : lt ((low * 5545529020109919103) % 18446744073709551616) 33 % 18446744073709551616 = lt ((low * 5545529020109919103) % 18446744073709551616) 33 := by
    have e4 := rotl33_mod (low * 5545529020109919103)
    rw [← e4, Int.emod_emod_of_dvd _ (Int.dvd_refl _)]
  rw [e3]
/-- h1 | h2 of a turn are the law's, by their rests -/
theorem half {g k r f s c : Int} (hr : r % 18446744073709551616 = k) (hs : s = k) (hg : g % 18446744073709551616 = f) :
    ((r + g) * 5 + c) % 18446744073709551616 = ((s + f) * 5 + c).fmod 18446744073709551616 := by
  rw [fmod_is]
  subst hs hg
  omega
theorem mur_turn {os : List Int} (ho : KBa.In os) {i : Nat} {k h1 h2 : Int} (hk : k = 0 + (i : Int) * 2) (hi : i < os.length / 16) (e1 : h1 % 18446744073709551616 = (lawSt os i).1) (e2 : h2 % 18446744073709551616 = (lawSt os i).2) :
    ((rotl (Builtin.bitXor h1 (rotl ((qItems os).getD k.toNat 0 * -8663945395140668459) 31 * 5545529020109919103)) 27 + h2) * 5 + 1390208809) % 18446744073709551616 = (lawSt os (i + 1)).1 ∧
    ((rotl (Builtin.bitXor h2 (rotl ((qItems os).getD (k + 1).toNat 0 * 5545529020109919103) 33 * -8663945395140668459)) 31 + ((rotl (Builtin.bitXor h1 (rotl ((qItems os).getD k.toNat 0 * -8663945395140668459) 31 * 5545529020109919103)) 27 + h2) * 5 + 1390208809)) * 5 + 944331445) % 18446744073709551616 = (lawSt os (i + 1)).2 := by
  have k1 : k.toNat = 2 * i := by omega
  have k2 : (k + 1).toNat = 2 * i + 1 := by omega
  rw [k1, k2, q_get (by omega), q_get (by omega), show 8 * (2 * i) = 16 * i by omega, show 8 * (2 * i + 1) = 16 * i + 8 by omega]
  have m1 : s64 (low8 os (16 * i)) % 18446744073709551616 = low8 os (16 * i) % 18446744073709551616 := by
    have h := low8_wd ho (16 * i)
    rw [s64_mod h]
    have h0 := h.1
    have h1 := h.2
    omega
  have m2 : s64 (low8 os (16 * i + 8)) % 18446744073709551616 = low8 os (16 * i + 8) % 18446744073709551616 := by
    have h := low8_wd ho (16 * i + 8)
    rw [s64_mod h]
    have h0 := h.1
    have h1 := h.2
    omega
  have x1 := mix1_mod m1
  have x2 := mix2_mod m2
  have r1 : rotl (Builtin.bitXor h1 (rotl (s64 (low8 os (16 * i)) * -8663945395140668459) 31 * 5545529020109919103)) 27 % 18446744073709551616 = lt (Builtin.bitXor (lawSt os i).1 (mix1 (low8 os (16 * i)))) 27 := by
    rw [rotl27_mod, xor_emod64, x1, e1]
  have r2 : rotl (Builtin.bitXor h2 (rotl (s64 (low8 os (16 * i + 8)) * 5545529020109919103) 33 * -8663945395140668459)) 31 % 18446744073709551616 = lt (Builtin.bitXor (lawSt os i).2 (mix2 (low8 os (16 * i + 8)))) 31 := by
    rw [rotl31_mod, xor_emod64, x2, e2]
  have a1 := half (c := 1390208809) r1 rfl e2
  exact ⟨a1, half (c := 944331445) r2 rfl a1⟩
end Mine
end
section
namespace Mine
open PySem.Builtin.Int (intBits)

theorem xor_swap {a x u : Int} (ha : Wd a) (hx : Wd x) (hu : Wd u) : Builtin.bitXor a (Builtin.bitXor x u) = Builtin.bitXor (Builtin.bitXor a u) x := by
  obtain ⟨p, rfl⟩ := Int.eq_ofNat_of_zero_le ha.1
  obtain ⟨q, rfl⟩ := Int.eq_ofNat_of_zero_le hx.1
  obtain ⟨r, rfl⟩ := Int.eq_ofNat_of_zero_le hu.1
  rw [xor_nat, xor_nat, xor_nat, xor_nat, Nat.xor_comm q r, Nat.xor_assoc]
theorem xor_zero_left {x : Int} (hx : Wd x) : Builtin.bitXor 0 x = x := by
  obtain ⟨q, rfl⟩ := Int.eq_ofNat_of_zero_le hx.1
  rw [show (0 : Int) = ((0 : Nat) : Int) from rfl, xor_nat, Nat.zero_xor]
theorem wd_mod (x : Int) : Wd (x % 18446744073709551616) := by constructor <;> omega

/-- what the loops that go down have at the j-th turn: the rest of the word that is due, and a number that stays small -/
def Dn (l : List Int) (j : Nat) (x : Int) : Prop :=
  Builtin.bitXor (sgX l (l.length - j)) (x % 18446744073709551616) = sgX l l.length ∧ -2 ^ 72 ≤ x ∧ x < 2 ^ 72
theorem Dn.start (l : List Int) : Dn l 0 0 := by
  refine ⟨?_, by decide, by decide⟩
  show Builtin.bitXor (sgX l l.length) 0 = _
  exact bitXor_zero _
theorem Dn.fin {l : List Int} {x : Int} (h : Dn l l.length x) : x % 18446744073709551616 = sgX l l.length := by
  have h1 := h.1
  rw [Nat.sub_self] at h1
  rw [← h1]
  exact (xor_zero_left (wd_mod x)).symm
theorem Dn.bits {l : List Int} {j : Nat} {x : Int} (h : Dn l j x) : intBits x ≤ 73 := bits_of_range h.2.1 h.2.2
theorem pow256 (n : Nat) : (2 : Int) ^ (8 * n) = 256 ^ n := by
  rw [Int.pow_mul]; rfl
theorem sg_range {o : Int} (h : 0 ≤ o ∧ o < 256) : -128 ≤ sg o ∧ sg o ≤ 127 := by
  unfold sg
  split <;> omega
theorem Dn.step {l : List Int} (hl : KBa.In l) (h8 : l.length ≤ 8) {j : Nat} {x t s : Int} (hj : j < l.length) (h : Dn l j x) (ht : t = sg (l.getD (l.length - 1 - j) 0)) (hs : s.toNat = 8 * (l.length - 1 - j)) :
    Dn l (j + 1) (Builtin.bitXor x (t * 2 ^ s.toNat)) := by
  have hg : 0 ≤ l.getD (l.length - 1 - j) 0 ∧ l.getD (l.length - 1 - j) 0 < 256 := by
    have := in_get (k := ((l.length - 1 - j : Nat) : Int)) hl (by omega) (by omega)
    rw [Int.toNat_natCast] at this
    exact this
  have hr := sg_range hg
  rw [← ht] at hr
  rw [hs, pow256]
  have e1 : l.length - j = (l.length - 1 - j) + 1 := by omega
  have e2 : l.length - (j + 1) = l.length - 1 - j := by omega
  obtain ⟨h1, h2, h3⟩ := h
  rw [e1, sgX_succ, fmod_is, ← ht] at h1
  refine ⟨?_, ?_⟩
  · rw [e2, xor_emod64, xor_swap (sgX_wd l _) (wd_mod _) (wd_mod _)]
    exact h1
  · have hb : -2 ^ 72 ≤ t * 256 ^ (l.length - 1 - j) ∧ t * 256 ^ (l.length - 1 - j) < 2 ^ 72 := by
      generalize l.length - 1 - j = n at *
      have hn : n = 0 ∨ n = 1 ∨ n = 2 ∨ n = 3 ∨ n = 4 ∨ n = 5 ∨ n = 6 ∨ n = 7 := by omega
      rcases hn with rfl | rfl | rfl | rfl | rfl | rfl | rfl | rfl <;> omega
    exact xor_range 72 _ _ h2 h3 hb.1 hb.2
/-- an item of the tail -/
theorem b_get {os : List Int} (j : Nat) : (bItems os).getD j 0 = sg ((os.drop (16 * (os.length / 16))).getD j 0) := by
  unfold bItems
  rw [List.getD_eq_getElem?_getD, List.getElem?_map, List.getD_eq_getElem?_getD]
  cases (List.drop (16 * (os.length / 16)) os)[j]? with
  | none => rfl
  | some v => rfl
theorem b_bits {os : List Int} (ho : KBa.In os) (j : Nat) : intBits ((bItems os).getD j 0) ≤ 64 := by
  rw [b_get]
  have hg : ∀ l : List Int, KBa.In l → 0 ≤ l.getD j 0 ∧ l.getD j 0 < 256 := by
    intro l hl
    by_cases h : j < l.length
    · have := in_get (k := ((j : Nat) : Int)) hl (by omega) (by omega)
      rw [Int.toNat_natCast] at this
      exact this
    · rw [List.getD_eq_getElem?_getD, List.getElem?_eq_none (by omega)]
      decide
  have hr := sg_range (hg (os.drop (16 * (os.length / 16))) fun n hn => ho n (List.mem_of_mem_drop hn))
  exact intBits_le_64 (by omega) (by omega)
/-- the two halves of the tail -/
def tl1 (os : List Int) : List Int := (os.drop (16 * (os.length / 16))).take 8
def tl2 (os : List Int) : List Int := os.drop (16 * (os.length / 16) + 8)
theorem tl1_len (os : List Int) : (tl1 os).length = min 8 (os.length % 16) := by
  unfold tl1
  rw [List.length_take, List.length_drop]
  omega
theorem tl2_len (os : List Int) : (tl2 os).length = os.length % 16 - 8 := by
  unfold tl2
  rw [List.length_drop]
  omega
theorem tl1_in {os : List Int} (h : KBa.In os) : KBa.In (tl1 os) := in_cut h
theorem tl2_in {os : List Int} (h : KBa.In os) : KBa.In (tl2 os) := fun n hn => h n (List.mem_of_mem_drop hn)
theorem b_tl1 {os : List Int} {j : Nat} (h : j < 8) : (bItems os).getD j 0 = sg ((tl1 os).getD j 0) := by
  rw [b_get, tl1]
  simp only [List.getD_eq_getElem?_getD, List.getElem?_take, if_pos h]
theorem b_tl2 {os : List Int} (j : Nat) : (bItems os).getD (j + 8) 0 = sg ((tl2 os).getD j 0) := by
  rw [b_get, tl2]
  simp only [List.getD_eq_getElem?_getD, List.getElem?_drop]
  rw [show 16 * (os.length / 16) + 8 + j = 16 * (os.length / 16) + (j + 8) by omega]

/-! ## the last mixing -/
/-- fmix, as it reckons on ints of any size -/
def fmix (k : Int) : Int :=
  let k1 := Builtin.bitXor k (Builtin.bitAnd (k.fdiv (2 ^ Int.toNat 33)) 2147483647) * 18397679294719823053
  let k2 := Builtin.bitXor k1 (Builtin.bitAnd (k1.fdiv (2 ^ Int.toNat 33)) 2147483647) * 14181476777654086739
  Builtin.bitXor k2 (Builtin.bitAnd (k2.fdiv (2 ^ Int.toNat 33)) 2147483647)
def trunc (x : Int) : Int := if ¬ (-9223372036854775808 ≤ x ∧ x ≤ 9223372036854775807) then (x + 9223372036854775808).fmod 18446744073709551616 - 9223372036854775808 else x
theorem low31 (k : Int) : Builtin.bitAnd (k.fdiv (2 ^ Int.toNat 33)) 2147483647 = k / 8589934592 % 2147483648 := by
  rw [Int.fdiv_eq_ediv_of_nonneg _ (by decide), show (2147483647 : Int) = 2 ^ 31 - 1 by decide, kbt_mask]
  rfl
theorem fold33 (k : Int) : Builtin.bitXor k (Builtin.bitAnd (k.fdiv (2 ^ Int.toNat 33)) 2147483647) % 18446744073709551616 =
    Builtin.bitXor (k % 18446744073709551616) ((k % 18446744073709551616).fdiv (2 ^ Int.toNat 33)) := by
  have e : (k % 18446744073709551616).fdiv (2 ^ Int.toNat 33) = k / 8589934592 % 2147483648 := by
    rw [Int.fdiv_eq_ediv_of_nonneg _ (by decide)]
    show k % 18446744073709551616 / 8589934592 = _
    omega
  have e2 : k / 8589934592 % 2147483648 % 18446744073709551616 = k / 8589934592 % 2147483648 := by omega
  rw [low31, xor_emod64, e2, e]
theorem mul_modl (x c : Int) : (x * c) % 18446744073709551616 = ((x % 18446744073709551616) * c) % 18446744073709551616 := by
  have h1 := Int.mul_emod x c 18446744073709551616
  have h2 := Int.mul_emod (x % 18446744073709551616) c 18446744073709551616
  rw [Int.emod_emod_of_dvd _ (Int.dvd_refl _)] at h2
  rw [h1, h2]
theorem fmix_mod (k : Int) : fmix k % 18446744073709551616 = mixed (k % 18446744073709551616) := by
  unfold fmix mixed
  dsimp only
  rw [sz_is]
  have s1 : (Builtin.bitXor k (Builtin.bitAnd (k.fdiv (2 ^ Int.toNat 33)) 2147483647) * 18397679294719823053) % 18446744073709551616 =
      (Builtin.bitXor (k % 18446744073709551616) ((k % 18446744073709551616).fdiv (2 ^ Int.toNat 33)) * 18397679294719823053).fmod 18446744073709551616 := by
    rw [fmod_is, ← fold33, ← mul_modl]
  generalize Builtin.bitXor k (Builtin.bitAnd (k.fdiv (2 ^ Int.toNat 33)) 2147483647) * 18397679294719823053 = k1 at s1 ⊢
  rw [← s1]
  have s2 : (Builtin.bitXor k1 (Builtin.bitAnd (k1.fdiv (2 ^ Int.toNat 33)) 2147483647) * 14181476777654086739) % 18446744073709551616 =
      (Builtin.bitXor (k1 % 18446744073709551616) ((k1 % 18446744073709551616).fdiv (2 ^ Int.toNat 33)) * 14181476777654086739).fmod 18446744073709551616 := by
    rw [fmod_is, ← fold33, ← mul_modl]
  generalize Builtin.bitXor k1 (Builtin.bitAnd (k1.fdiv (2 ^ Int.toNat 33)) 2147483647) * 14181476777654086739 = k2 at s2 ⊢
  rw [← s2, fold33]
theorem trunc_is (x : Int) : trunc x = if (x % 18446744073709551616).fdiv (2 ^ Int.toNat 63) ≠ 0 then x % 18446744073709551616 - 18446744073709551616 else x % 18446744073709551616 := by
  have e : (x % 18446744073709551616).fdiv (2 ^ Int.toNat 63) = x % 18446744073709551616 / 9223372036854775808 := by
    rw [Int.fdiv_eq_ediv_of_nonneg _ (by decide)]; rfl
  unfold trunc
  rw [e, fmod_is]
  split <;> split <;> omega

/-! ## the whole -/
/-- the law's two halves ahead of the last mixing -/
noncomputable def half1 (os : List Int) : Int := Builtin.bitXor (Builtin.bitXor (lawSt os (os.length / 16)).1 (mix1 (sgX (tl1 os) (tl1 os).length))) os.length
noncomputable def half2 (os : List Int) : Int := Builtin.bitXor (Builtin.bitXor (lawSt os (os.length / 16)).2 (mix2 (sgX (tl2 os) (tl2 os).length))) os.length
/-- what the law reckons -/
noncomputable def due (os : List Int) : Int :=
  (mixed ((half1 os + half2 os).fmod 18446744073709551616) + mixed (((half1 os + half2 os).fmod 18446744073709551616 + half2 os).fmod 18446744073709551616)).fmod 18446744073709551616
/-- .. as a number with a sign -/
noncomputable def hash (os : List Int) : Int := if (due os).fdiv (2 ^ Int.toNat 63) ≠ 0 then due os - 18446744073709551616 else due os
theorem wd_self {x : Int} (h : Wd x) : x % 18446744073709551616 = x := by
  have h0 := h.1
  have h1 := h.2
  omega
theorem len_self {os : List Int} (h : os.length ≤ 63) : ((os.length : Nat) : Int) % 18446744073709551616 = os.length := by omega
theorem half1_yes {os : List Int} {x y : Int} (hl : os.length ≤ 63) (e : x % 18446744073709551616 = (lawSt os (os.length / 16)).1) (m : y % 18446744073709551616 = sgX (tl1 os) (tl1 os).length) :
    Builtin.bitXor (Builtin.bitXor x (rotl (y * -8663945395140668459) 31 * 5545529020109919103)) os.length % 18446744073709551616 = half1 os := by
  rw [xor_emod64, xor_emod64, mix1_mod (low := sgX (tl1 os) (tl1 os).length) (by rw [wd_self (sgX_wd _ _)]; exact m), e, len_self hl]
  rfl
theorem half2_yes {os : List Int} {x y : Int} (hl : os.length ≤ 63) (e : x % 18446744073709551616 = (lawSt os (os.length / 16)).2) (m : y % 18446744073709551616 = sgX (tl2 os) (tl2 os).length) :
    Builtin.bitXor (Builtin.bitXor x (rotl (y * 5545529020109919103) 33 * -8663945395140668459)) os.length % 18446744073709551616 = half2 os := by
  rw [xor_emod64, xor_emod64, mix2_mod (low := sgX (tl2 os) (tl2 os).length) (by rw [wd_self (sgX_wd _ _)]; exact m), e, len_self hl]
  rfl
theorem half1_no {os : List Int} {x : Int} (hl : os.length ≤ 63) (e : x % 18446744073709551616 = (lawSt os (os.length / 16)).1) (h0 : os.length % 16 = 0) :
    Builtin.bitXor x os.length % 18446744073709551616 = half1 os := by
  have h : (tl1 os).length = 0 := by rw [tl1_len]; omega
  have hm : mix1 0 = 0 := by decide +kernel
  unfold half1
  rw [h, sgX_zero, hm, bitXor_zero, xor_emod64, e, len_self hl]
theorem half2_no {os : List Int} {x : Int} (hl : os.length ≤ 63) (e : x % 18446744073709551616 = (lawSt os (os.length / 16)).2) (h0 : os.length % 16 ≤ 8) :
    Builtin.bitXor x os.length % 18446744073709551616 = half2 os := by
  have h : (tl2 os).length = 0 := by rw [tl2_len]; omega
  have hm : mix2 0 = 0 := by decide +kernel
  unfold half2
  rw [h, sgX_zero, hm, bitXor_zero, xor_emod64, e, len_self hl]
theorem mur_end {os : List Int} {H1 H2 : Int} (h1 : H1 % 18446744073709551616 = half1 os) (h2 : H2 % 18446744073709551616 = half2 os) : trunc (fmix (H1 + H2) + fmix (H2 + (H1 + H2))) = hash os := by
  have e1 : (H1 + H2) % 18446744073709551616 = (half1 os + half2 os).fmod 18446744073709551616 := by rw [fmod_is, ← h1, ← h2]; omega
  have e2 : (H2 + (H1 + H2)) % 18446744073709551616 = ((half1 os + half2 os).fmod 18446744073709551616 + half2 os).fmod 18446744073709551616 := by
    rw [fmod_is, fmod_is, ← h1, ← h2]; omega
  have e3 : (fmix (H1 + H2) + fmix (H2 + (H1 + H2))) % 18446744073709551616 = due os := by
    have a1 := fmix_mod (H1 + H2)
    have a2 := fmix_mod (H2 + (H1 + H2))
    rw [e1] at a1
    rw [e2] at a2
    unfold due
    rw [fmod_is, ← a1, ← a2]
    omega
  rw [trunc_is, e3]
  rfl

theorem tl1_is (os : List Int) : List.take (min (((os.length / 16 * 16 : Nat) : Int) + 8).toNat os.length - (((os.length / 16 * 16 : Nat) : Int)).toNat) (List.drop (((os.length / 16 * 16 : Nat) : Int)).toNat os) = tl1 os := by
  unfold tl1
  rw [Int.toNat_natCast, show os.length / 16 * 16 = 16 * (os.length / 16) by omega]
  have h : (List.drop (16 * (os.length / 16)) os).length = os.length - 16 * (os.length / 16) := List.length_drop
  by_cases h8 : 8 ≤ os.length - 16 * (os.length / 16)
  · congr 1
    omega
  · rw [List.take_of_length_le (by omega), List.take_of_length_le (by omega)]
theorem tl2_is (os : List Int) : List.drop (((os.length / 16 * 16 : Nat) : Int) + 8).toNat os = tl2 os := by
  unfold tl2
  congr 1
  omega
theorem law_due {os : List Int} {f g w1 w2 : Int} (hf : f = (lawSt os (os.length / 16)).1) (hg : g = (lawSt os (os.length / 16)).2) (hw1 : w1 = sgX (tl1 os) (tl1 os).length) (hw2 : w2 = sgX (tl2 os) (tl2 os).length) :
    (mixed ((Builtin.bitXor (Builtin.bitXor f ((lt ((w1 * 9782798678568883157).fmod 18446744073709551616) 31 * 5545529020109919103).fmod 18446744073709551616)) ↑os.length +
      Builtin.bitXor (Builtin.bitXor g ((lt ((w2 * 5545529020109919103).fmod 18446744073709551616) 33 * 9782798678568883157).fmod 18446744073709551616)) ↑os.length).fmod 18446744073709551616) +
     mixed (((Builtin.bitXor (Builtin.bitXor f ((lt ((w1 * 9782798678568883157).fmod 18446744073709551616) 31 * 5545529020109919103).fmod 18446744073709551616)) ↑os.length +
      Builtin.bitXor (Builtin.bitXor g ((lt ((w2 * 5545529020109919103).fmod 18446744073709551616) 33 * 9782798678568883157).fmod 18446744073709551616)) ↑os.length).fmod 18446744073709551616 +
      Builtin.bitXor (Builtin.bitXor g ((lt ((w2 * 5545529020109919103).fmod 18446744073709551616) 33 * 9782798678568883157).fmod 18446744073709551616)) ↑os.length).fmod 18446744073709551616)).fmod 18446744073709551616 = due os := by
  subst hf hg hw1 hw2
  rfl
theorem end_hi {os : List Int} (h : (due os).fdiv (2 ^ Int.toNat 63) ≠ 0) : (hash os == due os - 18446744073709551616) = true := by
  unfold hash
  rw [if_pos h]
  simp
theorem end_lo {os : List Int} (h : ¬ (due os).fdiv (2 ^ Int.toNat 63) ≠ 0) : (hash os == due os) = true := by
  unfold hash
  rw [if_neg h]
  simp
theorem end_lo0 {os : List Int} (h : (due os).fdiv (2 ^ Int.toNat 63) = 0) : (hash os == due os) = true := end_lo (fun z => z h)
end Mine
end
namespace Mine
set_option maxRecDepth 100000 in
set_option maxHeartbeats 8000000 in
open_top hd for PySem.Challenge.rw_fe0054_01
end Mine
local macro_rules | `(tactic| walk_at "eval ListComp") => `(tactic| (k_here; (with_reducible show wpAny _ _ (eval (Expr.ListComp _ [⟨_, Expr.Tuple _ _ _, _, _⟩] _ _) _) _ _ _); k_dflt (refine Mine.comp_tup (_F := by k_asm) (by with_unfolding_all rfl) (by decide) (by rfl) (by decide) (by rfl) ?_)))
local macro_rules | `(tactic| walk_at "CompTup") => `(tactic| (k_here; k_dflt (refine Mine.CompTup.intro (by rfl) (by k_asm) (by k_asm) (by k_mem) (by first | size_fits | exact Nat.le_of_ble_eq_true rfl) ?_; intro g'; lcg_lit)))
local macro_rules | `(tactic| walk_at "CompRest") => `(tactic| (k_here; (with_unfolding_all (refine LCg.CompRest.succ ?_; intro v' I' oI' C' oC' D' m' h' tk' E' hv' hC' hx' F' N' off' ne'; lcg_open hv'))))
local macro_rules | `(tactic| walk_at "CompEnd") => `(tactic| (refine' LCg.CompEnd.intro ?cF ?cN _ ?sub ?off ?src ?_; (case cF => assumption); (case off => assumption); (case cN => assumption); (case src => lcg_src); (case sub => lcg_sub)))
local macro_rules | `(tactic| lcg_src) => `(tactic| (unfold Mine.TupAt; k_mem))
local macro_rules | `(tactic| kba_in) => `(tactic| exact Mine.in_cut (by assumption))
local macro_rules | `(tactic| l_fact) => `(tactic| (refine Mine.lt_pre ?_ (by omega) (by omega); repeat' (first | exact Mine.Wd.fmod _ | refine Mine.Wd.xor ?_ ?_ | assumption)))
local macro_rules | `(tactic| l_fact) => `(tactic| (refine Mine.wd_pre ?_; repeat' (first | exact Mine.Wd.fmod _ | refine Mine.Wd.xor ?_ ?_ | assumption)))
local macro_rules | `(tactic| bits_by_make) => `(tactic| first | (with_reducible assumption) | exact Mine.pre_bits (by with_reducible assumption) | ((with_reducible apply Mine.bits_xor) <;> bits_by_make) | ((with_reducible refine' Mine.bits_rotl ?za ?zb); (case za => bits_by_make); (case zb => omega)))
local macro_rules | `(tactic| l_fact) => `(tactic| (refine' Mine.bits_pre (by omega) (by omega) ?za ?zb; (case za => bits_by_make); (case zb => first | decide | omega)))
local macro_rules | `(tactic| l_fact) => `(tactic| (refine' Mine.bits_pre1 ?za ?zb; (case za => bits_by_make); (case zb => first | decide | omega)))
local macro_rules | `(tactic| walk_at "call ref") => `(tactic| (k_call_by "rotl64" Mine.rotl (fun x r => 0 ≤ r ∧ r ≤ 64 ∧ Builtin.Int.intBits x ≤ 5000)))
local macro_rules | `(tactic| walk_at "call ref") => `(tactic| (k_call_by "fmix" Mine.fmix (fun x => Builtin.Int.intBits x ≤ 5000)))
local macro_rules | `(tactic| walk_at "call ref") => `(tactic| (k_call_by "truncate_int64" Mine.trunc))
local macro_rules | `(tactic| walk_at "call ref") => `(tactic| (k_call_by "_law_mixed" Mine.mixed (fun w => 0 ≤ w ∧ w < 18446744073709551616)))
local macro_rules | `(tactic| walk_at "call ref") => `(tactic| ((with_reducible show wpAny _ _ (call (Value.ref 49) _) _ _ _); (fail_if_success (rename Mine.Entered 49 => z9)); refine Mine.Stop.out ?_))
local macro_rules | `(tactic| walk_at "call ref") => `(tactic| ((with_reducible show wpAny _ _ (call (Value.ref 77) _) _ _ _); (fail_if_success (rename Mine.Entered 77 => z9)); refine Mine.Stop.out ?_))
local macro_rules | `(tactic| walk_at "call ref") => `(tactic| (k_call_by "_law_turned" Mine.lt (fun w p => 0 ≤ w ∧ w < 18446744073709551616 ∧ 0 ≤ p ∧ p ≤ 64)))
local macro_rules | `(tactic| walk_at "pyIter ref") => `(tactic| ((with_reducible show wpAny _ _ (pyIter (Value.ref _)) (fun it s₂ => LoopAtV _ _ _ _ _ _ _ _ _ it s₂) _ _); (rename IsRange _ _ _ _ _ _ _ _ => rgX); refine Mine.Stop.out ?_))
local macro_rules | `(tactic| walk_at "InvEndN") => `(tactic| (refine Mine.Stop.out ?_))
local macro_rules | `(tactic| walk_at "subscriptTail Name Slice ref ref") => `(tactic| (k_here; (with_reducible show wpAny _ _ (subscriptTail _ (PySem.Expr.Slice _ _ none _) (Value.ref _) (Value.ref _)) _ _ _); k_dflt (refine' kmk_slice_ints ?F ?N ?l ?p ?q ?i ?m ?c ?_ ?s ?t ?z; (case F => k_asm); (case N => k_asm); (case l => exact News.isList (by k_asm) (by k_mem)); (case p => kmk_part); (case q => kmk_part); (case i => with_reducible assumption); (case m => first | (with_reducible refine' kmk_run (ns := ?zn) ?za ?zb ?zc; (case za => assumption); (case zb => omega); (case zc => omega)) | (with_reducible refine' kmk_from (ns := ?zn) ?za ?zb; (case za => assumption); (case zb => omega))); (case c => exact rfl); (case s => with_unfolding_all rfl); (case t => kmk_pure); (case z => (refine kmk_sz (by with_reducible assumption) ?_; rw [sizeLine_eq]; omega))); intro D' ws' h' F' N' l1 hI' hC' hL'; (try k_lt l1)))
local macro_rules | `(tactic| walk_at "call builtin:_struct.unpack") => `(tactic| (refine Mine.Stop.out ?_))
local macro_rules | `(tactic| walk_at "call builtin:unpack") => `(tactic| (refine Mine.Stop.out ?_))
local macro_rules | `(tactic| walk_at "call type:tuple") => `(tactic| (k_here; (with_reducible show wpAny _ _ (call (Value.type "tuple") []) _ _ _); k_dflt (refine' Mine.call_tuple_nil ?F ?N ?_; (case F => k_asm); (case N => k_asm)); intro D' h' F' N' l1; (try k_lt l1)))
local macro_rules | `(tactic| walk_at "call builtin:len") => `(tactic| (k_here; (with_reducible show wpAny _ _ (call (Value.builtin "len") [Value.ref _]) _ _ _); k_dflt (refine' Mine.tup_len ?F ?m ?l ?n ?_; (case F => k_asm); (case m => k_mem); (case l => with_reducible assumption); (case n => omega)); intro _ _))
local macro_rules | `(tactic| walk_at "subscriptTail Name Name ref int") => `(tactic| (k_here; (with_reducible show wpAny _ _ (subscriptTail _ _ (Value.ref _) (Value.int _ _)) _ _ _); k_dflt (refine' Mine.tup_item ?F ?m ?i ?l ?n ?a ?b ?_ ?s; (case F => k_asm); (case m => k_mem); (case i => with_reducible assumption); (case l => with_reducible assumption); (case n => omega); (case a => omega); (case b => omega); (case s => with_unfolding_all rfl)); intro _))
local macro_rules | `(tactic| walk_at "subscriptTail Name BinOp ref int") => `(tactic| (k_here; (with_reducible show wpAny _ _ (subscriptTail _ _ (Value.ref _) (Value.int _ _)) _ _ _); k_dflt (refine' Mine.tup_item ?F ?m ?i ?l ?n ?a ?b ?_ ?s; (case F => k_asm); (case m => k_mem); (case i => with_reducible assumption); (case l => with_reducible assumption); (case n => omega); (case a => omega); (case b => omega); (case s => with_unfolding_all rfl)); intro _))
local macro_rules | `(tactic| kc_close) => `(tactic| (w_end; (rename Fr _ _ _ _ => Fz); refine' Mine.good_bool Fz ?gwg ?gwb; (case gwg => first | assumption | rfl); (case gwb => first | exact Mine.end_hi (by assumption) | exact Mine.end_lo0 (by assumption) | exact Mine.end_lo (by assumption))))
set_option rowWalk.seconds 0
set_option maxRecDepth 100000 in
set_option maxHeartbeats 100000000 in
theorem PySem.Challenge.cw_fe0054_01_holds : PySem.Challenge.rw_fe0054_01.Holds := by
  refine Mine.hd ?_
  k_with "tree" => exact Mine.lt_eq _ _
  k_with "tree" => (unfold Mine.trunc; split <;> first | rfl | omega)
  k_go0
  (all_goals try k_fold)
  k_steps
  refine Mine.Stop.go ?_
  rename IsRange _ _ _ _ _ _ _ _ => rg
  rename Fr _ _ _ _ => F1
  rename News _ _ _ [(_, _), (_, _), (_, _), (_, _), (_, _)] => N1
  rename IntsAre _ (List.map (fun k' : Int => k'.fmod 256) _) => hI8
  rename _ = Data.cell (some (Value.ref _)) => hCell
  rw [Mine.sz_is] at F1
  generalize hos : List.map (fun k' : Int => k'.fmod 256) _ = os at *
  have hlen : os.length ≤ 63 := by rw [← hos, List.length_map, List.length_take]; omega
  have hoc : KBa.In os := by
    intro o ho
    rw [← hos] at ho
    obtain ⟨z, _, rfl⟩ := List.mem_map.mp ho
    exact ⟨Int.fmod_nonneg_of_pos z (by decide), Int.fmod_lt_of_pos z (by decide)⟩
  have hwh : ((os.length : Nat) : Int).fdiv 16 * 16 = ((os.length / 16 * 16 : Nat) : Int) := by
    rw [Int.fdiv_eq_ediv_of_nonneg _ (by decide)]; omega
  rw [hwh] at F1 rg
  have N2 : News _ _ _ [_, _] := fun p hp => N1 p (List.mem_cons_of_mem _ (List.mem_cons_of_mem _ ((List.mem_cons.mp hp).elim (fun e => e ▸ List.mem_cons_self) fun e => List.mem_cons_of_mem _ (List.mem_cons_of_mem _ e))))
  clear N1
  clear hos
  try (rename Heap.CodeRec _ _ _ => z9; clear z9)
  try (rename Dflts _ _ _ _ _ => z9; clear z9)
  try (rename CellsAre _ _ _ => z9; clear z9)
  try (rename ReadsAll _ _ _ _ => z9; clear z9)
  try (rename Well _ _ _ => z9; clear z9)
  try (rename Reads _ _ _ _ => z9; clear z9)
  try (rename ReadsAllW _ _ _ _ _ _ => z9; clear z9)
  try (rename WShape.hasAll _ _ _ = true => z9; clear z9)
  try (rename WData.layableAll _ = true => z9; clear z9)
  try (rename PyData.layableAll0 _ = true => z9; clear z9)
  try (rename Spec.Shape.has _ _ = true => z9; clear z9)
  try (rename Well _ _ _ _ => z9; clear z9)
  try (rename Data.cell _ = _ => z9; clear z9)
  try (rename ¬ ((63 : Nat) : Int) < _ => z9; clear z9)
  revert F1 N2 rg hCell
  (rename Fr _ _ _ _ => z9; clear z9)
  (rename News _ _ _ _ => z9; clear z9)
  (rename _ = Data.cell _ => z9; clear z9)
  intro _ _ _ _
  (rename IsRange _ _ _ _ _ _ _ _ => rg)
  (rename Fr _ _ _ _ => F1)
  (rename News _ _ _ _ => N2)
  refine' Mine.lp_range (σ := Int × Tok × Int × Tok) (n := os.length / 16) (fun c => [(Str.ofString "first", .int c.1 c.2.1), (Str.ofString "second", .int c.2.2.1 c.2.2.2)]) [Str.ofString "low", Str.ofString "high"] (fun i c => c.1 = (Mine.lawSt os i).1 ∧ c.2.2.1 = (Mine.lawSt os i).2) (0, _, 0, _) (by rfl) rg ?hs ?hn F1 N2 ?hk ?hp ?turn ?done
  case hs => exact Mine.small16 (by omega)
  case hn => exact Mine.size16 _
  case hk => kst_all
  case hp => exact ⟨rfl, rfl⟩
  case turn =>
    rintro I ⟨f, tf, g, tg⟩ i k t u h tk low hk hi ⟨hf, hg⟩ F3 N3
    dsimp only at hf hg
    have hb := Mine.lawSt_bounds os i
    rw [← hf, ← hg] at hb
    obtain ⟨hfW, hgW⟩ := hb
    have hk0 : 0 ≤ k := by omega
    have hk1 : k + 16 ≤ os.length := by omega
    have hk2 : k < 64 := by omega
    have hlA : (List.take (min (k + 8).toNat os.length - k.toNat) (List.drop k.toNat os)).length ≤ 8 := by rw [List.length_take]; omega
    have hlB : (List.take (min (k + 8 + 8).toNat os.length - (k + 8).toNat) (List.drop (k + 8).toNat os)).length ≤ 8 := by rw [List.length_take]; omega
    (try dsimp only [kstB] at F3)
    (try simp only [List.map_cons, List.map_nil])
    (try k_lt low)
    have kMark : KstMark := kstMark
    clear F1 N2 rg
    (try k_fold)
    k_steps
    refine Mine.Stop.go ?_
    (rename News _ _ _ _ => nE')
    refine kst_end ⟨_, _, _, _⟩ (by assumption) nE' (by first | kst_in | kst_inAny) (by first | (intro p hp; kst_mem) | kst_anyIn) (by rfl) trivial (by kst_all) (by kst_same) ?_
    exact Mine.turn_ok hk hi hf hg
  case done =>
    rintro ⟨f, tf, g, tg⟩ u h tk ⟨hf, hg⟩ F3 N3
    dsimp only at hf hg
    have hb := Mine.lawSt_bounds os (os.length / 16)
    rw [← hf, ← hg] at hb
    obtain ⟨hfW, hgW⟩ := hb
    (try dsimp only [kstB] at F3)
    have kMark : KstMark := kstMark
    clear F1 N2 rg
    (try k_fold)
    k_steps
    refine Mine.Stop.go ?_
    rename IsRange _ _ _ _ _ _ _ _ => rg
    rename Fr _ _ _ _ => F4
    rename News _ _ _ _ => N4
    rename IntsAre _ (List.take _ (List.drop _ _)) => hIl
    generalize hl1 : List.take _ (List.drop _ os) = l1 at *
    have hin1 : KBa.In l1 := by rw [← hl1]; exact Mine.in_cut hoc
    have hlen1 : l1.length ≤ 8 := by rw [← hl1, List.length_take]; omega
    refine' Mine.lp_range (σ := Int × Tok) (n := l1.length) (fun c => [(Str.ofString "word", .int c.1 c.2)]) [] (fun i c => c.1 = Mine.sgX l1 i) (0, _) (by rfl) rg ?hs ?hn F4 N4 ?hk ?hp ?turn ?done
    case hs => exact small_one (by omega) (by omega) (by omega) (by omega)
    case hn => exact rangeSize_nat _ _
    case hk => kst_all
    case hp => rfl
    case turn =>
      rintro I ⟨w, tw⟩ i k t u h tk low hk hi hw F5 N5
      dsimp only at hw
      have hwW := Mine.sgX_wd l1 i
      rw [← hw] at hwW
      have hk0 : 0 ≤ k := by omega
      have hk1 : k < l1.length := by omega
      have hk2 : k < 8 := by omega
      have hb := Mine.in_get hin1 hk0 hk1
      (try dsimp only [kstB] at F5)
      (try simp only [List.map_cons, List.map_nil])
      (try k_lt low)
      clear F4 N4 rg
      (try k_fold)
      k_steps
      all_goals (refine Mine.Stop.go ?_; (rename News _ _ _ _ => nE'); refine kst_end ⟨_, _⟩ (by assumption) nE' (by first | kst_in | kst_inAny) (by first | (intro p hp; kst_mem) | kst_anyIn) (by rfl) trivial (by kst_all) (by kst_same) ?_)
      · exact Mine.sg_hi hk hw (by assumption)
      · exact Mine.sg_lo hk hw (by assumption)
    case done =>
      rintro ⟨w1, tw1⟩ u2 h tk hw1 F5 N5
      dsimp only at hw1
      have hwW1 := Mine.sgX_wd l1 l1.length
      rw [← hw1] at hwW1
      (try dsimp only [kstB] at F5)
      clear F4 N4 rg
      (try k_fold)
      k_steps
      refine Mine.Stop.go ?_
      rename IsRange _ _ _ _ _ _ _ _ => rg
      rename Fr _ _ _ _ => F6
      rename News _ _ _ _ => N6
      rename IntsAre _ (List.drop (((os.length / 16 * 16 : Nat) : Int) + 8).toNat os) => hIl2
      generalize hl2 : List.drop (((os.length / 16 * 16 : Nat) : Int) + 8).toNat os = l2 at *
      have hin2 : KBa.In l2 := by rw [← hl2]; exact fun n hn => hoc n (List.mem_of_mem_drop hn)
      have hlen2 : l2.length ≤ 8 := by rw [← hl2, List.length_drop]; omega
      refine' Mine.lp_range (σ := Int × Tok) (n := l2.length) (fun c => [(Str.ofString "word", .int c.1 c.2)]) [] (fun i c => c.1 = Mine.sgX l2 i) (0, _) (by rfl) rg ?hs ?hn F6 N6 ?hk ?hp ?turn ?done
      case hs => exact small_one (by omega) (by omega) (by omega) (by omega)
      case hn => exact rangeSize_nat _ _
      case hk => kst_all
      case hp => rfl
      case turn =>
        rintro I ⟨w, tw⟩ i k t u h tk low hk hi hw F7 N7
        dsimp only at hw
        have hwW := Mine.sgX_wd l2 i
        rw [← hw] at hwW
        have hk0 : 0 ≤ k := by omega
        have hk1 : k < l2.length := by omega
        have hk2 : k < 8 := by omega
        have hb := Mine.in_get hin2 hk0 hk1
        (try dsimp only [kstB] at F7)
        (try simp only [List.map_cons, List.map_nil])
        (try k_lt low)
        clear F6 N6 rg
        (try k_fold)
        k_steps
        all_goals (refine Mine.Stop.go ?_; (rename News _ _ _ _ => nE'); refine kst_end ⟨_, _⟩ (by assumption) nE' (by first | kst_in | kst_inAny) (by first | (intro p hp; kst_mem) | kst_anyIn) (by rfl) trivial (by kst_all) (by kst_same) ?_)
        · exact Mine.sg_hi hk hw (by assumption)
        · exact Mine.sg_lo hk hw (by assumption)
      case done =>
        rintro ⟨w2, tw2⟩ u3 h tk hw2 F7 N7
        dsimp only at hw2
        have hwW2 := Mine.sgX_wd l2 l2.length
        rw [← hw2] at hwW2
        (try dsimp only [kstB] at F7)
        clear F6 N6 rg
        (try k_fold)
        k_steps
        refine Mine.Stop.go ?_
        rename Fr _ _ _ _ => F8
        rename News _ _ _ _ => N8
        refine Mine.cut_int (Mine.hash os) F8 N8 ?walk ?cont
        case cont =>
          intro t h tk Fm Nm
          have hd := Mine.law_due (w1 := w1) (w2 := w2) hf hg (by rw [← Mine.tl1_is, hl1]; exact hw1) (by rw [← Mine.tl2_is, hl2]; exact hw2)
          rw [hd] at Fm
          clear hd
          (try k_fold)
          k_steps
        case walk =>
          have hby := KBa.ints_make hoc
          have ent77 : Mine.Entered 77 := ⟨⟩
          k_steps
          refine Mine.Stop.go ?_
          rename Fr _ _ _ _ => F9
          rename News _ _ _ _ => N9
          refine Mine.cut_tup os F9 N9 ?walkB ?contB
          case walkB =>
            have ent49 : Mine.Entered 49 := ⟨⟩
            k_steps
            · refine Mine.Stop.go ?_
              rename KBw.bInts (KBy.picked _ none _) = _ => hpk
              rw [Mine.clip16] at hpk
              rename Fr _ _ _ _ => G1
              rename News _ _ _ _ => G2
              refine Mine.call_unpack G1 G2 (Mine.fmtQ_at _ (by assumption) hlen) Mine.codesQ rfl ?sz ?ln ?_
              case sz =>
                rw [Mine.size_of hpk, List.length_take]
                show _ = 16 * (os.length / 16)
                omega
              case ln =>
                show ((List.range _).map _).length ≤ 1000
                rw [List.length_map, List.length_range]
                omega
              intro Db vb hb' tkb Fb Nb lb hIb
              rw [Mine.itemsQ hpk] at hIb
              have lb0 := lb
              (try k_lt lb)
              clear G1 G2 hpk
              k_steps
              refine Mine.Stop.go ?_
              rename KBw.bInts (KBy.picked _ (some _) none) = _ => hpk
              rw [Mine.clip16, List.take_of_length_le (Nat.le_of_eq List.length_drop)] at hpk
              rename Fr _ _ _ _ => G1
              rename News _ _ _ _ => G2
              refine Mine.call_unpack G1 G2 (Mine.fmtB_at _) Mine.codesB rfl ?sz2 ?ln2 ?_
              case sz2 =>
                rw [Mine.size_of hpk, List.length_drop]
                show _ = os.length % 16
                omega
              case ln2 =>
                show ((List.range _).map _).length ≤ 1000
                rw [List.length_map, List.length_range]
                omega
              intro Dt vt ht' tkt Ft Nt lt9 hIt
              rw [Mine.itemsB hpk] at hIt
              have lt0 := lt9 _ (List.mem_cons_self ..)
              (try k_lt lt9)
              clear G1 G2 hpk
              k_steps
              refine Mine.RetB.mk (by assumption) (by assumption) (by lcg_sub) hIb hIt lb0 lt0 (by omega)
            · refine Mine.Stop.go ?_
              rename KBw.bInts (KBy.picked _ (some _) none) = _ => hpk
              rw [Mine.clip16, List.take_of_length_le (Nat.le_of_eq List.length_drop)] at hpk
              rename Fr _ _ _ _ => G1
              rename News _ _ _ _ => G2
              refine Mine.call_unpack G1 G2 (Mine.fmtB_at _) Mine.codesB rfl ?sz3 ?ln3 ?_
              case sz3 =>
                rw [Mine.size_of hpk, List.length_drop]
                show _ = os.length % 16
                omega
              case ln3 =>
                show ((List.range _).map _).length ≤ 1000
                rw [List.length_map, List.length_range]
                omega
              intro Dt vt ht' tkt Ft Nt lt9 hIt
              rw [Mine.itemsB hpk] at hIt
              have lt0 := lt9 _ (List.mem_cons_self ..)
              (try k_lt lt9)
              clear G1 G2 hpk
              k_steps
              refine Mine.RetB.mk (vb := []) (by assumption) (by assumption) (by lcg_sub) (by rw [Mine.qItems_nil (by omega)]; exact .nil) hIt (by simp only [List.forall_mem_cons, List.not_mem_nil, false_implies, implies_true, and_true]; omega) lt0 (by omega)
          case contB =>
            intro r tb tt vb vt tl h tk Fc Nc hIb hIt lb lt1 lr
            (try k_lt lb)
            have hlb : vb.length = 2 * (os.length / 16) := by rw [hIb.length]; simp [Mine.qItems]
            have hlt : vt.length = os.length % 16 := by rw [hIt.length]; simp only [Mine.bItems, List.length_map, List.length_drop]; omega
            (try k_fold)
            k_steps
            refine Mine.Stop.go ?_
            rename IsRange _ _ _ _ _ _ _ _ => rg
            rename Fr _ _ _ _ => Fd
            rename News _ _ _ _ => Nd
            refine' Mine.lp_range (σ := Int × Tok × Int × Tok) (n := os.length / 16) (fun c => [(Str.ofString "h1", .int c.1 c.2.1), (Str.ofString "h2", .int c.2.2.1 c.2.2.2)]) [Str.ofString "k1", Str.ofString "k2"]
              (fun i c => (c.1 % 18446744073709551616 = (Mine.lawSt os i).1 ∧ c.2.2.1 % 18446744073709551616 = (Mine.lawSt os i).2) ∧ Builtin.Int.intBits c.1 ≤ 300 + 250 * i ∧ Builtin.Int.intBits c.2.2.1 ≤ 300 + 250 * i) (0, _, 0, _) (by rfl) rg ?hs ?hn Fd Nd ?hk ?hp ?turn ?done
            case hs => exact Mine.small2 (by omega)
            case hn => exact Mine.size2 _
            case hk => kst_all
            case hp => exact ⟨⟨rfl, rfl⟩, Mine.bits_nil _, Mine.bits_nil _⟩
            case turn =>
              rintro I ⟨x1, tx1, x2, tx2⟩ i k t u h tk low hk hi ⟨⟨e1, e2⟩, hbb⟩ Fe Ne
              dsimp only at e1 e2 hbb
              have b1n : Builtin.Int.intBits x1 ≤ 1100 := by omega
              have b2n : Builtin.Int.intBits x2 ≤ 1100 := by omega
              have hk0 : 0 ≤ k := by omega
              have hk1 : k + 1 < ((2 * (os.length / 16) : Nat) : Int) := by omega
              have q1 : Builtin.Int.intBits ((Mine.qItems os).getD k.toNat 0) ≤ 64 := Mine.q_bits hoc (by omega)
              have q2 : Builtin.Int.intBits ((Mine.qItems os).getD (k + 1).toNat 0) ≤ 64 := Mine.q_bits hoc (by omega)
              (try dsimp only [kstB] at Fe)
              (try simp only [List.map_cons, List.map_nil])
              (try k_lt low)
              clear Fd Nd rg
              (try k_fold)
              k_steps
              refine Mine.Stop.go ?_
              (rename News _ _ _ _ => nE')
              refine kst_end ⟨_, _, _, _⟩ (by assumption) nE' (by first | kst_in | kst_inAny) (by first | (intro p hp; kst_mem) | kst_anyIn) (by rfl) trivial (by kst_all) (by kst_same) ?_
              refine ⟨Mine.mur_turn hoc hk hi e1 e2, ?_, ?_⟩
              · obtain ⟨b1, b2⟩ := hbb
                clear b1n b2n
                exact Nat.le_trans (by bits_by_make) (by omega)
              · obtain ⟨b1, b2⟩ := hbb
                clear b1n b2n
                exact Nat.le_trans (by bits_by_make) (by omega)
            case done =>
              rintro ⟨x1, tx1, x2, tx2⟩ u4 h tk ⟨⟨e1, e2⟩, b1, b2⟩ Fe Ne
              dsimp only at e1 e2 b1 b2
              have b1n : Builtin.Int.intBits x1 ≤ 1100 := by omega
              have b2n : Builtin.Int.intBits x2 ≤ 1100 := by omega
              (try dsimp only [kstB] at Fe)
              clear Fd Nd rg b1 b2
              (try k_fold)
              k_steps
              · refine Mine.Stop.go ?_
                rename IsRange _ _ _ _ _ _ _ _ => rg
                rename Fr _ _ _ _ => Fd
                rename News _ _ _ _ => Nd
                refine' Mine.lp_range (σ := Int × Tok) (n := (Mine.tl2 os).length) (fun c => [(Str.ofString "k2", .int c.1 c.2)]) [] (fun j c => Mine.Dn (Mine.tl2 os) j c.1) (0, _) (by rfl) rg ?hs ?hn Fd Nd ?hk ?hp ?turn ?done
                case hs => exact small_down (by omega) (by omega) (by omega) (by omega)
                case hn => rw [rangeSize_down, Mine.tl2_len]; split <;> omega
                case hk => kst_all
                case hp => exact Mine.Dn.start _
                case turn =>
                  rintro I ⟨x, tx⟩ i k t u h tk low hk hi hD Fg Ng
                  dsimp only at hD
                  have hl8 := Mine.tl2_len os
                  have hkn : k.toNat = ((Mine.tl2 os).length - 1 - i) + 8 := by omega
                  have hk0 : 8 ≤ k := by omega
                  have hk1 : k < ((os.length % 16 : Nat) : Int) := by omega
                  have hk2 : k < 16 := by omega
                  have hb := hD.bits
                  have hq := Mine.b_bits hoc k.toNat
                  (try dsimp only [kstB] at Fg)
                  (try simp only [List.map_cons, List.map_nil])
                  (try k_lt low)
                  clear Fd Nd rg
                  (try k_fold)
                  k_steps
                  refine Mine.Stop.go ?_
                  (rename News _ _ _ _ => nE')
                  refine kst_end ⟨_, _⟩ (by assumption) nE' (by first | kst_in | kst_inAny) (by first | (intro p hp; kst_mem) | kst_anyIn) (by rfl) trivial (by kst_all) (by kst_same) ?_
                  exact Mine.Dn.step (Mine.tl2_in hoc) (by omega) hi hD (by rw [hkn, Mine.b_tl2]) (by omega)
                case done =>
                  rintro ⟨y2, ty2⟩ u6 h tk hD Fg Ng
                  dsimp only at hD
                  have m2 := hD.fin
                  have hb2 := hD.bits
                  (try dsimp only [kstB] at Fg)
                  clear Fd Nd rg hD
                  (try k_fold)
                  k_steps
                  · refine Mine.Stop.go ?_
                    rename IsRange _ _ _ _ _ _ _ _ => rg
                    rename Fr _ _ _ _ => Fd
                    rename News _ _ _ _ => Nd
                    refine' Mine.lp_range (σ := Int × Tok) (n := (Mine.tl1 os).length) (fun c => [(Str.ofString "k1", .int c.1 c.2)]) [] (fun j c => Mine.Dn (Mine.tl1 os) j c.1) (0, _) (by rfl) rg ?hs ?hn Fd Nd ?hk ?hp ?turn ?done
                    case hs => exact small_down (by omega) (by omega) (by omega) (by omega)
                    case hn => rw [rangeSize_down, Mine.tl1_len]; split <;> omega
                    case hk => kst_all
                    case hp => exact Mine.Dn.start _
                    case turn =>
                      rintro I ⟨x, tx⟩ i k t u h tk low hk hi hD Fg Ng
                      dsimp only at hD
                      have hl8 := Mine.tl1_len os
                      have hkn : k.toNat = (Mine.tl1 os).length - 1 - i := by omega
                      have hk0 : 0 ≤ k := by omega
                      have hk1 : k < ((os.length % 16 : Nat) : Int) := by omega
                      have hk2 : k < 8 := by omega
                      have hb := hD.bits
                      have hq := Mine.b_bits hoc k.toNat
                      (try dsimp only [kstB] at Fg)
                      (try simp only [List.map_cons, List.map_nil])
                      (try k_lt low)
                      clear Fd Nd rg
                      (try k_fold)
                      k_steps
                      refine Mine.Stop.go ?_
                      (rename News _ _ _ _ => nE')
                      refine kst_end ⟨_, _⟩ (by assumption) nE' (by first | kst_in | kst_inAny) (by first | (intro p hp; kst_mem) | kst_anyIn) (by rfl) trivial (by kst_all) (by kst_same) ?_
                      exact Mine.Dn.step (Mine.tl1_in hoc) (by omega) hi hD (by rw [Mine.b_tl1 (by omega), hkn]) (by omega)
                    case done =>
                      rintro ⟨y1, ty1⟩ u5 h tk hD Fg Ng
                      dsimp only at hD
                      have m1 := hD.fin
                      have hb1 := hD.bits
                      (try dsimp only [kstB] at Fg)
                      clear Fd Nd rg hD
                      (try k_fold)
                      k_steps
                      exact Mine.RetI.mk (Mine.mur_end (Mine.half1_yes hlen e1 m1) (Mine.half2_yes hlen e2 m2)) (by assumption) (by assumption) (by lcg_sub)
                  · exfalso
                    omega
              · refine Mine.Stop.go ?_
                rename IsRange _ _ _ _ _ _ _ _ => rg
                rename Fr _ _ _ _ => Fd
                rename News _ _ _ _ => Nd
                refine' Mine.lp_range (σ := Int × Tok) (n := (Mine.tl1 os).length) (fun c => [(Str.ofString "k1", .int c.1 c.2)]) [] (fun j c => Mine.Dn (Mine.tl1 os) j c.1) (0, _) (by rfl) rg ?hs ?hn Fd Nd ?hk ?hp ?turn ?done
                case hs => exact small_down (by omega) (by omega) (by omega) (by omega)
                case hn => rw [rangeSize_down, Mine.tl1_len]; split <;> omega
                case hk => kst_all
                case hp => exact Mine.Dn.start _
                case turn =>
                  rintro I ⟨x, tx⟩ i k t u h tk low hk hi hD Fg Ng
                  dsimp only at hD
                  have hl8 := Mine.tl1_len os
                  have hkn : k.toNat = (Mine.tl1 os).length - 1 - i := by omega
                  have hk0 : 0 ≤ k := by omega
                  have hk1 : k < ((os.length % 16 : Nat) : Int) := by omega
                  have hk2 : k < 8 := by omega
                  have hb := hD.bits
                  have hq := Mine.b_bits hoc k.toNat
                  (try dsimp only [kstB] at Fg)
                  (try simp only [List.map_cons, List.map_nil])
                  (try k_lt low)
                  clear Fd Nd rg
                  (try k_fold)
                  k_steps
                  refine Mine.Stop.go ?_
                  (rename News _ _ _ _ => nE')
                  refine kst_end ⟨_, _⟩ (by assumption) nE' (by first | kst_in | kst_inAny) (by first | (intro p hp; kst_mem) | kst_anyIn) (by rfl) trivial (by kst_all) (by kst_same) ?_
                  exact Mine.Dn.step (Mine.tl1_in hoc) (by omega) hi hD (by rw [Mine.b_tl1 (by omega), hkn]) (by omega)
                case done =>
                  rintro ⟨y1, ty1⟩ u5 h tk hD Fg Ng
                  dsimp only at hD
                  have m1 := hD.fin
                  have hb1 := hD.bits
                  (try dsimp only [kstB] at Fg)
                  clear Fd Nd rg hD
                  (try k_fold)
                  k_steps
                  exact Mine.RetI.mk (Mine.mur_end (Mine.half1_yes hlen e1 m1) (Mine.half2_no hlen e2 (by omega))) (by assumption) (by assumption) (by lcg_sub)
              · exact Mine.RetI.mk (Mine.mur_end (Mine.half1_no hlen e1 (by omega)) (Mine.half2_no hlen e2 (by omega))) (by assumption) (by assumption) (by lcg_sub)
