import PyProof.Rows.All
import Wide.All
import OpenK.AllK
import Wide.FinOn
import Lean
import PySem.Challenge.RW_ar0009_01
open PySem PySem.W PyProof.Rows
set_option Elab.async false
set_option maxRecDepth 100000 in
set_option maxHeartbeats 8000000 in
open_top hd1 for PySem.Challenge.rw_ar0009_01

section
open PySem PySem.W PySem.Calls PyProof.Rows
set_option Elab.async false
set_option maxRecDepth 100000
namespace Mine
structure Base (w : World) (mg mb : Str → Option Value) (h : Heap) : Prop where
  K : (hd1.heap_39 w.params).In h
  T : TopRead hd1.view_39 (looseW hd1.view_39 []) mg mb h

theorem Base.keeps {w : World} {mg mb} {h h' : Heap} (B : Base w mg mb h) (hk : h.StaysIn h') : Base w mg mb h' := ⟨B.K.keeps hk, B.T.keeps hk⟩

abbrev At (dp un : Nat) (fr : Option (List Env)) (gd : Option (List Code)) : Around := { handled := none, depth := dp, frames := fr, guards := gd, units := un }

theorem call_pure {prog : Program} {w : World} {A : Around} {s : Shared} {K : Frag} {Q E : Value → Shared → Prop}
   {name qual : Str} {params : Arguments} {body : List Stmt} {scope : Scope} {dV kV doc pm cdv ct oc : Value} {an od : Option Addr} {osl : Array (Option Value)} {f : Addr} {args : List Value} {binds : List (Str × Value)}
   (X : K.In s.heap) (hlim : s.heap.NoLimit) (hroom : A.depth < recursionLimit)
   (ho : K.lookup f = some ⟨oc, od, .func (fnOf name qual params body scope dV kV doc pm an cdv ct), osl⟩) (hcd : codeIn K cdv qual = true)
   (hbind : BindsTo s (fnOf name qual params body scope dV kV doc pm an cdv ct) ⟨args, []⟩ binds) (hloc : ∀ y ∈ binds, scope.names.lookup y.1 = some .local)
   (h : ∀ L h₁, Fr s.heap L h₁ (fun y => binds.reverse.lookup y) → News s.heap L h₁ [] →
      wpAny (model prog w) (A.deeper (envOf qual scope L f cdv)) (execs body (envOf qual scope L f cdv))
        (fun fl s' => Q (match fl with | .ret v => v | _ => .none) s') (fun _ _ => False) { s with heap := h₁, toks := s.toks + binds.length })
   (hcell : ∀ x ∈ scope.names, x.2 ≠ .cell := by decide) (hco : scope.isCoroutine = false := by rfl) (hgen : scope.isGenerator = false := by rfl) (hk : scope.kind = .function := by rfl) :
   wpAny (model prog w) A (call (.ref f) args) Q E s := by
  refine wpAny_call ?_
  refine codeAny_call_def (fd := fnOf name qual params body scope dV kV doc pm an cdv ct) (body := body) (binds := binds) hroom (X _ _ ho) rfl hlim (codeRec_of X hcd) rfl hbind hcell hloc (fun h₁ hns hk₁ => ?_) hco hgen hk
  exact wpAny_mono (h _ h₁ ⟨hns, hk₁, Nat.le_refl _⟩ News.nil) (fun fl s' q => q) fun _ _ q => q.elim
end Mine
end

section
open PySem PySem.W PySem.Calls PyProof.Rows
set_option Elab.async false
set_option maxRecDepth 100000
namespace Mine
theorem nat_xor_add_and (m : Nat) : ∀ n : Nat, (m ^^^ n) + 2 * (m &&& n) = m + n := by
  induction m using Nat.strongRecOn with
  | ind m ih =>
    intro n
    by_cases h0 : m = 0
    · subst h0; simp
    · have ih' := ih (m / 2) (by omega) (n / 2)
      rw [← Nat.xor_div_two, ← Nat.and_div_two] at ih'
      have o1 := @Nat.xor_mod_two_eq_one m n
      have a1 := @Nat.and_mod_two_eq_one m n
      omega
theorem bitAnd_nat (a b : Nat) : Builtin.bitAnd (Int.ofNat a) (Int.ofNat b) = Int.ofNat (a &&& b) := by
  exact bitAnd_pp (Int.natCast_nonneg a) (Int.natCast_nonneg b)
theorem bitXor_nat (a b : Nat) : Builtin.bitXor (Int.ofNat a) (Int.ofNat b) = Int.ofNat (a ^^^ b) := by
  rw [bitXor_and, bitAnd_nat]
  have := nat_xor_add_and a b
  simp only [Int.ofNat_eq_natCast]
  omega
theorem fdiv_nat (a k : Nat) : (Int.ofNat a).fdiv (2 ^ k) = Int.ofNat (a >>> k) := by
  rw [Nat.shiftRight_eq_div_pow]
  show Int.fdiv (a : Int) _ = ((a / 2 ^ k : Nat) : Int)
  have h2 : (0 : Int) ≤ 2 ^ k := Int.le_of_lt (Int.pow_pos (by decide))
  rw [Int.fdiv_eq_ediv_of_nonneg _ h2]
  rw [Int.natCast_ediv, Int.natCast_pow]
  rfl
theorem mulPow_nat (a k : Nat) : (Int.ofNat a) * 2 ^ k = Int.ofNat (a <<< k) := by
  rw [Nat.shiftLeft_eq]
  show (a : Int) * _ = ((a * 2 ^ k : Nat) : Int)
  rw [Int.natCast_mul, Int.natCast_pow]; rfl

section
variable {prog : Program} {w : World} {A : Around} {E : Value → Shared → Prop} {s : Shared} {x y : Int} {a b : Nat} {t u : Tok} {Q : Value → Shared → Prop}
theorem and_nat (hx : x = Int.ofNat a) (hy : y = Int.ofNat b) (h : Q (.int (Int.ofNat (a &&& b)) s.toks) { s with toks := s.toks + 1 }) : wpAny (model prog w) A (binaryOp .BitAnd (.int x t) (.int y u)) Q E s := by
  subst hx hy; exact and_int (by rw [bitAnd_nat]; exact h)
theorem xor_nat (hx : x = Int.ofNat a) (hy : y = Int.ofNat b) (h : Q (.int (Int.ofNat (a ^^^ b)) s.toks) { s with toks := s.toks + 1 }) : wpAny (model prog w) A (binaryOp .BitXor (.int x t) (.int y u)) Q E s := by
  subst hx hy; exact xor_int (by rw [bitXor_nat]; exact h)
theorem ixor_nat (hx : x = Int.ofNat a) (hy : y = Int.ofNat b) (h : Q (.int (Int.ofNat (a ^^^ b)) s.toks) { s with toks := s.toks + 1 }) : wpAny (model prog w) A (inplaceOp .BitXor (.int x t) (.int y u)) Q E s := by
  subst hx hy; exact ixor_int (by rw [bitXor_nat]; exact h)
theorem shr_nat (hx : x = Int.ofNat a) (hy : y = Int.ofNat b) (h : Q (.int (Int.ofNat (a >>> b)) s.toks) { s with toks := s.toks + 1 }) : wpAny (model prog w) A (binaryOp .RShift (.int x t) (.int y u)) Q E s := by
  subst hx hy
  refine rshift_int (Int.natCast_nonneg b) ?_
  rw [show (2 : Int) ^ (Int.toNat (Int.ofNat b)) = 2 ^ b from rfl, fdiv_nat]; exact h
theorem shl_nat (hx : x = Int.ofNat a) (hy : y = Int.ofNat b) (hb : b ≤ 1000000) (ha : a < 2 ^ 64) (h : Q (.int (Int.ofNat (a <<< b)) s.toks) { s with toks := s.toks + 1 }) : wpAny (model prog w) A (binaryOp .LShift (.int x t) (.int y u)) Q E s := by
  subst hx hy
  refine lshift_int_small (Int.natCast_nonneg b) (by simp only [Int.ofNat_eq_natCast]; omega) ha ?_
  rw [show (2 : Int) ^ (Int.toNat (Int.ofNat b)) = 2 ^ b from rfl, mulPow_nat]; exact h
end
abbrev nInts (ns : List Nat) : List Int := ns.map Int.ofNat
/-- the call gives a new list of these ints, all else stays -/
abbrev RetInts (s : Shared) (Q : Value → Shared → Prop) (ns : List Nat) : Prop :=
  ∀ r vs n h' tk', s.heap.StaysIn h' → s.heap.get? r = none → h'.get? r = some (W.listOf vs.toArray n) → IntsAre vs (nInts ns) → Q (.ref r) { s with heap := h', toks := tk' }
theorem and25_lt (c : Nat) : c &&& 33554431 < 2 ^ 64 := Nat.lt_of_le_of_lt Nat.and_le_right (by decide)
end Mine
end

section
open PySem PySem.W PySem.Calls PyProof.Rows
set_option Elab.async false
set_option maxRecDepth 100000
namespace Mine
section
variable {prog : Program} {w : World} {A : Around} {E : Value → Shared → Prop} {s : Shared} {h₀ : Heap} {L : Addr} {m : Str → Option Value} {news : List (Addr × Obj)} {env : Env}

/-- what the element is asked: from any later state of the block it gives y with G a y, and nothing is lost -/
def EltOk {α : Type} (prog : Program) (w : World) (A : Around) (env : Env) (scope : Scope) (cl : List (Str × Addr)) (x : Str) (elt : Expr) (Rel : Value → α → Prop) (as : List α) (G : α → Value → Prop) (s₁ : Shared) : Prop :=
  ∀ C a v (s₃ : Shared) m₃ E', a ∈ as → Rel v a → Fr s₁.heap C s₃.heap m₃ → m₃ x = some v → wpAny (model prog w) A (eval elt (compEnvC scope cl C env)) (fun y s₄ => G a y ∧ Keeps s₃ s₄) E' s₃

theorem paired_as {α : Type} {Rel : Value → α → Prop} {G : α → Value → Prop} (hf : ∀ v a b, Rel v a → Rel v b → a = b) : ∀ {vs : List Value} {as : List α} {ys : List Value},
    Paired (fun v y => ∃ a, a ∈ as ∧ Rel v a ∧ G a y) vs ys → ∀ {bs : List α}, vs.length = bs.length → (∀ (j : Nat) (v : Value), vs[j]? = some v → ∃ a, bs[j]? = some a ∧ Rel v a) → Paired G bs ys := by
  intro vs as ys h
  induction h with
  | nil =>
    intro bs hl _
    cases bs with
    | nil => exact .nil
    | cons b r => cases hl
  | @cons v y vs ys hv _ ih =>
    intro bs hl hg
    cases bs with
    | nil => cases hl
    | cons b r =>
      obtain ⟨a, h1, h2⟩ := hg 0 v rfl
      cases h1
      obtain ⟨a', _, h3, h4⟩ := hv
      cases hf _ _ _ h2 h3
      refine .cons h4 (ih (by simpa using hl) fun j u hu => ?_)
      simpa using hg (j + 1) u (by simpa using hu)

theorem comp_core {α : Type} {Rel : Value → α → Prop} {G : α → Value → Prop} {as : List α} (hf : ∀ v a b, Rel v a → Rel v b → a = b) {elt iter : Expr} {x : Str} {px : Pos} {scope : Scope} {cl : List (Str × Addr)} {pos : Pos} {Q : Value → Shared → Prop} (_F : Fr h₀ L s.heap m) (_N : News h₀ L s.heap news)
    (hclos : closureFor scope env = pure cl) (hcell : ∀ y ∈ scope.names, y.2 ≠ .cell) (hkind : scope.kind = .function)
    (hnames : ∀ y ∈ scope.names, y.2 = .local → scope.names.lookup y.1 = some .local) (hx : scope.names.lookup x = some .local)
    (h : wpAny (model prog w) A (eval iter env) (fun xv s₁ => Fr h₀ L s₁.heap m ∧ News h₀ L s₁.heap news ∧ EltOk prog w A env scope cl x elt Rel as G s₁ ∧
      (∀ Q' E', (∀ (o : Obj) fp St, Walks prog w A s₁.heap.objs.size fp [s₁.heap.objs.size] as.length (fun i v => ∃ a, as[i]? = some a ∧ Rel v a) St → (∀ b ∈ fp, b < s₁.heap.objs.size + 1) → St 0 (s₁.heap.push o) →
         Q' (.ref s₁.heap.objs.size) { s₁ with heap := s₁.heap.push o }) → wpAny (model prog w) A (pyIter xv) Q' E' s₁) ∧ as.length ≤ sizeLine ∧
      (∀ D n h' tk' (ys : Array Value), Fr h₀ L h' m → News h₀ L h' ((D, W.listOf ys n) :: news) → Paired G as ys.toList → s₁.heap.StaysIn h' → s₁.heap.get? D = none → Q (.ref D) { s₁ with heap := h', toks := tk' })) E s)
    (hs : ∀ x, foldedSetIterable iter env x = pure x := by intro _; rfl) :
    wpAny (model prog w) A (eval (.ListComp elt [⟨.Name x px, iter, [], 0⟩] scope pos) env) Q E s := by
  refine wpAny_ListComp_free (fun _ => true) (fun v y => ∃ a, a ∈ as ∧ Rel v a ∧ G a y) hclos hcell hkind hnames hx (wpAny_mono h (fun xv s₁ h₁ => ?_) fun _ _ e => e) hs
  obtain ⟨F, N, hel, hit, hsz, hQ⟩ := h₁
  refine hit _ _ fun o fp St Wk hfp hst => ?_
  have up : ∀ (h' : Heap), (∀ b o', b ∉ [s₁.heap.objs.size] → (s₁.heap.push o).get? b = some o' → h'.get? b = some o') → ∀ b o', s₁.heap.get? b = some o' → h'.get? b = some o' :=
    fun h' hk b o' e => hk b o' (old_not_new e) (Heap.get?_push_of_some _ e)
  refine ⟨s₁.heap.objs.size, fp, [s₁.heap.objs.size], as.length, _, St, rfl, Wk, hsz, hst, ?_, ⟨?_, ?_⟩, ?_⟩
  · intro b hb
    show b < (s₁.heap.push o).objs.size
    rw [Heap.size_push]
    exact hfp b hb
  · intro C i v s₃ m₃ E' hC hP hn hm hk _
    exact wpAny_pure ⟨rfl, _, _, rfl, fun _ _ e => e⟩
  · rintro C i v s₃ m₃ E' hC ⟨a, ha, hr⟩ _ hn hm hk _
    have hC' : s₁.heap.objs.size ≤ C := by
      have : (s₁.heap.push o).objs.size ≤ C := hC
      rw [Heap.size_push] at this
      exact Nat.le_of_succ_le this
    exact wpAny_mono (hel C a v s₃ m₃ E' (List.mem_of_getElem? ha) hr ⟨hn, up _ hk, hC'⟩ hm) (fun y s₄ h₄ => ⟨⟨a, List.mem_of_getElem? ha, hr, h₄.1⟩, h₄.2⟩) fun _ _ e => e
  · rintro D h' tk ys vs hnew hlD ⟨n, hD⟩ hlen hP hF hk
    have keep := up h' hk
    have hD₁ : s₁.heap.get? D = none := by
      cases e : s₁.heap.get? D with
      | none => rfl
      | some o' => rw [show s₁.heap.push o = (s₁.heap.push o) from rfl] at hnew; rw [Heap.get?_push_of_some _ e] at hnew; cases hnew
    refine hQ D n h' tk ys (F.keeps keep) (fun p hp => ?_) (paired_as (as := as) hf (by rw [show vs.filter (fun _ => true) = vs from List.filter_eq_self.mpr fun _ _ => rfl] at hF; exact hF) hlen hP) keep hD₁
    rcases List.mem_cons.mp hp with rfl | hp
    · refine ⟨hD, ?_, ?_⟩
      · rintro rfl
        obtain ⟨oL, _, _, hL, _⟩ := F.ns
        rw [hD₁] at hL; cases hL
      · cases e : h₀.get? D with
        | none => rfl
        | some o' => rw [F.keep _ _ e] at hD₁; cases hD₁
    · exact ⟨keep _ _ (N p hp).1, (N p hp).2⟩

theorem news_new {h h' : Heap} {r : Addr} {o : Obj} (F : Fr h₀ L h m) (hr : h.get? r = none) (hg : h'.get? r = some o) (N : News h₀ L h' news) : News h₀ L h' ((r, o) :: news) := fun p hp => by
  rcases List.mem_cons.mp hp with rfl | hp
  · refine ⟨hg, ?_, ?_⟩
    · rintro rfl
      obtain ⟨oL, _, _, hL, _⟩ := F.ns
      rw [hr] at hL; cases hL
    · cases e : h₀.get? r with
      | none => rfl
      | some o' => rw [F.keep _ _ e] at hr; cases hr
  · exact N p hp
theorem comp_assign {α : Type} {Rel : Value → α → Prop} {G : α → Value → Prop} {as : List α} (hf : ∀ v a b, Rel v a → Rel v b → a = b) {elt iter : Expr} {x y : Str} {px py : Pos} {scope : Scope} {cl : List (Str × Addr)} {pos spos : Pos} {Q : Flow → Shared → Prop} (_F : Fr h₀ env.locals s.heap m) (_N : News h₀ env.locals s.heap news)
    (hsw : swapsWith (.ListComp elt [⟨.Name x px, iter, [], 0⟩] scope pos) (some (.Name y py)) spos.line env = pure true)
    (hclos : closureFor scope env = pure cl) (hcell : ∀ y ∈ scope.names, y.2 ≠ .cell) (hkind : scope.kind = .function)
    (hnames : ∀ y ∈ scope.names, y.2 = .local → scope.names.lookup y.1 = some .local) (hx : scope.names.lookup x = some .local)
    (hy : env.kindOf y = some .local) (hp : (env.scope.kind == .class || (env.scope.kind == .module && env.locals != env.globals)) = false)
    (h : wpAny (model prog w) A (eval iter env) (fun xv s₁ => Fr h₀ env.locals s₁.heap m ∧ News h₀ env.locals s₁.heap news ∧ EltOk prog w A env scope cl x elt Rel as G s₁ ∧
      (∀ Q' E', (∀ (o : Obj) fp St, Walks prog w A s₁.heap.objs.size fp [s₁.heap.objs.size] as.length (fun i v => ∃ a, as[i]? = some a ∧ Rel v a) St → (∀ b ∈ fp, b < s₁.heap.objs.size + 1) → St 0 (s₁.heap.push o) →
         Q' (.ref s₁.heap.objs.size) { s₁ with heap := s₁.heap.push o }) → wpAny (model prog w) A (pyIter xv) Q' E' s₁) ∧ as.length ≤ sizeLine ∧
      (∀ D n h' tk' (ys : Array Value), Fr h₀ env.locals h' (fun z => if z = y then some (.ref D) else m z) → News h₀ env.locals h' ((D, W.listOf ys n) :: news) → Paired G as ys.toList → Q .next { s₁ with heap := h', toks := tk' })) E s)
    (hs : ∀ x, foldedSetIterable iter env x = pure x := by intro _; rfl) :
    wpAny (model prog w) A (exec (.Assign [.Name y py] (.ListComp elt [⟨.Name x px, iter, [], 0⟩] scope pos) spos) env) Q E s := by
  refine wpAny_Assign_ListComp_free (fun _ => true) (fun v y => ∃ a, a ∈ as ∧ Rel v a ∧ G a y) hsw hclos hcell hkind hnames hx hy hp (wpAny_mono h (fun xv s₁ h₁ => ?_) fun _ _ e => e) hs
  obtain ⟨F, N, hel, hit, hsz, hQ⟩ := h₁
  refine hit _ _ fun o fp St Wk hfp hst => ?_
  have up : ∀ b o', s₁.heap.get? b = some o' → (s₁.heap.push o).get? b = some o' := fun b o' e => Heap.get?_push_of_some _ e
  have hLI : env.locals ≠ s₁.heap.objs.size := Nat.ne_of_lt F.ns.lt
  refine ⟨s₁.heap.objs.size, fp, [s₁.heap.objs.size], as.length, _, St, m, rfl, Wk, hsz, hst, ?_, (fun hm => hLI (List.mem_singleton.mp hm)), F.ns.keeps up, ⟨?_, ?_⟩, ?_⟩
  · intro b hb
    show b < (s₁.heap.push o).objs.size
    rw [Heap.size_push]
    exact hfp b hb
  · intro C i v s₃ m₃ E' hC hP hn hm hk _
    exact wpAny_pure ⟨rfl, _, _, rfl, fun _ _ e => e⟩
  · rintro C i v s₃ m₃ E' hC ⟨a, ha, hr⟩ _ hn hm hk _
    have hC' : s₁.heap.objs.size ≤ C := by
      have : (s₁.heap.push o).objs.size ≤ C := hC
      rw [Heap.size_push] at this
      exact Nat.le_of_succ_le this
    exact wpAny_mono (hel C a v s₃ m₃ E' (List.mem_of_getElem? ha) hr ⟨hn, (fun b o' e => hk b o' (old_not_new e) (up b o' e)), hC'⟩ hm) (fun y s₄ h₄ => ⟨⟨a, List.mem_of_getElem? ha, hr, h₄.1⟩, h₄.2⟩) fun _ _ e => e
  · rintro D h' tk ys vs hnew hlD ⟨n, hD⟩ hlen hP hF hnsL hk
    have keep : ∀ b o', b ≠ env.locals → s₁.heap.get? b = some o' → h'.get? b = some o' := fun b o' hb e => hk b o' hb (old_not_new e) (up b o' e)
    have hD₁ : s₁.heap.get? D = none := by
      cases e : s₁.heap.get? D with
      | none => rfl
      | some o' =>
        have := up D o' e
        rw [show ({ s₁ with heap := s₁.heap.push o } : Shared).heap.get? D = (s₁.heap.push o).get? D from rfl, this] at hnew; cases hnew
    have hL₀ : h₀.get? env.locals = none := Heap.get?_none_of_le F.above
    refine hQ D n h' tk ys ⟨hnsL, (fun b o' e => keep b o' (fun eb => by rw [eb, hL₀] at e; cases e) (F.keep b o' e)), F.above⟩ (fun p hp => ?_) (paired_as (as := as) hf (by rw [show vs.filter (fun _ => true) = vs from List.filter_eq_self.mpr fun _ _ => rfl] at hF; exact hF) hlen hP)
    rcases List.mem_cons.mp hp with rfl | hp
    · refine ⟨hD, ?_, ?_⟩
      · intro e
        obtain ⟨oL, _, _, hL, _⟩ := F.ns
        rw [← e, hD₁] at hL; cases hL
      · cases e : h₀.get? D with
        | none => rfl
        | some o' => rw [F.keep _ _ e] at hD₁; cases hD₁
    · exact ⟨keep _ _ (N p hp).2.1 (N p hp).1, (N p hp).2⟩
/-- a text's signs -/
def SignRel (v : Value) (c : Nat) : Prop := ∃ u, v = .str ⟨#[c]⟩ u
theorem signRel_inj (v : Value) (a b : Nat) (h1 : SignRel v a) (h2 : SignRel v b) : a = b := by
  obtain ⟨u, rfl⟩ := h1
  obtain ⟨u', e⟩ := h2
  injection e with e1 e2
  injection e1 with e1
  simpa using e1
/-- the source is a text -/
theorem comp_str {y : Str} {t : Tok} {s₁ : Shared} (hh : A.handled = none) :
    ∀ Q' E', (∀ (o : Obj) fp St, Walks prog w A s₁.heap.objs.size fp [s₁.heap.objs.size] y.cps.toList.length (fun i v => ∃ a, y.cps.toList[i]? = some a ∧ SignRel v a) St → (∀ b ∈ fp, b < s₁.heap.objs.size + 1) → St 0 (s₁.heap.push o) →
         Q' (.ref s₁.heap.objs.size) { s₁ with heap := s₁.heap.push o }) → wpAny (model prog w) A (pyIter (.str y t)) Q' E' s₁ := by
  intro Q' E' h
  refine wpAny_pyIter_str fun o St W hst => ?_
  have W' := W A hh
  refine h o [s₁.heap.objs.size] St ?_ (fun b hb => by rw [List.mem_singleton.mp hb]; exact Nat.lt_succ_self _) hst
  have hl : y.cps.toList.length = y.cps.size := by simp
  rw [hl]
  exact ⟨W'.sub, W'.frame, fun i s Q E hi st hQ => W'.item i s Q E hi st fun v hh' tkk hP => hQ v hh' tkk (by obtain ⟨c, u, hc, rfl⟩ := hP; exact ⟨c, by simpa using hc, u, rfl⟩), W'.done, W'.self⟩
/-- the source is a list -/
theorem comp_list {α : Type} {Rel : Value → α → Prop} {as : List α} {l : Addr} {vs : List Value} {s₁ : Shared} (hh : A.handled = none) (hl : s₁.heap.IsList l vs.toArray) (hr : Paired Rel vs as) :
    ∀ Q' E', (∀ (o : Obj) fp St, Walks prog w A s₁.heap.objs.size fp [s₁.heap.objs.size] as.length (fun i v => ∃ a, as[i]? = some a ∧ Rel v a) St → (∀ b ∈ fp, b < s₁.heap.objs.size + 1) → St 0 (s₁.heap.push o) →
         Q' (.ref s₁.heap.objs.size) { s₁ with heap := s₁.heap.push o }) → wpAny (model prog w) A (pyIter (.ref l)) Q' E' s₁ := by
  intro Q' E' h
  have hlt : l < s₁.heap.objs.size := by obtain ⟨_, e, _⟩ := hl; exact Heap.lt_size e
  refine wpAny_pyIter_list hl ?_
  have W' := Walks.list (prog := prog) (w := w) hh s₁.heap.objs.size l (Nat.ne_of_lt hlt) vs.toArray
  have hlen : vs.toArray.size = as.length := by simp [hr.length]
  rw [hlen] at W'
  have key : ∀ (i : Nat) (v : Value), vs[i]? = some v → ∃ a, as[i]? = some a ∧ Rel v a := by
    clear h W' hlen hl
    induction hr with
    | nil => intro i v e; cases e
    | @cons v a vs as h1 _ ih =>
      intro i u e
      cases i with
      | zero => cases e; exact ⟨a, rfl, h1⟩
      | succ i => exact ih i u e
  refine h _ [s₁.heap.objs.size, l] _ ⟨W'.sub, W'.frame, fun i s Q E hi st hQ => W'.item i s Q E hi st fun v hh' tkk hP => hQ v hh' tkk (key i v (by simpa using hP)), W'.done, W'.self⟩ ?_ ⟨⟨_, Heap.get?_push_size _ rfl, rfl, rfl⟩, hl.push _⟩
  intro b hb
  rcases List.mem_cons.mp hb with rfl | hb
  · exact Nat.lt_succ_self _
  · rw [List.mem_singleton.mp hb]; exact Nat.lt_succ_of_lt hlt
def IntRel (v : Value) (a : Int) : Prop := ∃ t, v = .int a t
theorem intRel_inj (v : Value) (a b : Int) (h1 : IntRel v a) (h2 : IntRel v b) : a = b := by
  obtain ⟨u, rfl⟩ := h1
  obtain ⟨u', e⟩ := h2
  injection e
/-- the source is a range by ones -/
theorem comp_range {r : Addr} {a b : Int} {t u v : Tok} {n : Nat} {s₁ : Shared} (hh : A.handled = none) (hr : IsRange s₁.heap r a b 1 t u v) (hsm : Builtin.Range.small a b 1 = true) (hn : Builtin.Range.rangeSize a b 1 = ((n : Nat) : Int)) :
    ∀ Q' E', (∀ (o : Obj) fp St, Walks prog w A s₁.heap.objs.size fp [s₁.heap.objs.size] (rangeKs a n).length (fun i v => ∃ k, (rangeKs a n)[i]? = some k ∧ IntRel v k) St → (∀ b ∈ fp, b < s₁.heap.objs.size + 1) → St 0 (s₁.heap.push o) →
         Q' (.ref s₁.heap.objs.size) { s₁ with heap := s₁.heap.push o }) → wpAny (model prog w) A (pyIter (.ref r)) Q' E' s₁ := by
  intro Q' E' h
  refine wpAny_pyIter_range hr hsm ?_
  have W' := PyProof.Rows.LCg.range_walks (prog := prog) (w := w) (I := s₁.heap.objs.size) hh a n
  refine h _ [s₁.heap.objs.size] (fun i h => IsRangeIter h s₁.heap.objs.size (a + (i : Nat) * 1) ((n : Int) - (i : Nat)) 1) ?_ (fun b hb => by rw [List.mem_singleton.mp hb]; exact Nat.lt_succ_self _) ?_
  · rw [rangeKs_length]
    exact ⟨W'.sub, W'.frame, fun i s Q E hi st hQ => W'.item i s Q E hi st fun v hh' tkk hP => hQ v hh' tkk ⟨_, by simp [rangeKs, hi], hP⟩, W'.done, W'.self⟩
  · show IsRangeIter _ _ _ _ _
    rw [hn]; simpa using Heap.get?_push_size _ rfl

theorem paired_one {α : Type} {G : α → Value → Prop} {a : α} {ys : Array Value} (h : Paired G [a] ys.toList) : ∃ y, G a y ∧ ys = #[y] := by
  generalize e : ys.toList = l at h
  cases h with
  | cons h1 h2 =>
    cases h2
    exact ⟨_, h1, by rw [← Array.toArray_toList (xs := ys), e]⟩
theorem paired_ints {vs : List Value} {ns : List Int} (h : IntsAre vs ns) : Paired IntRel vs ns := by
  induction h with
  | nil => exact .nil
  | cons n t _ ih => exact .cons ⟨t, rfl⟩ ih
theorem ints_of_paired {α : Type} {G : α → Value → Prop} {f : α → Int} (hg : ∀ a y, G a y → ∃ t, y = .int (f a) t) : ∀ {as : List α} {ys : List Value}, Paired G as ys → IntsAre ys (as.map f) := by
  intro as ys h
  induction h with
  | nil => exact .nil
  | cons h1 _ ih => obtain ⟨t, rfl⟩ := hg _ _ h1; exact .cons _ t ih
end

section
variable {M : Model} {A : Around} {E : Value → Shared → Prop} {s : Shared} {K : Frag} {h₀ : Heap} {L C : Addr} {m mg mb : Str → Option Value} {scope : Scope} {cl : List (Str × Addr)} {env : Env} {p : Program} {loose : List Str} {x : Str} {pos : Pos} {v : Value} {Q : Value → Shared → Prop}
theorem cm_ld (F : Fr h₀ C s.heap m) (hx : m x = some v) (h : Q v s)
    (hk : (compEnvC scope cl C env).scope.kind = .function := by rfl) (hl : (compEnvC scope cl C env).kindOf x = some .local := by rfl) (hd : (x == ("__debug__" : Str)) = false := by decide) :
    wpAny M A (eval (.Name x pos) (compEnvC scope cl C env)) Q E s := ldVarK F.ns hx h hk hl hd
theorem cm_K (F : Fr h₀ L s.heap m) (X : K.In h₀) (T : TopRead p loose mg mb h₀) (e : nsIn K mainGlobals x = some (some v)) (h : Q v s) (hg : env.globals = mainGlobals := by rfl)
    (hk : (compEnvC scope cl C env).scope.kind = .function := by rfl) (hx : (compEnvC scope cl C env).kindOf x = some .globalImplicit := by rfl) (hd : (x == ("__debug__" : Str)) = false := by decide) :
    wpAny M A (eval (.Name x pos) (compEnvC scope cl C env)) Q E s :=
  Name_function_global hk hx (loadGlobal_global (env := compEnvC scope cl C env) (show s.heap.Ns env.globals mg from hg ▸ (T.keeps F.keep).g) (mg_of X T.g e) h) hd
theorem cm_B (F : Fr h₀ L s.heap m) (X : K.In h₀) (T : TopRead p loose mg mb h₀) (e : nsIn K mainGlobals x = some none) (hv : bootBuiltins x = some v) (hn : x ≠ "__name__") (h : Q v s) (hg : env.globals = mainGlobals := by rfl) (hb : env.builtins = builtinsNs := by rfl)
    (hk : (compEnvC scope cl C env).scope.kind = .function := by rfl) (hx : (compEnvC scope cl C env).kindOf x = some .globalImplicit := by rfl) (hd : (x == ("__debug__" : Str)) = false := by decide) :
    wpAny M A (eval (.Name x pos) (compEnvC scope cl C env)) Q E s :=
  Name_function_global hk hx (loadGlobal_builtin (env := compEnvC scope cl C env) (show s.heap.Ns env.globals mg from hg ▸ (T.keeps F.keep).g) (mg_none_of X T.g e) (show s.heap.Ns env.builtins mb from hb ▸ (T.keeps F.keep).b) ((T.builtins x hn).trans hv) h) hd
theorem cm_cell {c : Addr} (F : Fr h₀ C s.heap m) (hc : cl.lookup x = some c) (hv : h₀.IsCell c (some v)) (h : Q v s)
    (hk : (compEnvC scope cl C env).scope.kind = .function := by rfl) (hl : (compEnvC scope cl C env).kindOf x = some .cell := by rfl) (hd : (x == ("__debug__" : Str)) = false := by decide) :
    wpAny M A (eval (.Name x pos) (compEnvC scope cl C env)) Q E s :=
  wpAny_Name (wpAny_loadName_cell hk hl hc (let ⟨o, ho, hd'⟩ := hv; ⟨o, F.keep _ _ ho, hd'⟩) h) hd
theorem gm_ld {code : Value} (F : Fr h₀ C s.heap m) (hx : m x = some v) (h : Q v s)
    (hk : scope.kind = .function := by rfl) (hl : (genEnv scope cl C code builtinsNs env).kindOf x = some .local := by rfl) (hd : (x == ("__debug__" : Str)) = false := by decide) :
    wpAny M A (eval (.Name x pos) (genEnv scope cl C code builtinsNs env)) Q E s := wpAny_Name (wpAny_loadName_local hk hl F.ns hx h) hd
theorem gm_K {code : Value} (F : Fr h₀ L s.heap m) (X : K.In h₀) (T : TopRead p loose mg mb h₀) (e : nsIn K mainGlobals x = some (some v)) (h : Q v s) (hg : env.globals = mainGlobals := by rfl)
    (hk : scope.kind = .function := by rfl) (hx : (genEnv scope cl C code builtinsNs env).kindOf x = some .globalImplicit := by rfl) (hd : (x == ("__debug__" : Str)) = false := by decide) :
    wpAny M A (eval (.Name x pos) (genEnv scope cl C code builtinsNs env)) Q E s :=
  Name_function_global (env := genEnv scope cl C code builtinsNs env) hk hx (loadGlobal_global (env := genEnv scope cl C code builtinsNs env) (show s.heap.Ns env.globals mg from hg ▸ (T.keeps F.keep).g) (mg_of X T.g e) h) hd
theorem gm_B {code : Value} (F : Fr h₀ L s.heap m) (X : K.In h₀) (T : TopRead p loose mg mb h₀) (e : nsIn K mainGlobals x = some none) (hv : bootBuiltins x = some v) (hn : x ≠ "__name__") (h : Q v s) (hg : env.globals = mainGlobals := by rfl)
    (hk : scope.kind = .function := by rfl) (hx : (genEnv scope cl C code builtinsNs env).kindOf x = some .globalImplicit := by rfl) (hd : (x == ("__debug__" : Str)) = false := by decide) :
    wpAny M A (eval (.Name x pos) (genEnv scope cl C code builtinsNs env)) Q E s :=
  Name_function_global (env := genEnv scope cl C code builtinsNs env) hk hx (loadGlobal_builtin (env := genEnv scope cl C code builtinsNs env) (show s.heap.Ns env.globals mg from hg ▸ (T.keeps F.keep).g) (mg_none_of X T.g e) (T.keeps F.keep).b ((T.builtins x hn).trans hv) h) hd
end
end Mine
end

section
open PySem PySem.W PySem.Calls PyProof.Rows
set_option Elab.async false
set_option maxRecDepth 100000
namespace Mine

def gens : List Nat := [996825010, 642813549, 513874426, 1027748829, 705979059]
/-- one turn of the inner loop -/
def turnN (t c i : Nat) : Nat := c ^^^ (if (t >>> i) &&& 1 = 0 then 0 else gens.getD i 0)
/-- the first n turns -/
def turnsN (t c : Nat) : Nat → Nat
  | 0 => c
  | n + 1 => turnN t (turnsN t c n) n
def stepN (c v : Nat) : Nat := turnsN (c >>> 25) (((c &&& 33554431) <<< 5) ^^^ v) 5
def pmN (ns : List Nat) : Nat := ns.foldl stepN 1

theorem nInts_inj {a b : List Nat} (h : nInts a = nInts b) : a = b := (List.map_inj_right (fun _ _ e => Int.ofNat.inj e)).mp h
theorem turn_pos {t d j : Nat} (h : ¬ (t >>> j) &&& 1 = 0) (hj : j < 5) : Builtin.bitXor (Int.ofNat d) (([996825010, 642813549, 513874426, 1027748829, 705979059] : List Int).getD (Int.toNat (Int.ofNat j)) 0) = Int.ofNat (turnN t d j) := by
  have e : (([996825010, 642813549, 513874426, 1027748829, 705979059] : List Int).getD (Int.toNat (Int.ofNat j)) 0) = Int.ofNat (gens.getD j 0) := by
    have : j = 0 ∨ j = 1 ∨ j = 2 ∨ j = 3 ∨ j = 4 := by omega
    rcases this with rfl | rfl | rfl | rfl | rfl <;> rfl
  rw [e, bitXor_nat, turnN, if_neg h]
theorem turn_neg {t d j : Nat} (h : (t >>> j) &&& 1 = 0) : d ^^^ 0 = turnN t d j := by
  rw [turnN, if_pos h]
theorem fr_tok {h₀ h : Heap} {L : Addr} {x : Str} {i : Int} {tk : Tok} {m : Str → Option Value} (F : Fr h₀ L h (fun y => if y = x then some (.int i tk) else m y)) : ∃ t, Fr h₀ L h (fun y => if y = x then some (.int i t) else m y) := ⟨tk, F⟩

theorem fill : PySem.Challenge.rw_ar0009_01 = PySem.Challenge.rw_ar0009_01 ∧ hd1.heap_39 = hd1.heap_39 := by
  k_fill
  exact ⟨rfl, rfl⟩

local macro_rules | `(tactic| walk_at "eval Name") => `(tactic| ((with_reducible show wpAny _ _ (eval (Expr.Name _ _) (genEnv _ _ _ _ _ _)) _ _ _); k_dflt (first
  | (refine' gm_ld ?F ?x ?_ ?k ?l; (case k => exact rfl); (case l => exact rfl); (case F => k_asm); (case x => first | assumption | exact rfl); k_whole)
  | (refine' gm_K ?F ?X ?T ?e ?_ ?g ?k ?l; (case g => exact rfl); (case k => exact rfl); (case l => exact rfl); (case F => k_asm); (case X => k_asm); (case T => k_asm); (case e => k_is); k_whole)
  | (refine' gm_B ?F ?X ?T ?e ?v ?n ?_ ?g ?k ?l; (case g => exact rfl); (case k => exact rfl); (case l => exact rfl); (case F => k_asm); (case X => k_asm); (case T => k_asm); (case e => k_is); (case v => boot_fast); (case n => decide); k_whole))))
local macro_rules | `(tactic| walk_at "eval Name") => `(tactic| ((with_reducible show wpAny _ _ (eval (Expr.Name _ _) (compEnvC _ _ _ _)) _ _ _); k_dflt (first
  | (refine' cm_ld ?F ?x ?_ ?k ?l; (case F => k_asm); (case x => first | assumption | exact rfl); (case k => exact rfl); (case l => exact rfl); k_whole)
  | (refine' cm_cell ?F ?c ?v ?_ ?k ?l; (case k => exact rfl); (case l => exact rfl); (case F => k_asm); (case c => exact rfl); (case v => assumption); k_whole)
  | (refine' cm_K ?F ?X ?T ?e ?_ ?g ?k ?l; (case F => k_asm); (case X => k_asm); (case T => k_asm); (case g => exact rfl); (case k => exact rfl); (case l => exact rfl); (case e => k_is); k_whole)
  | (refine' cm_B ?F ?X ?T ?e ?v ?n ?_ ?g ?b ?k ?l; (case F => k_asm); (case X => k_asm); (case T => k_asm); (case g => exact rfl); (case b => exact rfl); (case k => exact rfl); (case l => exact rfl); (case e => k_is); (case v => boot_fast); (case n => decide); k_whole))))
local macro_rules | `(tactic| walk_at "binaryOp BitAnd int int") => `(tactic| (k_dflt (refine' and_nat ?h1 ?h2 ?_; (case h1 => exact rfl); (case h2 => exact rfl))))
local macro_rules | `(tactic| walk_at "binaryOp BitXor int int") => `(tactic| (k_dflt (refine' xor_nat ?h1 ?h2 ?_; (case h1 => exact rfl); (case h2 => exact rfl))))
local macro_rules | `(tactic| walk_at "inplaceOp BitXor int int") => `(tactic| (k_dflt (refine' ixor_nat ?h1 ?h2 ?_; (case h1 => exact rfl); (case h2 => exact rfl))))
local macro_rules | `(tactic| walk_at "binaryOp RShift int int") => `(tactic| (k_dflt (refine' shr_nat ?h1 ?h2 ?_; (case h1 => exact rfl); (case h2 => exact rfl))))
local macro_rules | `(tactic| walk_at "binaryOp LShift int int") => `(tactic| (k_dflt (refine' shl_nat ?h1 ?h2 ?h3 ?h4 ?_; (case h1 => exact rfl); (case h2 => exact rfl); (case h3 => decide); (case h4 => exact and25_lt _))))

set_option maxHeartbeats 4000000 in
theorem polymod_c {prog : Program} {w : World} {dp un : Nat} {fr : Option (List Env)} {gd : Option (List Code)} {s : Shared} {mg mb : Str → Option Value} {l : Addr} {vs : List Value} {ns : List Nat} {Q E : Value → Shared → Prop}
   (B : Base w mg mb s.heap) (hd : dp + 1 < recursionLimit) (hu : un + 20 < cLine) (hl : s.heap.IsList l vs.toArray) (hi : IntsAre vs (nInts ns))
   (hQ : ∀ t h' tk', s.heap.StaysIn h' → Q (.int (Int.ofNat (pmN ns)) t) { s with heap := h', toks := tk' }) :
   wpAny (model prog w) (At dp un fr gd) (call (.ref 21) [.ref l]) Q E s := by
  have KX := B.K
  have T := B.T
  refine call_pure KX T.nolimit (show dp < recursionLimit by omega) rfl rfl (binds := [(PySem.Str.ofString "values", .ref l)]) ?_ ?_ ?_ (by decide)
  · exact BindsTo.of_eq rfl
  · exact locs rfl
  · intro L h₁ F N
    generalize hQ' : (fun fl s' => Q (match fl with | .ret v => v | _ => .none) s' : Flow → Shared → Prop) = Q'
    (repeat' ((fail_if_success (with_reducible show wpAny _ _ (exec (Stmt.For _ _ _ _ _) _) _ _ _)); (first | (k_unfold; (try dsimp only)) | walk1 | (dsimp only; walk1) | (leave1; walk_say "STEP leave1"; try dsimp only) | fail "no step")))
    rename Fr _ _ _ _ => F'
    rename News _ _ _ _ => N'
    obtain ⟨t1, F1⟩ := fr_tok F'
    refine For_invVF F1 rfl rfl ?_
    refine ld F1 rfl ?_
    refine kst_list (fun _ => _) (fun (c : Nat × Tok) => [(PySem.Str.ofString "chk", .int (Int.ofNat c.1) c.2)]) (fun _ => True) [PySem.Str.ofString "top", PySem.Str.ofString "i"] (fun pre c => ∃ ps, pre = nInts ps ∧ c.1 = pmN ps) (1, t1) rfl hl hi F1 N' trivial ?_ ⟨[], rfl, rfl⟩ ?_ ?_
    · simp
    · rintro ⟨c, t⟩ pre post n tn u h tk own e hn ho - ⟨ps, rfl, hp⟩ F2 N2
      clear F1 N' F'
      change Fr s.heap L h _ at F2
      change News s.heap L h _ at N2
      dsimp only at hp
      obtain ⟨n, hn, rfl⟩ := List.mem_map.mp hn
      (repeat' ((fail_if_success (with_reducible show wpAny _ _ (exec (Stmt.For _ _ _ _ _) _) _ _ _)); (first | (k_unfold; (try dsimp only)) | walk1 | (dsimp only; walk1) | (leave1; walk_say "STEP leave1"; try dsimp only) | fail "no step")))
      rename Fr _ _ _ _ => F3
      rename News _ _ _ _ => N3
      try clear F2 N2
      refine For_invVF F3 rfl rfl ?_
      (repeat' ((fail_if_success (with_reducible show wpAny _ _ (pyIter _) _ _ _)); (first | (k_unfold; (try dsimp only)) | walk1 | (dsimp only; walk1) | (leave1; walk_say "STEP leave1"; try dsimp only) | fail "no step")))
      rename Fr _ _ _ _ => F4
      rename News _ _ _ _ => N4
      rename IsRange _ _ _ _ _ _ _ _ => R4
      dsimp only at F4 N4 R4 ⊢
      obtain ⟨t2, F4⟩ := fr_tok F4
      refine kst_range (fun _ => _) (fun (d : Nat × Tok) => [(PySem.Str.ofString "chk", .int (Int.ofNat d.1) d.2)]) (fun _ => True) [] (fun pre d => d.1 = turnsN (c >>> 25) (((c &&& 33554431) <<< 5) ^^^ n) pre.length) ((((c &&& 33554431) <<< 5) ^^^ n), t2) (n := 5) rfl R4 (by decide) (by rfl) F4 N4 trivial ?_ rfl ?_ ?_
      · simp
      · rintro ⟨d, td⟩ pre k tk4 u4 h4 tkk own4 hk hlt ho4 - hdd F5 N5
        obtain rfl : k = Int.ofNat pre.length := by rw [hk]; simp
        clear F4 N4
        change Fr s.heap L h4 _ at F5
        change News s.heap L h4 _ at N5
        dsimp only at hdd
        (repeat' (first | (k_unfold; (try dsimp only)) | walk1 | (dsimp only; walk1) | (leave1; walk_say "STEP leave1"; try dsimp only) | fail "no step"))
        · rename Fr _ _ _ _ => F6
          rename News _ _ _ _ => N6
          rename Int.ofNat _ ≠ 0 => hc
          rw [show Builtin.bitXor (Int.ofNat (d, td).fst) ([996825010, 642813549, 513874426, 1027748829, 705979059].getD (Int.toNat (Int.ofNat pre.length)) 0) = Int.ofNat (turnN (c >>> 25) d pre.length) from turn_pos (fun e => hc (congrArg Int.ofNat e)) hlt] at F6
          dsimp only at F6
          obtain ⟨t7, F7⟩ := fr_tok F6
          refine kst_end (turnN (c >>> 25) d pre.length, t7) F7 N6 (fun p hp => List.mem_append_left _ hp) (fun p hp => List.mem_append_right _ hp) rfl trivial ?_ ?_ ?_
          · intro p hp; obtain rfl := List.mem_singleton.mp hp; rfl
          · intro z h1 h2 h3
            have h4 := h2 _ (.head _)
            simp [kstB, h1, h4]
          · simp [hdd, turnsN]
        · rename Fr _ _ _ _ => F6
          rename News _ _ _ _ => N6
          rename Int.ofNat _ = 0 => hc
          rw [show d ^^^ 0 = turnN (c >>> 25) d pre.length from turn_neg (Int.ofNat.inj hc)] at F6
          dsimp only at F6
          obtain ⟨t7, F7⟩ := fr_tok F6
          refine kst_end (turnN (c >>> 25) d pre.length, t7) F7 N6 (fun p hp => List.mem_append_left _ hp) (fun p hp => List.mem_append_right _ hp) rfl trivial ?_ ?_ ?_
          · intro p hp; obtain rfl := List.mem_singleton.mp hp; rfl
          · intro z h1 h2 h3
            have h4 := h2 _ (.head _)
            simp [kstB, h1, h4]
          · simp [hdd, turnsN]
      · rintro ⟨d, td⟩ u4 h4 tkk - hdd F5 N5
        clear F4 N4
        change Fr s.heap L h4 _ at F5
        change News s.heap L h4 _ at N5
        dsimp only at hdd ⊢
        (repeat' (first | (k_unfold; (try dsimp only)) | walk1 | (dsimp only; walk1) | (leave1; walk_say "STEP leave1"; try dsimp only) | fail "no step"))
        refine kst_end (d, td) F5 N5 (fun p hp => List.mem_append_left _ hp) (fun p hp => List.mem_append_right _ hp) rfl trivial ?_ ?_ ?_
        · intro p hp; obtain rfl := List.mem_singleton.mp hp; rfl
        · intro z h1 h2 h3
          have h4 := h2 _ (.head _)
          simp at h3
          simp [kstB, h1, h4, h3]
        · refine ⟨ps ++ [n], by simp, ?_⟩
          dsimp only
          rw [hdd, show (rangeKs 0 5).length = 5 from rfl, hp]
          simp [pmN, stepN]
    · rintro ⟨c, t⟩ u h tk - ⟨ps, h1, hp⟩ F2 N2
      clear F1 N' F'
      change Fr s.heap L h _ at F2
      change News s.heap L h _ at N2
      dsimp only at hp
      subst hp
      rw [← nInts_inj h1] at F2
      dsimp only
      (repeat' (first | (k_unfold; (try dsimp only)) | walk1 | (dsimp only; walk1) | (leave1; walk_say "STEP leave1"; try dsimp only) | fail "no step"))
      subst hQ'
      exact hQ _ _ _ F2.keep
end Mine
end

section
open PySem PySem.W PySem.Calls PyProof.Rows
set_option Elab.async false
set_option maxRecDepth 100000
namespace Mine
theorem fillX : PySem.Challenge.rw_ar0009_01 = PySem.Challenge.rw_ar0009_01 ∧ hd1.heap_39 = hd1.heap_39 := by
  k_fill
  exact ⟨rfl, rfl⟩

local macro_rules | `(tactic| walk_at "eval Name") => `(tactic| ((with_reducible show wpAny _ _ (eval (Expr.Name _ _) (genEnv _ _ _ _ _ _)) _ _ _); k_dflt (first
  | (refine' gm_ld ?F ?x ?_ ?k ?l; (case k => exact rfl); (case l => exact rfl); (case F => k_asm); (case x => first | assumption | exact rfl); k_whole)
  | (refine' gm_K ?F ?X ?T ?e ?_ ?g ?k ?l; (case g => exact rfl); (case k => exact rfl); (case l => exact rfl); (case F => k_asm); (case X => k_asm); (case T => k_asm); (case e => k_is); k_whole)
  | (refine' gm_B ?F ?X ?T ?e ?v ?n ?_ ?g ?k ?l; (case g => exact rfl); (case k => exact rfl); (case l => exact rfl); (case F => k_asm); (case X => k_asm); (case T => k_asm); (case e => k_is); (case v => boot_fast); (case n => decide); k_whole))))
local macro_rules | `(tactic| walk_at "eval Name") => `(tactic| ((with_reducible show wpAny _ _ (eval (Expr.Name _ _) (compEnvC _ _ _ _)) _ _ _); k_dflt (first
  | (refine' cm_ld ?F ?x ?_ ?k ?l; (case F => k_asm); (case x => first | assumption | exact rfl); (case k => exact rfl); (case l => exact rfl); k_whole)
  | (refine' cm_cell ?F ?c ?v ?_ ?k ?l; (case k => exact rfl); (case l => exact rfl); (case F => k_asm); (case c => exact rfl); (case v => assumption); k_whole)
  | (refine' cm_K ?F ?X ?T ?e ?_ ?g ?k ?l; (case F => k_asm); (case X => k_asm); (case T => k_asm); (case g => exact rfl); (case k => exact rfl); (case l => exact rfl); (case e => k_is); k_whole)
  | (refine' cm_B ?F ?X ?T ?e ?v ?n ?_ ?g ?b ?k ?l; (case F => k_asm); (case X => k_asm); (case T => k_asm); (case g => exact rfl); (case b => exact rfl); (case k => exact rfl); (case l => exact rfl); (case e => k_is); (case v => boot_fast); (case n => decide); k_whole))))
local macro_rules | `(tactic| walk_at "binaryOp BitAnd int int") => `(tactic| (k_dflt (refine' and_nat ?h1 ?h2 ?_; (case h1 => exact rfl); (case h2 => exact rfl))))
local macro_rules | `(tactic| walk_at "binaryOp BitXor int int") => `(tactic| (k_dflt (refine' xor_nat ?h1 ?h2 ?_; (case h1 => exact rfl); (case h2 => exact rfl))))
local macro_rules | `(tactic| walk_at "inplaceOp BitXor int int") => `(tactic| (k_dflt (refine' ixor_nat ?h1 ?h2 ?_; (case h1 => exact rfl); (case h2 => exact rfl))))
local macro_rules | `(tactic| walk_at "binaryOp RShift int int") => `(tactic| (k_dflt (refine' shr_nat ?h1 ?h2 ?_; (case h1 => exact rfl); (case h2 => exact rfl))))
local macro_rules | `(tactic| walk_at "binaryOp LShift int int") => `(tactic| (k_dflt (refine' shl_nat ?h1 ?h2 ?h3 ?h4 ?_; (case h1 => exact rfl); (case h2 => exact rfl); (case h3 => decide); (case h4 => exact and25_lt _))))

set_option maxHeartbeats 4000000 in
theorem expand_c {prog : Program} {w : World} {dp un : Nat} {fr : Option (List Env)} {gd : Option (List Code)} {s : Shared} {mg mb : Str → Option Value} {c : Nat} {t : Tok} {Q E : Value → Shared → Prop}
   (B : Base w mg mb s.heap) (hd : dp + 1 < recursionLimit) (hu : un + 20 < cLine)
   (hQ : RetInts s Q [c >>> 5, 0, c &&& 31]) :
   wpAny (model prog w) (At dp un fr gd) (call (.ref 26) [.str ⟨#[c]⟩ t]) Q E s := by
  have KX := B.K
  have T := B.T
  refine call_pure KX T.nolimit (show dp < recursionLimit by omega) rfl rfl (binds := [(PySem.Str.ofString "hrp", .str ⟨#[c]⟩ t)]) ?_ ?_ ?_ (by decide)
  · exact BindsTo.of_eq rfl
  · exact locs rfl
  · intro L h₁ F N
    generalize hQ' : (fun fl s' => Q (match fl with | .ret v => v | _ => .none) s' : Flow → Shared → Prop) = Q'
    (repeat' ((fail_if_success (with_reducible show Fr _ _ _ _ ∧ _)); (fail_if_success (with_reducible show wpAny _ _ (exec (Stmt.For _ _ _ _ _) _) _ _ _)); (fail_if_success (with_reducible show wpAny _ _ (eval (Expr.ListComp _ _ _ _) _) _ _ _)); (fail_if_success (with_reducible show wpAny _ _ (exec (Stmt.Assign [_] (Expr.ListComp _ _ _ _) _) _) _ _ _)); (fail_if_success (with_reducible show wpAny _ _ (eval (Expr.GeneratorExp _ _ _ _) _) _ _ _)); (fail_if_success (with_reducible show wpAny _ _ (call (Value.builtin "any") _ _) _ _ _)); (fail_if_success (with_reducible show wpAny _ _ (call (Value.builtin "all") _ _) _ _ _)); (fail_if_success (with_reducible show wpAny _ _ (call (Value.ref _) _ _) _ _ _));  (first | (k_unfold; (try dsimp only)) | walk1 | (dsimp only; walk1) | (leave1; walk_say "STEP leave1"; try dsimp only) | fail "no step")))
    rename Fr _ _ _ _ => F1
    rename News _ _ _ _ => N1
    refine comp_core (as := [c]) (Rel := SignRel) (G := fun a y => ∃ t, y = .int (Int.ofNat (a >>> 5)) t) signRel_inj F1 N1 rfl (by decide) rfl (by decide) rfl ?_
    refine ld F1 rfl ⟨F1, N1, ?_, comp_str (y := ⟨#[c]⟩) rfl, Nat.le_of_ble_eq_true rfl, ?_⟩
    · rintro C a v s₃ m₃ E' ha ⟨u, rfl⟩ F2 hx
      have KX := KX.keeps F1.keep
      have T := T.keeps F1.keep
      (repeat' ((fail_if_success (with_reducible show Fr _ _ _ _ ∧ _)); (fail_if_success (with_reducible show wpAny _ _ (exec (Stmt.For _ _ _ _ _) _) _ _ _)); (fail_if_success (with_reducible show wpAny _ _ (eval (Expr.ListComp _ _ _ _) _) _ _ _)); (fail_if_success (with_reducible show wpAny _ _ (exec (Stmt.Assign [_] (Expr.ListComp _ _ _ _) _) _) _ _ _)); (fail_if_success (with_reducible show wpAny _ _ (eval (Expr.GeneratorExp _ _ _ _) _) _ _ _)); (fail_if_success (with_reducible show wpAny _ _ (call (Value.builtin "any") _ _) _ _ _)); (fail_if_success (with_reducible show wpAny _ _ (call (Value.builtin "all") _ _) _ _ _)); (fail_if_success (with_reducible show wpAny _ _ (call (Value.ref _) _ _) _ _ _));  (first | (k_unfold; (try dsimp only)) | walk1 | (dsimp only; walk1) | (leave1; walk_say "STEP leave1"; try dsimp only) | fail "no step")))
      exact ⟨_, _, rfl, fun _ _ e => e⟩
    · intro D n h' tk' ys F2 N2 hys hkeep hD
      obtain ⟨_, ⟨t1, rfl⟩, rfl⟩ := paired_one hys
      dsimp only at F2 N2 ⊢
      (repeat' ((fail_if_success (with_reducible show Fr _ _ _ _ ∧ _)); (fail_if_success (with_reducible show wpAny _ _ (exec (Stmt.For _ _ _ _ _) _) _ _ _)); (fail_if_success (with_reducible show wpAny _ _ (eval (Expr.ListComp _ _ _ _) _) _ _ _)); (fail_if_success (with_reducible show wpAny _ _ (exec (Stmt.Assign [_] (Expr.ListComp _ _ _ _) _) _) _ _ _)); (fail_if_success (with_reducible show wpAny _ _ (eval (Expr.GeneratorExp _ _ _ _) _) _ _ _)); (fail_if_success (with_reducible show wpAny _ _ (call (Value.builtin "any") _ _) _ _ _)); (fail_if_success (with_reducible show wpAny _ _ (call (Value.builtin "all") _ _) _ _ _)); (fail_if_success (with_reducible show wpAny _ _ (call (Value.ref _) _ _) _ _ _));  (first | (k_unfold; (try dsimp only)) | walk1 | (dsimp only; walk1) | (leave1; walk_say "STEP leave1"; try dsimp only) | fail "no step")))
      rename Fr _ _ _ _ => F3
      rename News _ _ _ _ => N3
      refine comp_core (as := [c]) (Rel := SignRel) (G := fun a y => ∃ t, y = .int (Int.ofNat (a &&& 31)) t) signRel_inj F3 N3 rfl (by decide) rfl (by decide) rfl ?_
      refine ld F3 rfl ⟨F3, N3, ?_, comp_str (y := ⟨#[c]⟩) rfl, Nat.le_of_ble_eq_true rfl, ?_⟩
      · rintro C a v s₃ m₃ E' ha ⟨u, rfl⟩ F2 hx
        have KX := KX.keeps F3.keep
        have T := T.keeps F3.keep
        (repeat' ((fail_if_success (with_reducible show Fr _ _ _ _ ∧ _)); (fail_if_success (with_reducible show wpAny _ _ (exec (Stmt.For _ _ _ _ _) _) _ _ _)); (fail_if_success (with_reducible show wpAny _ _ (eval (Expr.ListComp _ _ _ _) _) _ _ _)); (fail_if_success (with_reducible show wpAny _ _ (exec (Stmt.Assign [_] (Expr.ListComp _ _ _ _) _) _) _ _ _)); (fail_if_success (with_reducible show wpAny _ _ (eval (Expr.GeneratorExp _ _ _ _) _) _ _ _)); (fail_if_success (with_reducible show wpAny _ _ (call (Value.builtin "any") _ _) _ _ _)); (fail_if_success (with_reducible show wpAny _ _ (call (Value.builtin "all") _ _) _ _ _)); (fail_if_success (with_reducible show wpAny _ _ (call (Value.ref _) _ _) _ _ _));  (first | (k_unfold; (try dsimp only)) | walk1 | (dsimp only; walk1) | (leave1; walk_say "STEP leave1"; try dsimp only) | fail "no step")))
        exact ⟨_, _, rfl, fun _ _ e => e⟩
      · intro D n h' tk' ys F2 N2 hys hkeep hD
        obtain ⟨_, ⟨t1, rfl⟩, rfl⟩ := paired_one hys
        dsimp only at F2 N2 ⊢
        (repeat' ((fail_if_success (with_reducible show Fr _ _ _ _ ∧ _)); (fail_if_success (with_reducible show wpAny _ _ (exec (Stmt.For _ _ _ _ _) _) _ _ _)); (fail_if_success (with_reducible show wpAny _ _ (eval (Expr.ListComp _ _ _ _) _) _ _ _)); (fail_if_success (with_reducible show wpAny _ _ (exec (Stmt.Assign [_] (Expr.ListComp _ _ _ _) _) _) _ _ _)); (fail_if_success (with_reducible show wpAny _ _ (eval (Expr.GeneratorExp _ _ _ _) _) _ _ _)); (fail_if_success (with_reducible show wpAny _ _ (call (Value.builtin "any") _ _) _ _ _)); (fail_if_success (with_reducible show wpAny _ _ (call (Value.builtin "all") _ _) _ _ _)); (fail_if_success (with_reducible show wpAny _ _ (call (Value.ref _) _ _) _ _ _));  (first | (k_unfold; (try dsimp only)) | walk1 | (dsimp only; walk1) | (leave1; walk_say "STEP leave1"; try dsimp only) | fail "no step")))
        rename Fr _ _ _ _ => F9
        rename News _ _ _ _ => N9
        subst hQ'
        exact hQ _ _ _ _ _ F9.keep (N9.fresh (.head _)) (N9.get (.head _)) (.cons _ _ (.cons _ _ (.cons _ _ .nil)))
end Mine
end

section
open PySem PySem.W PySem.Calls PyProof.Rows
set_option Elab.async false
set_option maxRecDepth 100000
namespace Mine

local macro_rules | `(tactic| walk_at "eval Name") => `(tactic| ((with_reducible show wpAny _ _ (eval (Expr.Name _ _) (genEnv _ _ _ _ _ _)) _ _ _); k_dflt (first
  | (refine' gm_ld ?F ?x ?_ ?k ?l; (case k => exact rfl); (case l => exact rfl); (case F => k_asm); (case x => first | assumption | exact rfl); k_whole)
  | (refine' gm_K ?F ?X ?T ?e ?_ ?g ?k ?l; (case g => exact rfl); (case k => exact rfl); (case l => exact rfl); (case F => k_asm); (case X => k_asm); (case T => k_asm); (case e => k_is); k_whole)
  | (refine' gm_B ?F ?X ?T ?e ?v ?n ?_ ?g ?k ?l; (case g => exact rfl); (case k => exact rfl); (case l => exact rfl); (case F => k_asm); (case X => k_asm); (case T => k_asm); (case e => k_is); (case v => boot_fast); (case n => decide); k_whole))))
local macro_rules | `(tactic| walk_at "eval Name") => `(tactic| ((with_reducible show wpAny _ _ (eval (Expr.Name _ _) (compEnvC _ _ _ _)) _ _ _); k_dflt (first
  | (refine' cm_ld ?F ?x ?_ ?k ?l; (case F => k_asm); (case x => first | assumption | exact rfl); (case k => exact rfl); (case l => exact rfl); k_whole)
  | (refine' cm_cell ?F ?c ?v ?_ ?k ?l; (case k => exact rfl); (case l => exact rfl); (case F => k_asm); (case c => exact rfl); (case v => assumption); k_whole)
  | (refine' cm_K ?F ?X ?T ?e ?_ ?g ?k ?l; (case F => k_asm); (case X => k_asm); (case T => k_asm); (case g => exact rfl); (case k => exact rfl); (case l => exact rfl); (case e => k_is); k_whole)
  | (refine' cm_B ?F ?X ?T ?e ?v ?n ?_ ?g ?b ?k ?l; (case F => k_asm); (case X => k_asm); (case T => k_asm); (case g => exact rfl); (case b => exact rfl); (case k => exact rfl); (case l => exact rfl); (case e => k_is); (case v => boot_fast); (case n => decide); k_whole))))
local macro_rules | `(tactic| walk_at "binaryOp BitAnd int int") => `(tactic| (k_dflt (refine' and_nat ?h1 ?h2 ?_; (case h1 => exact rfl); (case h2 => exact rfl))))
local macro_rules | `(tactic| walk_at "binaryOp BitXor int int") => `(tactic| (k_dflt (refine' xor_nat ?h1 ?h2 ?_; (case h1 => exact rfl); (case h2 => exact rfl))))
local macro_rules | `(tactic| walk_at "inplaceOp BitXor int int") => `(tactic| (k_dflt (refine' ixor_nat ?h1 ?h2 ?_; (case h1 => exact rfl); (case h2 => exact rfl))))
local macro_rules | `(tactic| walk_at "binaryOp RShift int int") => `(tactic| (k_dflt (refine' shr_nat ?h1 ?h2 ?_; (case h1 => exact rfl); (case h2 => exact rfl))))
local macro_rules | `(tactic| walk_at "binaryOp LShift int int") => `(tactic| (k_dflt (refine' shl_nat ?h1 ?h2 ?h3 ?h4 ?_; (case h1 => exact rfl); (case h2 => exact rfl); (case h3 => decide); (case h4 => exact and25_lt _))))

theorem beq_one (x : Nat) : (Int.ofNat x == 1) = decide (x = 1) := by
  by_cases h : x = 1
  · subst h; rfl
  · rw [decide_eq_false h]
    exact beq_eq_false_iff_ne.mpr fun e => h (Int.ofNat.inj e)
set_option maxHeartbeats 4000000 in
theorem verify_c {prog : Program} {w : World} {dp un : Nat} {fr : Option (List Env)} {gd : Option (List Code)} {s : Shared} {mg mb : Str → Option Value} {c : Nat} {t : Tok} {l : Addr} {vs : List Value} {ns : List Nat} {Q E : Value → Shared → Prop}
   (B : Base w mg mb s.heap) (hd : dp + 5 < recursionLimit) (hu : un + 40 < cLine) (hl : s.heap.IsList l vs.toArray) (hi : IntsAre vs (nInts ns)) (hn : ns.length < 100)
   (hQ : ∀ h' tk', s.heap.StaysIn h' → Q (.bool (decide (pmN ([c >>> 5, 0, c &&& 31] ++ ns) = 1))) { s with heap := h', toks := tk' }) :
   wpAny (model prog w) (At dp un fr gd) (call (.ref 33) [.str ⟨#[c]⟩ t, .ref l]) Q E s := by
  have KX := B.K
  have T := B.T
  refine call_pure KX T.nolimit (show dp < recursionLimit by omega) rfl rfl (binds := [(PySem.Str.ofString "hrp", .str ⟨#[c]⟩ t), (PySem.Str.ofString "data", .ref l)]) ?_ ?_ ?_ (by decide)
  · exact BindsTo.of_eq rfl
  · exact locs rfl
  · intro L h₁ F N
    generalize hQ' : (fun fl s' => Q (match fl with | .ret v => v | _ => .none) s' : Flow → Shared → Prop) = Q'
    (repeat' ((fail_if_success (with_reducible show Fr _ _ _ _ ∧ _)); (fail_if_success (with_reducible show wpAny _ _ (exec (Stmt.For _ _ _ _ _) _) _ _ _)); (fail_if_success (with_reducible show wpAny _ _ (eval (Expr.ListComp _ _ _ _) _) _ _ _)); (fail_if_success (with_reducible show wpAny _ _ (exec (Stmt.Assign [_] (Expr.ListComp _ _ _ _) _) _) _ _ _)); (fail_if_success (with_reducible show wpAny _ _ (eval (Expr.GeneratorExp _ _ _ _) _) _ _ _)); (fail_if_success (with_reducible show wpAny _ _ (call (Value.builtin "any") _ _) _ _ _)); (fail_if_success (with_reducible show wpAny _ _ (call (Value.builtin "all") _ _) _ _ _)); (fail_if_success (with_reducible show wpAny _ _ (call (Value.ref _) _ _) _ _ _));  (first | (k_unfold; (try dsimp only)) | walk1 | (dsimp only; walk1) | (leave1; walk_say "STEP leave1"; try dsimp only) | fail "no step")))
    rename Fr _ _ _ _ => F1
    rename News _ _ _ _ => N1
    refine expand_c (dp := dp + 1) (un := un + 3) (B.keeps F1.keep) (by omega) (by omega) ?_
    intro r ws n1 h2 tk2 hk2 hr2 hg2 hi2
    have F2 := F1.keeps hk2
    have N2 : News s.heap L h2 [(r, W.listOf ws.toArray n1)] := news_new F1 hr2 hg2 (N1.grown hk2)
    (repeat' ((fail_if_success (with_reducible show Fr _ _ _ _ ∧ _)); (fail_if_success (with_reducible show wpAny _ _ (exec (Stmt.For _ _ _ _ _) _) _ _ _)); (fail_if_success (with_reducible show wpAny _ _ (eval (Expr.ListComp _ _ _ _) _) _ _ _)); (fail_if_success (with_reducible show wpAny _ _ (exec (Stmt.Assign [_] (Expr.ListComp _ _ _ _) _) _) _ _ _)); (fail_if_success (with_reducible show wpAny _ _ (eval (Expr.GeneratorExp _ _ _ _) _) _ _ _)); (fail_if_success (with_reducible show wpAny _ _ (call (Value.builtin "any") _ _) _ _ _)); (fail_if_success (with_reducible show wpAny _ _ (call (Value.builtin "all") _ _) _ _ _)); (fail_if_success (with_reducible show wpAny _ _ (call (Value.ref _) _ _) _ _ _));  (first | (k_unfold; (try dsimp only)) | walk1 | (dsimp only; walk1) | (leave1; walk_say "STEP leave1"; try dsimp only) | fail "no step")))
    rename Fr _ _ _ _ => F3
    rename News _ _ _ _ => N3
    rename IntsAre _ (_ ++ _) => hi3
    refine polymod_c (ns := [c >>> 5, 0, c &&& 31] ++ ns) (dp := dp + 1) (un := un + 3) (B.keeps F3.keep) (by omega) (by omega) (N3.isList (.head _)) hi3 ?_
    intro tv h4 tk4 hk4
    have F4 := F3.keeps hk4
    have N4 := N3.grown hk4
    clear N3 F3
    (repeat' ((fail_if_success (with_reducible show Fr _ _ _ _ ∧ _)); (fail_if_success (with_reducible show wpAny _ _ (exec (Stmt.For _ _ _ _ _) _) _ _ _)); (fail_if_success (with_reducible show wpAny _ _ (eval (Expr.ListComp _ _ _ _) _) _ _ _)); (fail_if_success (with_reducible show wpAny _ _ (exec (Stmt.Assign [_] (Expr.ListComp _ _ _ _) _) _) _ _ _)); (fail_if_success (with_reducible show wpAny _ _ (eval (Expr.GeneratorExp _ _ _ _) _) _ _ _)); (fail_if_success (with_reducible show wpAny _ _ (call (Value.builtin "any") _ _) _ _ _)); (fail_if_success (with_reducible show wpAny _ _ (call (Value.builtin "all") _ _) _ _ _)); (fail_if_success (with_reducible show wpAny _ _ (call (Value.ref _) _ _) _ _ _));  (first | (k_unfold; (try dsimp only)) | walk1 | (dsimp only; walk1) | (leave1; walk_say "STEP leave1"; try dsimp only) | fail "no step")))
    subst hQ'
    have e : (Int.ofNat (pmN ([c >>> 5, 0, c &&& 31] ++ ns)) == 1) = decide (pmN ([c >>> 5, 0, c &&& 31] ++ ns) = 1) := beq_one _
    rw [e]
    exact hQ _ _ F4.keep
end Mine
end

section
open PySem PySem.W PySem.Calls PyProof.Rows
set_option Elab.async false
set_option maxRecDepth 100000
namespace Mine
theorem call_pureC {prog : Program} {w : World} {A : Around} {s : Shared} {K : Frag} {Q E : Value → Shared → Prop}
   {name qual : Str} {params : Arguments} {body : List Stmt} {scope : Scope} {dV kV doc pm cdv ct oc : Value} {an od : Option Addr} {osl : Array (Option Value)} {f : Addr} {args : List Value} {binds : List (Str × Value)}
   (X : K.In s.heap) (hlim : s.heap.NoLimit) (hroom : A.depth < recursionLimit)
   (ho : K.lookup f = some ⟨oc, od, .func (fnOf name qual params body scope dV kV doc pm an cdv ct), osl⟩) (hcd : codeIn K cdv qual = true)
   (hbind : BindsTo s (fnOf name qual params body scope dV kV doc pm an cdv ct) ⟨args, []⟩ binds)
   (hkind : (binds.all fun y => scope.names.lookup y.1 == some .local || scope.names.lookup y.1 == some .cell) = true) (hnd : ((cellsFrom 0 scope.names []).map (·.1)).Nodup)
   (h : ∀ L h₁ tk cells, Fr s.heap L h₁ (bindL (envOfC qual scope L f cdv).kindOf binds fun _ => none) → News s.heap L h₁ cells →
      CellsAre (bindC (envOfC qual scope L f cdv).kindOf binds fun _ => none) (cellsFrom (L + 1) scope.names []) cells →
      wpAny (model prog w) (A.deeper (envOfC qual scope L f cdv)) (execs body (envOfC qual scope L f cdv))
        (fun fl s' => Q (match fl with | .ret v => v | _ => .none) s') (fun _ _ => False) { s with heap := h₁, toks := tk })
   (hco : scope.isCoroutine = false := by rfl) (hgen : scope.isGenerator = false := by rfl) (hk : scope.kind = .function := by rfl) :
   wpAny (model prog w) A (call (.ref f) args) Q E s := by
  refine wpAny_call ?_
  refine codeAny_call_function hroom (X _ _ ho) rfl hco hgen rfl (codeRec_of X hcd) (hbind _ _ _ _ ?_)
  refine wpAny_newFunctionEnv_cells hk (kindsX hkind _) fun env' he s' x => ?_
  subst he
  refine ⟨hlim.keeps x.toInCall.keep, codeAny_func ?_⟩
  obtain ⟨h₁, tk, rfl, _⟩ := x.done
  obtain ⟨cells, NC, Y⟩ := Cl.news (h₀ := s.heap) (Nat.le_refl _) fun n c hm => ⟨x.cell n c (lookup_of_mem_nodup (cellsFrom_names scope.names 0 (s.heap.objs.size + 1) [] [] rfl ▸ hnd) hm), x.above n c hm⟩
  exact wpAny_mono (h _ h₁ tk cells ⟨x.toInCall.ns, x.toInCall.keep, Nat.le_refl _⟩ NC Y) (fun fl s' q => q) fun _ _ q => q.elim
end Mine
end

section
open PySem PySem.W PySem.Calls PyProof.Rows
set_option Elab.async false
set_option maxRecDepth 100000
namespace Mine

local macro_rules | `(tactic| walk_at "eval Name") => `(tactic| ((with_reducible show wpAny _ _ (eval (Expr.Name _ _) (genEnv _ _ _ _ _ _)) _ _ _); k_dflt (first
  | (refine' gm_ld ?F ?x ?_ ?k ?l; (case k => exact rfl); (case l => exact rfl); (case F => k_asm); (case x => first | assumption | exact rfl); k_whole)
  | (refine' gm_K ?F ?X ?T ?e ?_ ?g ?k ?l; (case g => exact rfl); (case k => exact rfl); (case l => exact rfl); (case F => k_asm); (case X => k_asm); (case T => k_asm); (case e => k_is); k_whole)
  | (refine' gm_B ?F ?X ?T ?e ?v ?n ?_ ?g ?k ?l; (case g => exact rfl); (case k => exact rfl); (case l => exact rfl); (case F => k_asm); (case X => k_asm); (case T => k_asm); (case e => k_is); (case v => boot_fast); (case n => decide); k_whole))))
local macro_rules | `(tactic| walk_at "eval Name") => `(tactic| ((with_reducible show wpAny _ _ (eval (Expr.Name _ _) (compEnvC _ _ _ _)) _ _ _); k_dflt (first
  | (refine' cm_ld ?F ?x ?_ ?k ?l; (case F => k_asm); (case x => first | assumption | exact rfl); (case k => exact rfl); (case l => exact rfl); k_whole)
  | (refine' cm_cell ?F ?c ?v ?_ ?k ?l; (case k => exact rfl); (case l => exact rfl); (case F => k_asm); (case c => exact rfl); (case v => assumption); k_whole)
  | (refine' cm_K ?F ?X ?T ?e ?_ ?g ?k ?l; (case F => k_asm); (case X => k_asm); (case T => k_asm); (case g => exact rfl); (case k => exact rfl); (case l => exact rfl); (case e => k_is); k_whole)
  | (refine' cm_B ?F ?X ?T ?e ?v ?n ?_ ?g ?b ?k ?l; (case F => k_asm); (case X => k_asm); (case T => k_asm); (case g => exact rfl); (case b => exact rfl); (case k => exact rfl); (case l => exact rfl); (case e => k_is); (case v => boot_fast); (case n => decide); k_whole))))
local macro_rules | `(tactic| walk_at "binaryOp BitAnd int int") => `(tactic| (k_dflt (refine' and_nat ?h1 ?h2 ?_; (case h1 => exact rfl); (case h2 => exact rfl))))
local macro_rules | `(tactic| walk_at "binaryOp BitXor int int") => `(tactic| (k_dflt (refine' xor_nat ?h1 ?h2 ?_; (case h1 => exact rfl); (case h2 => exact rfl))))
local macro_rules | `(tactic| walk_at "inplaceOp BitXor int int") => `(tactic| (k_dflt (refine' ixor_nat ?h1 ?h2 ?_; (case h1 => exact rfl); (case h2 => exact rfl))))
local macro_rules | `(tactic| walk_at "binaryOp RShift int int") => `(tactic| (k_dflt (refine' shr_nat ?h1 ?h2 ?_; (case h1 => exact rfl); (case h2 => exact rfl))))
local macro_rules | `(tactic| walk_at "binaryOp LShift int int") => `(tactic| (k_dflt (refine' shl_nat ?h1 ?h2 ?h3 ?h4 ?_; (case h1 => exact rfl); (case h2 => exact rfl); (case h3 => decide); (case h4 => exact and25_lt _))))

def unpackN (p : Nat) : List Nat := [(p >>> 25) &&& 31, (p >>> 20) &&& 31, (p >>> 15) &&& 31, (p >>> 10) &&& 31, (p >>> 5) &&& 31, (p >>> 0) &&& 31]
/-- the six last numbers -/
def csN (c : Nat) (ns : List Nat) : List Nat := unpackN (pmN ([c >>> 5, 0, c &&& 31] ++ ns ++ [0, 0, 0, 0, 0, 0]) ^^^ 1)
theorem cell_tok {o : Obj} {i : Int} {tk : Tok} (h : o.data = Data.cell (some (.int i tk))) : ∃ t, o.data = Data.cell (some (.int i t)) := ⟨tk, h⟩
theorem isCell_of {h₀ h : Heap} {L c : Addr} {o : Obj} {v : Value} {news : List (Addr × Obj)} (N : News h₀ L h news) (hm : (c, o) ∈ news) (hd : o.data = .cell (some v)) : h.IsCell c (some v) := ⟨o, N.get hm, hd⟩
theorem nInts_app (a : List Nat) : nInts (a ++ [0, 0, 0, 0, 0, 0]) = nInts a ++ [0, 0, 0, 0, 0, 0] := by simp
set_option maxHeartbeats 4000000 in
theorem create_c {prog : Program} {w : World} {dp un : Nat} {fr : Option (List Env)} {gd : Option (List Code)} {s : Shared} {mg mb : Str → Option Value} {c : Nat} {t : Tok} {l : Addr} {vs : List Value} {ns : List Nat} {Q E : Value → Shared → Prop}
   (B : Base w mg mb s.heap) (hd : dp + 5 < recursionLimit) (hu : un + 40 < cLine) (hl : s.heap.IsList l vs.toArray) (hi : IntsAre vs (nInts ns)) (hn : ns.length < 100)
   (hQ : RetInts s Q (csN c ns)) :
   wpAny (model prog w) (At dp un fr gd) (call (.ref 38) [.str ⟨#[c]⟩ t, .ref l]) Q E s := by
  have KX := B.K
  have T := B.T
  refine call_pureC KX T.nolimit (show dp < recursionLimit by omega) rfl rfl (binds := [(PySem.Str.ofString "hrp", .str ⟨#[c]⟩ t), (PySem.Str.ofString "data", .ref l)]) ?_ rfl (by decide) ?_
  · exact BindsTo.of_eq rfl
  · intro L h₁ tk0 cells F N Y
    obtain ⟨oc, rfl, hoc⟩ := Y.one
    generalize hQ' : (fun fl s' => Q (match fl with | .ret v => v | _ => .none) s' : Flow → Shared → Prop) = Q'
    (repeat' ((fail_if_success (with_reducible show Fr _ _ _ _ ∧ _)); (fail_if_success (with_reducible show wpAny _ _ (exec (Stmt.For _ _ _ _ _) _) _ _ _)); (fail_if_success (with_reducible show wpAny _ _ (eval (Expr.ListComp _ _ _ _) _) _ _ _)); (fail_if_success (with_reducible show wpAny _ _ (exec (Stmt.Assign [_] (Expr.ListComp _ _ _ _) _) _) _ _ _)); (fail_if_success (with_reducible show wpAny _ _ (eval (Expr.GeneratorExp _ _ _ _) _) _ _ _)); (fail_if_success (with_reducible show wpAny _ _ (call (Value.builtin "any") _ _) _ _ _)); (fail_if_success (with_reducible show wpAny _ _ (call (Value.builtin "all") _ _) _ _ _)); (fail_if_success (with_reducible show wpAny _ _ (call (Value.ref _) _ _) _ _ _));  (first | (k_unfold; (try dsimp only)) | walk1 | (dsimp only; walk1) | (leave1; walk_say "STEP leave1"; try dsimp only) | fail "no step")))
    rename Fr _ _ _ _ => F1
    rename News _ _ _ _ => N1
    refine expand_c (dp := dp + 1) (un := un + 3) (B.keeps F1.keep) (by omega) (by omega) ?_
    intro r ws n1 h2 tk2 hk2 hr2 hg2 hi2
    have F2 := F1.keeps hk2
    have N2 := news_new F1 hr2 hg2 (N1.grown hk2)
    clear N1 F1
    (repeat' ((fail_if_success (with_reducible show Fr _ _ _ _ ∧ _)); (fail_if_success (with_reducible show wpAny _ _ (exec (Stmt.For _ _ _ _ _) _) _ _ _)); (fail_if_success (with_reducible show wpAny _ _ (eval (Expr.ListComp _ _ _ _) _) _ _ _)); (fail_if_success (with_reducible show wpAny _ _ (exec (Stmt.Assign [_] (Expr.ListComp _ _ _ _) _) _) _ _ _)); (fail_if_success (with_reducible show wpAny _ _ (eval (Expr.GeneratorExp _ _ _ _) _) _ _ _)); (fail_if_success (with_reducible show wpAny _ _ (call (Value.builtin "any") _ _) _ _ _)); (fail_if_success (with_reducible show wpAny _ _ (call (Value.builtin "all") _ _) _ _ _)); (fail_if_success (with_reducible show wpAny _ _ (call (Value.ref _) _ _) _ _ _));  (first | (k_unfold; (try dsimp only)) | walk1 | (dsimp only; walk1) | (leave1; walk_say "STEP leave1"; try dsimp only) | fail "no step")))
    rename Fr _ _ _ _ => F3
    rename News _ _ _ _ => N3
    rename IntsAre _ (_ ++ _) => hi3
    refine polymod_c (ns := [c >>> 5, 0, c &&& 31] ++ ns ++ [0, 0, 0, 0, 0, 0]) (dp := dp + 1) (un := un + 3) (B.keeps F3.keep) (by omega) (by omega) (N3.isList (.head _)) (by rw [nInts_app]; exact hi3) ?_
    intro tv h4 tk4 hk4
    have F4 := F3.keeps hk4
    have N4 : News s.heap L h4 [(L + 1, oc)] := fun p hp => N3.grown hk4 p (by rw [List.mem_singleton.mp hp]; k_mem)
    clear N3 F3
    unfold csN at hQ
    generalize pmN ([c >>> 5, 0, c &&& 31] ++ ns ++ [0, 0, 0, 0, 0, 0]) = pm at hQ
    (repeat' ((fail_if_success (with_reducible show Fr _ _ _ _ ∧ _)); (fail_if_success (with_reducible show wpAny _ _ (exec (Stmt.For _ _ _ _ _) _) _ _ _)); (fail_if_success (with_reducible show wpAny _ _ (eval (Expr.ListComp _ _ _ _) _) _ _ _)); (fail_if_success (with_reducible show wpAny _ _ (exec (Stmt.Assign [_] (Expr.ListComp _ _ _ _) _) _) _ _ _)); (fail_if_success (with_reducible show wpAny _ _ (eval (Expr.GeneratorExp _ _ _ _) _) _ _ _)); (fail_if_success (with_reducible show wpAny _ _ (call (Value.builtin "any") _ _) _ _ _)); (fail_if_success (with_reducible show wpAny _ _ (call (Value.builtin "all") _ _) _ _ _)); (fail_if_success (with_reducible show wpAny _ _ (call (Value.ref _) _ _) _ _ _));  (first | (k_unfold; (try dsimp only)) | walk1 | (dsimp only; walk1) | (leave1; walk_say "STEP leave1"; try dsimp only) | fail "no step")))
    rename Fr _ _ _ _ => F5
    rename News _ _ _ _ => N5
    rename _ = Data.cell (some _) => d5
    dsimp only at d5
    obtain ⟨tp, d5⟩ := cell_tok d5
    refine comp_core (as := rangeKs 0 6) (Rel := IntRel) (G := fun a y => ∃ t, y = .int (Int.ofNat (((pm ^^^ 1) >>> (5 * (5 - a.toNat))) &&& 31)) t) intRel_inj F5 N5 rfl (by decide) rfl (by decide) rfl ?_
    (repeat' ((fail_if_success (with_reducible show Fr _ _ _ _ ∧ _)); (fail_if_success (with_reducible show wpAny _ _ (exec (Stmt.For _ _ _ _ _) _) _ _ _)); (fail_if_success (with_reducible show wpAny _ _ (eval (Expr.ListComp _ _ _ _) _) _ _ _)); (fail_if_success (with_reducible show wpAny _ _ (exec (Stmt.Assign [_] (Expr.ListComp _ _ _ _) _) _) _ _ _)); (fail_if_success (with_reducible show wpAny _ _ (eval (Expr.GeneratorExp _ _ _ _) _) _ _ _)); (fail_if_success (with_reducible show wpAny _ _ (call (Value.builtin "any") _ _) _ _ _)); (fail_if_success (with_reducible show wpAny _ _ (call (Value.builtin "all") _ _) _ _ _)); (fail_if_success (with_reducible show wpAny _ _ (call (Value.ref _) _ _) _ _ _));  (first | (k_unfold; (try dsimp only)) | walk1 | (dsimp only; walk1) | (leave1; walk_say "STEP leave1"; try dsimp only) | fail "no step")))
    rename Fr _ _ _ _ => F6
    rename News _ _ _ _ => N6
    rename IsRange _ _ _ _ _ _ _ _ => R6
    refine ⟨F6, N6, ?_, comp_range rfl R6 (by decide) (by rfl), Nat.le_of_ble_eq_true rfl, ?_⟩
    · rintro C a v s₃ m₃ E' ha ⟨u, rfl⟩ F7 hx
      have KX := KX.keeps F6.keep
      have T := T.keeps F6.keep
      have hcell := isCell_of N6 (.head _) d5
      have ha' : a = 0 ∨ a = 1 ∨ a = 2 ∨ a = 3 ∨ a = 4 ∨ a = 5 := by
        rw [show rangeKs 0 6 = [0, 1, 2, 3, 4, 5] from by decide] at ha
        simpa using ha
      clear ha
      rcases ha' with rfl | rfl | rfl | rfl | rfl | rfl
      all_goals (repeat' ((fail_if_success (with_reducible show Fr _ _ _ _ ∧ _)); (fail_if_success (with_reducible show wpAny _ _ (exec (Stmt.For _ _ _ _ _) _) _ _ _)); (fail_if_success (with_reducible show wpAny _ _ (eval (Expr.ListComp _ _ _ _) _) _ _ _)); (fail_if_success (with_reducible show wpAny _ _ (exec (Stmt.Assign [_] (Expr.ListComp _ _ _ _) _) _) _ _ _)); (fail_if_success (with_reducible show wpAny _ _ (eval (Expr.GeneratorExp _ _ _ _) _) _ _ _)); (fail_if_success (with_reducible show wpAny _ _ (call (Value.builtin "any") _ _) _ _ _)); (fail_if_success (with_reducible show wpAny _ _ (call (Value.builtin "all") _ _) _ _ _)); (fail_if_success (with_reducible show wpAny _ _ (call (Value.ref _) _ _) _ _ _));  (first | (k_unfold; (try dsimp only)) | walk1 | (dsimp only; walk1) | (leave1; walk_say "STEP leave1"; try dsimp only) | fail "no step")))
      all_goals exact ⟨_, _, rfl, fun _ _ e => e⟩
    · intro D n h' tk' ys F7 N7 hys hkeep hD
      dsimp only at F7 N7 ⊢
      (repeat' ((fail_if_success (with_reducible show Fr _ _ _ _ ∧ _)); (fail_if_success (with_reducible show wpAny _ _ (exec (Stmt.For _ _ _ _ _) _) _ _ _)); (fail_if_success (with_reducible show wpAny _ _ (eval (Expr.ListComp _ _ _ _) _) _ _ _)); (fail_if_success (with_reducible show wpAny _ _ (exec (Stmt.Assign [_] (Expr.ListComp _ _ _ _) _) _) _ _ _)); (fail_if_success (with_reducible show wpAny _ _ (eval (Expr.GeneratorExp _ _ _ _) _) _ _ _)); (fail_if_success (with_reducible show wpAny _ _ (call (Value.builtin "any") _ _) _ _ _)); (fail_if_success (with_reducible show wpAny _ _ (call (Value.builtin "all") _ _) _ _ _)); (fail_if_success (with_reducible show wpAny _ _ (call (Value.ref _) _ _) _ _ _));  (first | (k_unfold; (try dsimp only)) | walk1 | (dsimp only; walk1) | (leave1; walk_say "STEP leave1"; try dsimp only) | fail "no step")))
      subst hQ'
      refine hQ D ys.toList n h' tk' F7.keep (N7.fresh (.head _)) (by rw [Array.toArray_toList]; exact N7.get (.head _)) ?_
      exact ints_of_paired (f := fun (a : Int) => Int.ofNat (((pm ^^^ 1) >>> (5 * (5 - a.toNat))) &&& 31)) (fun a y h => h) hys
end Mine
end

section
open PySem PySem.W PySem.Calls PyProof.Rows
set_option Elab.async false
set_option maxRecDepth 100000
namespace Mine

local macro_rules | `(tactic| walk_at "eval Name") => `(tactic| ((with_reducible show wpAny _ _ (eval (Expr.Name _ _) (genEnv _ _ _ _ _ _)) _ _ _); k_dflt (first
  | (refine' gm_ld ?F ?x ?_ ?k ?l; (case k => exact rfl); (case l => exact rfl); (case F => k_asm); (case x => first | assumption | exact rfl); k_whole)
  | (refine' gm_K ?F ?X ?T ?e ?_ ?g ?k ?l; (case g => exact rfl); (case k => exact rfl); (case l => exact rfl); (case F => k_asm); (case X => k_asm); (case T => k_asm); (case e => k_is); k_whole)
  | (refine' gm_B ?F ?X ?T ?e ?v ?n ?_ ?g ?k ?l; (case g => exact rfl); (case k => exact rfl); (case l => exact rfl); (case F => k_asm); (case X => k_asm); (case T => k_asm); (case e => k_is); (case v => boot_fast); (case n => decide); k_whole))))
local macro_rules | `(tactic| walk_at "eval Name") => `(tactic| ((with_reducible show wpAny _ _ (eval (Expr.Name _ _) (compEnvC _ _ _ _)) _ _ _); k_dflt (first
  | (refine' cm_ld ?F ?x ?_ ?k ?l; (case F => k_asm); (case x => first | assumption | exact rfl); (case k => exact rfl); (case l => exact rfl); k_whole)
  | (refine' cm_cell ?F ?c ?v ?_ ?k ?l; (case k => exact rfl); (case l => exact rfl); (case F => k_asm); (case c => exact rfl); (case v => assumption); k_whole)
  | (refine' cm_K ?F ?X ?T ?e ?_ ?g ?k ?l; (case F => k_asm); (case X => k_asm); (case T => k_asm); (case g => exact rfl); (case k => exact rfl); (case l => exact rfl); (case e => k_is); k_whole)
  | (refine' cm_B ?F ?X ?T ?e ?v ?n ?_ ?g ?b ?k ?l; (case F => k_asm); (case X => k_asm); (case T => k_asm); (case g => exact rfl); (case b => exact rfl); (case k => exact rfl); (case l => exact rfl); (case e => k_is); (case v => boot_fast); (case n => decide); k_whole))))
local macro_rules | `(tactic| walk_at "binaryOp BitAnd int int") => `(tactic| (k_dflt (refine' and_nat ?h1 ?h2 ?_; (case h1 => exact rfl); (case h2 => exact rfl))))
local macro_rules | `(tactic| walk_at "binaryOp BitXor int int") => `(tactic| (k_dflt (refine' xor_nat ?h1 ?h2 ?_; (case h1 => exact rfl); (case h2 => exact rfl))))
local macro_rules | `(tactic| walk_at "inplaceOp BitXor int int") => `(tactic| (k_dflt (refine' ixor_nat ?h1 ?h2 ?_; (case h1 => exact rfl); (case h2 => exact rfl))))
local macro_rules | `(tactic| walk_at "binaryOp RShift int int") => `(tactic| (k_dflt (refine' shr_nat ?h1 ?h2 ?_; (case h1 => exact rfl); (case h2 => exact rfl))))
local macro_rules | `(tactic| walk_at "binaryOp LShift int int") => `(tactic| (k_dflt (refine' shl_nat ?h1 ?h2 ?h3 ?h4 ?_; (case h1 => exact rfl); (case h2 => exact rfl); (case h3 => decide); (case h4 => exact and25_lt _))))

def chs : List Nat := [113, 112, 122, 114, 121, 57, 120, 56, 103, 102, 50, 116, 118, 100, 119, 48, 115, 51, 106, 110, 53, 52, 107, 104, 99, 101, 54, 109, 117, 97, 55, 108]
def ch (d : Nat) : Nat := chs.getD d 0
def encL (c : Nat) (ns : List Nat) : List Nat := [c, 49] ++ (ns ++ csN c ns).map ch
def encN (c : Nat) (ns : List Nat) : Str := ⟨(encL c ns).toArray⟩
theorem chs_item : ∀ d < 32, Txt.item (PySem.Str.ofString "qpzry9x8gf2tvdw0s3jn54khce6mua7l") (Int.ofNat d) = ⟨#[ch d]⟩ := by decide +kernel
theorem small_fits : ∀ d < 128, fitsSsize (Int.ofNat d) = true := by decide +kernel
theorem join_signs (cs : List Nat) : Txt.join (PySem.Str.ofString "") (cs.map fun c => (⟨#[c]⟩ : Str)) = ⟨cs.toArray⟩ := by
  unfold Txt.join
  rw [StrLaws.glued_eq_join]
  induction cs with
  | nil => rfl
  | cons a r ih =>
    cases r with
    | nil => rfl
    | cons b r =>
      show (⟨#[a]⟩ : Str) ++ PySem.Str.ofString "" ++ Str.join (PySem.Str.ofString "") ((b :: r).map fun c => (⟨#[c]⟩ : Str)) = _
      rw [ih]
      show (⟨(#[a] ++ #[]) ++ (b :: r).toArray⟩ : Str) = _
      simp
theorem join_ok (cs : List Nat) (h : cs.length ≤ 1000) : JoinOk (PySem.Str.ofString "") (cs.map fun c => (⟨#[c]⟩ : Str)) = true := by
  unfold JoinOk
  rw [StrLaws.joinFits (B := 1)]
  · rfl
  · intro y hy
    obtain ⟨c, _, rfl⟩ := List.mem_map.mp hy
    exact Nat.le_refl _
  · rw [List.length_map]
    show cs.length * 1 + cs.length * 0 ≤ _
    omega
theorem strs_of_paired {α : Type} {f : α → Nat} : ∀ {as : List α} {ys : List Value}, Paired (fun a y => ∃ t, y = Value.str ⟨#[f a]⟩ t) as ys → ∃ l, ys = strValues l ∧ l.map (·.1) = (as.map f).map fun c => (⟨#[c]⟩ : Str) := by
  intro as ys h
  induction h with
  | nil => exact ⟨[], rfl, rfl⟩
  | cons h1 _ ih =>
    obtain ⟨t, rfl⟩ := h1
    obtain ⟨l, rfl, h2⟩ := ih
    exact ⟨(_, t) :: l, rfl, by simp [h2]⟩
theorem nInts_ch (l : List Nat) : (nInts l).map (fun a : Int => ch a.toNat) = l.map ch := by
  rw [List.map_map]; rfl
theorem enc_glue (c : Nat) (ns : List Nat) : (⟨#[c]⟩ : Str) ++ PySem.Str.ofString "1" ++ ⟨((ns ++ csN c ns).map ch).toArray⟩ = encN c ns := by
  show (⟨(#[c] ++ #[49]) ++ ((ns ++ csN c ns).map ch).toArray⟩ : Str) = ⟨([c, 49] ++ (ns ++ csN c ns).map ch).toArray⟩
  simp
theorem nInts_append (a b : List Nat) : nInts (a ++ b) = nInts a ++ nInts b := by simp
theorem csN_lt (c : Nat) (ns : List Nat) : ∀ d ∈ csN c ns, d < 32 := by
  intro d hd
  simp only [csN, unpackN, List.mem_cons, List.not_mem_nil, or_false] at hd
  rcases hd with rfl | rfl | rfl | rfl | rfl | rfl <;> exact Nat.lt_of_le_of_lt Nat.and_le_right (by decide)
set_option maxHeartbeats 4000000 in
theorem encode_c {prog : Program} {w : World} {dp un : Nat} {fr : Option (List Env)} {gd : Option (List Code)} {s : Shared} {mg mb : Str → Option Value} {c : Nat} {t : Tok} {l : Addr} {vs : List Value} {ns : List Nat} {Q E : Value → Shared → Prop}
   (B : Base w mg mb s.heap) (hd : dp + 10 < recursionLimit) (hu : un + 60 < cLine) (hl : s.heap.IsList l vs.toArray) (hi : IntsAre vs (nInts ns)) (hn : ns.length < 50) (hb : ∀ n ∈ ns, n < 32)
   (hQ : ∀ t' h' tk', s.heap.StaysIn h' → Q (.str (encN c ns) t') { s with heap := h', toks := tk' }) :
   wpAny (model prog w) (At dp un fr gd) (call (.ref 43) [.str ⟨#[c]⟩ t, .ref l]) Q E s := by
  have KX := B.K
  have T := B.T
  refine call_pure KX T.nolimit (show dp < recursionLimit by omega) rfl rfl (binds := [(PySem.Str.ofString "hrp", .str ⟨#[c]⟩ t), (PySem.Str.ofString "data", .ref l)]) ?_ ?_ ?_ (by decide)
  · exact BindsTo.of_eq rfl
  · exact locs rfl
  · intro L h₁ F N
    generalize hQ' : (fun fl s' => Q (match fl with | .ret v => v | _ => .none) s' : Flow → Shared → Prop) = Q'
    (repeat' ((fail_if_success (with_reducible show Fr _ _ _ _ ∧ _)); (fail_if_success (with_reducible show wpAny _ _ (exec (Stmt.For _ _ _ _ _) _) _ _ _)); (fail_if_success (with_reducible show wpAny _ _ (eval (Expr.ListComp _ _ _ _) _) _ _ _)); (fail_if_success (with_reducible show wpAny _ _ (exec (Stmt.Assign [_] (Expr.ListComp _ _ _ _) _) _) _ _ _)); (fail_if_success (with_reducible show wpAny _ _ (eval (Expr.GeneratorExp _ _ _ _) _) _ _ _)); (fail_if_success (with_reducible show wpAny _ _ (call (Value.builtin "any") _ _) _ _ _)); (fail_if_success (with_reducible show wpAny _ _ (call (Value.builtin "all") _ _) _ _ _)); (fail_if_success (with_reducible show wpAny _ _ (call (Value.ref _) _ _) _ _ _));  (first | (k_unfold; (try dsimp only)) | walk1 | (dsimp only; walk1) | (leave1; walk_say "STEP leave1"; try dsimp only) | fail "no step")))
    rename Fr _ _ _ _ => F1
    rename News _ _ _ _ => N1
    refine create_c (ns := ns) (dp := dp + 1) (un := un + 3) (B.keeps F1.keep) (by omega) (by omega) (hl.at fun o e => F1.keep _ o e) hi (by omega) ?_
    intro r ws n1 h2 tk2 hk2 hr2 hg2 hi2
    have F2 := F1.keeps hk2
    have N2 := news_new F1 hr2 hg2 (N1.grown hk2)
    clear N1 F1
    have hcs : (nInts (csN c ns)).length = 6 := by simp [csN, unpackN]
    (repeat' ((fail_if_success (with_reducible show Fr _ _ _ _ ∧ _)); (fail_if_success (with_reducible show wpAny _ _ (exec (Stmt.For _ _ _ _ _) _) _ _ _)); (fail_if_success (with_reducible show wpAny _ _ (eval (Expr.ListComp _ _ _ _) _) _ _ _)); (fail_if_success (with_reducible show wpAny _ _ (exec (Stmt.Assign [_] (Expr.ListComp _ _ _ _) _) _) _ _ _)); (fail_if_success (with_reducible show wpAny _ _ (eval (Expr.GeneratorExp _ _ _ _) _) _ _ _)); (fail_if_success (with_reducible show wpAny _ _ (call (Value.builtin "any") _ _) _ _ _)); (fail_if_success (with_reducible show wpAny _ _ (call (Value.builtin "all") _ _) _ _ _)); (fail_if_success (with_reducible show wpAny _ _ (call (Value.ref _) _ _) _ _ _));  (first | (k_unfold; (try dsimp only)) | walk1 | (dsimp only; walk1) | (leave1; walk_say "STEP leave1"; try dsimp only) | fail "no step")))
    rename Fr _ _ _ _ => F3
    rename News _ _ _ _ => N3
    rename IntsAre _ (_ ++ _) => hi3
    have hsm : ∀ d ∈ ns ++ csN c ns, d < 32 := fun d hd => (List.mem_append.mp hd).elim (hb d) (csN_lt c ns d)
    refine comp_core (as := nInts (ns ++ csN c ns)) (Rel := IntRel) (G := fun a y => ∃ t, y = .str ⟨#[ch a.toNat]⟩ t) intRel_inj F3 N3 rfl (by decide) rfl (by decide) rfl ?_
    refine ld F3 rfl ⟨F3, N3, ?_, comp_list rfl (N3.isList (.head _)) (by rw [nInts_append]; exact paired_ints hi3), (by rw [List.length_map, List.length_append]; have : (csN c ns).length = 6 := rfl; rw [this]; exact Nat.le_trans (by omega : _ ≤ 100) (Nat.le_of_ble_eq_true rfl)), ?_⟩
    · rintro C a v s₃ m₃ E' ha ⟨u, rfl⟩ F7 hx
      have KX := KX.keeps F3.keep
      have T := T.keeps F3.keep
      obtain ⟨d, hd, rfl⟩ := List.mem_map.mp ha
      have hd32 := hsm d hd
      (repeat' ((fail_if_success (with_reducible show Fr _ _ _ _ ∧ _)); (fail_if_success (with_reducible show wpAny _ _ (exec (Stmt.For _ _ _ _ _) _) _ _ _)); (fail_if_success (with_reducible show wpAny _ _ (eval (Expr.ListComp _ _ _ _) _) _ _ _)); (fail_if_success (with_reducible show wpAny _ _ (exec (Stmt.Assign [_] (Expr.ListComp _ _ _ _) _) _) _ _ _)); (fail_if_success (with_reducible show wpAny _ _ (eval (Expr.GeneratorExp _ _ _ _) _) _ _ _)); (fail_if_success (with_reducible show wpAny _ _ (call (Value.builtin "any") _ _) _ _ _)); (fail_if_success (with_reducible show wpAny _ _ (call (Value.builtin "all") _ _) _ _ _)); (fail_if_success (with_reducible show wpAny _ _ (call (Value.ref _) _ _) _ _ _));  (first | (k_unfold; (try dsimp only)) | walk1 | (dsimp only; walk1) | (leave1; walk_say "STEP leave1"; try dsimp only) | fail "no step")))
      refine item_str (small_fits d (by omega)) (Int.le_trans (by decide) (Int.natCast_nonneg d)) (by show (d : Int) < 32; omega) (fun _ => ?_)
      exact ⟨⟨_, by rw [chs_item d hd32]; rfl⟩, _, _, rfl, fun _ _ e => e⟩
    · intro D n h' tk' ys F7 N7 hys hkeep hD
      obtain ⟨l, hy, hl'⟩ := strs_of_paired (f := fun a : Int => ch a.toNat) hys
      dsimp only at F7 N7 ⊢
      (repeat' ((fail_if_success (with_reducible show Fr _ _ _ _ ∧ _)); (fail_if_success (with_reducible show wpAny _ _ (exec (Stmt.For _ _ _ _ _) _) _ _ _)); (fail_if_success (with_reducible show wpAny _ _ (eval (Expr.ListComp _ _ _ _) _) _ _ _)); (fail_if_success (with_reducible show wpAny _ _ (exec (Stmt.Assign [_] (Expr.ListComp _ _ _ _) _) _) _ _ _)); (fail_if_success (with_reducible show wpAny _ _ (eval (Expr.GeneratorExp _ _ _ _) _) _ _ _)); (fail_if_success (with_reducible show wpAny _ _ (call (Value.builtin "any") _ _) _ _ _)); (fail_if_success (with_reducible show wpAny _ _ (call (Value.builtin "all") _ _) _ _ _)); (fail_if_success (with_reducible show wpAny _ _ (call (Value.ref _) _ _) _ _ _));  (first | (k_unfold; (try dsimp only)) | walk1 | (dsimp only; walk1) | (leave1; walk_say "STEP leave1"; try dsimp only) | fail "no step")))
      have hDl : h'.IsList D (strValues l).toArray := by
        have := N7.isList (List.Mem.head _)
        rw [← hy, Array.toArray_toList]; exact this
      refine SC.join hDl hl' (join_ok _ (by simp; have : (csN c ns).length = 6 := rfl; omega)) ?_
      intro t3 k3
      rw [join_signs, nInts_ch]
      have hlen : ((ns ++ csN c ns).map ch).length ≤ 100 := by
        rw [List.length_map, List.length_append]; have : (csN c ns).length = 6 := rfl; omega
      refine PyProof.Rows.add_str (fun t9 tk9 => ?_) (Nat.le_trans (show (2 : Nat) + ((ns ++ csN c ns).map ch).length ≤ 102 by omega) (Nat.le_of_ble_eq_true rfl))
      rw [enc_glue]
      (repeat' ((fail_if_success (with_reducible show Fr _ _ _ _ ∧ _)); (fail_if_success (with_reducible show wpAny _ _ (exec (Stmt.For _ _ _ _ _) _) _ _ _)); (fail_if_success (with_reducible show wpAny _ _ (eval (Expr.ListComp _ _ _ _) _) _ _ _)); (fail_if_success (with_reducible show wpAny _ _ (exec (Stmt.Assign [_] (Expr.ListComp _ _ _ _) _) _) _ _ _)); (fail_if_success (with_reducible show wpAny _ _ (eval (Expr.GeneratorExp _ _ _ _) _) _ _ _)); (fail_if_success (with_reducible show wpAny _ _ (call (Value.builtin "any") _ _) _ _ _)); (fail_if_success (with_reducible show wpAny _ _ (call (Value.builtin "all") _ _) _ _ _)); (fail_if_success (with_reducible show wpAny _ _ (call (Value.ref _) _ _) _ _ _));  (first | (k_unfold; (try dsimp only)) | walk1 | (dsimp only; walk1) | (leave1; walk_say "STEP leave1"; try dsimp only) | fail "no step")))
      subst hQ'
      exact hQ _ _ _ F7.keep
end Mine
end

section
open PySem PySem.W PySem.Calls PySem.Spec PyProof.Rows
set_option Elab.async false
set_option maxRecDepth 100000
namespace Mine
/-- the table of a code object: its generator expressions' own code objects -/
def tabO (ps : Array Value) : Obj := { cls := .none, data := .fields ps }
section
variable {w : World} {h : Heap} {ps : Array Value}
theorem code47 (X : (hd1.heap_39 w.params).In h) (hP : h.get? 45 = some (tabO ps)) (htr : TriplesOk ps.toList) : h.IsCode 47 45 ps ∧ h.TableAt 47 45 ps := by
  have ho := X 47 _ rfl
  exact ⟨⟨_, _, _, _, _, _, _, _, _, _, ho, rfl, rfl, rfl, rfl, rfl, rfl, hP, rfl, htr, by decide⟩, ⟨⟨_, _, ho, rfl, rfl, rfl⟩, hP⟩⟩
end
section
variable {prog : Program} {w : World} {A : Around} {E : Value → Shared → Prop} {s : Shared} {h₀ : Heap} {L : Addr} {m mg : Str → Option Value} {news : List (Addr × Obj)} {env : Env} {ps : Array Value} {bm : Addr} {ob : Obj}

theorem genexprCode_any {M : Model} {pos : Pos} {qualname : Str} {scope : Scope} {Q : Value → Shared → Prop} (hc : env.code = .ref 47) (X : (hd1.heap_39 w.params).In s.heap) (hP : s.heap.get? 45 = some (tabO ps)) (htr : TriplesOk ps.toList)
    (hQ : ∀ code h' tk more, Heap.ExtBut 45 s.heap h' → s.heap.objs.size ≤ h'.objs.size → h'.get? 45 = some (tabO (ps ++ more)) → TriplesOk (ps ++ more).toList → Q code { s with heap := h', toks := tk }) :
    wpAny M A (genexprCode env pos qualname scope) Q E s := by
  obtain ⟨hok, htab⟩ := code47 X hP htr
  cases hnf : codeAmong pos ps.toList with
  | none =>
    refine wpAny_genexprCodeX hc hok htab hnf fun c' h' tk hx hge hlt hcode _ htab' _ => ?_
    refine hQ _ h' tk _ hx (Nat.le_trans hge (Nat.le_of_lt hlt)) htab'.2 ?_
    obtain ⟨_, _, _, _, _, _, _, _, _, _, _, _, _, _, _, _, _, _, _, htr', _⟩ := hcode
    exact htr'
  | some cv =>
    obtain ⟨o, vs, file, tf, flags, tg, inF, text, tt, op, ho, hd, h11, h2, h7, h9, h10, hop, hpd, htr, hne⟩ := id hok
    unfold genexprCode codeAt
    rw [hc, if_neg (show ¬ ((Value.ref 47 == Value.none) = true) from Bool.false_ne_true)]
    refine wpAny_bind (wpAny_fieldsOf ho hd ?_)
    rw [h11]
    refine wpAny_bind (wpAny_fieldsOf hop hpd ?_)
    rw [hnf]
    exact wpAny_pure (hQ cv s.heap s.toks #[] (Heap.ExtBut.refl _ _) (Nat.le_refl _) (by rw [Array.append_empty]; exact hP) (by rw [Array.append_empty]; exact htr))

/-- a generator expression over a text, in the def whose code object is 47 -/
theorem genexp_str {q : Nat → Bool} {elt iter : Expr} {x : Str} {px : Pos} {scope : Scope} {cl : List (Str × Addr)} {pos : Pos} {Q : Value → Shared → Prop}
    (X : (hd1.heap_39 w.params).In h₀) (hM : BMod h₀ mainGlobals mg bm ob) (hlim : h₀.NoLimit) (_F : Fr h₀ L s.heap m) (_N : News h₀ L s.heap ((45, tabO ps) :: news)) (htr : TriplesOk ps.toList) (hnd : ∀ p ∈ news, p.1 ≠ 45)
    (hcode : env.code = .ref 47) (hgl : env.globals = mainGlobals) (hbl : env.builtins = builtinsNs)
    (hh : A.handled = none) (hco : scope.isCoroutine = false) (hclos : closureFor scope env = pure cl) (hcell : ∀ y ∈ scope.names, y.2 ≠ .cell) (h0 : scope.names.lookup (".0" : Str) = some NameKind.local)
    (hx : scope.names.lookup x = some .local) (hkind : scope.kind = .function) (hroom : A.depth < recursionLimit)
    (h : wpAny (model prog w) A (eval iter env) (fun xv s₁ => ∃ y t, xv = .str y t ∧ Fr h₀ L s₁.heap m ∧ News h₀ L s₁.heap ((45, tabO ps) :: news) ∧ AllBare s₁.gens ∧
      (∀ (code : Value) (C : Addr) (A' : Around) E' c u (t : Shared) m₂, A'.handled = none → A'.depth ≤ A.depth + 1 → A'.units ≤ A.units + 8 → c ∈ y.cps.toList → Fr h₀ C t.heap m₂ → m₂ x = some (.str ⟨#[c]⟩ u) →
        wpAny (model prog w) A' (eval elt (genEnv scope cl C code builtinsNs env)) (fun z s₃ => z = .bool (q c) ∧ Keeps t s₃) E' t) ∧
      (∀ (a Kb : Addr) (s₅ : Shared) (more : Array Value), Fr h₀ L s₅.heap m → News h₀ L s₅.heap ((45, tabO (ps ++ more)) :: news) → TriplesOk (ps ++ more).toList → AllBare s₅.gens → s₅.os = s₁.os →
        (∀ p ∈ (45, tabO (ps ++ more)) :: news, p.1 ≤ Kb) → L ≤ Kb → GenOnD prog w A Kb a y.cps.toList (fun _ => true) (fun c => .bool (q c)) s₅ → Q (.ref a) s₅)) E s)
    (hs : ∀ x, genFold iter env x = pure x) :
    wpAny (model prog w) A (eval (.GeneratorExp elt [⟨.Name x px, iter, [], 0⟩] scope pos) env) Q E s := by
  refine wpAny_GeneratorExp_walksQD hh hco hclos hcell h0 hx hkind hroom (wpAny_mono h (fun xv s₁ h₁' => ?_) fun _ _ e => e) hs
  obtain ⟨y, t, rfl, F₁, N₁, G₁, hel, hQ⟩ := h₁'
  refine wpAny_pyIter_str fun o St W₀ hst => ?_
  have up : ∀ b o', s₁.heap.get? b = some o' → (s₁.heap.push o).get? b = some o' := fun b o' e => Heap.get?_push_of_some _ e
  have F₂ := F₁.keeps up
  have N₂ : News h₀ L (s₁.heap.push o) ((45, tabO ps) :: news) := N₁.grown up
  have X₂ : (hd1.heap_39 w.params).In (s₁.heap.push o) := X.keeps F₂.keep
  refine ⟨hlim.keeps F₂.keep, genexprCode_any (w := w) (ps := ps) hcode X₂ (N₂.get (.head _)) htr fun code h₃ tk₃ more hx₃ hsz hP₃ htr₃ => ?_⟩
  dsimp only at hx₃ hsz
  have h45 : h₀.get? 45 = none := (N₁ _ (.head _)).2.2
  have kept₀ : ∀ b o', h₀.get? b = some o' → h₃.get? b = some o' := fun b o' e => hx₃ b o' (fun eb => by rw [eb, h45] at e; cases e) (F₂.keep b o' e)
  have hL45 : L ≠ 45 := Ne.symm (N₁ _ (.head _)).2.1
  have F₃ : Fr h₀ L h₃ m := ⟨F₂.ns.extBut hx₃ hL45, kept₀, F₂.above⟩
  have M₃ := hM.keeps kept₀
  have hl₃ : h₃.NoLimit := hlim.keeps kept₀
  rw [hgl, hbl]
  refine wpAny_builtinsFor M₃.ns M₃.name M₃.ne M₃.obj M₃.cls M₃.dict M₃.data ?_
  have hI45 : s₁.heap.objs.size ≠ 45 := fun e => by
    have := Heap.lt_size (N₁.get (List.Mem.head _))
    rw [e] at this
    exact Nat.lt_irrefl _ this
  have hst₃ : St 0 h₃ := (W₀ A hh).frame _ _ _ hst fun b hb o e => hx₃ b o (fun eb => hI45 ((List.mem_singleton.mp hb).symm.trans eb)) e
  have hlt₃ : s₁.heap.objs.size < h₃.objs.size := Nat.lt_of_lt_of_le (by rw [Heap.size_push]; exact Nat.lt_succ_self _) hsz
  have hcs : cStatics < s₁.heap.objs.size := by
    obtain ⟨_, hn, _⟩ := hlim.keeps F₁.keep
    exact hn.lt
  have hcw : cStatics ∉ [s₁.heap.objs.size] := fun hm => by
    have e := List.mem_singleton.mp hm
    rw [← e] at hcs
    exact Nat.lt_irrefl _ hcs
  have hLs : L < s₁.heap.objs.size := F₁.ns.lt
  refine ⟨s₁.heap.objs.size, [s₁.heap.objs.size], [s₁.heap.objs.size], y.cps.size, SignAt y, St, fun _ => true, fun i z => ∃ c, y.cps[i]? = some c ∧ z = .bool (q c), rfl, W₀, hst₃,
    (fun b hb => by rw [List.mem_singleton.mp hb]; exact hlt₃), hl₃, hcw, (fun href hhref => ?_), fun a h₅ tk gs hgb hag hsz₅ hk₅ W hat => ?_⟩
  · have inB : ∀ (t : Shared) m₂, t.heap.Ns h₃.objs.size m₂ → (∀ b ∈ List.range h₃.objs.size, b ∉ [s₁.heap.objs.size] → ∀ o, href.get? b = some o → t.heap.get? b = some o) → Fr h₀ h₃.objs.size t.heap m₂ := fun t m₂ hn hkp =>
      ⟨hn, fun b o e => hkp b (List.mem_range.mpr (Heap.lt_size (kept₀ b o e))) (fun hm => by
          have e1 := List.mem_singleton.mp hm
          have := Heap.lt_size (F₁.keep b o e)
          rw [e1] at this
          exact Nat.lt_irrefl _ this) o (hhref b o (kept₀ b o e)),
        Nat.le_trans F₁.above (Nat.le_of_lt (Nat.lt_trans hLs hlt₃))⟩
    refine ⟨fun A' E' i v t m₂ hA hD hU hP hn hm hkp => wpAny_pure ⟨rfl, _, _, rfl, fun _ _ e => e⟩, ?_⟩
    rintro A' E' i v t m₂ hA hD hU ⟨c, u, hc, rfl⟩ _ hn hm hkp
    refine wpAny_mono (hel code _ A' E' c u t m₂ hA hD hU (List.mem_of_getElem? (by simpa using hc)) (inB t m₂ hn hkp) hm) (fun z s₃ hz => ⟨⟨c, hc, hz.1⟩, hz.2⟩) fun _ _ e => e
  · refine hQ a (s₁.heap.objs.size - 1) _ more (F₃.keeps hk₅) (fun p hp => ?_) htr₃ (G₁.push hgb) rfl (fun p hp => ?_) (Nat.le_sub_one_of_lt hLs) ?_
    · rcases List.mem_cons.mp hp with rfl | hp
      · exact ⟨hk₅ _ _ hP₃, (N₁ _ (.head _)).2⟩
      · have hp' := N₁ p (.tail _ hp)
        exact ⟨hk₅ _ _ (hx₃ _ _ (hnd p hp) (up _ _ hp'.1)), hp'.2⟩
    · have : p.1 < s₁.heap.objs.size := by
        rcases List.mem_cons.mp hp with rfl | hp
        · exact Heap.lt_size (N₁.get (List.Mem.head _))
        · exact Heap.lt_size (N₁ p (.tail _ hp)).1
      exact Nat.le_sub_one_of_lt this
    · have hpass : passing (fun _ => true) y.cps.size 0 = List.range y.cps.toList.length := by simp [passing]
      have hfil : y.cps.toList.filter (fun _ => true) = y.cps.toList := List.filter_eq_self.mpr fun _ _ => rfl
      have X₅ : Gen prog w A (s₁.heap.objs.size - 1) a (passing (fun _ => true) y.cps.size 0).length (fun j z => ∃ i, (passing (fun _ => true) y.cps.size 0)[j]? = some i ∧ ∃ c, y.cps[i]? = some c ∧ z = .bool (q c)) { s₁ with heap := h₅, toks := tk, gens := s₁.gens.push gs } := by
        refine ⟨_, _, _, _, W, hat, (fun i s' st => st.1.typeIs), List.mem_cons_self, ?_, ?_⟩
        · intro b hb
          show b < h₅.objs.size
          rw [hsz₅]
          rcases List.mem_cons.mp hb with rfl | hb
          · exact Nat.lt_succ_self _
          · rcases List.mem_cons.mp hb with rfl | hb
            · exact Nat.lt_succ_of_lt hag
            · exact Nat.lt_succ_of_lt (Nat.lt_trans (List.mem_range.mp hb) hag)
        · intro b hb
          rcases List.mem_cons.mp hb with rfl | hb
          · exact Nat.lt_of_le_of_lt (Nat.sub_le _ _) hlt₃
          · rw [List.mem_singleton.mp hb]; exact Nat.sub_one_lt (Nat.ne_of_gt (Nat.lt_of_le_of_lt (Nat.zero_le _) hLs))
      unfold GenOnD
      rw [hfil]
      have hlen : (passing (fun _ => true) y.cps.size 0).length = y.cps.toList.length := by rw [hpass, List.length_range]
      rw [hlen] at X₅
      refine X₅.imp fun j z hz => ?_
      obtain ⟨i, hij, c, hc, rfl⟩ := hz
      rw [hpass] at hij
      have hji : i = j := by
        by_cases hj : j < y.cps.toList.length
        · rw [List.getElem?_range hj] at hij
          exact (Option.some.inj hij).symm
        · rw [List.getElem?_eq_none (by rw [List.length_range]; omega)] at hij
          cases hij
      subst hji
      exact ⟨c, by simpa using hc, .bool _⟩
end
end Mine
end

section
open PySem PySem.W PySem.Calls PyProof.Rows
set_option Elab.async false
set_option maxRecDepth 100000
namespace Mine

local macro_rules | `(tactic| walk_at "eval Name") => `(tactic| ((with_reducible show wpAny _ _ (eval (Expr.Name _ _) (genEnv _ _ _ _ _ _)) _ _ _); k_dflt (first
  | (refine' gm_ld ?F ?x ?_ ?k ?l; (case k => exact rfl); (case l => exact rfl); (case F => k_asm); (case x => first | assumption | exact rfl); k_whole)
  | (refine' gm_K ?F ?X ?T ?e ?_ ?g ?k ?l; (case g => exact rfl); (case k => exact rfl); (case l => exact rfl); (case F => k_asm); (case X => k_asm); (case T => k_asm); (case e => k_is); k_whole)
  | (refine' gm_B ?F ?X ?T ?e ?v ?n ?_ ?g ?k ?l; (case g => exact rfl); (case k => exact rfl); (case l => exact rfl); (case F => k_asm); (case X => k_asm); (case T => k_asm); (case e => k_is); (case v => boot_fast); (case n => decide); k_whole))))
local macro_rules | `(tactic| walk_at "eval Name") => `(tactic| ((with_reducible show wpAny _ _ (eval (Expr.Name _ _) (compEnvC _ _ _ _)) _ _ _); k_dflt (first
  | (refine' cm_ld ?F ?x ?_ ?k ?l; (case F => k_asm); (case x => first | assumption | exact rfl); (case k => exact rfl); (case l => exact rfl); k_whole)
  | (refine' cm_cell ?F ?c ?v ?_ ?k ?l; (case k => exact rfl); (case l => exact rfl); (case F => k_asm); (case c => exact rfl); (case v => assumption); k_whole)
  | (refine' cm_K ?F ?X ?T ?e ?_ ?g ?k ?l; (case F => k_asm); (case X => k_asm); (case T => k_asm); (case g => exact rfl); (case k => exact rfl); (case l => exact rfl); (case e => k_is); k_whole)
  | (refine' cm_B ?F ?X ?T ?e ?v ?n ?_ ?g ?b ?k ?l; (case F => k_asm); (case X => k_asm); (case T => k_asm); (case g => exact rfl); (case b => exact rfl); (case k => exact rfl); (case l => exact rfl); (case e => k_is); (case v => boot_fast); (case n => decide); k_whole))))
local macro_rules | `(tactic| walk_at "binaryOp BitAnd int int") => `(tactic| (k_dflt (refine' and_nat ?h1 ?h2 ?_; (case h1 => exact rfl); (case h2 => exact rfl))))
local macro_rules | `(tactic| walk_at "binaryOp BitXor int int") => `(tactic| (k_dflt (refine' xor_nat ?h1 ?h2 ?_; (case h1 => exact rfl); (case h2 => exact rfl))))
local macro_rules | `(tactic| walk_at "inplaceOp BitXor int int") => `(tactic| (k_dflt (refine' ixor_nat ?h1 ?h2 ?_; (case h1 => exact rfl); (case h2 => exact rfl))))
local macro_rules | `(tactic| walk_at "binaryOp RShift int int") => `(tactic| (k_dflt (refine' shr_nat ?h1 ?h2 ?_; (case h1 => exact rfl); (case h2 => exact rfl))))
local macro_rules | `(tactic| walk_at "binaryOp LShift int int") => `(tactic| (k_dflt (refine' shl_nat ?h1 ?h2 ?h3 ?h4 ?_; (case h1 => exact rfl); (case h2 => exact rfl); (case h3 => decide); (case h4 => exact and25_lt _))))

theorem hide_in {w : World} {h : Heap} (X : (hd1.heap_39 w.params).In h) : (hd1.heap_39 w.params).In (h.hide 45) := fun a o e =>
  (Heap.hide_ne h (fun ea => by rw [ea] at e; exact nomatch (show none = some o from e))).trans (X a o e)
theorem hide_ns {h : Heap} {a : Addr} {m : Str → Option Value} (x : h.Ns a m) (ha : a ≠ 45) : (h.hide 45).Ns a m :=
  let ⟨o, es, ep, ho, r⟩ := x; ⟨o, es, ep, (Heap.hide_ne h ha).trans ho, r⟩
theorem hide_top {p : Program} {loose : List Str} {mg mb : Str → Option Value} {h : Heap} (T : TopRead p loose mg mb h) : TopRead p loose mg mb (h.hide 45) :=
  ⟨hide_ns T.g (by decide), hide_ns T.b (by decide), let ⟨mc, h1, h2⟩ := T.nolimit; ⟨mc, hide_ns h1 (by decide), h2⟩, T.builtins, T.free⟩
theorem hide_mod {mg : Str → Option Value} {bm : Addr} {ob : Obj} {h : Heap} {ps : Array Value} (M : BMod h mainGlobals mg bm ob) (hP : h.get? 45 = some (tabO ps)) : BMod (h.hide 45) mainGlobals mg bm ob :=
  ⟨hide_ns M.ns (by decide), M.name, M.ne, (Heap.hide_ne h (fun e => by
    have ho := M.obj
    rw [e, hP] at ho
    cases ho
    exact nomatch M.cls)).trans M.obj, M.cls, M.dict, M.data⟩
theorem hide_fr {h h' : Heap} {L : Addr} {m : Str → Option Value} (F : Fr h L h' m) : Fr (h.hide 45) L h' m := ⟨F.ns, fun b o e => F.keep b o (Heap.of_hide e), by rw [Heap.hide_size]; exact F.above⟩
theorem hide_news {h h' : Heap} {L : Addr} {m : Str → Option Value} {ps : Array Value} (F : Fr h L h' m) (hP : h.get? 45 = some (tabO ps)) : News (h.hide 45) L h' [(45, tabO ps)] := fun p hp => by
  rw [List.mem_singleton.mp hp]
  refine ⟨F.keep _ _ hP, ?_, Heap.hide_self _ _⟩
  intro e
  have h1 := Heap.lt_size hP
  have h2 := F.above
  exact absurd (Nat.lt_of_lt_of_le h1 h2) (by rw [← e]; exact Nat.lt_irrefl _)
/-- what a call leaves that may grow the table at 45 -/
structure After (ps : Array Value) (s s' : Shared) : Prop where
  keep : ∀ b o, b ≠ 45 → s.heap.get? b = some o → s'.heap.get? b = some o
  tab : ∃ more, s'.heap.get? 45 = some (tabO (ps ++ more)) ∧ PySem.TriplesOk (ps ++ more).toList
  bare : PyProof.Rows.AllBare s'.gens
  os : s'.os = s.os
/-- a text that the decoder takes apart: the letter, the 1, the signs of ds -/
structure DecText (x : Str) (c : Nat) (ds : List Nat) : Prop where
  signs : ∀ e ∈ x.cps.toList, 33 ≤ e ∧ e ≤ 126
  lower : Txt.lower x = x
  len : x.length = 2 + ds.length
  rfind : Txt.rfind x (PySem.Str.ofString "1") = 1
  head : Txt.slice x none (some 1) = ⟨#[c]⟩
  tail : Txt.slice x (some 2) none = ⟨(ds.map ch).toArray⟩
def tupO (its : Array Value) : Obj := { cls := .type "tuple", data := .seq its }
/-- what the decoder hands back -/
def DecRes (h h' : Heap) (c : Nat) (ds : List Nat) (v : Value) : Prop :=
  if pmN ([c >>> 5, 0, c &&& 31] ++ ds) = 1 then
    ∃ (r l : Addr) (t : Tok) (vs : List Value) (n : Nat), v = .ref r ∧ h'.get? r = some (tupO #[.str ⟨#[c]⟩ t, .ref l]) ∧ h'.get? l = some (W.listOf vs.toArray n) ∧ IntsAre vs (nInts (ds.take (ds.length - 6))) ∧ h.get? r = none ∧ h.get? l = none
  else ∃ r, v = .ref r ∧ h'.get? r = some (tupO #[.none, .none]) ∧ h.get? r = none
theorem not45 {h₀ h : Heap} {L r : Addr} {o : Obj} {ps : Array Value} {news : List (Addr × Obj)} (N : News h₀ L h news) (hm : (r, o) ∈ news) (hm' : (45, tabO ps) ∈ news) (ho : o.cls ≠ .none) : r ≠ 45 := fun e => by
  have h1 := N.get hm
  rw [e, N.get hm'] at h1
  exact ho (by rw [← Option.some.inj h1]; rfl)
theorem fresh45 {h h' : Heap} {L r : Addr} {o : Obj} {ps : Array Value} {news : List (Addr × Obj)} (N : News (h.hide 45) L h' news) (hm : (r, o) ∈ news) (hm' : (45, tabO ps) ∈ news) (ho : o.cls ≠ .none) : h.get? r = none :=
  (Heap.hide_ne h (not45 N hm hm' ho)).symm.trans (N.fresh hm)
theorem after_of {s : Shared} {L : Addr} {m : Str → Option Value} {ps more more2 : Array Value} {news : List (Addr × Obj)} {s' : Shared} (F : Fr (s.heap.hide 45) L s'.heap m) (N : News (s.heap.hide 45) L s'.heap news)
    (hm : (45, tabO (ps ++ more ++ more2)) ∈ news) (htr : PySem.TriplesOk (ps ++ more ++ more2).toList) (hg : PyProof.Rows.AllBare s'.gens) (hos : s'.os = s.os) : After ps s s' :=
  ⟨fun b o hb e => F.keep b o ((Heap.hide_ne _ hb).trans e), ⟨more ++ more2, by rw [← Array.append_assoc]; exact N.get hm, by rw [← Array.append_assoc]; exact htr⟩, hg, hos⟩
section
variable {prog : Program} {w : World} {A : Around} {E : Value → Shared → Prop} {s : Shared} {x : Str} {t u : Tok} {c : Nat} {ds : List Nat} {Q : Value → Shared → Prop}
theorem lower_dec (hx : DecText x c ds) (hn : ds.length < 50) (h : Q (.str x s.toks) { s with toks := s.toks + 1 }) : wpAny (model prog w) A (call (.builtin "str.lower") [.str x t]) Q E s :=
  SCL.lower (by rw [hx.len]; omega) fun _ => by rw [hx.lower]; exact h
theorem ne_same (h : Q (.bool false) s) : wpAny (model prog w) A (compareOp .NotEq (.str x t) (.str x u)) Q E s := PyProof.Rows.ne_str (by rw [show (x != x) = false from bne_self_eq_false x]; exact h)
theorem rfind_dec (hx : DecText x c ds) (h : Q (.int 1 s.toks) { s with toks := s.toks + 1 }) : wpAny (model prog w) A (call (.builtin "str.rfind") [.str x t, .str (PySem.Str.ofString "1") u]) Q E s :=
  SC.rfind (by rw [hx.rfind]; exact h)
end
local macro_rules | `(tactic| walk_at "call builtin:str.lower") => `(tactic| (k_dflt (refine lower_dec (by assumption) (by assumption) ?_)))
local macro_rules | `(tactic| walk_at "call builtin:str.rfind") => `(tactic| (k_dflt (refine rfind_dec (by assumption) ?_)))
local macro_rules | `(tactic| walk_at "compareOp NotEq str str") => `(tactic| (refine ne_same ?_))
theorem occ_ch : ∀ d < 32, (!(Builtin.Str.occurrences (PySem.Str.ofString "qpzry9x8gf2tvdw0s3jn54khce6mua7l") ⟨#[ch d]⟩ 0 (PySem.Str.ofString "qpzry9x8gf2tvdw0s3jn54khce6mua7l").length 1).isEmpty) = true := by decide +kernel
theorem all_true (as : List Nat) : (as.filter (fun _ => true)).all (fun _ => true) = true := by simp
theorem find_ch : ∀ d < 32, Txt.find (PySem.Str.ofString "qpzry9x8gf2tvdw0s3jn54khce6mua7l") ⟨#[ch d]⟩ = Int.ofNat d := by decide +kernel
theorem find_ints (ds : List Nat) (hb : ∀ n ∈ ds, n < 32) : (ds.map ch).map (fun e : Nat => Txt.find (PySem.Str.ofString "qpzry9x8gf2tvdw0s3jn54khce6mua7l") ⟨#[e]⟩) = nInts ds := by
  rw [List.map_map]
  exact List.map_congr_left fun d hd => find_ch d (hb d hd)
theorem any_false (as : List Nat) : (as.filter (fun _ => true)).any (fun _ => false) = false := by simp
set_option maxHeartbeats 4000000 in
theorem decode_c {prog : Program} {w : World} {dp un : Nat} {fr : Option (List Env)} {gd : Option (List Code)} {s : Shared} {mg mb : Str → Option Value} {bm : Addr} {ob : Obj} {ps : Array Value} {x : Str} {c : Nat} {t : Tok} {ds : List Nat} {Q E : Value → Shared → Prop}
   (B : Base w mg mb s.heap) (hM : BMod s.heap mainGlobals mg bm ob) (hP : s.heap.get? 45 = some (tabO ps)) (htr : PySem.TriplesOk ps.toList) (hg : PyProof.Rows.AllBare s.gens) (hd : dp + 20 < recursionLimit) (hu : un + 100 < cLine)
   (hx : DecText x c ds) (hn : ds.length < 50) (hn6 : 6 < ds.length) (hb : ∀ n ∈ ds, n < 32)
   (hQ : ∀ v s', After ps s s' → DecRes s.heap s'.heap c ds v → Q v s') :
   wpAny (model prog w) (At dp un fr gd) (call (.ref 48) [.str x t]) Q E s := by
  refine call_pure B.K B.T.nolimit (show dp < recursionLimit by omega) rfl rfl (binds := [(PySem.Str.ofString "bech", .str x t)]) ?_ ?_ ?_ (by decide)
  · exact BindsTo.of_eq rfl
  · exact locs rfl
  · intro L h₁ F N
    generalize hQ' : (fun fl s' => Q (match fl with | .ret v => v | _ => .none) s' : Flow → Shared → Prop) = Q'
    have KX := hide_in B.K
    have T := hide_top B.T
    have M := hide_mod hM hP
    have F0 := hide_fr F
    have N0 := hide_news F hP
    clear F N
    (repeat' ((fail_if_success (with_reducible show Fr _ _ _ _ ∧ _)); (fail_if_success (with_reducible show wpAny _ _ (exec (Stmt.For _ _ _ _ _) _) _ _ _)); (fail_if_success (with_reducible show wpAny _ _ (eval (Expr.ListComp _ _ _ _) _) _ _ _)); (fail_if_success (with_reducible show wpAny _ _ (exec (Stmt.Assign [_] (Expr.ListComp _ _ _ _) _) _) _ _ _)); (fail_if_success (with_reducible show wpAny _ _ (eval (Expr.GeneratorExp _ _ _ _) _) _ _ _)); (fail_if_success (with_reducible show wpAny _ _ (call (Value.builtin "any") _ _) _ _ _)); (fail_if_success (with_reducible show wpAny _ _ (call (Value.builtin "all") _ _) _ _ _)); (fail_if_success (with_reducible show wpAny _ _ (call (Value.ref _) _ _) _ _ _));  (first | (k_unfold; (try dsimp only)) | walk1 | (dsimp only; walk1) | (leave1; walk_say "STEP leave1"; try dsimp only) | fail "no step")))
    refine genexp_str (q := fun _ => false) KX M T.nolimit F0 N0 htr (fun p hp => nomatch hp) rfl rfl rfl rfl rfl rfl (by decide) rfl rfl rfl (show dp + 1 < recursionLimit by omega) ?_ (fun _ => rfl)
    refine ld F0 rfl ⟨x, t, rfl, F0, N0, hg, ?_, ?_⟩
    · intro code C A' E' c' u t2 m₂ hA hD hU hc F2 hx2
      have hcs := hx.signs c' hc
      (repeat' ((fail_if_success (with_reducible show Fr _ _ _ _ ∧ _)); (fail_if_success (with_reducible show wpAny _ _ (exec (Stmt.For _ _ _ _ _) _) _ _ _)); (fail_if_success (with_reducible show wpAny _ _ (eval (Expr.ListComp _ _ _ _) _) _ _ _)); (fail_if_success (with_reducible show wpAny _ _ (exec (Stmt.Assign [_] (Expr.ListComp _ _ _ _) _) _) _ _ _)); (fail_if_success (with_reducible show wpAny _ _ (eval (Expr.GeneratorExp _ _ _ _) _) _ _ _)); (fail_if_success (with_reducible show wpAny _ _ (call (Value.builtin "any") _ _) _ _ _)); (fail_if_success (with_reducible show wpAny _ _ (call (Value.builtin "all") _ _) _ _ _)); (fail_if_success (with_reducible show wpAny _ _ (call (Value.ref _) _ _) _ _ _));  (first | (k_unfold; (try dsimp only)) | walk1 | (dsimp only; walk1) | (leave1; walk_say "STEP leave1"; try dsimp only) | fail "no step")))
      · exact congrArg Value.bool (decide_eq_false (by omega))
      · exact ⟨_, _, rfl, fun _ _ e => e⟩
    · intro a Kb s₅ more F5 N5 htr5 hg5 hos5 hlt5 hLK5 hX5
      (repeat' ((fail_if_success (with_reducible show Fr _ _ _ _ ∧ _)); (fail_if_success (with_reducible show wpAny _ _ (exec (Stmt.For _ _ _ _ _) _) _ _ _)); (fail_if_success (with_reducible show wpAny _ _ (eval (Expr.ListComp _ _ _ _) _) _ _ _)); (fail_if_success (with_reducible show wpAny _ _ (exec (Stmt.Assign [_] (Expr.ListComp _ _ _ _) _) _) _ _ _)); (fail_if_success (with_reducible show wpAny _ _ (eval (Expr.GeneratorExp _ _ _ _) _) _ _ _)); (fail_if_success (with_reducible show wpAny _ _ (call (Value.builtin "any") _ _) _ _ _)); (fail_if_success (with_reducible show wpAny _ _ (call (Value.builtin "all") _ _) _ _ _)); (fail_if_success (with_reducible show wpAny _ _ (call (Value.ref _) _ _) _ _ _));  (first | (k_unfold; (try dsimp only)) | walk1 | (dsimp only; walk1) | (leave1; walk_say "STEP leave1"; try dsimp only) | fail "no step")))
      refine any_genD F5 hg5 hX5 hLK5 ?_
      intro s6 F6 hg6 hos6 hk6
      have N6 : News (s.heap.hide 45) L s6.heap [(45, tabO (ps ++ more))] := fun p hp => ⟨hk6 _ _ (hlt5 p hp) (N5 p hp).1, (N5 p hp).2⟩
      rw [any_false]
      clear N5 F5 F0 N0
      have hlen := hx.len
      (repeat' ((fail_if_success (with_reducible show Fr _ _ _ _ ∧ _)); (fail_if_success (with_reducible show wpAny _ _ (exec (Stmt.For _ _ _ _ _) _) _ _ _)); (fail_if_success (with_reducible show wpAny _ _ (eval (Expr.ListComp _ _ _ _) _) _ _ _)); (fail_if_success (with_reducible show wpAny _ _ (exec (Stmt.Assign [_] (Expr.ListComp _ _ _ _) _) _) _ _ _)); (fail_if_success (with_reducible show wpAny _ _ (eval (Expr.GeneratorExp _ _ _ _) _) _ _ _)); (fail_if_success (with_reducible show wpAny _ _ (call (Value.builtin "any") _ _) _ _ _)); (fail_if_success (with_reducible show wpAny _ _ (call (Value.builtin "all") _ _) _ _ _)); (fail_if_success (with_reducible show wpAny _ _ (call (Value.ref _) _ _) _ _ _));  (first | (k_unfold; (try dsimp only)) | walk1 | (dsimp only; walk1) | (leave1; walk_say "STEP leave1"; try dsimp only) | fail "no step")))
      rename Fr _ _ _ _ => F7
      rename News _ _ _ _ => N7
      refine genexp_str (q := fun _ => true) KX M T.nolimit F7 N7 htr5 (fun p hp => nomatch hp) rfl rfl rfl rfl rfl rfl (by decide) rfl rfl rfl (show dp + 1 < recursionLimit by omega) ?_ (fun _ => rfl)
      (repeat' ((fail_if_success (with_reducible show Fr _ _ _ _ ∧ _)); (fail_if_success (with_reducible show wpAny _ _ (exec (Stmt.For _ _ _ _ _) _) _ _ _)); (fail_if_success (with_reducible show wpAny _ _ (eval (Expr.ListComp _ _ _ _) _) _ _ _)); (fail_if_success (with_reducible show wpAny _ _ (exec (Stmt.Assign [_] (Expr.ListComp _ _ _ _) _) _) _ _ _)); (fail_if_success (with_reducible show wpAny _ _ (eval (Expr.GeneratorExp _ _ _ _) _) _ _ _)); (fail_if_success (with_reducible show wpAny _ _ (call (Value.builtin "any") _ _) _ _ _)); (fail_if_success (with_reducible show wpAny _ _ (call (Value.builtin "all") _ _) _ _ _)); (fail_if_success (with_reducible show wpAny _ _ (call (Value.ref _) _ _) _ _ _));  (first | (k_unfold; (try dsimp only)) | walk1 | (dsimp only; walk1) | (leave1; walk_say "STEP leave1"; try dsimp only) | fail "no step")))
      rename Fr _ _ _ _ => F8
      rename News _ _ _ _ => N8
      have ht2 : Txt.slice x (some (1 + 1)) none = ⟨(ds.map ch).toArray⟩ := hx.tail
      rw [ht2]
      refine ⟨F8, N8, hg6, ?_, ?_⟩
      · intro code C A' E' c' u t2 m₂ hA hD hU hc F2 hx2
        obtain ⟨d, hd', rfl⟩ := List.mem_map.mp (show c' ∈ ds.map ch by simpa using hc)
        (repeat' ((fail_if_success (with_reducible show Fr _ _ _ _ ∧ _)); (fail_if_success (with_reducible show wpAny _ _ (exec (Stmt.For _ _ _ _ _) _) _ _ _)); (fail_if_success (with_reducible show wpAny _ _ (eval (Expr.ListComp _ _ _ _) _) _ _ _)); (fail_if_success (with_reducible show wpAny _ _ (exec (Stmt.Assign [_] (Expr.ListComp _ _ _ _) _) _) _ _ _)); (fail_if_success (with_reducible show wpAny _ _ (eval (Expr.GeneratorExp _ _ _ _) _) _ _ _)); (fail_if_success (with_reducible show wpAny _ _ (call (Value.builtin "any") _ _) _ _ _)); (fail_if_success (with_reducible show wpAny _ _ (call (Value.builtin "all") _ _) _ _ _)); (fail_if_success (with_reducible show wpAny _ _ (call (Value.ref _) _ _) _ _ _));  (first | (k_unfold; (try dsimp only)) | walk1 | (dsimp only; walk1) | (leave1; walk_say "STEP leave1"; try dsimp only) | fail "no step")))
        · exact congrArg Value.bool (occ_ch d (hb d hd'))
        · exact ⟨_, _, rfl, fun _ _ e => e⟩
      · intro a2 Kb2 s9 more2 F9 N9 htr9 hg9 hos9 hlt9 hLK9 hX9
        (repeat' ((fail_if_success (with_reducible show Fr _ _ _ _ ∧ _)); (fail_if_success (with_reducible show wpAny _ _ (exec (Stmt.For _ _ _ _ _) _) _ _ _)); (fail_if_success (with_reducible show wpAny _ _ (eval (Expr.ListComp _ _ _ _) _) _ _ _)); (fail_if_success (with_reducible show wpAny _ _ (exec (Stmt.Assign [_] (Expr.ListComp _ _ _ _) _) _) _ _ _)); (fail_if_success (with_reducible show wpAny _ _ (eval (Expr.GeneratorExp _ _ _ _) _) _ _ _)); (fail_if_success (with_reducible show wpAny _ _ (call (Value.builtin "any") _ _) _ _ _)); (fail_if_success (with_reducible show wpAny _ _ (call (Value.builtin "all") _ _) _ _ _)); (fail_if_success (with_reducible show wpAny _ _ (call (Value.ref _) _ _) _ _ _));  (first | (k_unfold; (try dsimp only)) | walk1 | (dsimp only; walk1) | (leave1; walk_say "STEP leave1"; try dsimp only) | fail "no step")))
        refine all_genD F9 hg9 hX9 hLK9 ?_
        intro s10 F10 hg10 hos10 hk10
        have N10 : News (s.heap.hide 45) L s10.heap [(45, tabO (ps ++ more ++ more2))] := fun p hp => ⟨hk10 _ _ (hlt9 p hp) (N9 p hp).1, (N9 p hp).2⟩
        clear N9 F9 F8 N8
        rw [all_true]
        (repeat' ((fail_if_success (with_reducible show Fr _ _ _ _ ∧ _)); (fail_if_success (with_reducible show wpAny _ _ (exec (Stmt.For _ _ _ _ _) _) _ _ _)); (fail_if_success (with_reducible show wpAny _ _ (eval (Expr.ListComp _ _ _ _) _) _ _ _)); (fail_if_success (with_reducible show wpAny _ _ (exec (Stmt.Assign [_] (Expr.ListComp _ _ _ _) _) _) _ _ _)); (fail_if_success (with_reducible show wpAny _ _ (eval (Expr.GeneratorExp _ _ _ _) _) _ _ _)); (fail_if_success (with_reducible show wpAny _ _ (call (Value.builtin "any") _ _) _ _ _)); (fail_if_success (with_reducible show wpAny _ _ (call (Value.builtin "all") _ _) _ _ _)); (fail_if_success (with_reducible show wpAny _ _ (call (Value.ref _) _ _) _ _ _));  (first | (k_unfold; (try dsimp only)) | walk1 | (dsimp only; walk1) | (leave1; walk_say "STEP leave1"; try dsimp only) | fail "no step")))
        rename Fr _ _ _ _ => F11
        rename News _ _ _ _ => N11
        rw [hx.head] at F11
        refine comp_assign (as := ds.map ch) (Rel := SignRel) (G := fun e y => ∃ t, y = .int (Txt.find (PySem.Str.ofString "qpzry9x8gf2tvdw0s3jn54khce6mua7l") ⟨#[e]⟩) t) signRel_inj F11 N11 rfl rfl (by decide) rfl (by decide) rfl rfl rfl ?_
        (repeat' ((fail_if_success (with_reducible show Fr _ _ _ _ ∧ _)); (fail_if_success (with_reducible show wpAny _ _ (exec (Stmt.For _ _ _ _ _) _) _ _ _)); (fail_if_success (with_reducible show wpAny _ _ (eval (Expr.ListComp _ _ _ _) _) _ _ _)); (fail_if_success (with_reducible show wpAny _ _ (exec (Stmt.Assign [_] (Expr.ListComp _ _ _ _) _) _) _ _ _)); (fail_if_success (with_reducible show wpAny _ _ (eval (Expr.GeneratorExp _ _ _ _) _) _ _ _)); (fail_if_success (with_reducible show wpAny _ _ (call (Value.builtin "any") _ _) _ _ _)); (fail_if_success (with_reducible show wpAny _ _ (call (Value.builtin "all") _ _) _ _ _)); (fail_if_success (with_reducible show wpAny _ _ (call (Value.ref _) _ _) _ _ _));  (first | (k_unfold; (try dsimp only)) | walk1 | (dsimp only; walk1) | (leave1; walk_say "STEP leave1"; try dsimp only) | fail "no step")))
        rename Fr _ _ _ _ => F12
        rename News _ _ _ _ => N12
        rw [ht2]
        refine ⟨F12, N12, ?_, comp_str (y := ⟨(ds.map ch).toArray⟩) rfl, ?_, ?_⟩
        · rintro C e v s₃ m₃ E' he ⟨u, rfl⟩ F13 hx13
          have KX := KX.keeps F12.keep
          have T := T.keeps F12.keep
          (repeat' ((fail_if_success (with_reducible show Fr _ _ _ _ ∧ _)); (fail_if_success (with_reducible show wpAny _ _ (exec (Stmt.For _ _ _ _ _) _) _ _ _)); (fail_if_success (with_reducible show wpAny _ _ (eval (Expr.ListComp _ _ _ _) _) _ _ _)); (fail_if_success (with_reducible show wpAny _ _ (exec (Stmt.Assign [_] (Expr.ListComp _ _ _ _) _) _) _ _ _)); (fail_if_success (with_reducible show wpAny _ _ (eval (Expr.GeneratorExp _ _ _ _) _) _ _ _)); (fail_if_success (with_reducible show wpAny _ _ (call (Value.builtin "any") _ _) _ _ _)); (fail_if_success (with_reducible show wpAny _ _ (call (Value.builtin "all") _ _) _ _ _)); (fail_if_success (with_reducible show wpAny _ _ (call (Value.ref _) _ _) _ _ _));  (first | (k_unfold; (try dsimp only)) | walk1 | (dsimp only; walk1) | (leave1; walk_say "STEP leave1"; try dsimp only) | fail "no step")))
          exact ⟨_, _, rfl, fun _ _ e => e⟩
        · rw [List.length_map]; exact Nat.le_trans (by omega : _ ≤ 100) (Nat.le_of_ble_eq_true rfl)
        · intro D n h' tk' ys F13 N13 hys
          have hi13 : IntsAre ys.toList (nInts ds) := by
            rw [← find_ints ds hb]
            exact ints_of_paired (f := fun e : Nat => Txt.find (PySem.Str.ofString "qpzry9x8gf2tvdw0s3jn54khce6mua7l") ⟨#[e]⟩) (fun a y h => h) hys
          clear F12 N12
          (repeat' ((fail_if_success (with_reducible show Fr _ _ _ _ ∧ _)); (fail_if_success (with_reducible show wpAny _ _ (exec (Stmt.For _ _ _ _ _) _) _ _ _)); (fail_if_success (with_reducible show wpAny _ _ (eval (Expr.ListComp _ _ _ _) _) _ _ _)); (fail_if_success (with_reducible show wpAny _ _ (exec (Stmt.Assign [_] (Expr.ListComp _ _ _ _) _) _) _ _ _)); (fail_if_success (with_reducible show wpAny _ _ (eval (Expr.GeneratorExp _ _ _ _) _) _ _ _)); (fail_if_success (with_reducible show wpAny _ _ (call (Value.builtin "any") _ _) _ _ _)); (fail_if_success (with_reducible show wpAny _ _ (call (Value.builtin "all") _ _) _ _ _)); (fail_if_success (with_reducible show wpAny _ _ (call (Value.ref _) _ _) _ _ _));  (first | (k_unfold; (try dsimp only)) | walk1 | (dsimp only; walk1) | (leave1; walk_say "STEP leave1"; try dsimp only) | fail "no step")))
          have hl13 : h'.IsList D ys.toList.toArray := by rw [Array.toArray_toList]; exact N13.isList (.head _)
          refine verify_c (dp := dp + 1) (un := un + 3) (ns := ds) ⟨KX.keeps F13.keep, T.keeps F13.keep⟩ (by omega) (by omega) hl13 hi13 (by omega) ?_
          intro h14 tk14 hk14
          have F14 := F13.keeps hk14
          have N14 : News (s.heap.hide 45) L h14 [(D, W.listOf ys n), (45, tabO (ps ++ more ++ more2))] := N13.grown hk14
          clear F13 N13 hl13
          obtain ⟨vs, rfl⟩ : ∃ vs : List Value, ys = vs.toArray := ⟨ys.toList, by simp⟩
          rw [show vs.toArray.toList = vs from by simp] at hi13
          by_cases hpm : pmN ([c >>> 5, 0, c &&& 31] ++ ds) = 1
          · rw [decide_eq_true hpm]
            (repeat' ((fail_if_success (with_reducible show Fr _ _ _ _ ∧ _)); (fail_if_success (with_reducible show wpAny _ _ (exec (Stmt.For _ _ _ _ _) _) _ _ _)); (fail_if_success (with_reducible show wpAny _ _ (eval (Expr.ListComp _ _ _ _) _) _ _ _)); (fail_if_success (with_reducible show wpAny _ _ (exec (Stmt.Assign [_] (Expr.ListComp _ _ _ _) _) _) _ _ _)); (fail_if_success (with_reducible show wpAny _ _ (eval (Expr.GeneratorExp _ _ _ _) _) _ _ _)); (fail_if_success (with_reducible show wpAny _ _ (call (Value.builtin "any") _ _) _ _ _)); (fail_if_success (with_reducible show wpAny _ _ (call (Value.builtin "all") _ _) _ _ _)); (fail_if_success (with_reducible show wpAny _ _ (call (Value.ref _) _ _) _ _ _));  (first | (k_unfold; (try dsimp only)) | walk1 | (dsimp only; walk1) | (leave1; walk_say "STEP leave1"; try dsimp only) | fail "no step")))
            rename Fr _ _ _ _ => F15
            rename News _ _ _ _ => N15
            rename IntsAre _ (List.take _ _) => hi15
            subst hQ'
            refine hQ _ _ (after_of F15 N15 (by k_mem) htr9 hg10 (hos10.trans (hos9.trans (hos6.trans hos5)))) ?_
            unfold DecRes
            rw [if_pos hpm]
            refine ⟨_, _, _, _, _, rfl, N15.get (.head _), N15.get (.tail _ (.head _)), ?_, fresh45 N15 (.head _) (by k_mem) nofun, fresh45 N15 (.tail _ (.head _)) (by k_mem) nofun⟩
            rw [List.length_map, ← List.map_take] at hi15
            exact hi15
          · rw [decide_eq_false hpm]
            (repeat' ((fail_if_success (with_reducible show Fr _ _ _ _ ∧ _)); (fail_if_success (with_reducible show wpAny _ _ (exec (Stmt.For _ _ _ _ _) _) _ _ _)); (fail_if_success (with_reducible show wpAny _ _ (eval (Expr.ListComp _ _ _ _) _) _ _ _)); (fail_if_success (with_reducible show wpAny _ _ (exec (Stmt.Assign [_] (Expr.ListComp _ _ _ _) _) _) _ _ _)); (fail_if_success (with_reducible show wpAny _ _ (eval (Expr.GeneratorExp _ _ _ _) _) _ _ _)); (fail_if_success (with_reducible show wpAny _ _ (call (Value.builtin "any") _ _) _ _ _)); (fail_if_success (with_reducible show wpAny _ _ (call (Value.builtin "all") _ _) _ _ _)); (fail_if_success (with_reducible show wpAny _ _ (call (Value.ref _) _ _) _ _ _));  (first | (k_unfold; (try dsimp only)) | walk1 | (dsimp only; walk1) | (leave1; walk_say "STEP leave1"; try dsimp only) | fail "no step")))
            rename Fr _ _ _ _ => F15
            rename News _ _ _ _ => N15
            subst hQ'
            refine hQ _ _ (after_of F15 N15 (by k_mem) htr9 hg10 (hos10.trans (hos9.trans (hos6.trans hos5)))) ?_
            unfold DecRes
            rw [if_neg hpm]
            exact ⟨_, rfl, N15.get (.head _), fresh45 N15 (.head _) (by k_mem) nofun⟩
end Mine
end

section
open PySem PySem.W PySem.Calls PySem.Spec PyProof.Rows
set_option Elab.async false
set_option maxRecDepth 100000
namespace Mine
section
variable {prog : Program} {w : World} {A : Around} {E : Value → Shared → Prop} {s : Shared} {Q : Value → Shared → Prop}

/-- sorted of what gives texts -/
theorem sorted_by {x : Value} (hc : ∀ Q' : List Value → Shared → Prop,
      (∀ s₁ vs ss, (∀ b o, s.heap.get? b = some o → s₁.heap.get? b = some o) → s₁.gens = s.gens → s₁.os = s.os → StrsAre vs ss → vs.length < 64 →
        (∀ h' (vs' : List Value) (ss' : List Str) (n : Nat), (∀ b o, s.heap.get? b = some o → h'.get? b = some o) → s.heap.get? s₁.heap.objs.size = none → h'.get? s₁.heap.objs.size = some (W.listOf vs'.toArray n) → StrsAre vs' ss' → ss'.Perm ss → sortedS ss' = true →
          Q (.ref s₁.heap.objs.size) { s₁ with heap := h' }) → Q' vs s₁) → wpAny (model prog w) A.in1 (collect x) Q' E s) :
    wpAny (model prog w) A (call (.builtin "sorted") [x]) Q E s := by
  refine Calls.call_function_entry kind_sorted plain_sorted entry_sorted (args_sorted1 _) ?_
  unfold Builtin.«sorted»
  refine wpAny_bind (m := checkCount "sorted" 1 1 _) (wpAny_pure ?_)
  refine wpAny_bind (hc _ fun s₁ vs ss hk hg ho hS h64 hQ => ?_)
  refine wpAny_bind (wpAny_newList ?_)
  have hoL : (s₁.heap.push (seqObj "list" vs.toArray 0)).get? s₁.heap.objs.size = some (seqObj "list" vs.toArray 0) := Heap.get?_push_size _ rfl
  show wpAny _ _ _ _ _ { s₁ with heap := s₁.heap.push (seqObj "list" vs.toArray 0) }
  refine wpAny_bind (wpAny_holding (wpAny_call_entry slot_list_sort ⟨_, hoL, rfl⟩ entry_list_sort
    (list_sort_treeK strKind_oneLt hoL hS.keysOf (fun v₁ v₂ rest e => keyKind_strs (by rw [← e]; exact hS)) h64 fun st' hp hs => ⟨_, rfl, ?_⟩) (args_list_sort _)))
  obtain ⟨ss', h1, h2, h3⟩ := sorted_out_str hS hp hs
  obtain ⟨e, he⟩ := sortedHeap_at (vs := vs) (out := (arrOf st').map (·.2)) hoL
  have hnone : s.heap.get? s₁.heap.objs.size = none := by
    cases e0 : s.heap.get? s₁.heap.objs.size with
    | none => rfl
    | some o => exact absurd (Heap.lt_size (hk _ _ e0)) (Nat.lt_irrefl _)
  refine wpAny_pure ⟨_, rfl, hQ _ ((arrOf st').map (·.2)).toList ss' e (fun b o e0 => ?_) hnone (by rw [Array.toArray_toList]; exact he) h1 h2 h3⟩
  have hb := Heap.lt_size (hk _ _ e0)
  rw [sortedHeap_old (Nat.ne_of_lt hb) (by rw [size_push']; exact Nat.lt_succ_of_lt hb)]
  exact Heap.get?_push_of_some _ (hk _ _ e0)
/-- what sorted hands on: a new list of the texts in order -/
abbrev RetSorted (s : Shared) (Q : Value → Shared → Prop) (ss : List Str) : Prop :=
  ∀ r (vs : List Value) ss' n (s' : Shared), (∀ b o, s.heap.get? b = some o → s'.heap.get? b = some o) → s'.gens = s.gens → s'.os = s.os → s.heap.get? r = none → s'.heap.get? r = some (W.listOf vs.toArray n) →
    StrsAre vs ss' → ss'.Perm ss → sortedS ss' = true → Q (.ref r) s'
theorem strs_of_signs {x : Str} {acc : Array Value} (h : ItemsOf (SignAt x) acc x.cps.size) : StrsAre acc.toList (x.cps.toList.map fun c => (⟨#[c]⟩ : Str)) := by
  have key : ∀ (cs : List Nat) (vs : List Value), vs.length = cs.length → (∀ (j : Nat) (v : Value), vs[j]? = some v → ∃ c u, cs[j]? = some c ∧ v = .str ⟨#[c]⟩ u) → StrsAre vs (cs.map fun c => (⟨#[c]⟩ : Str)) := by
    intro cs
    induction cs with
    | nil => intro vs hl _; cases vs with
      | nil => exact .nil
      | cons v r => cases hl
    | cons c r ih =>
      intro vs hl hg
      cases vs with
      | nil => cases hl
      | cons v vs =>
        obtain ⟨c', u, h1, rfl⟩ := hg 0 v rfl
        cases h1
        exact .cons _ _ (ih vs (by simpa using hl) fun j v hj => by simpa using hg (j + 1) v (by simpa using hj))
  refine key _ _ (by simpa using h.1) fun j v hj => ?_
  obtain ⟨c, u, h1, h2⟩ := h.2 j v (by simpa using hj)
  exact ⟨c, u, by simpa using h1, h2⟩
theorem sorted_str {x : Str} {t : Tok} (hh : A.handled = none) (hx : x.cps.size < 64) (hQ : RetSorted s Q (x.cps.toList.map fun c => (⟨#[c]⟩ : Str))) :
    wpAny (model prog w) A (call (.builtin "sorted") [.str x t]) Q E s := by
  refine sorted_by fun Q' h => ?_
  refine wpAny_collect_str (A := A.in1) hh x t (fun s' acc hk hg hd ho hi => ?_) (Nat.le_trans (by omega : _ ≤ 64) (Nat.le_of_ble_eq_true rfl))
  refine h s' acc.toList _ hk hg ho (strs_of_signs hi) (by rw [Array.length_toList, hi.1]; exact hx) fun h' vs' ss' n k1 k2 k3 k4 k5 k6 => ?_
  exact hQ _ vs' ss' n _ k1 hg ho k2 k3 k4 k5 k6
end
end Mine
end

section
open PySem PySem.W PySem.Calls PySem.Spec PyProof.Rows
set_option Elab.async false
set_option maxRecDepth 100000
namespace Mine
theorem eraseIdx_perm {α : Type} : ∀ (l : List α) (i : Nat) (x : α), l[i]? = some x → (x :: l.eraseIdx i).Perm l
  | [], i, x, h => by simp at h
  | y :: l, 0, x, h => by simp at h; subst h; exact .refl _
  | y :: l, i + 1, x, h => by
    simp only [List.getElem?_cons_succ] at h
    exact (List.Perm.swap _ _ _).trans ((eraseIdx_perm l i x h).cons y)
theorem pick_perm {α : Type} (next : Nat → Nat) : ∀ (n k : Nat) (left : List α) (out : Array α), left.length = n → (pickOrder.go next n k left out).toList.Perm (out.toList ++ left)
  | 0, k, left, out, h => by
    rw [List.length_eq_zero_iff.mp h]
    simp [pickOrder.go]
  | n + 1, k, left, out, h => by
    unfold pickOrder.go
    have hlt : next k % left.length < left.length := Nat.mod_lt _ (by omega)
    rw [List.getElem?_eq_getElem hlt]
    dsimp only
    refine (pick_perm next n (k + 1) _ _ (by rw [List.length_eraseIdx, if_pos hlt, h]; rfl)).trans ?_
    rw [Array.toList_push, List.append_assoc]
    exact (eraseIdx_perm left _ _ (List.getElem?_eq_getElem hlt)).append_left _
theorem pickOrder_perm {α : Type} (next : Nat → Nat) (xs : Array α) : (pickOrder next xs).toList.Perm xs.toList := by
  have := pick_perm next xs.size 0 xs.toList #[] (by simp)
  simpa [pickOrder] using this

def strOf : Value → Str
  | .str x _ => x
  | _ => PySem.Str.ofString ""
/-- a set of these texts, each once, that a walk has to draw from -/
def SetL (prog : Program) (w : World) (h : Heap) (a : Addr) (ss : List Str) : Prop :=
  ∃ o es ep t, h.get? a = some o ∧ o.ExactSet ∧ o.data = .set es ep t ∧ (∀ e ∈ es.toList, ∃ y u, e = ((strKind prog w).hash y, Value.str y u)) ∧ (es.toList.map fun e => strOf e.2).Perm ss
    ∧ es.size < scanBound ∧ t.fits es.size = true ∧ (0 < es.size → t.plain = false)
section
variable {prog : Program} {w : World} {A : Around} {E : Value → Shared → Prop} {s : Shared} {a : Addr} {ss : List Str}

theorem elems_of {es : List (Int × Value)} (h : ∀ e ∈ es, ∃ y u, e = ((strKind prog w).hash y, Value.str y u)) : ElemsOf (strKind prog w) es := fun e he => by
  obtain ⟨y, u, rfl⟩ := h e he
  exact ⟨⟨y, strKind_is _ _ _ _, rfl⟩, rfl⟩
theorem strsAre_of : ∀ {vs : List Value}, (∀ v ∈ vs, ∃ y u, v = Value.str y u) → StrsAre vs (vs.map strOf)
  | [], _ => .nil
  | v :: r, h => by
    obtain ⟨y, u, rfl⟩ := h _ (.head _)
    exact .cons _ _ (strsAre_of fun v hv => h v (.tail _ hv))
theorem SetL.size {h : Heap} (hS : SetL prog w h a ss) : ∃ o es ep t, h.get? a = some o ∧ o.data = .set es ep t ∧ es.size = ss.length :=
  let ⟨o, es, ep, t, ho, _, hd, _, hp, _⟩ := hS
  ⟨o, es, ep, t, ho, hd, by rw [← hp.length_eq, List.length_map, Array.length_toList]⟩
theorem SetL.keep {h h' : Heap} (hS : SetL prog w h a ss) (hk : ∀ o, h.get? a = some o → h'.get? a = some o) : SetL prog w h' a ss :=
  let ⟨o, es, ep, t, ho, r⟩ := hS; ⟨o, es, ep, t, hk o ho, r⟩
theorem relay_plain (t : SetTable) (es : Array (Int × Value)) (k : Nat) (h : t.plain = false) : (relayAll t es k).2.1.plain = false := by
  unfold relayAll
  split
  · rename_i t' order e
    have ht' : t'.plain = false := by
      unfold SetTable.relaid SetTable.laid at e
      simp only [Option.bind_eq_bind, Option.bind_eq_some_iff, Option.pure_def, Option.some.injEq, Prod.mk.injEq] at e
      obtain ⟨_, _, e1, _⟩ := e
      rw [← e1]; exact h
    dsimp only
    split
    · exact ht'
    · rfl
  · rfl
theorem addNew {y : Str} {t₀ : Tok} {Q : Bool → Shared → Prop} (hS : SetL prog w s.heap a ss) (hy : y ∉ ss) (hroom : ss.length + 1 < scanBound)
    (h : ∀ h', Heap.SameBut a s.heap h' → SetL prog w h' a (ss ++ [y]) → Q true { s with heap := h' }) :
    wpAny (model prog w) A (setAddHashed a (.str y t₀) ((strKind prog w).hash y)) Q E s := by
  obtain ⟨o, es, ep, t, ho, hex, hd, hel, hp, hb, hf, hpl⟩ := hS
  have hsz : es.size = ss.length := by rw [← hp.length_eq, List.length_map, Array.length_toList]
  have hEl := elems_of hel
  have hkey := strKind_is prog w y t₀
  have hgw : ∀ (b : Bool) {s₁ : Shared} {Q' : Unit → Shared → Prop}, Q' () s₁ → wpAny (model prog w) A (match b with | true => rule "set.scan.the-table-gave-way" | false => pure ()) Q' E s₁ :=
    fun b s₁ Q' hq => by cases b <;> first | exact wpAny_pure hq | exact wpAny_rule hq
  unfold setAddHashed setAddHashedIn
  refine wpAny_holding (wpAny_bind (wpAny_setState_of ho hd hf ?_))
  dsimp only
  rw [byScan_of rfl hb hEl]
  simp only [↓reduceIte]
  unfold setAddByScan
  refine wpAny_bind ?_
  refine wpAny_bind (wpAny_rule ?_)
  refine wpAny_bind (wpAny_setScan_of hkey ho hd hf hEl ?_)
  have hr : List.findIdx? (fun e => (strKind prog w).is y e.2) es.toList = none := by
    rw [List.findIdx?_eq_none_iff]
    intro e he
    obtain ⟨z, u, rfl⟩ := hel e he
    cases hq : (strKind prog w).is y (.str z u) with
    | false => rfl
    | true =>
      have e2 := (strKind prog w).inj _ _ _ hq (strKind_is prog w z u)
      subst e2
      exact absurd (hp.mem_iff.mp (List.mem_map.mpr ⟨_, he, rfl⟩)) hy
  rw [hr]
  dsimp only
  have hperm := layNew_perm t es ((strKind prog w).hash y) (.str y t₀)
  have hfits := layNew_fits t es ((strKind prog w).hash y) (.str y t₀)
  generalize layNew t es ((strKind prog w).hash y) (.str y t₀) = Lw at hperm hfits ⊢
  obtain ⟨es1, t1, wasDummy, gave⟩ := Lw
  dsimp only at hperm hfits ⊢
  rw [Array.toList_push] at hperm
  have hel1 : ∀ e ∈ es1.toList, ∃ z u, e = ((strKind prog w).hash z, Value.str z u) := fun e he => by
    rcases List.mem_append.mp (hperm.mem_iff.mp he) with he | he
    · exact hel e he
    · rw [List.mem_singleton.mp he]; exact ⟨_, _, rfl⟩
  have hp1 : (es1.toList.map fun e => strOf e.2).Perm (ss ++ [y]) := by
    refine (hperm.map _).trans ?_
    rw [List.map_append]
    exact hp.append_right _
  have hsz1 : es1.size = ss.length + 1 := by rw [← Array.length_toList, hperm.length_eq, List.length_append, Array.length_toList, hsz]; rfl
  have hb1 : es1.size < scanBound := by rw [hsz1]; exact hroom
  refine wpAny_bind (hgw _ ?_)
  -- the tail, from a table that is plain no more
  have tail : ∀ (t2 : SetTable) (R : Option Bool → Shared → Prop), t2.fits es1.size = true → t2.plain = false → (∀ h', Heap.SameBut a s.heap h' → SetL prog w h' a (ss ++ [y]) → R (some true) { s with heap := h' }) →
      ∀ g : Bool → Sem Unit, (∀ (b : Bool) (s₁ : Shared) (Q' : Unit → Shared → Prop), Q' () s₁ → wpAny (model prog w) A (g b) Q' E s₁) →
      wpAny (model prog w) A (do
        storeSet a es1 t2
        if (!wasDummy && t2.tooFull) = true then do
            g (relayAll t2 es1 (SetTable.grown es1.size)).2.2
            storeSet a (relayAll t2 es1 (SetTable.grown es1.size)).1 (relayAll t2 es1 (SetTable.grown es1.size)).2.1
            pure (some true)
          else pure (some true)) R E s := by
    intro t2 R hf2 hpl2 hR g hg
    refine wpAny_bind (wpAny_storeSet_of ho hd ?_ (fits_of_scanBound hb1))
    have ho1 := Heap.get?_update_self (Obj.putSet es1 t2) ho (by rw [putSet_of es1 t2 hd]; rfl)
    rw [putSet_of es1 t2 hd] at ho1
    have hsb1 := Heap.SameBut.update s.heap a (Obj.putSet es1 t2)
    split
    · have hp3 := relayAll_perm t2 es1 (SetTable.grown es1.size)
      have hf3 := relayAll_fits t2 es1 (SetTable.grown es1.size)
      have hl3 := relay_plain t2 es1 (SetTable.grown es1.size) hpl2
      generalize relayAll t2 es1 (SetTable.grown es1.size) = Rl at hp3 hf3 hl3 ⊢
      obtain ⟨es2, t3, gave2⟩ := Rl
      dsimp only at hp3 hf3 hl3 ⊢
      have hsz2 : es2.size = es1.size := by rw [← Array.length_toList, hp3.length_eq, Array.length_toList]
      have hb2 : es2.size < scanBound := by rw [hsz2]; exact hb1
      refine wpAny_bind (hg _ _ _ ?_)
      refine wpAny_bind (wpAny_storeSet_of ho1 rfl ?_ (fits_of_scanBound hb2))
      have ho2 := Heap.get?_update_self (Obj.putSet es2 t3) ho1 (by rw [putSet_of es2 t3 rfl]; rfl)
      rw [putSet_of es2 t3 rfl] at ho2
      refine wpAny_pure (hR _ (hsb1.trans (Heap.SameBut.update _ a _)) ⟨_, es2, _, t3, ho2, hex, rfl, fun e he => hel1 e (hp3.mem_iff.mp he), (hp3.map _).trans hp1, hb2, hf3, fun _ => hl3⟩)
    · exact wpAny_pure (hR _ hsb1 ⟨_, es1, _, t2, ho1, hex, rfl, hel1, hp1, hb1, hf2, fun _ => hpl2⟩)
  have hg : ∀ (b : Bool) (s₁ : Shared) (Q' : Unit → Shared → Prop), Q' () s₁ → wpAny (model prog w) A (match b with | true => rule "set.scan.the-table-gave-way" | false => pure ()) Q' E s₁ :=
    fun b s₁ Q' hq => hgw b hq
  cases hpl1 : t1.plain with
  | true =>
    rw [if_pos rfl]
    refine wpAny_bind ?_
    rw [hashByValue_scannable 8 rfl]
    refine wpAny_pure ?_
    refine tail _ _ (SetTable.fits_plain_off hfits) rfl (fun h' hsb hS' => ?_) _ hg
    exact wpAny_pure (h h' hsb hS')
  | false =>
    rw [if_neg Bool.false_ne_true]
    refine wpAny_bind (wpAny_pure ?_)
    simp only [↓reduceIte]
    refine tail _ _ hfits hpl1 (fun h' hsb hS' => ?_) _ hg
    exact wpAny_pure (h h' hsb hS')
end
end Mine
end

section
open PySem PySem.W PySem.Calls PySem.Spec PyProof.Rows
set_option Elab.async false
set_option maxRecDepth 100000
namespace Mine
section
variable {prog : Program} {w : World} {A : Around} {R : Result → Shared → Prop} {I : Addr} {fp wr : List Addr} {G : Array GenState → Array GenState → Prop} {n : Nat} {P : Nat → Value → Prop} {St : Nat → Shared → Prop} {ss : List Str}
theorem update_loop (W : WalksS prog w A.in1 I fp wr G ss.length P St) (S : Addr) (hSf : S ∉ fp)
    (hval : ∀ i v, P i v → ∃ y t, ss[i]? = some y ∧ v = .str y t) (hb : ss.length + 1 < scanBound) (hnd : ss.Nodup) :
    ∀ (k i : Nat) (s : Shared), ss.length - i = k → i ≤ ss.length → St i s → SetL prog w s.heap S (ss.take i) →
      (∀ s', Moved (S :: wr) G s s' → SetL prog w s'.heap S ss → R (.ok (.ret .none)) s') →
      codeAny (model prog w) A (.builtin "set.update.loop" ⟨[.ref S, .ref I], []⟩) R s := by
  have hSw : S ∉ wr := fun h => hSf (W.sub _ h)
  have hsub : ∀ b ∈ wr, b ∈ S :: wr := fun b hb => List.mem_cons_of_mem _ hb
  intro k
  induction k with
  | zero =>
    intro i s hk hi hst hS hR
    have hin : i = ss.length := by omega
    subst hin
    rw [List.take_length] at hS
    refine codeAny_builtin F.entry_set_update_loop ?_
    rw [Around.under_plainId F.plain_set_update_loop _]
    show wpAny _ A.in1 (pyNext (.ref I) >>= _) _ _ s
    refine wpAny_bind (W.done s _ _ hst fun s' hm => ?_)
    show wpAny _ A.in1 (ret Value.none) _ _ s'
    exact wpAny_pure (hR s' (hm.mono hsub) (hS.keep fun o e => hm.heap S o hSw e))
  | succ k ih =>
    intro i s hk hi hst hS hR
    have hlt : i < ss.length := by omega
    refine codeAny_builtin F.entry_set_update_loop ?_
    rw [Around.under_plainId F.plain_set_update_loop _]
    show wpAny _ A.in1 (pyNext (.ref I) >>= _) _ _ s
    refine wpAny_bind (W.item i s _ _ hlt hst fun v s' hP hst' hm => ?_)
    obtain ⟨y, t, hy, rfl⟩ := hval i v hP
    have hS' : SetL prog w s'.heap S (ss.take i) := hS.keep fun o e => hm.heap S o hSw e
    show wpAny _ A.in1 (holding [Value.str y t] (setAdd S (.str y t)) >>= _) _ _ s'
    refine wpAny_bind (wpAny_holding ?_)
    unfold setAdd
    refine wpAny_holding ?_
    refine wpAny_bind ((strKind prog w).pyHash (k := y) (strKind_is _ _ _ _) ?_)
    have hyi : ss[i] = y := by rw [List.getElem?_eq_getElem hlt] at hy; exact Option.some.inj hy
    have hnew : y ∉ ss.take i := fun hm => by
      obtain ⟨j, hj, e⟩ := List.getElem_of_mem hm
      rw [List.getElem_take] at e
      rw [List.length_take] at hj
      have := (List.getElem_inj hnd (h₀ := by omega) (h₁ := hlt)).mp (e.trans hyi.symm)
      omega
    refine addNew (s := { s' with toks := s'.toks + 1 }) hS' hnew (by rw [List.length_take]; omega) fun h' hsb hS2 => ?_
    have hS3 : SetL prog w h' S (ss.take (i + 1)) := by rw [List.take_add_one, List.getElem?_eq_getElem hlt, hyi]; exact hS2
    refine wpAny_pure ⟨plainId_quiet F.plain_set_update_loop _, ih (i + 1) _ (by omega) hlt (W.frame _ s' _ _ hst' (Nat.le_succ _) fun b hb o e => ?_) hS3 fun s'' hm'' hS'' => ?_⟩
    · rw [hsb.2 b (fun h : b = S => hSf (by rw [← h]; exact hb))]; exact e
    · refine hR s'' (Moved.trans W.gtrans ((hm.mono hsub).then_heap (Nat.le_succ _) fun b o hb e => ?_) hm'') hS''
      rw [hsb.2 b (fun h : b = S => hb (by rw [h]; exact List.mem_cons_self))]; exact e
end
theorem strs_at : ∀ {vs : List Value} {ss : List Str}, StrsAre vs ss → ∀ (i : Nat) (v : Value), vs[i]? = some v → ∃ y t, ss[i]? = some y ∧ v = .str y t
  | _, _, .nil, i, v, h => by simp at h
  | _, _, .cons n t hr, 0, v, h => by simp at h; exact ⟨n, t, rfl, h.symm⟩
  | _, _, .cons n t hr, i + 1, v, h => by
    simp only [List.getElem?_cons_succ] at h ⊢
    exact strs_at hr i v h
theorem strs_len : ∀ {vs : List Value} {ss : List Str}, StrsAre vs ss → vs.length = ss.length
  | _, _, .nil => rfl
  | _, _, .cons _ _ hr => by simp [strs_len hr]
section
variable {prog : Program} {w : World} {A : Around} {E : Value → Shared → Prop} {s : Shared} {ss : List Str}
set_option maxHeartbeats 3200000 in
theorem call_set {l : Addr} {items : Array Value} {Q : Value → Shared → Prop}
    (hh : A.handled = none) (hl : s.heap.IsList l items) (hi : StrsAre items.toList ss) (hb : ss.length + 1 < scanBound) (hnd : ss.Nodup)
    (h : ∀ (h' : Heap) (tk : Nat), SetL prog w h' s.heap.objs.size ss → (∀ b o, s.heap.get? b = some o → h'.get? b = some o) → Q (.ref s.heap.objs.size) { s with heap := h', toks := tk }) :
    wpAny (model prog w) A (call (.type "set") [.ref l]) Q E s := by
  obtain ⟨c, tl, hmro⟩ := F.called_set.mro
  have hmade := F.called_set.made
  have hsub := F.called_set.sub
  refine wpAny_call (codeAny_of_tree ?_)
  show wpAny _ _ (callAny (.type "set") _) _ _ _
  refine wpAny_pure ⟨Code.quiet_builtin _ (by decide +kernel), codeAny_builtin F.entry_type_call ?_⟩
  rw [Around.under_plain (weight_type_call_type "set" [.ref l] []) rfl]
  have h1 := F.called_set.notType
  have h2 := F.called_set.canCreate
  have hct := F.typeCall_set_1 (.ref l)
  repeat (any_goals (first | assumption | wp_step))
  refine codeAny_mono (code_set_new_1 (.ref l) (E := E) (Q₁ := fun obj s₁ => ∃ led : Bool, obj = .ref s.heap.objs.size ∧ s₁ = { s with heap := s.heap.push { cls := .type "set", dict := none, data := .set #[] 0 (.fresh 0 0 led) } }) fun led => ⟨led, rfl, rfl⟩) fun r s₁ hr => ?_
  cases r with
  | error e => exact hr
  | ok fl =>
    cases fl with
    | ret obj =>
      obtain ⟨led, rfl, rfl⟩ := hr
      have hS : (s.heap.push { cls := .type "set", dict := none, data := .set #[] 0 (.fresh 0 0 led) }).get? s.heap.objs.size = some { cls := .type "set", dict := none, data := .set #[] 0 (.fresh 0 0 led) } := Heap.get?_push_size _ rfl
      have hT : Shared.TypeIs { s with heap := s.heap.push { cls := .type "set", dict := none, data := .set #[] 0 (.fresh 0 0 led) } } (.ref s.heap.objs.size) "set" := ⟨_, hS, rfl⟩
      have hli := F.called_set.init.lookup
      have hbi := F.called_set.init.bind (.ref s.heap.objs.size)
      repeat (any_goals (first | assumption | wp_step))
      refine codeAny_mono (codeAny_call_builtin (R := wants (fun r s₂ => r = .none ∧ ∃ h' tk, s₂ = { s with heap := h', toks := tk } ∧
          SetL prog w h' s.heap.objs.size ss ∧
          (∀ b o, b < s.heap.objs.size → s.heap.get? b = some o → h'.get? b = some o)) E) F.called_set.init.plain F.entry_set_init (check_set_init_1 hT ?_)) fun r₂ s₂ hr₂ => ?_
      · obtain ⟨ol, hol, hcl, nl, hdl⟩ := hl
        obtain ⟨ocls, odict, odata, oslots⟩ := ol
        simp only at hcl hdl
        subst hcl; subst hdl
        have hol' : (s.heap.push { cls := .type "set", dict := none, data := .set #[] 0 (.fresh 0 0 led) }).get? l = some { cls := .type "list", dict := odict, data := .seq items nl, slots := oslots } := Heap.get?_push_of_some _ hol
        have hsls := F.sub_list_set
        have hslf := F.sub_list_frozenset
        have hne : (Value.type "list" == Value.type "dict") = false := by decide
        have hl1 : (s.heap.push { cls := .type "set", dict := none, data := .set #[] 0 (.fresh 0 0 led) }).IsList l items := ⟨_, hol', rfl, nl, rfl⟩
        unfold Builtin.«set.__init__» noKeywords Builtin.Frozenset.updateFrom
        generalize hPI : pyIter = PI
        wp_walk
        subst hPI
        refine wpAny_pyIter_list hl1 ?_
        refine wpAny_bind (wpAny_runValue ?_)
        have hlS : l < s.heap.objs.size := Heap.lt_size hol
        have hh3 : A.in1.in1.in1.handled = none := by simp [hh]
        have hneI : l ≠ (s.heap.push { cls := .type "set", dict := none, data := .set #[] 0 (.fresh 0 0 led) }).objs.size := by
          rw [Heap.size_push]; exact Nat.ne_of_lt (Nat.lt_succ_of_lt hlS)
        have hSf : s.heap.objs.size ∉ [(s.heap.push { cls := .type "set", dict := none, data := .set #[] 0 (.fresh 0 0 led) }).objs.size, l] := by
          rw [Heap.size_push]; simp only [List.mem_cons, List.mem_singleton, List.not_mem_nil, or_false, not_or]
          exact ⟨Nat.ne_of_lt (Nat.lt_succ_self _), Nat.ne_of_gt hlS⟩
        have hval : ∀ (i : Nat) (v : Value), items[i]? = some v → ∃ y t, ss[i]? = some y ∧ v = .str y t := fun i v hv =>
          strs_at hi i v (by rw [Array.getElem?_toList]; exact hv)
        have hlen : items.size = ss.length := by rw [← Array.length_toList]; exact strs_len hi
        have WL := (Walks.list (prog := prog) (w := w) hh3 _ l hneI items).toS
        rw [hlen] at WL
        refine update_loop WL s.heap.objs.size
          hSf hval hb hnd (ss.length - 0) 0 _ (by omega) (Nat.zero_le _)
          ⟨⟨_, Heap.get?_push_size _ rfl, rfl, rfl⟩, (hl1.push _)⟩ ?hS0 ?hR
        case hS0 =>
          have hget : ((s.heap.push { cls := .type "set", dict := none, data := .set #[] 0 (.fresh 0 0 led) }).push { cls := .type "list_iterator", data := .fields #[.ref l, .int 0 0] }).get? s.heap.objs.size
              = some { cls := .type "set", dict := none, data := .set #[] 0 (.fresh 0 0 led) } := Heap.get?_push_of_some _ hS
          exact ⟨_, #[], 0, _, hget, ⟨rfl, rfl, rfl⟩, rfl, fun e he => by simp at he, .refl _, by decide, rfl, fun h => absurd h (by decide)⟩
        case hR =>
          intro s' hm hS'
          obtain ⟨h', g', d', tk', os'⟩ := s'
          have eg : g' = s.gens := hm.gens
          have ed : d' = s.drawn := hm.drawn
          have eo : os' = s.os := hm.os
          subst eg; subst ed; subst eo
          show wpAny _ _ _ _ _ _
          refine wpAny_pure ?_
          show wpAny _ _ (ret Value.none) _ _ _
          refine wpAny_pure ⟨rfl, h', tk', rfl, hS', fun b o hb e => ?_⟩
          have hb1 : b ≠ s.heap.objs.size := Nat.ne_of_lt hb
          have hb2 : b ≠ (s.heap.push { cls := .type "set", dict := none, data := .set #[] 0 (.fresh 0 0 led) }).objs.size := by
            rw [Heap.size_push]; exact Nat.ne_of_lt (Nat.lt_succ_of_lt hb)
          exact hm.heap b o (by simp only [List.mem_cons, List.mem_singleton, List.not_mem_nil, or_false, not_or]; exact ⟨hb1, hb2⟩) (Heap.get?_push_of_some _ (Heap.get?_push_of_some _ e))
      · cases r₂ with
        | error e => exact hr₂
        | ok fl₂ =>
          cases fl₂ with
          | ret r =>
            obtain ⟨rfl, h', tk, rfl, hS', hk'⟩ := hr₂
            repeat (any_goals (first | assumption | wp_step))
            exact h _ _ hS' fun b o e => hk' b o (Heap.lt_size e) e
          | _ => exact hr₂.elim
    | _ => exact hr.elim
end
end Mine
end

section
open PySem PySem.W PySem.Calls PySem.Spec PyProof.Rows
set_option Elab.async false
set_option maxRecDepth 100000
namespace Mine
theorem ent_set_iter : entryFor table "set.__iter__" = some Builtin.«frozenset.__iter__» :=
  entryFor_alias (id' := "frozenset.__iter__") (by kernel_rfl) rfl (by decide +kernel) (by kernel_rfl)
theorem slot_si_next : Slot "set_iterator" "__next__" "set_iterator.__next__" :=
  .of (owner := "set_iterator") (n := "__next__") (by rw [typeLookup_type, builtinLookup_eq_fast]; kernel_rfl) (by decide +kernel) (by decide +kernel) (by decide +kernel)
    (by first | exact .inl (by decide +kernel) | exact .inr (by decide +kernel)) (by rw [isSubtype_type]; kernel_rfl)
theorem ent_si_next : entryFor table "set_iterator.__next__" = some Builtin.«set_iterator.__next__» := entryFor_of_tree (by kernel_rfl)
theorem args_si_next (a : Value) : argsOk "set_iterator.__next__" ⟨[a], []⟩ := by unfold argsOk; kernel_rfl
theorem slot_si_iter : Slot "set_iterator" "__iter__" "set_iterator.__iter__" :=
  .of (owner := "set_iterator") (n := "__iter__") (by rw [typeLookup_type, builtinLookup_eq_fast]; kernel_rfl) (by decide +kernel) (by decide +kernel) (by decide +kernel)
    (by first | exact .inl (by decide +kernel) | exact .inr (by decide +kernel)) (by rw [isSubtype_type]; kernel_rfl)
theorem ent_si_iter : entryFor table "set_iterator.__iter__" = some Builtin.«dict_keyiterator.__iter__» :=
  entryFor_alias (id' := "dict_keyiterator.__iter__") (by kernel_rfl) rfl (by decide +kernel) (by kernel_rfl)
theorem args_si_iter (a : Value) : argsOk "set_iterator.__iter__" ⟨[a], []⟩ := by unfold argsOk; kernel_rfl
section
variable {prog : Program} {w : World} {A : Around} {E : Value → Shared → Prop} {s : Shared} {a : Addr} {ss : List Str}
theorem choose_order {n : Nat} {Q : Nat → Shared → Prop} (hn : n ≠ 0) (h : ∀ i d, i < n → Q i { s with drawn := d }) : wpAny (model prog w) A (choose .order n) Q E s := fun Γ p _ => by
  show Sem.wp (model prog w) Γ (Sem.choose .order n .pure) _ _ p s
  rw [Sem.wp_choose]
  exact ⟨hn, h _ _ (Nat.mod_lt _ (Nat.pos_of_ne_zero hn))⟩
theorem draw_perm {α : Type} : ∀ (n : Nat) (xs : List α) (s : Shared) (Q : List α → Shared → Prop), xs.length = n → (∀ ys d, ys.Perm xs → Q ys { s with drawn := d }) → wpAny (model prog w) A (drawOrder n xs) Q E s
  | 0, xs, s, Q, h, hQ => by
    rw [List.length_eq_zero_iff.mp h] at hQ ⊢
    exact wpAny_pure (hQ [] s.drawn (.refl _))
  | n + 1, [], s, Q, h, hQ => by cases h
  | n + 1, x :: xs, s, Q, h, hQ => by
    unfold drawOrder
    refine wpAny_bind (choose_order (by simp) fun i d hi => ?_)
    rw [List.getElem?_eq_getElem hi]
    dsimp only
    refine wpAny_bind (draw_perm n ((x :: xs).eraseIdx i) _ _ (by rw [List.length_eraseIdx, if_pos hi, h]; rfl) fun ys d' hp => ?_)
    exact wpAny_pure (hQ _ d' ((hp.cons _).trans (eraseIdx_perm _ _ _ (List.getElem?_eq_getElem hi))))

/-- the iterator's two shapes -/
def IsSetIter (h : Heap) (it a : Addr) (first : Value) (i n ep : Nat) : Prop :=
  ∃ o, h.get? it = some o ∧ o.cls = .type "set_iterator" ∧ o.data = .fields #[first, .int i 0, .ref a, .int n 0, .int ep 0]
theorem IsSetIter.typeIs {s : Shared} {it a : Addr} {f : Value} {i n ep : Nat} (x : IsSetIter s.heap it a f i n ep) : s.TypeIs (.ref it) "set_iterator" := let ⟨o, ho, hc, _⟩ := x; ⟨o, ho, hc⟩
theorem iter_self {it : Addr} {f : Value} {i n ep : Nat} {Q : Value → Shared → Prop} (hit : IsSetIter s.heap it a f i n ep) (h : Q (.ref it) s) : wpAny (model prog w) A (pyIter (.ref it)) Q E s := by
  refine wpAny_pyIter_slot hit.typeIs slot_si_iter (wpAny_call_entry slot_si_iter hit.typeIs ent_si_iter ?_ (args_si_iter _))
  show wpAny _ _ (ret (.ref it)) _ _ s
  exact wpAny_pure ⟨_, rfl, "set_iterator", _, hit.typeIs, slot_si_next.lookup, h⟩
/-- the set as the iterator needs it -/
def SetIs (h : Heap) (a : Addr) (es : Array (Int × Value)) (ep : Nat) : Prop := ∃ o t, h.get? a = some o ∧ o.data = .set es ep t ∧ t.fits es.size = true
theorem SetIs.keep {h h' : Heap} {es : Array (Int × Value)} {ep : Nat} (x : SetIs h a es ep) (hk : ∀ o, h.get? a = some o → h'.get? a = some o) : SetIs h' a es ep := let ⟨o, t, ho, r⟩ := x; ⟨o, t, hk o ho, r⟩
theorem next_item_drawn {it tup : Addr} {places : List Nat} {es : Array (Int × Value)} {i ep p : Nat} {e : Int × Value} {Q : Option Value → Shared → Prop} (hit : IsSetIter s.heap it a (.ref tup) i es.size ep)
    (hS : SetIs s.heap a es ep) (ht : s.heap.IsTuple tup (places.map fun p => rawInt (Int.ofNat p)).toArray) (hp : places[i]? = some p) (he : es[p]? = some e)
    (hQ : ∀ h', IsSetIter h' it a (.ref tup) (i + 1) es.size ep → Heap.SameBut it s.heap h' → Q (some e.2) { s with heap := h' }) : wpAny (model prog w) A (pyNext (.ref it)) Q E s := by
  obtain ⟨o, ho, hc, hd⟩ := id hit
  obtain ⟨os, t, hos, hds, hf⟩ := hS
  obtain ⟨ot, hot, _, nt, hdt⟩ := ht
  unfold pyNext
  refine wpAny_bind (wpAny_attempt (wpAny_callSpecial?_slot (name := Str.ofString "__next__") hit.typeIs slot_si_next
    (wpAny_call_entry slot_si_next hit.typeIs ent_si_next ?_ (args_si_next _))))
  show wpAny _ _ (fieldsOf (.ref it) >>= _) _ _ s
  refine wpAny_bind (wpAny_fieldsOf ho hd ?_)
  show wpAny _ _ (setEntries a >>= _) _ _ s
  refine wpAny_bind (wpAny_setEntries_of hos hds hf ?_)
  rw [if_neg (by simp)]
  show wpAny _ _ (seqItems? (.ref tup) >>= _) _ _ s
  refine wpAny_bind (wpAny_seqItems hot hdt ?_)
  dsimp only
  rw [show (places.map fun p => rawInt (Int.ofNat p)).toArray[((i : Nat) : Int).toNat]? = some (.int (Int.ofNat p) 0) from by simp [hp, rawInt]]
  dsimp only
  refine wpAny_bind ?_
  unfold setNextDrawn
  refine wpAny_bind (wpAny_setState_of hos hds hf ?_)
  dsimp only
  rw [show (ep != ((ep : Nat) : Int).toNat) = false from by simp]
  simp only [Bool.false_eq_true, if_false]
  rw [show es[((Int.ofNat p)).toNat]? = some e from by simpa using he]
  refine wpAny_pure ?_
  refine wpAny_bind (wpAny_setField ho hd (by simp) (wpAny_pure ⟨_, rfl, wpAny_pure (hQ _ ?_ (Heap.SameBut.update ..))⟩))
  exact ⟨_, Heap.get?_update_self _ ho (Obj.isFreed_of_fields (Obj.data_mapFields hd _)), (Obj.cls_mapFields ..).trans hc, by
    rw [Obj.data_mapFields hd]; simp [rawInt]⟩
theorem stop_tail {it : Addr} {h : Heap} {Q : Option Value → Shared → Prop} (hh : A.handled = none) (hx : Heap.ExtBut it s.heap h) (hQ : ∀ h', Heap.ExtBut it s.heap h' → Q none { s with heap := h' }) :
    wpAny (model prog w) A.in1 (newExc (.type "StopIteration") [] >>= fun e => (raiseNew e : Sem Fin)) (fun fin s' => ∃ v, fin = Fin.done (Flow.ret v) ∧ wpAny (model prog w) A (pure (some v)) Q E s')
      (fun e s' => wpAny (model prog w) A (do if (← isInstance e (.type "StopIteration")) = true then pure none else throw e) Q E s') { s with heap := h } := by
  refine wpAny_bind ?_
  simp only [newExc, newTuple]
  refine wpAny_bind (wpAny_newObj_type ?_ (by size_fits))
  refine wpAny_bind (m := firstArgMember _ _) (wpAny_of_eq (a := Value.none) (by first | rfl | (simp only [firstArgMember]; rfl)) ?_)
  refine wpAny_newObj_type ?_ (by size_fits)
  simp only [raiseNew]
  refine wpAny_bind (wpAny_handled ?_)
  rw [show A.in1.handled = none from hh]
  refine wpAny_bind (wpAny_pure (wpAny_throw ?_))
  refine wpAny_bind (wpAny_isInstance (T := "StopIteration") (b := true) ⟨_, Heap.get?_push_size _ rfl, rfl⟩ isSubtype_stop ?_)
  exact wpAny_pure (hQ _ ((hx.push _).push _))
set_option maxHeartbeats 400000 in
theorem next_end_drawn {it tup : Addr} {places : List Nat} {es : Array (Int × Value)} {i ep : Nat} {Q : Option Value → Shared → Prop} (hh : A.handled = none) (hit : IsSetIter s.heap it a (.ref tup) i es.size ep)
    (hS : SetIs s.heap a es ep) (ht : s.heap.IsTuple tup (places.map fun p => rawInt (Int.ofNat p)).toArray) (hp : places[i]? = none)
    (hQ : ∀ h', Heap.ExtBut it s.heap h' → Q none { s with heap := h' }) : wpAny (model prog w) A (pyNext (.ref it)) Q E s := by
  obtain ⟨o, ho, hc, hd⟩ := id hit
  obtain ⟨os, t, hos, hds, hf⟩ := hS
  obtain ⟨ot, hot, _, nt, hdt⟩ := ht
  unfold pyNext
  refine wpAny_bind (wpAny_attempt (wpAny_callSpecial?_slot (name := Str.ofString "__next__") hit.typeIs slot_si_next
    (wpAny_call_entry slot_si_next hit.typeIs ent_si_next ?_ (args_si_next _))))
  show wpAny _ _ (fieldsOf (.ref it) >>= _) _ _ s
  refine wpAny_bind (wpAny_fieldsOf ho hd ?_)
  show wpAny _ _ (setEntries a >>= _) _ _ s
  refine wpAny_bind (wpAny_setEntries_of hos hds hf ?_)
  rw [if_neg (by simp)]
  show wpAny _ _ (seqItems? (.ref tup) >>= _) _ _ s
  refine wpAny_bind (wpAny_seqItems hot hdt ?_)
  dsimp only
  rw [show (places.map fun p => rawInt (Int.ofNat p)).toArray[((i : Nat) : Int).toNat]? = none from by simpa using hp]
  dsimp only
  refine wpAny_bind (wpAny_setField ho hd (by simp) ?_)
  have ho2 := Heap.get?_update_self (Obj.mapFields (·.setIfInBounds 0 (rawInt 0))) ho (Obj.isFreed_of_fields (Obj.data_mapFields hd _))
  refine wpAny_bind (wpAny_setField ho2 (Obj.data_mapFields hd _) (by simp) ?_)
  have hx1 := (Heap.SameBut.update s.heap it (Obj.mapFields (·.setIfInBounds 0 (rawInt 0)))).extBut
  refine stop_tail (s := s) (it := it) hh ?_ hQ
  exact fun b o hb e => (Heap.get?_update_other _ _ (Ne.symm hb)).trans (hx1 b o hb e)
set_option maxHeartbeats 400000 in
theorem next_item_text {it : Addr} {es : Array (Int × Value)} {i ep : Nat} {e : Int × Value} {Q : Option Value → Shared → Prop} (hw : w.params.followText "set-order" = true) (hit : IsSetIter s.heap it a (rawInt 0) i es.size ep)
    (hS : SetIs s.heap a es ep) (he : (pickOrder (w.params.setOrder a ep) es)[i]? = some e)
    (hQ : ∀ h', IsSetIter h' it a (rawInt 0) (i + 1) es.size ep → Heap.SameBut it s.heap h' → Q (some e.2) { s with heap := h' }) : wpAny (model prog w) A (pyNext (.ref it)) Q E s := by
  obtain ⟨o, ho, hc, hd⟩ := id hit
  obtain ⟨os, t, hos, hds, hf⟩ := hS
  unfold pyNext
  refine wpAny_bind (wpAny_attempt (wpAny_callSpecial?_slot (name := Str.ofString "__next__") hit.typeIs slot_si_next
    (wpAny_call_entry slot_si_next hit.typeIs ent_si_next ?_ (args_si_next _))))
  show wpAny _ _ (fieldsOf (.ref it) >>= _) _ _ s
  refine wpAny_bind (wpAny_fieldsOf ho hd ?_)
  show wpAny _ _ (setEntries a >>= _) _ _ s
  refine wpAny_bind (wpAny_setEntries_of hos hds hf ?_)
  rw [if_neg (by simp)]
  show wpAny _ _ (setNext a ((0 : Int).toNat) ((i : Int).toNat) ((ep : Int).toNat) >>= _) _ _ s
  refine wpAny_bind ?_
  unfold setNext setsByText
  refine wpAny_bind (wpAny_setState_of hos hds hf ?_)
  dsimp only
  refine wpAny_bind (wpAny_bind (wpAny_askSetting (wpAny_pure ?_)))
  refine wpAny_ite_split (fun _ => ?_) (fun hn => absurd hw hn)
  rw [show (ep != ((ep : Nat) : Int).toNat) = false from by simp]
  simp only [Bool.false_eq_true, if_false]
  unfold setWalk setsByText
  refine wpAny_bind (wpAny_bind (wpAny_setState_of hos hds hf ?_))
  dsimp only
  refine wpAny_bind (wpAny_bind (wpAny_askSetting (wpAny_pure ?_)))
  refine wpAny_ite_split (fun _ => ?_) (fun hn => absurd hw hn)
  refine wpAny_bind (wpAny_askSetting (wpAny_pure ?_))
  show wpAny _ _ (pure (Option.map (fun e : Int × Value => (e.2, Int.toNat 0)) ((pickOrder (w.params.setOrder a ep) es)[((i : Nat) : Int).toNat]?))) _ _ _
  rw [show (pickOrder (w.params.setOrder a ep) es)[((i : Nat) : Int).toNat]? = some e from by simpa using he]
  refine wpAny_pure ?_
  show wpAny _ _ (setField (.ref it) 0 _ >>= _) _ _ s
  refine wpAny_bind (wpAny_setField ho hd (by simp) ?_)
  have ho2 := Heap.get?_update_self (Obj.mapFields (·.setIfInBounds 0 (rawInt ((0 : Int).toNat : Nat)))) ho (Obj.isFreed_of_fields (Obj.data_mapFields hd _))
  refine wpAny_bind (wpAny_setField ho2 (Obj.data_mapFields hd _) (by simp) (wpAny_pure ⟨_, rfl, wpAny_pure (hQ _ ?_ ((Heap.SameBut.update ..).trans (Heap.SameBut.update ..)))⟩))
  exact ⟨_, Heap.get?_update_self _ ho2 (Obj.isFreed_of_fields (Obj.data_mapFields (Obj.data_mapFields hd _) _)), ((Obj.cls_mapFields ..).trans (Obj.cls_mapFields ..)).trans hc, by
    rw [Obj.data_mapFields (Obj.data_mapFields hd _)]; simp [rawInt]⟩
set_option maxHeartbeats 400000 in
theorem next_end_text {it : Addr} {es : Array (Int × Value)} {i ep : Nat} {Q : Option Value → Shared → Prop} (hh : A.handled = none) (hw : w.params.followText "set-order" = true) (hit : IsSetIter s.heap it a (rawInt 0) i es.size ep)
    (hS : SetIs s.heap a es ep) (he : (pickOrder (w.params.setOrder a ep) es)[i]? = none)
    (hQ : ∀ h', Heap.ExtBut it s.heap h' → Q none { s with heap := h' }) : wpAny (model prog w) A (pyNext (.ref it)) Q E s := by
  obtain ⟨o, ho, hc, hd⟩ := id hit
  obtain ⟨os, t, hos, hds, hf⟩ := hS
  unfold pyNext
  refine wpAny_bind (wpAny_attempt (wpAny_callSpecial?_slot (name := Str.ofString "__next__") hit.typeIs slot_si_next
    (wpAny_call_entry slot_si_next hit.typeIs ent_si_next ?_ (args_si_next _))))
  show wpAny _ _ (fieldsOf (.ref it) >>= _) _ _ s
  refine wpAny_bind (wpAny_fieldsOf ho hd ?_)
  show wpAny _ _ (setEntries a >>= _) _ _ s
  refine wpAny_bind (wpAny_setEntries_of hos hds hf ?_)
  rw [if_neg (by simp)]
  show wpAny _ _ (setNext a ((0 : Int).toNat) ((i : Int).toNat) ((ep : Int).toNat) >>= _) _ _ s
  refine wpAny_bind ?_
  unfold setNext setsByText
  refine wpAny_bind (wpAny_setState_of hos hds hf ?_)
  dsimp only
  refine wpAny_bind (wpAny_bind (wpAny_askSetting (wpAny_pure ?_)))
  refine wpAny_ite_split (fun _ => ?_) (fun hn => absurd hw hn)
  rw [show (ep != ((ep : Nat) : Int).toNat) = false from by simp]
  simp only [Bool.false_eq_true, if_false]
  unfold setWalk setsByText
  refine wpAny_bind (wpAny_bind (wpAny_setState_of hos hds hf ?_))
  dsimp only
  refine wpAny_bind (wpAny_bind (wpAny_askSetting (wpAny_pure ?_)))
  refine wpAny_ite_split (fun _ => ?_) (fun hn => absurd hw hn)
  refine wpAny_bind (wpAny_askSetting (wpAny_pure ?_))
  show wpAny _ _ (pure (Option.map (fun e : Int × Value => (e.2, Int.toNat 0)) ((pickOrder (w.params.setOrder a ep) es)[((i : Nat) : Int).toNat]?))) _ _ _
  rw [show (pickOrder (w.params.setOrder a ep) es)[((i : Nat) : Int).toNat]? = none from by simpa using he]
  refine wpAny_pure ?_
  show wpAny _ _ (setField (.ref it) 2 _ >>= _) _ _ s
  refine wpAny_bind (wpAny_setField ho hd (by simp) ?_)
  exact stop_tail hh (Heap.SameBut.update ..).extBut hQ

theorem walks_drawn (hh : A.handled = none) {I tup : Addr} (hIa : a ≠ I) (hIt : tup ≠ I) {places : List Nat} {es : Array (Int × Value)} {ep : Nat} (hlen : places.length = es.size) (hpl : ∀ p ∈ places, p < es.size) :
    Walks prog w A I [I, a, tup] [I] es.size (fun i v => (places.map fun p => (es.toList.map (·.2)).getD p .none)[i]? = some v)
      (fun i h => IsSetIter h I a (.ref tup) i es.size ep ∧ SetIs h a es ep ∧ h.IsTuple tup (places.map fun p => rawInt (Int.ofNat p)).toArray) where
  sub := fun b hb => by simp at hb; simp [hb]
  frame := fun _ _ _ st hk => ⟨let ⟨o, ho, r⟩ := st.1; ⟨o, hk I (by simp) o ho, r⟩, st.2.1.keep fun o e => hk a (by simp) o e, let ⟨o, ho, r⟩ := st.2.2; ⟨o, hk tup (by simp) o ho, r⟩⟩
  item := fun i s Q E hi st hQ => by
    have hi' : i < places.length := by rw [hlen]; exact hi
    have hp : places[i]? = some places[i] := List.getElem?_eq_getElem hi'
    have hlt : places[i] < es.size := hpl _ (List.getElem_mem hi')
    refine next_item_drawn st.1 st.2.1 st.2.2 hp (e := es[places[i]]) (Array.getElem?_eq_getElem hlt) fun h' hit' hs' => ?_
    refine hQ _ h' s.toks ?_ ⟨hit', st.2.1.keep fun o e => hs'.extBut a o hIa e, let ⟨o, ho, r⟩ := st.2.2; ⟨o, hs'.extBut tup o hIt ho, r⟩⟩ fun b o hb e => hs'.extBut b o (fun h => hb (by simp [h])) e
    rw [List.getElem?_map, hp]
    simp [hlt]
  done := fun s Q E st hQ => next_end_drawn hh st.1 st.2.1 st.2.2 (by simp [hlen]) fun h' he' => hQ h' s.toks fun b o hb e => he' b o (fun h => hb (by simp [h])) e
  self := fun _ _ _ _ st hQ => iter_self st.1 hQ
theorem walks_text (hh : A.handled = none) (hw : w.params.followText "set-order" = true) {I : Addr} (hIa : a ≠ I) {es : Array (Int × Value)} {ep : Nat} :
    Walks prog w A I [I, a] [I] es.size (fun i v => ((pickOrder (w.params.setOrder a ep) es).toList.map (·.2))[i]? = some v)
      (fun i h => IsSetIter h I a (rawInt 0) i es.size ep ∧ SetIs h a es ep) where
  sub := fun b hb => by simp at hb; simp [hb]
  frame := fun _ _ _ st hk => ⟨let ⟨o, ho, r⟩ := st.1; ⟨o, hk I (by simp) o ho, r⟩, st.2.keep fun o e => hk a (by simp) o e⟩
  item := fun i s Q E hi st hQ => by
    have hsz : (pickOrder (w.params.setOrder a ep) es).size = es.size := by
      rw [← Array.length_toList, (pickOrder_perm _ es).length_eq, Array.length_toList]
    have hi' : i < (pickOrder (w.params.setOrder a ep) es).size := by rw [hsz]; exact hi
    refine next_item_text hw st.1 st.2 (Array.getElem?_eq_getElem hi') fun h' hit' hs' => ?_
    refine hQ _ h' s.toks ?_ ⟨hit', st.2.keep fun o e => hs'.extBut a o hIa e⟩ fun b o hb e => hs'.extBut b o (fun h => hb (by simp [h])) e
    simp [hi']
  done := fun s Q E st hQ => by
    have hsz : (pickOrder (w.params.setOrder a ep) es).size = es.size := by
      rw [← Array.length_toList, (pickOrder_perm _ es).length_eq, Array.length_toList]
    exact next_end_text hh hw st.1 st.2 (by simp [hsz]) fun h' he' => hQ h' s.toks fun b o hb e => he' b o (fun h => hb (by simp [h])) e
  self := fun _ _ _ _ st hQ => iter_self st.1 hQ
end
end Mine
end

section
open PySem PySem.W PySem.Calls PySem.Spec PyProof.Rows
set_option Elab.async false
set_option maxRecDepth 100000
namespace Mine
section
variable {prog : Program} {w : World} {A : Around} {E : Value → Shared → Prop} {s : Shared} {a : Addr} {ss : List Str}
theorem ints_perm {ys : List Nat} {n : Nat} (h : ys.Perm (List.range n)) : ys.length = n ∧ ∀ p ∈ ys, p < n := ⟨by rw [h.length_eq, List.length_range], fun p hp => List.mem_range.mp (h.mem_iff.mp hp)⟩
theorem take_perm {α : Type} (l : List α) (d : α) {ys : List Nat} (h : ys.Perm (List.range l.length)) : (ys.map fun p => l.getD p d).Perm l := by
  refine (h.map _).trans ?_
  have : (List.range l.length).map (fun p => l.getD p d) = l := by
    refine List.ext_getElem (by simp) fun i h1 h2 => ?_
    simp [List.getD_eq_getElem?_getD, h2]
  rw [this]
theorem iter_set {Q : Value → Shared → Prop} (hS : SetL prog w s.heap a ss) (h2 : 1 < ss.length)
    (hQ : ∀ (I : Addr) (s₁ : Shared) (fp : List Addr) (St : Nat → Heap → Prop) (vs : List Value), (∀ b o, s.heap.get? b = some o → s₁.heap.get? b = some o) → s₁.gens = s.gens → s₁.os = s.os → s.heap.objs.size ≤ I →
      (∀ A' : Around, A'.handled = none → Walks prog w A' I fp [I] ss.length (fun i v => vs[i]? = some v) St) → St 0 s₁.heap → (∀ b ∈ fp, b = a ∨ s.heap.objs.size ≤ b) → (∀ b ∈ fp, b < s₁.heap.objs.size) →
      StrsAre vs (vs.map strOf) → (vs.map strOf).Perm ss → Q (.ref I) s₁) :
    wpAny (model prog w) A (pyIter (.ref a)) Q E s := by
  obtain ⟨o, es, ep, t, ho, hex, hd, hel, hp, hb, hf, hpl⟩ := hS
  have hsz : es.size = ss.length := by rw [← hp.length_eq, List.length_map, Array.length_toList]
  have hT : s.TypeIs (.ref a) "set" := ⟨o, ho, hex.1⟩
  have hla : a < s.heap.objs.size := Heap.lt_size ho
  have hvs : ∀ v ∈ es.toList.map (·.2), ∃ y u, v = Value.str y u := fun v hv => by
    obtain ⟨e, he, rfl⟩ := List.mem_map.mp hv
    obtain ⟨y, u, rfl⟩ := hel e he
    exact ⟨y, u, rfl⟩
  refine wpAny_pyIter_slot hT F.slot_set_iter (wpAny_call_entry F.slot_set_iter hT ent_set_iter ?_ (F.args_set_iter_1 _))
  unfold Builtin.«frozenset.__iter__»
  show wpAny _ _ (Builtin.Frozenset.sizeOf a >>= _) _ _ s
  refine wpAny_bind (wpAny_bind (wpAny_setEntries_of ho hd hf (wpAny_pure ?_)))
  refine wpAny_bind ?_
  unfold setDrawn setsByText
  refine wpAny_bind (wpAny_setState_of ho hd hf ?_)
  dsimp only
  refine wpAny_bind (wpAny_bind (wpAny_askSetting (wpAny_pure ?_)))
  refine wpAny_pure ?_
  show wpAny _ _ (if (!w.params.followText "set-order" && (!t.plain && decide (es.size > 1))) = true then _ else _) _ _ s
  rw [hpl (by omega), decide_eq_true (show es.size > 1 by omega)]
  cases hw : w.params.followText "set-order" with
  | false =>
    rw [if_pos (show (!false && (!false && true)) = true from rfl)]
    refine wpAny_bind (draw_perm es.size (List.range es.size) s _ List.length_range fun ys d hys => ?_)
    obtain ⟨hlen, hlt⟩ := ints_perm hys
    refine wpAny_bind (wpAny_newTuple (items := ys.map fun (i : Nat) => rawInt i) ?_ (by rw [List.length_map, hlen]; exact fits_of_scanBound hb))
    have ho1 : (s.heap.push { cls := .type "tuple", data := .seq (ys.map fun i => rawInt (Int.ofNat i)).toArray }).get? a = some o := Heap.get?_push_of_some _ ho
    refine wpAny_bind (wpAny_setEpoch_of ho1 hd hf ?_)
    refine wpAny_bind (wpAny_newObj_type (wpAny_pure ?_))
    refine ⟨_, rfl, "set_iterator", _, ⟨_, Heap.get?_push_size _ rfl, rfl⟩, slot_si_next.lookup, ?_⟩
    have hI : (s.heap.push { cls := .type "tuple", data := .seq (ys.map fun i => rawInt (Int.ofNat i)).toArray }).objs.size = s.heap.objs.size + 1 := Heap.size_push _ _
    have hIa := Nat.ne_of_lt (Nat.lt_of_lt_of_eq (Nat.lt_succ_of_lt hla) hI.symm)
    have hIt := Nat.ne_of_lt (Nat.lt_of_lt_of_eq (Nat.lt_succ_self s.heap.objs.size) hI.symm)
    refine hQ _ _ [_, a, s.heap.objs.size] (fun i h => IsSetIter h _ a (.ref s.heap.objs.size) i es.size ep ∧ SetIs h a es ep ∧ h.IsTuple s.heap.objs.size (ys.map fun p => rawInt (Int.ofNat p)).toArray) (ys.map fun p => (es.toList.map (·.2)).getD p .none) (fun b o e => Heap.get?_push_of_some _ (Heap.get?_push_of_some _ e)) rfl rfl (Nat.le_trans (Nat.le_succ _) (Nat.le_of_eq hI.symm))
      (fun A' hA => by rw [← hsz]; exact walks_drawn hA (tup := s.heap.objs.size) (places := ys) (es := es) (ep := ep) hIa hIt hlen hlt) ⟨⟨_, Heap.get?_push_size _ rfl, rfl, rfl⟩, ⟨_, _, Heap.get?_push_of_some _ ho1, hd, hf⟩, ⟨_, Heap.get?_push_of_some _ (Heap.get?_push_size _ rfl), rfl, _, rfl⟩⟩ ?_ ?_ ?_ ?_
    · intro b hb
      simp only [List.mem_cons, List.not_mem_nil, or_false] at hb
      rcases hb with e | e | e
      · exact .inr (Nat.le_trans (Nat.le_succ _) (Nat.le_of_eq (hI.symm.trans e.symm)))
      · exact .inl e
      · exact .inr (Nat.le_of_eq e.symm)
    · intro b hb
      simp only [List.mem_cons, List.not_mem_nil, or_false] at hb
      show b < Array.size _
      rw [Heap.size_push]
      rcases hb with e | e | e
      · exact Nat.lt_succ_of_le (Nat.le_of_eq e)
      · exact e ▸ Nat.lt_succ_of_lt (Nat.lt_of_lt_of_eq (Nat.lt_succ_of_lt hla) hI.symm)
      · exact e ▸ Nat.lt_succ_of_lt (Nat.lt_of_lt_of_eq (Nat.lt_succ_self _) hI.symm)
    · refine strsAre_of fun v hv => hvs v ?_
      exact (take_perm (es.toList.map (·.2)) .none (by simpa using hys)).mem_iff.mp hv
    · refine ((take_perm (es.toList.map (·.2)) .none (by simpa using hys)).map strOf).trans ?_
      rw [List.map_map]; exact hp
  | true =>
    rw [if_neg (show ¬ (!true && (!false && true)) = true by decide)]
    refine wpAny_bind (wpAny_pure ?_)
    refine wpAny_bind (wpAny_setEpoch_of ho hd hf ?_)
    refine wpAny_bind (wpAny_newObj_type (wpAny_pure ?_))
    refine ⟨_, rfl, "set_iterator", _, ⟨_, Heap.get?_push_size _ rfl, rfl⟩, slot_si_next.lookup, ?_⟩
    refine hQ _ _ [_, a] (fun i h => IsSetIter h _ a (rawInt 0) i es.size ep ∧ SetIs h a es ep) ((pickOrder (w.params.setOrder a ep) es).toList.map (·.2)) (fun b o e => Heap.get?_push_of_some _ e) rfl rfl (Nat.le_refl _)
      (fun A' hA => by rw [← hsz]; exact walks_text hA hw (es := es) (ep := ep) (Nat.ne_of_lt hla)) ⟨⟨_, Heap.get?_push_size _ rfl, rfl, rfl⟩, ⟨_, _, Heap.get?_push_of_some _ ho, hd, hf⟩⟩ ?_ ?_ ?_ ?_
    · intro b hb
      simp only [List.mem_cons, List.not_mem_nil, or_false] at hb
      rcases hb with e | e
      · exact .inr (Nat.le_of_eq e.symm)
      · exact .inl e
    · intro b hb
      simp only [List.mem_cons, List.not_mem_nil, or_false] at hb
      show b < Array.size _
      rw [Heap.size_push]
      rcases hb with e | e
      · exact Nat.lt_succ_of_le (Nat.le_of_eq e)
      · exact e ▸ Nat.lt_succ_of_lt hla
    · refine strsAre_of fun v hv => hvs v ?_
      exact ((pickOrder_perm _ es).map _).mem_iff.mp hv
    · refine (((pickOrder_perm _ es).map _).map strOf).trans ?_
      rw [List.map_map]; exact hp
theorem hint_set {r : Addr} {Q : Bool → Shared → Prop} (hT : s.TypeIs (.ref r) "set") (h : Q false s) : wpAny (model prog w) A (Builtin.List.listLengthHint (.ref r)) Q E s := by
  unfold Builtin.List.listLengthHint
  refine wpAny_bind (wpAny_specialOf hT PySem.F.slot_set_len.lookup ?_)
  generalize hid : ("set.__len__" : String) = id0
  wp_delta
  rw [show splitId id0 = some ("set", "__len__") from by subst hid; decide +kernel]
  subst hid
  refine wpAny_bind (wpAny_isInstance (T := "set") (b := true) hT (by rw [isSubtype_type]; kernel_rfl) ?_)
  refine wpAny_ite_split (fun hab => absurd hab (by decide)) (fun _ => ?_)
  refine wpAny_ite_split (fun _ => ?_) (fun hab => absurd (by decide +kernel) hab)
  refine wpAny_bind (wpAny_typeOf hT ?_)
  exact wpAny_pure h
theorem collect_set {Q : List Value → Shared → Prop} (hh : A.handled = none) (hS : SetL prog w s.heap a ss) (h2 : 1 < ss.length) (hn : ss.length ≤ sizeLine)
    (hQ : ∀ s' vs ss', (∀ b o, s.heap.get? b = some o → s'.heap.get? b = some o) → s'.gens = s.gens → s'.os = s.os → StrsAre vs ss' → ss'.Perm ss → Q vs s') :
    wpAny (model prog w) A (collect (.ref a)) Q E s := by
  have hla : a < s.heap.objs.size := let ⟨_, _, _, _, ho, _⟩ := hS; Heap.lt_size ho
  have hSI : s.heap.objs.size ≠ a := Nat.ne_of_gt hla
  unfold collect
  refine wpAny_bind (wpAny_runValue (codeAny_builtin F.entry_proto_collect ?_))
  rw [Around.under_plainId F.plain_proto_collect _]
  show wpAny _ A.in1 (newList [] >>= fun l => again (.builtin "list.__iadd__" ⟨[l, .ref a], []⟩)) _ _ s
  refine wpAny_bind (wpAny_newObj_type ?_)
  refine wpAny_pure ⟨plainId_quiet F.plain_list_iadd _, codeAny_builtin F.entry_list_iadd ?_⟩
  rw [Around.under_plainId F.plain_list_iadd _]
  have hS₁ : SetL prog w (s.heap.push { cls := .type "list", data := .seq ([] : List Value).toArray }) a ss := hS.keep fun o e => Heap.get?_push_of_some _ e
  show wpAny _ A.in1 (Builtin.List.listExtendWith (.ref s.heap.objs.size) (.ref a) (.ref s.heap.objs.size)) _ _ _
  unfold Builtin.List.listExtendWith
  have hT : ∀ {s' : Shared}, SetL prog w s'.heap a ss → s'.TypeIs (.ref a) "set" := fun h => let ⟨o, _, _, _, ho, hex, _⟩ := h; ⟨o, ho, hex.1⟩
  refine wpAny_bind (wpAny_typeOf (T := "set") (hT hS₁) ?_)
  have h1 : Builtin.List.listSameRef (.ref s.heap.objs.size) (.ref a) = false := by simp [Builtin.List.listSameRef, hSI]
  have h2' : (Value.type "set" == Value.type "list") = false := by decide
  have h3 : (Value.type "set" == Value.type "tuple") = false := by decide
  simp only [h1, h2', h3, Bool.or_false, Bool.false_eq_true, if_false]
  refine wpAny_bind (iter_set hS₁ h2 fun I s₁ fp St vs hk hg ho hI W st hfa hfs hv hpm => ?_)
  dsimp only at hk hI hfa
  rw [Heap.size_push] at hI hfa
  have hS₂ : SetL prog w s₁.heap a ss := hS₁.keep fun o e => hk _ o e
  have hSf : s.heap.objs.size ∉ fp := fun hm => by
    rcases hfa _ hm with h | h
    · exact hSI h
    · omega
  refine wpAny_bind (wpAny_holding (hint_set (hT hS₂) ?_))
  have hL₁ : s₁.heap.get? s.heap.objs.size = some { cls := .type "list", data := .seq ([] : List Value).toArray } := hk _ _ (Heap.get?_push_size _ rfl)
  refine wpAny_ite_split (fun _ => ?_) (fun hab => absurd (by decide +kernel) hab)
  refine wpAny_bind (wpAny_rule ?_)
  refine wpAny_bind ?_
  show wpAny _ A.in1 (updateSeq s.heap.objs.size (·.push .none) >>= fun _ => updateSeq s.heap.objs.size (·.pop)) _ _ _
  refine wpAny_bind (wpAny_updateSeq hL₁ rfl ?_)
  have hL₂ := Heap.get?_update_self (Obj.mapSeq (·.push Value.none)) hL₁ rfl
  refine wpAny_updateSeq hL₂ rfl ?_
  have hL₃ := Heap.get?_update_self (Obj.mapSeq (·.pop)) hL₂ rfl
  have oth : ∀ b o, b ≠ s.heap.objs.size → s₁.heap.get? b = some o → ((s₁.heap.update s.heap.objs.size (Obj.mapSeq (·.push Value.none))).update s.heap.objs.size (Obj.mapSeq (·.pop))).get? b = some o :=
    fun b o hb e => (Heap.get?_update_other _ _ (Ne.symm hb)).trans ((Heap.get?_update_other _ _ (Ne.symm hb)).trans e)
  have WS := (W A.in1 hh).toS
  refine wpAny_pure ⟨plainId_quiet F.plain_extend_loop _, codeAny_extend_loopS WS hn _ hSf _ ss.length 0 _ _ _ rfl (Nat.zero_le _)
    ((W A.in1 hh).frame 0 _ _ st fun b hb o e => oth b o (fun h => hSf (h ▸ hb)) e) hL₃ (ItemsOf.nil _) fun s' acc' c' hm hS' hacc => ?_⟩
  show wpAny _ A (load s.heap.objs.size >>= _) _ _ s'
  refine wpAny_bind (wpAny_load hS' ?_)
  have hacc2 : acc'.toList = vs := by
    have hvl : vs.length = ss.length := by rw [← hpm.length_eq, List.length_map]
    have hal : acc'.toList.length = ss.length := by rw [Array.length_toList]; exact hacc.1
    refine List.ext_getElem (by rw [hal, hvl]) fun j h1 h2 => ?_
    have := hacc.2 j (acc'.toList[j]) (by rw [← Array.getElem?_toList]; exact List.getElem?_eq_getElem h1)
    replace this : vs[j]? = some (acc'.toList[j]) := this
    rw [List.getElem?_eq_getElem h2] at this
    exact (Option.some.inj this).symm
  refine wpAny_pure ?_
  show Q acc'.toList s'
  rw [hacc2]
  refine hQ s' vs _ (fun b o e => ?_) (hm.gens.trans hg) (hm.os.trans ho) hv hpm
  have hb := Heap.lt_size e
  refine hm.heap b o (fun hmem => ?_) (oth b o (Nat.ne_of_lt hb) (hk _ _ (Heap.get?_push_of_some _ e)))
  simp only [List.mem_cons, List.not_mem_nil, or_false] at hmem
  have hb' : @LT.lt Nat _ b s.heap.objs.size := hb
  have hI' : @LE.le Nat _ (s.heap.objs.size + 1) I := hI
  rcases hmem with e1 | e1
  · exact absurd (e1 ▸ hb') (Nat.lt_irrefl _)
  · rw [e1] at hb'; exact absurd (Nat.lt_of_lt_of_le (Nat.lt_succ_of_lt hb') hI') (Nat.lt_irrefl _)
theorem sorted_set (hh : A.handled = none) {Q : Value → Shared → Prop} (hS : SetL prog w s.heap a ss) (h2 : 1 < ss.length) (h64 : ss.length < 64) (hQ : RetSorted s Q ss) :
    wpAny (model prog w) A (call (.builtin "sorted") [.ref a]) Q E s := by
  refine sorted_by fun Q' h => ?_
  refine collect_set (A := A.in1) hh hS h2 (Nat.le_trans (by omega : _ ≤ 64) (Nat.le_of_ble_eq_true rfl)) fun s' vs ss' hk hg ho hv hp => ?_
  refine h s' vs ss' hk hg ho hv (by rw [strs_len hv, hp.length_eq]; exact h64) fun h' vs' ss'' n k1 k2 k3 k4 k5 k6 => ?_
  exact hQ _ vs' ss'' n _ k1 hg ho k2 k3 k4 (k5.trans hp) k6
end
end Mine
end

section
open PySem PySem.W PySem.Calls PyProof.Rows
set_option Elab.async false
set_option maxRecDepth 100000
namespace Mine

local macro_rules | `(tactic| walk_at "eval Name") => `(tactic| ((with_reducible show wpAny _ _ (eval (Expr.Name _ _) (genEnv _ _ _ _ _ _)) _ _ _); k_dflt (first
  | (refine' gm_ld ?F ?x ?_ ?k ?l; (case k => exact rfl); (case l => exact rfl); (case F => k_asm); (case x => first | assumption | exact rfl); k_whole)
  | (refine' gm_K ?F ?X ?T ?e ?_ ?g ?k ?l; (case g => exact rfl); (case k => exact rfl); (case l => exact rfl); (case F => k_asm); (case X => k_asm); (case T => k_asm); (case e => k_is); k_whole)
  | (refine' gm_B ?F ?X ?T ?e ?v ?n ?_ ?g ?k ?l; (case g => exact rfl); (case k => exact rfl); (case l => exact rfl); (case F => k_asm); (case X => k_asm); (case T => k_asm); (case e => k_is); (case v => boot_fast); (case n => decide); k_whole))))
local macro_rules | `(tactic| walk_at "eval Name") => `(tactic| ((with_reducible show wpAny _ _ (eval (Expr.Name _ _) (compEnvC _ _ _ _)) _ _ _); k_dflt (first
  | (refine' cm_ld ?F ?x ?_ ?k ?l; (case F => k_asm); (case x => first | assumption | exact rfl); (case k => exact rfl); (case l => exact rfl); k_whole)
  | (refine' cm_cell ?F ?c ?v ?_ ?k ?l; (case k => exact rfl); (case l => exact rfl); (case F => k_asm); (case c => exact rfl); (case v => assumption); k_whole)
  | (refine' cm_K ?F ?X ?T ?e ?_ ?g ?k ?l; (case F => k_asm); (case X => k_asm); (case T => k_asm); (case g => exact rfl); (case k => exact rfl); (case l => exact rfl); (case e => k_is); k_whole)
  | (refine' cm_B ?F ?X ?T ?e ?v ?n ?_ ?g ?b ?k ?l; (case F => k_asm); (case X => k_asm); (case T => k_asm); (case g => exact rfl); (case b => exact rfl); (case k => exact rfl); (case l => exact rfl); (case e => k_is); (case v => boot_fast); (case n => decide); k_whole))))
local macro_rules | `(tactic| walk_at "binaryOp BitAnd int int") => `(tactic| (k_dflt (refine' and_nat ?h1 ?h2 ?_; (case h1 => exact rfl); (case h2 => exact rfl))))
local macro_rules | `(tactic| walk_at "binaryOp BitXor int int") => `(tactic| (k_dflt (refine' xor_nat ?h1 ?h2 ?_; (case h1 => exact rfl); (case h2 => exact rfl))))
local macro_rules | `(tactic| walk_at "inplaceOp BitXor int int") => `(tactic| (k_dflt (refine' ixor_nat ?h1 ?h2 ?_; (case h1 => exact rfl); (case h2 => exact rfl))))
local macro_rules | `(tactic| walk_at "binaryOp RShift int int") => `(tactic| (k_dflt (refine' shr_nat ?h1 ?h2 ?_; (case h1 => exact rfl); (case h2 => exact rfl))))
local macro_rules | `(tactic| walk_at "binaryOp LShift int int") => `(tactic| (k_dflt (refine' shl_nat ?h1 ?h2 ?h3 ?h4 ?_; (case h1 => exact rfl); (case h2 => exact rfl); (case h3 => decide); (case h4 => exact and25_lt _))))

theorem hide_list {h : Heap} {l : Addr} {its : Array Value} {ps : Array Value} (hl : h.IsList l its) (hP : h.get? 45 = some (tabO ps)) : (h.hide 45).IsList l its := by
  obtain ⟨o, ho, hc, r⟩ := hl
  refine ⟨o, (Heap.hide_ne h (fun e => ?_)).trans ho, hc, r⟩
  rw [e, hP] at ho
  cases ho
  exact nomatch hc
theorem hide_news2 {h h' : Heap} {L : Addr} {m : Str → Option Value} {ps : Array Value} {news : List (Addr × Obj)} (F : Fr h L h' m) (N : News h L h' news) (hP : h.get? 45 = some (tabO ps)) : News (h.hide 45) L h' ([(45, tabO ps)] ++ news) := fun p hp => by
  rcases List.mem_append.mp hp with hp | hp
  · exact hide_news F hP p hp
  · refine ⟨(N p hp).1, (N p hp).2.1, ?_⟩
    cases e : (h.hide 45).get? p.1 with
    | none => rfl
    | some o => have := Heap.of_hide e; rw [(N p hp).2.2] at this; cases this
def bodyOf : Stmt → List Stmt
  | .FunctionDef _ _ b .. => b
  | _ => []
def scopeOf : Stmt → Scope
  | .FunctionDef (scope := sc) .. => sc
  | _ => { kind := .function, names := [], isGenerator := false, isCoroutine := false }
def lawStmt : Stmt := PySem.Challenge.pw_ar0009_01.main.body.getD 10 (.Pass ⟨0, 0, 0, 0⟩)
abbrev lawEnv (L : Addr) : Env := envOfC (PySem.Str.ofString "law") (scopeOf lawStmt) L 53 (.ref 52)
abbrev lawRest (n : Nat) : List Stmt := (bodyOf lawStmt).drop n
def m4 (l Tl : Addr) (c : Nat) (t : Tok) : Str → Option Value := fun y => if y = PySem.Str.ofString "letter" then some (.str ⟨#[c]⟩ t) else if y = PySem.Str.ofString "told" then some (.ref Tl) else if y = PySem.Str.ofString "script" then some (.ref l) else none
/-- the state ahead of the row -/
structure Mid4 (h₀ h : Heap) (L l Tl R : Addr) (c : Nat) (t : Tok) (z : Int) (os oR ok : Obj) (tv rv : List Value) (told rs : List Int) : Prop where
  F : Fr h₀ L h (m4 l Tl c t)
  N : News h₀ L h [(R, W.listOf rv.toArray 0), (Tl, W.listOf tv.toArray 0), (45, tabO #[]), (L + 3, ok), (L + 2, oR), (L + 1, os)]
  size : ∃ u, os.data = .cell (some (.int z u))
  rows : oR.data = .cell (some (.ref R))
  kc : ok.data = .cell none
  ti : IntsAre tv told
  ri : IntsAre rv rs
  tlen : told.length = 3
  rlen : 1 ≤ rs.length ∧ rs.length ≤ 4
  zb : z = 1 + (told.getD 1 0).fmod 4
  cb : c = (97 + (told.getD 0 0).fmod 26).toNat
theorem mid_one {h₀ h : Heap} {L R : Addr} {x : Int} {u : Tok} {rest : List (Addr × Obj)} {P : Prop} (_ : News h₀ L h ((R, W.listOf #[Value.int x u] 0) :: rest)) (hp : ∀ rv rs, rv = [Value.int x u] → rs = [x] → P) : P := hp _ _ rfl rfl
set_option maxHeartbeats 8000000 in
theorem law_A {prog : Program} {w : World} {dp un : Nat} {fr : Option (List Env)} {gd : Option (List Code)} {s : Shared} {mg mb : Str → Option Value} {bm : Addr} {ob : Obj} {l : Addr} {vs : List Value} {ns : List Int} {Q E : Value → Shared → Prop}
   (B : Base w mg mb s.heap) (hM : BMod s.heap mainGlobals mg bm ob) (hP : s.heap.get? 45 = some (tabO #[])) (hd : dp + 40 < recursionLimit) (hu : un + 200 < cLine)
   (hl : s.heap.IsList l vs.toArray) (hi : IntsAre vs ns) (hn : ns.length ≤ 63) (hlay : (PyData.list (ns.map PyData.int)).layable0 = true)
   (h : ∀ L h' tk Tl R c t z os oR ok tv rv told rs, @LT.lt Nat _ 45 L → Mid4 (s.heap.hide 45) h' L l Tl R c t z os oR ok tv rv told rs →
     wpAny (model prog w) ((At dp un fr gd).deeper (lawEnv L)) (execs (lawRest 4) (lawEnv L)) (fun fl s' => Q (match fl with | .ret v => v | _ => .none) s') (fun _ _ => False) { s with heap := h', toks := tk }) :
   wpAny (model prog w) (At dp un fr gd) (call (.ref 53) [.ref l]) Q E s := by
  refine call_pureC B.K B.T.nolimit (show dp < recursionLimit by omega) rfl rfl (binds := [(PySem.Str.ofString "script", .ref l)]) ?_ rfl (by decide) ?_
  · exact BindsTo.of_eq rfl
  · intro L h₁ tk0 cells F N Y
    obtain ⟨o1, o2, o3, rfl, hc1, hc2, hc3⟩ := Y.three
    generalize hQ' : (fun fl s' => Q (match fl with | .ret v => v | _ => .none) s' : Flow → Shared → Prop) = Q' at h
    have KX := hide_in B.K
    have T := hide_top B.T
    have M := hide_mod hM hP
    have F0 := hide_fr F
    have hl0 : (s.heap.hide 45).IsList l vs.toArray := hide_list hl hP
    have N0 : News (s.heap.hide 45) L h₁ [(45, tabO #[]), (L + 3, o1), (L + 2, o2), (L + 1, o3)] := hide_news2 F N hP
    have hL45 : @LT.lt Nat _ 45 L := Nat.lt_of_lt_of_le (Heap.lt_size hP) F.above
    clear F N hl Y
    replace h := fun h' tk Tl R c t z os oR ok tv rv told rs => h L h' tk Tl R c t z os oR ok tv rv told rs hL45
    (repeat' ((fail_if_success (with_reducible show wpAny _ _ (execs (Stmt.Assign [_] (Expr.ListComp _ _ _ _) _ :: _) _) _ _ _)); (fail_if_success (with_reducible show Fr _ _ _ _ ∧ _)); (fail_if_success (with_reducible show wpAny _ _ (exec (Stmt.For _ _ _ _ _) _) _ _ _)); (fail_if_success (with_reducible show wpAny _ _ (eval (Expr.ListComp _ _ _ _) _) _ _ _)); (fail_if_success (with_reducible show wpAny _ _ (exec (Stmt.Assign [_] (Expr.ListComp _ _ _ _) _) _) _ _ _)); (fail_if_success (with_reducible show wpAny _ _ (eval (Expr.GeneratorExp _ _ _ _) _) _ _ _)); (fail_if_success (with_reducible show wpAny _ _ (call (Value.builtin "any") _ _) _ _ _)); (fail_if_success (with_reducible show wpAny _ _ (call (Value.builtin "all") _ _) _ _ _)); (fail_if_success (with_reducible show wpAny _ _ (call (Value.ref _) _ _) _ _ _));  (first | (k_unfold; (try dsimp only)) | walk1 | (dsimp only; walk1) | (leave1; walk_say "STEP leave1"; try dsimp only) | fail "no step")))
    · rename_i F' N' dR
      rename _ = Data.cell (some (Value.int _ _)) => dz
      rename IntsAre _ (List.take (min 7 ns.length - 3) (List.drop 3 ns)) => iR
      rename IntsAre _ (List.take 3 (ns ++ [0, 2, 0])) => iT
      rename 0 < (List.take (min 7 ns.length - 3) (List.drop 3 ns)).length => hpos
      refine h _ _ _ _ _ _ _ _ _ _ _ _ _ _ ⟨F', ?_, ⟨_, dz⟩, dR, hc1, iT, iR, by simp, ⟨hpos, by simp; omega⟩, rfl, rfl⟩
      intro p hp
      simp only [List.mem_cons, List.not_mem_nil, or_false] at hp
      rcases hp with rfl | rfl | rfl | rfl | rfl | rfl <;> exact N' _ (by k_mem)
    · rename_i F' N' dR
      rename _ = Data.cell (some (Value.int _ _)) => dz
      rename IntsAre _ (List.take 3 (ns ++ [0, 2, 0])) => iT
      refine mid_one N' fun rv rs e1 e2 => ?_
      refine h _ _ _ _ _ _ _ _ _ _ _ rv _ rs ⟨F', ?_, ⟨_, dz⟩, dR, hc1, iT, (by rw [e1, e2]; exact .cons _ _ .nil), by simp, (by rw [e2]; exact ⟨Nat.le_refl 1, Nat.le_of_ble_eq_true rfl⟩), rfl, rfl⟩
      rw [e1]
      intro p hp
      simp only [List.mem_cons, List.not_mem_nil, or_false] at hp
      rcases hp with rfl | rfl | rfl | rfl | rfl | rfl <;> exact N' _ (by k_mem)
end Mine
end

section
open PySem PySem.W PySem.Calls PyProof.Rows
set_option Elab.async false
set_option maxRecDepth 100000
namespace Mine
section
variable {prog : Program} {w : World} {A : Around} {E : Value → Shared → Prop} {s : Shared} {h₀ : Heap} {L : Addr} {m : Str → Option Value} {news : List (Addr × Obj)} {env : Env}
theorem comp_assignF {α : Type} {Rel : Value → α → Prop} {G : α → Value → Prop} {as : List α} (hf : ∀ v a b, Rel v a → Rel v b → a = b) {elt iter : Expr} {x y : Str} {px py : Pos} {scope : Scope} {cl : List (Str × Addr)} {pos spos : Pos} {Q : Flow → Shared → Prop} (_F : Fr h₀ env.locals s.heap m) (_N : News h₀ env.locals s.heap news)
    (hsw : swapsWith (.ListComp elt [⟨.Name x px, iter, [], 0⟩] scope pos) (some (.Name y py)) spos.line env = pure true)
    (hclos : closureFor scope env = pure cl) (hcell : ∀ y ∈ scope.names, y.2 ≠ .cell) (hkind : scope.kind = .function)
    (hnames : ∀ y ∈ scope.names, y.2 = .local → scope.names.lookup y.1 = some .local) (hx : scope.names.lookup x = some .local)
    (hy : env.kindOf y = some .local) (hp : (env.scope.kind == .class || (env.scope.kind == .module && env.locals != env.globals)) = false)
    (h : wpAny (model prog w) A (eval iter env) (fun xv s₁ => Fr h₀ env.locals s₁.heap m ∧ News h₀ env.locals s₁.heap news ∧ EltOk prog w A env scope cl x elt Rel as G s₁ ∧
      (∀ Q' E', (∀ (o : Obj) fp St, Walks prog w A s₁.heap.objs.size fp [s₁.heap.objs.size] as.length (fun i v => ∃ a, as[i]? = some a ∧ Rel v a) St → (∀ b ∈ fp, b < s₁.heap.objs.size + 1) → St 0 (s₁.heap.push o) →
         Q' (.ref s₁.heap.objs.size) { s₁ with heap := s₁.heap.push o }) → wpAny (model prog w) A (pyIter xv) Q' E' s₁) ∧ as.length ≤ sizeLine ∧
      (∀ D n h' tk' (ys : Array Value), Fr h₀ env.locals h' (fun z => if z = y then some (.ref D) else m z) → News h₀ env.locals h' ((D, W.listOf ys n) :: news) → Paired G as ys.toList → s₁.heap.get? D = none → Q .next { s₁ with heap := h', toks := tk' })) E s)
    (hs : ∀ x, foldedSetIterable iter env x = pure x := by intro _; rfl) :
    wpAny (model prog w) A (exec (.Assign [.Name y py] (.ListComp elt [⟨.Name x px, iter, [], 0⟩] scope pos) spos) env) Q E s := by
  refine wpAny_Assign_ListComp_free (fun _ => true) (fun v y => ∃ a, a ∈ as ∧ Rel v a ∧ G a y) hsw hclos hcell hkind hnames hx hy hp (wpAny_mono h (fun xv s₁ h₁ => ?_) fun _ _ e => e) hs
  obtain ⟨F, N, hel, hit, hsz, hQ⟩ := h₁
  refine hit _ _ fun o fp St Wk hfp hst => ?_
  have up : ∀ b o', s₁.heap.get? b = some o' → (s₁.heap.push o).get? b = some o' := fun b o' e => Heap.get?_push_of_some _ e
  have hLI : env.locals ≠ s₁.heap.objs.size := Nat.ne_of_lt F.ns.lt
  refine ⟨s₁.heap.objs.size, fp, [s₁.heap.objs.size], as.length, _, St, m, rfl, Wk, hsz, hst, ?_, (fun hm => hLI (List.mem_singleton.mp hm)), F.ns.keeps up, ⟨?_, ?_⟩, ?_⟩
  · intro b hb
    show b < (s₁.heap.push o).objs.size
    rw [Heap.size_push]
    exact hfp b hb
  · intro C i v s₃ m₃ E' hC hP hn hm hk _
    exact wpAny_pure ⟨rfl, _, _, rfl, fun _ _ e => e⟩
  · rintro C i v s₃ m₃ E' hC ⟨a, ha, hr⟩ _ hn hm hk _
    have hC' : s₁.heap.objs.size ≤ C := by
      have : (s₁.heap.push o).objs.size ≤ C := hC
      rw [Heap.size_push] at this
      exact Nat.le_of_succ_le this
    exact wpAny_mono (hel C a v s₃ m₃ E' (List.mem_of_getElem? ha) hr ⟨hn, (fun b o' e => hk b o' (old_not_new e) (up b o' e)), hC'⟩ hm) (fun y s₄ h₄ => ⟨⟨a, List.mem_of_getElem? ha, hr, h₄.1⟩, h₄.2⟩) fun _ _ e => e
  · rintro D h' tk ys vs hnew hlD ⟨n, hD⟩ hlen hP hF hnsL hk
    have keep : ∀ b o', b ≠ env.locals → s₁.heap.get? b = some o' → h'.get? b = some o' := fun b o' hb e => hk b o' hb (old_not_new e) (up b o' e)
    have hD₁ : s₁.heap.get? D = none := by
      cases e : s₁.heap.get? D with
      | none => rfl
      | some o' =>
        have := up D o' e
        rw [show ({ s₁ with heap := s₁.heap.push o } : Shared).heap.get? D = (s₁.heap.push o).get? D from rfl, this] at hnew; cases hnew
    have hL₀ : h₀.get? env.locals = none := Heap.get?_none_of_le F.above
    refine hQ D n h' tk ys ⟨hnsL, (fun b o' e => keep b o' (fun eb => by rw [eb, hL₀] at e; cases e) (F.keep b o' e)), F.above⟩ (fun p hp => ?_) (paired_as (as := as) hf (by rw [show vs.filter (fun _ => true) = vs from List.filter_eq_self.mpr fun _ _ => rfl] at hF; exact hF) hlen hP) hD₁
    rcases List.mem_cons.mp hp with rfl | hp
    · refine ⟨hD, ?_, ?_⟩
      · intro e
        obtain ⟨oL, _, _, hL, _⟩ := F.ns
        rw [← e, hD₁] at hL; cases hL
      · cases e : h₀.get? D with
        | none => rfl
        | some o' => rw [F.keep _ _ e] at hD₁; cases hD₁
    · exact ⟨keep _ _ (N p hp).2.1 (N p hp).1, (N p hp).2⟩
end

local macro_rules | `(tactic| walk_at "eval Name") => `(tactic| ((with_reducible show wpAny _ _ (eval (Expr.Name _ _) (genEnv _ _ _ _ _ _)) _ _ _); k_dflt (first
  | (refine' gm_ld ?F ?x ?_ ?k ?l; (case k => exact rfl); (case l => exact rfl); (case F => k_asm); (case x => first | assumption | exact rfl); k_whole)
  | (refine' gm_K ?F ?X ?T ?e ?_ ?g ?k ?l; (case g => exact rfl); (case k => exact rfl); (case l => exact rfl); (case F => k_asm); (case X => k_asm); (case T => k_asm); (case e => k_is); k_whole)
  | (refine' gm_B ?F ?X ?T ?e ?v ?n ?_ ?g ?k ?l; (case g => exact rfl); (case k => exact rfl); (case l => exact rfl); (case F => k_asm); (case X => k_asm); (case T => k_asm); (case e => k_is); (case v => boot_fast); (case n => decide); k_whole))))
local macro_rules | `(tactic| walk_at "eval Name") => `(tactic| ((with_reducible show wpAny _ _ (eval (Expr.Name _ _) (compEnvC _ _ _ _)) _ _ _); k_dflt (first
  | (refine' cm_ld ?F ?x ?_ ?k ?l; (case F => k_asm); (case x => first | assumption | exact rfl); (case k => exact rfl); (case l => exact rfl); k_whole)
  | (refine' cm_cell ?F ?c ?v ?_ ?k ?l; (case k => exact rfl); (case l => exact rfl); (case F => k_asm); (case c => exact rfl); (case v => assumption); k_whole)
  | (refine' cm_K ?F ?X ?T ?e ?_ ?g ?k ?l; (case F => k_asm); (case X => k_asm); (case T => k_asm); (case g => exact rfl); (case k => exact rfl); (case l => exact rfl); (case e => k_is); k_whole)
  | (refine' cm_B ?F ?X ?T ?e ?v ?n ?_ ?g ?b ?k ?l; (case F => k_asm); (case X => k_asm); (case T => k_asm); (case g => exact rfl); (case b => exact rfl); (case k => exact rfl); (case l => exact rfl); (case e => k_is); (case v => boot_fast); (case n => decide); k_whole))))
local macro_rules | `(tactic| walk_at "binaryOp BitAnd int int") => `(tactic| (k_dflt (refine' and_nat ?h1 ?h2 ?_; (case h1 => exact rfl); (case h2 => exact rfl))))
local macro_rules | `(tactic| walk_at "binaryOp BitXor int int") => `(tactic| (k_dflt (refine' xor_nat ?h1 ?h2 ?_; (case h1 => exact rfl); (case h2 => exact rfl))))
local macro_rules | `(tactic| walk_at "inplaceOp BitXor int int") => `(tactic| (k_dflt (refine' ixor_nat ?h1 ?h2 ?_; (case h1 => exact rfl); (case h2 => exact rfl))))
local macro_rules | `(tactic| walk_at "binaryOp RShift int int") => `(tactic| (k_dflt (refine' shr_nat ?h1 ?h2 ?_; (case h1 => exact rfl); (case h2 => exact rfl))))
local macro_rules | `(tactic| walk_at "binaryOp LShift int int") => `(tactic| (k_dflt (refine' shl_nat ?h1 ?h2 ?h3 ?h4 ?_; (case h1 => exact rfl); (case h2 => exact rfl); (case h3 => decide); (case h4 => exact and25_lt _))))

def m7 (l Tl : Addr) (c : Nat) (t : Tok) (D X : Addr) (p : Nat) (pt : Tok) (nv : Option Value) : Str → Option Value := fun y => if y = PySem.Str.ofString "number" then nv else if y = PySem.Str.ofString "texts" then some (.ref X) else if y = PySem.Str.ofString "place" then some (.int (Int.ofNat p) pt) else if y = PySem.Str.ofString "row" then some (.ref D) else m4 l Tl c t y
theorem m7_none (l Tl : Addr) (c : Nat) (t : Tok) (D X : Addr) (p : Nat) (pt : Tok) : m7 l Tl c t D X p pt none = fun y => if y = PySem.Str.ofString "texts" then some (.ref X) else if y = PySem.Str.ofString "place" then some (.int (Int.ofNat p) pt) else if y = PySem.Str.ofString "row" then some (.ref D) else m4 l Tl c t y := by
  funext y
  unfold m7
  by_cases h : y = PySem.Str.ofString "number"
  · subst h; rfl
  · rw [if_neg h]
/-- the state ahead of the thirty-two turns -/
structure Mid7 (h₀ h : Heap) (L l Tl D X : Addr) (c : Nat) (t : Tok) (zn p : Nat) (pt : Tok) (os ok : Obj) (tv dv : List Value) (nd : Nat) (a0 a1 a2 : Int) (rw0 : List Nat) : Prop where
  F : Fr h₀ L h (m7 l Tl c t D X p pt none)
  N : News h₀ L h [(X, W.listOf #[] 0), (D, W.listOf dv.toArray nd), (Tl, W.listOf tv.toArray 0), (45, tabO #[]), (L + 3, ok), (L + 1, os)]
  size : ∃ u, os.data = .cell (some (.int (zn : Int) u))
  kc : ok.data = .cell none
  ti : IntsAre tv [a0, a1, a2]
  di : IntsAre dv (nInts rw0)
  d32 : ∀ n ∈ rw0, n < 32
  dlen : rw0.length = zn
  z4 : zn ≤ 4
  pz : p < zn
  cb : c = (97 + a0.fmod 26).toNat
  apart : (@Ne Nat D Tl ∧ @Ne Nat D 45 ∧ @Ne Nat D (L + 3) ∧ @Ne Nat D (L + 1)) ∧ @Ne Nat X D ∧ @Ne Nat X Tl ∧ @Ne Nat X 45 ∧ @Ne Nat X (L + 3) ∧ @Ne Nat X (L + 1) ∧ @Ne Nat Tl 45 ∧ @Ne Nat Tl (L + 3) ∧ @Ne Nat Tl (L + 1)
theorem news_ne {h₀ h : Heap} {L D : Addr} {news : List (Addr × Obj)} (N : News h₀ L h news) (hD : h.get? D = none) {q : Addr × Obj} (hq : q ∈ news) : @Ne Nat D q.1 := fun e => by
  rw [e, (N q hq).1] at hD; cases hD
theorem obj_ne {h₀ h : Heap} {L a b : Addr} {o o' : Obj} {news : List (Addr × Obj)} (N : News h₀ L h news) (ha : (a, o) ∈ news) (hb : (b, o') ∈ news) (hne : o.data ≠ o'.data) : @Ne Nat a b := fun e => by
  have h1 := N.get ha
  rw [show a = b from e, N.get hb] at h1
  exact hne (by rw [Option.some.inj h1])
/-- a number below 32 -/
abbrev Small (y : Value) : Prop := ∃ (n : Nat) (u : Tok), n < 32 ∧ y = .int (Int.ofNat n) u
theorem small_ints {α : Type} : ∀ {as : List α} {ys : List Value}, Paired (fun _ y => Small y) as ys → ∃ ns : List Nat, IntsAre ys (nInts ns) ∧ (∀ n ∈ ns, n < 32) ∧ ns.length = as.length := by
  intro as ys h
  induction h with
  | nil => exact ⟨[], .nil, nofun, rfl⟩
  | cons h1 _ ih =>
    obtain ⟨n, u, hn, rfl⟩ := h1
    obtain ⟨ns, h2, h3, h4⟩ := ih
    exact ⟨n :: ns, .cons _ _ h2, fun x hx => (List.mem_cons.mp hx).elim (fun e => e ▸ hn) (h3 x), by simp [h4]⟩
theorem small_fmod (x : Int) (u : Tok) : Small (.int (x.fmod 32) u) := by
  have h1 := Int.fmod_nonneg_of_pos x (show (0:Int) < 32 by decide)
  have h2 := Int.fmod_lt_of_pos x (show (0:Int) < 32 by decide)
  exact ⟨(x.fmod 32).toNat, u, by omega, by rw [show Int.ofNat (x.fmod 32).toNat = x.fmod 32 from Int.toNat_of_nonneg h1]⟩
theorem small_log {y : Int} (h : y.natAbs < 1000000) : y.natAbs.log2 < 9000 := by
  by_cases h0 : y.natAbs = 0
  · rw [h0]; decide
  · exact (Nat.log2_lt h0).mpr (Nat.lt_of_lt_of_le h (Nat.le_trans (by decide : 1000000 ≤ 2 ^ 20) (Nat.pow_le_pow_right (by decide) (by decide))))
theorem pow32 (n : Nat) (h : n < 4) : (1 : Int) ≤ 32 ^ n ∧ (32 : Int) ^ n ≤ 32768 := by
  have : n = 0 ∨ n = 1 ∨ n = 2 ∨ n = 3 := by omega
  rcases this with rfl | rfl | rfl | rfl <;> decide
set_option maxHeartbeats 8000000 in
theorem law_B {prog : Program} {w : World} {dp un : Nat} {fr : Option (List Env)} {gd : Option (List Code)} {s : Shared} {mg mb : Str → Option Value} {bm : Addr} {ob : Obj} {h₀ : Heap} {L l Tl R : Addr} {c : Nat} {t : Tok} {z : Int} {os oR ok : Obj} {tv rv : List Value} {told rs : List Int} {Q' : Flow → Shared → Prop}
   (KX : (hd1.heap_39 w.params).In h₀) (T : TopRead hd1.view_39 (looseW hd1.view_39 []) mg mb h₀) (hd : dp + 40 < recursionLimit) (hu : un + 200 < cLine) (hL45 : @LT.lt Nat _ 45 L)
   (Mi : Mid4 h₀ s.heap L l Tl R c t z os oR ok tv rv told rs)
   (h : ∀ h' tk D X zn p pt dv nd a0 a1 a2 rw0, Mid7 h₀ h' L l Tl D X c t zn p pt os ok tv dv nd a0 a1 a2 rw0 → wpAny (model prog w) ((At dp un fr gd).deeper (lawEnv L)) (execs (lawRest 7) (lawEnv L)) Q' (fun _ _ => False) { s with heap := h', toks := tk }) :
   wpAny (model prog w) ((At dp un fr gd).deeper (lawEnv L)) (execs (lawRest 4) (lawEnv L)) Q' (fun _ _ => False) s := by
  unfold lawEnv lawRest
  generalize hsc : scopeOf lawStmt = sc
  conv at hsc => lhs; whnf
  subst hsc
  generalize hbd : List.drop 4 (bodyOf lawStmt) = bd
  conv at hbd => lhs; whnf
  subst hbd
  have F0 := Mi.F
  have N0 := Mi.N
  obtain ⟨u0, dz⟩ := Mi.size
  have dR := Mi.rows
  have dk := Mi.kc
  have iT := Mi.ti
  have iR := Mi.ri
  (repeat' ((fail_if_success (with_reducible show Fr _ _ _ _ ∧ _)); (fail_if_success (with_reducible show wpAny _ _ (exec (Stmt.For _ _ _ _ _) _) _ _ _)); (fail_if_success (with_reducible show wpAny _ _ (eval (Expr.ListComp _ _ _ _) _) _ _ _)); (fail_if_success (with_reducible show wpAny _ _ (exec (Stmt.Assign [_] (Expr.ListComp _ _ _ _) _) _) _ _ _)); (fail_if_success (with_reducible show wpAny _ _ (eval (Expr.GeneratorExp _ _ _ _) _) _ _ _)); (fail_if_success (with_reducible show wpAny _ _ (call (Value.builtin "any") _ _) _ _ _)); (fail_if_success (with_reducible show wpAny _ _ (call (Value.builtin "all") _ _) _ _ _)); (fail_if_success (with_reducible show wpAny _ _ (call (Value.ref _) _ _) _ _ _));  (first | (k_unfold; (try dsimp only)) | walk1 | (dsimp only; walk1) | (leave1; walk_say "STEP leave1"; try dsimp only) | fail "no step")))
  obtain ⟨a0, a1, a2, rfl⟩ : ∃ a0 a1 a2, told = [a0, a1, a2] := by
    have := Mi.tlen
    match told, this with
    | [x, y, z], _ => exact ⟨x, y, z, rfl⟩
  have hz : 1 ≤ z ∧ z ≤ 4 := by
    rw [Mi.zb]
    have h1 := Int.fmod_nonneg_of_pos ([a0, a1, a2].getD 1 0) (show (0:Int) < 4 by decide)
    have h2 := Int.fmod_lt_of_pos ([a0, a1, a2].getD 1 0) (show (0:Int) < 4 by decide)
    omega
  obtain ⟨zn, rfl⟩ : ∃ zn : Nat, z = (zn : Int) := ⟨z.toNat, by omega⟩
  refine comp_assignF (as := rangeKs 0 zn) (Rel := IntRel) (G := fun _ y => Small y) intRel_inj F0 N0 rfl rfl (by decide) rfl (by decide) rfl rfl rfl ?_
  (repeat' ((fail_if_success (with_reducible show Fr _ _ _ _ ∧ _)); (fail_if_success (with_reducible show wpAny _ _ (exec (Stmt.For _ _ _ _ _) _) _ _ _)); (fail_if_success (with_reducible show wpAny _ _ (eval (Expr.ListComp _ _ _ _) _) _ _ _)); (fail_if_success (with_reducible show wpAny _ _ (exec (Stmt.Assign [_] (Expr.ListComp _ _ _ _) _) _) _ _ _)); (fail_if_success (with_reducible show wpAny _ _ (eval (Expr.GeneratorExp _ _ _ _) _) _ _ _)); (fail_if_success (with_reducible show wpAny _ _ (call (Value.builtin "any") _ _) _ _ _)); (fail_if_success (with_reducible show wpAny _ _ (call (Value.builtin "all") _ _) _ _ _)); (fail_if_success (with_reducible show wpAny _ _ (call (Value.ref _) _ _) _ _ _));  (first | (k_unfold; (try dsimp only)) | walk1 | (dsimp only; walk1) | (leave1; walk_say "STEP leave1"; try dsimp only) | fail "no step")))
  rename Fr _ _ _ _ => F6
  rename News _ _ _ _ => N6
  rename IsRange _ _ _ _ _ _ _ _ => R6
  refine ⟨F6, N6, ?_, comp_range rfl R6 ?_ ?_, ?_, ?_⟩
  · rintro C a v s₃ m₃ E' ha ⟨u, rfl⟩ F7 hx
    have KX := KX.keeps F6.keep
    have T := T.keeps F6.keep
    have hcell := isCell_of N6 (c := L + 2) (by k_mem) dR
    have hrv := N6.isList (a := R) (.head _)
    obtain ⟨rl1, rl4⟩ := Mi.rlen
    have ha0 := (mem_rangeKs ha).1
    have ha4 : a < 4 := by have := (mem_rangeKs ha).2; omega
    have hrl : rv.length = rs.length := IntsAre.length iR
    have hlen : (rs.length : Int) ≠ 0 := by omega
    have hlen1 : (0 : Int) < (rs.length : Int) := by omega
    have hi0 := Int.fmod_nonneg_of_pos a hlen1
    have hi1 := Int.fmod_lt_of_pos a hlen1
    (repeat' ((fail_if_success (with_reducible show wpAny _ _ (binaryOp _ _ _) _ _ _)); (fail_if_success (with_reducible show wpAny _ _ (subscriptTail _ _ _ _) _ _ _)); (fail_if_success (with_reducible show Fr _ _ _ _ ∧ _)); (fail_if_success (with_reducible show wpAny _ _ (exec (Stmt.For _ _ _ _ _) _) _ _ _)); (fail_if_success (with_reducible show wpAny _ _ (eval (Expr.ListComp _ _ _ _) _) _ _ _)); (fail_if_success (with_reducible show wpAny _ _ (exec (Stmt.Assign [_] (Expr.ListComp _ _ _ _) _) _) _ _ _)); (fail_if_success (with_reducible show wpAny _ _ (eval (Expr.GeneratorExp _ _ _ _) _) _ _ _)); (fail_if_success (with_reducible show wpAny _ _ (call (Value.builtin "any") _ _) _ _ _)); (fail_if_success (with_reducible show wpAny _ _ (call (Value.builtin "all") _ _) _ _ _)); (fail_if_success (with_reducible show wpAny _ _ (call (Value.ref _) _ _) _ _ _));  (first | (k_unfold; (try dsimp only)) | walk1 | (dsimp only; walk1) | (leave1; walk_say "STEP leave1"; try dsimp only) | fail "no step")))
    refine mod_int' (by first | exact hlen | (simp; omega)) ?_
    (repeat' ((fail_if_success (with_reducible show wpAny _ _ (binaryOp _ _ _) _ _ _)); (fail_if_success (with_reducible show wpAny _ _ (subscriptTail _ _ _ _) _ _ _)); (fail_if_success (with_reducible show Fr _ _ _ _ ∧ _)); (fail_if_success (with_reducible show wpAny _ _ (exec (Stmt.For _ _ _ _ _) _) _ _ _)); (fail_if_success (with_reducible show wpAny _ _ (eval (Expr.ListComp _ _ _ _) _) _ _ _)); (fail_if_success (with_reducible show wpAny _ _ (exec (Stmt.Assign [_] (Expr.ListComp _ _ _ _) _) _) _ _ _)); (fail_if_success (with_reducible show wpAny _ _ (eval (Expr.GeneratorExp _ _ _ _) _) _ _ _)); (fail_if_success (with_reducible show wpAny _ _ (call (Value.builtin "any") _ _) _ _ _)); (fail_if_success (with_reducible show wpAny _ _ (call (Value.builtin "all") _ _) _ _ _)); (fail_if_success (with_reducible show wpAny _ _ (call (Value.ref _) _ _) _ _ _));  (first | (k_unfold; (try dsimp only)) | walk1 | (dsimp only; walk1) | (leave1; walk_say "STEP leave1"; try dsimp only) | fail "no step")))
    obtain ⟨r, ur, hr⟩ : ∃ r ur, rv.toArray[(a.fmod (rs.length : Int)).toNat]? = some (.int r ur) := by
      have hlt : (a.fmod (rs.length : Int)).toNat < rv.length := by omega
      obtain ⟨tt, e⟩ := IntsAre.int_at iR _ _ (List.getElem?_eq_getElem hlt)
      exact ⟨_, tt, by simpa [hlt] using e⟩
    have hrv3 := hrv.at fun o e => F7.keep _ o e
    refine item_list hrv3 (by assumption) (by omega) hr ?_
    (repeat' ((fail_if_success (with_reducible show wpAny _ _ (binaryOp _ _ _) _ _ _)); (fail_if_success (with_reducible show wpAny _ _ (subscriptTail _ _ _ _) _ _ _)); (fail_if_success (with_reducible show Fr _ _ _ _ ∧ _)); (fail_if_success (with_reducible show wpAny _ _ (exec (Stmt.For _ _ _ _ _) _) _ _ _)); (fail_if_success (with_reducible show wpAny _ _ (eval (Expr.ListComp _ _ _ _) _) _ _ _)); (fail_if_success (with_reducible show wpAny _ _ (exec (Stmt.Assign [_] (Expr.ListComp _ _ _ _) _) _) _ _ _)); (fail_if_success (with_reducible show wpAny _ _ (eval (Expr.GeneratorExp _ _ _ _) _) _ _ _)); (fail_if_success (with_reducible show wpAny _ _ (call (Value.builtin "any") _ _) _ _ _)); (fail_if_success (with_reducible show wpAny _ _ (call (Value.builtin "all") _ _) _ _ _)); (fail_if_success (with_reducible show wpAny _ _ (call (Value.ref _) _ _) _ _ _));  (first | (k_unfold; (try dsimp only)) | walk1 | (dsimp only; walk1) | (leave1; walk_say "STEP leave1"; try dsimp only) | fail "no step")))
    refine floordiv_int hlen ?_ (Or.inl (PyProof.noPylong_of_log2 (small_log (by omega))))
    have hq0 : 0 ≤ a.fdiv (rs.length : Int) := by rw [fdiv_eq a hlen1]; exact Int.ediv_nonneg ha0 (by omega)
    have hq4 : a.fdiv (rs.length : Int) < 4 := by
      rw [fdiv_eq a hlen1]
      exact Int.lt_of_le_of_lt (Int.ediv_le_self _ ha0) ha4
    refine pow_int_small hq0 (by omega) (by decide) ?_
    have hp32 := pow32 (a.fdiv (rs.length : Int)).toNat (by omega)
    refine floordiv_int (by omega) ?_ (Or.inl (PyProof.noPylong_of_log2 (small_log (by omega))))
    (repeat' ((fail_if_success (with_reducible show wpAny _ _ (binaryOp _ _ _) _ _ _)); (fail_if_success (with_reducible show wpAny _ _ (subscriptTail _ _ _ _) _ _ _)); (fail_if_success (with_reducible show Fr _ _ _ _ ∧ _)); (fail_if_success (with_reducible show wpAny _ _ (exec (Stmt.For _ _ _ _ _) _) _ _ _)); (fail_if_success (with_reducible show wpAny _ _ (eval (Expr.ListComp _ _ _ _) _) _ _ _)); (fail_if_success (with_reducible show wpAny _ _ (exec (Stmt.Assign [_] (Expr.ListComp _ _ _ _) _) _) _ _ _)); (fail_if_success (with_reducible show wpAny _ _ (eval (Expr.GeneratorExp _ _ _ _) _) _ _ _)); (fail_if_success (with_reducible show wpAny _ _ (call (Value.builtin "any") _ _) _ _ _)); (fail_if_success (with_reducible show wpAny _ _ (call (Value.builtin "all") _ _) _ _ _)); (fail_if_success (with_reducible show wpAny _ _ (call (Value.ref _) _ _) _ _ _));  (first | (k_unfold; (try dsimp only)) | walk1 | (dsimp only; walk1) | (leave1; walk_say "STEP leave1"; try dsimp only) | fail "no step")))
    refine mod_int' (by decide) ?_
    exact ⟨small_fmod _ _, _, _, rfl, fun _ _ e => e⟩
  · have : zn = 1 ∨ zn = 2 ∨ zn = 3 ∨ zn = 4 := by omega
    rcases this with rfl | rfl | rfl | rfl <;> rfl
  · have : zn = 1 ∨ zn = 2 ∨ zn = 3 ∨ zn = 4 := by omega
    rcases this with rfl | rfl | rfl | rfl <;> rfl
  · rw [rangeKs_length]; exact Nat.le_trans (by omega : _ ≤ 100) (Nat.le_of_ble_eq_true rfl)
  · intro D n h' tk' ys F7 N7 hys hDn
    obtain ⟨rw0, iD, hD32, hDl⟩ := small_ints hys
    rw [rangeKs_length] at hDl
    obtain ⟨dv, rfl⟩ : ∃ dv : List Value, ys = dv.toArray := ⟨ys.toList, by simp⟩
    rw [show dv.toArray.toList = dv from by simp] at iD
    dsimp only at F7 N7 hDn ⊢
    have dTl := news_ne N6 hDn (q := (Tl, W.listOf tv.toArray 0)) (by k_mem)
    have d45 := news_ne N6 hDn (q := (45, tabO #[])) (by k_mem)
    have dL3 := news_ne N6 hDn (q := (L + 3, ok)) (by k_mem)
    have dL1 := news_ne N6 hDn (q := (L + 1, os)) (by k_mem)
    clear F6 N6 R6 hDn
    (repeat' ((fail_if_success (with_reducible show wpAny _ _ (execs (Stmt.For _ _ _ _ _ :: _) _) _ _ _)); (fail_if_success (with_reducible show Fr _ _ _ _ ∧ _)); (fail_if_success (with_reducible show wpAny _ _ (exec (Stmt.For _ _ _ _ _) _) _ _ _)); (fail_if_success (with_reducible show wpAny _ _ (eval (Expr.ListComp _ _ _ _) _) _ _ _)); (fail_if_success (with_reducible show wpAny _ _ (exec (Stmt.Assign [_] (Expr.ListComp _ _ _ _) _) _) _ _ _)); (fail_if_success (with_reducible show wpAny _ _ (eval (Expr.GeneratorExp _ _ _ _) _) _ _ _)); (fail_if_success (with_reducible show wpAny _ _ (call (Value.builtin "any") _ _) _ _ _)); (fail_if_success (with_reducible show wpAny _ _ (call (Value.builtin "all") _ _) _ _ _)); (fail_if_success (with_reducible show wpAny _ _ (call (Value.ref _) _ _) _ _ _));  (first | (k_unfold; (try dsimp only)) | walk1 | (dsimp only; walk1) | (leave1; walk_say "STEP leave1"; try dsimp only) | fail "no step")))
    rename_i F' N'
    have hzp : (0 : Int) < (zn : Int) := by omega
    have hp0 := Int.fmod_nonneg_of_pos a2 hzp
    have hp1 := Int.fmod_lt_of_pos a2 hzp
    have e2 : (([a0, a1, a2] : List Int).getD (Int.toNat 2) 0).fmod (zn : Int) = Int.ofNat (a2.fmod (zn : Int)).toNat := (Int.toNat_of_nonneg hp0).symm
    rw [e2] at F'
    refine h _ _ D _ zn (a2.fmod (zn : Int)).toNat _ dv n a0 a1 a2 rw0 ⟨by rw [m7_none]; exact F', ?_, ⟨_, dz⟩, dk, iT, iD, hD32, hDl, by omega, by omega, Mi.cb, ⟨dTl, d45, dL3, dL1⟩, ?_⟩
    rotate_left
    · have hdv : dv.length = zn := by rw [IntsAre.length iD, List.length_map, hDl]
      have htv : tv.length = 3 := IntsAre.length iT
      have hos : ∀ b : Array Value, Data.seq b 0 ≠ os.data := fun b e => by rw [dz] at e; cases e
      have hok : ∀ b : Array Value, Data.seq b 0 ≠ ok.data := fun b e => by rw [dk] at e; cases e
      refine ⟨obj_ne N' (.head _) (by k_mem : (D, W.listOf dv.toArray n) ∈ _) ?_, obj_ne N' (.head _) (by k_mem : (Tl, W.listOf tv.toArray 0) ∈ _) ?_, obj_ne N' (.head _) (by k_mem : (45, tabO #[]) ∈ _) nofun, obj_ne N' (.head _) (by k_mem : (L + 3, ok) ∈ _) (hok _), obj_ne N' (.head _) (by k_mem : (L + 1, os) ∈ _) (hos _),
        obj_ne N' (by k_mem : (Tl, W.listOf tv.toArray 0) ∈ _) (by k_mem : (45, tabO #[]) ∈ _) nofun, obj_ne N' (by k_mem : (Tl, W.listOf tv.toArray 0) ∈ _) (by k_mem : (L + 3, ok) ∈ _) (hok _), obj_ne N' (by k_mem : (Tl, W.listOf tv.toArray 0) ∈ _) (by k_mem : (L + 1, os) ∈ _) (hos _)⟩
      · intro e
        have e2 : #[] = dv.toArray := by injection e
        have := congrArg Array.size e2
        simp at this
        omega
      · intro e
        have e2 : #[] = tv.toArray := by injection e
        have := congrArg Array.size e2
        simp at this
        omega
    intro p hp
    simp only [List.mem_cons, List.not_mem_nil, or_false] at hp
    rcases hp with rfl | rfl | rfl | rfl | rfl | rfl <;> exact N' _ (by k_mem)
end Mine
end

section
open PySem PySem.W PySem.Calls PyProof.Rows
set_option Elab.async false
set_option maxRecDepth 100000
namespace Mine

local macro_rules | `(tactic| walk_at "eval Name") => `(tactic| ((with_reducible show wpAny _ _ (eval (Expr.Name _ _) (genEnv _ _ _ _ _ _)) _ _ _); k_dflt (first
  | (refine' gm_ld ?F ?x ?_ ?k ?l; (case k => exact rfl); (case l => exact rfl); (case F => k_asm); (case x => first | assumption | exact rfl); k_whole)
  | (refine' gm_K ?F ?X ?T ?e ?_ ?g ?k ?l; (case g => exact rfl); (case k => exact rfl); (case l => exact rfl); (case F => k_asm); (case X => k_asm); (case T => k_asm); (case e => k_is); k_whole)
  | (refine' gm_B ?F ?X ?T ?e ?v ?n ?_ ?g ?k ?l; (case g => exact rfl); (case k => exact rfl); (case l => exact rfl); (case F => k_asm); (case X => k_asm); (case T => k_asm); (case e => k_is); (case v => boot_fast); (case n => decide); k_whole))))
local macro_rules | `(tactic| walk_at "eval Name") => `(tactic| ((with_reducible show wpAny _ _ (eval (Expr.Name _ _) (compEnvC _ _ _ _)) _ _ _); k_dflt (first
  | (refine' cm_ld ?F ?x ?_ ?k ?l; (case F => k_asm); (case x => first | assumption | exact rfl); (case k => exact rfl); (case l => exact rfl); k_whole)
  | (refine' cm_cell ?F ?c ?v ?_ ?k ?l; (case k => exact rfl); (case l => exact rfl); (case F => k_asm); (case c => exact rfl); (case v => assumption); k_whole)
  | (refine' cm_K ?F ?X ?T ?e ?_ ?g ?k ?l; (case F => k_asm); (case X => k_asm); (case T => k_asm); (case g => exact rfl); (case k => exact rfl); (case l => exact rfl); (case e => k_is); k_whole)
  | (refine' cm_B ?F ?X ?T ?e ?v ?n ?_ ?g ?b ?k ?l; (case F => k_asm); (case X => k_asm); (case T => k_asm); (case g => exact rfl); (case b => exact rfl); (case k => exact rfl); (case l => exact rfl); (case e => k_is); (case v => boot_fast); (case n => decide); k_whole))))
local macro_rules | `(tactic| walk_at "binaryOp BitAnd int int") => `(tactic| (k_dflt (refine' and_nat ?h1 ?h2 ?_; (case h1 => exact rfl); (case h2 => exact rfl))))
local macro_rules | `(tactic| walk_at "binaryOp BitXor int int") => `(tactic| (k_dflt (refine' xor_nat ?h1 ?h2 ?_; (case h1 => exact rfl); (case h2 => exact rfl))))
local macro_rules | `(tactic| walk_at "inplaceOp BitXor int int") => `(tactic| (k_dflt (refine' ixor_nat ?h1 ?h2 ?_; (case h1 => exact rfl); (case h2 => exact rfl))))
local macro_rules | `(tactic| walk_at "binaryOp RShift int int") => `(tactic| (k_dflt (refine' shr_nat ?h1 ?h2 ?_; (case h1 => exact rfl); (case h2 => exact rfl))))
local macro_rules | `(tactic| walk_at "binaryOp LShift int int") => `(tactic| (k_dflt (refine' shl_nat ?h1 ?h2 ?h3 ?h4 ?_; (case h1 => exact rfl); (case h2 => exact rfl); (case h3 => decide); (case h4 => exact and25_lt _))))

/-- the iterator of a range of n, after i -/
def riO (i n : Nat) : Obj := { cls := .type "range_iterator", dict := none, data := .fields #[rawInt (i : Int), rawInt ((n : Int) - (i : Int)), rawInt 1], slots := #[] }
theorem setL_eq {v : Value} : ∀ {l : List Value} {k : Nat}, k < l.length → ki_setL l k v = some (l.set k v)
  | _ :: _, 0, _ => rfl
  | x :: r, k + 1, h => by
    have := setL_eq (v := v) (l := r) (k := k) (by simpa using h)
    simp [ki_setL, this]
section
variable {prog : Program} {w : World} {A : Around} {s : Shared} {env : Env}
theorem for_range {target iter : Expr} {body : List Stmt} {pos : Pos} {Q : Flow → Shared → Prop} {h₀ : Heap} {m : Str → Option Value} (_F : Fr h₀ env.locals s.heap m) (hh : A.handled = none) (n : Nat) (hn : n = 6 ∨ n = 32)
    (h : wpAny (model prog w) A (eval iter env) (fun xv s₁ => Fr h₀ env.locals s₁.heap m ∧ ∃ r t u v, xv = .ref r ∧ IsRange s₁.heap r 0 (n : Int) 1 t u v ∧ ∃ J : Nat → Shared → Prop,
      J 0 { s₁ with heap := s₁.heap.push (riO 0 n) } ∧ (∀ i s', J i s' → s'.heap.get? s₁.heap.objs.size = some (riO i n)) ∧
      (∀ i s' h' tk, i < n → J i s' → h'.get? s₁.heap.objs.size = some (riO (i + 1) n) → Heap.SameBut s₁.heap.objs.size s'.heap h' →
        wpAny (model prog w) A (assign target env (.int (Int.ofNat i) tk)) (fun _ s₂ => wpAny (model prog w) A (execs body env) (fun f s₃ => match f with
          | .next | .cont => J (i + 1) s₃
          | .brk => Q .next s₃
          | .ret v => Q (.ret v) s₃) (fun _ _ => False) s₂) (fun _ _ => False) { s' with heap := h', toks := s'.toks + 1 }) ∧
      (∀ s' h', J n s' → Heap.ExtBut s₁.heap.objs.size s'.heap h' → Q .next { s' with heap := h' })) (fun _ _ => False) s)
    (hs : ∀ x, foldedSetIterable iter env x = pure x := by intro _; rfl) (ht : ∀ it v, letOwnedTupleGo target it v = pure () := by intro _ _; rfl) :
    wpAny (model prog w) A (exec (.For target iter body [] pos) env) Q (fun _ _ => False) s := by
  refine wpAny_For (wpAny_mono h (fun xv s₁ h₁ => ?_) fun _ _ e => e) hs
  obtain ⟨_, r, t, u, v, rfl, hr, J, hJ0, hget, turn, done⟩ := h₁
  have hsm : Builtin.Range.small 0 (n : Int) 1 = true := by rcases hn with rfl | rfl <;> rfl
  have hsz : Builtin.Range.rangeSize 0 (n : Int) 1 = (n : Int) := by rcases hn with rfl | rfl <;> rfl
  refine wpAny_pyIter_range hr hsm ?_
  rw [hsz]
  refine codeAny_forLoop (fun k s' => ∃ i, J i s' ∧ i ≤ n ∧ k = n + 1 - i) ?_ (n + 1) ⟨0, ?_, Nat.zero_le _, rfl⟩ (fun v => ht _ v)
  · rintro k s' ⟨i, hJ, hi, rfl⟩
    have hg : IsRangeIter s'.heap s₁.heap.objs.size (i : Int) ((n : Int) - (i : Int)) 1 := hget i s' hJ
    by_cases hlt : i < n
    · refine wpAny_pyNext_range_item hg (by omega) fun h' hit' hs' => ?_
      have hit2 : h'.get? s₁.heap.objs.size = some (riO (i + 1) n) := by
        rw [show h'.get? s₁.heap.objs.size = _ from hit']
        unfold riO
        rw [show (i : Int) + 1 = ((i + 1 : Nat) : Int) by omega, show (n : Int) - (i : Int) - 1 = (n : Int) - ((i + 1 : Nat) : Int) by omega]
      refine wpAny_mono (turn i s' h' _ hlt hJ hit2 hs') (fun _ s₂ h₂ => wpAny_mono h₂ (fun f s₃ h₃ => ?_) fun _ _ e => e.elim) fun _ _ e => e.elim
      cases f with
      | next => exact ⟨n + 1 - (i + 1), by omega, i + 1, h₃, hlt, rfl⟩
      | cont => exact ⟨n + 1 - (i + 1), by omega, i + 1, h₃, hlt, rfl⟩
      | brk => exact h₃
      | ret v => exact h₃
    · have hin : i = n := by omega
      subst hin
      exact wpAny_pyNext_range_end hh hg (by omega) fun h' hx => wpAny_execs_nil (done s' h' hJ hx)
  · exact hJ0
end
def JC (h₀ : Heap) (L l Tl D X I : Addr) (c : Nat) (t : Tok) (p : Nat) (pt : Tok) (os ok : Obj) (tv : List Value) (rw0 : List Nat) (o0 : OsState) (i : Nat) (s : Shared) : Prop :=
  ∃ nv tx nX dv nd ps rw, Fr h₀ L s.heap (m7 l Tl c t D X p pt nv) ∧ News h₀ L s.heap [(I, riO i 32), (X, W.listOf tx.toArray nX), (D, W.listOf dv.toArray nd), (Tl, W.listOf tv.toArray 0), (45, tabO ps), (L + 3, ok), (L + 1, os)] ∧
    StrsAre tx ((List.range i).map fun j => encN c (rw0.set p j)) ∧ IntsAre dv (nInts rw) ∧ (rw.length = rw0.length ∧ ∀ j, rw.set p j = rw0.set p j) ∧ PySem.TriplesOk ps.toList ∧ AllBare s.gens ∧ s.os = o0
theorem m7_num (l Tl : Addr) (c : Nat) (t : Tok) (D X : Addr) (p : Nat) (pt : Tok) (nv : Option Value) (v : Value) : (fun y => if y = PySem.Str.ofString "number" then some v else m7 l Tl c t D X p pt nv y) = m7 l Tl c t D X p pt (some v) := by
  funext y
  unfold m7
  by_cases h : y = PySem.Str.ofString "number"
  · rw [if_pos h, if_pos h]
  · rw [if_neg h, if_neg h, if_neg h]
theorem fr_same {h₀ h h' : Heap} {L I : Addr} {m : Str → Option Value} (F : Fr h₀ L h m) (hI : h₀.get? I = none) (hL : I ≠ L) (hs : ∀ b o, b ≠ I → h.get? b = some o → h'.get? b = some o) : Fr h₀ L h' m :=
  ⟨F.ns.at' fun o e => hs L o hL.symm e, fun b o e => hs b o (fun eb => by rw [eb, hI] at e; cases e) (F.keep b o e), F.above⟩
theorem news_same {h₀ h h' : Heap} {L I : Addr} {o o' : Obj} {rest : List (Addr × Obj)} (N : News h₀ L h ((I, o) :: rest)) (hne : ∀ q ∈ rest, q.1 ≠ I) (hs : ∀ b o, b ≠ I → h.get? b = some o → h'.get? b = some o) (hg : h'.get? I = some o') : News h₀ L h' ((I, o') :: rest) := fun q hq => by
  rcases List.mem_cons.mp hq with rfl | hq
  · exact ⟨hg, (N _ (.head _)).2⟩
  · exact ⟨hs _ _ (hne q hq) (N q (.tail _ hq)).1, (N q (.tail _ hq)).2⟩
def bodyAt (n : Nat) : List Stmt := match (bodyOf lawStmt).drop n with
  | .For _ _ b _ _ :: _ => b
  | _ => []
end Mine
end

section
open PySem PySem.W PySem.Calls PySem.Spec PyProof.Rows
set_option Elab.async false
set_option maxRecDepth 100000
namespace Mine
theorem canLay_strs : ∀ ns : List Str, (∀ x ∈ ns, PyData.strOk x = true) → PyData.canLayAll0 (ns.map PyData.str) = true
  | [], _ => rfl
  | x :: r, h => by simp [PyData.canLayAll0, PyData.canLay0, h x (.head _), canLay_strs r fun y hy => h y (.tail _ hy)]
theorem depth_strs : ∀ ns : List Str, PyData.depthAll (ns.map PyData.str) = 0
  | [] => rfl
  | _ :: r => by simp [PyData.depthAll, PyData.depth, depth_strs r]
theorem shaped_strs (ns : List Str) (h : ∀ x ∈ ns, PyData.strOk x = true) : SeqAt.shaped (.list (ns.map PyData.str)) = true := by
  simp [SeqAt.shaped, PyData.canLay0, PyData.depth, canLay_strs ns h, depth_strs]
theorem carried_strs : ∀ {vs : List Value} {ns : List Str}, StrsAre vs ns → CarriedAll vs (ns.map PyData.str)
  | _, _, .nil => .nil
  | _, _, .cons _ t r => .cons (.str _ t) (carried_strs r)
theorem eqv_strs : ∀ ns : List Str, PyData.eqvAll (ns.map PyData.str) (ns.map PyData.str) = true
  | [] => by simp [PyData.eqvAll]
  | a :: r => by simp only [List.map_cons, PyData.eqvAll, PyData.eqv, eqv_strs r]; simp
section
variable {prog : Program} {w : World} {A : Around} {E : Value → Shared → Prop} {s : Shared} {a b l l' : Addr} {xs ys : List Value} {Q : Value → Shared → Prop}
theorem ne_texts {ss : List Str} (hok : ∀ x ∈ ss, PyData.strOk x = true) (ha : s.heap.IsList a xs.toArray) (hb : s.heap.IsList b ys.toArray) (hi : StrsAre xs ss) (hj : StrsAre ys ss) (hu : A.units + 64 < cLine) (h : Q (.bool false) s) :
    wpAny (model prog w) A (compareOp .NotEq (.ref a) (.ref b)) Q E s :=
  ne_dataH (reads_newData ha (carried_strs hi)) (reads_newData hb (carried_strs hj)) (shaped_strs _ hok) (shaped_strs _ hok) hu (by
    rw [show PyData.eqv (.list (ss.map PyData.str)) (.list (ss.map PyData.str)) = true from by simp only [PyData.eqv]; exact eqv_strs ss]; exact h)
theorem shaped_tup (x : Str) (ns : List Int) (h : PyData.strOk x = true) : SeqAt.shaped (.tuple [.str x, .list (ns.map PyData.int)]) = true := by
  simp [SeqAt.shaped, PyData.canLay0, PyData.canLayAll0, PyData.depth, PyData.depthAll, ke_canLayAll0, ke_depthAll, h]
theorem ne_tup {x : Str} {t u : Tok} {ns : List Int} (hok : PyData.strOk x = true) (ha : s.heap.get? a = some { cls := .type "tuple", data := .seq #[.str x t, .ref l] }) (hb : s.heap.get? b = some { cls := .type "tuple", data := .seq #[.str x u, .ref l'] })
    (hl : s.heap.IsList l xs.toArray) (hl' : s.heap.IsList l' ys.toArray) (hi : IntsAre xs ns) (hj : IntsAre ys ns) (hu : A.units + 64 < cLine) (h : Q (.bool false) s) :
    wpAny (model prog w) A (compareOp .NotEq (.ref a) (.ref b)) Q E s :=
  ne_dataH (reads_tuple_at ha rfl rfl (.cons (.str x t) (.cons (reads_newData hl (ke_carried hi)) .nil))) (reads_tuple_at hb rfl rfl (.cons (.str x u) (.cons (reads_newData hl' (ke_carried hj)) .nil)))
    (shaped_tup x ns hok) (shaped_tup x ns hok) hu (by
    rw [show PyData.eqv (.tuple [.str x, .list (ns.map PyData.int)]) (.tuple [.str x, .list (ns.map PyData.int)]) = true from by simp [PyData.eqv, PyData.eqvAll, ked_eqvAll]]; exact h)
theorem eq_nones (ha : s.heap.get? a = some { cls := .type "tuple", data := .seq #[.none, .none] }) (hb : s.heap.get? b = some { cls := .type "tuple", data := .seq #[.none, .none] }) (hu : A.units + 64 < cLine) (h : Q (.bool true) s) :
    wpAny (model prog w) A (compareOp .Eq (.ref a) (.ref b)) Q E s :=
  eq_dataH (reads_tuple_at ha rfl rfl (.cons .none (.cons .none .nil))) (reads_tuple_at hb rfl rfl (.cons .none (.cons .none .nil))) (by decide) (by decide) hu h
end
/-- a list with no doubles, as long as what holds it, is a turn of it -/
theorem perm_of_subset {α : Type} [DecidableEq α] : ∀ (l m : List α), l.Nodup → (∀ x ∈ l, x ∈ m) → m.length ≤ l.length → l.Perm m
  | [], m, _, _, h => by rw [List.length_eq_zero_iff.mp (Nat.le_zero.mp h)]
  | x :: r, m, hn, hs, h => by
    have hx := hs x (.head _)
    have hp := List.perm_cons_erase hx
    refine .trans (.cons x (perm_of_subset r (m.erase x) (List.nodup_cons.mp hn).2 (fun y hy => ?_) ?_)) hp.symm
    · have hne : y ≠ x := fun e => (List.nodup_cons.mp hn).1 (e ▸ hy)
      exact (List.mem_erase_of_ne hne).mpr (hs y (.tail _ hy))
    · rw [List.length_erase_of_mem hx]
      simp only [List.length_cons] at h
      omega
theorem sorted_perm {α : Type} {R : α → α → Prop} (anti : ∀ a b, R a b → R b a → a = b) : ∀ {l m : List α}, l.Pairwise R → m.Pairwise R → l.Perm m → l = m
  | [], m, _, _, h => (List.nil_perm.mp h).symm
  | x :: r, [], _, _, h => by simpa using h.length_eq
  | x :: r, y :: t, hl, hm, h => by
    have hl' := List.pairwise_cons.mp hl
    have hm' := List.pairwise_cons.mp hm
    have e : x = y := by
      rcases List.mem_cons.mp (h.mem_iff.mp (.head _) : x ∈ y :: t) with e | hx
      · exact e
      · rcases List.mem_cons.mp (h.mem_iff.mpr (.head _) : y ∈ x :: r) with e | hy
        · exact e.symm
        · exact anti _ _ (hl'.1 y hy) (hm'.1 x hx)
    subst e
    rw [sorted_perm anti hl'.2 hm'.2 (List.perm_cons x |>.mp h)]
def leS (a b : Str) : Prop := ¬ b.cps.toList < a.cps.toList
theorem rising_pair : ∀ (r : List Str) (x : Str), risingS x r = true → (x :: r).Pairwise leS
  | [], x, _ => List.pairwise_singleton _ _
  | y :: r, x, h => by
    simp only [risingS, Bool.and_eq_true, Bool.not_eq_true'] at h
    have ih := rising_pair r y h.2
    have hxy : leS x y := by
      have := h.1
      rw [ltCps_eq] at this
      exact of_decide_eq_false this
    refine List.pairwise_cons.mpr ⟨fun z hz => ?_, ih⟩
    rcases List.mem_cons.mp hz with rfl | hz
    · exact hxy
    · have hyz := (List.pairwise_cons.mp ih).1 z hz
      exact fun hlt => hxy (List.lt_of_le_of_lt (List.not_lt.mp hyz) hlt)
theorem sorted_pair : ∀ (l : List Str), sortedS l = true → l.Pairwise leS
  | [], _ => .nil
  | x :: r, h => rising_pair r x h
theorem leS_anti (a b : Str) (h1 : leS a b) (h2 : leS b a) : a = b := by
  have := List.le_antisymm (List.not_lt.mp h1) (List.not_lt.mp h2)
  obtain ⟨ca⟩ := a
  obtain ⟨cb⟩ := b
  have e : ca = cb := Array.ext' this
  rw [e]
theorem sorted_same {l m : List Str} (hl : sortedS l = true) (hm : sortedS m = true) (h : l.Perm m) : l = m := sorted_perm leS_anti (sorted_pair l hl) (sorted_pair m hm) h
end Mine
end

section
open PySem PySem.W PySem.Calls PyProof.Rows
set_option Elab.async false
set_option maxRecDepth 100000
namespace Mine
/-- the state after the text is laid by -/
structure Turn (h₀ h : Heap) (L l Tl D X I : Addr) (c : Nat) (t tk : Tok) (p i : Nat) (pt : Tok) (os ok : Obj) (tv tx dv : List Value) (nX nd : Nat) (rw0 : List Nat) (ps : Array Value) : Prop where
  F : Fr h₀ L h (m7 l Tl c t D X p pt (some (.int (Int.ofNat i) tk)))
  N : News h₀ L h [(I, riO (i + 1) 32), (X, W.listOf tx.toArray nX), (D, W.listOf dv.toArray nd), (Tl, W.listOf tv.toArray 0), (45, tabO ps), (L + 3, ok), (L + 1, os)]
  S : StrsAre tx ((List.range (i + 1)).map fun j => encN c (rw0.set p j))
  it : ∃ u, tx.toArray[(Int.ofNat i).toNat]? = some (Value.str (encN c (rw0.set p i)) u)
  D : IntsAre dv (nInts (rw0.set p i))

local macro_rules | `(tactic| walk_at "eval Name") => `(tactic| ((with_reducible show wpAny _ _ (eval (Expr.Name _ _) (genEnv _ _ _ _ _ _)) _ _ _); k_dflt (first
  | (refine' gm_ld ?F ?x ?_ ?k ?l; (case k => exact rfl); (case l => exact rfl); (case F => k_asm); (case x => first | assumption | exact rfl); k_whole)
  | (refine' gm_K ?F ?X ?T ?e ?_ ?g ?k ?l; (case g => exact rfl); (case k => exact rfl); (case l => exact rfl); (case F => k_asm); (case X => k_asm); (case T => k_asm); (case e => k_is); k_whole)
  | (refine' gm_B ?F ?X ?T ?e ?v ?n ?_ ?g ?k ?l; (case g => exact rfl); (case k => exact rfl); (case l => exact rfl); (case F => k_asm); (case X => k_asm); (case T => k_asm); (case e => k_is); (case v => boot_fast); (case n => decide); k_whole))))
local macro_rules | `(tactic| walk_at "eval Name") => `(tactic| ((with_reducible show wpAny _ _ (eval (Expr.Name _ _) (compEnvC _ _ _ _)) _ _ _); k_dflt (first
  | (refine' cm_ld ?F ?x ?_ ?k ?l; (case F => k_asm); (case x => first | assumption | exact rfl); (case k => exact rfl); (case l => exact rfl); k_whole)
  | (refine' cm_cell ?F ?c ?v ?_ ?k ?l; (case k => exact rfl); (case l => exact rfl); (case F => k_asm); (case c => exact rfl); (case v => assumption); k_whole)
  | (refine' cm_K ?F ?X ?T ?e ?_ ?g ?k ?l; (case F => k_asm); (case X => k_asm); (case T => k_asm); (case g => exact rfl); (case k => exact rfl); (case l => exact rfl); (case e => k_is); k_whole)
  | (refine' cm_B ?F ?X ?T ?e ?v ?n ?_ ?g ?b ?k ?l; (case F => k_asm); (case X => k_asm); (case T => k_asm); (case g => exact rfl); (case b => exact rfl); (case k => exact rfl); (case l => exact rfl); (case e => k_is); (case v => boot_fast); (case n => decide); k_whole))))
local macro_rules | `(tactic| walk_at "binaryOp BitAnd int int") => `(tactic| (k_dflt (refine' and_nat ?h1 ?h2 ?_; (case h1 => exact rfl); (case h2 => exact rfl))))
local macro_rules | `(tactic| walk_at "binaryOp BitXor int int") => `(tactic| (k_dflt (refine' xor_nat ?h1 ?h2 ?_; (case h1 => exact rfl); (case h2 => exact rfl))))
local macro_rules | `(tactic| walk_at "inplaceOp BitXor int int") => `(tactic| (k_dflt (refine' ixor_nat ?h1 ?h2 ?_; (case h1 => exact rfl); (case h2 => exact rfl))))
local macro_rules | `(tactic| walk_at "binaryOp RShift int int") => `(tactic| (k_dflt (refine' shr_nat ?h1 ?h2 ?_; (case h1 => exact rfl); (case h2 => exact rfl))))
local macro_rules | `(tactic| walk_at "binaryOp LShift int int") => `(tactic| (k_dflt (refine' shl_nat ?h1 ?h2 ?h3 ?h4 ?_; (case h1 => exact rfl); (case h2 => exact rfl); (case h3 => decide); (case h4 => exact and25_lt _))))

theorem ints_set {dv : List Value} {rw : List Nat} (h : IntsAre dv (nInts rw)) (p i : Nat) (tk : Tok) : IntsAre (dv.set p (.int (Int.ofNat i) tk)) (nInts (rw.set p i)) := by
  have key : ∀ {dv : List Value} {zs : List Int}, IntsAre dv zs → ∀ p, IntsAre (dv.set p (.int (Int.ofNat i) tk)) (zs.set p (Int.ofNat i)) := by
    intro dv zs h
    induction h with
    | nil => intro p; exact .nil
    | cons n t _ ih =>
      intro p
      cases p with
      | zero => exact .cons _ _ (by assumption)
      | succ p => exact .cons _ _ (ih p)
  have := key h p
  rwa [show nInts (rw.set p i) = (nInts rw).set p (Int.ofNat i) from List.map_set]
theorem strs_app : ∀ {a b : List Value} {x y : List Str}, StrsAre a x → StrsAre b y → StrsAre (a ++ b) (x ++ y)
  | _, _, _, _, .nil, h => h
  | _, _, _, _, .cons s t r, h => .cons s t (strs_app r h)
set_option maxHeartbeats 8000000 in
theorem law_turn1 {prog : Program} {w : World} {dp un : Nat} {fr : Option (List Env)} {gd : Option (List Code)} {s : Shared} {mg mb : Str → Option Value} {bm : Addr} {ob : Obj} {h₀ : Heap} {L l Tl D X I : Addr} {c : Nat} {t tk : Tok} {zn p i : Nat} {pt u0 : Tok} {os ok : Obj} {tv dv tx : List Value} {nd nX : Nat} {a0 a1 a2 : Int} {rw0 rw : List Nat} {ps : Array Value} {o0 : OsState} {Q' : Flow → Shared → Prop}
   (KX : (hd1.heap_39 w.params).In h₀) (T : TopRead hd1.view_39 (looseW hd1.view_39 []) mg mb h₀) (M : BMod h₀ mainGlobals mg bm ob) (hd : dp + 40 < recursionLimit) (hu : un + 200 < cLine) (hL45 : @LT.lt Nat _ 45 L) (hi : i < 32)
   (dz : os.data = .cell (some (.int (zn : Int) u0))) (iT : IntsAre tv [a0, a1, a2]) (d32 : ∀ n ∈ rw0, n < 32) (dlen : rw0.length = zn) (z4 : zn ≤ 4) (pz : p < zn)
   (ap : (@Ne Nat D Tl ∧ @Ne Nat D 45 ∧ @Ne Nat D (L + 3) ∧ @Ne Nat D (L + 1)) ∧ @Ne Nat X D ∧ @Ne Nat X Tl ∧ @Ne Nat X 45 ∧ @Ne Nat X (L + 3) ∧ @Ne Nat X (L + 1) ∧ @Ne Nat Tl 45 ∧ @Ne Nat Tl (L + 3) ∧ @Ne Nat Tl (L + 1))
   (aI : @Ne Nat I X ∧ @Ne Nat I D ∧ @Ne Nat I Tl ∧ @Ne Nat I 45 ∧ @Ne Nat I (L + 3) ∧ @Ne Nat I (L + 1))
   (F0 : Fr h₀ L s.heap (m7 l Tl c t D X p pt (some (.int (Int.ofNat i) tk)))) (N0 : News h₀ L s.heap [(I, riO (i + 1) 32), (X, W.listOf tx.toArray nX), (D, W.listOf dv.toArray nd), (Tl, W.listOf tv.toArray 0), (45, tabO ps), (L + 3, ok), (L + 1, os)])
   (hS : StrsAre tx ((List.range i).map fun j => encN c (rw0.set p j))) (iD : IntsAre dv (nInts rw)) (hrw : rw.length = rw0.length ∧ ∀ j, rw.set p j = rw0.set p j) (htr : PySem.TriplesOk ps.toList) (hg : AllBare s.gens) (hos : s.os = o0)
   (hcont : ∀ h' tk' tx nX dv, Turn h₀ h' L l Tl D X I c t tk p i pt os ok tv tx dv nX nd rw0 ps → wpAny (model prog w) ((At dp un fr gd).deeper (lawEnv L)) (execs ((bodyAt 7).drop 2) (lawEnv L)) Q' (fun _ _ => False) { s with heap := h', toks := tk' }) :
   wpAny (model prog w) ((At dp un fr gd).deeper (lawEnv L)) (execs (bodyAt 7) (lawEnv L)) Q' (fun _ _ => False) s := by
  unfold lawEnv
  generalize hsc : scopeOf lawStmt = sc
  conv at hsc => lhs; whnf
  subst hsc
  generalize hbd : bodyAt 7 = bd
  conv at hbd => lhs; whnf
  subst hbd
  obtain ⟨⟨p1, p2, p3, p4⟩, p5, p6, p7, p8, p9, p10, p11, p12⟩ := ap
  obtain ⟨q1, q2, q3, q4, q5, q6⟩ := aI
  (repeat' ((fail_if_success (with_reducible show wpAny _ _ (setItem _ _ _) _ _ _)); (fail_if_success (with_reducible show wpAny _ _ (subscriptTail _ _ (Value.ref _) (Value.int _ _)) _ _ _)); (fail_if_success (with_reducible show wpAny _ _ (call (Value.builtin "list.append") _) _ _ _)); (fail_if_success (with_reducible show Fr _ _ _ _ ∧ _)); (fail_if_success (with_reducible show wpAny _ _ (exec (Stmt.For _ _ _ _ _) _) _ _ _)); (fail_if_success (with_reducible show wpAny _ _ (eval (Expr.ListComp _ _ _ _) _) _ _ _)); (fail_if_success (with_reducible show wpAny _ _ (exec (Stmt.Assign [_] (Expr.ListComp _ _ _ _) _) _) _ _ _)); (fail_if_success (with_reducible show wpAny _ _ (eval (Expr.GeneratorExp _ _ _ _) _) _ _ _)); (fail_if_success (with_reducible show wpAny _ _ (call (Value.builtin "any") _ _) _ _ _)); (fail_if_success (with_reducible show wpAny _ _ (call (Value.builtin "all") _ _) _ _ _)); (fail_if_success (with_reducible show wpAny _ _ (call (Value.ref _) _ _) _ _ _));  (first | (k_unfold; (try dsimp only)) | walk1 | (dsimp only; walk1) | (leave1; walk_say "STEP leave1"; try dsimp only) | fail "no step")))
  rename Fr _ _ _ _ => F1
  rename News _ _ _ _ => N1
  have hdl : dv.length = zn := by rw [IntsAre.length iD, List.length_map, hrw.1, dlen]
  refine' ki_set (its := dv.toArray) (n := nd) (q := dv.set p (.int (Int.ofNat i) tk)) F1 N1 (Int.natCast_nonneg p) (by show (p : Int) < _; omega) (by simpa using setL_eq (l := dv) (k := p) (by omega)) ?U ?_
  case U => k_upd
  intro h2 F2 N2
  clear F1 N1
  have iD2 := ints_set iD p i tk
  rw [hrw.2 i] at iD2
  have b32 : ∀ n ∈ rw0.set p i, n < 32 := fun n hn => by
    rcases List.mem_or_eq_of_mem_set hn with h | rfl
    · exact d32 n h
    · exact hi
  have hlen : (rw0.set p i).length = zn := by rw [List.length_set, dlen]
  (repeat' ((fail_if_success (with_reducible show wpAny _ _ (setItem _ _ _) _ _ _)); (fail_if_success (with_reducible show wpAny _ _ (subscriptTail _ _ (Value.ref _) (Value.int _ _)) _ _ _)); (fail_if_success (with_reducible show wpAny _ _ (call (Value.builtin "list.append") _) _ _ _)); (fail_if_success (with_reducible show Fr _ _ _ _ ∧ _)); (fail_if_success (with_reducible show wpAny _ _ (exec (Stmt.For _ _ _ _ _) _) _ _ _)); (fail_if_success (with_reducible show wpAny _ _ (eval (Expr.ListComp _ _ _ _) _) _ _ _)); (fail_if_success (with_reducible show wpAny _ _ (exec (Stmt.Assign [_] (Expr.ListComp _ _ _ _) _) _) _ _ _)); (fail_if_success (with_reducible show wpAny _ _ (eval (Expr.GeneratorExp _ _ _ _) _) _ _ _)); (fail_if_success (with_reducible show wpAny _ _ (call (Value.builtin "any") _ _) _ _ _)); (fail_if_success (with_reducible show wpAny _ _ (call (Value.builtin "all") _ _) _ _ _)); (fail_if_success (with_reducible show wpAny _ _ (call (Value.ref _) _ _) _ _ _));  (first | (k_unfold; (try dsimp only)) | walk1 | (dsimp only; walk1) | (leave1; walk_say "STEP leave1"; try dsimp only) | fail "no step")))
  rename Fr _ _ _ _ => F3
  rename News _ _ _ _ => N3
  refine encode_c (c := c) (ns := rw0.set p i) (dp := dp + 1) (un := un + 3) ⟨KX.keeps F3.keep, T.keeps F3.keep⟩ (by omega) (by omega) (N3.isList (a := D) (by k_mem)) iD2 (by omega) b32 ?_
  intro t4 h4 tk4 hk4
  have F4 := F3.keeps hk4
  have N4 := N3.grown hk4
  clear F3 N3
  dsimp only at F4 N4 ⊢
  have htl : tx.length = i := by rw [strs_len hS, List.length_map, List.length_range]
  (repeat' ((fail_if_success (with_reducible show wpAny _ _ (setItem _ _ _) _ _ _)); (fail_if_success (with_reducible show wpAny _ _ (subscriptTail _ _ (Value.ref _) (Value.int _ _)) _ _ _)); (fail_if_success (with_reducible show wpAny _ _ (call (Value.builtin "list.append") _) _ _ _)); (fail_if_success (with_reducible show Fr _ _ _ _ ∧ _)); (fail_if_success (with_reducible show wpAny _ _ (exec (Stmt.For _ _ _ _ _) _) _ _ _)); (fail_if_success (with_reducible show wpAny _ _ (eval (Expr.ListComp _ _ _ _) _) _ _ _)); (fail_if_success (with_reducible show wpAny _ _ (exec (Stmt.Assign [_] (Expr.ListComp _ _ _ _) _) _) _ _ _)); (fail_if_success (with_reducible show wpAny _ _ (eval (Expr.GeneratorExp _ _ _ _) _) _ _ _)); (fail_if_success (with_reducible show wpAny _ _ (call (Value.builtin "any") _ _) _ _ _)); (fail_if_success (with_reducible show wpAny _ _ (call (Value.builtin "all") _ _) _ _ _)); (fail_if_success (with_reducible show wpAny _ _ (call (Value.ref _) _ _) _ _ _));  (first | (k_unfold; (try dsimp only)) | walk1 | (dsimp only; walk1) | (leave1; walk_say "STEP leave1"; try dsimp only) | fail "no step")))
  refine' append_K F4 N4 ?U ?_ ?z
  case U => k_upd
  case z => rw [List.size_toArray, htl]; exact Nat.le_trans (by omega : _ ≤ 100) (Nat.le_of_ble_eq_true rfl)
  intro h5 F5 N5
  clear F4 N4
  have hS5 : StrsAre (tx ++ [Value.str (encN c (rw0.set p i)) t4]) ((List.range (i + 1)).map fun j => encN c (rw0.set p j)) := by
    rw [List.range_succ, List.map_append]
    exact strs_app hS (.cons _ _ .nil)
  rw [show tx.toArray.push (Value.str (encN c (rw0.set p i)) t4) = (tx ++ [Value.str (encN c (rw0.set p i)) t4]).toArray from by simp] at N5
  have hti : (tx ++ [Value.str (encN c (rw0.set p i)) t4]).toArray[(Int.ofNat i).toNat]? = some (Value.str (encN c (rw0.set p i)) t4) := by
    show _[i]? = _
    simp [← htl]
  generalize hty : tx ++ [Value.str (encN c (rw0.set p i)) t4] = ty at *
  (repeat' ((fail_if_success (with_reducible show wpAny _ _ (setItem _ _ _) _ _ _)); (fail_if_success (with_reducible show wpAny _ _ (subscriptTail _ _ (Value.ref _) (Value.int _ _)) _ _ _)); (fail_if_success (with_reducible show wpAny _ _ (call (Value.builtin "list.append") _) _ _ _)); (fail_if_success (with_reducible show wpAny _ _ (execs (Stmt.If _ _ _ _ :: _) _) _ _ _)); (fail_if_success (with_reducible show Fr _ _ _ _ ∧ _)); (fail_if_success (with_reducible show wpAny _ _ (exec (Stmt.For _ _ _ _ _) _) _ _ _)); (fail_if_success (with_reducible show wpAny _ _ (eval (Expr.ListComp _ _ _ _) _) _ _ _)); (fail_if_success (with_reducible show wpAny _ _ (exec (Stmt.Assign [_] (Expr.ListComp _ _ _ _) _) _) _ _ _)); (fail_if_success (with_reducible show wpAny _ _ (eval (Expr.GeneratorExp _ _ _ _) _) _ _ _)); (fail_if_success (with_reducible show wpAny _ _ (call (Value.builtin "any") _ _) _ _ _)); (fail_if_success (with_reducible show wpAny _ _ (call (Value.builtin "all") _ _) _ _ _)); (fail_if_success (with_reducible show wpAny _ _ (call (Value.ref _) _ _) _ _ _));  (first | (k_unfold; (try dsimp only)) | walk1 | (dsimp only; walk1) | (leave1; walk_say "STEP leave1"; try dsimp only) | fail "no step")))
  refine hcont _ _ _ _ _ ⟨F5, N5, hS5, ⟨_, hti⟩, iD2⟩
end Mine
end

section
open PySem PySem.W PySem.Calls PyProof.Rows
set_option Elab.async false
set_option maxRecDepth 100000
namespace Mine
/-- what a step does to the state, the value apart -/
def linN (c : Nat) : Nat := stepN c 0
theorem xor_right_comm (a b c : Nat) : a ^^^ b ^^^ c = a ^^^ c ^^^ b := by rw [Nat.xor_assoc, Nat.xor_comm b c, ← Nat.xor_assoc]
theorem turn_xor (t c v i : Nat) : turnN t (c ^^^ v) i = turnN t c i ^^^ v := by
  unfold turnN
  rw [xor_right_comm]
theorem turns_xor (t c v : Nat) : ∀ n, turnsN t (c ^^^ v) n = turnsN t c n ^^^ v
  | 0 => rfl
  | n + 1 => by
    show turnN t (turnsN t (c ^^^ v) n) n = turnN t (turnsN t c n) n ^^^ v
    rw [turns_xor t c v n, turn_xor]
theorem step_val (c v : Nat) : stepN c v = linN c ^^^ v := by
  unfold linN stepN
  rw [turns_xor, Nat.xor_zero]
/-- the feedback of five bits -/
def fb (t : Nat) : Nat := turnsN t 0 5
theorem turns_base (t c : Nat) (n : Nat) : turnsN t c n = turnsN t 0 n ^^^ c := by
  have := turns_xor t 0 c n
  rwa [Nat.zero_xor] at this
theorem lin_eq (c : Nat) : linN c = fb (c >>> 25) ^^^ ((c &&& 33554431) <<< 5) := by
  unfold linN stepN fb
  rw [Nat.xor_zero, turns_base]
theorem fb_xor : ∀ a < 32, ∀ b < 32, fb (a ^^^ b) = fb a ^^^ fb b := by decide +kernel
theorem fb_lt : ∀ a < 32, fb a < 2 ^ 30 := by decide +kernel
theorem top_lt {c : Nat} (h : c < 2 ^ 30) : c >>> 25 < 32 := by rw [Nat.shiftRight_eq_div_pow]; omega
theorem lin_xor {a b : Nat} (ha : a < 2 ^ 30) (hb : b < 2 ^ 30) : linN (a ^^^ b) = linN a ^^^ linN b := by
  rw [lin_eq, lin_eq, lin_eq, Nat.shiftRight_xor_distrib, fb_xor _ (top_lt ha) _ (top_lt hb), Nat.and_xor_distrib_right, Nat.shiftLeft_xor_distrib]
  rw [Nat.xor_assoc, Nat.xor_assoc]
  congr 1
  rw [← Nat.xor_assoc, Nat.xor_comm (fb (b >>> 25)), Nat.xor_assoc]
theorem low_lt (c : Nat) : (c &&& 33554431) <<< 5 < 2 ^ 30 := by
  have : c &&& 33554431 ≤ 33554431 := Nat.and_le_right
  rw [Nat.shiftLeft_eq]; omega
theorem lin_lt {a : Nat} (ha : a < 2 ^ 30) : linN a < 2 ^ 30 := by
  rw [lin_eq]
  exact Nat.xor_lt_two_pow (fb_lt _ (top_lt ha)) (low_lt a)
theorem step_lt {c v : Nat} (hc : c < 2 ^ 30) (hv : v < 32) : stepN c v < 2 ^ 30 := by
  rw [step_val]
  exact Nat.xor_lt_two_pow (lin_lt hc) (by omega)
/-- the state after more numbers -/
def runN (c : Nat) (ns : List Nat) : Nat := ns.foldl stepN c
theorem run_lt : ∀ (ns : List Nat) (c : Nat), c < 2 ^ 30 → (∀ n ∈ ns, n < 32) → runN c ns < 2 ^ 30
  | [], c, h, _ => h
  | n :: r, c, h, hn => run_lt r _ (step_lt h (hn n (.head _))) fun x hx => hn x (.tail _ hx)
/-- k times the step with nothing -/
def linK : Nat → Nat → Nat
  | 0, d => d
  | k + 1, d => linK k (linN d)
theorem linK_lt : ∀ (k : Nat) {d : Nat}, d < 2 ^ 30 → linK k d < 2 ^ 30
  | 0, _, h => h
  | k + 1, _, h => linK_lt k (lin_lt h)
/-- two states that differ go on to differ, by what the step makes of it -/
theorem run_diff : ∀ (ns : List Nat) (c d : Nat), c < 2 ^ 30 → d < 2 ^ 30 → (∀ n ∈ ns, n < 32) → runN (c ^^^ d) ns = runN c ns ^^^ linK ns.length d
  | [], c, d, _, _, _ => rfl
  | n :: r, c, d, hc, hd, hn => by
    show runN (stepN (c ^^^ d) n) r = runN (stepN c n) r ^^^ linK r.length (linN d)
    rw [step_val, lin_xor hc hd, xor_right_comm, ← step_val]
    exact run_diff r _ _ (step_lt hc (hn n (.head _))) (lin_lt hd) fun x hx => hn x (.tail _ hx)
/-- one number changed -/
theorem run_set {pre post : List Nat} {a b c : Nat} (hc : c < 2 ^ 30) (hpre : ∀ n ∈ pre, n < 32) (hpost : ∀ n ∈ post, n < 32) (ha : a < 32) (hb : b < 32) :
    runN c (pre ++ b :: post) = runN c (pre ++ a :: post) ^^^ linK post.length (a ^^^ b) := by
  unfold runN
  rw [List.foldl_append, List.foldl_append]
  have h0 := run_lt pre c hc hpre
  show runN (stepN (runN c pre) b) post = runN (stepN (runN c pre) a) post ^^^ _
  have e : stepN (runN c pre) b = stepN (runN c pre) a ^^^ (a ^^^ b) := by
    rw [step_val _ b, step_val _ a, Nat.xor_assoc, ← Nat.xor_assoc a a b, Nat.xor_self, Nat.zero_xor]
  rw [e]
  exact run_diff post _ _ (step_lt h0 ha) (Nat.lt_of_lt_of_le (Nat.xor_lt_two_pow (n := 5) ha hb) (by decide)) hpost
end Mine
end

section
open PySem PySem.W PySem.Calls PyProof.Rows
set_option Elab.async false
set_option maxRecDepth 100000
namespace Mine
theorem and31 (x : Nat) : x &&& 31 = x % 32 := Nat.and_two_pow_sub_one_eq_mod x 5
theorem shl_and {a v : Nat} (hv : v < 32) : (a <<< 5) &&& v = 0 := by
  apply Nat.eq_of_testBit_eq
  intro j
  rw [Nat.testBit_and, Nat.testBit_shiftLeft, Nat.zero_testBit]
  by_cases hj : 5 ≤ j
  · have : v.testBit j = false := Nat.testBit_lt_two_pow (Nat.lt_of_lt_of_le hv (Nat.pow_le_pow_right (by decide) hj : 2 ^ 5 ≤ 2 ^ j))
    rw [this, Bool.and_false]
  · simp [hj]
theorem shl_xor {a v : Nat} (hv : v < 32) : (a <<< 5) ^^^ v = a * 32 + v := by
  have := nat_xor_add_and (a <<< 5) v
  rw [shl_and hv] at this
  rw [Nat.shiftLeft_eq] at this ⊢
  omega
theorem lin_small {a : Nat} (ha : a < 2 ^ 25) : linN a = a <<< 5 := by
  have h0 : a >>> 25 = 0 := by rw [Nat.shiftRight_eq_div_pow]; omega
  have h1 : a &&& 33554431 = a := by
    rw [show (33554431 : Nat) = 2 ^ 25 - 1 from rfl, Nat.and_two_pow_sub_one_eq_mod, Nat.mod_eq_of_lt ha]
  rw [lin_eq, h0, h1, show fb 0 = 0 from by decide, Nat.zero_xor]
theorem step_add {s a v : Nat} (hs : s < 2 ^ 30) (ha : a < 2 ^ 25) (hv : v < 32) : stepN (s ^^^ a) v = stepN s 0 ^^^ (a * 32 + v) := by
  rw [step_val, lin_xor hs (by omega), lin_small ha, Nat.xor_assoc, shl_xor hv]
  rw [step_val s 0, Nat.xor_zero]
theorem s0_lt {s : Nat} (h : s < 2 ^ 30) : stepN s 0 < 2 ^ 30 := step_lt h (by decide)
/-- six numbers more -/
theorem six {s v0 v1 v2 v3 v4 v5 : Nat} (hs : s < 2 ^ 30) (h0 : v0 < 32) (h1 : v1 < 32) (h2 : v2 < 32) (h3 : v3 < 32) (h4 : v4 < 32) (h5 : v5 < 32) :
    runN s [v0, v1, v2, v3, v4, v5] = runN s [0, 0, 0, 0, 0, 0] ^^^ (((((v0 * 32 + v1) * 32 + v2) * 32 + v3) * 32 + v4) * 32 + v5) := by
  show stepN (stepN (stepN (stepN (stepN (stepN s v0) v1) v2) v3) v4) v5 = stepN (stepN (stepN (stepN (stepN (stepN s 0) 0) 0) 0) 0) 0 ^^^ _
  have k1 := s0_lt hs
  have k2 := s0_lt k1
  have k3 := s0_lt k2
  have k4 := s0_lt k3
  have k5 := s0_lt k4
  have e0 : stepN s v0 = stepN s 0 ^^^ v0 := by rw [step_val s v0, step_val s 0, Nat.xor_zero]
  rw [e0, step_add k1 (by omega) h1, step_add k2 (by omega) h2, step_add k3 (by omega) h3, step_add k4 (by omega) h4, step_add k5 (by omega) h5]
theorem unpack_eq {y : Nat} (hy : y < 2 ^ 30) : ∃ v0 v1 v2 v3 v4 v5, unpackN y = [v0, v1, v2, v3, v4, v5] ∧ v0 < 32 ∧ v1 < 32 ∧ v2 < 32 ∧ v3 < 32 ∧ v4 < 32 ∧ v5 < 32 ∧ ((((v0 * 32 + v1) * 32 + v2) * 32 + v3) * 32 + v4) * 32 + v5 = y := by
  refine ⟨_, _, _, _, _, _, rfl, ?_⟩
  simp only [and31, Nat.shiftRight_eq_div_pow]
  refine ⟨by omega, by omega, by omega, by omega, by omega, by omega, by omega⟩
theorem run_app (s : Nat) (a b : List Nat) : runN s (a ++ b) = runN (runN s a) b := List.foldl_append
theorem pm_run (ns : List Nat) : pmN ns = runN 1 ns := rfl
theorem hrp32 {c : Nat} (hc : c < 128) {ns : List Nat} (hn : ∀ n ∈ ns, n < 32) : ∀ n ∈ [c >>> 5, 0, c &&& 31] ++ ns, n < 32 := by
  intro n h
  rcases List.mem_append.mp h with h | h
  · simp only [List.mem_cons, List.not_mem_nil, or_false] at h
    rcases h with rfl | rfl | rfl
    · rw [Nat.shiftRight_eq_div_pow]; omega
    · decide
    · rw [and31]; omega
  · exact hn n h
theorem pm_enc (c : Nat) (ns : List Nat) (hc : c < 128) (hn : ∀ n ∈ ns, n < 32) : pmN ([c >>> 5, 0, c &&& 31] ++ (ns ++ csN c ns)) = 1 := by
  have hs := run_lt _ 1 (by decide) (hrp32 hc hn)
  have h6 : runN (runN 1 ([c >>> 5, 0, c &&& 31] ++ ns)) [0, 0, 0, 0, 0, 0] < 2 ^ 30 := run_lt _ _ hs (by decide)
  have hy : pmN ([c >>> 5, 0, c &&& 31] ++ ns ++ [0, 0, 0, 0, 0, 0]) ^^^ 1 < 2 ^ 30 := by
    rw [pm_run, run_app]
    exact Nat.xor_lt_two_pow h6 (by decide)
  obtain ⟨v0, v1, v2, v3, v4, v5, e, h0, h1, h2, h3, h4, h5, ey⟩ := unpack_eq hy
  have e9 : pmN ([c >>> 5, 0, c &&& 31] ++ ns ++ [0, 0, 0, 0, 0, 0]) = runN (runN 1 ([c >>> 5, 0, c &&& 31] ++ ns)) [0, 0, 0, 0, 0, 0] := by rw [pm_run, run_app]
  rw [← List.append_assoc, pm_run, run_app, show csN c ns = [v0, v1, v2, v3, v4, v5] from e, six hs h0 h1 h2 h3 h4 h5, ey, e9, ← Nat.xor_assoc, Nat.xor_self, Nat.zero_xor]
theorem linK_ne : ∀ j < 6, ∀ d < 32, d ≠ 0 → linK j d ≠ 0 := by decide +kernel
theorem sign_ne : ∀ q < 4, ∀ k < 6, ∀ d < 32, d ≠ 0 → (linK (q + 6) d >>> (5 * (5 - k))) &&& 31 ≠ 0 := by decide +kernel
theorem xor_ne {a b : Nat} (h : a ≠ b) : a ^^^ b ≠ 0 := fun e => h (by have := congrArg (· ^^^ b) e; simpa [Nat.xor_assoc] using this)
theorem xor5 {a b : Nat} (ha : a < 32) (hb : b < 32) : a ^^^ b < 32 := Nat.xor_lt_two_pow (n := 5) ha hb
/-- one of the last six signs turned: the sum is another -/
theorem pm_alt {c : Nat} {ns : List Nat} {k e : Nat} (hc : c < 128) (hn : ∀ n ∈ ns, n < 32) (hk : k < 6) (he : e < 32) (hne : (ns ++ csN c ns)[ns.length + k]? ≠ some e) :
    pmN ([c >>> 5, 0, c &&& 31] ++ (ns ++ csN c ns).set (ns.length + k) e) ≠ 1 := by
  have h32 : ∀ n ∈ ns ++ csN c ns, n < 32 := fun n h => (List.mem_append.mp h).elim (hn n) (csN_lt c ns n)
  have hlen : (ns ++ csN c ns).length = ns.length + 6 := by rw [List.length_append]; rfl
  have hlt : ns.length + k < (ns ++ csN c ns).length := by omega
  have hget : (ns ++ csN c ns)[ns.length + k] ≠ e := fun h => hne (by rw [List.getElem?_eq_getElem hlt, h])
  generalize hds : ns ++ csN c ns = ds at *
  have hpm : pmN ([c >>> 5, 0, c &&& 31] ++ ds) = 1 := by rw [← hds]; exact pm_enc c ns hc hn
  have hsplit : ds = ds.take (ns.length + k) ++ ds[ns.length + k] :: ds.drop (ns.length + k + 1) := by
    rw [← List.drop_eq_getElem_cons hlt, List.take_append_drop]
  have hset : ds.set (ns.length + k) e = ds.take (ns.length + k) ++ e :: ds.drop (ns.length + k + 1) := by
    rw [List.set_eq_take_append_cons_drop, if_pos hlt]
  have ha : ds[ns.length + k] < 32 := h32 _ (List.getElem_mem hlt)
  rw [pm_run] at hpm ⊢
  rw [hsplit, ← List.append_assoc] at hpm
  rw [hset, ← List.append_assoc, run_set (c := 1) (a := ds[ns.length + k]) (b := e) (by decide) ?_ ?_ ha he, hpm]
  · intro h1
    have hz : linK (ds.drop (ns.length + k + 1)).length (ds[ns.length + k] ^^^ e) = 0 := by
      have := congrArg (fun z => 1 ^^^ z) h1
      simpa [← Nat.xor_assoc] using this
    exact linK_ne _ (by rw [List.length_drop]; omega) _ (xor5 ha he) (xor_ne hget) hz
  · exact hrp32 hc fun n h => h32 n (List.mem_of_mem_take h)
  · exact fun n h => h32 n (List.mem_of_mem_drop h)
end Mine
end

section
open PySem PySem.Builtin PySem.Builtin.Str PyProof.Rows
set_option Elab.async false
set_option maxRecDepth 100000
namespace Mine
theorem slice_to {l : List Nat} {j : Nat} (h : j ≤ l.length) : Txt.slice ⟨l.toArray⟩ none (some (j : Int)) = ⟨(l.take j).toArray⟩ := by
  have := eq_of_beq (slice_closes_to (x := ⟨l.toArray⟩) (j := (j : Int)) ⟨by omega, by show (j : Int) ≤ (l.toArray.toList.length : Int); simp; omega⟩)
  rw [this]
  simp
theorem slice_from {l : List Nat} {i : Nat} (h : i ≤ l.length) : Txt.slice ⟨l.toArray⟩ (some (i : Int)) none = ⟨(l.drop i).toArray⟩ := by
  have hlen : (⟨l.toArray⟩ : Str).length = l.length := by show l.toArray.size = _; simp
  rw [slice_from_eq (x := ⟨l.toArray⟩) (i := (i : Int)) (b := (l.length : Int)) (by omega) (by rw [hlen]; omega) (by rw [hlen])]
  simp only [Int.toNat_natCast]
  rw [List.take_of_length_le (by simp)]
theorem slice_neg {l : List Nat} (h : 6 ≤ l.length) : Txt.slice ⟨l.toArray⟩ none (some (-6)) = ⟨(l.take (l.length - 6)).toArray⟩ := by
  rw [← slice_to (by omega)]
  have hlen : (⟨l.toArray⟩ : Str).length = l.length := by show l.toArray.size = _; simp
  have e : strSliceIndices none (some (-6)) 1 (⟨l.toArray⟩ : Str).length = strSliceIndices none (some ((l.length - 6 : Nat) : Int)) 1 (⟨l.toArray⟩ : Str).length := by
    unfold strSliceIndices
    rw [hlen]
    dsimp only
    rw [if_pos (show (-6 : Int) < 0 by decide), if_neg (show ¬ (((l.length - 6 : Nat) : Int) < 0) by omega)]
    rw [show (-6 : Int) + (l.length : Int) = ((l.length - 6 : Nat) : Int) by omega]
  unfold Txt.slice
  rw [e]
theorem item_at {l : List Nat} {i : Nat} (h : i < l.length) : Txt.item ⟨l.toArray⟩ (i : Int) = ⟨#[l[i]]⟩ := by
  have hlen : (⟨l.toArray⟩ : Str).length = l.length := by show l.toArray.size = _; simp
  unfold Txt.item Txt.charAt
  have : seqIndex? (i : Int) (⟨l.toArray⟩ : Str).length = some i := by
    rw [hlen]
    unfold seqIndex?
    simp
    omega
  rw [this]
  simp [h]
end Mine
end

section
open PySem PySem.W PySem.Calls PyProof.Rows
set_option Elab.async false
set_option maxRecDepth 100000
namespace Mine
/-- a text of a letter and signs -/
def rawN (c : Nat) (ds : List Nat) : Str := ⟨([c, 49] ++ ds.map ch).toArray⟩
theorem enc_raw (c : Nat) (ns : List Nat) : encN c ns = rawN c (ns ++ csN c ns) := rfl
theorem ch_ok : ∀ d < 32, 33 ≤ ch d ∧ ch d ≤ 126 ∧ ch d ≠ 49 ∧ ¬ (65 ≤ ch d ∧ ch d ≤ 90) := by decide +kernel
theorem raw_mem {c : Nat} {ds : List Nat} (hn : ∀ n ∈ ds, n < 32) {e : Nat} (he : e ∈ [c, 49] ++ ds.map ch) : e = c ∨ e = 49 ∨ ∃ d < 32, e = ch d := by
  rcases List.mem_append.mp he with h | h
  · simp only [List.mem_cons, List.not_mem_nil, or_false] at h
    exact h.elim .inl fun h => .inr (.inl h)
  · obtain ⟨d, hd, rfl⟩ := List.mem_map.mp h
    exact .inr (.inr ⟨d, hn d hd, rfl⟩)
theorem raw_dec {c : Nat} {ds : List Nat} (hc : 97 ≤ c ∧ c ≤ 122) (hn : ∀ n ∈ ds, n < 32) (_hl : ds.length ≤ 20) : DecText (rawN c ds) c ds := by
  have hsg : ∀ e ∈ (rawN c ds).cps.toList, 33 ≤ e ∧ e ≤ 126 ∧ ¬ (65 ≤ e ∧ e ≤ 90) := fun e he => by
    rcases raw_mem hn (show e ∈ [c, 49] ++ ds.map ch by simpa [rawN] using he) with rfl | rfl | ⟨d, hd, rfl⟩
    · omega
    · omega
    · have := ch_ok d hd; exact ⟨this.1, this.2.1, this.2.2.2⟩
  refine ⟨fun e he => ⟨(hsg e he).1, (hsg e he).2.1⟩, ?_, ?_, ?_, ?_, ?_⟩
  · rw [lower_ascii fun e he => by have := hsg e he; omega]
    have : (rawN c ds).cps.map lo1 = (rawN c ds).cps := by
      apply Array.ext'
      rw [Array.toList_map]
      exact (List.map_congr_left fun e he => (show lo1 e = id e by unfold lo1; rw [if_neg (hsg e he).2.2]; rfl)).trans (List.map_id _)
    rw [this]
  · show ([c, 49] ++ ds.map ch).toArray.size = _
    simp; omega
  · rcases rfind_whole (rawN c ds) (PySem.Str.ofString "1") with ⟨_, h⟩ | ⟨i, h1, h2, h3⟩
    · exact absurd ((StrLaws.subAt_one (rawN c ds) 49 1).mpr (by simp [rawN])) (h 1)
    · rw [h1]
      have h4 := (StrLaws.subAt_one (rawN c ds) 49 i).mp h2
      have h5 : ([c, 49] ++ ds.map ch)[i]? = some 49 := by simpa [rawN] using h4
      match i, h5 with
      | 0, h5 => simp at h5; omega
      | 1, _ => rfl
      | i + 2, h5 =>
        simp only [List.cons_append, List.nil_append, List.getElem?_cons_succ, List.getElem?_map, Option.map_eq_some_iff] at h5
        obtain ⟨d, hd, e⟩ := h5
        exact absurd e (ch_ok d (hn d (List.mem_of_getElem? hd))).2.2.1
  · exact slice_to (l := [c, 49] ++ ds.map ch) (j := 1) (by simp)
  · exact slice_from (l := [c, 49] ++ ds.map ch) (i := 2) (by simp)
theorem sg_find : ∀ d < 32, Txt.find (PySem.Str.ofString "qpzry9x8gf2tvdw0s3jn54khce6mua7l") ⟨#[ch d]⟩ = Int.ofNat d := find_ch
theorem alt_text {c k z : Nat} {ns : List Nat} {r : Int} (hn : ∀ n ∈ ns, n < 32) (hz : ns.length = z) (h4 : z ≤ 4) (hk : k < 6) (hr0 : 0 ≤ r) (hr1 : r < 31) :
    ∃ e : Nat, e < 32 ∧ (ns ++ csN c ns)[ns.length + k]? ≠ some e ∧
      Txt.slice (encN c ns) none (some (2 + (z : Int) + (k : Int))) ++ Txt.item (PySem.Str.ofString "qpzry9x8gf2tvdw0s3jn54khce6mua7l") ((Txt.find (PySem.Str.ofString "qpzry9x8gf2tvdw0s3jn54khce6mua7l") (Txt.item (encN c ns) (2 + (z : Int) + (k : Int))) + 1 + r).fmod 32) ++
        Txt.slice (encN c ns) (some (2 + (z : Int) + (k : Int) + 1)) none = rawN c ((ns ++ csN c ns).set (ns.length + k) e) := by
  subst hz
  have h32 : ∀ n ∈ ns ++ csN c ns, n < 32 := fun n h => (List.mem_append.mp h).elim (hn n) (csN_lt c ns n)
  have hlen : (ns ++ csN c ns).length = ns.length + 6 := by rw [List.length_append]; rfl
  rw [enc_raw]
  generalize ns ++ csN c ns = ds at *
  have hlt : ns.length + k < ds.length := by omega
  have hd := h32 _ (List.getElem_mem hlt)
  have hl2 : ([c, 49] ++ ds.map ch).length = ds.length + 2 := by simp
  have e1 : (2 + (ns.length : Int) + (k : Int)) = ((2 + ns.length + k : Nat) : Int) := by omega
  have e2 : (2 + (ns.length : Int) + (k : Int) + 1) = ((2 + ns.length + k + 1 : Nat) : Int) := by omega
  have hit : Txt.item (rawN c ds) ((2 + ns.length + k : Nat) : Int) = ⟨#[ch ds[ns.length + k]]⟩ := by
    rw [rawN, item_at (l := [c, 49] ++ ds.map ch) (i := 2 + ns.length + k) (by omega)]
    have : ([c, 49] ++ ds.map ch)[2 + ns.length + k]'(by omega) = ch ds[ns.length + k] := by
      rw [List.getElem_append_right (by simp; omega)]
      simp only [List.length_cons, List.length_nil, List.getElem_map]
      congr 1
      congr 1
      omega
    rw [this]
  refine ⟨((ds[ns.length + k] : Int) + 1 + r).fmod 32 |>.toNat, ?_, ?_, ?_⟩
  · have := Int.fmod_lt_of_pos ((ds[ns.length + k] : Int) + 1 + r) (show (0:Int) < 32 by decide)
    have := Int.fmod_nonneg_of_pos ((ds[ns.length + k] : Int) + 1 + r) (show (0:Int) < 32 by decide)
    omega
  · rw [List.getElem?_eq_getElem hlt]
    intro h
    have h := Option.some.inj h
    rw [Int.fmod_eq_emod_of_nonneg _ (by decide)] at h
    omega
  · have hf0 := Int.fmod_nonneg_of_pos ((ds[ns.length + k] : Int) + 1 + r) (show (0:Int) < 32 by decide)
    have hf1 := Int.fmod_lt_of_pos ((ds[ns.length + k] : Int) + 1 + r) (show (0:Int) < 32 by decide)
    obtain ⟨e, he⟩ : ∃ e : Nat, ((ds[ns.length + k] : Int) + 1 + r).fmod 32 = (e : Int) := ⟨_, (Int.toNat_of_nonneg hf0).symm⟩
    have he32 : e < 32 := by omega
    rw [he, e2, e1, hit, sg_find _ hd]
    rw [show (Int.ofNat ds[ns.length + k] + 1 + r).fmod 32 = Int.ofNat e from he, chs_item e he32]
    rw [rawN, slice_to (l := [c, 49] ++ ds.map ch) (by omega), slice_from (l := [c, 49] ++ ds.map ch) (by omega)]
    have hs : [c, 49] ++ (ds.set (ns.length + k) e).map ch = ([c, 49] ++ ds.map ch).take (2 + ns.length + k) ++ ch e :: ([c, 49] ++ ds.map ch).drop (2 + ns.length + k + 1) := by
      have : [c, 49] ++ (ds.set (ns.length + k) e).map ch = ([c, 49] ++ ds.map ch).set (2 + ns.length + k) (ch e) := by
        rw [show 2 + ns.length + k = (ns.length + k) + 1 + 1 by omega]
        simp [List.map_set]
      rw [this, List.set_eq_take_append_cons_drop, if_pos (by omega)]
    show (⟨(_ ++ _) ++ _⟩ : Str) = rawN c _
    rw [rawN, Int.toNat_natCast, hs]
    congr 1
    simp
end Mine
end

section
open PySem PySem.W PySem.Calls PyProof.Rows
set_option Elab.async false
set_option maxRecDepth 100000
namespace Mine
/-- the signs at one place of the thirty-two texts -/
def col (c : Nat) (rw0 : List Nat) (p : Nat) (k : Int) : List Str := (List.range 32).map fun j => Txt.item (encN c (rw0.set p j)) k
def sgN (c : Nat) (rw0 : List Nat) (p k j : Nat) : Nat := (pmN ([c >>> 5, 0, c &&& 31] ++ rw0.set p j ++ [0, 0, 0, 0, 0, 0]) ^^^ 1) >>> (5 * (5 - k)) &&& 31
theorem unpack_at (y : Nat) {k : Nat} (hk : k < 6) : (unpackN y)[k]? = some (y >>> (5 * (5 - k)) &&& 31) := by
  have : k = 0 ∨ k = 1 ∨ k = 2 ∨ k = 3 ∨ k = 4 ∨ k = 5 := by omega
  rcases this with rfl | rfl | rfl | rfl | rfl | rfl <;> rfl
theorem col_item {c : Nat} {rw0 : List Nat} {p k j : Nat} (hk : k < 6) : Txt.item (encN c (rw0.set p j)) (2 + (rw0.length : Int) + (k : Int)) = ⟨#[ch (sgN c rw0 p k j)]⟩ := by
  have hl : (rw0.set p j).length = rw0.length := List.length_set
  have hc : (csN c (rw0.set p j)).length = 6 := rfl
  have e1 : (2 + (rw0.length : Int) + (k : Int)) = ((2 + rw0.length + k : Nat) : Int) := by omega
  have hlt : 2 + rw0.length + k < ([c, 49] ++ (rw0.set p j ++ csN c (rw0.set p j)).map ch).length := by simp [hc]; omega
  rw [e1]
  unfold encN encL
  rw [item_at hlt]
  have : ([c, 49] ++ (rw0.set p j ++ csN c (rw0.set p j)).map ch)[2 + rw0.length + k]? = some (ch (sgN c rw0 p k j)) := by
    rw [List.getElem?_append_right (by simp; omega)]
    rw [show 2 + rw0.length + k - [c, 49].length = rw0.length + k by simp; omega]
    rw [List.getElem?_map, List.getElem?_append_right (by omega), hl, Nat.add_sub_cancel_left]
    rw [csN, unpack_at _ hk]
    rfl
  rw [List.getElem?_eq_getElem hlt] at this
  rw [Option.some.inj this]
theorem sg_lt (c : Nat) (rw0 : List Nat) (p k j : Nat) : sgN c rw0 p k j < 32 := Nat.lt_of_le_of_lt Nat.and_le_right (by decide)
theorem sg_inj {c : Nat} {rw0 : List Nat} {p k j j' : Nat} (hc : c < 128) (h32 : ∀ n ∈ rw0, n < 32) (hp : p < rw0.length) (hz : rw0.length ≤ 4) (hk : k < 6) (hj : j < 32) (hj' : j' < 32) (h : sgN c rw0 p k j = sgN c rw0 p k j') : j = j' := by
  have key : ∀ i, rw0.set p i = rw0.take p ++ i :: rw0.drop (p + 1) := fun i => by rw [List.set_eq_take_append_cons_drop, if_pos hp]
  have e : ∀ i, [c >>> 5, 0, c &&& 31] ++ rw0.set p i ++ [0, 0, 0, 0, 0, 0] = ([c >>> 5, 0, c &&& 31] ++ rw0.take p) ++ i :: (rw0.drop (p + 1) ++ [0, 0, 0, 0, 0, 0]) := fun i => by rw [key]; simp
  have hr := run_set (pre := [c >>> 5, 0, c &&& 31] ++ rw0.take p) (post := rw0.drop (p + 1) ++ [0, 0, 0, 0, 0, 0]) (a := j) (b := j') (c := 1) (by decide) (hrp32 hc fun n hn => h32 n (List.mem_of_mem_take hn))
    (fun n hn => (List.mem_append.mp hn).elim (fun h => h32 n (List.mem_of_mem_drop h)) (fun h => by simp at h; omega)) hj hj'
  have hq : (rw0.drop (p + 1) ++ [0, 0, 0, 0, 0, 0]).length = (rw0.length - (p + 1)) + 6 := by simp
  rw [hq] at hr
  unfold sgN at h
  rw [e, e, pm_run, pm_run, hr] at h
  by_cases hne : j = j'
  · exact hne
  · exfalso
    refine sign_ne (rw0.length - (p + 1)) (by omega) k hk (j ^^^ j') (xor5 hj hj') (xor_ne hne) ?_
    generalize runN 1 _ = y at h
    generalize linK _ _ = m at h ⊢
    have hx : (y ^^^ m ^^^ 1) >>> (5 * (5 - k)) &&& 31 = ((y ^^^ 1) >>> (5 * (5 - k)) &&& 31) ^^^ (m >>> (5 * (5 - k)) &&& 31) := by
      rw [xor_right_comm y m 1, Nat.shiftRight_xor_distrib, Nat.and_xor_distrib_right]
    rw [hx] at h
    generalize ((y ^^^ 1) >>> (5 * (5 - k)) &&& 31) = u at h
    have := congrArg (fun z => u ^^^ z) h
    simpa [← Nat.xor_assoc] using this.symm
theorem ch_inj : ∀ a < 32, ∀ b < 32, ch a = ch b → a = b := by decide +kernel
theorem ch_mem : ∀ a < 32, (⟨#[ch a]⟩ : Str) ∈ (PySem.Str.ofString "qpzry9x8gf2tvdw0s3jn54khce6mua7l").cps.toList.map fun c => (⟨#[c]⟩ : Str) := by decide +kernel
theorem nodup_map {α β : Type} {f : α → β} : ∀ {l : List α}, l.Nodup → (∀ a ∈ l, ∀ b ∈ l, f a = f b → a = b) → (l.map f).Nodup
  | [], _, _ => .nil
  | x :: r, hn, hf => by
    have hn' := List.nodup_cons.mp hn
    refine List.nodup_cons.mpr ⟨fun h => ?_, nodup_map hn'.2 fun a ha b hb => hf a (.tail _ ha) b (.tail _ hb)⟩
    obtain ⟨b, hb, e⟩ := List.mem_map.mp h
    exact hn'.1 (hf b (.tail _ hb) x (.head _) e ▸ hb)
theorem col_nodup {c : Nat} {rw0 : List Nat} {p k : Nat} (hc : c < 128) (h32 : ∀ n ∈ rw0, n < 32) (hp : p < rw0.length) (hz : rw0.length ≤ 4) (hk : k < 6) : (col c rw0 p (2 + (rw0.length : Int) + (k : Int))).Nodup := by
  refine nodup_map List.nodup_range fun a ha b hb h => ?_
  have ha := List.mem_range.mp ha
  have hb := List.mem_range.mp hb
  rw [col_item hk, col_item hk] at h
  have h2 : ch (sgN c rw0 p k a) = ch (sgN c rw0 p k b) := by
    have := congrArg (fun x : Str => x.cps.toList) h
    simpa using this
  exact sg_inj hc h32 hp hz hk ha hb (ch_inj _ (sg_lt ..) _ (sg_lt ..) h2)
theorem col_perm {c : Nat} {rw0 : List Nat} {p k : Nat} (hc : c < 128) (h32 : ∀ n ∈ rw0, n < 32) (hp : p < rw0.length) (hz : rw0.length ≤ 4) (hk : k < 6) :
    (col c rw0 p (2 + (rw0.length : Int) + (k : Int))).Perm ((PySem.Str.ofString "qpzry9x8gf2tvdw0s3jn54khce6mua7l").cps.toList.map fun c => (⟨#[c]⟩ : Str)) := by
  refine perm_of_subset _ _ (col_nodup hc h32 hp hz hk) (fun x hx => ?_) ?_
  · obtain ⟨j, _, rfl⟩ := List.mem_map.mp hx
    rw [col_item hk]
    exact ch_mem _ (sg_lt ..)
  · rw [col, List.length_map, List.length_map, List.length_range]
    decide
end Mine
end

section
open PySem PySem.W PySem.Calls PyProof.Rows
set_option Elab.async false
set_option maxRecDepth 100000
namespace Mine

local macro_rules | `(tactic| walk_at "eval Name") => `(tactic| ((with_reducible show wpAny _ _ (eval (Expr.Name _ _) (genEnv _ _ _ _ _ _)) _ _ _); k_dflt (first
  | (refine' gm_ld ?F ?x ?_ ?k ?l; (case k => exact rfl); (case l => exact rfl); (case F => k_asm); (case x => first | assumption | exact rfl); k_whole)
  | (refine' gm_K ?F ?X ?T ?e ?_ ?g ?k ?l; (case g => exact rfl); (case k => exact rfl); (case l => exact rfl); (case F => k_asm); (case X => k_asm); (case T => k_asm); (case e => k_is); k_whole)
  | (refine' gm_B ?F ?X ?T ?e ?v ?n ?_ ?g ?k ?l; (case g => exact rfl); (case k => exact rfl); (case l => exact rfl); (case F => k_asm); (case X => k_asm); (case T => k_asm); (case e => k_is); (case v => boot_fast); (case n => decide); k_whole))))
local macro_rules | `(tactic| walk_at "eval Name") => `(tactic| ((with_reducible show wpAny _ _ (eval (Expr.Name _ _) (compEnvC _ _ _ _)) _ _ _); k_dflt (first
  | (refine' cm_ld ?F ?x ?_ ?k ?l; (case F => k_asm); (case x => first | assumption | exact rfl); (case k => exact rfl); (case l => exact rfl); k_whole)
  | (refine' cm_cell ?F ?c ?v ?_ ?k ?l; (case k => exact rfl); (case l => exact rfl); (case F => k_asm); (case c => exact rfl); (case v => assumption); k_whole)
  | (refine' cm_K ?F ?X ?T ?e ?_ ?g ?k ?l; (case F => k_asm); (case X => k_asm); (case T => k_asm); (case g => exact rfl); (case k => exact rfl); (case l => exact rfl); (case e => k_is); k_whole)
  | (refine' cm_B ?F ?X ?T ?e ?v ?n ?_ ?g ?b ?k ?l; (case F => k_asm); (case X => k_asm); (case T => k_asm); (case g => exact rfl); (case b => exact rfl); (case k => exact rfl); (case l => exact rfl); (case e => k_is); (case v => boot_fast); (case n => decide); k_whole))))
local macro_rules | `(tactic| walk_at "binaryOp BitAnd int int") => `(tactic| (k_dflt (refine' and_nat ?h1 ?h2 ?_; (case h1 => exact rfl); (case h2 => exact rfl))))
local macro_rules | `(tactic| walk_at "binaryOp BitXor int int") => `(tactic| (k_dflt (refine' xor_nat ?h1 ?h2 ?_; (case h1 => exact rfl); (case h2 => exact rfl))))
local macro_rules | `(tactic| walk_at "inplaceOp BitXor int int") => `(tactic| (k_dflt (refine' ixor_nat ?h1 ?h2 ?_; (case h1 => exact rfl); (case h2 => exact rfl))))
local macro_rules | `(tactic| walk_at "binaryOp RShift int int") => `(tactic| (k_dflt (refine' shr_nat ?h1 ?h2 ?_; (case h1 => exact rfl); (case h2 => exact rfl))))
local macro_rules | `(tactic| walk_at "binaryOp LShift int int") => `(tactic| (k_dflt (refine' shl_nat ?h1 ?h2 ?h3 ?h4 ?_; (case h1 => exact rfl); (case h2 => exact rfl); (case h3 => decide); (case h4 => exact and25_lt _))))

theorem enc_len (c : Nat) (ns : List Nat) : (encN c ns).length = 2 + (ns.length + 6) := by
  show (encL c ns).toArray.size = _
  rw [List.size_toArray, encL, List.length_append, List.length_map, List.length_append]
  rfl
theorem glue_row (c : Nat) (l : List Nat) : (⟨#[c]⟩ : Str) ++ PySem.Str.ofString "1" ++ ⟨(l.map ch).toArray⟩ = ⟨([c, 49] ++ l.map ch).toArray⟩ := by
  show (⟨(#[c] ++ #[49]) ++ (l.map ch).toArray⟩ : Str) = _
  simp
theorem enc_slice (c : Nat) (ns : List Nat) : Txt.slice (encN c ns) none (some (-6)) = ⟨([c, 49] ++ ns.map ch).toArray⟩   := by
  have hl : ([c, 49] ++ (ns ++ csN c ns).map ch).length = ns.length + 8 := by
    have : (csN c ns).length = 6 := rfl
    simp [this]
  unfold encN encL
  rw [slice_neg (by omega), hl]
  congr 2
  rw [show ns.length + 8 - 6 = ([c, 49] ++ ns.map ch).length by simp]
  rw [List.map_append, ← List.append_assoc, List.take_left]
local macro_rules | `(tactic| walk_at "compareOp NotEq str str") => `(tactic| (refine ne_same ?_))
set_option maxHeartbeats 8000000 in
theorem law_turn2 {prog : Program} {w : World} {dp un : Nat} {fr : Option (List Env)} {gd : Option (List Code)} {s : Shared} {mg mb : Str → Option Value} {bm : Addr} {ob : Obj} {h₀ : Heap} {L l Tl D X I : Addr} {c : Nat} {t tk : Tok} {zn p i : Nat} {pt u0 : Tok} {os ok : Obj} {tv dv tx : List Value} {nd nX : Nat} {a0 a1 a2 : Int} {rw0 : List Nat} {ps : Array Value} {o0 : OsState} {Q' : Flow → Shared → Prop}
   (KX : (hd1.heap_39 w.params).In h₀) (T : TopRead hd1.view_39 (looseW hd1.view_39 []) mg mb h₀) (M : BMod h₀ mainGlobals mg bm ob) (hd : dp + 40 < recursionLimit) (hu : un + 200 < cLine) (hL45 : @LT.lt Nat _ 45 L) (hi : i < 32)
   (dz : os.data = .cell (some (.int (zn : Int) u0))) (iT : IntsAre tv [a0, a1, a2]) (d32 : ∀ n ∈ rw0, n < 32) (dlen : rw0.length = zn) (z4 : zn ≤ 4) (pz : p < zn)
   (ap : (@Ne Nat D Tl ∧ @Ne Nat D 45 ∧ @Ne Nat D (L + 3) ∧ @Ne Nat D (L + 1)) ∧ @Ne Nat X D ∧ @Ne Nat X Tl ∧ @Ne Nat X 45 ∧ @Ne Nat X (L + 3) ∧ @Ne Nat X (L + 1) ∧ @Ne Nat Tl 45 ∧ @Ne Nat Tl (L + 3) ∧ @Ne Nat Tl (L + 1))
   (aI : @Ne Nat I X ∧ @Ne Nat I D ∧ @Ne Nat I Tl ∧ @Ne Nat I 45 ∧ @Ne Nat I (L + 3) ∧ @Ne Nat I (L + 1))
   (Tn : Turn h₀ s.heap L l Tl D X I c t tk p i pt os ok tv tx dv nX nd rw0 ps)
   (hcont : ∀ h' tk', Turn h₀ h' L l Tl D X I c t tk p i pt os ok tv tx dv nX nd rw0 ps → wpAny (model prog w) ((At dp un fr gd).deeper (lawEnv L)) (execs ((bodyAt 7).drop 3) (lawEnv L)) Q' (fun _ _ => False) { s with heap := h', toks := tk' }) :
   wpAny (model prog w) ((At dp un fr gd).deeper (lawEnv L)) (execs ((bodyAt 7).drop 2) (lawEnv L)) Q' (fun _ _ => False) s := by
  unfold lawEnv
  generalize hsc : scopeOf lawStmt = sc
  conv at hsc => lhs; whnf
  subst hsc
  generalize hbd : List.drop 2 (bodyAt 7) = bd
  conv at hbd => lhs; whnf
  subst hbd
  obtain ⟨⟨p1, p2, p3, p4⟩, p5, p6, p7, p8, p9, p10, p11, p12⟩ := ap
  obtain ⟨q1, q2, q3, q4, q5, q6⟩ := aI
  have F5 := Tn.F
  have N5 := Tn.N
  obtain ⟨t4, hti⟩ := Tn.it
  have iD2 := Tn.D
  have b32 : ∀ n ∈ rw0.set p i, n < 32 := fun n hn => by
    rcases List.mem_or_eq_of_mem_set hn with h | rfl
    · exact d32 n h
    · exact hi
  have hlen : (rw0.set p i).length = zn := by rw [List.length_set, dlen]
  (repeat' ((fail_if_success (with_reducible show wpAny _ _ (setItem _ _ _) _ _ _)); (fail_if_success (with_reducible show wpAny _ _ (subscriptTail _ _ (Value.ref _) (Value.int _ _)) _ _ _)); (fail_if_success (with_reducible show wpAny _ _ (call (Value.builtin "list.append") _) _ _ _)); (fail_if_success (with_reducible show Fr _ _ _ _ ∧ _)); (fail_if_success (with_reducible show wpAny _ _ (exec (Stmt.For _ _ _ _ _) _) _ _ _)); (fail_if_success (with_reducible show wpAny _ _ (eval (Expr.ListComp _ _ _ _) _) _ _ _)); (fail_if_success (with_reducible show wpAny _ _ (exec (Stmt.Assign [_] (Expr.ListComp _ _ _ _) _) _) _ _ _)); (fail_if_success (with_reducible show wpAny _ _ (eval (Expr.GeneratorExp _ _ _ _) _) _ _ _)); (fail_if_success (with_reducible show wpAny _ _ (call (Value.builtin "any") _ _) _ _ _)); (fail_if_success (with_reducible show wpAny _ _ (call (Value.builtin "all") _ _) _ _ _)); (fail_if_success (with_reducible show wpAny _ _ (call (Value.ref _) _ _) _ _ _));  (first | (k_unfold; (try dsimp only)) | walk1 | (dsimp only; walk1) | (leave1; walk_say "STEP leave1"; try dsimp only) | fail "no step")))
  refine item_list (N5.isList (a := X) (by k_mem)) (Int.natCast_nonneg i) (by show (i : Int) < _; omega) hti ?_
  (repeat' ((fail_if_success (with_reducible show wpAny _ _ (setItem _ _ _) _ _ _)); (fail_if_success (with_reducible show wpAny _ _ (subscriptTail _ _ (Value.ref _) (Value.int _ _)) _ _ _)); (fail_if_success (with_reducible show wpAny _ _ (call (Value.builtin "list.append") _) _ _ _)); (fail_if_success (with_reducible show Fr _ _ _ _ ∧ _)); (fail_if_success (with_reducible show wpAny _ _ (exec (Stmt.For _ _ _ _ _) _) _ _ _)); (fail_if_success (with_reducible show wpAny _ _ (eval (Expr.ListComp _ _ _ _) _) _ _ _)); (fail_if_success (with_reducible show wpAny _ _ (exec (Stmt.Assign [_] (Expr.ListComp _ _ _ _) _) _) _ _ _)); (fail_if_success (with_reducible show wpAny _ _ (eval (Expr.GeneratorExp _ _ _ _) _) _ _ _)); (fail_if_success (with_reducible show wpAny _ _ (call (Value.builtin "any") _ _) _ _ _)); (fail_if_success (with_reducible show wpAny _ _ (call (Value.builtin "all") _ _) _ _ _)); (fail_if_success (with_reducible show wpAny _ _ (call (Value.ref _) _ _) _ _ _));  (first | (k_unfold; (try dsimp only)) | walk1 | (dsimp only; walk1) | (leave1; walk_say "STEP leave1"; try dsimp only) | fail "no step")))
  have hxl : (encN c (rw0.set p i)).length = 2 + (zn + 6) := by rw [enc_len, hlen]
  refine slice_strN_ns F5 N5 ?_ (hsz := by rw [hxl]; exact Nat.le_trans (by omega : _ ≤ 100) (Nat.le_of_ble_eq_true rfl))
  intro h6 t6 k6 F6 N6
  clear F5 N5
  rw [enc_slice]
  (repeat' ((fail_if_success (with_reducible show wpAny _ _ (setItem _ _ _) _ _ _)); (fail_if_success (with_reducible show wpAny _ _ (subscriptTail _ _ (Value.ref _) (Value.int _ _)) _ _ _)); (fail_if_success (with_reducible show wpAny _ _ (call (Value.builtin "list.append") _) _ _ _)); (fail_if_success (with_reducible show Fr _ _ _ _ ∧ _)); (fail_if_success (with_reducible show wpAny _ _ (exec (Stmt.For _ _ _ _ _) _) _ _ _)); (fail_if_success (with_reducible show wpAny _ _ (eval (Expr.ListComp _ _ _ _) _) _ _ _)); (fail_if_success (with_reducible show wpAny _ _ (exec (Stmt.Assign [_] (Expr.ListComp _ _ _ _) _) _) _ _ _)); (fail_if_success (with_reducible show wpAny _ _ (eval (Expr.GeneratorExp _ _ _ _) _) _ _ _)); (fail_if_success (with_reducible show wpAny _ _ (call (Value.builtin "any") _ _) _ _ _)); (fail_if_success (with_reducible show wpAny _ _ (call (Value.builtin "all") _ _) _ _ _)); (fail_if_success (with_reducible show wpAny _ _ (call (Value.ref _) _ _) _ _ _));  (first | (k_unfold; (try dsimp only)) | walk1 | (dsimp only; walk1) | (leave1; walk_say "STEP leave1"; try dsimp only) | fail "no step")))
  rename Fr _ _ _ _ => F7
  rename News _ _ _ _ => N7
  refine comp_core (as := nInts (rw0.set p i)) (Rel := IntRel) (G := fun a y => ∃ t, y = .str ⟨#[ch a.toNat]⟩ t) intRel_inj F7 N7 rfl (by decide) rfl (by decide) rfl ?_
  (repeat' ((fail_if_success (with_reducible show Fr _ _ _ _ ∧ _)); (fail_if_success (with_reducible show wpAny _ _ (exec (Stmt.For _ _ _ _ _) _) _ _ _)); (fail_if_success (with_reducible show wpAny _ _ (eval (Expr.ListComp _ _ _ _) _) _ _ _)); (fail_if_success (with_reducible show wpAny _ _ (exec (Stmt.Assign [_] (Expr.ListComp _ _ _ _) _) _) _ _ _)); (fail_if_success (with_reducible show wpAny _ _ (eval (Expr.GeneratorExp _ _ _ _) _) _ _ _)); (fail_if_success (with_reducible show wpAny _ _ (call (Value.builtin "any") _ _) _ _ _)); (fail_if_success (with_reducible show wpAny _ _ (call (Value.builtin "all") _ _) _ _ _)); (fail_if_success (with_reducible show wpAny _ _ (call (Value.ref _) _ _) _ _ _));  (first | (k_unfold; (try dsimp only)) | walk1 | (dsimp only; walk1) | (leave1; walk_say "STEP leave1"; try dsimp only) | fail "no step")))
  refine ⟨F7, N7, ?_, comp_list rfl (N7.isList (a := D) (by k_mem)) (paired_ints iD2), (by rw [List.length_map, hlen]; exact Nat.le_trans (by omega : _ ≤ 100) (Nat.le_of_ble_eq_true rfl)), ?_⟩
  · rintro C a v s₃ m₃ E' ha ⟨u, rfl⟩ F8 hx
    have KX := KX.keeps F7.keep
    have T := T.keeps F7.keep
    obtain ⟨d, hd, rfl⟩ := List.mem_map.mp ha
    have hd32 := b32 d hd
    (repeat' ((fail_if_success (with_reducible show Fr _ _ _ _ ∧ _)); (fail_if_success (with_reducible show wpAny _ _ (exec (Stmt.For _ _ _ _ _) _) _ _ _)); (fail_if_success (with_reducible show wpAny _ _ (eval (Expr.ListComp _ _ _ _) _) _ _ _)); (fail_if_success (with_reducible show wpAny _ _ (exec (Stmt.Assign [_] (Expr.ListComp _ _ _ _) _) _) _ _ _)); (fail_if_success (with_reducible show wpAny _ _ (eval (Expr.GeneratorExp _ _ _ _) _) _ _ _)); (fail_if_success (with_reducible show wpAny _ _ (call (Value.builtin "any") _ _) _ _ _)); (fail_if_success (with_reducible show wpAny _ _ (call (Value.builtin "all") _ _) _ _ _)); (fail_if_success (with_reducible show wpAny _ _ (call (Value.ref _) _ _) _ _ _));  (first | (k_unfold; (try dsimp only)) | walk1 | (dsimp only; walk1) | (leave1; walk_say "STEP leave1"; try dsimp only) | fail "no step")))
    refine item_str (small_fits d (by omega)) (Int.le_trans (by decide) (Int.natCast_nonneg d)) (by show (d : Int) < 32; omega) (fun _ => ?_)
    exact ⟨⟨_, by rw [chs_item d hd32]; rfl⟩, _, _, rfl, fun _ _ e => e⟩
  · intro B n h8 tk8 ys F8 N8 hys hkeep hB
    obtain ⟨l8, hy, hl8⟩ := strs_of_paired (f := fun a : Int => ch a.toNat) hys
    dsimp only at F8 N8 ⊢
    clear F7 N7
    (repeat' ((fail_if_success (with_reducible show wpAny _ _ (setItem _ _ _) _ _ _)); (fail_if_success (with_reducible show wpAny _ _ (subscriptTail _ _ (Value.ref _) (Value.int _ _)) _ _ _)); (fail_if_success (with_reducible show wpAny _ _ (call (Value.builtin "list.append") _) _ _ _)); (fail_if_success (with_reducible show Fr _ _ _ _ ∧ _)); (fail_if_success (with_reducible show wpAny _ _ (exec (Stmt.For _ _ _ _ _) _) _ _ _)); (fail_if_success (with_reducible show wpAny _ _ (eval (Expr.ListComp _ _ _ _) _) _ _ _)); (fail_if_success (with_reducible show wpAny _ _ (exec (Stmt.Assign [_] (Expr.ListComp _ _ _ _) _) _) _ _ _)); (fail_if_success (with_reducible show wpAny _ _ (eval (Expr.GeneratorExp _ _ _ _) _) _ _ _)); (fail_if_success (with_reducible show wpAny _ _ (call (Value.builtin "any") _ _) _ _ _)); (fail_if_success (with_reducible show wpAny _ _ (call (Value.builtin "all") _ _) _ _ _)); (fail_if_success (with_reducible show wpAny _ _ (call (Value.ref _) _ _) _ _ _));  (first | (k_unfold; (try dsimp only)) | walk1 | (dsimp only; walk1) | (leave1; walk_say "STEP leave1"; try dsimp only) | fail "no step")))
    have hBl : h8.IsList B (strValues l8).toArray := by
      have := N8.isList (List.Mem.head _)
      rw [← hy, Array.toArray_toList]; exact this
    refine SC.join hBl hl8 (join_ok _ (by simp; omega)) ?_
    intro t9 k9
    rw [join_signs, nInts_ch]
    have hjl : ((rw0.set p i).map ch).length ≤ 100 := by rw [List.length_map]; omega
    refine PyProof.Rows.add_str (fun t10 tk10 => ?_) (Nat.le_trans (show (2 : Nat) + ((rw0.set p i).map ch).length ≤ 102 by omega) (Nat.le_of_ble_eq_true rfl))
    rw [show (⟨#[c]⟩ : Str) ++ PySem.Str.ofString "1" ++ ⟨((rw0.set p i).map ch).toArray⟩ = ⟨([c, 49] ++ (rw0.set p i).map ch).toArray⟩ from glue_row c _]
    (repeat' ((fail_if_success (with_reducible show wpAny _ _ (setItem _ _ _) _ _ _)); (fail_if_success (with_reducible show wpAny _ _ (subscriptTail _ _ (Value.ref _) (Value.int _ _)) _ _ _)); (fail_if_success (with_reducible show wpAny _ _ (call (Value.builtin "list.append") _) _ _ _)); (fail_if_success (with_reducible show wpAny _ _ (execs (Stmt.If _ _ _ _ :: _) _) _ _ _)); (fail_if_success (with_reducible show wpAny _ _ (compareOp CmpOp.NotEq _ _) _ _ _)); (fail_if_success (with_reducible show Fr _ _ _ _ ∧ _)); (fail_if_success (with_reducible show wpAny _ _ (exec (Stmt.For _ _ _ _ _) _) _ _ _)); (fail_if_success (with_reducible show wpAny _ _ (eval (Expr.ListComp _ _ _ _) _) _ _ _)); (fail_if_success (with_reducible show wpAny _ _ (exec (Stmt.Assign [_] (Expr.ListComp _ _ _ _) _) _) _ _ _)); (fail_if_success (with_reducible show wpAny _ _ (eval (Expr.GeneratorExp _ _ _ _) _) _ _ _)); (fail_if_success (with_reducible show wpAny _ _ (call (Value.builtin "any") _ _) _ _ _)); (fail_if_success (with_reducible show wpAny _ _ (call (Value.builtin "all") _ _) _ _ _)); (fail_if_success (with_reducible show wpAny _ _ (call (Value.ref _) _ _) _ _ _));  (first | (k_unfold; (try dsimp only)) | walk1 | (dsimp only; walk1) | (leave1; walk_say "STEP leave1"; try dsimp only) | fail "no step")))
    refine ne_same ?_
    (repeat' ((fail_if_success (with_reducible show wpAny _ _ (setItem _ _ _) _ _ _)); (fail_if_success (with_reducible show wpAny _ _ (subscriptTail _ _ (Value.ref _) (Value.int _ _)) _ _ _)); (fail_if_success (with_reducible show wpAny _ _ (call (Value.builtin "list.append") _) _ _ _)); (fail_if_success (with_reducible show Fr _ _ _ _ ∧ _)); (fail_if_success (with_reducible show wpAny _ _ (exec (Stmt.For _ _ _ _ _) _) _ _ _)); (fail_if_success (with_reducible show wpAny _ _ (eval (Expr.ListComp _ _ _ _) _) _ _ _)); (fail_if_success (with_reducible show wpAny _ _ (exec (Stmt.Assign [_] (Expr.ListComp _ _ _ _) _) _) _ _ _)); (fail_if_success (with_reducible show wpAny _ _ (eval (Expr.GeneratorExp _ _ _ _) _) _ _ _)); (fail_if_success (with_reducible show wpAny _ _ (call (Value.builtin "any") _ _) _ _ _)); (fail_if_success (with_reducible show wpAny _ _ (call (Value.builtin "all") _ _) _ _ _)); (fail_if_success (with_reducible show wpAny _ _ (call (Value.ref _) _ _) _ _ _));  (first | (k_unfold; (try dsimp only)) | walk1 | (dsimp only; walk1) | (leave1; walk_say "STEP leave1"; try dsimp only) | fail "no step")))
    refine item_list (N8.isList (a := X) (by k_mem)) (Int.natCast_nonneg i) (by show (i : Int) < _; omega) hti ?_
    (repeat' ((fail_if_success (with_reducible show wpAny _ _ (setItem _ _ _) _ _ _)); (fail_if_success (with_reducible show wpAny _ _ (subscriptTail _ _ (Value.ref _) (Value.int _ _)) _ _ _)); (fail_if_success (with_reducible show wpAny _ _ (call (Value.builtin "list.append") _) _ _ _)); (fail_if_success (with_reducible show wpAny _ _ (execs (Stmt.If _ _ _ _ :: _) _) _ _ _)); (fail_if_success (with_reducible show Fr _ _ _ _ ∧ _)); (fail_if_success (with_reducible show wpAny _ _ (exec (Stmt.For _ _ _ _ _) _) _ _ _)); (fail_if_success (with_reducible show wpAny _ _ (eval (Expr.ListComp _ _ _ _) _) _ _ _)); (fail_if_success (with_reducible show wpAny _ _ (exec (Stmt.Assign [_] (Expr.ListComp _ _ _ _) _) _) _ _ _)); (fail_if_success (with_reducible show wpAny _ _ (eval (Expr.GeneratorExp _ _ _ _) _) _ _ _)); (fail_if_success (with_reducible show wpAny _ _ (call (Value.builtin "any") _ _) _ _ _)); (fail_if_success (with_reducible show wpAny _ _ (call (Value.builtin "all") _ _) _ _ _)); (fail_if_success (with_reducible show wpAny _ _ (call (Value.ref _) _ _) _ _ _));  (first | (k_unfold; (try dsimp only)) | walk1 | (dsimp only; walk1) | (leave1; walk_say "STEP leave1"; try dsimp only) | fail "no step")))
    all_goals first
      | (exfalso
         rename ¬ (_ = _) => hne
         rw [hxl] at hne
         exact hne (by omega))
      | exact hcont _ _ ⟨F8, fun q hq => N8 q (.tail _ hq), Tn.S, ⟨_, hti⟩, iD2⟩
end Mine
end

section
open PySem PySem.W PySem.Calls PyProof.Rows
set_option Elab.async false
set_option maxRecDepth 100000
namespace Mine

local macro_rules | `(tactic| walk_at "eval Name") => `(tactic| ((with_reducible show wpAny _ _ (eval (Expr.Name _ _) (genEnv _ _ _ _ _ _)) _ _ _); k_dflt (first
  | (refine' gm_ld ?F ?x ?_ ?k ?l; (case k => exact rfl); (case l => exact rfl); (case F => k_asm); (case x => first | assumption | exact rfl); k_whole)
  | (refine' gm_K ?F ?X ?T ?e ?_ ?g ?k ?l; (case g => exact rfl); (case k => exact rfl); (case l => exact rfl); (case F => k_asm); (case X => k_asm); (case T => k_asm); (case e => k_is); k_whole)
  | (refine' gm_B ?F ?X ?T ?e ?v ?n ?_ ?g ?k ?l; (case g => exact rfl); (case k => exact rfl); (case l => exact rfl); (case F => k_asm); (case X => k_asm); (case T => k_asm); (case e => k_is); (case v => boot_fast); (case n => decide); k_whole))))
local macro_rules | `(tactic| walk_at "eval Name") => `(tactic| ((with_reducible show wpAny _ _ (eval (Expr.Name _ _) (compEnvC _ _ _ _)) _ _ _); k_dflt (first
  | (refine' cm_ld ?F ?x ?_ ?k ?l; (case F => k_asm); (case x => first | assumption | exact rfl); (case k => exact rfl); (case l => exact rfl); k_whole)
  | (refine' cm_cell ?F ?c ?v ?_ ?k ?l; (case k => exact rfl); (case l => exact rfl); (case F => k_asm); (case c => exact rfl); (case v => assumption); k_whole)
  | (refine' cm_K ?F ?X ?T ?e ?_ ?g ?k ?l; (case F => k_asm); (case X => k_asm); (case T => k_asm); (case g => exact rfl); (case k => exact rfl); (case l => exact rfl); (case e => k_is); k_whole)
  | (refine' cm_B ?F ?X ?T ?e ?v ?n ?_ ?g ?b ?k ?l; (case F => k_asm); (case X => k_asm); (case T => k_asm); (case g => exact rfl); (case b => exact rfl); (case k => exact rfl); (case l => exact rfl); (case e => k_is); (case v => boot_fast); (case n => decide); k_whole))))
local macro_rules | `(tactic| walk_at "binaryOp BitAnd int int") => `(tactic| (k_dflt (refine' and_nat ?h1 ?h2 ?_; (case h1 => exact rfl); (case h2 => exact rfl))))
local macro_rules | `(tactic| walk_at "binaryOp BitXor int int") => `(tactic| (k_dflt (refine' xor_nat ?h1 ?h2 ?_; (case h1 => exact rfl); (case h2 => exact rfl))))
local macro_rules | `(tactic| walk_at "inplaceOp BitXor int int") => `(tactic| (k_dflt (refine' ixor_nat ?h1 ?h2 ?_; (case h1 => exact rfl); (case h2 => exact rfl))))
local macro_rules | `(tactic| walk_at "binaryOp RShift int int") => `(tactic| (k_dflt (refine' shr_nat ?h1 ?h2 ?_; (case h1 => exact rfl); (case h2 => exact rfl))))
local macro_rules | `(tactic| walk_at "binaryOp LShift int int") => `(tactic| (k_dflt (refine' shl_nat ?h1 ?h2 ?h3 ?h4 ?_; (case h1 => exact rfl); (case h2 => exact rfl); (case h3 => decide); (case h4 => exact and25_lt _))))

theorem enc_dec {c : Nat} {ns : List Nat} (hc : 97 ≤ c ∧ c ≤ 122) (hn : ∀ n ∈ ns, n < 32) (hl : ns.length ≤ 4) : DecText (encN c ns) c (ns ++ csN c ns) :=
  raw_dec hc (fun n h => (List.mem_append.mp h).elim (hn n) (csN_lt c ns n)) (by rw [List.length_append]; have : (csN c ns).length = 6 := rfl; omega)
theorem strOk_one {c : Nat} (h : c < 1114112) : PyData.strOk ⟨#[c]⟩ = true := by simp [PyData.strOk, h]
theorem csN_len (c : Nat) (ns : List Nat) : (csN c ns).length = 6 := rfl

set_option maxHeartbeats 8000000 in
theorem law_turn3 {prog : Program} {w : World} {dp un : Nat} {fr : Option (List Env)} {gd : Option (List Code)} {s : Shared} {mg mb : Str → Option Value} {bm : Addr} {ob : Obj} {h₀ : Heap} {L l Tl D X I : Addr} {c : Nat} {t tk : Tok} {zn p i : Nat} {pt u0 : Tok} {os ok : Obj} {tv dv tx : List Value} {nd nX : Nat} {a0 a1 a2 : Int} {rw0 : List Nat} {ps : Array Value} {o0 : OsState} {Q' : Flow → Shared → Prop}
   (KX : (hd1.heap_39 w.params).In h₀) (T : TopRead hd1.view_39 (looseW hd1.view_39 []) mg mb h₀) (M : BMod h₀ mainGlobals mg bm ob) (hd : dp + 40 < recursionLimit) (hu : un + 200 < cLine) (hL45 : @LT.lt Nat _ 45 L) (hi : i < 32)
   (dz : os.data = .cell (some (.int (zn : Int) u0))) (iT : IntsAre tv [a0, a1, a2]) (d32 : ∀ n ∈ rw0, n < 32) (dlen : rw0.length = zn) (z4 : zn ≤ 4) (pz : p < zn)
   (ap : (@Ne Nat D Tl ∧ @Ne Nat D 45 ∧ @Ne Nat D (L + 3) ∧ @Ne Nat D (L + 1)) ∧ @Ne Nat X D ∧ @Ne Nat X Tl ∧ @Ne Nat X 45 ∧ @Ne Nat X (L + 3) ∧ @Ne Nat X (L + 1) ∧ @Ne Nat Tl 45 ∧ @Ne Nat Tl (L + 3) ∧ @Ne Nat Tl (L + 1))
   (aI : @Ne Nat I X ∧ @Ne Nat I D ∧ @Ne Nat I Tl ∧ @Ne Nat I 45 ∧ @Ne Nat I (L + 3) ∧ @Ne Nat I (L + 1))
   (Tn : Turn h₀ s.heap L l Tl D X I c t tk p i pt os ok tv tx dv nX nd rw0 ps)
   (hc : 97 ≤ c ∧ c ≤ 122) (htr : PySem.TriplesOk ps.toList) (hg : AllBare s.gens) (hos : s.os = o0)
   (hcont : ∀ s', JC h₀ L l Tl D X I c t p pt os ok tv rw0 o0 (i + 1) s' → Q' .next s') :
   wpAny (model prog w) ((At dp un fr gd).deeper (lawEnv L)) (execs ((bodyAt 7).drop 3) (lawEnv L)) Q' (fun _ _ => False) s := by
  unfold lawEnv
  generalize hsc : scopeOf lawStmt = sc
  conv at hsc => lhs; whnf
  subst hsc
  generalize hbd : List.drop 3 (bodyAt 7) = bd
  conv at hbd => lhs; whnf
  subst hbd
  obtain ⟨⟨p1, p2, p3, p4⟩, p5, p6, p7, p8, p9, p10, p11, p12⟩ := ap
  obtain ⟨q1, q2, q3, q4, q5, q6⟩ := aI
  have F5 := Tn.F
  have N5 := Tn.N
  obtain ⟨t4, hti⟩ := Tn.it
  have iD2 := Tn.D
  have b32 : ∀ n ∈ rw0.set p i, n < 32 := fun n hn => by
    rcases List.mem_or_eq_of_mem_set hn with h | rfl
    · exact d32 n h
    · exact hi
  have hlen : (rw0.set p i).length = zn := by rw [List.length_set, dlen]
  (repeat' ((fail_if_success (with_reducible show Fr _ _ _ _ ∧ _)); (fail_if_success (with_reducible show wpAny _ _ (exec (Stmt.For _ _ _ _ _) _) _ _ _)); (fail_if_success (with_reducible show wpAny _ _ (eval (Expr.ListComp _ _ _ _) _) _ _ _)); (fail_if_success (with_reducible show wpAny _ _ (exec (Stmt.Assign [_] (Expr.ListComp _ _ _ _) _) _) _ _ _)); (fail_if_success (with_reducible show wpAny _ _ (eval (Expr.GeneratorExp _ _ _ _) _) _ _ _)); (fail_if_success (with_reducible show wpAny _ _ (call (Value.builtin "any") _ _) _ _ _)); (fail_if_success (with_reducible show wpAny _ _ (call (Value.builtin "all") _ _) _ _ _)); (fail_if_success (with_reducible show wpAny _ _ (call (Value.ref _) _ _) _ _ _));  (first | (k_unfold; (try dsimp only)) | walk1 | (dsimp only; walk1) | (leave1; walk_say "STEP leave1"; try dsimp only) | fail "no step")))
  · rename Fr _ _ _ _ => F6
    rename News _ _ _ _ => N6
    refine item_list (N6.isList (a := X) (by k_mem)) (Int.natCast_nonneg i) (by show (i : Int) < _; omega) hti ?_
    (repeat' ((fail_if_success (with_reducible show Fr _ _ _ _ ∧ _)); (fail_if_success (with_reducible show wpAny _ _ (exec (Stmt.For _ _ _ _ _) _) _ _ _)); (fail_if_success (with_reducible show wpAny _ _ (eval (Expr.ListComp _ _ _ _) _) _ _ _)); (fail_if_success (with_reducible show wpAny _ _ (exec (Stmt.Assign [_] (Expr.ListComp _ _ _ _) _) _) _ _ _)); (fail_if_success (with_reducible show wpAny _ _ (eval (Expr.GeneratorExp _ _ _ _) _) _ _ _)); (fail_if_success (with_reducible show wpAny _ _ (call (Value.builtin "any") _ _) _ _ _)); (fail_if_success (with_reducible show wpAny _ _ (call (Value.builtin "all") _ _) _ _ _)); (fail_if_success (with_reducible show wpAny _ _ (call (Value.ref _) _ _) _ _ _));  (first | (k_unfold; (try dsimp only)) | walk1 | (dsimp only; walk1) | (leave1; walk_say "STEP leave1"; try dsimp only) | fail "no step")))
    rename Fr _ _ _ _ => F7
    rename News _ _ _ _ => N7
    have h45 : h₀.get? 45 = none := (N7 (45, tabO ps) (by k_mem)).2.2
    refine decode_c (dp := dp + 1) (un := un + 3) (c := c) (ds := rw0.set p i ++ csN c (rw0.set p i)) ⟨KX.keeps F7.keep, T.keeps F7.keep⟩ (M.keeps F7.keep) (N7.get (by k_mem)) htr hg (by omega) (by omega) (enc_dec hc b32 (by omega)) (by rw [List.length_append, csN_len]; omega) (by rw [List.length_append, csN_len]; omega) (fun n hn => (List.mem_append.mp hn).elim (b32 n) (csN_lt c _ n)) ?_
    intro v s' Af hres
    unfold DecRes at hres
    rw [if_pos (pm_enc c _ (by omega) b32)] at hres
    obtain ⟨r, l2, t5, vs5, n5, rfl, hr, hl2, hi5, hr0, hl0⟩ := hres
    rw [List.length_append, csN_len, Nat.add_sub_cancel, List.take_left] at hi5
    have F8 := fr_same F7 h45 (Nat.ne_of_lt hL45) Af.keep
    obtain ⟨more, hP8, htr8⟩ := Af.tab
    have N8 : News h₀ L s'.heap [(I, riO (i + 1) 32), (X, W.listOf tx.toArray nX), (D, W.listOf dv.toArray nd), (Tl, W.listOf tv.toArray 0), (45, tabO (ps ++ more)), (L + 3, ok), (L + 1, os)] := by
      intro q hq
      simp only [List.mem_cons, List.not_mem_nil, or_false] at hq
      rcases hq with rfl | rfl | rfl | rfl | rfl | rfl | rfl
      · exact ⟨Af.keep _ _ q4 (N7.get (by k_mem)), (N7 (I, riO (i + 1) 32) (by k_mem)).2⟩
      · exact ⟨Af.keep _ _ p7 (N7.get (by k_mem)), (N7 (X, W.listOf tx.toArray nX) (by k_mem)).2⟩
      · exact ⟨Af.keep _ _ p2 (N7.get (by k_mem)), (N7 (D, W.listOf dv.toArray nd) (by k_mem)).2⟩
      · exact ⟨Af.keep _ _ p10 (N7.get (by k_mem)), (N7 (Tl, W.listOf tv.toArray 0) (by k_mem)).2⟩
      · exact ⟨hP8, (N7 (45, tabO ps) (by k_mem)).2⟩
      · exact ⟨Af.keep _ _ (Nat.ne_of_gt (Nat.lt_of_lt_of_le hL45 (Nat.le_add_right _ _))) (N7.get (by k_mem)), (N7 (L + 3, ok) (by k_mem)).2⟩
      · exact ⟨Af.keep _ _ (Nat.ne_of_gt (Nat.lt_of_lt_of_le hL45 (Nat.le_add_right _ _))) (N7.get (by k_mem)), (N7 (L + 1, os) (by k_mem)).2⟩
    have N9 := news_new F7 hr0 hr (news_new F7 hl0 hl2 N8)
    have hg8 := Af.bare
    have ho8 : s'.os = o0 := Af.os.trans hos
    clear F7 N7 N8
    (repeat' ((fail_if_success (with_reducible show wpAny _ _ (setItem _ _ _) _ _ _)); (fail_if_success (with_reducible show wpAny _ _ (subscriptTail _ _ (Value.ref _) (Value.int _ _)) _ _ _)); (fail_if_success (with_reducible show wpAny _ _ (call (Value.builtin "list.append") _) _ _ _)); (fail_if_success (with_reducible show wpAny _ _ (execs (Stmt.If _ _ _ _ :: _) _) _ _ _)); (fail_if_success (with_reducible show wpAny _ _ (compareOp CmpOp.NotEq _ _) _ _ _)); (fail_if_success (with_reducible show Fr _ _ _ _ ∧ _)); (fail_if_success (with_reducible show wpAny _ _ (exec (Stmt.For _ _ _ _ _) _) _ _ _)); (fail_if_success (with_reducible show wpAny _ _ (eval (Expr.ListComp _ _ _ _) _) _ _ _)); (fail_if_success (with_reducible show wpAny _ _ (exec (Stmt.Assign [_] (Expr.ListComp _ _ _ _) _) _) _ _ _)); (fail_if_success (with_reducible show wpAny _ _ (eval (Expr.GeneratorExp _ _ _ _) _) _ _ _)); (fail_if_success (with_reducible show wpAny _ _ (call (Value.builtin "any") _ _) _ _ _)); (fail_if_success (with_reducible show wpAny _ _ (call (Value.builtin "all") _ _) _ _ _)); (fail_if_success (with_reducible show wpAny _ _ (call (Value.ref _) _ _) _ _ _));  (first | (k_unfold; (try dsimp only)) | walk1 | (dsimp only; walk1) | (leave1; walk_say "STEP leave1"; try dsimp only) | fail "no step")))
    rename Fr _ _ _ _ => F10
    rename News _ _ _ _ => N10
    refine ne_tup (x := ⟨#[c]⟩) (ns := nInts (rw0.set p i)) (strOk_one (by omega)) (N10.get (a := r) (by k_mem)) (N10.get (.head _)) (N10.isList (a := l2) (by k_mem)) (N10.isList (a := D) (by k_mem)) hi5 iD2 (by show un + 3 + 64 < cLine; omega) ?_
    (repeat' ((fail_if_success (with_reducible show Fr _ _ _ _ ∧ _)); (fail_if_success (with_reducible show wpAny _ _ (exec (Stmt.For _ _ _ _ _) _) _ _ _)); (fail_if_success (with_reducible show wpAny _ _ (eval (Expr.ListComp _ _ _ _) _) _ _ _)); (fail_if_success (with_reducible show wpAny _ _ (exec (Stmt.Assign [_] (Expr.ListComp _ _ _ _) _) _) _ _ _)); (fail_if_success (with_reducible show wpAny _ _ (eval (Expr.GeneratorExp _ _ _ _) _) _ _ _)); (fail_if_success (with_reducible show wpAny _ _ (call (Value.builtin "any") _ _) _ _ _)); (fail_if_success (with_reducible show wpAny _ _ (call (Value.builtin "all") _ _) _ _ _)); (fail_if_success (with_reducible show wpAny _ _ (call (Value.ref _) _ _) _ _ _));  (first | (k_unfold; (try dsimp only)) | walk1 | (dsimp only; walk1) | (leave1; walk_say "STEP leave1"; try dsimp only) | fail "no step")))
    refine hcont _ ⟨_, tx, nX, dv, nd, ps ++ more, rw0.set p i, F10, fun q hq => N10 q (.tail _ (.tail _ (.tail _ hq))), Tn.S, iD2, ⟨by rw [List.length_set], fun j => List.set_set ..⟩, htr8, hg8, ho8⟩
  · rename Fr _ _ _ _ => F6
    rename News _ _ _ _ => N6
    exact hcont _ ⟨_, tx, nX, dv, nd, ps, rw0.set p i, F6, fun q hq => N6 q (.tail _ hq), Tn.S, iD2, ⟨by rw [List.length_set], fun j => List.set_set ..⟩, htr, hg, hos⟩
end Mine
end

section
open PySem PySem.W PySem.Calls PyProof.Rows
set_option Elab.async false
set_option maxRecDepth 100000
namespace Mine

local macro_rules | `(tactic| walk_at "eval Name") => `(tactic| ((with_reducible show wpAny _ _ (eval (Expr.Name _ _) (genEnv _ _ _ _ _ _)) _ _ _); k_dflt (first
  | (refine' gm_ld ?F ?x ?_ ?k ?l; (case k => exact rfl); (case l => exact rfl); (case F => k_asm); (case x => first | assumption | exact rfl); k_whole)
  | (refine' gm_K ?F ?X ?T ?e ?_ ?g ?k ?l; (case g => exact rfl); (case k => exact rfl); (case l => exact rfl); (case F => k_asm); (case X => k_asm); (case T => k_asm); (case e => k_is); k_whole)
  | (refine' gm_B ?F ?X ?T ?e ?v ?n ?_ ?g ?k ?l; (case g => exact rfl); (case k => exact rfl); (case l => exact rfl); (case F => k_asm); (case X => k_asm); (case T => k_asm); (case e => k_is); (case v => boot_fast); (case n => decide); k_whole))))
local macro_rules | `(tactic| walk_at "eval Name") => `(tactic| ((with_reducible show wpAny _ _ (eval (Expr.Name _ _) (compEnvC _ _ _ _)) _ _ _); k_dflt (first
  | (refine' cm_ld ?F ?x ?_ ?k ?l; (case F => k_asm); (case x => first | assumption | exact rfl); (case k => exact rfl); (case l => exact rfl); k_whole)
  | (refine' cm_cell ?F ?c ?v ?_ ?k ?l; (case k => exact rfl); (case l => exact rfl); (case F => k_asm); (case c => exact rfl); (case v => assumption); k_whole)
  | (refine' cm_K ?F ?X ?T ?e ?_ ?g ?k ?l; (case F => k_asm); (case X => k_asm); (case T => k_asm); (case g => exact rfl); (case k => exact rfl); (case l => exact rfl); (case e => k_is); k_whole)
  | (refine' cm_B ?F ?X ?T ?e ?v ?n ?_ ?g ?b ?k ?l; (case F => k_asm); (case X => k_asm); (case T => k_asm); (case g => exact rfl); (case b => exact rfl); (case k => exact rfl); (case l => exact rfl); (case e => k_is); (case v => boot_fast); (case n => decide); k_whole))))
local macro_rules | `(tactic| walk_at "binaryOp BitAnd int int") => `(tactic| (k_dflt (refine' and_nat ?h1 ?h2 ?_; (case h1 => exact rfl); (case h2 => exact rfl))))
local macro_rules | `(tactic| walk_at "binaryOp BitXor int int") => `(tactic| (k_dflt (refine' xor_nat ?h1 ?h2 ?_; (case h1 => exact rfl); (case h2 => exact rfl))))
local macro_rules | `(tactic| walk_at "inplaceOp BitXor int int") => `(tactic| (k_dflt (refine' ixor_nat ?h1 ?h2 ?_; (case h1 => exact rfl); (case h2 => exact rfl))))
local macro_rules | `(tactic| walk_at "binaryOp RShift int int") => `(tactic| (k_dflt (refine' shr_nat ?h1 ?h2 ?_; (case h1 => exact rfl); (case h2 => exact rfl))))
local macro_rules | `(tactic| walk_at "binaryOp LShift int int") => `(tactic| (k_dflt (refine' shl_nat ?h1 ?h2 ?h3 ?h4 ?_; (case h1 => exact rfl); (case h2 => exact rfl); (case h3 => decide); (case h4 => exact and25_lt _))))

/-- the state after the thirty-two turns -/
def JD (h₀ : Heap) (L l Tl D X : Addr) (c : Nat) (t : Tok) (p : Nat) (pt : Tok) (os ok : Obj) (tv : List Value) (rw0 : List Nat) (o0 : OsState) (s : Shared) : Prop :=
  ∃ nv tx nX dv nd ps rw, Fr h₀ L s.heap (m7 l Tl c t D X p pt nv) ∧ News h₀ L s.heap [(X, W.listOf tx.toArray nX), (D, W.listOf dv.toArray nd), (Tl, W.listOf tv.toArray 0), (45, tabO ps), (L + 3, ok), (L + 1, os)] ∧
    StrsAre tx ((List.range 32).map fun j => encN c (rw0.set p j)) ∧ IntsAre dv (nInts rw) ∧ PySem.TriplesOk ps.toList ∧ AllBare s.gens ∧ s.os = o0
theorem new_apart {h₀ h : Heap} {L I : Addr} {news : List (Addr × Obj)} (N : News h₀ L h news) (hI : h.objs.size ≤ I) : ∀ q ∈ news, @Ne Nat I q.1 := fun q hq e => by
  have := Heap.lt_size (N q hq).1
  exact absurd (Nat.lt_of_le_of_lt hI (e ▸ this)) (Nat.lt_irrefl _)
theorem loop_start {h₀ h : Heap} {L l Tl D X : Addr} {c : Nat} {t : Tok} {zn p : Nat} {pt : Tok} {os ok : Obj} {tv dv : List Value} {nd : Nat} {a0 a1 a2 : Int} {rw0 : List Nat} (s : Shared) (Mi : Mid7 h₀ h L l Tl D X c t zn p pt os ok tv dv nd a0 a1 a2 rw0) (hg : AllBare s.gens) :
    JC h₀ L l Tl D X h.objs.size c t p pt os ok tv rw0 s.os 0 { s with heap := h.push (riO 0 32) } := by
  have N := Mi.N
  have F := Mi.F
  refine ⟨none, [], 0, dv, nd, #[], rw0, F.keeps fun b o e => Heap.get?_push_of_some _ e, ?_, .nil, Mi.di, ⟨rfl, fun _ => rfl⟩, (show PySem.TriplesOk [] from trivial), hg, rfl⟩
  have hI0 : h₀.get? h.objs.size = none := by
    cases e : h₀.get? h.objs.size with
    | none => rfl
    | some o => exact absurd (Heap.lt_size (F.keep _ _ e)) (Nat.lt_irrefl _)
  intro q hq
  rcases List.mem_cons.mp hq with rfl | hq
  · exact ⟨Heap.get?_push_size _ rfl, (Nat.ne_of_gt F.ns.lt), hI0⟩
  · exact ⟨Heap.get?_push_of_some _ (N q hq).1, (N q hq).2⟩
set_option maxHeartbeats 8000000 in
theorem law_C {prog : Program} {w : World} {dp un : Nat} {fr : Option (List Env)} {gd : Option (List Code)} {s : Shared} {mg mb : Str → Option Value} {bm : Addr} {ob : Obj} {h₀ : Heap} {L l Tl D X : Addr} {c : Nat} {t : Tok} {zn p : Nat} {pt : Tok} {os ok : Obj} {tv dv : List Value} {nd : Nat} {a0 a1 a2 : Int} {rw0 : List Nat} {Q' : Flow → Shared → Prop}
   (KX : (hd1.heap_39 w.params).In h₀) (T : TopRead hd1.view_39 (looseW hd1.view_39 []) mg mb h₀) (M : BMod h₀ mainGlobals mg bm ob) (hd : dp + 40 < recursionLimit) (hu : un + 200 < cLine) (hL45 : @LT.lt Nat _ 45 L)
   (hg0 : AllBare s.gens) (Mi : Mid7 h₀ s.heap L l Tl D X c t zn p pt os ok tv dv nd a0 a1 a2 rw0)
   (hcont : ∀ s', JD h₀ L l Tl D X c t p pt os ok tv rw0 s.os s' → wpAny (model prog w) ((At dp un fr gd).deeper (lawEnv L)) (execs (lawRest 8) (lawEnv L)) Q' (fun _ _ => False) s') :
   wpAny (model prog w) ((At dp un fr gd).deeper (lawEnv L)) (execs (lawRest 7) (lawEnv L)) Q' (fun _ _ => False) s := by
  unfold lawEnv lawRest
  generalize hsc : scopeOf lawStmt = sc
  conv at hsc => lhs; whnf
  subst hsc
  generalize hbd : List.drop 7 (bodyOf lawStmt) = bd
  conv at hbd => lhs; whnf
  subst hbd
  have F0 := Mi.F
  have N0 := Mi.N
  obtain ⟨u0, dz⟩ := Mi.size
  have dk := Mi.kc
  have iT := Mi.ti
  have iD := Mi.di
  have d32 := Mi.d32
  have dlen := Mi.dlen
  have z4 := Mi.z4
  have pz := Mi.pz
  have hcb : 97 ≤ c ∧ c ≤ 122 := by
    rw [Mi.cb]
    have h1 := Int.fmod_nonneg_of_pos a0 (show (0:Int) < 26 by decide)
    have h2 := Int.fmod_lt_of_pos a0 (show (0:Int) < 26 by decide)
    omega
  (repeat' ((fail_if_success (with_reducible show Fr _ _ _ _ ∧ _)); (fail_if_success (with_reducible show wpAny _ _ (exec (Stmt.For _ _ _ _ _) _) _ _ _)); (fail_if_success (with_reducible show wpAny _ _ (eval (Expr.ListComp _ _ _ _) _) _ _ _)); (fail_if_success (with_reducible show wpAny _ _ (exec (Stmt.Assign [_] (Expr.ListComp _ _ _ _) _) _) _ _ _)); (fail_if_success (with_reducible show wpAny _ _ (eval (Expr.GeneratorExp _ _ _ _) _) _ _ _)); (fail_if_success (with_reducible show wpAny _ _ (call (Value.builtin "any") _ _) _ _ _)); (fail_if_success (with_reducible show wpAny _ _ (call (Value.builtin "all") _ _) _ _ _)); (fail_if_success (with_reducible show wpAny _ _ (call (Value.ref _) _ _) _ _ _));  (first | (k_unfold; (try dsimp only)) | walk1 | (dsimp only; walk1) | (leave1; walk_say "STEP leave1"; try dsimp only) | fail "no step")))
  refine for_range F0 rfl 32 (.inr rfl) ?_
  (repeat' ((fail_if_success (with_reducible show Fr _ _ _ _ ∧ _)); (fail_if_success (with_reducible show wpAny _ _ (exec (Stmt.For _ _ _ _ _) _) _ _ _)); (fail_if_success (with_reducible show wpAny _ _ (eval (Expr.ListComp _ _ _ _) _) _ _ _)); (fail_if_success (with_reducible show wpAny _ _ (exec (Stmt.Assign [_] (Expr.ListComp _ _ _ _) _) _) _ _ _)); (fail_if_success (with_reducible show wpAny _ _ (eval (Expr.GeneratorExp _ _ _ _) _) _ _ _)); (fail_if_success (with_reducible show wpAny _ _ (call (Value.builtin "any") _ _) _ _ _)); (fail_if_success (with_reducible show wpAny _ _ (call (Value.builtin "all") _ _) _ _ _)); (fail_if_success (with_reducible show wpAny _ _ (call (Value.ref _) _ _) _ _ _));  (first | (k_unfold; (try dsimp only)) | walk1 | (dsimp only; walk1) | (leave1; walk_say "STEP leave1"; try dsimp only) | fail "no step")))
  rename IsRange _ _ _ _ _ _ _ _ => R6
  rename Fr _ _ _ _ => F6
  rename News _ _ _ _ => N6
  refine ⟨F6, _, _, _, _, rfl, R6, ?_⟩
  have Mi6 : Mid7 h₀ _ L l Tl D X c t zn p pt os ok tv dv nd a0 a1 a2 rw0 := ⟨F6, N6, ⟨_, dz⟩, dk, iT, iD, d32, dlen, z4, pz, Mi.cb, Mi.apart⟩
  have aI := new_apart N6 (Nat.le_refl _)
  have aX := aI (X, W.listOf #[] 0) (by k_mem)
  have aD := aI (D, W.listOf dv.toArray nd) (by k_mem)
  have a45 := aI (45, tabO #[]) (by k_mem)
  have hL45' : @Ne Nat 45 L := Nat.ne_of_lt hL45
  refine ⟨JC h₀ L l Tl D X _ c t p pt os ok tv rw0 s.os, loop_start _ Mi6 hg0, ?_, ?_, ?_⟩
  · rintro i s' ⟨nv, tx, nX, dv, nd, ps, rw, F, N, _⟩
    exact N.get (.head _)
  · rintro i s' h' tk hi ⟨nv, tx, nX, dv, nd, ps, rw, F, N, hS, iD, hrw, htr, hg, hos⟩ hit hsb
    have hne : ∀ q ∈ [(X, W.listOf tx.toArray nX), (D, W.listOf dv.toArray nd), (Tl, W.listOf tv.toArray 0), (45, tabO ps), (L + 3, ok), (L + 1, os)], q.1 ≠ _ := fun q hq => by
      simp only [List.mem_cons, List.not_mem_nil, or_false] at hq
      rcases hq with rfl | rfl | rfl | rfl | rfl | rfl
      · exact aX.symm
      · exact aD.symm
      · exact (aI (Tl, _) (by k_mem)).symm
      · exact a45.symm
      · exact (aI (L + 3, _) (by k_mem)).symm
      · exact (aI (L + 1, _) (by k_mem)).symm
    have hI := N _ (.head _)
    have F2 := fr_same F hI.2.2 hI.2.1 hsb.extBut
    have N2 := news_same N hne hsb.extBut hit
    refine wpAny_assign_Name (wpAny_storeName_local rfl F2.ns (fun h3 hn3 hs3 => ?_) rfl)
    rw [m7_num] at hn3
    have hLk : ∀ b o, h₀.get? b = some o → b ≠ L := fun b o e hb => by
      have := Heap.lt_size e
      rw [hb] at this
      exact absurd (Nat.lt_of_lt_of_le this F2.above) (Nat.lt_irrefl _)
    have F3 : Fr h₀ L h3 (m7 l Tl c t D X p pt (some (.int (Int.ofNat i) tk))) := ⟨hn3, fun b o e => hs3.extBut b o (hLk b o e) (F2.keep b o e), F2.above⟩
    have N3 : News h₀ L h3 _ := fun q hq => ⟨hs3.extBut _ _ (N2 q hq).2.1 (N2 q hq).1, (N2 q hq).2⟩
    have aI' : @Ne Nat _ X ∧ @Ne Nat _ D ∧ @Ne Nat _ Tl ∧ @Ne Nat _ 45 ∧ @Ne Nat _ (L + 3) ∧ @Ne Nat _ (L + 1) := ⟨aX, aD, aI (Tl, _) (by k_mem), a45, aI (L + 3, _) (by k_mem), aI (L + 1, _) (by k_mem)⟩
    refine law_turn1 (o0 := s.os) (dp := dp) (un := un) (i := i) (tk := tk) (zn := zn) (u0 := u0) (a0 := a0) (a1 := a1) (a2 := a2) KX T M hd hu hL45 hi dz iT d32 dlen z4 pz Mi.apart aI' F3 N3 hS iD hrw htr hg hos ?_
    intro h4 tk4 tx4 nX4 dv4 Tn4
    refine law_turn2 (o0 := s.os) (dp := dp) (un := un) (i := i) (tk := tk) (zn := zn) (u0 := u0) (a0 := a0) (a1 := a1) (a2 := a2) KX T M hd hu hL45 hi dz iT d32 dlen z4 pz Mi.apart aI' Tn4 ?_
    intro h5 tk5 Tn5
    refine law_turn3 (o0 := s.os) (dp := dp) (un := un) (i := i) (tk := tk) (zn := zn) (u0 := u0) (a0 := a0) (a1 := a1) (a2 := a2) KX T M hd hu hL45 hi dz iT d32 dlen z4 pz Mi.apart aI' Tn5 hcb htr hg hos ?_
    exact fun s6 J6 => J6
  · rintro s' h' ⟨nv, tx, nX, dv, nd, ps, rw, F, N, hS, iD, hrw, htr, hg, hos⟩ hx
    have hI := N _ (.head _)
    refine hcont _ ⟨nv, tx, nX, dv, nd, ps, rw, fr_same F hI.2.2 hI.2.1 hx, ?_, hS, iD, htr, hg, hos⟩
    intro q hq
    refine ⟨hx _ _ ?_ (N q (.tail _ hq)).1, (N q (.tail _ hq)).2⟩
    simp only [List.mem_cons, List.not_mem_nil, or_false] at hq
    rcases hq with rfl | rfl | rfl | rfl | rfl | rfl
    · exact aX.symm
    · exact aD.symm
    · exact (aI (Tl, _) (by k_mem)).symm
    · exact a45.symm
    · exact (aI (L + 3, _) (by k_mem)).symm
    · exact (aI (L + 1, _) (by k_mem)).symm
end Mine
end

section
open PySem PySem.W PySem.Calls PyProof.Rows
set_option Elab.async false
set_option maxRecDepth 100000
namespace Mine

local macro_rules | `(tactic| walk_at "eval Name") => `(tactic| ((with_reducible show wpAny _ _ (eval (Expr.Name _ _) (genEnv _ _ _ _ _ _)) _ _ _); k_dflt (first
  | (refine' gm_ld ?F ?x ?_ ?k ?l; (case k => exact rfl); (case l => exact rfl); (case F => k_asm); (case x => first | assumption | exact rfl); k_whole)
  | (refine' gm_K ?F ?X ?T ?e ?_ ?g ?k ?l; (case g => exact rfl); (case k => exact rfl); (case l => exact rfl); (case F => k_asm); (case X => k_asm); (case T => k_asm); (case e => k_is); k_whole)
  | (refine' gm_B ?F ?X ?T ?e ?v ?n ?_ ?g ?k ?l; (case g => exact rfl); (case k => exact rfl); (case l => exact rfl); (case F => k_asm); (case X => k_asm); (case T => k_asm); (case e => k_is); (case v => boot_fast); (case n => decide); k_whole))))
local macro_rules | `(tactic| walk_at "eval Name") => `(tactic| ((with_reducible show wpAny _ _ (eval (Expr.Name _ _) (compEnvC _ _ _ _)) _ _ _); k_dflt (first
  | (refine' cm_ld ?F ?x ?_ ?k ?l; (case F => k_asm); (case x => first | assumption | exact rfl); (case k => exact rfl); (case l => exact rfl); k_whole)
  | (refine' cm_cell ?F ?c ?v ?_ ?k ?l; (case k => exact rfl); (case l => exact rfl); (case F => k_asm); (case c => exact rfl); (case v => assumption); k_whole)
  | (refine' cm_K ?F ?X ?T ?e ?_ ?g ?k ?l; (case F => k_asm); (case X => k_asm); (case T => k_asm); (case g => exact rfl); (case k => exact rfl); (case l => exact rfl); (case e => k_is); k_whole)
  | (refine' cm_B ?F ?X ?T ?e ?v ?n ?_ ?g ?b ?k ?l; (case F => k_asm); (case X => k_asm); (case T => k_asm); (case g => exact rfl); (case b => exact rfl); (case k => exact rfl); (case l => exact rfl); (case e => k_is); (case v => boot_fast); (case n => decide); k_whole))))
local macro_rules | `(tactic| walk_at "binaryOp BitAnd int int") => `(tactic| (k_dflt (refine' and_nat ?h1 ?h2 ?_; (case h1 => exact rfl); (case h2 => exact rfl))))
local macro_rules | `(tactic| walk_at "binaryOp BitXor int int") => `(tactic| (k_dflt (refine' xor_nat ?h1 ?h2 ?_; (case h1 => exact rfl); (case h2 => exact rfl))))
local macro_rules | `(tactic| walk_at "inplaceOp BitXor int int") => `(tactic| (k_dflt (refine' ixor_nat ?h1 ?h2 ?_; (case h1 => exact rfl); (case h2 => exact rfl))))
local macro_rules | `(tactic| walk_at "binaryOp RShift int int") => `(tactic| (k_dflt (refine' shr_nat ?h1 ?h2 ?_; (case h1 => exact rfl); (case h2 => exact rfl))))
local macro_rules | `(tactic| walk_at "binaryOp LShift int int") => `(tactic| (k_dflt (refine' shl_nat ?h1 ?h2 ?h3 ?h4 ?_; (case h1 => exact rfl); (case h2 => exact rfl); (case h3 => decide); (case h4 => exact and25_lt _))))

def StrRel (v : Value) (a : Str) : Prop := ∃ u, v = .str a u
theorem strRel_inj (v : Value) (a b : Str) (h1 : StrRel v a) (h2 : StrRel v b) : a = b := by
  obtain ⟨_, rfl⟩ := h1
  obtain ⟨_, e⟩ := h2
  injection e
theorem texts_of {f : Str → Str} : ∀ {as : List Str} {ys : List Value}, Paired (fun a y => ∃ t, y = Value.str (f a) t) as ys → StrsAre ys (as.map f) := by
  intro as ys h
  induction h with
  | nil => exact .nil
  | cons h1 _ ih =>
    obtain ⟨t, rfl⟩ := h1
    exact .cons _ _ ih
theorem strs_paired : ∀ {vs : List Value} {ss : List Str}, StrsAre vs ss → Paired StrRel vs ss
  | _, _, .nil => .nil
  | _, _, .cons _ t r => .cons ⟨t, rfl⟩ (strs_paired r)
theorem enc_size (c : Nat) (ns : List Nat) : (encN c ns).length = 2 + (ns.length + 6) := by
  show (encL c ns).toArray.size = _
  rw [List.size_toArray, encL, List.length_append, List.length_map, List.length_append]
  rfl
theorem col_len (c : Nat) (rw0 : List Nat) (p : Nat) (k : Int) : (col c rw0 p k).length = 32 := by rw [col, List.length_map, List.length_range]
theorem col_ok : ∀ x ∈ (PySem.Str.ofString "qpzry9x8gf2tvdw0s3jn54khce6mua7l").cps.toList.map fun c => (⟨#[c]⟩ : Str), PyData.strOk x = true := by decide +kernel
theorem col_at {c : Nat} {rw0 : List Nat} {p i : Nat} (hi : i < 6) : ((List.range 32).map fun j => encN c (rw0.set p j)).map (fun a => Txt.item a (2 + (rw0.length : Int) + (i : Int))) = col c rw0 p (2 + (rw0.length : Int) + (i : Int)) := by
  rw [List.map_map]; rfl
set_option maxHeartbeats 8000000 in
theorem law_turnK {prog : Program} {w : World} {dp un : Nat} {fr : Option (List Env)} {gd : Option (List Code)} {s : Shared} {mg mb : Str → Option Value} {h₀ : Heap} {L l Tl D X I : Addr} {c : Nat} {t tk : Tok} {zn p i : Nat} {pt u0 : Tok} {os ok : Obj} {tv dv tx : List Value} {nd nX : Nat} {rw0 : List Nat} {ps : Array Value} {nv : Option Value} {Q' : Flow → Shared → Prop}
   (KX : (hd1.heap_39 w.params).In h₀) (T : TopRead hd1.view_39 (looseW hd1.view_39 []) mg mb h₀) (hd : dp + 40 < recursionLimit) (hu : un + 200 < cLine) (hi : i < 6) (hc : c < 128)
   (dz : os.data = .cell (some (.int (zn : Int) u0))) (dk : ok.data = .cell (some (.int (Int.ofNat i) tk))) (d32 : ∀ n ∈ rw0, n < 32) (dlen : rw0.length = zn) (z4 : zn ≤ 4) (pz : p < zn)
   (F0 : Fr h₀ L s.heap (m7 l Tl c t D X p pt nv)) (N0 : News h₀ L s.heap [(I, riO (i + 1) 6), (X, W.listOf tx.toArray nX), (D, W.listOf dv.toArray nd), (Tl, W.listOf tv.toArray 0), (45, tabO ps), (L + 3, ok), (L + 1, os)])
   (hS : StrsAre tx ((List.range 32).map fun j => encN c (rw0.set p j)))
   (hcont : ∀ s', Fr h₀ L s'.heap (m7 l Tl c t D X p pt nv) → News h₀ L s'.heap [(I, riO (i + 1) 6), (X, W.listOf tx.toArray nX), (D, W.listOf dv.toArray nd), (Tl, W.listOf tv.toArray 0), (45, tabO ps), (L + 3, ok), (L + 1, os)] → s'.gens = s.gens → s'.os = s.os → Q' .next s') :
   wpAny (model prog w) ((At dp un fr gd).deeper (lawEnv L)) (execs (bodyAt 8) (lawEnv L)) Q' (fun _ _ => False) s := by
  unfold lawEnv
  generalize hsc : scopeOf lawStmt = sc
  conv at hsc => lhs; whnf
  subst hsc
  generalize hbd : bodyAt 8 = bd
  conv at hbd => lhs; whnf
  subst hbd
  subst dlen
  (repeat' ((fail_if_success (with_reducible show Fr _ _ _ _ ∧ _)); (fail_if_success (with_reducible show wpAny _ _ (exec (Stmt.For _ _ _ _ _) _) _ _ _)); (fail_if_success (with_reducible show wpAny _ _ (eval (Expr.ListComp _ _ _ _) _) _ _ _)); (fail_if_success (with_reducible show wpAny _ _ (exec (Stmt.Assign [_] (Expr.ListComp _ _ _ _) _) _) _ _ _)); (fail_if_success (with_reducible show wpAny _ _ (eval (Expr.GeneratorExp _ _ _ _) _) _ _ _)); (fail_if_success (with_reducible show wpAny _ _ (call (Value.builtin "any") _ _) _ _ _)); (fail_if_success (with_reducible show wpAny _ _ (call (Value.builtin "all") _ _) _ _ _)); (fail_if_success (with_reducible show wpAny _ _ (call (Value.ref _) _ _) _ _ _));  (first | (k_unfold; (try dsimp only)) | walk1 | (dsimp only; walk1) | (leave1; walk_say "STEP leave1"; try dsimp only) | fail "no step")))
  refine comp_core (as := (List.range 32).map fun j => encN c (rw0.set p j)) (Rel := StrRel) (G := fun a y => ∃ t, y = .str (Txt.item a (2 + (rw0.length : Int) + (i : Int))) t) strRel_inj F0 N0 rfl (by decide) rfl (by decide) rfl ?_
  (repeat' ((fail_if_success (with_reducible show Fr _ _ _ _ ∧ _)); (fail_if_success (with_reducible show wpAny _ _ (exec (Stmt.For _ _ _ _ _) _) _ _ _)); (fail_if_success (with_reducible show wpAny _ _ (eval (Expr.ListComp _ _ _ _) _) _ _ _)); (fail_if_success (with_reducible show wpAny _ _ (exec (Stmt.Assign [_] (Expr.ListComp _ _ _ _) _) _) _ _ _)); (fail_if_success (with_reducible show wpAny _ _ (eval (Expr.GeneratorExp _ _ _ _) _) _ _ _)); (fail_if_success (with_reducible show wpAny _ _ (call (Value.builtin "any") _ _) _ _ _)); (fail_if_success (with_reducible show wpAny _ _ (call (Value.builtin "all") _ _) _ _ _)); (fail_if_success (with_reducible show wpAny _ _ (call (Value.ref _) _ _) _ _ _));  (first | (k_unfold; (try dsimp only)) | walk1 | (dsimp only; walk1) | (leave1; walk_say "STEP leave1"; try dsimp only) | fail "no step")))
  refine ⟨F0, N0, ?_, comp_list rfl (N0.isList (a := X) (by k_mem)) (strs_paired hS), (by rw [List.length_map, List.length_range]; exact Nat.le_of_ble_eq_true rfl), ?_⟩
  · rintro C a v s₃ m₃ E' ha ⟨u, rfl⟩ F8 hx
    have KX := KX.keeps F0.keep
    have T := T.keeps F0.keep
    have hcz := isCell_of N0 (c := L + 1) (by k_mem) dz
    have hck := isCell_of N0 (c := L + 3) (by k_mem) dk
    obtain ⟨j, hj, rfl⟩ := List.mem_map.mp ha
    have hln := enc_size c (rw0.set p j)
    rw [List.length_set] at hln
    (repeat' ((fail_if_success (with_reducible show Fr _ _ _ _ ∧ _)); (fail_if_success (with_reducible show wpAny _ _ (exec (Stmt.For _ _ _ _ _) _) _ _ _)); (fail_if_success (with_reducible show wpAny _ _ (eval (Expr.ListComp _ _ _ _) _) _ _ _)); (fail_if_success (with_reducible show wpAny _ _ (exec (Stmt.Assign [_] (Expr.ListComp _ _ _ _) _) _) _ _ _)); (fail_if_success (with_reducible show wpAny _ _ (eval (Expr.GeneratorExp _ _ _ _) _) _ _ _)); (fail_if_success (with_reducible show wpAny _ _ (call (Value.builtin "any") _ _) _ _ _)); (fail_if_success (with_reducible show wpAny _ _ (call (Value.builtin "all") _ _) _ _ _)); (fail_if_success (with_reducible show wpAny _ _ (call (Value.ref _) _ _) _ _ _));  (first | (k_unfold; (try dsimp only)) | walk1 | (dsimp only; walk1) | (leave1; walk_say "STEP leave1"; try dsimp only) | fail "no step")))
    have eik : (2 + (rw0.length : Int) + (i : Int)) = Int.ofNat (2 + rw0.length + i) := by simp only [Int.ofNat_eq_natCast]; omega
    refine item_str (by show fitsSsize (2 + (rw0.length : Int) + (i : Int)) = true; rw [eik]; exact small_fits _ (by omega)) (by show _ ≤ 2 + (rw0.length : Int) + (i : Int); omega) (by show 2 + (rw0.length : Int) + (i : Int) < _; rw [hln]; omega) (fun _ => ?_)
    exact ⟨⟨_, rfl⟩, _, _, rfl, fun _ _ e => e⟩
  · intro B n h8 tk8 ys F8 N8 hys hkeep hB
    obtain ⟨yv, rfl⟩ : ∃ yv : List Value, ys = yv.toArray := ⟨ys.toList, by simp⟩
    have hyS := texts_of (f := fun a => Txt.item a (2 + (rw0.length : Int) + (i : Int))) hys
    rw [col_at hi] at hyS
    try dsimp only at F8 N8 ⊢
    (repeat' ((fail_if_success (with_reducible show Fr _ _ _ _ ∧ _)); (fail_if_success (with_reducible show wpAny _ _ (exec (Stmt.For _ _ _ _ _) _) _ _ _)); (fail_if_success (with_reducible show wpAny _ _ (eval (Expr.ListComp _ _ _ _) _) _ _ _)); (fail_if_success (with_reducible show wpAny _ _ (exec (Stmt.Assign [_] (Expr.ListComp _ _ _ _) _) _) _ _ _)); (fail_if_success (with_reducible show wpAny _ _ (eval (Expr.GeneratorExp _ _ _ _) _) _ _ _)); (fail_if_success (with_reducible show wpAny _ _ (call (Value.builtin "any") _ _) _ _ _)); (fail_if_success (with_reducible show wpAny _ _ (call (Value.builtin "all") _ _) _ _ _)); (fail_if_success (with_reducible show wpAny _ _ (call (Value.ref _) _ _) _ _ _));  (first | (k_unfold; (try dsimp only)) | walk1 | (dsimp only; walk1) | (leave1; walk_say "STEP leave1"; try dsimp only) | fail "no step")))
    refine call_set rfl (N8.isList (a := B) (.head _)) hyS (by rw [col_len]; decide) (col_nodup hc d32 (by omega) z4 hi) ?_
    intro h9 tk9 hset hk9
    have F9 := F8.keeps hk9
    have N9 := N8.grown hk9
    (repeat' ((fail_if_success (with_reducible show Fr _ _ _ _ ∧ _)); (fail_if_success (with_reducible show wpAny _ _ (exec (Stmt.For _ _ _ _ _) _) _ _ _)); (fail_if_success (with_reducible show wpAny _ _ (eval (Expr.ListComp _ _ _ _) _) _ _ _)); (fail_if_success (with_reducible show wpAny _ _ (exec (Stmt.Assign [_] (Expr.ListComp _ _ _ _) _) _) _ _ _)); (fail_if_success (with_reducible show wpAny _ _ (eval (Expr.GeneratorExp _ _ _ _) _) _ _ _)); (fail_if_success (with_reducible show wpAny _ _ (call (Value.builtin "any") _ _) _ _ _)); (fail_if_success (with_reducible show wpAny _ _ (call (Value.builtin "all") _ _) _ _ _)); (fail_if_success (with_reducible show wpAny _ _ (call (Value.ref _) _ _) _ _ _));  (first | (k_unfold; (try dsimp only)) | walk1 | (dsimp only; walk1) | (leave1; walk_say "STEP leave1"; try dsimp only) | fail "no step")))
    refine sorted_set rfl hset (by rw [col_len]; decide) (by rw [col_len]; decide) ?_
    intro r vs1 ss1 n1 s1 hk1 hg1 ho1 hr1 hr1' hv1 hp1 hs1
    have F10 := F9.keeps hk1
    have N10 := news_new F9 hr1 hr1' (N9.grown hk1)
    clear F8 N8 F9 N9
    (repeat' ((fail_if_success (with_reducible show Fr _ _ _ _ ∧ _)); (fail_if_success (with_reducible show wpAny _ _ (exec (Stmt.For _ _ _ _ _) _) _ _ _)); (fail_if_success (with_reducible show wpAny _ _ (eval (Expr.ListComp _ _ _ _) _) _ _ _)); (fail_if_success (with_reducible show wpAny _ _ (exec (Stmt.Assign [_] (Expr.ListComp _ _ _ _) _) _) _ _ _)); (fail_if_success (with_reducible show wpAny _ _ (eval (Expr.GeneratorExp _ _ _ _) _) _ _ _)); (fail_if_success (with_reducible show wpAny _ _ (call (Value.builtin "any") _ _) _ _ _)); (fail_if_success (with_reducible show wpAny _ _ (call (Value.builtin "all") _ _) _ _ _)); (fail_if_success (with_reducible show wpAny _ _ (call (Value.ref _) _ _) _ _ _));  (first | (k_unfold; (try dsimp only)) | walk1 | (dsimp only; walk1) | (leave1; walk_say "STEP leave1"; try dsimp only) | fail "no step")))
    refine sorted_str rfl (by decide) ?_
    intro r2 vs2 ss2 n2 s2 hk2 hg2 ho2 hr2 hr2' hv2 hp2 hs2
    have F11 := F10.keeps hk2
    have N11 := news_new F10 hr2 hr2' (N10.grown hk2)
    clear F10 N10
    have hss : ss1 = ss2 := sorted_same hs1 hs2 ((hp1.trans (col_perm hc d32 (by omega) z4 hi)).trans hp2.symm)
    subst hss
    (repeat' ((fail_if_success (with_reducible show wpAny _ _ (setItem _ _ _) _ _ _)); (fail_if_success (with_reducible show wpAny _ _ (subscriptTail _ _ (Value.ref _) (Value.int _ _)) _ _ _)); (fail_if_success (with_reducible show wpAny _ _ (call (Value.builtin "list.append") _) _ _ _)); (fail_if_success (with_reducible show wpAny _ _ (execs (Stmt.If _ _ _ _ :: _) _) _ _ _)); (fail_if_success (with_reducible show wpAny _ _ (compareOp CmpOp.NotEq _ _) _ _ _)); (fail_if_success (with_reducible show Fr _ _ _ _ ∧ _)); (fail_if_success (with_reducible show wpAny _ _ (exec (Stmt.For _ _ _ _ _) _) _ _ _)); (fail_if_success (with_reducible show wpAny _ _ (eval (Expr.ListComp _ _ _ _) _) _ _ _)); (fail_if_success (with_reducible show wpAny _ _ (exec (Stmt.Assign [_] (Expr.ListComp _ _ _ _) _) _) _ _ _)); (fail_if_success (with_reducible show wpAny _ _ (eval (Expr.GeneratorExp _ _ _ _) _) _ _ _)); (fail_if_success (with_reducible show wpAny _ _ (call (Value.builtin "any") _ _) _ _ _)); (fail_if_success (with_reducible show wpAny _ _ (call (Value.builtin "all") _ _) _ _ _)); (fail_if_success (with_reducible show wpAny _ _ (call (Value.ref _) _ _) _ _ _));  (first | (k_unfold; (try dsimp only)) | walk1 | (dsimp only; walk1) | (leave1; walk_say "STEP leave1"; try dsimp only) | fail "no step")))
    refine ne_texts (fun x hx => col_ok x (hp2.mem_iff.mp hx)) (N11.isList (a := r) (by k_mem)) (N11.isList (a := r2) (.head _)) hv1 hv2 (by show un + 3 + 64 < cLine; omega) ?_
    (repeat' ((fail_if_success (with_reducible show Fr _ _ _ _ ∧ _)); (fail_if_success (with_reducible show wpAny _ _ (exec (Stmt.For _ _ _ _ _) _) _ _ _)); (fail_if_success (with_reducible show wpAny _ _ (eval (Expr.ListComp _ _ _ _) _) _ _ _)); (fail_if_success (with_reducible show wpAny _ _ (exec (Stmt.Assign [_] (Expr.ListComp _ _ _ _) _) _) _ _ _)); (fail_if_success (with_reducible show wpAny _ _ (eval (Expr.GeneratorExp _ _ _ _) _) _ _ _)); (fail_if_success (with_reducible show wpAny _ _ (call (Value.builtin "any") _ _) _ _ _)); (fail_if_success (with_reducible show wpAny _ _ (call (Value.builtin "all") _ _) _ _ _)); (fail_if_success (with_reducible show wpAny _ _ (call (Value.ref _) _ _) _ _ _));  (first | (k_unfold; (try dsimp only)) | walk1 | (dsimp only; walk1) | (leave1; walk_say "STEP leave1"; try dsimp only) | fail "no step")))
    exact hcont s2 F11 (fun q hq => N11 q (.tail _ (.tail _ (.tail _ hq)))) (hg2.trans hg1) (ho2.trans ho1)
end Mine
end

section
open PySem PySem.W PySem.Calls PyProof.Rows
set_option Elab.async false
set_option maxRecDepth 100000
namespace Mine

local macro_rules | `(tactic| walk_at "eval Name") => `(tactic| ((with_reducible show wpAny _ _ (eval (Expr.Name _ _) (genEnv _ _ _ _ _ _)) _ _ _); k_dflt (first
  | (refine' gm_ld ?F ?x ?_ ?k ?l; (case k => exact rfl); (case l => exact rfl); (case F => k_asm); (case x => first | assumption | exact rfl); k_whole)
  | (refine' gm_K ?F ?X ?T ?e ?_ ?g ?k ?l; (case g => exact rfl); (case k => exact rfl); (case l => exact rfl); (case F => k_asm); (case X => k_asm); (case T => k_asm); (case e => k_is); k_whole)
  | (refine' gm_B ?F ?X ?T ?e ?v ?n ?_ ?g ?k ?l; (case g => exact rfl); (case k => exact rfl); (case l => exact rfl); (case F => k_asm); (case X => k_asm); (case T => k_asm); (case e => k_is); (case v => boot_fast); (case n => decide); k_whole))))
local macro_rules | `(tactic| walk_at "eval Name") => `(tactic| ((with_reducible show wpAny _ _ (eval (Expr.Name _ _) (compEnvC _ _ _ _)) _ _ _); k_dflt (first
  | (refine' cm_ld ?F ?x ?_ ?k ?l; (case F => k_asm); (case x => first | assumption | exact rfl); (case k => exact rfl); (case l => exact rfl); k_whole)
  | (refine' cm_cell ?F ?c ?v ?_ ?k ?l; (case k => exact rfl); (case l => exact rfl); (case F => k_asm); (case c => exact rfl); (case v => assumption); k_whole)
  | (refine' cm_K ?F ?X ?T ?e ?_ ?g ?k ?l; (case F => k_asm); (case X => k_asm); (case T => k_asm); (case g => exact rfl); (case k => exact rfl); (case l => exact rfl); (case e => k_is); k_whole)
  | (refine' cm_B ?F ?X ?T ?e ?v ?n ?_ ?g ?b ?k ?l; (case F => k_asm); (case X => k_asm); (case T => k_asm); (case g => exact rfl); (case b => exact rfl); (case k => exact rfl); (case l => exact rfl); (case e => k_is); (case v => boot_fast); (case n => decide); k_whole))))
local macro_rules | `(tactic| walk_at "binaryOp BitAnd int int") => `(tactic| (k_dflt (refine' and_nat ?h1 ?h2 ?_; (case h1 => exact rfl); (case h2 => exact rfl))))
local macro_rules | `(tactic| walk_at "binaryOp BitXor int int") => `(tactic| (k_dflt (refine' xor_nat ?h1 ?h2 ?_; (case h1 => exact rfl); (case h2 => exact rfl))))
local macro_rules | `(tactic| walk_at "inplaceOp BitXor int int") => `(tactic| (k_dflt (refine' ixor_nat ?h1 ?h2 ?_; (case h1 => exact rfl); (case h2 => exact rfl))))
local macro_rules | `(tactic| walk_at "binaryOp RShift int int") => `(tactic| (k_dflt (refine' shr_nat ?h1 ?h2 ?_; (case h1 => exact rfl); (case h2 => exact rfl))))
local macro_rules | `(tactic| walk_at "binaryOp LShift int int") => `(tactic| (k_dflt (refine' shl_nat ?h1 ?h2 ?h3 ?h4 ?_; (case h1 => exact rfl); (case h2 => exact rfl); (case h3 => decide); (case h4 => exact and25_lt _))))

def JK (h₀ : Heap) (L l Tl D X I : Addr) (c : Nat) (t : Tok) (p : Nat) (pt : Tok) (os : Obj) (tv : List Value) (rw0 : List Nat) (o0 : OsState) (i : Nat) (s : Shared) : Prop :=
  ∃ nv tx nX dv nd ps rw ok ov, ok.data = .cell ov ∧ Fr h₀ L s.heap (m7 l Tl c t D X p pt nv) ∧ News h₀ L s.heap [(I, riO i 6), (X, W.listOf tx.toArray nX), (D, W.listOf dv.toArray nd), (Tl, W.listOf tv.toArray 0), (45, tabO ps), (L + 3, ok), (L + 1, os)] ∧
    StrsAre tx ((List.range 32).map fun j => encN c (rw0.set p j)) ∧ IntsAre dv (nInts rw) ∧ PySem.TriplesOk ps.toList ∧ AllBare s.gens ∧ s.os = o0
theorem loopK_start {h₀ h : Heap} {L l Tl D X : Addr} {c : Nat} {t : Tok} {p : Nat} {pt : Tok} {os ok : Obj} {tv tx dv : List Value} {nX nd : Nat} {rw0 rw : List Nat} {ps : Array Value} {nv : Option Value} {o0 : OsState} (s : Shared) (dk : ok.data = .cell none) (F : Fr h₀ L h (m7 l Tl c t D X p pt nv))
    (N : News h₀ L h [(X, W.listOf tx.toArray nX), (D, W.listOf dv.toArray nd), (Tl, W.listOf tv.toArray 0), (45, tabO ps), (L + 3, ok), (L + 1, os)]) (hS : StrsAre tx ((List.range 32).map fun j => encN c (rw0.set p j))) (iD : IntsAre dv (nInts rw)) (htr : PySem.TriplesOk ps.toList) (hg : AllBare s.gens) (hos : s.os = o0) :
    JK h₀ L l Tl D X h.objs.size c t p pt os tv rw0 o0 0 { s with heap := h.push (riO 0 6) } := by
  refine ⟨nv, tx, nX, dv, nd, ps, rw, ok, none, dk, F.keeps fun b o e => Heap.get?_push_of_some _ e, ?_, hS, iD, htr, hg, hos⟩
  have hI0 : h₀.get? h.objs.size = none := by
    cases e : h₀.get? h.objs.size with
    | none => rfl
    | some o => exact absurd (Heap.lt_size (F.keep _ _ e)) (Nat.lt_irrefl _)
  intro q hq
  rcases List.mem_cons.mp hq with rfl | hq
  · exact ⟨Heap.get?_push_size _ rfl, (Nat.ne_of_gt F.ns.lt), hI0⟩
  · exact ⟨Heap.get?_push_of_some _ (N q hq).1, (N q hq).2⟩
set_option maxHeartbeats 8000000 in
theorem law_E {prog : Program} {w : World} {dp un : Nat} {fr : Option (List Env)} {gd : Option (List Code)} {s : Shared} {mg mb : Str → Option Value} {h₀ : Heap} {L l Tl D X : Addr} {c : Nat} {t : Tok} {zn p : Nat} {pt u0 : Tok} {os ok : Obj} {tv : List Value} {rw0 : List Nat} {o0 : OsState} {Q' : Flow → Shared → Prop}
   (KX : (hd1.heap_39 w.params).In h₀) (T : TopRead hd1.view_39 (looseW hd1.view_39 []) mg mb h₀) (hd : dp + 40 < recursionLimit) (hu : un + 200 < cLine) (hL45 : @LT.lt Nat _ 45 L) (hc : c < 128)
   (dz : os.data = .cell (some (.int (zn : Int) u0))) (dk : ok.data = .cell none) (d32 : ∀ n ∈ rw0, n < 32) (dlen : rw0.length = zn) (z4 : zn ≤ 4) (pz : p < zn)
   (ap : (@Ne Nat D Tl ∧ @Ne Nat D 45 ∧ @Ne Nat D (L + 3) ∧ @Ne Nat D (L + 1)) ∧ @Ne Nat X D ∧ @Ne Nat X Tl ∧ @Ne Nat X 45 ∧ @Ne Nat X (L + 3) ∧ @Ne Nat X (L + 1) ∧ @Ne Nat Tl 45 ∧ @Ne Nat Tl (L + 3) ∧ @Ne Nat Tl (L + 1))
   (J0 : JD h₀ L l Tl D X c t p pt os ok tv rw0 o0 s)
   (hcont : ∀ s' ok', JD h₀ L l Tl D X c t p pt os ok' tv rw0 o0 s' → wpAny (model prog w) ((At dp un fr gd).deeper (lawEnv L)) (execs (lawRest 9) (lawEnv L)) Q' (fun _ _ => False) s') :
   wpAny (model prog w) ((At dp un fr gd).deeper (lawEnv L)) (execs (lawRest 8) (lawEnv L)) Q' (fun _ _ => False) s := by
  unfold lawEnv lawRest
  generalize hsc : scopeOf lawStmt = sc
  conv at hsc => lhs; whnf
  subst hsc
  generalize hbd : List.drop 8 (bodyOf lawStmt) = bd
  conv at hbd => lhs; whnf
  subst hbd
  obtain ⟨⟨p1, p2, p3, p4⟩, p5, p6, p7, p8, p9, p10, p11, p12⟩ := ap
  obtain ⟨nv, tx, nX, dv, nd, ps, rw, F0, N0, hS, iD, htr, hg, hos⟩ := J0
  (repeat' ((fail_if_success (with_reducible show Fr _ _ _ _ ∧ _)); (fail_if_success (with_reducible show wpAny _ _ (exec (Stmt.For _ _ _ _ _) _) _ _ _)); (fail_if_success (with_reducible show wpAny _ _ (eval (Expr.ListComp _ _ _ _) _) _ _ _)); (fail_if_success (with_reducible show wpAny _ _ (exec (Stmt.Assign [_] (Expr.ListComp _ _ _ _) _) _) _ _ _)); (fail_if_success (with_reducible show wpAny _ _ (eval (Expr.GeneratorExp _ _ _ _) _) _ _ _)); (fail_if_success (with_reducible show wpAny _ _ (call (Value.builtin "any") _ _) _ _ _)); (fail_if_success (with_reducible show wpAny _ _ (call (Value.builtin "all") _ _) _ _ _)); (fail_if_success (with_reducible show wpAny _ _ (call (Value.ref _) _ _) _ _ _));  (first | (k_unfold; (try dsimp only)) | walk1 | (dsimp only; walk1) | (leave1; walk_say "STEP leave1"; try dsimp only) | fail "no step")))
  refine for_range F0 rfl 6 (.inl rfl) ?_
  (repeat' ((fail_if_success (with_reducible show Fr _ _ _ _ ∧ _)); (fail_if_success (with_reducible show wpAny _ _ (exec (Stmt.For _ _ _ _ _) _) _ _ _)); (fail_if_success (with_reducible show wpAny _ _ (eval (Expr.ListComp _ _ _ _) _) _ _ _)); (fail_if_success (with_reducible show wpAny _ _ (exec (Stmt.Assign [_] (Expr.ListComp _ _ _ _) _) _) _ _ _)); (fail_if_success (with_reducible show wpAny _ _ (eval (Expr.GeneratorExp _ _ _ _) _) _ _ _)); (fail_if_success (with_reducible show wpAny _ _ (call (Value.builtin "any") _ _) _ _ _)); (fail_if_success (with_reducible show wpAny _ _ (call (Value.builtin "all") _ _) _ _ _)); (fail_if_success (with_reducible show wpAny _ _ (call (Value.ref _) _ _) _ _ _));  (first | (k_unfold; (try dsimp only)) | walk1 | (dsimp only; walk1) | (leave1; walk_say "STEP leave1"; try dsimp only) | fail "no step")))
  rename IsRange _ _ _ _ _ _ _ _ => R6
  rename Fr _ _ _ _ => F6
  rename News _ _ _ _ => N6
  refine ⟨F6, _, _, _, _, rfl, R6, ?_⟩
  have aI := new_apart N6 (Nat.le_refl _)
  have aX := aI (X, W.listOf tx.toArray nX) (by k_mem)
  have aD := aI (D, W.listOf dv.toArray nd) (by k_mem)
  have a45 := aI (45, tabO ps) (by k_mem)
  have aT := aI (Tl, W.listOf tv.toArray 0) (by k_mem)
  have a3 := aI (L + 3, ok) (by k_mem)
  have a1 := aI (L + 1, os) (by k_mem)
  have h453 : @Ne Nat 45 (L + 3) := Nat.ne_of_lt (Nat.lt_of_lt_of_le hL45 (Nat.le_add_right _ _))
  have hL13 : ∀ q ∈ [(L + 1, os)], q.1 ≠ L + 3 := fun q hq => by
    rw [List.mem_singleton.mp hq]
    exact Nat.ne_of_lt (Nat.add_lt_add_left (by decide) L)
  refine ⟨JK h₀ L l Tl D X _ c t p pt os tv rw0 o0, loopK_start { s with toks := _ } dk F6 N6 hS iD htr hg hos, ?_, ?_, ?_⟩
  · rintro i s' ⟨nv, tx, nX, dv, nd, ps, rw, ok, ov, dk, F, N, _⟩
    exact N.get (.head _)
  · rintro i s' h' tk hi ⟨nv, tx, nX, dv, nd, ps, rw, ok, ov, dk, F, N, hS, iD, htr, hg, hos⟩ hit hsb
    have hne : ∀ q ∈ [(X, W.listOf tx.toArray nX), (D, W.listOf dv.toArray nd), (Tl, W.listOf tv.toArray 0), (45, tabO ps), (L + 3, ok), (L + 1, os)], q.1 ≠ _ := fun q hq => by
      simp only [List.mem_cons, List.not_mem_nil, or_false] at hq
      rcases hq with rfl | rfl | rfl | rfl | rfl | rfl
      · exact aX.symm
      · exact aD.symm
      · exact aT.symm
      · exact a45.symm
      · exact a3.symm
      · exact a1.symm
    have hI := N _ (.head _)
    have F2 := fr_same F hI.2.2 hI.2.1 hsb.extBut
    have N2 := news_same N hne hsb.extBut hit
    refine wpAny_assign_Name ?_
    dsimp only at F2 N2
    refine' storeX_C F2 N2 ?c ?U ?d ?_ ?a ?b
    case a => rfl
    case b => rfl
    case c => exact rfl
    case U => exact UpdF.tail a3 (UpdF.tail p8 (UpdF.tail p3 (UpdF.tail p11 (UpdF.tail h453 (UpdF.head hL13)))))
    case d => exact dk
    intro h3 o3 F3 N3 d3
    try dsimp only at N3
    refine law_turnK (dp := dp) (un := un) (i := i) (tk := tk) (zn := zn) (u0 := u0) KX T hd hu hi hc dz d3 d32 dlen z4 pz F3 N3 hS ?_
    intro s4 F4 N4 hg4 ho4
    exact ⟨nv, tx, nX, dv, nd, ps, rw, o3, _, d3, F4, N4, hS, iD, htr, by rw [hg4]; exact hg, ho4.trans hos⟩
  · rintro s' h' ⟨nv, tx, nX, dv, nd, ps, rw, ok, ov, dk, F, N, hS, iD, htr, hg, hos⟩ hx
    have hI := N _ (.head _)
    refine hcont _ ok ⟨nv, tx, nX, dv, nd, ps, rw, fr_same F hI.2.2 hI.2.1 hx, ?_, hS, iD, htr, hg, hos⟩
    intro q hq
    refine ⟨hx _ _ ?_ (N q (.tail _ hq)).1, (N q (.tail _ hq)).2⟩
    simp only [List.mem_cons, List.not_mem_nil, or_false] at hq
    rcases hq with rfl | rfl | rfl | rfl | rfl | rfl
    · exact aX.symm
    · exact aD.symm
    · exact aT.symm
    · exact a45.symm
    · exact a3.symm
    · exact a1.symm
end Mine
end

section
open PySem PySem.W PySem.Calls PyProof.Rows
set_option Elab.async false
set_option maxRecDepth 100000
namespace Mine

local macro_rules | `(tactic| walk_at "eval Name") => `(tactic| ((with_reducible show wpAny _ _ (eval (Expr.Name _ _) (genEnv _ _ _ _ _ _)) _ _ _); k_dflt (first
  | (refine' gm_ld ?F ?x ?_ ?k ?l; (case k => exact rfl); (case l => exact rfl); (case F => k_asm); (case x => first | assumption | exact rfl); k_whole)
  | (refine' gm_K ?F ?X ?T ?e ?_ ?g ?k ?l; (case g => exact rfl); (case k => exact rfl); (case l => exact rfl); (case F => k_asm); (case X => k_asm); (case T => k_asm); (case e => k_is); k_whole)
  | (refine' gm_B ?F ?X ?T ?e ?v ?n ?_ ?g ?k ?l; (case g => exact rfl); (case k => exact rfl); (case l => exact rfl); (case F => k_asm); (case X => k_asm); (case T => k_asm); (case e => k_is); (case v => boot_fast); (case n => decide); k_whole))))
local macro_rules | `(tactic| walk_at "eval Name") => `(tactic| ((with_reducible show wpAny _ _ (eval (Expr.Name _ _) (compEnvC _ _ _ _)) _ _ _); k_dflt (first
  | (refine' cm_ld ?F ?x ?_ ?k ?l; (case F => k_asm); (case x => first | assumption | exact rfl); (case k => exact rfl); (case l => exact rfl); k_whole)
  | (refine' cm_cell ?F ?c ?v ?_ ?k ?l; (case k => exact rfl); (case l => exact rfl); (case F => k_asm); (case c => exact rfl); (case v => assumption); k_whole)
  | (refine' cm_K ?F ?X ?T ?e ?_ ?g ?k ?l; (case F => k_asm); (case X => k_asm); (case T => k_asm); (case g => exact rfl); (case k => exact rfl); (case l => exact rfl); (case e => k_is); k_whole)
  | (refine' cm_B ?F ?X ?T ?e ?v ?n ?_ ?g ?b ?k ?l; (case F => k_asm); (case X => k_asm); (case T => k_asm); (case g => exact rfl); (case b => exact rfl); (case k => exact rfl); (case l => exact rfl); (case e => k_is); (case v => boot_fast); (case n => decide); k_whole))))
local macro_rules | `(tactic| walk_at "binaryOp BitAnd int int") => `(tactic| (k_dflt (refine' and_nat ?h1 ?h2 ?_; (case h1 => exact rfl); (case h2 => exact rfl))))
local macro_rules | `(tactic| walk_at "binaryOp BitXor int int") => `(tactic| (k_dflt (refine' xor_nat ?h1 ?h2 ?_; (case h1 => exact rfl); (case h2 => exact rfl))))
local macro_rules | `(tactic| walk_at "inplaceOp BitXor int int") => `(tactic| (k_dflt (refine' ixor_nat ?h1 ?h2 ?_; (case h1 => exact rfl); (case h2 => exact rfl))))
local macro_rules | `(tactic| walk_at "binaryOp RShift int int") => `(tactic| (k_dflt (refine' shr_nat ?h1 ?h2 ?_; (case h1 => exact rfl); (case h2 => exact rfl))))
local macro_rules | `(tactic| walk_at "binaryOp LShift int int") => `(tactic| (k_dflt (refine' shl_nat ?h1 ?h2 ?h3 ?h4 ?_; (case h1 => exact rfl); (case h2 => exact rfl); (case h3 => decide); (case h4 => exact and25_lt _))))

theorem lit_fits {z k : Nat} (hk : k < 6) (hz : z ≤ 4) : fitsSsize (2 + (z : Int) + (k : Int)) = true := by
  rw [show (2 + (z : Int) + (k : Int)) = Int.ofNat (2 + z + k) by simp only [Int.ofNat_eq_natCast]; omega]
  exact small_fits _ (by omega)
set_option maxHeartbeats 8000000 in
theorem law_F {prog : Program} {w : World} {dp un : Nat} {fr : Option (List Env)} {gd : Option (List Code)} {s : Shared} {mg mb : Str → Option Value} {bm : Addr} {ob : Obj} {h₀ : Heap} {L l Tl D X : Addr} {c : Nat} {t : Tok} {zn p : Nat} {pt u0 : Tok} {os ok : Obj} {tv tx dv : List Value} {nX nd : Nat} {a0 a1 a2 : Int} {rw0 : List Nat} {ps : Array Value} {nv : Option Value} {o0 : OsState} {Q' : Flow → Shared → Prop}
   (KX : (hd1.heap_39 w.params).In h₀) (T : TopRead hd1.view_39 (looseW hd1.view_39 []) mg mb h₀) (M : BMod h₀ mainGlobals mg bm ob) (hd : dp + 40 < recursionLimit) (hu : un + 200 < cLine) (hL45 : @LT.lt Nat _ 45 L) (hc : 97 ≤ c ∧ c ≤ 122)
   (dz : os.data = .cell (some (.int (zn : Int) u0))) (iT : IntsAre tv [a0, a1, a2]) (d32 : ∀ n ∈ rw0, n < 32) (dlen : rw0.length = zn) (z4 : zn ≤ 4) (pz : p < zn)
   (F0 : Fr h₀ L s.heap (m7 l Tl c t D X p pt nv)) (N0 : News h₀ L s.heap [(X, W.listOf tx.toArray nX), (D, W.listOf dv.toArray nd), (Tl, W.listOf tv.toArray 0), (45, tabO ps), (L + 3, ok), (L + 1, os)])
   (hS : StrsAre tx ((List.range 32).map fun j => encN c (rw0.set p j))) (htr : PySem.TriplesOk ps.toList) (hg : AllBare s.gens) (hos : s.os = o0)
   (hcont : ∀ s', (∃ m, Fr h₀ L s'.heap m) → (∃ ps', s'.heap.get? 45 = some (tabO ps') ∧ PySem.TriplesOk ps'.toList) → AllBare s'.gens → s'.os = o0 → Q' (.ret (.bool true)) s') :
   wpAny (model prog w) ((At dp un fr gd).deeper (lawEnv L)) (execs (lawRest 9) (lawEnv L)) Q' (fun _ _ => False) s := by
  unfold lawEnv lawRest
  generalize hsc : scopeOf lawStmt = sc
  conv at hsc => lhs; whnf
  subst hsc
  generalize hbd : List.drop 9 (bodyOf lawStmt) = bd
  conv at hbd => lhs; whnf
  subst hbd
  subst dlen
  (repeat' ((fail_if_success (with_reducible show Fr _ _ _ _ ∧ _)); (fail_if_success (with_reducible show wpAny _ _ (exec (Stmt.For _ _ _ _ _) _) _ _ _)); (fail_if_success (with_reducible show wpAny _ _ (eval (Expr.ListComp _ _ _ _) _) _ _ _)); (fail_if_success (with_reducible show wpAny _ _ (exec (Stmt.Assign [_] (Expr.ListComp _ _ _ _) _) _) _ _ _)); (fail_if_success (with_reducible show wpAny _ _ (eval (Expr.GeneratorExp _ _ _ _) _) _ _ _)); (fail_if_success (with_reducible show wpAny _ _ (call (Value.builtin "any") _ _) _ _ _)); (fail_if_success (with_reducible show wpAny _ _ (call (Value.builtin "all") _ _) _ _ _)); (fail_if_success (with_reducible show wpAny _ _ (call (Value.ref _) _ _) _ _ _));  (first | (k_unfold; (try dsimp only)) | walk1 | (dsimp only; walk1) | (leave1; walk_say "STEP leave1"; try dsimp only) | fail "no step")))
  have e0 := Int.fmod_nonneg_of_pos (a2.fdiv 4) (show (0:Int) < 32 by decide)
  have e1 := Int.fmod_lt_of_pos (a2.fdiv 4) (show (0:Int) < 32 by decide)
  obtain ⟨qn, hqn⟩ : ∃ qn : Nat, (a2.fdiv 4).fmod 32 = (qn : Int) := ⟨((a2.fdiv 4).fmod 32).toNat, by omega⟩
  have hq32 : qn < 32 := by omega
  have htl : tx.length = 32 := by rw [strs_len hS, List.length_map, List.length_range]
  obtain ⟨ut, hti⟩ : ∃ ut, tx.toArray[(((a2.fdiv 4).fmod 32)).toNat]? = some (Value.str (encN c (rw0.set p qn)) ut) := by
    have hlt : qn < tx.length := by omega
    obtain ⟨y, ut, h1, h2⟩ := strs_at hS qn tx[qn] (List.getElem?_eq_getElem hlt)
    refine ⟨ut, ?_⟩
    rw [hqn]
    simp only [List.getElem?_toArray, Int.toNat_natCast]
    rw [List.getElem?_eq_getElem hlt, h2]
    rw [List.getElem?_map, List.getElem?_range hq32] at h1
    cases h1
    rfl
  refine item_list (N0.isList (a := X) (by k_mem)) (by exact e0) (by show (a2.fdiv 4).fmod 32 < _; omega) (by exact hti) ?_
  (repeat' ((fail_if_success (with_reducible show Fr _ _ _ _ ∧ _)); (fail_if_success (with_reducible show wpAny _ _ (exec (Stmt.For _ _ _ _ _) _) _ _ _)); (fail_if_success (with_reducible show wpAny _ _ (eval (Expr.ListComp _ _ _ _) _) _ _ _)); (fail_if_success (with_reducible show wpAny _ _ (exec (Stmt.Assign [_] (Expr.ListComp _ _ _ _) _) _) _ _ _)); (fail_if_success (with_reducible show wpAny _ _ (eval (Expr.GeneratorExp _ _ _ _) _) _ _ _)); (fail_if_success (with_reducible show wpAny _ _ (call (Value.builtin "any") _ _) _ _ _)); (fail_if_success (with_reducible show wpAny _ _ (call (Value.builtin "all") _ _) _ _ _)); (fail_if_success (with_reducible show wpAny _ _ (call (Value.ref _) _ _) _ _ _));  (first | (k_unfold; (try dsimp only)) | walk1 | (dsimp only; walk1) | (leave1; walk_say "STEP leave1"; try dsimp only) | fail "no step")))
  rename Fr _ _ _ _ => F1
  rename News _ _ _ _ => N1
  have f0 := Int.fmod_nonneg_of_pos (a0.fdiv 26) (show (0:Int) < 6 by decide)
  have f1 := Int.fmod_lt_of_pos (a0.fdiv 26) (show (0:Int) < 6 by decide)
  obtain ⟨kn, hkn⟩ : ∃ kn : Nat, (([a0, a1, a2].getD (Int.toNat 0) 0).fdiv 26).fmod 6 = (kn : Int) := ⟨((a0.fdiv 26).fmod 6).toNat, (Int.toNat_of_nonneg f0).symm⟩
  have hk6 : kn < 6 := by have : (a0.fdiv 26).fmod 6 = (kn : Int) := hkn; omega
  rw [hkn] at F1
  rw [hkn]
  have hns : ∀ n ∈ rw0.set p qn, n < 32 := fun n hn => by
    rcases List.mem_or_eq_of_mem_set hn with h | rfl
    · exact d32 n h
    · exact hq32
  have hnl : (rw0.set p qn).length = rw0.length := List.length_set
  have hxl := enc_len c (rw0.set p qn)
  rw [hnl] at hxl
  have hxs : (encN c (rw0.set p qn)).length ≤ sizeLine := by rw [hxl]; exact Nat.le_trans (by omega : _ ≤ 100) (Nat.le_of_ble_eq_true rfl)
  refine slice_strN_ns F1 N1 ?_ (hsz := hxs)
  intro h2 t2 k2 F2 N2
  clear F1 N1
  (repeat' ((fail_if_success (with_reducible show Fr _ _ _ _ ∧ _)); (fail_if_success (with_reducible show wpAny _ _ (exec (Stmt.For _ _ _ _ _) _) _ _ _)); (fail_if_success (with_reducible show wpAny _ _ (eval (Expr.ListComp _ _ _ _) _) _ _ _)); (fail_if_success (with_reducible show wpAny _ _ (exec (Stmt.Assign [_] (Expr.ListComp _ _ _ _) _) _) _ _ _)); (fail_if_success (with_reducible show wpAny _ _ (eval (Expr.GeneratorExp _ _ _ _) _) _ _ _)); (fail_if_success (with_reducible show wpAny _ _ (call (Value.builtin "any") _ _) _ _ _)); (fail_if_success (with_reducible show wpAny _ _ (call (Value.builtin "all") _ _) _ _ _)); (fail_if_success (with_reducible show wpAny _ _ (call (Value.ref _) _ _) _ _ _));  (first | (k_unfold; (try dsimp only)) | walk1 | (dsimp only; walk1) | (leave1; walk_say "STEP leave1"; try dsimp only) | fail "no step")))
  rename Fr _ _ _ _ => F5
  rename News _ _ _ _ => N5
  have g0 := Int.fmod_nonneg_of_pos a0 (show (0:Int) < 31 by decide)
  have g1 := Int.fmod_lt_of_pos a0 (show (0:Int) < 31 by decide)
  obtain ⟨e, he, hne, heq⟩ := alt_text (c := c) (k := kn) (z := rw0.length) (ns := rw0.set p qn) (r := ([a0, a1, a2].getD (Int.toNat 0) 0).fmod 31) hns hnl z4 hk6 g0 g1
  rw [heq]
  have h45 : h₀.get? 45 = none := (N5 (45, tabO ps) (by k_mem)).2.2
  have hdl : ((rw0.set p qn ++ csN c (rw0.set p qn)).set ((rw0.set p qn).length + kn) e).length = rw0.length + 6 := by rw [List.length_set, List.length_append, hnl]; rfl
  have hd32 : ∀ n ∈ (rw0.set p qn ++ csN c (rw0.set p qn)).set ((rw0.set p qn).length + kn) e, n < 32 := fun n hn => by
    rcases List.mem_or_eq_of_mem_set hn with h | rfl
    · exact (List.mem_append.mp h).elim (hns n) (csN_lt c _ n)
    · exact he
  refine decode_c (dp := dp + 1) (un := un + 3) (c := c) (ds := (rw0.set p qn ++ csN c (rw0.set p qn)).set ((rw0.set p qn).length + kn) e) ⟨KX.keeps F5.keep, T.keeps F5.keep⟩ (M.keeps F5.keep) (N5.get (by k_mem)) htr hg (by omega) (by omega) (raw_dec hc hd32 (by omega)) (by omega) (by omega) hd32 ?_
  intro v s' Af hres
  unfold DecRes at hres
  rw [if_neg (pm_alt (by omega) hns hk6 he hne)] at hres
  obtain ⟨r, rfl, hr, hr0⟩ := hres
  have F8 := fr_same F5 h45 (Nat.ne_of_lt hL45) Af.keep
  obtain ⟨more, hP8, htr8⟩ := Af.tab
  have N8 : News h₀ L s'.heap [(45, tabO (ps ++ more))] := by
    intro q hq
    rw [List.mem_singleton.mp hq]
    exact ⟨hP8, (N5 (45, tabO ps) (by k_mem)).2⟩
  have N9 := news_new F5 hr0 hr N8
  have hg8 := Af.bare
  have ho8 : s'.os = o0 := Af.os.trans hos
  clear F5 N5 N8
  (repeat' ((fail_if_success (with_reducible show Fr _ _ _ _ ∧ _)); (fail_if_success (with_reducible show wpAny _ _ (exec (Stmt.For _ _ _ _ _) _) _ _ _)); (fail_if_success (with_reducible show wpAny _ _ (eval (Expr.ListComp _ _ _ _) _) _ _ _)); (fail_if_success (with_reducible show wpAny _ _ (exec (Stmt.Assign [_] (Expr.ListComp _ _ _ _) _) _) _ _ _)); (fail_if_success (with_reducible show wpAny _ _ (eval (Expr.GeneratorExp _ _ _ _) _) _ _ _)); (fail_if_success (with_reducible show wpAny _ _ (call (Value.builtin "any") _ _) _ _ _)); (fail_if_success (with_reducible show wpAny _ _ (call (Value.builtin "all") _ _) _ _ _)); (fail_if_success (with_reducible show wpAny _ _ (call (Value.ref _) _ _) _ _ _));  (first | (k_unfold; (try dsimp only)) | walk1 | (dsimp only; walk1) | (leave1; walk_say "STEP leave1"; try dsimp only) | fail "no step")))
  rename Fr _ _ _ _ => F10
  rename News _ _ _ _ => N10
  exact hcont _ ⟨_, F10⟩ ⟨_, N10.get (by k_mem), htr8⟩ hg8 ho8
end Mine
end

section
open PySem PySem.W PySem.Calls PyProof.Rows PyProof.V PySem.Spec
set_option Elab.async false
set_option maxRecDepth 100000
namespace Mine
theorem law_all {prog : Program} {w : World} {dp un : Nat} {fr : Option (List Env)} {gd : Option (List Code)} {s : Shared} {mg mb : Str → Option Value} {bm : Addr} {ob : Obj} {l : Addr} {vs : List Value} {ns : List Int} {Q E : Value → Shared → Prop}
   (B : Base w mg mb s.heap) (hM : BMod s.heap mainGlobals mg bm ob) (hP : s.heap.get? 45 = some (tabO #[])) (hg : AllBare s.gens) (hd : dp + 40 < recursionLimit) (hu : un + 200 < cLine)
   (hl : s.heap.IsList l vs.toArray) (hi : IntsAre vs ns) (hn : ns.length ≤ 63) (hlay : (PyData.list (ns.map PyData.int)).layable0 = true)
   (hQ : ∀ s', After #[] s s' → Q (.bool true) s') :
   wpAny (model prog w) (At dp un fr gd) (call (.ref 53) [.ref l]) Q E s := by
  refine law_A B hM hP hd hu hl hi hn hlay ?_
  intro L h' tk Tl R c t z os oR ok tv rv told rs hL45 M4
  have KX := hide_in B.K
  have T := hide_top B.T
  have M := hide_mod hM hP
  refine law_B (bm := bm) (ob := ob) (s := { s with heap := h', toks := tk }) KX T hd hu hL45 M4 ?_
  intro h2 tk2 D X zn p pt dv nd a0 a1 a2 rw0 M7
  refine law_C (s := { s with heap := h2, toks := tk2 }) KX T M hd hu hL45 hg M7 ?_
  intro s3 J3
  obtain ⟨u0, dz⟩ := M7.size
  have hcb : 97 ≤ c ∧ c ≤ 122 := by
    rw [M7.cb]
    have h1 := Int.fmod_nonneg_of_pos a0 (show (0:Int) < 26 by decide)
    have h2 := Int.fmod_lt_of_pos a0 (show (0:Int) < 26 by decide)
    omega
  refine law_E (u0 := u0) KX T hd hu hL45 (by omega) dz M7.kc M7.d32 M7.dlen M7.z4 M7.pz M7.apart J3 ?_
  rintro s4 ok4 ⟨nv, tx, nX, dv4, nd4, ps, rw, F4, N4, hS4, iD4, htr4, hg4, ho4⟩
  refine law_F (u0 := u0) (o0 := s.os) KX T M hd hu hL45 hcb dz M7.ti M7.d32 M7.dlen M7.z4 M7.pz F4 N4 hS4 htr4 hg4 ho4 ?_
  rintro s5 ⟨m5, F5⟩ ⟨ps5, h45, htr5⟩ hg5 ho5
  exact hQ s5 ⟨fun b o hb e => F5.keep b o ((Heap.hide_ne _ hb).trans e), ⟨ps5, by simpa using h45, by simpa using htr5⟩, hg5, ho5⟩
end Mine
end

section
open PySem PySem.W PySem.Calls PyProof.Rows PyProof.V PySem.Spec
set_option Elab.async false
set_option maxRecDepth 100000
set_option maxHeartbeats 8000000 in
theorem PySem.Challenge.cw_ar0009_01_holds : PySem.Challenge.rw_ar0009_01.Holds := by
  refine hd1 ?_
  k_fill
  intro w s₀ s₁ mg mb G Y fa o pm cd doc dV kV ho hd hcd hD hmg hg args vals as hpre hlay hrd hwl hlo
  have KX := kIn_of Y
  have X := (Ground.X G).1
  have V := (Ground.X G).2
  refine Ground.open G ?_
  intro T B D TE TW
  try (refine guard_noD D (by decide +kernel) ?_; clear D)
  obtain ⟨bm, ob, M⟩ := bmod_of_top T
  wrow_args hpre hlay hrd hwl hlo
  have h53 : fa = 53 := by
    have e := mg_of KX T.g (n := PySem.Str.ofString "law") (v := .ref 53) (by k_is)
    rw [show mg (PySem.Str.ofString "law") = some (.ref fa) from hmg] at e
    injection e with e
    injection e
  have h48 : mg (PySem.Str.ofString "bech32_decode") = some (.ref 48) := mg_of KX T.g (by k_is)
  have hP : s₁.heap.get? 45 = some (Mine.tabO #[]) := by
    obtain ⟨c, P, e1, B0⟩ := based_of_top (name := PySem.Str.ofString "bech32_decode") T rfl h48 (KX 48 _ rfl) rfl
    have e2 : c = 47 := by injection e1 with e1; exact e1.symm
    subst e2
    obtain ⟨⟨o7, vs7, k1, _, k2, k3⟩, k4⟩ := B0.tab
    have k5 := KX 47 _ rfl
    rw [k5] at k1
    cases k1
    cases k2
    cases k3
    exact k4
  subst h53
  rename IntsAre _ _ => hI
  rename Heap.IsList _ _ _ => hL
  rename PyData.layable0 _ = true => hlay0
  rename ¬ _ => hcond
  refine Mine.law_all (dp := callerA.depth) (un := callerA.units) (fr := callerA.frames) (gd := callerA.guards) ⟨KX, topRead_of T⟩ M hP (AllBare.of_eq hg) (by decide) (by decide) hL hI (by omega) hlay0 ?_
  intro s' Af
  obtain ⟨more, hP', htr'⟩ := Af.tab
  have ht : s₁.heap.TableAt 47 45 #[] := ⟨⟨_, _, KX 47 _ rfl, rfl, rfl, rfl⟩, hP⟩
  have ht' : s'.heap.TableAt 47 45 (#[] ++ more) := ⟨⟨_, _, Af.keep 47 _ (by decide) (KX 47 _ rfl), rfl, rfl, rfl⟩, hP'⟩
  refine ⟨.inl ⟨.bool true, _, [], rfl, raisesW_false (by wrow_none_raised), readsW_of_reads (.bool true), postW_of (by wrow_shape) (by wtm_val) (by first | rfl | (str_meet; first | done | w_fin)), (by first | exact unshared_nil | exact fun h => absurd h (by decide))⟩, ?_, Af.os, Af.bare⟩
  exact (OldK.refl s₁.heap).step_table ht ht ht' Af.keep (by decide)
end
