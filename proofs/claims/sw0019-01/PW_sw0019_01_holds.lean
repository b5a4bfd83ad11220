import PyProof.Rows.All
import Wide.All
import OpenK.AllK
import Wide.FinOn
import PySem.Challenge.RW_sw0019_01
open PySem PySem.W PyProof.Rows PyProof.V PySem.Spec PySem.Calls
set_option Elab.async false
set_option maxRecDepth 100000
set_option maxHeartbeats 8000000
set_option linter.all false
namespace Mine
open_top hd for PySem.Challenge.rw_sw0019_01
-- part Pre
section
def Hold (P : Prop) : Prop := P
theorem Hold.out {P : Prop} (h : Hold P) : P := h
theorem Hold.mk {P : Prop} (h : P) : Hold P := h
theorem fr_as {h₀ h : Heap} {L : Addr} {m m' : Str → Option Value} (F : Fr h₀ L h m) (e : ∀ y, m y = m' y) : Fr h₀ L h m' := (funext e : m = m') ▸ F
def lk : List (Str × Value) → Str → Option Value
  | [], _ => none
  | (k, v) :: r, y => if y = k then some v else lk r y
theorem lk_eq : ∀ (bs : List (Str × Value)) (y : Str), List.lookup y bs = lk bs y
  | [], _ => rfl
  | (k, v) :: r, y => by
    rw [List.lookup_cons, lk]
    by_cases h : y = k
    · subst h; simp
    · have : (y == k) = false := by simpa using h
      rw [this, if_neg h]; exact lk_eq r y
theorem news_sub {h₀ h : Heap} {L : Addr} {news news' : List (Addr × Obj)} (N : News h₀ L h news) (hs : ∀ p ∈ news', p ∈ news) : News h₀ L h news' := fun p hp => N p (hs p hp)
/-- what a call of the def at f does, for every caller -/
def CTell (w : World) (f : Addr) (vs : List Value) (d : Nat) (news : List (Addr × Obj)) (Out : Value → List (Addr × Obj) → Prop) : Prop :=
  ∀ (p : Program) (loose : List Str) (mean : ExcName → Option Value) (mg mb : Str → Option Value) (dp un : Nat) (gd : Option (List Code)) (cn : Str) (cs : Scope) (a : Addr) (ccd : Value) (cl : List (Str × Addr)) (outer : List Env) (A₀ : Around) (base h₀ : Heap) (L : Addr) (m : Str → Option Value) (s : Shared) (Q E : Value → Shared → Prop),
    Below A₀ base outer h₀ → Fr h₀ L s.heap m → (Mine.hd.heap_39 w.params).In h₀ → News h₀ L s.heap news → Top p loose mean mg mb h₀ → cs.kind = .function → dp + d < recursionLimit → un + 8 * d < cLine →
    (∀ r n' h' tk', Out r n' → Fr h₀ L h' m → News h₀ L h' n' → Q r { s with heap := h', toks := tk' }) →
    wpAny (model PySem.Challenge.rw_sw0019_01.row.prog w) (ktrTop dp un gd cn cs L a ccd cl outer) (call (.ref f) vs) Q E s

section
variable {w : World} {f : Addr} {vs : List Value} {d : Nat} {news : List (Addr × Obj)} {Out : Value → List (Addr × Obj) → Prop} {p : Program} {loose : List Str} {mean : ExcName → Option Value} {mg mb : Str → Option Value} {dp un : Nat} {gd : Option (List Code)} {cn : Str} {cs : Scope} {a : Addr} {ccd : Value} {cl : List (Str × Addr)} {outer : List Env} {A₀ : Around} {base h₀ : Heap} {L : Addr} {m : Str → Option Value} {s : Shared} {Q E : Value → Shared → Prop}
theorem ctell_use (C : CTell w f vs d news Out) (B : Below A₀ base outer h₀) (F : Fr h₀ L s.heap m) (X : (Mine.hd.heap_39 w.params).In h₀) (N : News h₀ L s.heap news) (T : Top p loose mean mg mb h₀) (hk : cs.kind = .function) (hd : dp + d < recursionLimit) (hu : un + 8 * d < cLine)
    (ret : ∀ r n' h' tk', Out r n' → Fr h₀ L h' m → News h₀ L h' n' → Q r { s with heap := h', toks := tk' }) :
    wpAny (model PySem.Challenge.rw_sw0019_01.row.prog w) (ktrTop dp un gd cn cs L a ccd cl outer) (call (.ref f) vs) Q E s := C _ _ _ _ _ _ _ _ _ _ _ _ _ _ _ _ _ _ _ _ _ _ B F X N T hk hd hu ret
end

theorem range_size (n : Nat) : Builtin.Range.rangeSize 0 (n : Int) 1 = (n : Int) := by
  unfold Builtin.Range.rangeSize
  rw [if_pos (by decide)]
  split <;> omega
theorem range_small (n : Nat) (h : n ≤ 1000000) : Builtin.Range.small 0 (n : Int) 1 = true := by
  have e : ∀ k : Nat, k ≤ 1000000 → Builtin.Range.rangeFitsLong (k : Int) = true := fun k hk => by
    unfold Builtin.Range.rangeFitsLong
    rw [Bool.and_eq_true, decide_eq_true_eq, decide_eq_true_eq]; omega
  unfold Builtin.Range.small
  rw [range_size, e n h, if_pos (by decide), show (n : Int) + (1 - 1) = (n : Int) by omega, e n h, Bool.or_true]
  decide
theorem swap2 {α : Type} {a b : α} {l : List α} : ∀ p ∈ a :: b :: l, p ∈ b :: a :: l := fun p hp => by
  simp only [List.mem_cons] at hp ⊢; rcases hp with h | h | h <;> simp [h]
theorem ne_same {D I : Addr} {o o' : Obj} {l : List (Addr × Obj)} (h : ∀ p ∈ (D, o) :: l, p.1 ≠ I) : ∀ p ∈ (D, o') :: l, p.1 ≠ I := fun p hp => by
  rcases List.mem_cons.mp hp with rfl | hp
  · exact h (D, o) List.mem_cons_self
  · exact h p (List.mem_cons_of_mem _ hp)
theorem ne_cons {D I : Addr} {o oI : Obj} {l : List (Addr × Obj)} (h : ∀ p ∈ (D, o) :: l, p.1 ≠ I) (hl : ∀ p ∈ l, p.1 < D) : ∀ p ∈ (I, oI) :: l, p.1 ≠ D := fun p hp => by
  rcases List.mem_cons.mp hp with rfl | hp
  · exact fun q => h _ List.mem_cons_self q.symm
  · exact Nat.ne_of_lt (hl p hp)
theorem cell_off {L : Addr} {news : List (Addr × Obj)} (h : ∀ p ∈ news, p.1 < L) : ∀ p ∈ news, p.1 ≠ L + 1 := fun p hp => Nat.ne_of_lt (Nat.lt_succ_of_lt (h p hp))
theorem head_as {h₀ h : Heap} {L a : Addr} {o : Obj} {r : List (Addr × Obj)} (N : News h₀ L h ((a, o) :: r)) : ∃ b, b = a ∧ News h₀ L h ((b, o) :: r) := ⟨a, rfl, N⟩
theorem sub134 {α : Type} {a b c : α} {l : List α} : ∀ p ∈ a :: l, p ∈ a :: b :: c :: l := fun p hp => by
  simp only [List.mem_cons] at hp ⊢; rcases hp with h | h <;> simp [h]
theorem led_ints {h₀ h : Heap} {L T : Addr} {vs : List Value} {ns : List Int} {e : Nat} {r : List (Addr × Obj)} (N : News h₀ L h ((T, W.listOf vs.toArray e) :: r)) (hi : IntsAre vs ns) : ∃ vs' e', News h₀ L h ((T, W.listOf vs'.toArray e') :: r) ∧ IntsAre vs' ns := ⟨_, _, N, hi⟩
theorem range_size1 (n : Nat) (h : 0 < n) : Builtin.Range.rangeSize 1 (n : Int) 1 = ((n - 1 : Nat) : Int) := by
  unfold Builtin.Range.rangeSize
  rw [if_pos (by decide)]
  split <;> omega
theorem range_small1 (n : Nat) (h0 : 0 < n) (h : n ≤ 1000000) : Builtin.Range.small 1 (n : Int) 1 = true := by
  have e : ∀ k : Nat, k ≤ 1000000 → Builtin.Range.rangeFitsLong (k : Int) = true := fun k hk => by
    unfold Builtin.Range.rangeFitsLong
    rw [Bool.and_eq_true, decide_eq_true_eq, decide_eq_true_eq]; omega
  unfold Builtin.Range.small
  rw [range_size1 n h0, e n h, e (n - 1) (by omega), if_pos (by decide), show (n : Int) + (1 - 1) = (n : Int) by omega, e n h, Bool.or_true]
  decide
theorem off1_mem {D : Addr} : ∀ {l : List (Addr × Obj)}, LCg.Off1 D l → ∀ p ∈ l, p.1 ≠ D
  | [], _, _, h => nomatch h
  | _ :: _, x, p, h => by
    rcases List.mem_cons.mp h with rfl | h
    · exact x.1
    · exact off1_mem x.2 p h
theorem range_sizeD (n : Nat) : Builtin.Range.rangeSize (n : Int) 0 (-1) = (n : Int) := by
  unfold Builtin.Range.rangeSize
  rw [if_neg (by decide), show (-(-1) : Int) = 1 by decide]
  split <;> omega
theorem range_smallD (n : Nat) (h : n ≤ 1000000) : Builtin.Range.small (n : Int) 0 (-1) = true := by
  have e : ∀ k : Nat, k ≤ 1000000 → Builtin.Range.rangeFitsLong (k : Int) = true := fun k hk => by
    unfold Builtin.Range.rangeFitsLong
    rw [Bool.and_eq_true, decide_eq_true_eq, decide_eq_true_eq]; omega
  unfold Builtin.Range.small
  rw [range_sizeD, e n h, if_neg (by decide)]
  rw [show Builtin.Range.rangeFitsLong (0 + (-1 + 1)) = true by decide, Bool.or_true]
  decide
theorem sub13 {α : Type} {a b : α} {l : List α} : ∀ p ∈ a :: l, p ∈ a :: b :: l := fun p hp => by
  simp only [List.mem_cons] at hp ⊢; rcases hp with h | h <;> simp [h]
end
local macro_rules | `(tactic| k_room) => `(tactic| ktr_room)
local macro_rules | `(tactic| k_units) => `(tactic| ktr_units)
local macro_rules | `(tactic| is_list) => `(tactic| exact News.isList (by k_asm) (by k_mem))
local macro_rules | `(tactic| ktr_enter) => `(tactic| (kp_kind "kwonly"; (refine' code_def ?k1 ?k2 ?k3 ?k4 ?k5 ?kA ?kF ?kK ?k6 ?k7 ?k8 ?k9 ?kB ?_ ?c2 ?c3 ?c4 ?c5; (case kA => exact rfl); (case kF => exact rfl); (case kK => assumption); (case k1 => k_asm); (case k2 => k_asm); (case k3 => k_asm); (case k4 => k_asm); (case k5 => k_asm); (case k6 => k_is); (case k7 => k_is); (case k8 => ktr_room); (case k9 => (refine' kp_binds ?kx ?ke; (case kx => k_in); (case ke => exact fun _ => rfl))); (case c5 => decide); (case kB => exact locs rfl); (case c2 => exact rfl); (case c3 => exact rfl); (case c4 => exact rfl); k_whole; intro g' L' h' FG' F' N' B' X' T'; (try dsimp only); (try k_fold))))
local macro_rules | `(tactic| walk_at "exec For Name Call cons nil") => `(tactic| ((with_reducible rename Hold True => hS9); refine Hold.out ?_))
local macro_rules | `(tactic| walk_at "exec For Name Name cons nil") => `(tactic| ((with_reducible rename Hold True => hS9); refine Hold.out ?_))
local macro_rules | `(tactic| walk_at "exec For") => `(tactic| ((with_reducible rename Hold True => hS9); refine Hold.out ?_))
local macro_rules | `(tactic| walk_at "exec While Compare cons nil") => `(tactic| ((with_reducible rename Hold True => hS9); refine Hold.out ?_))
local macro_rules | `(tactic| walk_at "pyIter ref") => `(tactic| ((with_reducible rename Hold True => hS9); refine Hold.out ?_))
local macro_rules | `(tactic| k_mem) => `(tactic| first | exact List.mem_cons_of_mem _ (by assumption) | exact List.mem_cons_of_mem _ (List.mem_cons_of_mem _ (by assumption)) | exact List.mem_cons_of_mem _ (List.mem_cons_of_mem _ (List.mem_cons_of_mem _ (by assumption))) | exact List.mem_cons_of_mem _ (List.mem_cons_of_mem _ (List.mem_cons_of_mem _ (List.mem_cons_of_mem _ (by assumption)))))
local macro_rules | `(tactic| ktr_enter) => `(tactic| ((refine' code_defC ?k1 ?k2 ?k3 ?k4 ?k5 ?kA ?kF ?kK ?k6 ?k7 ?k8 ?k9 ?kB ?kD ?_ ?c2 ?c3 ?c4; (case kA => exact rfl); (case kF => exact rfl); (case kK => assumption); (case k1 => k_asm); (case k2 => k_asm); (case k3 => k_asm); (case k4 => k_asm); (case k5 => k_asm); (case k6 => k_is); (case k7 => k_is); (case k8 => ktr_room); (case k9 => exact BindsTo.of_eq rfl); (case kB => exact rfl); (case kD => decide +kernel); (case c2 => exact rfl); (case c3 => exact rfl); (case c4 => exact rfl); k_whole); (fail_if_success (with_reducible rename Hold False => hNC)); intro g' L' h' tk' cells' FG' F' N' Y' B' X' T' l1; k_cells Y'; (try simp only [List.cons_append, List.nil_append] at N'); (try dsimp only); (try k_fold)))
local macro_rules | `(tactic| k_all) => `(tactic| assumption)
local macro_rules | `(tactic| walk_at "compareOp NotEq ref ref") => `(tactic| ((with_reducible rename Hold True => hS9); k_here; (with_unfolding_all refine' ne_intsK ?k1 ?k2 ?k3 ?k4 ?k5 ?_; (case k1 => is_list); (case k2 => l_ints); (case k3 => is_list); (case k4 => l_ints); (case k5 => ktr_units))))
local macro_rules | `(tactic| walk_at "compareOp Eq ref ref") => `(tactic| ((with_reducible rename Hold True => hS9); k_here; (with_unfolding_all refine' eq_intsK ?k1 ?k2 ?k3 ?k4 ?k5 ?_; (case k1 => is_list); (case k2 => l_ints); (case k3 => is_list); (case k4 => l_ints); (case k5 => ktr_units))))
local macro_rules | `(tactic| walk_at "exec Assign cons ListComp") => `(tactic| ((with_reducible rename Hold True => hS9); refine Hold.out ?_))
local macro_rules | `(tactic| walk_at "eval ListComp") => `(tactic| ((with_reducible rename Hold True => hS9); refine Hold.out ?_))
local macro_rules | `(tactic| walk_at "call type:range") => `(tactic| ((with_reducible rename Hold True => hS9); (rename Fr _ _ _ _ => F'); (rename News _ _ _ _ => N'); first | (with_unfolding_all refine range1_rows F' N' ?_; intro _ _ _ _ _ _ _ _ _) | (with_unfolding_all refine range2_rows F' N' ?_; intro _ _ _ _ _ _ _ _ _) | (with_unfolding_all refine range3_rows F' N' (by first | decide | omega) ?_; intro _ _ _ _ _ _)))
local macro_rules | `(tactic| walk_at "CompSrc") => `(tactic| ((with_reducible rename Hold True => hS9); refine Hold.out ?_))
local macro_rules | `(tactic| walk_at "exec Assign cons DictComp") => `(tactic| ((with_reducible rename Hold True => hS9); refine Hold.out ?_))
local macro_rules | `(tactic| walk_at "exec For Tuple Call cons nil") => `(tactic| ((with_reducible rename Hold True => hS9); refine Hold.out ?_))
local macro_rules | `(tactic| walk_at "exec For Tuple Call") => `(tactic| ((with_reducible rename Hold True => hS9); refine Hold.out ?_))
local macro_rules | `(tactic| walk_at "call type:zip") => `(tactic| ((with_reducible rename Hold True => hS9); refine Hold.out ?_))
local macro_rules | `(tactic| walk_at "call type:enumerate") => `(tactic| ((with_reducible rename Hold True => hS9); refine Hold.out ?_))
-- part Loops
section
section
variable {prog : Program} {w : World} {A : Around} {E : Value → Shared → Prop} {s : Shared} {env : Env} {h₀ : Heap} {x : Str} {body : List Stmt} {Q : Flow → Shared → Prop}
/-- the end of a turn: the iterator stands, what is to keep stands, the word holds -/
def TEnd (h₀ : Heap) (L : Addr) (p : Addr × Obj) (keep : List (Addr × Obj)) (J : (Str → Option Value) → List (Addr × Obj) → Prop) (s₁ s₂ : Shared) : Prop :=
  ∃ h' tk m' nx, s₂ = { s₁ with heap := h', toks := tk } ∧ Fr h₀ L h' m' ∧ News h₀ L h' (p :: nx) ∧ (∀ q ∈ nx, q.1 ≠ p.1) ∧ (∀ q ∈ keep, q ∈ nx) ∧ J m' nx
def TPost (h₀ : Heap) (L : Addr) (p : Addr × Obj) (keep : List (Addr × Obj)) (J : (Str → Option Value) → List (Addr × Obj) → Prop) (s₁ : Shared) (Q : Flow → Shared → Prop) (f : Flow) (s₂ : Shared) : Prop :=
  match f with
  | .ret v => Q (.ret v) s₂
  | .brk => Q .next s₂
  | _ => TEnd h₀ L p keep J s₁ s₂
theorem TEnd.intro {L : Addr} {p : Addr × Obj} {keep : List (Addr × Obj)} {J : (Str → Option Value) → List (Addr × Obj) → Prop} {s₁ : Shared} {h' : Heap} {tk : Nat} {m' : Str → Option Value} {nx : List (Addr × Obj)}
    (F : Fr h₀ L h' m') (N : News h₀ L h' (p :: nx)) (hne : ∀ q ∈ nx, q.1 ≠ p.1) (hk : ∀ q ∈ keep, q ∈ nx) (hj : J m' nx) : TEnd h₀ L p keep J s₁ { s₁ with heap := h', toks := tk } := ⟨h', tk, m', nx, rfl, F, N, hne, hk, hj⟩

theorem loop_keep {I : Addr} {fp : List Addr} {n : Nat} {P : Nat → Value → Prop} {St : Nat → Heap → Prop} {m₀ : Str → Option Value} {news keep : List (Addr × Obj)} (J : Nat → (Str → Option Value) → List (Addr × Obj) → Prop)
    (W : Walks prog w A I fp [I] n P St) (hIo : ∀ i h, St i h → ∃ o, h.get? I = some o) (hfp : ∀ b ∈ fp, b = I ∨ ∃ o, (b, o) ∈ keep) (hI0 : h₀.get? I = none) (hIL : env.locals ≠ I) (hIn : ∀ p ∈ news, p.1 ≠ I)
    (hk : ∀ p ∈ keep, p ∈ news) (hst : St 0 s.heap) (F : Fr h₀ env.locals s.heap m₀) (N : News h₀ env.locals s.heap news) (hj : J 0 m₀ news)
    (turn : ∀ i v m₁ nx h tk oI, i < n → P i v → (∀ p ∈ keep, p ∈ nx) → (∀ p ∈ nx, p.1 ≠ I) → J i m₁ nx → Fr h₀ env.locals h (fun y => if y = x then some v else m₁ y) → News h₀ env.locals h ((I, oI) :: nx) →
      wpAny (model prog w) A (execs body env) (TPost h₀ env.locals (I, oI) keep (J (i + 1)) { s with heap := h, toks := tk } Q) E { s with heap := h, toks := tk })
    (done : ∀ m₁ nx h tk, (∀ p ∈ keep, p ∈ nx) → J n m₁ nx → Fr h₀ env.locals h m₁ → News h₀ env.locals h nx → Q .next { s with heap := h, toks := tk }) :
    LoopAtV prog w A h₀ env x body Q E (.ref I) s := by
  have hIf : I ∈ fp := W.sub I (List.mem_singleton.mpr rfl)
  have hLf : env.locals ∉ fp := by
    intro hL
    rcases hfp _ hL with e | ⟨o, ho⟩
    · exact hIL e
    · exact (N _ (hk _ ho)).2.1 rfl
  refine ⟨I, fp, [I], n, P, St, m₀, news, fun i m nx => (∀ p ∈ keep, p ∈ nx) ∧ J i m nx, rfl, W, hLf, fun b hb => (List.mem_singleton.mp hb) ▸ hI0, fun p hp hI => hIn p hp (List.mem_singleton.mp hI), hst, F, N, ⟨hk, hj⟩, ?_, ?_⟩
  · rintro i v m₁ nx s₁ own ⟨h, tk, rfl⟩ hi hP ⟨hk₁, hJ⟩ hoff hown hget hall hst₁ F₁ N₁
    obtain ⟨oI, hoI⟩ := hIo _ _ hst₁
    have hIown : (I, oI) ∈ own := hall I hIf hI0 oI hoI
    have hne : ∀ p ∈ nx, p.1 ≠ I := fun p hp e => hoff p hp (List.mem_singleton.mpr e)
    have N₂ : News h₀ env.locals h ((I, oI) :: nx) := fun p hp => by
      rcases List.mem_cons.mp hp with rfl | hp
      · exact N₁ _ (List.mem_append_left _ hIown)
      · exact N₁ _ (List.mem_append_right _ hp)
    refine wpAny_mono (turn i v m₁ nx h tk oI hi hP hk₁ hne hJ F₁ N₂) (fun f s₂ q => ?_) fun _ _ e => e
    have fin : TEnd h₀ env.locals (I, oI) keep (J (i + 1)) { s with heap := h, toks := tk } s₂ → LoopStepU h₀ env.locals [I] own (fun m nx => (∀ p ∈ keep, p ∈ nx) ∧ J (i + 1) m nx) { s with heap := h, toks := tk } .next s₂ := by
      rintro ⟨h', tk', m', nx', e, F', N', hne', hk', hj'⟩
      refine ⟨rfl, h', tk', m', nx', e, F', fun p hp => ?_, fun p hp hI => hne' p hp (List.mem_singleton.mp hI), hk', hj'⟩
      rcases List.mem_append.mp hp with hp | hp
      · rcases hfp p.1 (hown p hp) with e1 | ⟨o, ho⟩
        · have e2 : p = (I, oI) := by
            have := hget p hp
            rw [e1] at this
            exact Prod.ext e1 (Option.some.inj (this.symm.trans hoI))
          rw [e2]; exact N' _ List.mem_cons_self
        · have e2 : p = (p.1, o) := Prod.ext rfl (Option.some.inj ((hget p hp).symm.trans (N₁ _ (List.mem_append_right _ (hk₁ _ ho))).1))
          rw [e2]; exact N' _ (List.mem_cons_of_mem _ (hk' _ ho))
      · exact N' _ (List.mem_cons_of_mem _ hp)
    cases f with
    | ret v => exact .ret q
    | brk => exact .brk q
    | next => exact .next (fin q)
    | cont => exact .cont (fin q)
  · rintro h' tk m' nx F' N' _ ⟨hk', hJ⟩
    exact done m' nx h' tk hk' hJ F' N'

theorem range_loop {r : Addr} {a₀ b₀ : Int} {t₀ u₀ v₀ : Tok} {n : Nat} {m₀ : Str → Option Value} {news : List (Addr × Obj)} (J : Nat → (Str → Option Value) → List (Addr × Obj) → Prop)
    (hh : A.handled = none) (hr : IsRange s.heap r a₀ b₀ 1 t₀ u₀ v₀) (hsmall : Builtin.Range.small a₀ b₀ 1 = true) (hn : Builtin.Range.rangeSize a₀ b₀ 1 = (n : Int)) (F : Fr h₀ env.locals s.heap m₀) (N : News h₀ env.locals s.heap news) (hj : J 0 m₀ news)
    (turn : ∀ i t m₁ nx h tk I oI, i < n → (∀ p ∈ nx, p.1 ≠ I) → J i m₁ nx → Fr h₀ env.locals h (fun y => if y = x then some (.int (a₀ + (i : Int)) t) else m₁ y) → News h₀ env.locals h ((I, oI) :: nx) →
      wpAny (model prog w) A (execs body env) (TPost h₀ env.locals (I, oI) [] (J (i + 1)) { s with heap := h, toks := tk } Q) E { s with heap := h, toks := tk })
    (done : ∀ m₁ nx h tk, J n m₁ nx → Fr h₀ env.locals h m₁ → News h₀ env.locals h nx → Q .next { s with heap := h, toks := tk }) :
    wpAny (model prog w) A (pyIter (.ref r)) (fun it s₂ => LoopAtV prog w A h₀ env x body Q E it s₂) E s := by
  refine wpAny_pyIter_range hr hsmall ?_
  have W : Walks prog w A s.heap.objs.size [s.heap.objs.size] [s.heap.objs.size] n (fun i v => i < n ∧ ∃ t, v = .int (a₀ + i * 1) t)
      (fun i h => IsRangeIter h s.heap.objs.size (a₀ + (i : Nat) * 1) ((n : Int) - (i : Nat)) 1) := (Walks.range hh _ a₀ 1 n).bound
  refine loop_keep (keep := []) J W (fun i h st => ⟨_, st⟩) (fun b hb => .inl (List.mem_singleton.mp hb)) (next_is_new F) (Nat.ne_of_lt F.ns.lt) (fun p hp => Nat.ne_of_lt (Heap.lt_size (N p hp).1)) (fun p hp => nomatch hp)
    (by show IsRangeIter _ _ _ _ _; rw [hn]; simpa using Heap.get?_push_size _ rfl) (F.push _) (fun p hp => ⟨Heap.get?_push_of_some _ (N p hp).1, (N p hp).2⟩) hj ?_ (fun m₁ nx h tk _ => done m₁ nx h tk)
  rintro i v m₁ nx h tk oI hi ⟨_, t, rfl⟩ _ hne hJ F₁ N₁
  rw [Int.mul_one] at F₁
  exact turn i t m₁ nx h tk _ oI hi hne hJ F₁ N₁

theorem list_loop {l : Addr} {o : Obj} {vs : List Value} {k : Nat} {m₀ : Str → Option Value} {news : List (Addr × Obj)} (J : Nat → (Str → Option Value) → List (Addr × Obj) → Prop)
    (hh : A.handled = none) (hl : (l, o) ∈ news) (ho : o = W.listOf vs.toArray k) (F : Fr h₀ env.locals s.heap m₀) (N : News h₀ env.locals s.heap news) (hj : J 0 m₀ news)
    (turn : ∀ i v m₁ nx h tk I oI, vs[i]? = some v → (l, o) ∈ nx → (∀ p ∈ nx, p.1 ≠ I) → J i m₁ nx → Fr h₀ env.locals h (fun y => if y = x then some v else m₁ y) → News h₀ env.locals h ((I, oI) :: nx) →
      wpAny (model prog w) A (execs body env) (TPost h₀ env.locals (I, oI) [(l, o)] (J (i + 1)) { s with heap := h, toks := tk } Q) E { s with heap := h, toks := tk })
    (done : ∀ m₁ nx h tk, (l, o) ∈ nx → J vs.length m₁ nx → Fr h₀ env.locals h m₁ → News h₀ env.locals h nx → Q .next { s with heap := h, toks := tk }) :
    wpAny (model prog w) A (pyIter (.ref l)) (fun it s₂ => LoopAtV prog w A h₀ env x body Q E it s₂) E s := by
  have hol : s.heap.get? l = some o := (N _ hl).1
  have hls : s.heap.IsList l vs.toArray := ⟨_, hol, by rw [ho], k, by rw [ho]⟩
  have hne : l ≠ s.heap.objs.size := Nat.ne_of_lt (Heap.lt_size hol)
  refine wpAny_pyIter_list hls ?_
  have W := Walks.list (prog := prog) (w := w) hh s.heap.objs.size l hne vs.toArray
  rw [List.size_toArray] at W
  refine loop_keep (keep := [(l, o)]) J W (fun i h st => by obtain ⟨⟨o, e, _⟩, _⟩ := st; exact ⟨o, e⟩) ?_ (next_is_new F) (Nat.ne_of_lt F.ns.lt) (fun p hp => Nat.ne_of_lt (Heap.lt_size (N p hp).1)) (fun p hp => (List.mem_singleton.mp hp) ▸ hl)
    ⟨⟨_, Heap.get?_push_size _ rfl, rfl, rfl⟩, hls.at fun o e => Heap.get?_push_of_some _ e⟩ (F.push _) (fun p hp => ⟨Heap.get?_push_of_some _ (N p hp).1, (N p hp).2⟩) hj ?_ (fun m₁ nx h tk hk => done m₁ nx h tk (hk _ (List.mem_singleton.mpr rfl)))
  · intro b hb
    rcases List.mem_cons.mp hb with e | hb
    · exact .inl e
    · exact .inr ⟨o, by rw [List.mem_singleton.mp hb]; exact List.mem_singleton.mpr rfl⟩
  · intro i v m₁ nx h tk oI hi hP hk hne' hJ F₁ N₁
    exact turn i v m₁ nx h tk _ oI (by simpa using hP) (hk _ (List.mem_singleton.mpr rfl)) hne' hJ F₁ N₁

theorem dict_loop {d : Addr} {o : Obj} {kvs : List (Int × Value)} {ep : Nat} {m₀ : Str → Option Value} {news : List (Addr × Obj)} (J : Nat → (Str → Option Value) → List (Addr × Obj) → Prop)
    (hh : A.handled = none) (hds : (d == sysModules) = false) (hl : (d, o) ∈ news) (hd : s.heap.DictAt (intKind prog w) d kvs ep) (F : Fr h₀ env.locals s.heap m₀) (N : News h₀ env.locals s.heap news) (hj : J 0 m₀ news)
    (turn : ∀ i k y t m₁ nx h tk I oI, kvs[i]? = some (k, y) → (d, o) ∈ nx → (∀ p ∈ nx, p.1 ≠ I) → J i m₁ nx → Fr h₀ env.locals h (fun y => if y = x then some (.int k t) else m₁ y) → News h₀ env.locals h ((I, oI) :: nx) →
      wpAny (model prog w) A (execs body env) (TPost h₀ env.locals (I, oI) [(d, o)] (J (i + 1)) { s with heap := h, toks := tk } Q) E { s with heap := h, toks := tk })
    (done : ∀ m₁ nx h tk, (d, o) ∈ nx → J kvs.length m₁ nx → Fr h₀ env.locals h m₁ → News h₀ env.locals h nx → Q .next { s with heap := h, toks := tk }) :
    wpAny (model prog w) A (pyIter (.ref d)) (fun it s₂ => LoopAtV prog w A h₀ env x body Q E it s₂) E s := by
  have hol : s.heap.get? d = some o := (N _ hl).1
  have hne : d ≠ s.heap.objs.size := Nat.ne_of_lt (Heap.lt_size hol)
  refine wpAny_pyIter_dict hds hd ?_
  have W := Walks.dictKeys (knd := intKind prog w) hh s.heap.objs.size d hne kvs ep
  refine loop_keep (keep := [(d, o)]) J W (fun i h st => by obtain ⟨⟨o, e, _⟩, _⟩ := st; exact ⟨o, e⟩) ?_ (next_is_new F) (Nat.ne_of_lt F.ns.lt) (fun p hp => Nat.ne_of_lt (Heap.lt_size (N p hp).1)) (fun p hp => (List.mem_singleton.mp hp) ▸ hl)
    ⟨⟨_, Heap.get?_push_size _ rfl, rfl, rfl⟩, hd.push _⟩ (F.push _) (fun p hp => ⟨Heap.get?_push_of_some _ (N p hp).1, (N p hp).2⟩) hj ?_ (fun m₁ nx h tk hk => done m₁ nx h tk (hk _ (List.mem_singleton.mpr rfl)))
  · intro b hb
    rcases List.mem_cons.mp hb with e | hb
    · exact .inl e
    · exact .inr ⟨o, by rw [List.mem_singleton.mp hb]; exact List.mem_singleton.mpr rfl⟩
  · rintro i v m₁ nx h tk oI hi ⟨k, y, hx, hk'⟩ hk hne' hJ F₁ N₁
    obtain ⟨t, rfl⟩ := Value.isInt_shape hk'
    exact turn i k y t m₁ nx h tk _ oI hx (hk _ (List.mem_singleton.mpr rfl)) hne' hJ F₁ N₁
end

section
open PyProof.Rows.LCg
variable {prog : Program} {w : World} {A : Around} {E : Value → Shared → Prop} {s : Shared} {h₀ : Heap} {L : Addr} {m : Str → Option Value} {env : Env}
/-- a comprehension of any length by a word over the turn's number, what is made so far, the ledger -/
theorem comp_inv {elt : PySem.Expr} {x : Str} {scope : Scope} {cl : List (Str × Addr)} {S : List (Addr × Obj) → Prop} {P : Nat → Value → Prop} {Fin : List Value → List (Addr × Obj) → Prop} {n : Nat} (G : Nat → List Value → List (Addr × Obj) → Prop)
    (step : ∀ i ys news v I oI C oC D m₂ h tk (E' : Value → Shared → Prop), i < n → G i ys news → P i v → NsObj oC m₂ → m₂ x = some v → Fr h₀ L h m → News h₀ L h ((I, oI) :: (C, oC) :: (D, lst ys) :: news) → Off3 I C D news → ((@Ne Nat I C) ∧ (@Ne Nat I D) ∧ (@Ne Nat C D)) →
      wpAny (model prog w) A (eval elt (compEnvC scope cl C env)) (CompEnd h₀ L m { s with heap := h, toks := tk } I oI C oC D (lst ys) S (fun y news' => G (i + 1) (ys ++ [y]) news')) E' { s with heap := h, toks := tk })
    (fin : ∀ ys news, G n ys news → Fin ys news) : ∀ k i ys news, i + k = n → G i ys news → CompRest prog w A h₀ L m env elt x scope cl s S P Fin k i ys news := by
  intro k
  induction k with
  | zero =>
    intro i ys news hi hG
    have e : i = n := by omega
    subst e
    exact CompRest.zero (fin ys news hG)
  | succ k ih =>
    intro i ys news hi hG
    refine CompRest.succ ?_
    intro v I oI C oC D m₂ h tk E' hP hC hx F N off hne
    refine wpAny_mono (step i ys news v I oI C oC D m₂ h tk E' (by omega) hG hP hC hx F N off hne) (fun y s₂ q => ?_) fun _ _ e => e
    obtain ⟨h', tk', news', e, F', N', off', hS, hG'⟩ := q
    exact ⟨h', tk', news', e, F', N', off', hS, ih (i + 1) (ys ++ [y]) news' (by omega) hG'⟩
end
end
-- part Bis
section
def brLoop (ns : List Int) (x : Int) : Nat → Nat → Nat → Nat
  | 0, lo, _ => lo
  | f + 1, lo, hi => if lo < hi then (if x < ns.getD ((lo + hi) / 2) 0 then brLoop ns x f lo ((lo + hi) / 2) else brLoop ns x f ((lo + hi) / 2 + 1) hi) else lo

theorem brLoop_fuel (ns : List Int) (x : Int) : ∀ (f g lo hi : Nat), hi - lo ≤ f → hi - lo ≤ g → brLoop ns x f lo hi = brLoop ns x g lo hi
  | 0, 0, _, _, _, _ => rfl
  | 0, g + 1, lo, hi, h, _ => by rw [brLoop, brLoop, if_neg (by omega)]
  | f + 1, 0, lo, hi, _, h => by rw [brLoop, brLoop, if_neg (by omega)]
  | f + 1, g + 1, lo, hi, h1, h2 => by
    rw [brLoop, brLoop]
    split
    · split
      · exact brLoop_fuel ns x f g _ _ (by omega) (by omega)
      · exact brLoop_fuel ns x f g _ _ (by omega) (by omega)
    · rfl
theorem fdiv_nat2 (a b : Nat) : ((a : Int) + (b : Int)).fdiv 2 = (((a + b) / 2 : Nat) : Int) := by
  rw [Int.fdiv_eq_ediv_of_nonneg _ (by omega)]; omega
theorem bisect_right_c {w : World} {news : List (Addr × Obj)} (l : Addr) (vs : List Value) (ns : List Int) (e : Nat) (x : Int) (t tz : Tok)
  (hl : (l, (W.listOf vs.toArray e)) ∈ news) (hi : IntsAre vs ns) (hlen : ns.length ≤ 1000) :
  CTell w 66 [.ref l, .int x t, .int 0 tz, .none] 2 news (fun r n' => n' = news ∧ ∃ t, r = .int (brLoop ns x ns.length 0 ns.length : Nat) t) := by
  unfold CTell
  k_fill
  intro p loose mean mg mb dp un gd cn cs a ccd cl outer A₀ base h₀ L m s Q E B F X N T hk hd hu ret
  refine wpAny_call ?_
  k_dflt ktr_enter
  clear B F X N T hk
  rename Fr _ _ _ _ => F1
  replace F1 := fr_as F1 (m' := fun y => if y = "key" then some (.none) else if y = "hi" then some (.none) else if y = "lo" then some (.int 0 tz) else if y = "x" then some (.int x t) else if y = "a" then some (.ref l) else none) (fun y => (lk_eq _ y).trans (by with_unfolding_all rfl))
  k_with "exec While Compare cons nil" => refine Hold.out ?_
  k_steps
  refine (Hold.mk ?_ : Hold _)
  rename Fr _ _ _ _ => F1
  rename News _ _ _ _ => N1
  refine While_inv (n₀ := ns.length) (fun n m' n' => n' = news ∧ ∃ (lo hi : Nat), n = hi - lo ∧ hi ≤ ns.length ∧ brLoop ns x (hi - lo) lo hi = brLoop ns x ns.length 0 ns.length ∧
    (∃ t, m' "lo" = some (.int lo t)) ∧ (∃ t, m' "hi" = some (.int hi t)) ∧ (∀ y : Str, y ≠ "lo" → y ≠ "hi" → y ≠ "mid" → m' y = (fun (y : Str) => if y = "key" then some .none else if y = "x" then some (.int x t) else if y = "a" then some (.ref l) else none) y)) F1 N1
    ⟨rfl, 0, ns.length, rfl, Nat.le_refl _, rfl, ⟨⟨_, by with_unfolding_all rfl⟩, ⟨_, by with_unfolding_all rfl⟩, (by intro y q0 q1 q2; simp only [q0, q1, q2, if_false])⟩⟩ ?_ (by first | passes_own | with_unfolding_all passes_own)
  · rintro n m₁ news₁ h₁ tk₁ F2 N2 ⟨rfl, lo, hi, rfl, hhi, hbr, hm⟩
    obtain ⟨⟨t_lo, e_lo⟩, ⟨t_hi, e_hi⟩, e_rest⟩ := hm; replace F2 := fr_as F2 (m' := fun (y : Str) => if y = "lo" then some (.int lo t_lo) else if y = "hi" then some (.int hi t_hi) else if y = "mid" then m₁ "mid" else (fun (y : Str) => if y = "key" then some .none else if y = "x" then some (.int x t) else if y = "a" then some (.ref l) else none) y) (by intro y; (by_cases q0 : y = "lo"); (subst q0; rw [if_pos rfl]; exact e_lo); rw [if_neg q0]; (by_cases q1 : y = "hi"); (subst q1; rw [if_pos rfl]; exact e_hi); rw [if_neg q1]; (by_cases q2 : y = "mid"); (subst q2; rw [if_pos rfl]); rw [if_neg q2]; exact e_rest y q0 q1 q2)
    clear F1 N1
    k_steps
    · rename Fr _ _ _ _ => F3
      rw [fdiv_nat2] at F3
      rename x < _ => hx
      rw [fdiv_nat2, Int.toNat_natCast] at hx
      refine WhileStep.intro (n' := (lo + hi) / 2 - lo) F3 (by assumption) (by omega) ⟨rfl, lo, (lo + hi) / 2, rfl, by omega, ?_, ⟨⟨_, by with_unfolding_all rfl⟩, ⟨_, by with_unfolding_all rfl⟩, (by intro y q0 q1 q2; simp only [q0, q1, q2, if_false])⟩⟩
      rw [← hbr, show hi - lo = (hi - lo - 1) + 1 by omega, brLoop, if_pos (by omega), if_pos hx]
      exact brLoop_fuel _ _ _ _ _ _ (by omega) (by omega)
    · rename Fr _ _ _ _ => F3
      rw [fdiv_nat2] at F3
      rename ¬ x < _ => hx
      rw [fdiv_nat2, Int.toNat_natCast] at hx
      refine WhileStep.intro (n' := hi - ((lo + hi) / 2 + 1)) F3 (by assumption) (by omega) ⟨rfl, (lo + hi) / 2 + 1, hi, rfl, by omega, ?_, ⟨⟨_, by with_unfolding_all rfl⟩, ⟨_, by with_unfolding_all rfl⟩, (by intro y q0 q1 q2; simp only [q0, q1, q2, if_false])⟩⟩
      rw [← hbr, show hi - lo = (hi - lo - 1) + 1 by omega, brLoop, if_pos (by omega), if_neg hx]
      exact brLoop_fuel _ _ _ _ _ _ (by omega) (by omega)
    · dsimp only
      k_steps
      have e9 : brLoop ns x ns.length 0 ns.length = lo := by
        rw [← hbr, show hi - lo = 0 by omega]; rfl
      exact leaveK_ (by assumption) (by assumption) fun F9 N9 => ret _ _ _ _ ⟨rfl, _, by rw [e9]⟩ F9 N9

theorem brLoop_le (ns : List Int) (x : Int) : ∀ (f lo hi : Nat), lo ≤ hi → brLoop ns x f lo hi ≤ hi
  | 0, lo, hi, h => by rw [brLoop]; exact h
  | f + 1, lo, hi, h => by
    rw [brLoop]
    split
    · split
      · exact Nat.le_trans (brLoop_le ns x f _ _ (by omega)) (by omega)
      · exact brLoop_le ns x f _ _ (by omega)
    · exact h
def ins (ns : List Int) (x : Int) : List Int := ns.take (brLoop ns x ns.length 0 ns.length) ++ x :: ns.drop (brLoop ns x ns.length 0 ns.length)
theorem insort_right_c {w : World} {rest : List (Addr × Obj)} (l : Addr) (vs : List Value) (ns : List Int) (e : Nat) (x : Int) (t : Tok)
  (hrest : ∀ p ∈ rest, p.1 ≠ l) (hi : IntsAre vs ns) (hlen : ns.length ≤ 1000) :
  CTell w 57 [.ref l, .int x t] 3 ((l, (W.listOf vs.toArray e)) :: rest) (fun r n' => r = .none ∧ ∃ vs' e', n' = (l, W.listOf vs'.toArray e') :: rest ∧ IntsAre vs' (ins ns x)) := by
  unfold CTell
  k_fill
  intro p loose mean mg mb dp un gd cn cs a ccd cl outer A₀ base h₀ L m s Q E B F X N T hk hd hu ret
  refine wpAny_call ?_
  k_dflt ktr_enter
  clear B F X N T hk
  rename Fr _ _ _ _ => F1
  replace F1 := fr_as F1 (m' := fun y => if y = "key" then some (.none) else if y = "hi" then some (.none) else if y = "lo" then some (.int 0 _) else if y = "x" then some (.int x t) else if y = "a" then some (.ref l) else none) (fun y => (lk_eq _ y).trans (by with_unfolding_all rfl))
  k_with "call ref" => (k_dflt (refine' ctell_use (bisect_right_c (w := w) l vs ns e x t _ (List.mem_cons_self ..) hi hlen) ?uB ?uF ?uX ?uN ?uT ?uK ?uD ?uU ?_; (case uB => k_asm); (case uF => k_asm); (case uX => k_asm); (case uN => k_asm); (case uT => k_asm); (case uK => first | exact rfl | assumption); (case uD => ktr_room); (case uU => ktr_units)); intro r9 n9 h9 tk9 o9 F9 N9; (obtain ⟨e9, t9, e9'⟩ := o9); subst e9; subst e9')
  k_steps
  rename Fr _ _ _ _ => F1
  rename News _ _ _ _ => N1
  have hlen' := hi.length
  have hb := brLoop_le ns x ns.length 0 ns.length (Nat.zero_le _)
  refine kl_insert (l := vs.take (brLoop ns x ns.length 0 ns.length) ++ .int x t :: vs.drop (brLoop ns x ns.length 0 ns.length)) F1 N1 ?_ ?_ (Upd.head hrest) ?_ ?_
  · simp only [Builtin.List.listFitsIndex, Bool.and_eq_true, decide_eq_true_eq]; omega
  · show kl_ins vs _ _ = _
    unfold kl_ins
    rw [if_neg (by omega), Int.toNat_natCast, Nat.min_eq_left (by omega)]
  · show vs.length ≤ sizeLine
    rw [sizeLine_eq]; omega
  intro h2 F2 N2
  dsimp only
  k_steps
  exact leaveK_ (by assumption) (by assumption) fun F9 N9 => ret _ _ _ _ ⟨rfl, _, _, rfl, IntsAre.append (hi.take _) (.cons _ _ (hi.drop _))⟩ F9 N9

def blLoop (ns : List Int) (x : Int) : Nat → Nat → Nat → Nat
  | 0, lo, _ => lo
  | f + 1, lo, hi => if lo < hi then (if ns.getD ((lo + hi) / 2) 0 < x then blLoop ns x f ((lo + hi) / 2 + 1) hi else blLoop ns x f lo ((lo + hi) / 2)) else lo
theorem blLoop_fuel (ns : List Int) (x : Int) : ∀ (f g lo hi : Nat), hi - lo ≤ f → hi - lo ≤ g → blLoop ns x f lo hi = blLoop ns x g lo hi
  | 0, 0, _, _, _, _ => rfl
  | 0, g + 1, lo, hi, h, _ => by rw [blLoop, blLoop, if_neg (by omega)]
  | f + 1, 0, lo, hi, _, h => by rw [blLoop, blLoop, if_neg (by omega)]
  | f + 1, g + 1, lo, hi, h1, h2 => by
    rw [blLoop, blLoop]
    split
    · split
      · exact blLoop_fuel ns x f g _ _ (by omega) (by omega)
      · exact blLoop_fuel ns x f g _ _ (by omega) (by omega)
    · rfl
theorem bisect_left_c {w : World} {news : List (Addr × Obj)} (l : Addr) (vs : List Value) (ns : List Int) (e : Nat) (x : Int) (t : Tok)
  (hl : (l, (W.listOf vs.toArray e)) ∈ news) (hi : IntsAre vs ns) (hlen : ns.length ≤ 1000) :
  CTell w 75 [.ref l, .int x t] 2 news (fun r n' => n' = news ∧ ∃ t, r = .int (blLoop ns x ns.length 0 ns.length : Nat) t) := by
  unfold CTell
  k_fill
  intro p loose mean mg mb dp un gd cn cs a ccd cl outer A₀ base h₀ L m s Q E B F X N T hk hd hu ret
  refine wpAny_call ?_
  k_dflt ktr_enter
  clear B F X N T hk
  rename Fr _ _ _ _ => F1
  replace F1 := fr_as F1 (m' := fun y => if y = "key" then some (.none) else if y = "hi" then some (.none) else if y = "lo" then some (.int 0 _) else if y = "x" then some (.int x t) else if y = "a" then some (.ref l) else none) (fun y => (lk_eq _ y).trans (by with_unfolding_all rfl))
  k_with "exec While Compare cons nil" => refine Hold.out ?_
  k_steps
  refine (Hold.mk ?_ : Hold _)
  rename Fr _ _ _ _ => F1
  rename News _ _ _ _ => N1
  refine While_inv (n₀ := ns.length) (fun n m' n' => n' = news ∧ ∃ (lo hi : Nat), n = hi - lo ∧ hi ≤ ns.length ∧ blLoop ns x (hi - lo) lo hi = blLoop ns x ns.length 0 ns.length ∧
    (∃ t, m' "lo" = some (.int lo t)) ∧ (∃ t, m' "hi" = some (.int hi t)) ∧ (∀ y : Str, y ≠ "lo" → y ≠ "hi" → y ≠ "mid" → m' y = (fun (y : Str) => if y = "key" then some .none else if y = "x" then some (.int x t) else if y = "a" then some (.ref l) else none) y)) F1 N1
    ⟨rfl, 0, ns.length, rfl, Nat.le_refl _, rfl, ⟨⟨_, by with_unfolding_all rfl⟩, ⟨_, by with_unfolding_all rfl⟩, (by intro y q0 q1 q2; simp only [q0, q1, q2, if_false])⟩⟩ ?_ (by first | passes_own | with_unfolding_all passes_own)
  · rintro n m₁ news₁ h₁ tk₁ F2 N2 ⟨rfl, lo, hi, rfl, hhi, hbr, hm⟩
    obtain ⟨⟨t_lo, e_lo⟩, ⟨t_hi, e_hi⟩, e_rest⟩ := hm; replace F2 := fr_as F2 (m' := fun (y : Str) => if y = "lo" then some (.int lo t_lo) else if y = "hi" then some (.int hi t_hi) else if y = "mid" then m₁ "mid" else (fun (y : Str) => if y = "key" then some .none else if y = "x" then some (.int x t) else if y = "a" then some (.ref l) else none) y) (by intro y; (by_cases q0 : y = "lo"); (subst q0; rw [if_pos rfl]; exact e_lo); rw [if_neg q0]; (by_cases q1 : y = "hi"); (subst q1; rw [if_pos rfl]; exact e_hi); rw [if_neg q1]; (by_cases q2 : y = "mid"); (subst q2; rw [if_pos rfl]); rw [if_neg q2]; exact e_rest y q0 q1 q2)
    clear F1 N1
    k_steps
    · rename Fr _ _ _ _ => F3
      rw [fdiv_nat2] at F3
      rename _ < x => hx
      rw [fdiv_nat2, Int.toNat_natCast] at hx
      refine WhileStep.intro (n' := hi - ((lo + hi) / 2 + 1)) F3 (by assumption) (by omega) ⟨rfl, (lo + hi) / 2 + 1, hi, rfl, by omega, ?_, ⟨⟨_, by with_unfolding_all rfl⟩, ⟨_, by with_unfolding_all rfl⟩, (by intro y q0 q1 q2; simp only [q0, q1, q2, if_false])⟩⟩
      rw [← hbr, show hi - lo = (hi - lo - 1) + 1 by omega, blLoop, if_pos (by omega), if_pos hx]
      exact blLoop_fuel _ _ _ _ _ _ (by omega) (by omega)
    · rename Fr _ _ _ _ => F3
      rw [fdiv_nat2] at F3
      rename ¬ _ < x => hx
      rw [fdiv_nat2, Int.toNat_natCast] at hx
      refine WhileStep.intro (n' := (lo + hi) / 2 - lo) F3 (by assumption) (by omega) ⟨rfl, lo, (lo + hi) / 2, rfl, by omega, ?_, ⟨⟨_, by with_unfolding_all rfl⟩, ⟨_, by with_unfolding_all rfl⟩, (by intro y q0 q1 q2; simp only [q0, q1, q2, if_false])⟩⟩
      rw [← hbr, show hi - lo = (hi - lo - 1) + 1 by omega, blLoop, if_pos (by omega), if_neg hx]
      exact blLoop_fuel _ _ _ _ _ _ (by omega) (by omega)
    · dsimp only
      k_steps
      have e9 : blLoop ns x ns.length 0 ns.length = lo := by
        rw [← hbr, show hi - lo = 0 by omega]; rfl
      exact leaveK_ (by assumption) (by assumption) fun F9 N9 => ret _ _ _ _ ⟨rfl, _, by rw [e9]⟩ F9 N9
end
-- part Less
section
theorem ins_length (ns : List Int) (x : Int) : (ins ns x).length = ns.length + 1 := by
  have := brLoop_le ns x ns.length 0 ns.length (Nat.zero_le _)
  simp only [ins, List.length_append, List.length_take, List.length_cons, List.length_drop]; omega
def lessUp (ns : List Int) : Nat → List Int
  | 0 => []
  | i + 1 => ins (lessUp ns i) (ns.getD i 0 - (i : Int))
theorem lessUp_length (ns : List Int) : ∀ i, (lessUp ns i).length = i
  | 0 => rfl
  | i + 1 => by rw [lessUp, ins_length, lessUp_length ns i]
theorem less_c {w : World} {news : List (Addr × Obj)} (l : Addr) (vs : List Value) (ns : List Int) (e : Nat)
  (hl : (l, (W.listOf vs.toArray e)) ∈ news) (hi : IntsAre vs ns) (hlen : ns.length ≤ 10) :
  CTell w 160 [.ref l] 4 news (fun r n' => ∃ D vs' e', r = .ref D ∧ n' = (D, W.listOf vs'.toArray e') :: news ∧ (∀ p ∈ news, p.1 < D) ∧ IntsAre vs' (lessUp ns ns.length)) := by
  unfold CTell
  k_fill
  intro p loose mean mg mb dp un gd cn cs a ccd cl outer A₀ base h₀ L m s Q E B F X N T hk hd hu ret
  refine wpAny_call ?_
  k_dflt ktr_enter
  clear B F X N T hk
  rename Fr _ _ _ _ => F1
  replace F1 := fr_as F1 (m' := fun y => if y = "counts" then some (.ref l) else none) (fun y => (lk_eq _ y).trans (by with_unfolding_all rfl))
  have hS : Hold True := trivial
  k_steps
  refine (Hold.mk ?_ : Hold _)
  rename_i D _ ltD _ F1 N1
  refine For_invVF F1 rfl rfl ?_
  k_steps
  refine (Hold.mk ?_ : Hold _)
  rename IsRange _ _ _ _ _ _ _ _ => hR
  rename Fr _ _ _ _ => F1
  rename News _ _ _ _ => N1
  refine range_loop (n := ns.length) (fun i m' nx => (∃ vs' e', nx = (D, W.listOf vs'.toArray e') :: news ∧ IntsAre vs' (lessUp ns i)) ∧ (m' "less" = some (.ref D)) ∧ (∀ y : Str, y ≠ "less" → y ≠ "place" → m' y = (fun (y : Str) => if y = "counts" then some (.ref l) else none) y)) rfl hR ?_ ?_ F1 N1
    ⟨⟨[], 0, rfl, .nil⟩, ⟨(by with_unfolding_all rfl), (by intro y q0 q1; simp only [q0, q1, if_false])⟩⟩ ?_ ?_
  · exact range_small _ (by omega)
  · exact range_size _
  · rintro i t m₁ nx h tk I oI hin hneI ⟨⟨vs', e', rfl, hi'⟩, hm⟩ F2 N2
    rw [Int.zero_add] at F2
    obtain ⟨e_less, e_rest⟩ := hm; replace F2 := fr_as F2 (m' := fun (y : Str) => if y = "place" then some (.int (i : Int) t) else if y = "less" then some (.ref D) else (fun (y : Str) => if y = "counts" then some (.ref l) else none) y) (by intro y; (by_cases qx : y = "place"); (rw [if_pos qx, if_pos qx]); rw [if_neg qx, if_neg qx]; (by_cases q0 : y = "less"); (subst q0; rw [if_pos rfl]; exact e_less); rw [if_neg q0]; exact e_rest y q0 qx)
    clear hR F1 N1
    have hneD := ne_cons (oI := oI) hneI ltD
    replace N2 := news_sub N2 swap2
    k_with "call ref" => (k_dflt (refine' ctell_use (insort_right_c (w := w) D vs' (lessUp ns i) e' _ _ hneD hi' (by rw [lessUp_length]; omega)) ?uB ?uF ?uX ?uN ?uT ?uK ?uD ?uU ?_; (case uB => k_asm); (case uF => k_asm); (case uX => k_asm); (case uN => k_asm); (case uT => k_asm); (case uK => first | exact rfl | assumption); (case uD => ktr_room); (case uU => ktr_units)); intro r9 n9 h9 tk9 o9 F9 N9; (obtain ⟨e9, vs9, e9', e9'', hi9⟩ := o9); subst e9; subst e9'')
    k_steps
    exact TEnd.intro F9 (news_sub N9 swap2) (ne_same hneI) (fun _ h => nomatch h) ⟨⟨_, _, rfl, by rw [lessUp]; simpa using hi9⟩, ⟨(by with_unfolding_all rfl), (by intro y q0 q1; simp only [q0, q1, if_false])⟩⟩
  · rintro m₁ nx h tk ⟨⟨vs', e', rfl, hi'⟩, hm⟩ F2 N2
    obtain ⟨e_less, e_rest⟩ := hm; replace F2 := fr_as F2 (m' := fun (y : Str) => if y = "less" then some (.ref D) else if y = "place" then m₁ "place" else (fun (y : Str) => if y = "counts" then some (.ref l) else none) y) (by intro y; (by_cases q0 : y = "less"); (subst q0; rw [if_pos rfl]; exact e_less); rw [if_neg q0]; (by_cases q1 : y = "place"); (subst q1; rw [if_pos rfl]); rw [if_neg q1]; exact e_rest y q0 q1)
    dsimp only
    clear hR
    k_steps
    exact leaveK_ (by assumption) (by assumption) fun F9 N9 => ret _ _ _ _ ⟨D, _, _, rfl, rfl, ltD, hi'⟩ F9 N9
end
-- part Prod
section
def prodUp (ns : List Int) (x : Int) : Nat → Int
  | 0 => 1
  | i + 1 => prodUp ns x i * (x + ns.getD i 0 - (i : Int))
def valuesUp (ns : List Int) : Nat → List Int
  | 0 => []
  | k + 1 => valuesUp ns k ++ [prodUp ns (k : Int) ns.length]
theorem valuesUp_length (ns : List Int) : ∀ k, (valuesUp ns k).length = k
  | 0 => rfl
  | k + 1 => by rw [valuesUp, List.length_append, valuesUp_length ns k]; rfl
def diffsUp (vs : List Int) (i : Nat) : List Int := (List.range i).map fun j => vs.getD (j + 1) 0 - vs.getD j 0
theorem diffsUp_succ (vs : List Int) (i : Nat) : diffsUp vs (i + 1) = diffsUp vs i ++ [vs.getD (i + 1) 0 - vs.getD i 0] := by
  unfold diffsUp; rw [List.range_succ, List.map_append]; rfl
def diffs (vs : List Int) : List Int := diffsUp vs (vs.length - 1)
def toldUp : Nat → List Int → List Int → Int → List Int
  | 0, _, told, _ => told
  | f + 1, values, told, fact => if values = [] then told else toldUp f (diffs values) ((values.getD 0 0).fdiv fact :: told) (fact * ((told.length + 1 : Nat) : Int))
def factN : Nat → Nat
  | 0 => 1
  | k + 1 => factN k * (k + 1)
theorem factN_le : ∀ k, k < 7 → 1 ≤ factN k ∧ factN k ≤ 720 := by decide
def productOf (ns : List Int) : List Int := toldUp (ns.length + 1) (valuesUp ns (ns.length + 1)) [] 1
theorem prod_c {w : World} {news : List (Addr × Obj)} (l : Addr) (vs : List Value) (ns : List Int) (e : Nat)
  (hl : (l, (W.listOf vs.toArray e)) ∈ news) (hi : IntsAre vs ns) (hlen : ns.length ≤ 5) (hns : ∀ i, 0 ≤ ns.getD i 0 ∧ ns.getD i 0 ≤ 5) :
  CTell w 148 [.ref l] 20 news (fun r n' => ∃ D vs' e', r = .ref D ∧ n' = (D, W.listOf vs'.toArray e') :: news ∧ (∀ p ∈ news, p.1 < D) ∧ IntsAre vs' (productOf ns)) := by
  unfold CTell
  k_fill
  intro p loose mean mg mb dp un gd cn cs a ccd cl outer A₀ base h₀ L m s Q E B F X N T hk hd hu ret
  refine wpAny_call ?_
  k_dflt ktr_enter
  clear B F X N T hk
  rename Fr _ _ _ _ => F1
  replace F1 := fr_as F1 (m' := fun y => if y = "counts" then some (.ref l) else none) (fun y => by with_unfolding_all rfl)
  rename (Obj.data _ = _) => hc1
  replace hc1 : _ = Data.cell none := hc1
  rename (∀ p ∈ news, p.1 < _) => ltL
  have hcell := cell_off ltL
  have hlen5 : Hold (ns.length ≤ 5) := hlen
  replace hlen : ns.length ≤ 1000 := Nat.le_trans hlen (by decide)
  rename_i gX LX hX tX FGX BX XX TX oX NX
  have hS : Hold True := trivial
  k_steps
  refine (Hold.mk ?_ : Hold _)
  rename_i D _ ltD _ oc F1 N1 hoc
  have ltD' : ∀ p ∈ news, p.1 < D := fun p hp => Nat.lt_trans (Nat.lt_succ_of_lt (ltL p hp)) ltD.1
  have hcD : LX + 1 < D := ltD.1
  refine For_invVF F1 rfl rfl ?_
  k_steps
  refine (Hold.mk ?_ : Hold _)
  rename IsRange _ _ _ _ _ _ _ _ => hR
  rename Fr _ _ _ _ => F1
  rename News _ _ _ _ => N1
  have e0 : (ns.length : Int) + 1 = ((ns.length + 1 : Nat) : Int) := by omega
  rw [e0] at hR
  refine range_loop (n := ns.length + 1) (fun i m' nx => (∃ vs' e', nx = (D, W.listOf vs'.toArray e') :: (LX + 1, oc) :: news ∧ IntsAre vs' (valuesUp ns i)) ∧ (∀ y : Str, y ≠ "x" → y ≠ "product" → y ≠ "place" → m' y = (fun (y : Str) => if y = "counts" then some (.ref l) else none) y)) rfl hR (range_small _ (by omega)) (range_size _) F1 N1
    ⟨⟨[], 0, rfl, .nil⟩, (by intro y q0 q1 q2; simp only [q0, q1, q2, if_false])⟩ ?_ ?_
  · rintro i t m₁ nx h tk I oI hin hneI ⟨⟨vs', e', rfl, hi'⟩, hm⟩ F2 N2
    rw [Int.zero_add] at F2
    have e_rest := hm; replace F2 := fr_as F2 (m' := fun (y : Str) => if y = "x" then some (.int (i : Int) t) else if y = "product" then m₁ "product" else if y = "place" then m₁ "place" else (fun (y : Str) => if y = "counts" then some (.ref l) else none) y) (by intro y; (by_cases qx : y = "x"); (rw [if_pos qx, if_pos qx]); rw [if_neg qx, if_neg qx]; (by_cases q1 : y = "product"); (subst q1; rw [if_pos rfl]); rw [if_neg q1]; (by_cases q2 : y = "place"); (subst q2; rw [if_pos rfl]); rw [if_neg q2]; exact e_rest y qx q1 q2)
    clear hR F1 N1
    k_steps
    refine (Hold.mk ?_ : Hold _)
    rename Fr _ _ _ _ => F1
    refine For_invVF F1 rfl rfl ?_
    k_steps
    refine (Hold.mk ?_ : Hold _)
    rename IsRange _ _ _ _ _ _ _ _ => hR
    rename Fr _ _ _ _ => F1
    rename News _ _ _ _ => N1
    refine range_loop (n := ns.length) (fun j m' nx => nx = (I, oI) :: (D, W.listOf vs'.toArray e') :: (LX + 1, oc) :: news ∧ (∃ t, m' "product" = some (.int (prodUp ns (i : Int) j) t)) ∧ (∀ y : Str, y ≠ "product" → y ≠ "place" → m' y = (fun (y : Str) => if y = "x" then some (.int (i : Int) t) else if y = "counts" then some (.ref l) else none) y)) rfl hR (range_small _ (by omega)) (range_size _) F1 N1
      ⟨rfl, ⟨⟨_, by with_unfolding_all rfl⟩, (by intro y q0 q1; simp only [q0, q1, if_false])⟩⟩ ?_ ?_
    · rintro j t2 m₂ nx h2 tk2 I2 oI2 hjn hneI2 ⟨rfl, hm⟩ F3 N3
      rw [Int.zero_add] at F3
      obtain ⟨⟨t_product, e_product⟩, e_rest⟩ := hm; replace F3 := fr_as F3 (m' := fun (y : Str) => if y = "place" then some (.int (j : Int) t2) else if y = "product" then some (.int (prodUp ns (i : Int) j) t_product) else (fun (y : Str) => if y = "x" then some (.int (i : Int) t) else if y = "counts" then some (.ref l) else none) y) (by intro y; (by_cases qx : y = "place"); (rw [if_pos qx, if_pos qx]); rw [if_neg qx, if_neg qx]; (by_cases q0 : y = "product"); (subst q0; rw [if_pos rfl]; exact e_product); rw [if_neg q0]; exact e_rest y q0 qx)
      have hb1 := (hns (j : Int).toNat).1
      have hb2 := (hns (j : Int).toNat).2
      clear hR F1 N1
      k_steps
      rename Fr _ _ _ _ => F4
      rename News _ _ _ _ => N4
      exact TEnd.intro F4 N4 hneI2 (fun _ h => nomatch h) ⟨rfl, ⟨⟨_, by with_unfolding_all rfl⟩, (by intro y q0 q1; simp only [q0, q1, if_false])⟩⟩
    · rintro m₂ nx h2 tk2 ⟨rfl, hm⟩ F3 N3
      obtain ⟨⟨t_product, e_product⟩, e_rest⟩ := hm; replace F3 := fr_as F3 (m' := fun (y : Str) => if y = "product" then some (.int (prodUp ns (i : Int) ns.length) t_product) else if y = "place" then m₂ "place" else (fun (y : Str) => if y = "x" then some (.int (i : Int) t) else if y = "counts" then some (.ref l) else none) y) (by intro y; (by_cases q0 : y = "product"); (subst q0; rw [if_pos rfl]; exact e_product); rw [if_neg q0]; (by_cases q1 : y = "place"); (subst q1; rw [if_pos rfl]); rw [if_neg q1]; exact e_rest y q0 q1)
      dsimp only
      clear hR
      have hDI : D ≠ I := hneI _ List.mem_cons_self
      have hnD : ∀ p ∈ news, p.1 ≠ D := fun p hp => Nat.ne_of_lt (ltD' p hp)
      k_steps
      rename Fr _ _ _ _ => F4
      rename News _ _ _ _ => N4
      refine append_K F4 N4 (Upd.tail (Ne.symm hDI) (Upd.head (List.forall_mem_cons.mpr ⟨Nat.ne_of_lt hcD, hnD⟩))) ?_ (by rw [List.size_toArray, hi'.length, valuesUp_length, sizeLine_eq]; omega)
      intro h5 F5 N5
      rw [List.push_toArray] at N5
      dsimp only
      k_steps
      exact TEnd.intro F5 N5 (ne_same hneI) (fun _ h => nomatch h) ⟨⟨_, _, rfl, IntsAre.append hi' (.cons _ _ .nil)⟩, (by intro y q0 q1 q2; simp only [q0, q1, q2, if_false])⟩
  · rintro m₁ nx h tk ⟨⟨vs', e', rfl, hi'⟩, hm⟩ F2 N2
    have e_rest := hm; replace F2 := fr_as F2 (m' := fun (y : Str) => if y = "x" then m₁ "x" else if y = "product" then m₁ "product" else if y = "place" then m₁ "place" else (fun (y : Str) => if y = "counts" then some (.ref l) else none) y) (by intro y; (by_cases q0 : y = "x"); (subst q0; rw [if_pos rfl]); rw [if_neg q0]; (by_cases q1 : y = "product"); (subst q1; rw [if_pos rfl]); rw [if_neg q1]; (by_cases q2 : y = "place"); (subst q2; rw [if_pos rfl]); rw [if_neg q2]; exact e_rest y q0 q1 q2)
    dsimp only
    clear hR
    k_steps
    refine (Hold.mk ?_ : Hold _)
    rename Fr _ _ _ _ => F1
    rename News _ _ _ _ => N1
    obtain ⟨T, hT, N1⟩ := head_as N1
    subst hT
    rename (_ < T ∧ _ < T ∧ AllLt T news) => ltT
    have hDT : D < T := ltT.1
    have hcT : LX + 1 < T := ltT.2.1
    have hnT : ∀ p ∈ news, p.1 < T := fun p hp => Nat.lt_trans (ltD' p hp) hDT
    refine While_inv (n₀ := ns.length + 1) (fun n m' nx => ∃ (V : Addr) (ts : List Value) (et : Nat) (vv : List Value) (ev : Nat) (oc' : Obj) (told values : List Int) (fact : Int),
      nx = (T, W.listOf ts.toArray et) :: (V, W.listOf vv.toArray ev) :: (LX + 1, oc') :: news ∧ oc'.data = .cell (some (.ref V)) ∧ IntsAre ts told ∧ IntsAre vv values ∧ n = values.length ∧
      toldUp values.length values told fact = productOf ns ∧ told.length + values.length = ns.length + 1 ∧ fact = (factN told.length : Nat) ∧ V ≠ T ∧ LX + 1 ≠ V ∧ (∀ p ∈ news, p.1 ≠ V) ∧
      (∃ t, m' "factorial" = some (.int fact t)) ∧ (m' "told" = some (.ref T)) ∧ (∀ y : Str, y ≠ "factorial" → y ≠ "told" → y ≠ "x" → y ≠ "product" → y ≠ "place" → m' y = (fun (y : Str) => if y = "counts" then some (.ref l) else none) y)) F1 N1
      ⟨D, [], 0, vs', e', oc, [], valuesUp ns (ns.length + 1), 1, rfl, hoc, .nil, hi', (valuesUp_length ns _).symm, by rw [valuesUp_length]; rfl, by rw [valuesUp_length]; simp, rfl, Nat.ne_of_lt hDT, Nat.ne_of_lt hcD, fun p hp => Nat.ne_of_lt (ltD' p hp), ⟨⟨_, by with_unfolding_all rfl⟩, (by with_unfolding_all rfl), (by intro y q0 q1 q2 q3 q4; simp only [q0, q1, q2, q3, q4, if_false])⟩⟩ ?_ (by first | passes_own | with_unfolding_all passes_own)
    rintro n m₂ nx h2 tk2 F3 N3 ⟨V, ts, et, vv, ev, oc', told, values, fact, rfl, hoc', hti, hvi, rfl, htold, hsum, hfact, hVT, hcV, hnV, hm⟩
    obtain ⟨⟨t_factorial, e_factorial⟩, e_told, e_rest⟩ := hm; replace F3 := fr_as F3 (m' := fun (y : Str) => if y = "factorial" then some (.int fact t_factorial) else if y = "told" then some (.ref T) else if y = "x" then m₂ "x" else if y = "product" then m₂ "product" else if y = "place" then m₂ "place" else (fun (y : Str) => if y = "counts" then some (.ref l) else none) y) (by intro y; (by_cases q0 : y = "factorial"); (subst q0; rw [if_pos rfl]; exact e_factorial); rw [if_neg q0]; (by_cases q1 : y = "told"); (subst q1; rw [if_pos rfl]; exact e_told); rw [if_neg q1]; (by_cases q2 : y = "x"); (subst q2; rw [if_pos rfl]); rw [if_neg q2]; (by_cases q3 : y = "product"); (subst q3; rw [if_pos rfl]); rw [if_neg q3]; (by_cases q4 : y = "place"); (subst q4; rw [if_pos rfl]); rw [if_neg q4]; exact e_rest y q0 q1 q2 q3 q4)
    clear F1 N1
    walk1
    walk1
    walk1
    walk1
    walk1
    walk1
    walk1
    walk1
    rename News _ _ _ _ => N4
    replace N4 := news_sub N4 (fun p hp => List.mem_cons_of_mem _ hp)
    have hnT' : ∀ p ∈ news, p.1 ≠ T := fun p hp => Nat.ne_of_lt (hnT p hp)
    by_cases hv : values = []
    · rw [if_pos (decide_eq_true hv)]
      subst hv
      k_steps
      dsimp only
      k_steps
      have e9 : told = productOf ns := htold
      exact leaveK_ (by assumption) N4 fun F9 N9 => ret _ _ _ _ ⟨T, _, _, rfl, rfl, hnT, e9 ▸ hti⟩ F9 (news_sub N9 sub134)
    · rw [if_neg (by simp [hv])]
      have hv0 : 0 < values.length := by cases values with | nil => exact absurd rfl hv | cons _ _ => exact Nat.succ_pos _
      have hvl : values.length ≤ 1001 := by omega
      have hfb : 1 ≤ fact ∧ fact ≤ 720 := by
        have := factN_le told.length (by have := hlen5.out; omega)
        omega
      have hfb1 := hfb.1
      have hfb2 := hfb.2
      k_with "call builtin:list.insert" => refine Hold.out ?_
      k_steps
      refine (Hold.mk ?_ : Hold _)
      rename Fr _ _ _ _ => F5
      rename News _ _ _ _ => N5
      refine kl_insert (l := .int ((values.getD 0 0).fdiv fact) _ :: ts) F5 N5 (by decide) rfl (Upd.head (List.forall_mem_cons.mpr ⟨hVT, List.forall_mem_cons.mpr ⟨Nat.ne_of_lt hcT, hnT'⟩⟩)) (by show ts.length ≤ sizeLine; rw [hti.length, sizeLine_eq]; omega) ?_
      intro h6 F6 N6
      obtain ⟨ts2, et2, N6', hti2⟩ := led_ints N6 (.cons _ _ hti)
      clear N6
      dsimp only
      k_steps
      refine (Hold.mk ?_ : Hold _)
      refine wpAny_Assign_Name ?_ (by with_unfolding_all rfl)
      rename Fr _ _ _ _ => F7
      refine LCg.ListComp_U (F₀ := F7) (by with_unfolding_all rfl) (by decide) (by rfl) (by decide) (by rfl) ?_
      k_steps
      refine (Hold.mk ?_ : Hold _)
      rename IsRange _ _ _ _ _ _ _ _ => hR
      rename Fr _ _ _ _ => F8
      rename News _ _ _ _ => N8
      refine LCg.CompSrc.range (n := values.length - 1) rfl F8 N8 hR (range_small1 _ hv0 (by omega)) (range_size1 _ hv0) (by rw [sizeLine_eq]; omega) (fun g => comp_inv (fun i ys nw => nw = (T, W.listOf ts2.toArray et2) :: (V, W.listOf vv.toArray ev) :: (LX + 1, oc') :: news ∧ IntsAre ys (diffsUp values i)) ?_ ?_ _ 0 [] _ (Nat.zero_add _) ⟨rfl, .nil⟩)
      · clear F8 N8 hR
        rintro i ys nw v I oI C oC D2 m3 h8 tk8 E' hin ⟨rfl, hys⟩ ⟨tv, rfl⟩ hC hx F9 N9 hoff hne
        k_steps
        rename Fr _ _ _ _ => FF
        rename News _ _ _ _ => NN
        refine LCg.CompEnd.intro FF NN _ (fun _ h => h) hoff trivial ⟨rfl, ?_⟩
        rw [diffsUp_succ, show (1 + (i : Int)).toNat = i + 1 by omega, show (1 + (i : Int) - 1).toNat = i by omega]
        exact IntsAre.append hys (.cons _ _ .nil)
      · clear F8 N8 hR
        rintro ys nw ⟨rfl, hys⟩ D2 h8 tk8 F9 N9 hoff
        obtain ⟨o1, o2, o3, o4⟩ := hoff
        have o5 := off1_mem o4
        dsimp only at o1 o2 o3
        have hcT' : LX + 1 ≠ T := Nat.ne_of_lt hcT
        refine storeX_C F9 N9 (by rfl) (UpdF.tail (Ne.symm o3) (UpdF.tail (Ne.symm hcT') (UpdF.tail (Ne.symm hcV) (UpdF.head hcell)))) hoc' ?_ (by rfl) (by rfl)
        intro h9 oc2 F10 N10 hoc2
        k_steps
        have hdl : (diffs values).length = values.length - 1 := by unfold diffs diffsUp; rw [List.length_map, List.length_range]
        refine WhileStep.intro (n' := values.length - 1) F10 (news_sub N10 (news' := (T, W.listOf ts2.toArray et2) :: (D2, W.listOf ys.toArray ys.length) :: (LX + 1, oc2) :: news) (fun p hp => by simp only [List.mem_cons] at hp ⊢; rcases hp with h | h | h | h <;> simp [h])) (by omega)
          ⟨D2, ts2, et2, ys, _, oc2, (values.getD 0 0).fdiv fact :: told, diffs values, fact * ((told.length + 1 : Nat) : Int), rfl, hoc2, hti2, hys, hdl.symm, ?_, by rw [hdl, List.length_cons]; omega, ?_, Ne.symm o1, o3, o5, ⟨⟨_, by with_unfolding_all rfl⟩, (by with_unfolding_all rfl), (by intro y q0 q1 q2 q3 q4; simp only [q0, q1, q2, q3, q4, if_false])⟩⟩
        · rw [hdl, ← htold, show values.length = (values.length - 1) + 1 by omega, toldUp, if_neg hv, Nat.add_sub_cancel]
        · rw [hfact, List.length_cons, factN, Int.natCast_mul]
end
-- part Cols
section
section
open PyProof.Rows.LCg
variable {prog : Program} {w : World} {A : Around} {E : Value → Shared → Prop} {s : Shared} {h₀ : Heap} {L : Addr} {m : Str → Option Value} {env : Env}
def SrcD (prog : Program) (w : World) (A : Around) (h₀ : Heap) (L : Addr) (m : Str → Option Value) (env : Env) (elt : PySem.Expr) (x : Str) (scope : Scope) (cl : List (Str × Addr)) (Q : Value → Shared → Prop) (xv : Value) (s₁ : Shared) : Prop :=
  ∃ r a b c t u v n news, xv = .ref r ∧ A.handled = none ∧ Fr h₀ L s₁.heap m ∧ News h₀ L s₁.heap news ∧ IsRange s₁.heap r a b c t u v ∧ Builtin.Range.small a b c = true ∧ Builtin.Range.rangeSize a b c = ((n : Nat) : Int) ∧ n ≤ sizeLine ∧
    ∀ s₂ : Shared, (∃ h, s₂ = { s₁ with heap := h }) → CompRest prog w A h₀ L m env elt x scope cl s₂ (fun _ => True) (fun i v => ∃ t, v = .int (a + (i : Int) * c) t) (FinE h₀ L m s₂ Q) n 0 [] news
theorem comp_step {elt iter : PySem.Expr} {x : Str} {px : Pos} {scope : Scope} {cl : List (Str × Addr)} {pos : Pos} {Q : Value → Shared → Prop} (_F₀ : Fr h₀ L s.heap m)
    (hclos : closureFor scope env = pure cl) (hcell : ∀ y ∈ scope.names, y.2 ≠ .cell) (hkind : scope.kind = .function)
    (hnames : ∀ y ∈ scope.names, y.2 = .local → scope.names.lookup y.1 = some .local) (hx : scope.names.lookup x = some .local)
    (h : wpAny (model prog w) A (eval iter env) (SrcD prog w A h₀ L m env elt x scope cl Q) E s)
    (hs : ∀ x, foldedSetIterable iter env x = pure x := by intro _; rfl) :
    wpAny (model prog w) A (eval (.ListComp elt [⟨.Name x px, iter, [], 0⟩] scope pos) env) Q E s := by
  rw [eval_ListComp]
  refine wpAny_comprehension_free (use := none) rfl hs hclos hkind hnames (wpAny_mono h (fun xv s₁ h₁ => ?_) fun _ _ e => e)
  obtain ⟨r, a, b, c, t, u, v, n, news, rfl, hh, F, N, hr, hsm, hn, hsz, R⟩ := h₁
  refine wpAny_pyIter_range hr hsm ?_
  have up : ∀ (o' : Obj) b o, s₁.heap.get? b = some o → (s₁.heap.push o').get? b = some o := fun o' b o e => Heap.get?_push_of_some _ e
  refine block_U (Walks.range hh s₁.heap.objs.size a c n) hsz (fun i h st => ⟨_, st⟩) (fun i h h' o nw st e e' _ _ _ => ?_) hcell hkind hx (by show IsRangeIter _ _ _ _ _; rw [hn]; simpa using Heap.get?_push_size _ rfl) (fun b hb => ?_)
    (F.keeps (up _)) (N.grown (up _)) (Nat.ne_of_lt F.ns.lt) (next_is_new F) (fun p hp => Nat.ne_of_lt (Heap.lt_size (N p hp).1)) trivial (R _ ⟨_, rfl⟩) ?_
  · have st' : h.get? s₁.heap.objs.size = some _ := st
    show h'.get? s₁.heap.objs.size = some _
    rw [e', ← e]; exact st'
  · rw [List.mem_singleton.mp hb]
    show s₁.heap.objs.size < (s₁.heap.push _).objs.size
    rw [Heap.size_push]; exact Nat.lt_succ_self _
  · intro D C h' tk m' ys news' F' N' o1 hnm hC₀ hD₀ hCL hDL hCD offC fin
    refine ⟨m', hnm, fun h'' hs'' => fin D h'' tk (F'.change hs'' hCL hC₀) (fun p hp => ⟨hs''.extBut _ _ ?_ (N' p hp).1, (N' p hp).2⟩) o1⟩
    rcases List.mem_cons.mp hp with rfl | hp
    · exact Ne.symm hCD
    · exact offC p hp
end
def lastOf (ns : List Int) : Int := ns.getD (ns.length - 1) 0
def colsUp (ns : List Int) (i : Nat) : List Int := (List.range i).map fun (j : Nat) => (ns.length : Int) - ((blLoop ns (lastOf ns - (j : Int)) ns.length 0 ns.length : Nat) : Int)
theorem colsUp_succ (ns : List Int) (i : Nat) : colsUp ns (i + 1) = colsUp ns i ++ [(ns.length : Int) - ((blLoop ns (lastOf ns - (i : Int)) ns.length 0 ns.length : Nat) : Int)] := by
  unfold colsUp; rw [List.range_succ, List.map_append]; rfl
theorem cols_c {w : World} {news : List (Addr × Obj)} (l : Addr) (vs : List Value) (ns : List Int) (e : Nat)
  (hl : (l, (W.listOf vs.toArray e)) ∈ news) (hi : IntsAre vs ns) (hpos : 0 < ns.length) (hlen : ns.length ≤ 1000) (hlast : 0 ≤ lastOf ns ∧ lastOf ns ≤ 1000) :
  CTell w 153 [.ref l] 4 news (fun r n' => ∃ D vs' e', r = .ref D ∧ n' = (D, W.listOf vs'.toArray e') :: news ∧ (∀ p ∈ news, p.1 ≠ D) ∧ IntsAre vs' (colsUp ns (lastOf ns).toNat)) := by
  unfold CTell
  k_fill
  intro p loose mean mg mb dp un gd cn cs a ccd cl outer A₀ base h₀ L m s Q E B F X N T hk hd hu ret
  refine wpAny_call ?_
  k_dflt ktr_enter
  clear B F X N T hk
  rename Fr _ _ _ _ => F1
  rename (Obj.data _ = _) => hc1
  replace hc1 : _ = Data.cell (some (.ref l)) := hc1
  rename (∀ p ∈ news, p.1 < _) => ltL
  have hcell := cell_off ltL
  replace F1 := fr_as F1 (m' := fun _ => none) (fun y => by with_unfolding_all rfl)
  rename_i gX LX hX tX FGX BX XX TX oX NX
  have hS : Hold True := trivial
  k_steps
  refine (Hold.mk ?_ : Hold _)
  refine comp_step F1 (by with_unfolding_all rfl) (by decide) (by rfl) (by decide) (by rfl) ?_
  k_steps
  rename IsRange _ _ _ _ _ _ _ _ => hR
  rename Fr _ _ _ _ => F8
  rename News _ _ _ _ => N8
  have eL : ns.getD ((-1 : Int) + (ns.length : Nat)).toNat 0 = ((lastOf ns).toNat : Int) := by
    rw [show ((-1 : Int) + (ns.length : Nat)).toNat = ns.length - 1 by omega]
    show lastOf ns = _
    omega
  rw [eL] at hR
  refine ⟨_, _, _, _, _, _, _, (lastOf ns).toNat, _, rfl, rfl, F8, N8, hR, ?_, ?_, by rw [sizeLine_eq]; omega, fun s₂ hs₂ => comp_inv (fun i ys nw => nw = (LX + 1, oX) :: news ∧ IntsAre ys (colsUp ns i)) ?_ ?_ _ 0 [] _ (Nat.zero_add _) ⟨rfl, .nil⟩⟩
  · exact range_smallD _ (by omega)
  · exact range_sizeD _
  · obtain ⟨hh2, rfl⟩ := hs₂
    clear F8 N8 hR
    rintro i ys nw v I oI C oC D2 m3 h8 tk8 E' hin ⟨rfl, hys⟩ ⟨tv, rfl⟩ hC hx F9 N9 hoff hne
    k_with "call ref" => (k_dflt (refine' ctell_use (bisect_left_c (w := w) l vs ns e _ _ (List.mem_cons_of_mem _ (List.mem_cons_of_mem _ (List.mem_cons_of_mem _ (List.mem_cons_of_mem _ hl)))) hi hlen) ?uB ?uF ?uX ?uN ?uT ?uK ?uD ?uU ?_; (case uB => k_asm); (case uF => k_asm); (case uX => k_asm); (case uN => k_asm); (case uT => k_asm); (case uK => first | exact rfl | assumption); (case uD => ktr_room); (case uU => ktr_units)); intro r9 n9 h9 tk9 o9 F9 N9; (obtain ⟨e9, t9, e9'⟩ := o9); subst e9; subst e9')
    k_steps
    rename Fr _ _ _ _ => FF
    rename News _ _ _ _ => NN
    refine LCg.CompEnd.intro FF NN _ (fun _ h => h) hoff trivial ⟨rfl, ?_⟩
    rw [colsUp_succ, show lastOf ns - (i : Int) = ((lastOf ns).toNat : Int) + (i : Int) * -1 by omega]
    exact IntsAre.append hys (.cons _ _ .nil)
  · obtain ⟨hh2, rfl⟩ := hs₂
    clear F8 N8 hR
    rintro ys nw ⟨rfl, hys⟩ D2 h8 tk8 F9 N9 hoff
    k_steps
    exact leaveK_ (by assumption) (by assumption) fun FA NA => ret _ _ _ _ ⟨D2, ys, _, rfl, rfl, off1_mem hoff.2, hys⟩ FA (news_sub NA sub13)
end
-- part Dicts
section
section
variable {prog : Program} {w : World} {A : Around} {E : Value → Shared → Prop} {s : Shared} {env : Env} {h₀ : Heap} {target : PySem.Expr} {body : List Stmt} {Q : Flow → Shared → Prop}
/-- the keys of a dict, for a target of any kind: the turn begins with the store -/
theorem dict_turns {d : Addr} {o : Obj} {kvs : List (Int × Value)} {m₀ : Str → Option Value} {news : List (Addr × Obj)} (J : Nat → (Str → Option Value) → List (Addr × Obj) → Prop)
    (hh : A.handled = none) (hds : (d == sysModules) = false) (hl : (d, o) ∈ news) (hdo : o.IsDictOf (intKind prog w) kvs) (F : Fr h₀ env.locals s.heap m₀) (N : News h₀ env.locals s.heap news) (hj : J 0 m₀ news)
    (turn : ∀ i k y t m₁ nx h tk I oI, kvs[i]? = some (k, y) → (d, o) ∈ nx → (∀ p ∈ nx, p.1 ≠ I) → J i m₁ nx → Fr h₀ env.locals h m₁ → News h₀ env.locals h ((I, oI) :: nx) →
      wpAny (model prog w) A (assign target env (.int k t)) (fun _ s₃ => wpAny (model prog w) A (execs body env) (TPost h₀ env.locals (I, oI) [(d, o)] (J (i + 1)) { s with heap := h, toks := tk } Q) E s₃) E { s with heap := h, toks := tk })
    (done : ∀ m₁ nx h tk, (d, o) ∈ nx → J kvs.length m₁ nx → Fr h₀ env.locals h m₁ → News h₀ env.locals h nx → Q .next { s with heap := h, toks := tk }) :
    wpAny (model prog w) A (pyIter (.ref d)) (fun it s₂ => TurnsAt prog w A h₀ env target body Q E it s₂) E s := by
  have hol : s.heap.get? d = some o := (N _ hl).1
  have hne : d ≠ s.heap.objs.size := Nat.ne_of_lt (Heap.lt_size hol)
  obtain ⟨ep, hd⟩ := (Heap.dictOf_iff.mpr ⟨o, hol, hdo⟩ : s.heap.DictOf (intKind prog w) d kvs).dictAt
  refine wpAny_pyIter_dict hds hd ?_
  have W := Walks.dictKeys (knd := intKind prog w) hh s.heap.objs.size d hne kvs ep
  have hIL : env.locals ≠ s.heap.objs.size := Nat.ne_of_lt F.ns.lt
  have hLd : env.locals ≠ d := fun e => (N _ hl).2.1 e.symm
  refine ⟨s.heap.objs.size, [s.heap.objs.size, d], [s.heap.objs.size], kvs.length, _, _, _, m₀, news, fun i m nx => (d, o) ∈ nx ∧ J i m nx, rfl, KTurns.ofWalks W (fun i v s Q E st q => letGo_keyiter st.1 q), ?_, ?_, ?_, ⟨⟨_, Heap.get?_push_size _ rfl, rfl, rfl⟩, hd.push _⟩,
    F.push _, fun p hp => ⟨Heap.get?_push_of_some _ (N p hp).1, (N p hp).2⟩, ⟨hl, hj⟩, ?_, ?_⟩
  · intro hb
    rcases List.mem_cons.mp hb with e | hb
    · exact hIL e
    · exact hLd (List.mem_singleton.mp hb)
  · intro b hb
    rw [List.mem_singleton.mp hb]; exact next_is_new F
  · intro p hp hI
    exact Nat.lt_irrefl _ (List.mem_singleton.mp hI ▸ Heap.lt_size (N p hp).1)
  · rintro i v m₁ nx h tk own hi ⟨k, y, hx, hk'⟩ ⟨hk₁, hJ⟩ hoff hown hget hall hst₁ F₁ N₁
    obtain ⟨t, rfl⟩ := Value.isInt_shape hk'
    obtain ⟨oI, hoI, _⟩ := hst₁.1
    have hIown : (s.heap.objs.size, oI) ∈ own := hall _ List.mem_cons_self (next_is_new F) oI hoI
    have hne : ∀ p ∈ nx, p.1 ≠ s.heap.objs.size := fun p hp e => hoff p hp (List.mem_singleton.mpr e)
    have N₂ : News h₀ env.locals h ((s.heap.objs.size, oI) :: nx) := fun p hp => by
      rcases List.mem_cons.mp hp with rfl | hp
      · exact N₁ _ (List.mem_append_left _ hIown)
      · exact N₁ _ (List.mem_append_right _ hp)
    refine wpAny_mono (turn i k y t m₁ nx h tk _ oI hx hk₁ hne hJ F₁ N₂) (fun _ s₃ q3 => wpAny_mono q3 (fun f s₂ q => ?_) fun _ _ e => e) fun _ _ e => e
    have fin : TEnd h₀ env.locals (s.heap.objs.size, oI) [(d, o)] (J (i + 1)) { s with heap := h, toks := tk } s₂ → LoopStepU h₀ env.locals [s.heap.objs.size] own (fun m nx => (d, o) ∈ nx ∧ J (i + 1) m nx) { s with heap := h, toks := tk } .next s₂ := by
      rintro ⟨h', tk', m', nx', e, F', N', hne', hk', hj'⟩
      refine ⟨rfl, h', tk', m', nx', e, F', fun p hp => ?_, fun p hp hI => hne' p hp (List.mem_singleton.mp hI), hk' _ (List.mem_singleton.mpr rfl), hj'⟩
      rcases List.mem_append.mp hp with hp | hp
      · rcases List.mem_cons.mp (hown p hp) with e1 | hp1
        · have e2 : p = (s.heap.objs.size, oI) := by
            have := hget p hp
            rw [e1] at this
            exact Prod.ext e1 (Option.some.inj (this.symm.trans hoI))
          rw [e2]; exact N' _ List.mem_cons_self
        · have e2 : p = (d, o) := Prod.ext (List.mem_singleton.mp hp1) (Option.some.inj ((hget p hp).symm.trans (by rw [List.mem_singleton.mp hp1]; exact (N₁ _ (List.mem_append_right _ hk₁)).1)))
          rw [e2]; exact N' _ (List.mem_cons_of_mem _ (hk' _ (List.mem_singleton.mpr rfl)))
      · exact N' _ (List.mem_cons_of_mem _ hp)
    cases f with
    | ret v => exact .ret q
    | brk => exact .brk q
    | next => exact .next (fin q)
    | cont => exact .cont (fin q)
  · rintro h' tk m' nx F' N' _ ⟨hk', hJ⟩
    exact done m' nx h' tk hk' hJ F' N'
end
theorem fp_get {c : List (Int × Int)} : ∀ {kvs : List (Int × Value)}, FlatPairs PyData.int kvs (kdfD c) → ∀ {i : Nat} {k : Int} {y : Value}, kvs[i]? = some (k, y) → ∃ v, c[i]? = some (k, v) := by
  induction c with
  | nil => intro kvs h i k y e; cases h; simp at e
  | cons p c ih =>
    intro kvs h i k y e
    cases h with
    | @cons k' v d kvs D hf h =>
      cases i with
      | zero => simp at e; exact ⟨p.2, by rw [← e.1]; rfl⟩
      | succ i => exact ih h e
theorem fp_keys {c : List (Int × Int)} : ∀ {kvs : List (Int × Value)}, FlatPairs PyData.int kvs (kdfD c) → kvs.map (·.1) = c.map (·.1) := by
  induction c with
  | nil => intro kvs h; cases h; rfl
  | cons p c ih =>
    intro kvs h
    cases h with
    | @cons k' v d kvs D hf h => simp [ih h]
theorem fp_length {c : List (Int × Int)} {kvs : List (Int × Value)} (h : FlatPairs PyData.int kvs (kdfD c)) : kvs.length = c.length := by
  have := congrArg List.length (fp_keys h); simpa using this
theorem has_of_get {c : List (Int × Int)} {i : Nat} {k v : Int} (h : c[i]? = some (k, v)) : kdfHas c k = true := by
  unfold kdfHas; rw [List.any_eq_true]; exact ⟨(k, v), List.mem_of_getElem? h, by simp⟩
section
open PyProof.Rows.LCg
variable {prog : Program} {w : World} {A : Around} {E : Value → Shared → Prop} {s : Shared} {h₀ : Heap} {L : Addr} {m : Str → Option Value} {env : Env}
theorem ltN {a b : Nat} (h : a < b) : a < b := h
theorem leN {a b : Nat} (h : a ≤ b) : a ≤ b := h
theorem nin2 {a b c : Nat} (h : b < a) (h' : c < a) : a ∉ [b, c] := fun hm => by
  rcases List.mem_cons.mp hm with e | hm
  · exact Nat.lt_irrefl _ (e ▸ h)
  · exact Nat.lt_irrefl _ (List.mem_singleton.mp hm ▸ h')
def keyI : Value → Int
  | .int k _ => k
  | _ => 0
def putUp (g : Int → Int) (ks : List Int) : List (Int × Int) := ks.foldl (fun acc k => kdfPut acc k (g k)) []
theorem putUp_snoc (g : Int → Int) (ks : List Int) (k : Int) : putUp g (ks ++ [k]) = kdfPut (putUp g ks) k (g k) := by unfold putUp; rw [List.foldl_append]; rfl
theorem putUp_flat {g : Int → Int} {l : List Value} {kvs : List (Int × Value)} (x : StoredAll (fun v k => ∃ t, v = .int k t) (fun v y => ∃ k t t', v = .int k t ∧ y = .int (g k) t') l kvs) :
    ∀ ks : List Int, l.map keyI = ks → FlatPairs PyData.int kvs (kdfD (putUp g ks)) := by
  induction x with
  | nil => intro ks h; subst h; exact .nil
  | snoc _ hk hy ih =>
    intro ks h
    obtain ⟨t, rfl⟩ := hk
    obtain ⟨k', t1, t', e, rfl⟩ := hy
    injection e with e1 e2
    subst e1
    rw [List.map_append] at h
    subst h
    simp only [List.map_cons, List.map_nil, keyI]
    rw [putUp_snoc, ← kdfD_put]
    exact FlatPairs.stored PyProof.V.same_int (ih _ rfl) _ (Flat.int _ _)
/-- {x: .. for x in d} for a dict with int keys and ints to be stored -/
theorem dict_comp {kx vx iter : PySem.Expr} {x y : Str} {px py : Pos} {scope : Scope} {cl : List (Str × Addr)} {pos spos : Pos} {Q : Flow → Shared → Prop} {d : Addr} {o : Obj} {kvs : List (Int × Value)} {news : List (Addr × Obj)} (g : Int → Int)
    (_F : Fr h₀ L s.heap m) (_N : News h₀ L s.heap news) (_hm : (d, o) ∈ news) (_hdo : o.IsDictOf (intKind prog w) kvs)
    (hsw : swapsWith (.DictComp kx vx [⟨.Name x px, iter, [], 0⟩] scope pos) (some (.Name y py)) spos.line env = pure true) (hL : env.locals = L)
    (hclos : closureFor scope env = pure cl) (hcell : ∀ y ∈ scope.names, y.2 ≠ .cell) (hkind : scope.kind = .function)
    (hnames : ∀ y ∈ scope.names, y.2 = .local → scope.names.lookup y.1 = some .local) (hx : scope.names.lookup x = some .local)
    (hy : env.kindOf y = some .local) (hp : (env.scope.kind == .class || (env.scope.kind == .module && env.locals != env.globals)) = false)
    (h : wpAny (model prog w) A (eval iter env) (fun xv s₁ => xv = .ref d ∧ A.handled = none ∧ (d == sysModules) = false ∧ Fr h₀ L s₁.heap m ∧ News h₀ L s₁.heap news ∧ (d, o) ∈ news ∧ o.IsDictOf (intKind prog w) kvs ∧ kvs.length ≤ sizeLine ∧
      (∀ C (i : Nat) (k : Int) (v : Value) (t : Tok) (s₃ : Shared) (m₃ : Str → Option Value) (E' : Value → Shared → Prop), kvs[i]? = some (k, v) → s₃.heap.Ns C m₃ → m₃ x = some (.int k t) → (∀ b o, s₁.heap.get? b = some o → s₃.heap.get? b = some o) →
        wpAny (model prog w) A (eval kx (compEnvC scope cl C env)) (fun key s₄ => (∃ t', key = .int k t') ∧ Keeps s₃ s₄) E' s₃) ∧
      (∀ C (i : Nat) (k : Int) (v : Value) (t : Tok) (s₃ : Shared) (m₃ : Str → Option Value) (E' : Value → Shared → Prop), kvs[i]? = some (k, v) → s₃.heap.Ns C m₃ → m₃ x = some (.int k t) → (∀ b o, s₁.heap.get? b = some o → s₃.heap.get? b = some o) →
        wpAny (model prog w) A (eval vx (compEnvC scope cl C env)) (fun y s₄ => (∃ t', y = .int (g k) t') ∧ Keeps s₃ s₄) E' s₃) ∧
      (∀ D h' tk oD kvs', Fr h₀ L h' (fun z => if z = y then some (.ref D) else m z) → News h₀ L h' ((D, oD) :: news) → (∀ p ∈ news, p.1 ≠ D) → (D == sysModules) = false → oD.IsDictOf (intKind prog w) kvs' → FlatPairs PyData.int kvs' (kdfD (putUp g (kvs.map (·.1)))) → Q .next { s₁ with heap := h', toks := tk })) E s)
    (hbig : h₀.NoLimit)
    (hs : ∀ x, foldedSetIterable iter env x = pure x := by intro _; rfl) :
    wpAny (model prog w) A (exec (.Assign [.Name y py] (.DictComp kx vx [⟨.Name x px, iter, [], 0⟩] scope pos) spos) env) Q E s := by
  subst hL
  rw [exec_Assign_Name_used _ _ _ _ hsw]
  refine wpAny_bind (wpAny_standAt (wpAny_bind ?_))
  show wpAny _ A (do let _ ← comprehension (.DictComp kx vx [⟨.Name x px, iter, [], 0⟩] scope pos) scope env _ newDict false (eval iter env) (some (assign (.Name y py) env))) _ _ s
  refine wpAny_bind (wpAny_mono (wpAny_comprehension_free (use := some (assign (.Name y py) env)) (Q := fun _ s' => Q .next s') rfl hs hclos hkind hnames
    (wpAny_mono h (fun xv s₁ h₁ => ?_) fun _ _ e => e)) (fun _ s' hq => wpAny_pure (wpAny_pure hq)) fun _ _ e => e)
  obtain ⟨rfl, hh, hds, F, N, hm, hdo, hsz, hkx, hvx, hQ⟩ := h₁
  have hol : s₁.heap.get? d = some o := (N _ hm).1
  have hlt := ltN (Heap.lt_size hol)
  have hne : d ≠ s₁.heap.objs.size := Nat.ne_of_lt hlt
  obtain ⟨ep, hd⟩ := (Heap.dictOf_iff.mpr ⟨o, hol, hdo⟩ : s₁.heap.DictOf (intKind prog w) d kvs).dictAt
  refine wpAny_pyIter_dict hds hd ?_
  have W := Walks.dictKeys (knd := intKind prog w) (A := A) hh s₁.heap.objs.size d hne kvs ep
  have hit : (s₁.heap.push { cls := .type "dict_keyiterator", data := .fields #[.ref d, .int 0 0, .int kvs.length 0, .int ep 0] }).IsKeyIter s₁.heap.objs.size d 0 kvs.length ep := ⟨_, Heap.get?_push_size _ rfl, rfl, rfl⟩
  have hd1 := hd.push { cls := .type "dict_keyiterator", data := .fields #[.ref d, .int 0 0, .int kvs.length 0, .int ep 0] }
  have up1 : ∀ b o, s₁.heap.get? b = some o → (s₁.heap.push { cls := .type "dict_keyiterator", data := .fields #[.ref d, .int 0 0, .int kvs.length 0, .int ep 0] }).get? b = some o := fun b o e => Heap.get?_push_of_some _ e
  have z1 : (s₁.heap.push { cls := .type "dict_keyiterator", data := .fields #[.ref d, .int 0 0, .int kvs.length 0, .int ep 0] }).objs.size = s₁.heap.objs.size + 1 := Heap.size_push ..
  generalize s₁.heap.push { cls := .type "dict_keyiterator", data := .fields #[.ref d, .int 0 0, .int kvs.length 0, .int ep 0] } = H1 at hit hd1 up1 z1 ⊢
  refine wpAny_newObj_type (wpAny_newFunctionEnv hcell (by intro y hy; simp at hy) (fun h₁ hns₁ hsb₁ => ?_) hkind)
  dsimp only at hns₁ hsb₁ ⊢
  have hnew : (H1.push { cls := .type "dict", dict := none, data := .dict #[] }).DictOf (intKind prog w) H1.objs.size [] := Heap.DictOf.new H1
  have z2 : (H1.push { cls := .type "dict", dict := none, data := .dict #[] }).objs.size = H1.objs.size + 1 := Heap.size_push ..
  have up2 : ∀ b o, H1.get? b = some o → (H1.push { cls := .type "dict", dict := none, data := .dict #[] }).get? b = some o := fun b o e => Heap.get?_push_of_some _ e
  generalize H1.push { cls := .type "dict", dict := none, data := .dict #[] } = H2 at hns₁ hsb₁ hnew up2 z2 ⊢
  have up3 : ∀ b o, H1.get? b = some o → h₁.get? b = some o := fun b o e => hsb₁.extBut b o (by have q := ltN (Heap.lt_size e); exact Nat.ne_of_lt (by omega)) (Heap.get?_push_of_some _ (up2 b o e))
  have hacc : h₁.DictOf (intKind prog w) H1.objs.size [] := hnew.at fun o e => hsb₁.extBut _ _ (Nat.ne_of_lt (by omega)) (Heap.get?_push_of_some _ e)
  have st0 : h₁.IsKeyIter s₁.heap.objs.size d 0 kvs.length ep ∧ h₁.DictAt (intKind prog w) d kvs ep := ⟨hit.at fun o e => up3 _ o e, hd1.at' fun o e => up3 _ o e⟩
  have up : ∀ h3 : Heap, (∀ b o, b ≠ H2.objs.size → b ∉ [s₁.heap.objs.size] → b ≠ H1.objs.size → h₁.get? b = some o → h3.get? b = some o) → ∀ b o, s₁.heap.get? b = some o → h3.get? b = some o := fun h3 hk b o e => by
    have q := ltN (Heap.lt_size e)
    exact hk b o (Nat.ne_of_lt (by omega)) (fun hm => absurd (List.mem_singleton.mp hm) (Nat.ne_of_lt (by omega))) (Nat.ne_of_lt (by omega)) (up3 b o (up1 b o e))
  have loop : ∀ s₃ : Shared, s₃ = { s₁ with heap := h₁, toks := s₁.toks + ([] : List (Str × Value)).length } →
      codeAny (model prog w) A (.compLoop (.DictComp kx vx [⟨.Name x px, iter, [], 0⟩] scope pos) 0 (.ref s₁.heap.objs.size) (.ref H1.objs.size) (compEnvC scope cl H2.objs.size env))
        (compPost (model prog w) A E (some (assign (.Name y py) env)) (fun _ s' => Q .next s') (.ref H1.objs.size) H2.objs.size) s₃ := by
    rintro s₃ rfl
    refine codeAny_compLoop_walkD (hsz := hsz) (knd := intKind prog w) (cenv := compEnvC scope cl H2.objs.size env) W (fun _ => true) (fun v k => ∃ t, v = .int k t) (fun v y => ∃ k t t', v = .int k t ∧ y = .int (g k) t')
      (lookup_relabel_local hx) (by simp [compEnvC, relabel, hkind]) (by show H1.objs.size ≠ H2.objs.size; exact Nat.ne_of_lt (by omega)) (nin2 (by omega) (by omega)) (nin2 (by show s₁.heap.objs.size < H2.objs.size; omega) (ltN (a := d) (b := H2.objs.size) (by omega))) st0 hacc hns₁ ?_ ?_ ?_ ?_
    · intro i v s₃ m₃ hP hn hm hk
      exact wpAny_pure ⟨rfl, s₃.heap, s₃.toks, rfl, fun _ _ e => e⟩
    · rintro i v s₃ m₃ ⟨k, y', hx', hk'⟩ _ hn hm hk
      obtain ⟨t, rfl⟩ := Value.isInt_shape hk'
      refine wpAny_mono (hkx H2.objs.size i k y' t s₃ m₃ _ hx' hn hm (up s₃.heap hk)) (fun key s₄ h₄ => ⟨?_, h₄.2⟩) fun _ _ e => e
      obtain ⟨⟨t', rfl⟩, _⟩ := h₄
      exact ⟨k, intKind_is _ _ _ _, t, rfl⟩
    · rintro i v s₃ m₃ ⟨k, y', hx', hk'⟩ _ hn hm hk
      obtain ⟨t, rfl⟩ := Value.isInt_shape hk'
      refine wpAny_mono (hvx H2.objs.size i k y' t s₃ m₃ _ hx' hn hm (up s₃.heap hk)) (fun key s₄ h₄ => ⟨?_, h₄.2⟩) fun _ _ e => e
      obtain ⟨⟨t', rfl⟩, _⟩ := h₄
      exact ⟨k, t, t', rfl, rfl⟩
    · intro h' tk m' kvs' vs' hnC hlD hlen hP hF hk
      have hb := @ltN 1 _ (modules_low hbig)
      have hb2 := leN F.above
      have hb3 := ltN F.ns.lt
      have hLC : env.locals ≠ H2.objs.size := Nat.ne_of_lt (by omega)
      have hLD : env.locals ≠ H1.objs.size := Nat.ne_of_lt (by omega)
      have keep0 := up h' hk
      show wpAny _ A (assign (.Name y py) env (.ref H1.objs.size)) _ _ _
      refine wpAny_assign_Name (wpAny_storeName_local hy (F.ns.at' fun o e => keep0 _ o e) (fun h₂ hn₂ hs₂ => ?_) hp)
      refine ⟨m', hnC.sameBut hs₂ (Ne.symm hLC), fun h'' hs'' => ?_⟩
      have keep : ∀ b o, b ≠ env.locals → s₁.heap.get? b = some o → h''.get? b = some o := fun b o hb e => hs''.extBut b o (by have q := ltN (Heap.lt_size e); show b ≠ H2.objs.size; exact Nat.ne_of_lt (by omega)) (hs₂.extBut b o hb (keep0 b o e))
      obtain ⟨oD, hoD, hdD⟩ := Heap.dictOf_iff.mp ((hlD.extBut hs₂.extBut (Ne.symm hLD)).extBut hs''.extBut (Nat.ne_of_lt (by show H1.objs.size < H2.objs.size; omega)))
      have hvs : vs'.map keyI = kvs.map (·.1) := by
        apply List.ext_getElem?
        intro j
        rw [List.getElem?_map, List.getElem?_map]
        by_cases hj : j < vs'.length
        · obtain ⟨k, y', hx', hk'⟩ := hP j _ (List.getElem?_eq_getElem hj)
          obtain ⟨t, ht⟩ := Value.isInt_shape hk'
          rw [List.getElem?_eq_getElem hj, ht, hx']; rfl
        · rw [List.getElem?_eq_none (by omega), List.getElem?_eq_none (by omega)]; rfl
      refine hQ H1.objs.size h'' _ oD kvs' ⟨hn₂.sameBut hs'' hLC, fun b o e => keep b o (Nat.ne_of_lt (by have q := ltN (Heap.lt_size e); omega)) (F.keep b o e), F.above⟩ (fun p hp => ?_) (fun p hp e => ?_) ?_ hdD (putUp_flat (by rwa [List.filter_eq_self.mpr (fun _ _ => rfl)] at hF) _ hvs)
      · rcases List.mem_cons.mp hp with rfl | hp
        · refine ⟨hoD, ?_, ?_⟩
          · exact Ne.symm hLD
          · cases e : h₀.get? H1.objs.size with
            | none => rfl
            | some o' => exact absurd (show H1.objs.size < h₀.objs.size from Heap.lt_size e) (by omega)
        · exact ⟨keep _ _ (N p hp).2.1 (N p hp).1, (N p hp).2⟩
      · exact absurd e (Nat.ne_of_lt (by have q := ltN (Heap.lt_size (N p hp).1); exact ltN (a := p.1) (by omega)))
      · rw [beq_eq_false_iff_ne]; exact Nat.ne_of_gt (show 1 < H1.objs.size by omega)
  exact codeAny_compStart_dict (loop _ rfl) (W.self 0 _ _ _ st0 (loop _ rfl))
end
theorem kdfPut_new {c : List (Int × Int)} {k v : Int} (h : k ∉ c.map (·.1)) : kdfPut c k v = c ++ [(k, v)] := by
  unfold kdfPut
  rw [if_neg]
  intro q
  rw [List.any_eq_true] at q
  obtain ⟨p, hp, e⟩ := q
  exact h (List.mem_map.mpr ⟨p, hp, of_decide_eq_true e⟩)
theorem look_mem {c : List (Int × Int)} : ∀ {k v : Int}, (c.map (·.1)).Nodup → (k, v) ∈ c → kdfLook c k 0 = v := by
  induction c with
  | nil => intro k v _ h; cases h
  | cons p c ih =>
    intro k v hn h
    rw [List.map_cons, List.nodup_cons] at hn
    unfold kdfLook
    rw [List.find?_cons]
    by_cases hk : p.1 = k
    · rw [decide_eq_true hk]
      rcases List.mem_cons.mp h with e | h
      · rw [← e]; rfl
      · exact absurd (List.mem_map.mpr ⟨_, h, hk.symm⟩) hn.1
    · rw [decide_eq_false hk]
      rcases List.mem_cons.mp h with e | h
      · exact absurd (by rw [← e]) hk
      · exact ih hn.2 h
theorem putUp_self' (g : Int → Int) : ∀ (c acc : List (Int × Int)), ((acc ++ c).map (·.1)).Nodup → (∀ p ∈ c, g p.1 = p.2) → (c.map (·.1)).foldl (fun acc k => kdfPut acc k (g k)) acc = acc ++ c
  | [], acc, _, _ => by simp
  | p :: c, acc, hn, hg => by
    rw [List.map_cons, List.foldl_cons, kdfPut_new, hg p List.mem_cons_self, putUp_self' g c (acc ++ [(p.1, p.2)]) (by simpa using hn) (fun q hq => hg q (List.mem_cons_of_mem _ hq))]
    · simp
    · intro hm
      rw [List.map_append, List.nodup_append] at hn
      exact hn.2.2 _ hm _ (List.mem_cons_self ..) rfl
theorem putUp_self {c : List (Int × Int)} (hn : (c.map (·.1)).Nodup) : putUp (fun k => kdfLook c k 0) (c.map (·.1)) = c := by
  have := putUp_self' (fun k => kdfLook c k 0) c [] (by simpa using hn) (fun p hp => look_mem hn hp)
  simpa [putUp] using this
end
-- part Ways
section
theorem cell_off2 {L : Addr} {news : List (Addr × Obj)} (h : ∀ p ∈ news, p.1 < L) : ∀ p ∈ news, p.1 ≠ L + 1 + 1 := fun p hp => Nat.ne_of_lt (Nat.lt_succ_of_lt (Nat.lt_succ_of_lt (h p hp)))
theorem ints_get {vs : List Value} {ns : List Int} (hi : IntsAre vs ns) {i : Nat} {v : Value} (h : vs[i]? = some v) : ∃ t, v = .int (ns.getD i 0) t := by
  obtain ⟨n, t, rfl, e⟩ := hi.at i v h
  exact ⟨t, by rw [List.getD_eq_getElem?_getD, e]; rfl⟩
theorem bitOr_nat (a b : Nat) : Builtin.bitOr a b = ((a ||| b : Nat) : Int) := by
  have hn : ∀ x : Nat, Builtin.bitNot (x : Int) = -(x : Int) - 1 := fun x => by unfold Builtin.bitNot; omega
  have hnn : ∀ x : Nat, Builtin.bitNot (-(x : Int) - 1) = (x : Int) := fun x => by unfold Builtin.bitNot; omega
  have hd : ∀ x : Nat, decide ((0 : Int) ≤ -(x : Int) - 1) = false := fun x => decide_eq_false (by omega)
  unfold Builtin.bitOr Builtin.bitAnd
  rw [hn, hn, hd, hd]
  dsimp only
  rw [hnn, hnn, Int.toNat_natCast, Int.toNat_natCast, hn, hnn]
def colBit (T : Int) (j : Nat) : Bool := decide (Builtin.bitAnd (T.fdiv (2 ^ (j : Int).toNat)) 1 = 0)
def withBit (T : Int) (j : Nat) : Int := Builtin.bitOr T (1 * 2 ^ (j : Int).toNat)
theorem withBit_nat (T j : Nat) : withBit (T : Int) j = ((T ||| 2 ^ j : Nat) : Int) := by
  unfold withBit
  rw [Int.one_mul, Int.toNat_natCast, ← bitOr_nat, Int.natCast_pow]; rfl
def cellUp (T v : Int) (g : List (Int × Int)) : Nat → List (Int × Int)
  | 0 => g
  | j + 1 => if colBit T j then kdfPut (cellUp T v g j) (withBit T j) (kdfLook (cellUp T v g j) (withBit T j) 0 + v) else cellUp T v g j
def growUp (c : List (Int × Int)) (lead : Int) : Nat → List (Int × Int)
  | 0 => c
  | i + 1 => cellUp (c.getD i (0, 0)).1 (kdfLook c (c.getD i (0, 0)).1 0) (growUp c lead i) lead.toNat
def countUp (c : List (Int × Int)) (ch : Int → Int) : Nat → List Int
  | 0 => [0, 0, 0, 0, 0]
  | i + 1 => (countUp c ch i).set (ch (c.getD i (0, 0)).1).toNat ((countUp c ch i).getD (ch (c.getD i (0, 0)).1).toNat 0 + kdfLook c (c.getD i (0, 0)).1 0)
def bits5 (T : Int) (n : Nat) : List Int := (List.range n).map fun (j : Nat) => Builtin.bitAnd (T.fdiv (2 ^ (j : Int).toNat)) 1
theorem bits5_succ (T : Int) (n : Nat) : bits5 T (n + 1) = bits5 T n ++ [Builtin.bitAnd (T.fdiv (2 ^ (n : Int).toNat)) 1] := by
  unfold bits5; rw [List.range_succ, List.map_append]; rfl
theorem countUp_succ {c : List (Int × Int)} {ch : Int → Int} {i : Nat} {T v : Int} (h : c.getD i (0, 0) = (T, v)) : countUp c ch (i + 1) = (countUp c ch i).set (ch T).toNat ((countUp c ch i).getD (ch T).toNat 0 + kdfLook c T 0) := by rw [countUp, h]
theorem sub1234 {α : Type} {a b c d : α} {l : List α} : ∀ p ∈ a :: l, p ∈ a :: b :: c :: d :: l := fun p hp => by
  simp only [List.mem_cons] at hp ⊢; rcases hp with h | h <;> simp [h]
theorem countUp_length (c : List (Int × Int)) (ch : Int → Int) : ∀ i, (countUp c ch i).length = 5
  | 0 => rfl
  | i + 1 => by rw [countUp, List.length_set, countUp_length c ch i]
def waysUp (ns : List Int) : Nat → List (Int × Int)
  | 0 => [(0, 1)]
  | i + 1 => growUp (waysUp ns i) (ns.getD i 0) (waysUp ns i).length
theorem cellUp_len (T v : Int) (g : List (Int × Int)) : ∀ j, (cellUp T v g j).length ≤ g.length + j
  | 0 => Nat.le_refl _
  | j + 1 => by
    have ih := cellUp_len T v g j
    rw [cellUp]
    split
    · have := kdfPut_len (cellUp T v g j) (withBit T j) (kdfLook (cellUp T v g j) (withBit T j) 0 + v); omega
    · omega
theorem growUp_len (c : List (Int × Int)) (lead : Int) : ∀ i, (growUp c lead i).length ≤ c.length + i * lead.toNat
  | 0 => by rw [growUp, Nat.zero_mul]; exact Nat.le_refl _
  | i + 1 => by
    have ih := growUp_len c lead i
    have := cellUp_len (c.getD i (0, 0)).1 (kdfLook c (c.getD i (0, 0)).1 0) (growUp c lead i) lead.toNat
    rw [growUp, Nat.succ_mul]; omega
theorem waysUp_len (ns : List Int) (h : ∀ i, 0 ≤ ns.getD i 0 ∧ ns.getD i 0 ≤ 5) : ∀ i, (waysUp ns i).length ≤ 6 ^ i
  | 0 => Nat.le_refl _
  | i + 1 => by
    have ih := waysUp_len ns h i
    have := growUp_len (waysUp ns i) (ns.getD i 0) (waysUp ns i).length
    have h2 := h i
    have h3 : (waysUp ns i).length * (ns.getD i 0).toNat ≤ (waysUp ns i).length * 5 := Nat.mul_le_mul (Nat.le_refl _) (by omega)
    rw [waysUp, Nat.pow_succ]; omega
theorem kdfPut_mem {c : List (Int × Int)} {k v : Int} {p : Int × Int} (h : p ∈ kdfPut c k v) : p.1 = k ∨ ∃ q ∈ c, q.1 = p.1 := by
  unfold kdfPut at h
  split at h
  · obtain ⟨q, hq, rfl⟩ := List.mem_map.mp h
    right
    refine ⟨q, hq, ?_⟩
    split <;> rfl
  · rcases List.mem_append.mp h with h | h
    · exact .inr ⟨p, h, rfl⟩
    · rw [List.mem_singleton.mp h]; exact .inl rfl
/-- a key is a set of columns below 5, of no more than i -/
def KeyOk (i : Nat) (k : Int) : Prop := ∃ n : Nat, k = n ∧ n < 32 ∧ (bits5 (n : Int) 5).sum ≤ i
theorem bits5_with : ∀ n : Fin 32, ∀ j : Fin 5, colBit ((n.val : Nat) : Int) j.val = true → n.val ||| 2 ^ j.val < 32 ∧ (bits5 ((n.val ||| 2 ^ j.val : Nat) : Int) 5).sum = (bits5 ((n.val : Nat) : Int) 5).sum + 1 := by decide +kernel
theorem bits5_lo : ∀ n : Fin 32, 0 ≤ (bits5 ((n.val : Nat) : Int) 5).sum := by decide +kernel
theorem KeyOk.up {i : Nat} {k : Int} (h : KeyOk i k) : KeyOk (i + 1) k := by
  obtain ⟨n, e, h1, h2⟩ := h; exact ⟨n, e, h1, by omega⟩
theorem cellUp_ok (i : Nat) (T : Int) (v : Int) (g : List (Int × Int)) (hT : KeyOk i T) (hg : ∀ p ∈ g, KeyOk (i + 1) p.1) : ∀ j, j ≤ 5 → ∀ p ∈ cellUp T v g j, KeyOk (i + 1) p.1
  | 0, _ => hg
  | j + 1, hj => by
    have ih := cellUp_ok i T v g hT hg j (by omega)
    rw [cellUp]
    split
    · rename_i hb
      intro p hp
      rcases kdfPut_mem hp with h | ⟨q, hq, e⟩
      · obtain ⟨n, rfl, h1, h2⟩ := hT
        have := bits5_with ⟨n, h1⟩ ⟨j, by omega⟩ hb
        rw [h, withBit_nat]
        exact ⟨_, rfl, this.1, by rw [this.2]; dsimp only; omega⟩
      · rw [← e]; exact ih q hq
    · exact ih
theorem growUp_ok (i : Nat) (c : List (Int × Int)) (hc : ∀ p ∈ c, KeyOk i p.1) (lead : Int) (hl : lead ≤ 5) : ∀ j, j ≤ c.length → ∀ p ∈ growUp c lead j, KeyOk (i + 1) p.1
  | 0, _ => fun p hp => (hc p hp).up
  | j + 1, hj => by
    rw [growUp]
    have hT : c.getD j (0, 0) ∈ c := by
      rw [List.getD_eq_getElem?_getD, List.getElem?_eq_getElem (by omega)]
      exact List.getElem_mem _
    exact cellUp_ok i _ _ _ (hc _ hT) (growUp_ok i c hc lead hl j (by omega)) _ (by omega)
theorem waysUp_ok (ns : List Int) (h : ∀ i, 0 ≤ ns.getD i 0 ∧ ns.getD i 0 ≤ 5) : ∀ i, ∀ p ∈ waysUp ns i, KeyOk i p.1
  | 0 => fun p hp => ⟨0, by rw [List.mem_singleton.mp hp]; rfl, by decide, by decide +kernel⟩
  | i + 1 => by rw [waysUp]; exact growUp_ok i _ (waysUp_ok ns h i) _ (h i).2 _ (Nat.le_refl _)
def countedOf (ns : List Int) : List Int := countUp (waysUp ns ns.length) (fun T => (bits5 T 5).sum) (waysUp ns ns.length).length
local macro_rules | `(tactic| walk_at "call builtin:dict.get") => `(tactic| ((try dsimp only [List.nil_append, List.cons_append]); (with_reducible show wpAny _ _ (call (Value.builtin "dict.get") [Value.ref _, Value.int _ _, Value.int _ _]) _ _ _); k_dflt (refine kdf_get2 (by k_tabat) ?_); intro _))
theorem ways_c {w : World} {news : List (Addr × Obj)} (l : Addr) (vs : List Value) (ns : List Int) (e : Nat)
  (hl : (l, (W.listOf vs.toArray e)) ∈ news) (hi : IntsAre vs ns) (hlen : ns.length ≤ 4) (hns : ∀ i, 0 ≤ ns.getD i 0 ∧ ns.getD i 0 ≤ 5) :
  CTell w 143 [.ref l] 20 news (fun r n' => ∃ D vs' e', r = .ref D ∧ n' = (D, W.listOf vs'.toArray e') :: news ∧ (∀ p ∈ news, p.1 ≠ D) ∧ IntsAre vs' (countedOf ns)) := by
  unfold CTell
  k_fill
  intro p loose mean mg mb dp un gd cn cs a ccd cl outer A₀ base h₀ L m s Q E B F X N T hk hd hu ret
  refine wpAny_call ?_
  k_dflt ktr_enter
  clear B F X N T hk
  rename Fr _ _ _ _ => F1
  replace F1 := fr_as F1 (m' := fun y => if y = "leads" then some (.ref l) else none) (fun y => by with_unfolding_all rfl)
  rename (∀ p ∈ news, p.1 < _) => ltL
  rename_i gX LX hX tX FGX BX XX TX oX o2X d1 d2 NX
  replace d1 : _ = Data.cell none := d1
  replace d2 : _ = Data.cell none := d2
  have hcell := cell_off ltL
  have hcell2 := cell_off2 ltL
  have hlen4 : Hold (ns.length ≤ 4) := hlen
  replace hlen : ns.length ≤ 1000 := Nat.le_trans hlen (by decide)
  have hS : Hold True := trivial
  k_steps
  refine (Hold.mk ?_ : Hold _)
  rename Fr _ _ _ _ => F1
  rename News _ _ _ _ => N1
  rename (_ = Data.cell (some _)) => dW
  rename (_ == sysModules) = false => lo1
  rename (_ < _ ∧ _ < _ ∧ AllLt _ news) => ltD
  rename FlatPairs _ _ _ => hf1
  rename Obj.IsDictOf _ _ _ => hd1
  rename_i oD1 ap1 hW1 oW1
  replace dW : oW1.data = Data.cell (some (.ref hX.objs.size)) := dW
  refine For_invVF F1 rfl rfl ?_
  k_steps
  refine (Hold.mk ?_ : Hold _)
  refine list_loop (fun i m' nx => ∃ (D : Addr) (oD oT oW : Obj) (kvs : List (Int × Value)) (vT : Option Value), nx = (D, oD) :: (LX + 1 + 1, oT) :: (LX + 1, oW) :: news ∧ oD.IsDictOf (intKind PySem.Challenge.rw_sw0019_01.row.prog w) kvs ∧ FlatPairs PyData.int kvs (kdfD (waysUp ns i)) ∧
      oT.data = .cell vT ∧ oW.data = .cell (some (.ref D)) ∧ (D == sysModules) = false ∧ D ≠ LX + 1 + 1 ∧ D ≠ LX + 1 ∧ (∀ p ∈ news, p.1 ≠ D) ∧ (∀ y : Str, y ≠ "lead" → y ≠ "grown" → y ≠ "column" → y ≠ "more" → m' y = (fun (y : Str) => if y = "leads" then some (.ref l) else none) y))
    rfl (List.mem_cons_of_mem _ (List.mem_cons_of_mem _ (List.mem_cons_of_mem _ hl))) rfl F1 N1 ⟨_, _, _, _, _, _, rfl, hd1, hf1, d1, dW, lo1, Nat.ne_of_gt ltD.1, Nat.ne_of_gt ltD.2.1, fun p hp => ap1 p (List.mem_cons_of_mem _ (List.mem_cons_of_mem _ hp)), (by intro y q0 q1 q2 q3; simp only [q0, q1, q2, q3, if_false])⟩ ?_ ?_
  · clear hf1 hd1 lo1 dW ap1
    rintro i v m₁ nx h tk I oI hv hlx hneI ⟨D, oD, oT, oW, kvs, vT, rfl, hdD, hfD, hdT, hdW, loD, hD2, hD1, hDn, hm⟩ F2 N2
    obtain ⟨lead0, tv, rfl, hlead⟩ := hi.at i v hv
    have hle : ns.getD i 0 = lead0 := by rw [List.getD_eq_getElem?_getD, hlead]; rfl
    obtain ⟨lead, rfl⟩ : ∃ n : Nat, lead0 = (n : Int) := ⟨lead0.toNat, by have := hns i; omega⟩
    have hlead5 : Hold (lead ≤ 5) := by have := hns i; show lead ≤ 5; omega
    have hlead1 : lead ≤ 1000 := Nat.le_trans hlead5 (by decide)
    have e_rest := hm; replace F2 := fr_as F2 (m' := fun (y : Str) => if y = "lead" then some (.int (lead : Int) tv) else if y = "grown" then m₁ "grown" else if y = "column" then m₁ "column" else if y = "more" then m₁ "more" else (fun (y : Str) => if y = "leads" then some (.ref l) else none) y) (by intro y; (by_cases qx : y = "lead"); (rw [if_pos qx, if_pos qx]); rw [if_neg qx, if_neg qx]; (by_cases q1 : y = "grown"); (subst q1; rw [if_pos rfl]); rw [if_neg q1]; (by_cases q2 : y = "column"); (subst q2; rw [if_pos rfl]); rw [if_neg q2]; (by_cases q3 : y = "more"); (subst q3; rw [if_pos rfl]); rw [if_neg q3]; exact e_rest y qx q1 q2 q3)
    clear F1 N1
    k_steps
    refine (Hold.mk ?_ : Hold _)
    refine dict_comp (fun k => kdfLook (waysUp ns i) k 0) F2 N2 (List.mem_cons_of_mem _ List.mem_cons_self) hdD (by with_unfolding_all rfl) rfl (by with_unfolding_all rfl) (by decide) (by rfl) (by decide) (by rfl) (by rfl) (by rfl) ?_ (Top.nolimit (by assumption))
    walk1
    have hwl : (waysUp ns i).length ≤ 1296 := by
      have hin : i < ns.length := (List.getElem?_eq_some_iff.mp hlead).1
      exact Nat.le_trans (waysUp_len ns hns i) (Nat.le_trans (Nat.pow_le_pow_right (by decide) (show i ≤ 4 by have := hlen4.out; omega)) (by decide))
    have hkl := fp_length hfD
    refine ⟨rfl, rfl, loD, F2, N2, List.mem_cons_of_mem _ List.mem_cons_self, hdD, by rw [sizeLine_eq]; omega, ?_, ?_, ?_⟩
    · intro C j k u t s₃ m₃ E' hx hn hm3 hk
      exact wpAny_Name (wpAny_loadName_local (by rfl) (by rfl) hn hm3 ⟨⟨_, rfl⟩, _, _, rfl, fun _ _ e => e⟩) (by decide)
    · intro C j k u t s₃ m₃ E' hx hn hm3 hk
      have N3 := N2.grown hk
      refine Subscript_ (lcf_cell N3 (by rfl) (List.mem_cons_of_mem _ (List.mem_cons_of_mem _ (List.mem_cons_of_mem _ List.mem_cons_self))) hdW ?_ (by rfl) (by rfl))
      refine wpAny_Name (wpAny_loadName_local (by rfl) (by rfl) hn hm3 ?_) (by decide)
      obtain ⟨v', hc⟩ := fp_get hfD hx
      exact kdf_item (TabAt.ofNews N3 (List.mem_cons_of_mem _ List.mem_cons_self) loD hdD hfD) (has_of_get hc) fun t' => ⟨⟨_, rfl⟩, _, _, rfl, fun _ _ e => e⟩
    · intro G h3 tk3 oG kvs3 F3 N3 hGn loG hdG hfG
      have hkeys : (kvs.map (·.1)).Nodup := keysNodup_of_isDictOf hdD
      rw [fp_keys hfD] at hkeys hfG
      rw [putUp_self hkeys] at hfG
      have hDG : D ≠ G := hGn _ (List.mem_cons_of_mem _ List.mem_cons_self)
      have hTG : LX + 1 + 1 ≠ G := hGn _ (List.mem_cons_of_mem _ (List.mem_cons_of_mem _ List.mem_cons_self))
      have hWG : LX + 1 ≠ G := hGn _ (List.mem_cons_of_mem _ (List.mem_cons_of_mem _ (List.mem_cons_of_mem _ List.mem_cons_self)))
      have hIG : I ≠ G := hGn _ List.mem_cons_self
      have hnG : ∀ p ∈ news, p.1 ≠ G := fun p hp => hGn p (List.mem_cons_of_mem _ (List.mem_cons_of_mem _ (List.mem_cons_of_mem _ (List.mem_cons_of_mem _ hp))))
      dsimp only
      clear N2 F2
      k_steps
      refine (Hold.mk ?_ : Hold _)
      refine For_turns F3 ?_
      k_steps
      refine (Hold.mk ?_ : Hold _)
      refine dict_turns (fun j m' nx => ∃ (oG oT : Obj) (kvsG : List (Int × Value)) (vT : Option Value), nx = (G, oG) :: (I, oI) :: (D, oD) :: (LX + 1 + 1, oT) :: (LX + 1, oW) :: news ∧ oG.IsDictOf (intKind PySem.Challenge.rw_sw0019_01.row.prog w) kvsG ∧ FlatPairs PyData.int kvsG (kdfD (growUp (waysUp ns i) (lead : Int) j)) ∧
          oT.data = .cell vT ∧ (m' "lead" = some (.int (lead : Int) tv)) ∧ (m' "grown" = some (.ref G)) ∧ (∀ y : Str, y ≠ "lead" → y ≠ "grown" → y ≠ "column" → y ≠ "more" → m' y = (fun (y : Str) => if y = "leads" then some (.ref l) else none) y))
        rfl loD (List.mem_cons_of_mem _ (List.mem_cons_of_mem _ List.mem_cons_self)) hdD F3 N3 ⟨_, _, _, _, rfl, hdG, hfG, hdT, ⟨(by with_unfolding_all rfl), (by with_unfolding_all rfl), (by intro y q0 q1 q2 q3; simp only [q0, q1, q2, q3, if_false])⟩⟩ ?_ ?_
      · clear hdG hfG N3 F3 hdT
        rintro j k u tkk m₂ nx h4 tk4 I2 oI2 hx hDx hneI2 ⟨oG, oT2, kvsG, vT2, rfl, hdG, hfG, hdT, hm⟩ F4 N4
        obtain ⟨e_lead, e_grown, e_rest⟩ := hm; replace F4 := fr_as F4 (m' := fun (y : Str) => if y = "lead" then some (.int (lead : Int) tv) else if y = "grown" then some (.ref G) else if y = "column" then m₂ "column" else if y = "more" then m₂ "more" else (fun (y : Str) => if y = "leads" then some (.ref l) else none) y) (by intro y; (by_cases q0 : y = "lead"); (subst q0; rw [if_pos rfl]; exact e_lead); rw [if_neg q0]; (by_cases q1 : y = "grown"); (subst q1; rw [if_pos rfl]; exact e_grown); rw [if_neg q1]; (by_cases q2 : y = "column"); (subst q2; rw [if_pos rfl]); rw [if_neg q2]; (by_cases q3 : y = "more"); (subst q3; rw [if_pos rfl]); rw [if_neg q3]; exact e_rest y q0 q1 q2 q3)
        obtain ⟨v', hc⟩ := fp_get hfD hx
        obtain ⟨T, rfl, _, _⟩ := waysUp_ok ns hns i (k, v') (List.mem_of_getElem? hc)
        have hI2 : LX + 1 + 1 ≠ I2 := hneI2 _ (List.mem_cons_of_mem _ (List.mem_cons_of_mem _ (List.mem_cons_of_mem _ List.mem_cons_self)))
        have hIT : LX + 1 + 1 ≠ I := hneI _ (List.mem_cons_of_mem _ List.mem_cons_self)
        refine wpAny_assign_Name (storeX_C F4 N4 (by rfl) (UpdF.tail (Ne.symm hI2) (UpdF.tail (Ne.symm hTG) (UpdF.tail (Ne.symm hIT) (UpdF.tail hD2 (UpdF.head (List.forall_mem_cons.mpr ⟨Nat.ne_of_lt (Nat.lt_succ_self _), hcell2⟩)))))) hdT ?_ (by rfl) (by rfl))
        intro h5 oT5 F5 N5 dT5
        clear N4 F4 hdT
        k_steps
        refine (Hold.mk ?_ : Hold _)
        refine For_invVF F5 rfl rfl ?_
        k_steps
        refine (Hold.mk ?_ : Hold _)
        rename IsRange _ _ _ _ _ _ _ _ => hR
        rename Fr _ _ _ _ => F6
        rename News _ _ _ _ => N6
        have hgl : (growUp (waysUp ns i) (lead : Int) j).length ≤ 10000 := by
          have h1 := growUp_len (waysUp ns i) (lead : Int) j
          have h2 : j < kvs.length := (List.getElem?_eq_some_iff.mp hx).1
          have h3 : j * (lead : Int).toNat ≤ 1296 * 5 := Nat.mul_le_mul (by omega) (by have := hlead5.out; omega)
          omega
        refine range_loop (n := lead) (fun c m' nx => ∃ (oG : Obj) (kvsG : List (Int × Value)), nx = (I2, oI2) :: (G, oG) :: (I, oI) :: (D, oD) :: (LX + 1 + 1, oT5) :: (LX + 1, oW) :: news ∧ oG.IsDictOf (intKind PySem.Challenge.rw_sw0019_01.row.prog w) kvsG ∧
            FlatPairs PyData.int kvsG (kdfD (cellUp (T : Int) (kdfLook (waysUp ns i) (T : Int) 0) (growUp (waysUp ns i) (lead : Int) j) c)) ∧ (m' "lead" = some (.int (lead : Int) tv)) ∧ (m' "grown" = some (.ref G)) ∧ (∀ y : Str, y ≠ "lead" → y ≠ "grown" → y ≠ "column" → y ≠ "more" → m' y = (fun (y : Str) => if y = "leads" then some (.ref l) else none) y))
          rfl hR (range_small _ (by omega)) (range_size _) F6 N6 ⟨_, _, rfl, hdG, hfG, ⟨(by with_unfolding_all rfl), (by with_unfolding_all rfl), (by intro y q0 q1 q2 q3; simp only [q0, q1, q2, q3, if_false])⟩⟩ ?_ ?_
        · clear hdG hfG hR F6 N6
          rintro c tc m₃ nx h6 tk6 I3 oI3 hcl hneI3 ⟨oG, kvsG, rfl, hdG, hfG, hm⟩ F6 N6
          rw [Int.zero_add] at F6
          obtain ⟨e_lead, e_grown, e_rest⟩ := hm; replace F6 := fr_as F6 (m' := fun (y : Str) => if y = "column" then some (.int (c : Int) tc) else if y = "lead" then some (.int (lead : Int) tv) else if y = "grown" then some (.ref G) else if y = "more" then m₃ "more" else (fun (y : Str) => if y = "leads" then some (.ref l) else none) y) (by intro y; (by_cases qx : y = "column"); (rw [if_pos qx, if_pos qx]); rw [if_neg qx, if_neg qx]; (by_cases q0 : y = "lead"); (subst q0; rw [if_pos rfl]; exact e_lead); rw [if_neg q0]; (by_cases q1 : y = "grown"); (subst q1; rw [if_pos rfl]; exact e_grown); rw [if_neg q1]; (by_cases q3 : y = "more"); (subst q3; rw [if_pos rfl]); rw [if_neg q3]; exact e_rest y q0 q1 qx q3)
          have hcl2 := cellUp_len (T : Int) (kdfLook (waysUp ns i) (T : Int) 0) (growUp (waysUp ns i) (lead : Int) j) c
          have hhas := has_of_get hc
          k_steps
          · rename _ = (0 : Int) => hbit
            rename Fr _ _ _ _ => F7
            rename News _ _ _ _ => N7
            have hGI3 : G ≠ I3 := hneI3 _ (List.mem_cons_of_mem _ List.mem_cons_self)
            have hGI2 : G ≠ I2 := hneI2 _ List.mem_cons_self
            refine kdf_setItem F7 N7 (UpdF.tail (Ne.symm hGI3) (UpdF.tail (Ne.symm hGI2) (UpdF.head (by exact List.forall_mem_cons.mpr ⟨hIG, List.forall_mem_cons.mpr ⟨hDG, List.forall_mem_cons.mpr ⟨hTG, List.forall_mem_cons.mpr ⟨hWG, hnG⟩⟩⟩⟩)))) hdG hfG (by omega) ?_
            intro h8 o8 kvs8 F8 N8 hd8 hf8
            clear F7 N7
            k_steps
            exact TEnd.intro F8 N8 (List.forall_mem_cons.mpr ⟨hneI3 _ List.mem_cons_self, ne_same (fun p hp => hneI3 p (List.mem_cons_of_mem _ hp))⟩) (fun _ h => nomatch h)
              ⟨_, _, rfl, hd8, by rw [cellUp, if_pos (show colBit (T : Int) c = true from decide_eq_true hbit)]; exact hf8, ⟨(by with_unfolding_all rfl), (by with_unfolding_all rfl), (by intro y q0 q1 q2 q3; simp only [q0, q1, q2, q3, if_false])⟩⟩
          · rename ¬ _ = (0 : Int) => hbit
            exact TEnd.intro F6 N6 hneI3 (fun _ h => nomatch h)
              ⟨_, _, rfl, hdG, by rw [cellUp, if_neg (show ¬ colBit (T : Int) c = true from fun h => hbit (of_decide_eq_true h))]; exact hfG, ⟨(by with_unfolding_all rfl), (by with_unfolding_all rfl), (by intro y q0 q1 q2 q3; simp only [q0, q1, q2, q3, if_false])⟩⟩
        · rintro m₃ nx h6 tk6 ⟨oG, kvsG, rfl, hdG, hfG, hm⟩ F6 N6
          obtain ⟨e_lead, e_grown, e_rest⟩ := hm; replace F6 := fr_as F6 (m' := fun (y : Str) => if y = "lead" then some (.int (lead : Int) tv) else if y = "grown" then some (.ref G) else if y = "column" then m₃ "column" else if y = "more" then m₃ "more" else (fun (y : Str) => if y = "leads" then some (.ref l) else none) y) (by intro y; (by_cases q0 : y = "lead"); (subst q0; rw [if_pos rfl]; exact e_lead); rw [if_neg q0]; (by_cases q1 : y = "grown"); (subst q1; rw [if_pos rfl]; exact e_grown); rw [if_neg q1]; (by_cases q2 : y = "column"); (subst q2; rw [if_pos rfl]); rw [if_neg q2]; (by_cases q3 : y = "more"); (subst q3; rw [if_pos rfl]); rw [if_neg q3]; exact e_rest y q0 q1 q2 q3)
          dsimp only
          k_steps
          have hcg : (waysUp ns i).getD j (0, 0) = ((T : Int), v') := by rw [List.getD_eq_getElem?_getD, hc]; rfl
          exact TEnd.intro F6 N6 (ne_same (fun p hp => by
              rcases List.mem_cons.mp hp with rfl | hp
              · exact hneI2 _ List.mem_cons_self
              rcases List.mem_cons.mp hp with rfl | hp
              · exact hneI2 _ (List.mem_cons_of_mem _ List.mem_cons_self)
              rcases List.mem_cons.mp hp with rfl | hp
              · exact hneI2 _ (List.mem_cons_of_mem _ (List.mem_cons_of_mem _ List.mem_cons_self))
              rcases List.mem_cons.mp hp with rfl | hp
              · exact Ne.symm (Ne.symm hI2)
              exact hneI2 _ (List.mem_cons_of_mem _ (List.mem_cons_of_mem _ (List.mem_cons_of_mem _ (List.mem_cons_of_mem _ hp))))))
            (fun p hp => by rw [List.mem_singleton.mp hp]; exact List.mem_cons_of_mem _ (List.mem_cons_of_mem _ List.mem_cons_self))
            ⟨_, _, _, _, rfl, hdG, by rw [growUp, hcg, Int.toNat_natCast]; exact hfG, dT5, ⟨(by with_unfolding_all rfl), (by with_unfolding_all rfl), (by intro y q0 q1 q2 q3; simp only [q0, q1, q2, q3, if_false])⟩⟩
      · clear hdG hfG N3 F3 hdT
        rintro m₂ nx h4 tk4 hDx ⟨oG, oT2, kvsG, vT2, rfl, hdG, hfG, hdT, hm⟩ F4 N4
        obtain ⟨e_lead, e_grown, e_rest⟩ := hm; replace F4 := fr_as F4 (m' := fun (y : Str) => if y = "lead" then some (.int (lead : Int) tv) else if y = "grown" then some (.ref G) else if y = "column" then m₂ "column" else if y = "more" then m₂ "more" else (fun (y : Str) => if y = "leads" then some (.ref l) else none) y) (by intro y; (by_cases q0 : y = "lead"); (subst q0; rw [if_pos rfl]; exact e_lead); rw [if_neg q0]; (by_cases q1 : y = "grown"); (subst q1; rw [if_pos rfl]; exact e_grown); rw [if_neg q1]; (by_cases q2 : y = "column"); (subst q2; rw [if_pos rfl]); rw [if_neg q2]; (by_cases q3 : y = "more"); (subst q3; rw [if_pos rfl]); rw [if_neg q3]; exact e_rest y q0 q1 q2 q3)
        dsimp only
        k_steps
        have hIW : LX + 1 ≠ I := hneI _ (List.mem_cons_of_mem _ (List.mem_cons_of_mem _ List.mem_cons_self))
        have hIT : LX + 1 + 1 ≠ I := hneI _ (List.mem_cons_of_mem _ List.mem_cons_self)
        have h12 : LX + 1 + 1 ≠ LX + 1 := Nat.ne_of_gt (Nat.lt_succ_self _)
        refine storeX_C F4 N4 (by rfl) (UpdF.tail (Ne.symm hWG) (UpdF.tail (Ne.symm hIW) (UpdF.tail hD1 (UpdF.tail h12 (UpdF.head hcell))))) hdW ?_ (by rfl) (by rfl)
        intro h5 oW5 F5 N5 dW5
        clear F4 N4
        k_steps
        refine TEnd.intro F5 (news_sub N5 (news' := (I, oI) :: (G, oG) :: (LX + 1 + 1, oT2) :: (LX + 1, oW5) :: news) (fun p hp => by simp only [List.mem_cons] at hp ⊢; rcases hp with h | h | h | h | h <;> simp [h])) ?_ ?_
          ⟨G, oG, oT2, oW5, kvsG, vT2, rfl, hdG, ?_, hdT, dW5, loG, Ne.symm hTG, Ne.symm hWG, hnG, (by intro y q0 q1 q2 q3; simp only [q0, q1, q2, q3, if_false])⟩
        · intro p hp
          rcases List.mem_cons.mp hp with rfl | hp
          · exact Ne.symm hIG
          rcases List.mem_cons.mp hp with rfl | hp
          · exact hIT
          rcases List.mem_cons.mp hp with rfl | hp
          · exact hIW
          exact hneI _ (List.mem_cons_of_mem _ (List.mem_cons_of_mem _ (List.mem_cons_of_mem _ hp)))
        · intro p hp
          rw [List.mem_singleton.mp hp]
          exact List.mem_cons_of_mem _ (List.mem_cons_of_mem _ (List.mem_cons_of_mem _ hl))
        · rw [waysUp, hle, ← hkl]; exact hfG
  · clear hf1 hd1 lo1 dW ap1
    rintro m₁ nx h tk hlx ⟨D, oD, oT, oW, kvs, vT, rfl, hdD, hfD, hdT, hdW, loD, hD2, hD1, hDn, hm⟩ F2 N2
    have e_rest := hm; replace F2 := fr_as F2 (m' := fun (y : Str) => if y = "lead" then m₁ "lead" else if y = "grown" then m₁ "grown" else if y = "column" then m₁ "column" else if y = "more" then m₁ "more" else (fun (y : Str) => if y = "leads" then some (.ref l) else none) y) (by intro y; (by_cases q0 : y = "lead"); (subst q0; rw [if_pos rfl]); rw [if_neg q0]; (by_cases q1 : y = "grown"); (subst q1; rw [if_pos rfl]); rw [if_neg q1]; (by_cases q2 : y = "column"); (subst q2; rw [if_pos rfl]); rw [if_neg q2]; (by_cases q3 : y = "more"); (subst q3; rw [if_pos rfl]); rw [if_neg q3]; exact e_rest y q0 q1 q2 q3)
    clear F1 N1
    rw [hi.length] at hfD
    dsimp only
    k_steps
    refine (Hold.mk ?_ : Hold _)
    rename Fr _ _ _ _ => F3
    rename News _ _ _ _ => N3
    obtain ⟨C, hC, N3⟩ := head_as N3
    subst hC
    rename (_ < C ∧ _ < C ∧ _ < C ∧ AllLt C news) => ltC
    have hDC : D ≠ C := Nat.ne_of_lt ltC.1
    have hTC : LX + 1 + 1 ≠ C := Nat.ne_of_lt ltC.2.1
    have hWC : LX + 1 ≠ C := Nat.ne_of_lt ltC.2.2.1
    have hnC : ∀ p ∈ news, p.1 ≠ C := fun p hp => Nat.ne_of_lt (Nat.lt_trans (Nat.lt_succ_of_lt (ltL p hp)) ltC.2.2.1)
    obtain ⟨zs, ez, N3', hzs⟩ := led_ints (ns := [0, 0, 0, 0, 0]) N3 (.cons _ _ (.cons _ _ (.cons _ _ (.cons _ _ (.cons _ _ .nil)))))
    clear N3
    have hwl : (waysUp ns ns.length).length ≤ 1296 := Nat.le_trans (waysUp_len ns hns _) (Nat.le_trans (Nat.pow_le_pow_right (by decide) hlen4.out) (by decide))
    refine For_turns F3 ?_
    k_steps
    refine (Hold.mk ?_ : Hold _)
    refine dict_turns (fun j m' nx => ∃ (oT : Obj) (vT : Option Value) (qs : List Value) (ec : Nat), nx = (C, W.listOf qs.toArray ec) :: (D, oD) :: (LX + 1 + 1, oT) :: (LX + 1, oW) :: news ∧ oT.data = .cell vT ∧ IntsAre qs (countUp (waysUp ns ns.length) (fun T => (bits5 T 5).sum) j) ∧
          (m' "counted" = some (.ref C)) ∧ (∀ y : Str, y ≠ "counted" → y ≠ "lead" → y ≠ "grown" → y ≠ "column" → y ≠ "more" → y ≠ "chosen" → m' y = (fun (y : Str) => if y = "leads" then some (.ref l) else none) y))
        rfl loD (List.mem_cons_of_mem _ List.mem_cons_self) hdD F3 N3' ⟨_, _, _, _, rfl, hdT, hzs, ⟨(by with_unfolding_all rfl), (by intro y q0 q1 q2 q3 q4 q5; simp only [q0, q1, q2, q3, q4, q5, if_false])⟩⟩ ?_ ?_
    · clear N3' F3 hdT
      rintro j k u tkk m₂ nx h4 tk4 I2 oI2 hx hDx hneI2 ⟨oT2, vT2, qs, ec, rfl, hdT, hqs, hm⟩ F4 N4
      obtain ⟨e_counted, e_rest⟩ := hm; replace F4 := fr_as F4 (m' := fun (y : Str) => if y = "counted" then some (.ref C) else if y = "lead" then m₂ "lead" else if y = "grown" then m₂ "grown" else if y = "column" then m₂ "column" else if y = "more" then m₂ "more" else if y = "chosen" then m₂ "chosen" else (fun (y : Str) => if y = "leads" then some (.ref l) else none) y) (by intro y; (by_cases q0 : y = "counted"); (subst q0; rw [if_pos rfl]; exact e_counted); rw [if_neg q0]; (by_cases q1 : y = "lead"); (subst q1; rw [if_pos rfl]); rw [if_neg q1]; (by_cases q2 : y = "grown"); (subst q2; rw [if_pos rfl]); rw [if_neg q2]; (by_cases q3 : y = "column"); (subst q3; rw [if_pos rfl]); rw [if_neg q3]; (by_cases q4 : y = "more"); (subst q4; rw [if_pos rfl]); rw [if_neg q4]; (by_cases q5 : y = "chosen"); (subst q5; rw [if_pos rfl]); rw [if_neg q5]; exact e_rest y q0 q1 q2 q3 q4 q5)
      obtain ⟨v', hc⟩ := fp_get hfD hx
      obtain ⟨T, rfl, hT32, hT4⟩ := waysUp_ok ns hns ns.length (k, v') (List.mem_of_getElem? hc)
      have hT0 := bits5_lo ⟨T, hT32⟩
      have hhas := has_of_get hc
      have hI2 : LX + 1 + 1 ≠ I2 := hneI2 _ (List.mem_cons_of_mem _ (List.mem_cons_of_mem _ List.mem_cons_self))
      refine wpAny_assign_Name (storeX_C F4 N4 (by rfl) (UpdF.tail (Ne.symm hI2) (UpdF.tail (Ne.symm hTC) (UpdF.tail hD2 (UpdF.head (List.forall_mem_cons.mpr ⟨Nat.ne_of_lt (Nat.lt_succ_self _), hcell2⟩))))) hdT ?_ (by rfl) (by rfl))
      intro h5 oT5 F5 N5 dT5
      clear N4 F4 hdT
      k_steps
      refine (Hold.mk ?_ : Hold _)
      refine LCg.ListComp_U (F₀ := F5) (by with_unfolding_all rfl) (by decide) (by rfl) (by decide) (by rfl) ?_
      k_steps
      refine (Hold.mk ?_ : Hold _)
      rename IsRange _ _ _ _ _ _ _ _ => hR
      rename Fr _ _ _ _ => F8
      rename News _ _ _ _ => N8
      refine LCg.CompSrc.range (n := 5) rfl F8 N8 hR (range_small 5 (by decide)) (range_size 5) (by rw [sizeLine_eq]; decide) (fun g => comp_inv (fun c ys nw => nw = (I2, oI2) :: (C, W.listOf qs.toArray ec) :: (D, oD) :: (LX + 1 + 1, oT5) :: (LX + 1, oW) :: news ∧ IntsAre ys (bits5 (T : Int) c)) ?_ ?_ _ 0 [] _ (Nat.zero_add _) ⟨rfl, .nil⟩)
      · clear F8 N8 hR
        rintro c ys nw v I oI Cc oC D2 m3 h8 tk8 E' hin ⟨rfl, hys⟩ ⟨tv, rfl⟩ hC hx' F9 N9 hoff hne
        k_steps
        rename Fr _ _ _ _ => FF
        rename News _ _ _ _ => NN
        refine LCg.CompEnd.intro FF NN _ (fun _ h => h) hoff trivial ⟨rfl, ?_⟩
        rw [bits5_succ]
        rw [Int.zero_add]
        exact IntsAre.append hys (.cons _ _ .nil)
      · clear F8 N8 hR
        rintro ys nw ⟨rfl, hys⟩ D2 h8 tk8 F9 N9 hoff
        have hcl5 := countUp_length (waysUp ns ns.length) (fun T => (bits5 T 5).sum) j
        have hcg : (waysUp ns ns.length).getD j (0, 0) = ((T : Int), v') := by rw [List.getD_eq_getElem?_getD, hc]; rfl
        have hcs := countUp_succ hcg (ch := fun T => (bits5 T 5).sum)
        have hS5 : (bits5 ((T : Nat) : Int) 5).sum < 5 := by have := hlen4.out; omega
        k_steps
        rename Fr _ _ _ _ => FA
        rename News _ _ _ _ => NA
        have hO := off1_mem hoff
        have hD2C : C ≠ D2 := hO _ (List.mem_cons_of_mem _ List.mem_cons_self)
        have hI2C : C ≠ I2 := hneI2 _ List.mem_cons_self
        refine ksa_set FA NA (Upd.tail (Ne.symm hD2C) (Upd.tail (Ne.symm hI2C) (Upd.head (List.forall_mem_cons.mpr ⟨hDC, List.forall_mem_cons.mpr ⟨hTC, List.forall_mem_cons.mpr ⟨hWC, hnC⟩⟩⟩)))) hqs hT0 (by rw [hcl5]; exact hS5) (Int.lt_trans hS5 (by decide)) ?_
        intro h9 FB NB hqs2 _ _
        clear FA NA
        k_steps
        refine TEnd.intro FB (news_sub NB (fun p hp => List.mem_cons_of_mem _ hp)) ?_ (fun p hp => by rw [List.mem_singleton.mp hp]; exact List.mem_cons_of_mem _ List.mem_cons_self)
          ⟨_, _, _, _, rfl, dT5, by rw [hcs]; exact hqs2, ⟨(by with_unfolding_all rfl), (by intro y q0 q1 q2 q3 q4 q5; simp only [q0, q1, q2, q3, q4, q5, if_false])⟩⟩
        intro p hp
        rcases List.mem_cons.mp hp with rfl | hp
        · exact hI2C
        rcases List.mem_cons.mp hp with rfl | hp
        · exact hneI2 _ (List.mem_cons_of_mem _ List.mem_cons_self)
        rcases List.mem_cons.mp hp with rfl | hp
        · exact hI2
        exact hneI2 _ (List.mem_cons_of_mem _ (List.mem_cons_of_mem _ (List.mem_cons_of_mem _ hp)))
    · clear N3' F3 hdT
      rintro m₂ nx h4 tk4 hDx ⟨oT2, vT2, qs, ec, rfl, hdT, hqs, hm⟩ F4 N4
      obtain ⟨e_counted, e_rest⟩ := hm; replace F4 := fr_as F4 (m' := fun (y : Str) => if y = "counted" then some (.ref C) else if y = "lead" then m₂ "lead" else if y = "grown" then m₂ "grown" else if y = "column" then m₂ "column" else if y = "more" then m₂ "more" else if y = "chosen" then m₂ "chosen" else (fun (y : Str) => if y = "leads" then some (.ref l) else none) y) (by intro y; (by_cases q0 : y = "counted"); (subst q0; rw [if_pos rfl]; exact e_counted); rw [if_neg q0]; (by_cases q1 : y = "lead"); (subst q1; rw [if_pos rfl]); rw [if_neg q1]; (by_cases q2 : y = "grown"); (subst q2; rw [if_pos rfl]); rw [if_neg q2]; (by_cases q3 : y = "column"); (subst q3; rw [if_pos rfl]); rw [if_neg q3]; (by_cases q4 : y = "more"); (subst q4; rw [if_pos rfl]); rw [if_neg q4]; (by_cases q5 : y = "chosen"); (subst q5; rw [if_pos rfl]); rw [if_neg q5]; exact e_rest y q0 q1 q2 q3 q4 q5)
      dsimp only
      k_steps
      exact leaveK_ (by assumption) N4 fun F9 N9 => ret _ _ _ _ ⟨C, _, _, rfl, rfl, hnC, by rw [fp_length hfD] at hqs; exact hqs⟩ F9 (news_sub N9 sub1234)
end
-- part Strs
section
def S (l : List Nat) : Str := ⟨l.toArray⟩
theorem S_append (a b : List Nat) : S a ++ S b = S (a ++ b) := by
  show Str.append _ _ = _
  unfold Str.append S
  simp
theorem S_len (a : List Nat) : (S a).length = a.length := by unfold S Str.length; simp
theorem S_inj {a b : List Nat} (h : S a = S b) : a = b := by
  have := congrArg (fun s => s.cps.toList) h; simpa [S] using this
def dotL (n : Nat) : List Nat := List.replicate n 46
theorem dot_mul (n : Int) (h0 : 0 ≤ n) (h5 : n ≤ 5) : MulOk (Str.ofString ".") n ∧ Txt.mul (Str.ofString ".") n = S (dotL n.toNat) := by
  have h : n = 0 ∨ n = 1 ∨ n = 2 ∨ n = 3 ∨ n = 4 ∨ n = 5 := by omega
  have d1 : (Str.ofString ".").length = 1 := by decide +kernel
  unfold MulOk Txt.mul
  rw [d1]
  rcases h with rfl | rfl | rfl | rfl | rfl | rfl <;> exact ⟨by decide +kernel, by decide +kernel⟩
section
variable {prog : Program} {w : World} {A : Around} {E : Value → Shared → Prop} {s : Shared} {t u : Tok} {Q : Value → Shared → Prop}
theorem mul_dot {n : Int} (h0 : 0 ≤ n) (h5 : n ≤ 5) (h : ∀ t' k, Q (.str (S (dotL n.toNat)) t') { s with toks := k }) : wpAny (model prog w) A (binaryOp .Mult (.str (Str.ofString ".") t) (.int n u)) Q E s := by
  obtain ⟨h1, h2⟩ := dot_mul n h0 h5
  exact SB.mul h1 (fun t' k => by rw [h2]; exact h t' k)
end
theorem len_append (x y : Str) : (x ++ y).length = x.length + y.length := by
  show (Str.append x y).length = _
  unfold Str.append Str.length; simp
theorem len_dotL (n : Nat) : (dotL n).length = n := List.length_replicate ..
theorem str_a : Str.ofString "a" = S [97] := by decide +kernel
theorem str_crlf : Str.ofString "\r\n" = S [13, 10] := by decide +kernel
theorem str_nil : Str.ofString "" = S [] := by decide +kernel
theorem fmod_ok (a b : Int) (h : 0 < b) : 0 ≤ a.fmod b ∧ a.fmod b < b := ⟨Int.fmod_nonneg_of_pos a h, Int.fmod_lt_of_pos a h⟩
def endL (q : Int) : List Nat := if q = 0 then [10] else if q = 1 then [13] else [13, 10]
theorem endL_get (q : Int) (h0 : 0 ≤ q) (h3 : q < 3) : [Str.ofString "\n", Str.ofString "\r", Str.ofString "\r\n"].getD q.toNat Str.empty = S (endL q) := by
  have h : q = 0 ∨ q = 1 ∨ q = 2 := by omega
  rcases h with rfl | rfl | rfl <;> decide +kernel
theorem endL_len (q : Int) : (endL q).length ≤ 2 := by
  unfold endL; split
  · decide
  · split <;> decide
/-- a row of the mail -/
def rowL (n : Int) : List Nat := dotL (n.fmod 4).toNat ++ ([97] ++ (dotL ((n.fdiv 4).fmod 3).toNat ++ endL ((n.fdiv 12).fmod 3)))
def mailL (ns : List Int) : Nat → List Nat
  | 0 => []
  | i + 1 => mailL ns i ++ rowL (ns.getD i 0)
theorem rowL_len (n : Int) : (rowL n).length ≤ 8 := by
  unfold rowL
  have h1 := fmod_ok n 4 (by decide)
  have h2 := fmod_ok (n.fdiv 4) 3 (by decide)
  have h3 := endL_len ((n.fdiv 12).fmod 3)
  simp only [List.length_append, len_dotL, List.length_cons, List.length_nil]; omega
theorem mailL_len (ns : List Int) : ∀ i, (mailL ns i).length ≤ 8 * i
  | 0 => Nat.le_refl _
  | i + 1 => by
    have := mailL_len ns i
    have := rowL_len (ns.getD i 0)
    rw [mailL, List.length_append]; omega
end
-- part Mail
section
local macro_rules | `(tactic| walk_at "binaryOp Mult str int") => `(tactic| (refine mul_dot (by omega) (by omega) ?_; intro _ _))
local macro_rules | `(tactic| walk_at "binaryOp Add str str") => `(tactic| (refine add_str ?_ (by (rw [sizeLine_eq]; simp only [len_append, S_len, len_dotL, str_a, str_crlf, str_nil, List.length_cons, List.length_nil]; omega)); intro _ _))
theorem mail_c {w : World} {news : List (Addr × Obj)} (l : Addr) (vs : List Value) (ns : List Int) (e : Nat)
  (hl : (l, (W.listOf vs.toArray e)) ∈ news) (hi : IntsAre vs ns) (hlen : ns.length ≤ 10) :
  CTell w 131 [.ref l] 20 news (fun r n' => ∃ t, r = .str (S (mailL ns ns.length)) t ∧ n' = news) := by
  unfold CTell
  k_fill
  intro p loose mean mg mb dp un gd cn cs a ccd cl outer A₀ base h₀ L m s Q E B F X N T hk hd hu ret
  refine wpAny_call ?_
  k_dflt ktr_enter
  clear B F X N T hk
  rename Fr _ _ _ _ => F1
  replace F1 := fr_as F1 (m' := fun y => if y = "numbers" then some (.ref l) else none) (fun y => (lk_eq _ y).trans (by with_unfolding_all rfl))
  have hS : Hold True := trivial
  k_steps
  refine (Hold.mk ?_ : Hold _)
  rename Fr _ _ _ _ => F1
  rename News _ _ _ _ => N1
  refine For_invVF F1 rfl rfl ?_
  k_steps
  refine (Hold.mk ?_ : Hold _)
  refine list_loop (fun i m' nx => nx = news ∧ (∃ t, m' "mail" = some (.str (S (mailL ns i)) t)) ∧ (∀ y : Str, y ≠ "mail" → y ≠ "number" → y ≠ "end" → m' y = (fun (y : Str) => if y = "numbers" then some (.ref l) else none) y))
    rfl hl rfl F1 N1 ⟨rfl, ⟨_, by rw [mailL, ← str_nil]; rfl⟩, by intro y q0 q1 q2; simp only [q0, q1, q2, if_false]⟩ ?_ ?_
  · rintro i v m₁ nx h tk I oI hv hlx hneI ⟨rfl, hm⟩ F2 N2
    obtain ⟨number, tv, rfl, hlead⟩ := hi.at i v hv
    obtain ⟨⟨t_mail, e_mail⟩, e_rest⟩ := hm; replace F2 := fr_as F2 (m' := fun (y : Str) => if y = "number" then some (.int number tv) else if y = "mail" then some (.str (S (mailL ns i)) t_mail) else if y = "end" then m₁ "end" else (fun (y : Str) => if y = "numbers" then some (.ref l) else none) y) (by intro y; (by_cases qx : y = "number"); (rw [if_pos qx, if_pos qx]); rw [if_neg qx, if_neg qx]; (by_cases q0 : y = "mail"); (subst q0; rw [if_pos rfl]; exact e_mail); rw [if_neg q0]; (by_cases q2 : y = "end"); (subst q2; rw [if_pos rfl]); rw [if_neg q2]; exact e_rest y q0 qx q2)
    have hle : ns.getD i 0 = number := by rw [List.getD_eq_getElem?_getD, hlead]; rfl
    have hin : i < ns.length := (List.getElem?_eq_some_iff.mp hlead).1
    have hml := mailL_len ns i
    have hq1 := fmod_ok number 4 (by decide)
    have hq2 := fmod_ok (number.fdiv 4) 3 (by decide)
    have hq3 := fmod_ok (number.fdiv 12) 3 (by decide)
    have hel := endL_len ((number.fdiv 12).fmod 3)
    clear F1 N1
    k_steps
    rename Fr _ _ _ _ => F3
    rename News _ _ _ _ => N3
    refine KTb.item_list (ws := [Str.ofString "\n", Str.ofString "\r", Str.ofString "\r\n"]) (show Heap.IsList _ _ ([_, _, _] : List Value).toArray from News.isList N3 List.mem_cons_self) (.cons _ _ (.cons _ _ (.cons _ _ .nil))) hq3.1 (show _ < (3 : Int) from hq3.2) (Int.lt_trans hq3.2 (by decide)) ?_
    intro te _
    rw [endL_get _ hq3.1 hq3.2]
    replace N3 := news_sub N3 (fun p hp => List.mem_cons_of_mem _ hp)
    k_steps
    rename Fr _ _ _ _ => F5
    rename News _ _ _ _ => N5
    have hmx : S (mailL ns i) ++ S (dotL (number.fmod 4).toNat) ++ Str.ofString "a" ++ S (dotL ((number.fdiv 4).fmod 3).toNat) ++ S (endL ((number.fdiv 12).fmod 3)) = S (mailL ns (i + 1)) := by
      rw [str_a, S_append, S_append, S_append, S_append, mailL, hle, rowL]
      simp only [List.append_assoc]
    rw [hmx] at F5
    exact TEnd.intro F5 N5 hneI (fun p hp => by rw [List.mem_singleton.mp hp]; exact hlx) ⟨rfl, ⟨⟨_, by with_unfolding_all rfl⟩, (by intro y q0 q1 q2; simp only [q0, q1, q2, if_false])⟩⟩
  · rintro m₁ nx h tk hlx ⟨rfl, hm⟩ F2 N2
    obtain ⟨⟨t_mail, e_mail⟩, e_rest⟩ := hm; replace F2 := fr_as F2 (m' := fun (y : Str) => if y = "mail" then some (.str (S (mailL ns vs.length)) t_mail) else if y = "number" then m₁ "number" else if y = "end" then m₁ "end" else (fun (y : Str) => if y = "numbers" then some (.ref l) else none) y) (by intro y; (by_cases q0 : y = "mail"); (subst q0; rw [if_pos rfl]; exact e_mail); rw [if_neg q0]; (by_cases q1 : y = "number"); (subst q1; rw [if_pos rfl]); rw [if_neg q1]; (by_cases q2 : y = "end"); (subst q2; rw [if_pos rfl]); rw [if_neg q2]; exact e_rest y q0 q1 q2)
    rw [hi.length] at F2
    dsimp only
    k_steps
    exact leaveK_ (by assumption) (by assumption) fun F9 N9 => ret _ _ _ _ ⟨_, rfl, rfl⟩ F9 N9
end
-- part Sent
section
theorem tn5 {d : Int} (h : d ≤ 5) : d.toNat ≤ 5 := by omega
theorem tn3 {d : Int} (h : 0 ≤ d ∧ d < 3) : d.toNat ≤ 3 := by omega
local macro_rules | `(tactic| walk_at "binaryOp Mult str int") => `(tactic| (refine mul_dot (by omega) (by omega) ?_; intro _ _))
local macro_rules | `(tactic| walk_at "binaryOp Add str str") => `(tactic| (refine add_str ?_ (by (rw [sizeLine_eq]; simp only [len_append, S_len, len_dotL, str_a, str_crlf, str_nil, List.length_cons, List.length_nil]; omega)); intro _ _))
theorem unr_end {h₀ : Heap} {L : Addr} {its : List (Addr × Obj)} {rest : (Str → Option Value) → List (Addr × Obj) → Prop} {s₁ : Shared} {h' : Heap} {tk : Nat} {m' : Str → Option Value} {news' : List (Addr × Obj)} (F : Fr h₀ L h' m') (N : News h₀ L h' (its ++ news'))
    (off : ∀ p ∈ news', ∀ q ∈ its, p.1 ≠ q.1) (r : rest m' news') : UnrEndW h₀ L s₁ its rest { s₁ with heap := h', toks := tk } := ⟨h', tk, m', news', rfl, F, N, off, r⟩
theorem off_lt {news' its : List (Addr × Obj)} {i : Nat} (h1 : ∀ p ∈ news', p.1 < i) (h2 : ∀ q ∈ its, i ≤ q.1) : ∀ p ∈ news', ∀ q ∈ its, p.1 ≠ q.1 := fun p hp q hq => Nat.ne_of_lt (Nat.lt_of_lt_of_le (h1 p hp) (h2 q hq))
theorem off5 {i : Nat} {a b c d e : Obj} : ∀ q ∈ [(i + 4, a), (i + 2, b), (i + 3, c), (i, d), (i + 1, e)], i ≤ q.1 := by
  simp only [List.forall_mem_cons]
  exact ⟨Nat.le_add_right _ _, Nat.le_add_right _ _, Nat.le_add_right _ _, Nat.le_refl _, Nat.le_add_right _ _, fun _ h => nomatch h⟩
local macro_rules | `(tactic| walk_at "UnrEndW") => `(tactic| ((rename Fr _ _ _ _ => fF); (rename News _ _ _ _ => fN); (refine unr_end (news' := _ :: _ :: _) fF fN (off_lt (by assumption) off5) ⟨⟨List.mem_cons_self, List.mem_cons_of_mem _ List.mem_cons_self, trivial⟩, ?_⟩); clear fF fN))
def sentRowL (n lead : Int) : List Nat := dotL lead.toNat ++ ([97] ++ (dotL ((n.fdiv 4).fmod 3).toNat ++ [13, 10]))
theorem as_sent_c {w : World} {news : List (Addr × Obj)} (l l2 : Addr) (n0 n1 n2 n3 d0 d1 d2 d3 : Int) (t0 t1 t2 t3 u0 u1 u2 u3 : Tok) (e e2 : Nat)
  (hd0 : 0 ≤ d0 ∧ d0 ≤ 5) (hd1 : 0 ≤ d1 ∧ d1 ≤ 5) (hd2 : 0 ≤ d2 ∧ d2 ≤ 5) (hd3 : 0 ≤ d3 ∧ d3 ≤ 5) :
  CTell w 138 [.ref l, .ref l2] 20 ((l, W.listOf #[.int n0 t0, .int n1 t1, .int n2 t2, .int n3 t3] e) :: (l2, W.listOf #[.int d0 u0, .int d1 u1, .int d2 u2, .int d3 u3] e2) :: news)
    (fun r n' => ∃ t, r = .str (S (sentRowL n0 d0 ++ (sentRowL n1 d1 ++ (sentRowL n2 d2 ++ sentRowL n3 d3)))) t ∧ n' = ((l, W.listOf #[.int n0 t0, .int n1 t1, .int n2 t2, .int n3 t3] e) :: (l2, W.listOf #[.int d0 u0, .int d1 u1, .int d2 u2, .int d3 u3] e2) :: news)) := by
  unfold CTell
  k_fill
  intro p loose mean mg mb dp un gd cn cs a ccd cl outer A₀ base h₀ L m s Q E B F X N T hk hd hu ret
  refine wpAny_call ?_
  k_dflt ktr_enter
  clear B F X N T hk
  rename Fr _ _ _ _ => F1
  replace F1 := fr_as F1 (m' := fun y => if y = "leads" then some (.ref l2) else if y = "numbers" then some (.ref l) else none) (fun y => (lk_eq _ y).trans (by with_unfolding_all rfl))
  have hq0 := fmod_ok (n0.fdiv 4) 3 (by decide)
  have hq1 := fmod_ok (n1.fdiv 4) 3 (by decide)
  have hq2 := fmod_ok (n2.fdiv 4) 3 (by decide)
  have hq3 := fmod_ok (n3.fdiv 4) 3 (by decide)
  have h1 := hd0.1
  have h2 := hd0.2
  have h3 := hd1.1
  have h4 := hd1.2
  have h5 := hd2.1
  have h6 := hd2.2
  have h7 := hd3.1
  have h8 := hd3.2
  have b0 := tn5 h2
  have b1 := tn5 h4
  have b2 := tn5 h6
  have b3 := tn5 h8
  have c0 := tn3 hq0
  have c1 := tn3 hq1
  have c2 := tn3 hq2
  have c3 := tn3 hq3
  have hS : Hold True := trivial
  k_steps
  refine (Hold.mk ?_ : Hold _)
  rename Fr _ _ _ _ => F1
  refine For_turns F1 ?_
  k_steps
  refine (Hold.mk ?_ : Hold _)
  (rename Hold True => hS8); clear hS8
  rename Fr _ _ _ _ => F2
  rename News _ _ _ _ => N2
  with_unfolding_all refine ktu_zip (xs := [.int n0 t0, .int n1 t1, .int n2 t2, .int n3 t3]) (ys := [.int d0 u0, .int d1 u1, .int d2 u2, .int d3 u3]) (by rfl) F2 N2 List.mem_cons_self (by rfl) (by rfl) (List.mem_cons_of_mem _ List.mem_cons_self) (by rfl) (by rfl) ?_
  intro i' l1
  k_steps
  dsimp only
  exact leaveK_ (by assumption) (by assumption) fun F9 N9 => ret _ _ _ _ ⟨_, congrArg (Value.str · _) (by simp only [str_nil, str_a, str_crlf, S_append, sentRowL, List.append_assoc, List.nil_append]), rfl⟩ F9 N9
end
-- part Re1
section
open PySem.MeetsSeq
theorem plainAttrs_rePattern : PlainAttrs "re.Pattern" :=
  ⟨⟨"object.__getattribute__", by rw [typeLookup_type, builtinLookup_eq_fast]; kernel_rfl, by decide +kernel⟩, by rw [typeLookup_type, builtinLookup_eq_fast]; kernel_rfl⟩
theorem slot_rePattern_sub : Slot "re.Pattern" "sub" "re.Pattern.sub" :=
  .of (owner := "re.Pattern") (n := "sub") (by rw [typeLookup_type, builtinLookup_eq_fast]; kernel_rfl) (by decide +kernel) (by decide +kernel) (by decide +kernel)
    (by first | exact .inl (by decide +kernel) | exact .inr (by decide +kernel)) (by rw [isSubtype_type]; kernel_rfl)
theorem type_rePattern_sub : typeOf (.builtin "re.Pattern.sub") = pure (.type "method_descriptor") := by show builtinType _ = _; rw [builtinType_eq_fast]; kernel_rfl
theorem entry_rePattern_sub : entryFor table "re.Pattern.sub" = some Builtin.«re.Pattern.sub» := entryFor_of_tree (by kernel_rfl)
theorem entry_rePattern_sub_loop : entryFor table "re.Pattern.sub.loop" = some Builtin.«re.Pattern.sub.loop» := entryFor_of_tree (by kernel_rfl)
theorem plain_rePattern_sub_loop : plainId "re.Pattern.sub.loop" = true := by decide +kernel
theorem args_rePattern_sub (a b c : Value) : argsOk "re.Pattern.sub" ⟨[a, b, c], []⟩ := by
  unfold argsOk; kernel_rfl
end
-- part Re2
section
open PySem.Sre
theorem runFor_some (m : M) (h : m.outcome.isSome = true) : ∀ n, m.runFor n = m
  | 0 => rfl
  | n + 1 => by rw [M.runFor, if_pos h]
theorem runFor_add : ∀ (a : Nat) (m : M) (b : Nat), m.runFor (a + b) = (m.runFor a).runFor b
  | 0, m, b => by rw [Nat.zero_add]; rfl
  | a + 1, m, b => by
    rw [Nat.add_right_comm, M.runFor, M.runFor]
    by_cases h : m.outcome.isSome = true
    · rw [if_pos h, if_pos h, runFor_some m h]
    · rw [if_neg h, if_neg h, runFor_add a]
theorem runFor_eq {m : M} {a b : Nat} (ha : (m.runFor a).outcome.isSome = true) (hb : (m.runFor b).outcome.isSome = true) : m.runFor a = m.runFor b := by
  rcases Nat.le_total a b with h | h
  · obtain ⟨c, rfl⟩ := Nat.exists_eq_add_of_le h
    rw [runFor_add, runFor_some _ ha]
  · obtain ⟨c, rfl⟩ := Nat.exists_eq_add_of_le h
    rw [runFor_add, runFor_some _ hb]
section
variable {Mo : Model} {A : Around} {E : Value → Shared → Prop} {s : Shared}
open PySem.Builtin.Re
theorem wpAny_reDrive {Q : M → Shared → Prop} : ∀ (turns : Nat) (m : M) (k : Nat), k ≤ 4 * turns → 0 < turns → (m.runFor k).outcome.isSome = true → Q (m.runFor k) s → wpAny Mo A (reDrive turns m) Q E s
  | 0, _, _, _, h0, _, _ => absurd h0 (Nat.lt_irrefl _)
  | turns + 1, m, k, hk, _, ho, hq => by
    unfold reDrive reTurnSteps
    dsimp only
    by_cases h : (m.runFor 4).outcome.isSome = true
    · rw [if_pos h, runFor_eq h ho]; exact wpAny_pure hq
    · rw [if_neg h]
      refine wpAny_bind (wpAny_rule ?_)
      have hk4 : 4 < k := by
        rcases Nat.lt_or_ge 4 k with h4 | h4
        · exact h4
        · obtain ⟨c, hc⟩ := Nat.exists_eq_add_of_le h4
          rw [hc, runFor_add, runFor_some _ ho] at h
          exact absurd ho h
      obtain ⟨c, rfl⟩ := Nat.exists_eq_add_of_le (Nat.le_of_lt hk4)
      rw [runFor_add] at ho hq
      exact wpAny_reDrive turns _ c (by omega) (by omega) ho hq
theorem wpAny_rules {Q : PUnit → Shared → Prop} (p : Nat → Bool) (g : Nat → String) (hq : Q ⟨⟩ s) : ∀ l : List Nat, wpAny Mo A (forIn l PUnit.unit (fun i _ => if p i = true then do rule (g i); pure (ForInStep.yield PUnit.unit) else pure (ForInStep.yield PUnit.unit))) Q E s
  | [] => wpAny_pure hq
  | i :: l => by
    rw [List.forIn_cons]
    refine wpAny_bind ?_
    split
    · exact wpAny_bind (wpAny_rule (wpAny_pure (wpAny_rules p g hq l)))
    · exact wpAny_pure (wpAny_rules p g hq l)
theorem wpAny_runToEnd {Q : Option M → Shared → Prop} {m : M} (k : Nat) (hk : k ≤ 2 ^ 64) (ho : (m.runFor k).outcome.isSome = true)
    (hm : (m.runFor k).outcome = some .matched → Q (some (m.runFor k)) s) (hf : (m.runFor k).outcome = some .failed → Q none s) (hs : ∀ w, (m.runFor k).outcome ≠ some (.stuck w)) : wpAny Mo A (reRunToEnd m) Q E s := by
  unfold reRunToEnd
  refine wpAny_bind (wpAny_reDrive _ m k (by omega) (Nat.two_pow_pos _) ho ?_)
  refine wpAny_bind (wpAny_rules _ _ ?_ _)
  generalize hM : m.runFor k = mm at *
  cases h : mm.outcome with
  | none => rw [h] at ho; cases ho
  | some o =>
    cases o with
    | matched => exact wpAny_pure (hm h)
    | failed => exact wpAny_pure (hf h)
    | stuck w => exact absurd h (hs w)
end
end
-- part Re3
section
open PySem.Sre
/-- a state of the machine on a pattern without groups and without repeats -/
def St (C t : Array Nat) (lim s last : Nat) (out : Bool) (pc pos hd : Nat) (fr : List Sre.Frame) (wt : Nat) (ans : Option Bool) (seen : Sre.Seen) (oc : Option Sre.Outcome) : M :=
  { code := C, text := t, lim := lim, start := s, lastStart := last, pc := pc, pos := pos, handed := hd, outermost := out, marks := #[], frames := fr, weight := wt, answer := ans, seen := seen, outcome := oc }
section
variable {C t : Array Nat} {lim s last pc pos hd wt : Nat} {out : Bool} {fr : List Sre.Frame} {seen : Sre.Seen}
theorem step_lit (hp : pc < C.size) (h : ops[C.getD pc 0]? = some .LITERAL) :
    (St C t lim s last out pc pos hd fr wt none seen none).step =
      if pos ≥ lim then St C t lim s last out pc pos hd fr wt (some false) (seen.add (C.getD pc 0)) none
      else if t.getD pos 0 == C.getD (pc + 1) 0 then St C t lim s last out (pc + 2) (pos + 1) hd fr wt none (seen.add (C.getD pc 0)) none
      else St C t lim s last out pc pos hd fr wt (some false) (seen.add (C.getD pc 0)) none := by
  unfold M.step
  simp only [St, Option.isSome_none, Bool.false_eq_true, if_false, hp, if_true]
  unfold M.exec
  simp only [M.word, Nat.add_zero, h, M.say]
  by_cases hl : pos ≥ lim
  · rw [if_pos hl, if_pos hl]
  · rw [if_neg hl, if_neg hl]
    simp only [accepts, h, itemWidth]
    cases t.getD pos 0 == C.getD (pc + 1) 0 <;> rfl
theorem step_jump (hp : pc < C.size) (h : ops[C.getD pc 0]? = some .JUMP) :
    (St C t lim s last out pc pos hd fr wt none seen none).step = St C t lim s last out (pc + 1 + C.getD (pc + 1) 0) pos hd fr wt none (seen.add (C.getD pc 0)) none := by
  unfold M.step
  simp only [St, Option.isSome_none, Bool.false_eq_true, if_false, hp, if_true]
  unfold M.exec
  simp only [M.word, Nat.add_zero, h]
theorem step_success (hp : pc < C.size) (h : ops[C.getD pc 0]? = some .SUCCESS) :
    (St C t lim s last out pc pos hd fr wt none seen none).step = St C t lim s last out pc pos pos fr wt (some true) (seen.add (C.getD pc 0)) none := by
  unfold M.step
  simp only [St, Option.isSome_none, Bool.false_eq_true, if_false, hp, if_true]
  unfold M.exec
  simp only [M.word, Nat.add_zero, h, M.say, Bool.false_and, Bool.and_false, Bool.false_eq_true, if_false, Bool.or_self]
theorem step_at_line (hp : pc < C.size) (h : ops[C.getD pc 0]? = some .AT) (h1 : C.getD (pc + 1) 0 = 1) :
    (St C t lim s last out pc pos hd fr wt none seen none).step =
      if (pos == 0 || t.getD (pos - 1) 0 == 10) = true then St C t lim s last out (pc + 2) pos hd fr wt none ((seen.add (C.getD pc 0)).add (43 + 1)) none
      else St C t lim s last out pc pos hd fr wt (some false) ((seen.add (C.getD pc 0)).add (43 + 1)) none := by
  unfold M.step
  simp only [St, Option.isSome_none, Bool.false_eq_true, if_false, hp, if_true]
  unfold M.exec
  simp only [M.word, Nat.add_zero, h, h1, M.isAt, M.say]
theorem step_end (b : Bool) : (St C t lim s last out pc pos hd [] wt (some b) seen none).step = St C t lim s last out pc pos hd [] wt (some b) seen (some (if b then .matched else .failed)) := by
  unfold M.step
  simp only [St, Option.isSome_none, Bool.false_eq_true, if_false]
theorem step_branch (hp : pc < C.size) (h : ops[C.getD pc 0]? = some .BRANCH) (h1 : (C.getD (pc + 1) 0 == 0) = false) (hw : wt ≤ 1000) :
    (St C t lim s last out pc pos hd fr wt none seen none).step =
      St C t lim s last out (pc + 2) pos pos ({ wait := .nextBranch, pc := pc + 1, pos := pos, outermost := out } :: fr) (wt + 1) none (seen.add (C.getD pc 0)) none := by
  unfold M.step
  simp only [St, Option.isSome_none, Bool.false_eq_true, if_false, hp, if_true]
  unfold M.exec
  simp only [M.word, Nat.add_zero, h, M.alternative, M.keep, h1, M.attempt, M.frame, Option.isSome_none, Bool.false_eq_true, if_false, Array.size_empty]
  rw [if_neg (show ¬ wt + 1 > 16777216 by omega)]
theorem step_nextBranch {fpc fpos : Nat} {fout : Bool} {r : List Sre.Frame} (h1 : (C.getD (fpc + C.getD fpc 0) 0 == 0) = false) (hw : wt ≤ 1000) :
    (St C t lim s last out pc pos hd ({ wait := .nextBranch, pc := fpc, pos := fpos, outermost := fout } :: r) (wt + 1) (some false) seen none).step =
      St C t lim s last fout (fpc + C.getD fpc 0 + 1) fpos fpos ({ wait := .nextBranch, pc := fpc + C.getD fpc 0, pos := fpos, outermost := fout } :: r) (wt + 1) none seen none := by
  unfold M.step
  simp only [St, Option.isSome_none, Bool.false_eq_true, if_false]
  unfold M.resume
  simp only [M.putBack, M.alternative, Bool.false_eq_true, if_false, h1, M.attempt, M.frame, Array.size_empty, Nat.add_zero, Nat.add_sub_cancel]
  rw [if_neg (show ¬ wt + 1 > 16777216 by omega)]
theorem step_branchYes {fpc fpos : Nat} {fout : Bool} {r : List Sre.Frame} :
    (St C t lim s last out pc pos hd ({ wait := .nextBranch, pc := fpc, pos := fpos, outermost := fout } :: r) (wt + 1) (some true) seen none).step =
      St C t lim s last fout fpc fpos hd r wt (some true) seen none := by
  unfold M.step
  simp only [St, Option.isSome_none, Bool.false_eq_true, if_false]
  unfold M.resume
  simp only [if_true, M.say, Array.size_empty, Nat.add_zero, Nat.add_sub_cancel]
theorem step_startYes {fpc fpos : Nat} {fout : Bool} {r : List Sre.Frame} :
    (St C t lim s last out pc pos hd ({ wait := .nextStart, pc := fpc, pos := fpos, outermost := fout } :: r) (wt + 1) (some true) seen none).step =
      St C t lim s last fout fpc fpos hd r wt (some true) seen none := by
  unfold M.step
  simp only [St, Option.isSome_none, Bool.false_eq_true, if_false]
  unfold M.resume
  simp only [if_true, M.say, Array.size_empty, Nat.add_zero, Nat.add_sub_cancel]
theorem step_startNo {fpc fpos : Nat} {fout : Bool} {r : List Sre.Frame} (hno : ∀ m : M, m.code = C → m.hasFirstSet = false) (hw : wt ≤ 1000) :
    (St C t lim s last out pc pos hd ({ wait := .nextStart, pc := fpc, pos := fpos, outermost := fout } :: r) (wt + 1) (some false) seen none).step =
      if fpos < last then St C t lim (fpos + 1) last false fpc (fpos + 1) (fpos + 1) ({ wait := .nextStart, pc := fpc, pos := fpos + 1, outermost := false } :: r) (wt + 1) none seen none
      else St C t lim s last fout fpc fpos hd r wt (some false) seen none := by
  unfold M.step
  simp only [St, Option.isSome_none, Bool.false_eq_true, if_false]
  unfold M.resume
  simp only [Bool.false_eq_true, if_false, M.say, Array.size_empty, Nat.add_zero, Nat.add_sub_cancel]
  by_cases hl : fpos < last
  · rw [if_pos hl, if_pos hl]
    unfold M.attemptFrom
    rw [hno _ rfl]
    simp only [Bool.not_false, if_true, M.attemptAt, M.attempt, Array.size_empty, Nat.add_zero]
    rw [if_neg (show ¬ wt + 1 > 16777216 by omega)]
  · rw [if_neg hl, if_neg hl]
theorem step_assertNot (hp : pc < C.size) (h : ops[C.getD pc 0]? = some .ASSERT_NOT) (h2 : C.getD (pc + 2) 0 = 0) (hw : wt ≤ 1000) :
    (St C t lim s last out pc pos hd fr wt none seen none).step =
      St C t lim s last false (pc + 3) pos pos ({ wait := .lookNot, pc := pc, pos := pos, outermost := out } :: fr) (wt + 1) none (seen.add (C.getD pc 0)) none := by
  unfold M.step
  simp only [St, Option.isSome_none, Bool.false_eq_true, if_false, hp, if_true]
  unfold M.exec
  simp only [M.word, Nat.add_zero, h, h2, M.keep, M.attempt, M.frame, Option.isSome_none, Bool.and_false, Bool.false_eq_true, if_false, Array.size_empty, Nat.not_lt_zero, Nat.sub_zero, if_true]
  rw [if_neg (show ¬ wt + 1 > 16777216 by omega)]
theorem step_lookNo {fpc fpos : Nat} {fout : Bool} {r : List Sre.Frame} :
    (St C t lim s last out pc pos hd ({ wait := .lookNot, pc := fpc, pos := fpos, outermost := fout } :: r) (wt + 1) (some false) seen none).step =
      St C t lim s last fout (fpc + 1 + C.getD (fpc + 1) 0) fpos hd r wt none seen none := by
  unfold M.step
  simp only [St, Option.isSome_none, Bool.false_eq_true, if_false]
  unfold M.resume
  simp only [M.putBack, M.word, Bool.false_eq_true, if_false, Array.size_empty, Nat.add_zero, Nat.add_sub_cancel]
theorem runSt {ans : Option Bool} (n : Nat) : (St C t lim s last out pc pos hd fr wt ans seen none).runFor (n + 1) = (St C t lim s last out pc pos hd fr wt ans seen none).step.runFor n := by
  rw [M.runFor]; exact if_neg (show ¬ Option.isSome (none : Option Sre.Outcome) = true from Bool.false_ne_true)
end
def C36 : Array Nat := #[14, 4, 0, 1, 1, 6, 1, 16, 46, 1]
def C41 : Array Nat := #[14, 9, 4, 1, 2, 16, 10, 16, 13, 0, 7, 7, 16, 13, 16, 10, 15, 18, 5, 16, 10, 15, 13, 11, 16, 13, 5, 5, 0, 16, 10, 1, 15, 2, 0, 1]
/-- the machine stands matched from a to b -/
def Matched (m : M) (a b : Nat) : Prop := m.outcome = some .matched ∧ m.start = a ∧ m.handed = b
section
variable {t : Array Nat} {lim p : Nat}
theorem crlf_lf (h : p < lim) (h0 : t.getD p 0 = 10) (seen : Sre.Seen) :
    Matched ((St C41 t lim p lim true 10 p p [{ wait := .nextStart, pc := 10, pos := p, outermost := true }] 1 none seen none).runFor 9) p (p + 1) := by
  rw [runSt, step_branch (by decide) (by rfl) (by decide) (by decide)]
  rw [runSt, step_lit (by decide) (by rfl), if_neg (by omega), h0, if_neg (by decide)]
  rw [runSt, step_nextBranch (by decide) (by decide)]
  rw [runSt, step_lit (by decide) (by rfl), if_neg (by omega), h0, if_pos (by decide)]
  rw [runSt, step_jump (by decide) (by rfl)]
  rw [runSt, step_success (by decide) (by rfl)]
  rw [runSt, step_branchYes, runSt, step_startYes, runSt, step_end]
  exact ⟨rfl, rfl, rfl⟩
theorem crlf_crlf (h : p + 1 < lim) (h0 : t.getD p 0 = 13) (h1 : t.getD (p + 1) 0 = 10) (seen : Sre.Seen) :
    Matched ((St C41 t lim p lim true 10 p p [{ wait := .nextStart, pc := 10, pos := p, outermost := true }] 1 none seen none).runFor 8) p (p + 2) := by
  rw [runSt, step_branch (by decide) (by rfl) (by decide) (by decide)]
  rw [runSt, step_lit (by decide) (by rfl), if_neg (by omega), h0, if_pos (by decide)]
  rw [runSt, step_lit (by decide) (by rfl), if_neg (by omega), h1, if_pos (by decide)]
  rw [runSt, step_jump (by decide) (by rfl)]
  rw [runSt, step_success (by decide) (by rfl)]
  rw [runSt, step_branchYes, runSt, step_startYes, runSt, step_end]
  exact ⟨rfl, rfl, rfl⟩
theorem crlf_cr (h : p < lim) (h0 : t.getD p 0 = 13) (h1 : p + 1 ≥ lim ∨ t.getD (p + 1) 0 ≠ 10) (seen : Sre.Seen) :
    Matched ((St C41 t lim p lim true 10 p p [{ wait := .nextStart, pc := 10, pos := p, outermost := true }] 1 none seen none).runFor 16) p (p + 1) := by
  have hl : ∀ (pc hd wt : Nat) (out : Bool) (fr : List Sre.Frame) (seen : Sre.Seen), pc < C41.size → ops[C41.getD pc 0]? = some .LITERAL → C41.getD (pc + 1) 0 = 10 →
      (St C41 t lim p lim out pc (p + 1) hd fr wt none seen none).step = St C41 t lim p lim out pc (p + 1) hd fr wt (some false) (seen.add (C41.getD pc 0)) none := by
    intro pc hd wt out fr seen hp ho hc
    rw [step_lit hp ho]
    by_cases hg : p + 1 ≥ lim
    · rw [if_pos hg]
    · rw [if_neg hg, hc, if_neg]
      rcases h1 with h1 | h1
      · exact absurd h1 hg
      · simpa using h1
  rw [runSt, step_branch (by decide) (by rfl) (by decide) (by decide)]
  rw [runSt, step_lit (by decide) (by rfl), if_neg (by omega), h0, if_pos (by decide)]
  rw [runSt, hl _ _ _ _ _ _ (by decide) (by rfl) (by decide)]
  rw [runSt, step_nextBranch (by decide) (by decide)]
  rw [runSt, step_lit (by decide) (by rfl), if_neg (by omega), h0, if_neg (by decide)]
  rw [runSt, step_nextBranch (by decide) (by decide)]
  rw [runSt, step_lit (by decide) (by rfl), if_neg (by omega), h0, if_pos (by decide)]
  rw [runSt, step_assertNot (by decide) (by rfl) (by decide) (by decide)]
  rw [runSt, hl _ _ _ _ _ _ (by decide) (by rfl) (by decide)]
  rw [runSt, step_lookNo]
  rw [runSt, step_jump (by decide) (by rfl)]
  rw [runSt, step_success (by decide) (by rfl)]
  rw [runSt, step_branchYes, runSt, step_startYes, runSt, step_end]
  exact ⟨rfl, rfl, rfl⟩
end
end
-- part Re4
section
open PySem.Sre
/-- what a search finds -/
def Finds (m : M) : Option (Nat × Nat) → Prop
  | some (a, b) => ∃ k, k ≤ 2 ^ 64 ∧ Matched (m.runFor k) a b
  | none => ∃ k, k ≤ 2 ^ 64 ∧ (m.runFor k).outcome = some .failed
theorem inSet41 (c : Nat) (seen : Sre.Seen) : ∃ seen', inSet C41 c 36 5 true seen = .ok (c == 10 || c == 13, seen') := by
  unfold inSet
  simp only [show ops[C41.getD (5 + 0) 0]? = some .LITERAL by rfl, show C41.getD (5 + 1) 0 = 10 by decide]
  cases h1 : c == 10 with
  | true => exact ⟨_, rfl⟩
  | false =>
    simp only [Bool.false_eq_true, if_false, Bool.false_or]
    unfold inSet
    simp only [show ops[C41.getD (5 + 2 + 0) 0]? = some .LITERAL by rfl, show C41.getD (5 + 2 + 1) 0 = 13 by decide]
    cases h2 : c == 13 with
    | true => exact ⟨_, rfl⟩
    | false =>
      simp only [Bool.false_eq_true, if_false]
      unfold inSet
      simp only [show ops[C41.getD (5 + 2 + 2 + 0) 0]? = some .FAILURE by rfl, Bool.not_true]
      exact ⟨_, rfl⟩
/-- the first end of a line at s or behind it -/
def scanE (t : Array Nat) (lim : Nat) : Nat → Nat → Option Nat
  | 0, _ => none
  | f + 1, s => if s ≥ lim then none else if (t.getD s 0 == 10 || t.getD s 0 == 13) = true then some s else scanE t lim f (s + 1)
theorem admitted41 {t : Array Nat} {lim : Nat} (m : M) (hc : m.code = C41) (ht : m.text = t) (hl : m.lim = lim) : ∀ (f s : Nat) (seen : Sre.Seen), ∃ seen', M.admitted m f s seen = .ok (scanE t lim f s, seen')
  | 0, s, seen => ⟨seen, rfl⟩
  | f + 1, s, seen => by
    unfold M.admitted scanE
    rw [hl, hc, ht]
    by_cases h : s ≥ lim
    · rw [if_pos h, if_pos h]; exact ⟨_, rfl⟩
    · rw [if_neg h, if_neg h]
      obtain ⟨seen', e⟩ := inSet41 (t.getD s 0) seen
      rw [show C41.size = 36 from rfl, e]
      cases hb : (t.getD s 0 == 10 || t.getD s 0 == 13) with
      | true => exact ⟨_, rfl⟩
      | false =>
        rw [if_neg Bool.false_ne_true]
        exact admitted41 m hc ht hl f (s + 1) seen'
def widthE (t : Array Nat) (lim p : Nat) : Nat := if t.getD p 0 = 13 ∧ p + 1 < lim ∧ t.getD (p + 1) 0 = 10 then 2 else 1
def findE (t : Array Nat) (lim s : Nat) : Option (Nat × Nat) := (scanE t lim (lim + 1 - s) s).map fun p => (p, p + widthE t lim p)
theorem scanE_some {t : Array Nat} {lim : Nat} : ∀ {f s p : Nat}, scanE t lim f s = some p → s ≤ p ∧ p < lim ∧ (t.getD p 0 = 10 ∨ t.getD p 0 = 13) ∧ ∀ q, s ≤ q → q < p → t.getD q 0 ≠ 10 ∧ t.getD q 0 ≠ 13
  | 0, _, _, h => by cases h
  | f + 1, s, p, h => by
    unfold scanE at h
    by_cases hs : s ≥ lim
    · rw [if_pos hs] at h; cases h
    rw [if_neg hs] at h
    by_cases hb : (t.getD s 0 == 10 || t.getD s 0 == 13) = true
    · rw [if_pos hb] at h
      injection h with h
      subst h
      exact ⟨Nat.le_refl _, by omega, by simpa using hb, fun q h1 h2 => by omega⟩
    · rw [if_neg hb] at h
      obtain ⟨h1, h2, h3, h4⟩ := scanE_some h
      refine ⟨by omega, h2, h3, fun q hq1 hq2 => ?_⟩
      rcases Nat.eq_or_lt_of_le hq1 with e | e
      · subst e
        simp only [Bool.or_eq_true, beq_iff_eq, not_or] at hb
        exact hb
      · exact h4 q e hq2
theorem scanE_none {t : Array Nat} {lim : Nat} : ∀ {f s : Nat}, lim < s + f → scanE t lim f s = none → ∀ q, s ≤ q → q < lim → t.getD q 0 ≠ 10 ∧ t.getD q 0 ≠ 13
  | 0, s, hf, _ => fun q h1 h2 => by omega
  | f + 1, s, hf, h => by
    unfold scanE at h
    by_cases hs : s ≥ lim
    · exact fun q h1 h2 => by omega
    rw [if_neg hs] at h
    by_cases hb : (t.getD s 0 == 10 || t.getD s 0 == 13) = true
    · rw [if_pos hb] at h; cases h
    · rw [if_neg hb] at h
      intro q hq1 hq2
      rcases Nat.eq_or_lt_of_le hq1 with e | e
      · subst e
        simp only [Bool.or_eq_true, beq_iff_eq, not_or] at hb
        exact hb
      · exact scanE_none (by omega) h q e hq2
theorem failed_say (m : M) (hf : m.frames = []) (ha : m.answer = some false) (ho : m.outcome = none) : ∃ k, k ≤ 2 ^ 64 ∧ (m.runFor k).outcome = some .failed := by
  refine ⟨1, by decide, ?_⟩
  show (M.runFor 1 m).outcome = _
  rw [M.runFor, if_neg (by rw [ho]; exact Bool.false_ne_true), M.runFor]
  unfold M.step
  rw [if_neg (by rw [ho]; exact Bool.false_ne_true), ha, hf]
  rfl
def M0 (C t : Array Nat) (pc0 s : Nat) : M := { code := C, text := t, lim := t.size, start := s, lastStart := t.size, pc := pc0, pos := s, handed := s, marks := #[], seen := ({} : Sre.Seen).add 14 }
theorem search41 (t : Array Nat) (s : Nat) : forSearch C41 t 0 s t.size false = if (decide (s > t.size) || decide (t.size - s < 1)) = true then ({ (M0 C41 t 10 s) with lastStart := 0 } : M).say false else (M0 C41 t 10 s).attemptFrom s true := rfl
theorem search36 (t : Array Nat) (s : Nat) : forSearch C36 t 0 s t.size false = if (decide (s > t.size) || decide (t.size - s < 1)) = true then ({ (M0 C36 t 5 s) with lastStart := 0 } : M).say false else (M0 C36 t 5 s).attemptFrom s true := rfl
theorem first41 (m : M) (hm : m.code = C41) : m.hasFirstSet = true := by unfold M.hasFirstSet; rw [hm]; rfl
theorem first36 (m : M) (hm : m.code = C36) : m.hasFirstSet = false := by unfold M.hasFirstSet; rw [hm]; rfl
theorem find41 (t : Array Nat) (s : Nat) : Finds (forSearch C41 t 0 s t.size false) (findE t t.size s) := by
  unfold findE
  rw [search41]
  by_cases h : s ≥ t.size
  · rw [if_pos (by simp; omega)]
    have hs : scanE t t.size (t.size + 1 - s) s = none := by
      cases hf : t.size + 1 - s with
      | zero => rfl
      | succ f => unfold scanE; rw [if_pos h]
    rw [hs]
    exact failed_say _ rfl rfl rfl
  · rw [if_neg (by simp; omega)]
    unfold M.attemptFrom
    rw [first41 _ rfl]
    simp only [Bool.not_true, Bool.false_eq_true, if_false]
    obtain ⟨seen', e⟩ := admitted41 (t := t) (lim := t.size) (M0 C41 t 10 s) rfl rfl rfl (t.size + 1 - s) s (M0 C41 t 10 s).seen
    rw [show (M0 C41 t 10 s).lim = t.size from rfl, e]
    cases hs : scanE t t.size (t.size + 1 - s) s with
    | none => exact failed_say _ rfl rfl rfl
    | some p =>
      obtain ⟨h1, h2, h3, _⟩ := scanE_some hs
      show Finds (St C41 t t.size p t.size true 10 p p [{ wait := .nextStart, pc := 10, pos := p, outermost := true }] 1 none seen' none) (some (p, p + widthE t t.size p))
      show ∃ k, _
      unfold widthE
      rcases h3 with h3 | h3
      · rw [if_neg (by rw [h3]; simp)]
        exact ⟨9, by decide, crlf_lf h2 h3 seen'⟩
      · by_cases h4 : p + 1 < t.size ∧ t.getD (p + 1) 0 = 10
        · rw [if_pos ⟨h3, h4⟩]
          exact ⟨8, by decide, crlf_crlf h4.1 h3 h4.2 seen'⟩
        · rw [if_neg (fun q => h4 q.2)]
          exact ⟨16, by decide, crlf_cr h2 h3 (by by_cases q : p + 1 ≥ t.size; exact .inl q; exact .inr fun q2 => h4 ⟨by omega, q2⟩) seen'⟩
/-- the first dot at a line's beginning, at s or behind it -/
def hitD (t : Array Nat) (lim p : Nat) : Bool := (p == 0 || t.getD (p - 1) 0 == 10) && (decide (p < lim) && t.getD p 0 == 46)
def scanD (t : Array Nat) (lim : Nat) : Nat → Nat → Option Nat
  | 0, _ => none
  | f + 1, s => if hitD t lim s = true then some s else scanD t lim f (s + 1)
def findD (t : Array Nat) (lim s : Nat) : Option (Nat × Nat) := if s ≥ lim then none else (scanD t lim (lim + 1 - s) s).map fun p => (p, p + 1)
theorem scanD_some {t : Array Nat} {lim : Nat} : ∀ {f s p : Nat}, scanD t lim f s = some p → s ≤ p ∧ hitD t lim p = true ∧ ∀ q, s ≤ q → q < p → hitD t lim q = false
  | 0, _, _, h => by cases h
  | f + 1, s, p, h => by
    unfold scanD at h
    by_cases hb : hitD t lim s = true
    · rw [if_pos hb] at h
      injection h with h
      subst h
      exact ⟨Nat.le_refl _, hb, fun q h1 h2 => by omega⟩
    · rw [if_neg hb] at h
      obtain ⟨h1, h2, h3⟩ := scanD_some h
      refine ⟨by omega, h2, fun q hq1 hq2 => ?_⟩
      rcases Nat.eq_or_lt_of_le hq1 with e | e
      · subst e; simpa using hb
      · exact h3 q e hq2
theorem scanD_none {t : Array Nat} {lim : Nat} : ∀ {f s : Nat}, lim < s + f → scanD t lim f s = none → ∀ q, s ≤ q → q < lim → hitD t lim q = false
  | 0, s, hf, _ => fun q h1 h2 => by omega
  | f + 1, s, hf, h => by
    unfold scanD at h
    by_cases hb : hitD t lim s = true
    · rw [if_pos hb] at h; cases h
    · rw [if_neg hb] at h
      intro q hq1 hq2
      rcases Nat.eq_or_lt_of_le hq1 with e | e
      · subst e; simpa using hb
      · exact scanD_none (by omega) h q e hq2
theorem try36 (t : Array Nat) (lim : Nat) : ∀ (n p : Nat) (out : Bool) (seen : Sre.Seen), p + n = lim →
    match scanD t lim (n + 1) p with
    | some a => ∃ k, k ≤ 10 * (n + 1) ∧ Matched ((St C36 t lim p lim out 5 p p [{ wait := .nextStart, pc := 5, pos := p, outermost := out }] 1 none seen none).runFor k) a (a + 1)
    | none => ∃ k, k ≤ 10 * (n + 1) ∧ ((St C36 t lim p lim out 5 p p [{ wait := .nextStart, pc := 5, pos := p, outermost := out }] 1 none seen none).runFor k).outcome = some .failed := by
  intro n
  induction n with
  | zero =>
    intro p out seen hp
    have hp' : p = lim := hp
    have hh : hitD t lim p = false := by unfold hitD; rw [decide_eq_false (by omega)]; simp
    unfold scanD
    rw [if_neg (by rw [hh]; exact Bool.false_ne_true)]
    show ∃ k, _
    by_cases hl : (p == 0 || t.getD (p - 1) 0 == 10) = true
    · refine ⟨4, by decide, ?_⟩
      rw [runSt, step_at_line (by decide) (by rfl) (by decide), if_pos hl]
      rw [runSt, step_lit (by decide) (by rfl), if_pos (by omega)]
      rw [runSt, step_startNo first36 (by decide), if_neg (by omega)]
      rw [runSt, step_end]; rfl
    · refine ⟨3, by decide, ?_⟩
      rw [runSt, step_at_line (by decide) (by rfl) (by decide), if_neg hl]
      rw [runSt, step_startNo first36 (by decide), if_neg (by omega)]
      rw [runSt, step_end]; rfl
  | succ n ih =>
    intro p out seen hp
    by_cases hh : hitD t lim p = true
    · unfold scanD
      rw [if_pos hh]
      show ∃ k, _
      unfold hitD at hh
      simp only [Bool.and_eq_true, decide_eq_true_eq] at hh
      obtain ⟨h1, h2, h3⟩ := hh
      refine ⟨5, by omega, ?_⟩
      rw [runSt, step_at_line (by decide) (by rfl) (by decide), if_pos h1]
      rw [runSt, step_lit (by decide) (by rfl), if_neg (by omega), if_pos (show (t.getD p 0 == C36.getD (5 + 2 + 1) 0) = true from h3)]
      rw [runSt, step_success (by decide) (by rfl)]
      rw [runSt, step_startYes, runSt, step_end]
      exact ⟨rfl, rfl, rfl⟩
    · have hs : scanD t lim (n + 1 + 1) p = scanD t lim (n + 1) (p + 1) := by rw [scanD, if_neg hh]
      rw [hs]
      have go : ∃ seen' j, j ≤ 3 ∧ ∀ k, (St C36 t lim p lim out 5 p p [{ wait := .nextStart, pc := 5, pos := p, outermost := out }] 1 none seen none).runFor (k + j) =
          (St C36 t lim (p + 1) lim false 5 (p + 1) (p + 1) [{ wait := .nextStart, pc := 5, pos := p + 1, outermost := false }] 1 none seen' none).runFor k := by
        by_cases hl : (p == 0 || t.getD (p - 1) 0 == 10) = true
        · have h46 : ¬ (t.getD p 0 == 46) = true := fun q => hh (by unfold hitD; rw [hl, q, decide_eq_true (by omega : p < lim)]; rfl)
          refine ⟨((seen.add (C36.getD 5 0)).add (43 + 1)).add (C36.getD (5 + 2) 0), 3, Nat.le_refl _, fun k => ?_⟩
          rw [show k + 3 = k + 1 + 1 + 1 from rfl]
          rw [runSt, step_at_line (by decide) (by rfl) (by decide), if_pos hl]
          rw [runSt, step_lit (by decide) (by rfl), if_neg (by omega), if_neg (show ¬ (t.getD p 0 == C36.getD (5 + 2 + 1) 0) = true from h46)]
          rw [runSt, step_startNo first36 (by decide), if_pos (by omega)]
        · refine ⟨(seen.add (C36.getD 5 0)).add (43 + 1), 2, by decide, fun k => ?_⟩
          rw [show k + 2 = k + 1 + 1 from rfl]
          rw [runSt, step_at_line (by decide) (by rfl) (by decide), if_neg hl]
          rw [runSt, step_startNo first36 (by decide), if_pos (by omega)]
      obtain ⟨seen', j, hj, go⟩ := go
      have := ih (p + 1) false seen' (by omega)
      cases hsc : scanD t lim (n + 1) (p + 1) with
      | none =>
        rw [hsc] at this
        obtain ⟨k, hk, ho⟩ := this
        exact ⟨k + j, by omega, by rw [go]; exact ho⟩
      | some a =>
        rw [hsc] at this
        obtain ⟨k, hk, ho⟩ := this
        exact ⟨k + j, by omega, by rw [go]; exact ho⟩
theorem find36 (t : Array Nat) (s : Nat) (ht : t.size ≤ 1000000) : Finds (forSearch C36 t 0 s t.size false) (findD t t.size s) := by
  unfold findD
  rw [search36]
  by_cases h : s ≥ t.size
  · rw [if_pos (by simp; omega), if_pos h]
    exact failed_say _ rfl rfl rfl
  · rw [if_neg (by simp; omega), if_neg h]
    unfold M.attemptFrom
    rw [first36 _ rfl]
    simp only [Bool.not_false, if_true]
    have hst : (M0 C36 t 5 s).attemptAt s true = St C36 t t.size s t.size true 5 s s [{ wait := .nextStart, pc := 5, pos := s, outermost := true }] 1 none (({} : Sre.Seen).add 14) none := rfl
    rw [hst]
    have := try36 t t.size (t.size - s) s true (({} : Sre.Seen).add 14) (by omega)
    rw [show t.size - s + 1 = t.size + 1 - s by omega] at this
    cases hsc : scanD t t.size (t.size + 1 - s) s with
    | none =>
      rw [hsc] at this
      obtain ⟨k, hk, ho⟩ := this
      exact ⟨k, by omega, ho⟩
    | some a =>
      rw [hsc] at this
      obtain ⟨k, hk, ho⟩ := this
      exact ⟨k, by omega, ho⟩
end
-- part Re5
section
open PySem.Builtin.Re
/-- an object of the heap is a pattern without groups, with this code -/
def IsPat (h : Heap) (P K : Addr) (C : Array Nat) : Prop :=
  ∃ oP oK fs items n, h.get? P = some oP ∧ oP.cls = .type "re.Pattern" ∧ oP.dict = none ∧ oP.data = .fields fs ∧ fs.getD 5 .none = .ref K ∧ reRawNat (fs.getD 6 .none) = 0 ∧ reRawNat (fs.getD 2 .none) = 0 ∧
    h.get? K = some oK ∧ oK.data = .seq items n ∧ (items.map reRawOf).map (·.toNat) = C
theorem IsPat.at {h h' : Heap} {P K : Addr} {C : Array Nat} (x : IsPat h P K C) (hk : ∀ b, b = P ∨ b = K → ∀ o, h.get? b = some o → h'.get? b = some o) : IsPat h' P K C := by
  obtain ⟨oP, oK, fs, items, n, h1, h2, h3, h4, h5, h6, h7, h8, r⟩ := x
  exact ⟨oP, oK, fs, items, n, hk _ (.inl rfl) _ h1, h2, h3, h4, h5, h6, h7, hk _ (.inr rfl) _ h8, r⟩
section
variable {Mo : Model} {A : Around} {E : Value → Shared → Prop} {s : Shared}
def tgt (P : Addr) (C : Array Nat) (x : Str) (u : Tok) : ReTarget := { pattern := .ref P, string := .str x u, code := C, text := x.cps, kind := 0, groups := 0, pos := 0, lim := x.cps.size }
theorem wpAny_target {P K : Addr} {C : Array Nat} {x : Str} {u : Tok} {Q : ReTarget → Shared → Prop} (hp : IsPat s.heap P K C) (h : Q (tgt P C x u) s) : wpAny Mo A (reWholeTarget (.ref P) (.str x u)) Q E s := by
  obtain ⟨oP, oK, fs, items, n, h1, h2, h3, h4, h5, h6, h7, h8, h9, h10⟩ := hp
  unfold reWholeTarget
  refine wpAny_bind (wpAny_fieldsOf h1 h4 ?_)
  unfold reTextOf
  refine wpAny_bind (wpAny_pure (s := s) (a := (x.cps, 0)) ?_)
  dsimp only
  rw [h6, h7, h5]
  refine wpAny_bind (wpAny_pure ?_)
  unfold reRawItems
  refine wpAny_bind (wpAny_bind (wpAny_seqItems h8 h9 (wpAny_pure ?_)))
  refine wpAny_pure ?_
  rw [show (Option.getD (some items) #[]) = items from rfl, h10]
  exact h
theorem wpAny_next {t : ReTarget} {start : Nat} {r : Option (Nat × Nat)} {Q : Option Sre.M → Shared → Prop} (hf : Finds (Sre.forSearch t.code t.text t.groups start t.lim false) r)
    (hm : ∀ m a b, r = some (a, b) → m.start = a → m.handed = b → Q (some m) s) (hn : r = none → Q none s) : wpAny Mo A (reNextFound t start false) Q E s := by
  unfold reNextFound
  cases r with
  | none =>
    obtain ⟨k, hk, ho⟩ := hf
    exact wpAny_runToEnd k hk (by rw [ho]; rfl) (fun h => by rw [ho] at h; injection h with h; cases h) (fun _ => hn rfl) (fun w h => by rw [ho] at h; injection h with h; cases h)
  | some p =>
    obtain ⟨a, b⟩ := p
    obtain ⟨k, hk, ho, h1, h2⟩ := hf
    exact wpAny_runToEnd k hk (by rw [ho]; rfl) (fun _ => hm _ a b rfl h1 h2) (fun h => by rw [ho] at h; injection h with h; cases h) (fun w h => by rw [ho] at h; injection h with h; cases h)
end
/-- what the places found leave of the text -/
def subF (find : Nat → Option (Nat × Nat)) (rp : List Nat) (t : Array Nat) : Nat → Nat → List Nat
  | 0, _ => []
  | f + 1, s => match find s with
    | some (a, b) => (t.extract s a).toList ++ (rp ++ subF find rp t f b)
    | none => (t.extract s t.size).toList
end
-- part Re6
section
open PySem.Builtin PySem.Builtin.Re PySem.MeetsSeq
def catL (ps : List (Str × Tok)) : List Nat := ps.flatMap fun p => p.1.cps.toList
theorem catL_snoc (ps : List (Str × Tok)) (x : Str) (t : Tok) : catL (ps ++ [(x, t)]) = catL ps ++ x.cps.toList := by unfold catL; simp
theorem strValues_snoc (ps : List (Str × Tok)) (x : Str) (t : Tok) : (strValues ps).toArray.push (.str x t) = (strValues (ps ++ [(x, t)])).toArray := by unfold strValues; simp
theorem glued_empty : ∀ (l : List Str), (Builtin.Str.glued Str.empty l).cps.toList = l.flatMap fun p => p.cps.toList
  | [] => rfl
  | x :: l => by
    unfold Builtin.Str.glued
    rw [List.drop_one, List.tail_cons, List.headD_cons, List.flatMap_cons]
    show (List.foldl (fun acc p => acc ++ #[] ++ p.cps) x.cps l).toList = _
    have h : ∀ (l : List Str) (acc : Array Nat), (List.foldl (fun (acc : Array Nat) (p : Str) => acc ++ #[] ++ p.cps) acc l).toList = acc.toList ++ l.flatMap fun p => p.cps.toList := by
      intro l
      induction l with
      | nil => intro acc; simp
      | cons y l ih => intro acc; rw [List.foldl_cons, ih]; simp
    exact h l x.cps
theorem sum_len' : ∀ (l : List Str) (a : Nat), List.foldl (fun (x1 : Nat) (x2 : Str) => x1 + x2.length + Str.empty.length) a l = a + (l.flatMap fun p => p.cps.toList).length
  | [], a => by simp
  | x :: l, a => by
    rw [List.foldl_cons, sum_len' l, List.flatMap_cons, List.length_append]
    show a + x.length + 0 + _ = _
    have : x.length = x.cps.toList.length := by unfold Str.length; simp
    omega
theorem sum_len (ps : List (Str × Tok)) : Array.foldl (fun (x1 : Nat) (x2 : Str) => x1 + x2.length + Str.empty.length) 0 (ps.map (·.1)).toArray = (catL ps).length := by
  rw [List.foldl_toArray, sum_len', Nat.zero_add]
  unfold catL
  rw [List.flatMap_map]
theorem sizeTooLong (n : Nat) : Builtin.Str.tooLong n = decide (n > sizeLine) := rfl
theorem S_of (x : Str) : S x.cps.toList = x := by unfold S; simp
theorem updateSeq_push {Mo : Model} {A : Around} {E : Value → Shared → Prop} {s : Shared} {Lp : Addr} {ps : List (Str × Tok)} {k : Nat} {x : Str} {t : Tok} {Q : Unit → Shared → Prop}
    (hl : s.heap.get? Lp = some (W.listOf (strValues ps).toArray k)) (hz : ps.length ≤ 3000)
    (h : ∀ h' k', h'.get? Lp = some (W.listOf (strValues (ps ++ [(x, t)])).toArray k') → (∀ b, b ≠ Lp → ∀ o, s.heap.get? b = some o → h'.get? b = some o) → Q () { s with heap := h' }) :
    wpAny Mo A (updateSeq Lp (·.push (.str x t))) Q E s := by
  have hsz : (strValues ps).toArray.size ≤ 3000 := by unfold strValues; simpa using hz
  refine wpAny_updateSeq (o := W.listOf (strValues ps).toArray k) hl rfl ?_ (by rw [sizeLine_eq]; omega) (by rw [Array.size_push, sizeLine_eq]; omega)
  have e := Heap.get?_update_self (Obj.mapSeq (·.push (Value.str x t))) hl rfl
  rw [show Obj.mapSeq (·.push (Value.str x t)) (W.listOf (strValues ps).toArray k) = W.listOf ((strValues ps).toArray.push (.str x t)) _ from mapSeq_push _ _ _ _ _, strValues_snoc] at e
  refine h _ _ e ?_
  · intro b hb o ho
    exact (Heap.SameBut.update ..).extBut b o hb ho
theorem sub_last {P K Lp : Addr} {C : Array Nat} {x r : Str} {u v : Tok} (find : Nat → Option (Nat × Nat)) (hfind : ∀ s, Finds (Sre.forSearch C x.cps 0 s x.cps.size false) (find s)) {f st n : Nat} {ps : List (Str × Tok)} (hn : find st = none)
    (hx : x.cps.size ≤ 1000) (hst : st ≤ x.cps.size) (hb1 : ps.length + 2 * (x.cps.size - st) ≤ 2900) (hb2 : (catL ps).length + 11 * (x.cps.size - st) ≤ 20000)
    {prog : Program} {w : World} {A : Around} {R : Result → Shared → Prop} {s : Shared} {k : Nat} (hP : IsPat s.heap P K C) (hl : s.heap.get? Lp = some (W.listOf (strValues ps).toArray k))
    (hR : ∀ h' tk t', (∀ b, b ≠ Lp → ∀ o, s.heap.get? b = some o → h'.get? b = some o) → R (.ok (.ret (.str (S (catL ps ++ subF find r.cps.toList x.cps (f + 1) st)) t'))) { s with heap := h', toks := tk }) :
    wpAny (model prog w) A.in1 (Builtin.«re.Pattern.sub.loop» ⟨[.ref P, .str x u, .str r v, rawInt 0, rawInt 0, rawInt n, rawInt st, rawInt st, .bool false, .ref Lp, .bool false], []⟩)
      (fun fin s' => match fin with | .done f => R (.ok f) s' | .again c' => c'.quiet = true ∧ codeAny (model prog w) A c' R s') (fun e s' => R (.error e) s') s := by
  unfold Builtin.«re.Pattern.sub.loop»
  dsimp only [rawInt]
  refine wpAny_bind (wpAny_target hP ?_)
  rw [if_pos (by decide)]
  refine wpAny_bind (wpAny_pure ?_)
  rw [if_neg (by simp)]
  refine wpAny_bind (wpAny_next (hfind st) (fun m a b h => by rw [hn] at h; cases h) (fun _ => ?_))
  dsimp only
  have tail : ∀ (ps' : List (Str × Tok)) (k' : Nat) (s' : Shared), catL ps' = catL ps ++ (x.cps.extract st x.cps.size).toList → s'.heap.get? Lp = some (W.listOf (strValues ps').toArray k') →
      (∀ b, b ≠ Lp → ∀ o, s.heap.get? b = some o → s'.heap.get? b = some o) → (∃ h2 tk2, s' = { s with heap := h2, toks := tk2 }) →
      wpAny (model prog w) A.in1 (do
        let joiner ← reSlice (tgt P C x u).text (tgt P C x u).kind 0 0
        let xs ← seqItems? (Value.ref Lp)
        if (xs.getD #[]).isEmpty = true then do
            let text ← pure joiner
            if false = true then do ret (← holding [text] do newTuple [text, ← mkInt ↑n]) else ret text
          else do
            let text ← call (Value.builtin (if ((tgt P C x u).kind == 0) = true then "str.join" else "bytes.join")) [joiner, Value.ref Lp]
            if false = true then do ret (← holding [text] do newTuple [text, ← mkInt ↑n]) else ret text)
        (fun fin s' => match fin with | .done f => R (.ok f) s' | .again c' => c'.quiet = true ∧ codeAny (model prog w) A c' R s') (fun e s' => R (.error e) s') s' := by
    rintro ps' k' s' hc hl' hk' ⟨h2, tk2, rfl⟩
    unfold reSlice
    rw [if_pos (show ((tgt P C x u).kind == 0) = true from rfl), if_pos (show ((tgt P C x u).kind == 0) = true from rfl)]
    refine wpAny_bind (wpAny_mkStr ?_ (by rw [sizeLine_eq]; unfold Str.length; rw [Array.size_extract]; omega))
    refine wpAny_bind (wpAny_seqItems hl' rfl ?_)
    have hres : S (catL ps') = S (catL ps ++ subF find r.cps.toList x.cps (f + 1) st) := by rw [hc, subF, hn]
    have hlen : (catL ps').length ≤ 21000 := by rw [hc]; simp; omega
    have he : (⟨(tgt P C x u).text.extract 0 0⟩ : Str) = Str.empty := by
      show Str.mk (x.cps.extract 0 0) = Str.mk #[]
      congr 1
      simp
    rw [he]
    cases hps : ps' with
    | nil =>
      rw [if_pos (by simp [strValues])]
      refine wpAny_bind (wpAny_pure ?_)
      rw [if_neg Bool.false_ne_true]
      refine wpAny_pure ?_
      have := hR h2 (tk2 + 1) tk2 hk'
      rw [← hres, hps] at this
      exact this
    | cons q ps2 =>
      rw [if_neg (by simp [strValues])]
      refine wpAny_bind (call_meets F.slot_str_join (typeIs_str _ _ _) F.entry_str_join (F.args_str_join_2 _ _) (meets_str_join_list Str.empty _ Lp ps' ?_) ⟨⟨_, hl', rfl, k', rfl⟩, ?_⟩)
      · rw [sum_len, sizeTooLong]
        exact decide_eq_false (by rw [sizeLine_eq]; omega)
      · have fin : ∀ (y : Str) (t9 : Tok) (tk9 : Nat), y = S (catL ps') → wpAny (model prog w) A.in1 (if false = true then do ret (← holding [Value.str y t9] do newTuple [Value.str y t9, ← mkInt ↑n]) else ret (Value.str y t9))
            (fun fin s' => match fin with | .done f => R (.ok f) s' | .again c' => c'.quiet = true ∧ codeAny (model prog w) A c' R s') (fun e s' => R (.error e) s') { s with heap := h2, toks := tk9 } := by
          intro y t9 tk9 hy
          rw [if_neg Bool.false_ne_true]
          refine wpAny_pure ?_
          have := hR h2 tk9 t9 hk'
          rw [← hres, ← hy] at this
          exact this
        have hg := glued_empty (ps'.map (·.1))
        have hg2 : Builtin.Str.glued Str.empty (ps'.map (·.1)) = S (catL ps') := by
          rw [← S_of (Builtin.Str.glued Str.empty (ps'.map (·.1))), hg]
          unfold catL
          rw [List.flatMap_map]
        cases ps2 with
        | nil =>
          rw [hps]
          refine fin q.1 q.2 _ ?_
          rw [hps]
          unfold catL
          rw [List.flatMap_cons, List.flatMap_nil, List.append_nil, S_of]
        | cons q2 ps3 =>
          have hj : joinMade Str.empty ps' = .str (Builtin.Str.glued Str.empty (ps'.map (·.1))) := by rw [hps]; rfl
          rw [hj, hg2]
          exact ⟨by rw [S_len, sizeLine_eq]; omega, fin _ _ _ rfl⟩
  by_cases hsa : st < x.cps.size
  · rw [if_pos (show (↑st : Int).toNat < (tgt P C x u).lim from hsa)]
    have hsl : ∀ b e, reSlice (tgt P C x u).text (tgt P C x u).kind b e = mkStr ⟨x.cps.extract b e⟩ := fun b e => by unfold reSlice; exact if_pos rfl
    rw [hsl]
    refine wpAny_bind (wpAny_mkStr ?_ (by rw [sizeLine_eq]; unfold Str.length; rw [Array.size_extract]; omega))
    refine wpAny_bind (updateSeq_push hl (by omega) ?_)
    intro h2 k2 hl2 hk2
    exact tail (ps ++ [(_, _)]) k2 _ (catL_snoc ..) hl2 hk2 ⟨h2, _, rfl⟩
  · rw [if_neg (show ¬ (↑st : Int).toNat < (tgt P C x u).lim from hsa)]
    have hsa' : st = x.cps.size := by omega
    exact tail ps k s (by rw [hsa']; simp) hl (fun _ _ _ e => e) ⟨s.heap, s.toks, rfl⟩
theorem sub_loop {P K Lp : Addr} {C : Array Nat} {x r : Str} {u v : Tok} (find : Nat → Option (Nat × Nat)) (hfind : ∀ s, Finds (Sre.forSearch C x.cps 0 s x.cps.size false) (find s))
    (hprog : ∀ s a b, find s = some (a, b) → s ≤ a ∧ a < b ∧ b ≤ x.cps.size) (hx : x.cps.size ≤ 1000) (hr : r.cps.size ≤ 10) (hr0 : 0 < r.cps.size) :
    ∀ (f st n : Nat) (ps : List (Str × Tok)), x.cps.size - st ≤ f → st ≤ x.cps.size → ps.length + 2 * (x.cps.size - st) ≤ 2900 → (catL ps).length + 11 * (x.cps.size - st) ≤ 20000 →
    Meets (Builtin.«re.Pattern.sub.loop» ⟨[.ref P, .str x u, .str r v, rawInt 0, rawInt 0, rawInt n, rawInt st, rawInt st, .bool false, .ref Lp, .bool false], []⟩)
      (fun _ R s => IsPat s.heap P K C ∧ P ≠ Lp ∧ K ≠ Lp ∧ (∃ k, s.heap.get? Lp = some (W.listOf (strValues ps).toArray k)) ∧
        ∀ h' tk t', (∀ b, b ≠ Lp → ∀ o, s.heap.get? b = some o → h'.get? b = some o) → R (.ok (.ret (.str (S (catL ps ++ subF find r.cps.toList x.cps (f + 1) st)) t'))) { s with heap := h', toks := tk }) := by
  intro f
  induction f with
  | zero =>
    intro st n ps hf hst hb1 hb2 prog w A R s ⟨hP, hPL, hKL, ⟨k, hl⟩, hR⟩
    exact sub_last find hfind (by
      cases h : find st with
      | none => rfl
      | some p => obtain ⟨a, b⟩ := p; have := hprog st a b h; omega) hx hst hb1 hb2 hP hl hR
  | succ f ih =>
    intro st n ps hf hst hb1 hb2 prog w A R s ⟨hP, hPL, hKL, ⟨k, hl⟩, hR⟩
    cases hfs : find st with
    | none => exact sub_last find hfind hfs hx hst hb1 hb2 hP hl hR
    | some p =>
      obtain ⟨a, b⟩ := p
      obtain ⟨q1, q2, q3⟩ := hprog st a b hfs
      unfold Builtin.«re.Pattern.sub.loop»
      dsimp only [rawInt]
      refine wpAny_bind (wpAny_target hP ?_)
      rw [if_pos (by decide)]
      refine wpAny_bind (wpAny_pure ?_)
      rw [if_neg (by simp)]
      refine wpAny_bind (wpAny_next (hfind st) ?_ (fun h => by rw [hfs] at h; cases h))
      intro m a' b' he hma hmb
      rw [hfs] at he
      injection he with he
      injection he with e1 e2
      subst e1
      subst e2
      dsimp only
      rw [hma, hmb]
      have tail : ∀ (ps' : List (Str × Tok)) (k' : Nat) (s' : Shared), catL ps' = catL ps ++ (x.cps.extract st a).toList → ps'.length ≤ ps.length + 1 → s'.heap.get? Lp = some (W.listOf (strValues ps').toArray k') →
          (∀ b, b ≠ Lp → ∀ o, s.heap.get? b = some o → s'.heap.get? b = some o) → (∃ h2 tk2, s' = { s with heap := h2, toks := tk2 }) →
          wpAny (model prog w) A.in1 (do
            updateSeq Lp (·.push (Value.str r v))
            again (Code.builtin "re.Pattern.sub.loop" ⟨[Value.ref P, Value.str x u, Value.str r v, Value.int 0 0, Value.int 0 0, Value.int (↑n + 1) 0, Value.int ↑b 0, Value.int ↑b 0, Value.bool (b == a), Value.ref Lp, Value.bool false], []⟩))
            (fun fin s' => match fin with | .done f => R (.ok f) s' | .again c' => c'.quiet = true ∧ codeAny (model prog w) A c' R s') (fun e s' => R (.error e) s') s' := by
        rintro ps' k' s' hc hlen hl' hk' ⟨h2, tk2, rfl⟩
        refine wpAny_bind (updateSeq_push hl' (by omega) ?_)
        intro h3 k3 hl3 hk3
        have hcr : (catL (ps' ++ [(r, v)])).length = (catL ps).length + (a - st) + r.cps.size := by
          rw [catL_snoc, hc]; simp; omega
        rw [show (b == a) = false from beq_eq_false_iff_ne.mpr (by omega)]
        refine meets_again (t := again _) rfl plain_rePattern_sub_loop entry_rePattern_sub_loop (ih b (n + 1) (ps' ++ [(r, v)]) (by omega) q3 (by rw [List.length_append]; simp; omega) (by rw [hcr]; omega)) prog w A R _ ⟨hP.at (fun b hb o ho => ?_), hPL, hKL, ⟨k3, hl3⟩, fun h' tk t' hk4 => ?_⟩
        · have hbL : b ≠ Lp := by rcases hb with rfl | rfl; exact hPL; exact hKL
          exact hk3 b hbL o (hk' b hbL o ho)
        · have := hR h' tk t' (fun b hb o ho => hk4 b hb o (hk3 b hb o (hk' b hb o ho)))
          rw [subF, hfs] at this
          rw [catL_snoc, hc, List.append_assoc, List.append_assoc]
          exact this
      by_cases hsa : st < a
      · rw [if_pos (show (↑st : Int).toNat < a from hsa)]
        unfold reSlice
        rw [if_pos (show ((tgt P C x u).kind == 0) = true from rfl)]
        refine wpAny_bind (wpAny_mkStr ?_ (by rw [sizeLine_eq]; unfold Str.length; rw [Array.size_extract]; omega))
        refine wpAny_bind (updateSeq_push hl (by omega) ?_)
        intro h2 k2 hl2 hk2
        exact tail (ps ++ [(_, _)]) k2 _ (catL_snoc ..) (by simp) hl2 hk2 ⟨h2, _, rfl⟩
      · rw [if_neg (show ¬ (↑st : Int).toNat < a from hsa)]
        have hsa' : st = a := by omega
        exact tail ps k s (by rw [hsa']; simp) (by omega) hl (fun _ _ _ e => e) ⟨s.heap, s.toks, rfl⟩
end
-- part Re7
section
open PySem.Builtin PySem.Builtin.Re PySem.MeetsSeq
theorem str_not_called : typeLookup (.type "str") "__call__" = pure none := by rw [typeLookup_type, builtinLookup_eq_fast]; kernel_rfl
theorem named_sub (a b : Value) : reNamed "re.Pattern.sub" "sub" ["repl", "string", "count"] 2 [a, b] [] = pure [some a, some b, none] := by
  first | rfl | kernel_rfl
theorem sub_meets {P K : Addr} {C : Array Nat} {x r : Str} {u v : Tok} (find : Nat → Option (Nat × Nat)) (hfind : ∀ s, Finds (Sre.forSearch C x.cps 0 s x.cps.size false) (find s))
    (hprog : ∀ s a b, find s = some (a, b) → s ≤ a ∧ a < b ∧ b ≤ x.cps.size) (hx : x.cps.size ≤ 1000) (hr : r.cps.size ≤ 10) (hr0 : 0 < r.cps.size) (hb : r.cps.contains 92 = false) :
    Meets (Builtin.«re.Pattern.sub» ⟨[.ref P, .str r v, .str x u], []⟩)
      (fun _ R s => IsPat s.heap P K C ∧ ∀ h' tk t', (∀ b o, s.heap.get? b = some o → h'.get? b = some o) → R (.ok (.ret (.str (S (subF find r.cps.toList x.cps (x.cps.size + 1) 0)) t'))) { s with heap := h', toks := tk }) := by
  intro prog w A R s ⟨hP, hR⟩
  show wpAny _ _ (reSubstitute "re.Pattern.sub" "sub" false ⟨[.ref P, .str r v, .str x u], []⟩) _ _ s
  unfold reSubstitute
  dsimp only
  rw [named_sub]
  refine wpAny_bind (wpAny_pure ?_)
  dsimp only
  refine wpAny_bind (wpAny_pure ?_)
  refine wpAny_bind (wpAny_specialOf (T := "str") (typeIs_str _ _ _) str_not_called ?_)
  rw [if_neg (show ¬ (none : Option Value).isSome = true from Bool.false_ne_true)]
  refine wpAny_bind (m := asStr? (Value.str r v)) (wpAny_pure ?_)
  dsimp only
  rw [hb]
  refine wpAny_bind (wpAny_pure ?_)
  rw [if_neg (show ¬ (none : Option Value).isSome = true from Bool.false_ne_true), if_pos (by rfl)]
  refine wpAny_bind (wpAny_pure ?_)
  refine wpAny_bind (wpAny_holding (wpAny_target hP ?_))
  dsimp only
  rw [if_neg (by decide)]
  refine wpAny_bind (wpAny_newList ?_)
  have hPK := hP
  obtain ⟨oP, oK, fs, items, n, h1, h2, h3, h4, h5, h6, h7, h8, h9, h10⟩ := hPK
  have up : ∀ b o, s.heap.get? b = some o → (s.heap.push { cls := .type "list", data := .seq ([] : List Value).toArray }).get? b = some o := fun b o e => Heap.get?_push_of_some _ e
  refine meets_again (t := again _) rfl plain_rePattern_sub_loop entry_rePattern_sub_loop (sub_loop (P := P) (K := K) (C := C) find hfind hprog hx hr hr0 x.cps.size 0 0 [] (by omega) (Nat.zero_le _) (by simp; omega) (by simp [catL]; omega)) prog w A R _
    ⟨hP.at (fun b _ o ho => up b o ho), Nat.ne_of_lt (Heap.lt_size h1), Nat.ne_of_lt (Heap.lt_size h8), ⟨0, Heap.get?_push_size _ rfl⟩, fun h' tk t' hk => ?_⟩
  exact hR h' tk t' (fun b o ho => hk b (Nat.ne_of_lt (Heap.lt_size ho)) o (up b o ho))
section
variable {prog : Program} {w : World} {A : Around} {E : Value → Shared → Prop} {s : Shared}
theorem call_sub {P K : Addr} {C : Array Nat} {x r : Str} {u v : Tok} {Q : Value → Shared → Prop} (find : Nat → Option (Nat × Nat)) (hfind : ∀ s, Finds (Sre.forSearch C x.cps 0 s x.cps.size false) (find s))
    (hprog : ∀ s a b, find s = some (a, b) → s ≤ a ∧ a < b ∧ b ≤ x.cps.size) (hx : x.cps.size ≤ 1000) (hr : r.cps.size ≤ 10) (hr0 : 0 < r.cps.size) (hb : r.cps.contains 92 = false)
    (hP : IsPat s.heap P K C) (h : ∀ h' tk t', (∀ b o, s.heap.get? b = some o → h'.get? b = some o) → Q (.str (S (subF find r.cps.toList x.cps (x.cps.size + 1) 0)) t') { s with heap := h', toks := tk }) :
    wpAny (model prog w) A (call (.builtin "re.Pattern.sub") [.ref P, .str r v, .str x u]) Q E s := by
  have hPK := hP
  obtain ⟨oP, oK, fs, items, n, h1, h2, h3, h4, h5, h6, h7, h8, h9, h10⟩ := hPK
  exact call_meets slot_rePattern_sub (T := "re.Pattern") ⟨oP, h1, h2⟩ entry_rePattern_sub (args_rePattern_sub _ _ _) (sub_meets (P := P) (K := K) (C := C) find hfind hprog hx hr hr0 hb) ⟨hP, h⟩
theorem method_sub {P K : Addr} {C : Array Nat} {pl : Sem Bool} {Q : Value × List Value → Shared → Prop} (hP : IsPat s.heap P K C) (h : Q (.builtin "re.Pattern.sub", [.ref P]) s) : wpAny (model prog w) A (getMethod (.ref P) "sub" pl) Q E s := by
  obtain ⟨oP, oK, fs, items, n, h1, h2, h3, h4, h5, h6, h7, h8, h9, h10⟩ := hP
  exact getMethod_builtin (T := "re.Pattern") ⟨oP, h1, h2⟩ plainAttrs_rePattern slot_rePattern_sub type_rePattern_sub (fun a e => by injection e with e; subst e; exact ⟨oP, h1, h3⟩) h
end
/-- every end of a line is a return and a feed -/
def crlfL : List Nat → List Nat
  | [] => []
  | 10 :: r => 13 :: 10 :: crlfL r
  | 13 :: 10 :: r => 13 :: 10 :: crlfL r
  | 13 :: r => 13 :: 10 :: crlfL r
  | c :: r => c :: crlfL r
/-- a dot more ahead of a dot at a line's beginning -/
def stuffL : Bool → List Nat → List Nat
  | _, [] => []
  | b, c :: r => if b = true ∧ c = 46 then 46 :: 46 :: stuffL (c == 10) r else c :: stuffL (c == 10) r
theorem drop_cons {l : List Nat} {p : Nat} (h : p < l.length) : l.drop p = l.getD p 0 :: l.drop (p + 1) := by
  rw [List.drop_eq_getElem_cons h, List.getD_eq_getElem?_getD, List.getElem?_eq_getElem h]; rfl
theorem crlfL_plain {c : Nat} {r : List Nat} (h1 : c ≠ 10) (h2 : c ≠ 13) : crlfL (c :: r) = c :: crlfL r := by
  rw [crlfL.eq_def]
  split <;> simp_all
theorem crlfL_13 {r : List Nat} (h : r.getD 0 0 ≠ 10) : crlfL (13 :: r) = 13 :: 10 :: crlfL r := by
  cases r with
  | nil => rfl
  | cons c r =>
    by_cases hc : c = 10
    · subst hc; exact absurd rfl h
    · rw [crlfL.eq_def]
      split <;> simp_all
theorem crlfL_pre {l : List Nat} : ∀ (n s : Nat), s + n ≤ l.length → (∀ q, s ≤ q → q < s + n → l.getD q 0 ≠ 10 ∧ l.getD q 0 ≠ 13) → crlfL (l.drop s) = (l.drop s).take n ++ crlfL (l.drop (s + n))
  | 0, s, _, _ => by simp
  | n + 1, s, h, hq => by
    rw [drop_cons (by omega), crlfL_plain (hq s (Nat.le_refl _) (by omega)).1 (hq s (Nat.le_refl _) (by omega)).2, crlfL_pre n (s + 1) (by omega) (fun q h1 h2 => hq q (by omega) (by omega)), List.take_succ_cons, List.cons_append,
      show s + 1 + n = s + (n + 1) by omega]
end
-- part Re8
section
theorem getD_arr (l : List Nat) (p : Nat) : l.toArray.getD p 0 = l.getD p 0 := by
  rw [Array.getD_eq_getD_getElem?, List.getElem?_toArray, List.getD_eq_getElem?_getD]
theorem extract_arr (l : List Nat) (s a : Nat) : (l.toArray.extract s a).toList = (l.drop s).take (a - s) := by
  simp [List.extract_eq_take_drop]
theorem findE_prog (l : List Nat) (s a b : Nat) (h : findE l.toArray l.length s = some (a, b)) : s ≤ a ∧ a < b ∧ b ≤ l.length := by
  unfold findE at h
  cases hs : scanE l.toArray l.length (l.length + 1 - s) s with
  | none => rw [hs] at h; cases h
  | some p =>
    rw [hs] at h
    simp only [Option.map_some, Option.some.injEq, Prod.mk.injEq] at h
    obtain ⟨rfl, rfl⟩ := h
    obtain ⟨h1, h2, _, _⟩ := scanE_some hs
    unfold widthE
    split
    · rename_i hw; omega
    · omega
theorem sub_crlf (l : List Nat) : ∀ f s, l.length - s < f → s ≤ l.length → subF (findE l.toArray l.length) [13, 10] l.toArray f s = crlfL (l.drop s) := by
  intro f
  induction f with
  | zero => intro s h; omega
  | succ f ih =>
    intro s hf hs
    unfold subF
    cases hE : findE l.toArray l.length s with
    | none =>
      have hn : scanE l.toArray l.length (l.length + 1 - s) s = none := by
        unfold findE at hE
        simpa using hE
      have hq := scanE_none (by omega) hn
      rw [crlfL_pre (l.length - s) s (by omega) (fun q h1 h2 => by rw [← getD_arr]; exact hq q h1 (by omega))]
      rw [show s + (l.length - s) = l.length by omega, List.drop_length]
      dsimp only
      rw [extract_arr, List.size_toArray]
      simp [crlfL]
    | some ab =>
      obtain ⟨a, b⟩ := ab
      obtain ⟨q1, q2, q3⟩ := findE_prog l s a b hE
      dsimp only
      rw [ih b (by omega) q3, extract_arr]
      unfold findE at hE
      cases hsc : scanE l.toArray l.length (l.length + 1 - s) s with
      | none => rw [hsc] at hE; cases hE
      | some p =>
        rw [hsc] at hE
        simp only [Option.map_some, Option.some.injEq, Prod.mk.injEq] at hE
        obtain ⟨rfl, rfl⟩ := hE
        obtain ⟨h1, h2, h3, h4⟩ := scanE_some hsc
        rw [crlfL_pre (p - s) s (by omega) (fun q h5 h6 => by rw [← getD_arr]; exact h4 q h5 (by omega)), show s + (p - s) = p by omega]
        congr 1
        rw [drop_cons h2]
        rw [getD_arr] at h3
        unfold widthE
        rw [getD_arr, getD_arr]
        rcases h3 with h3 | h3
        · rw [h3, if_neg (by simp)]; rfl
        · rw [h3]
          by_cases h5 : p + 1 < l.length ∧ l.getD (p + 1) 0 = 10
          · rw [if_pos ⟨rfl, h5⟩, drop_cons h5.1, h5.2]; rfl
          · rw [if_neg (fun q => h5 q.2), crlfL_13]; rfl
            intro q
            apply h5
            rw [List.getD_eq_getElem?_getD, List.getElem?_drop, Nat.add_zero] at q
            rw [List.getD_eq_getElem?_getD]
            refine ⟨?_, q⟩
            rcases Nat.lt_or_ge (p + 1) l.length with h | h
            · exact h
            · rw [List.getElem?_eq_none h] at q; cases q
def bol (l : List Nat) (s : Nat) : Bool := s == 0 || l.getD (s - 1) 0 == 10
theorem hitD_arr (l : List Nat) (p : Nat) (h : p < l.length) : hitD l.toArray l.length p = (bol l p && l.getD p 0 == 46) := by
  unfold hitD bol; rw [getD_arr, getD_arr, decide_eq_true h, Bool.true_and]
theorem bol_succ (l : List Nat) (s : Nat) : bol l (s + 1) = (l.getD s 0 == 10) := by unfold bol; simp
theorem stuffL_pre {l : List Nat} : ∀ (n s : Nat), s + n ≤ l.length → (∀ q, s ≤ q → q < s + n → hitD l.toArray l.length q = false) → stuffL (bol l s) (l.drop s) = (l.drop s).take n ++ stuffL (bol l (s + n)) (l.drop (s + n))
  | 0, s, _, _ => by simp
  | n + 1, s, h, hq => by
    have h0 := hq s (Nat.le_refl _) (by omega)
    rw [hitD_arr l s (by omega)] at h0
    rw [drop_cons (by omega), stuffL, if_neg (by simpa using h0), ← bol_succ, stuffL_pre n (s + 1) (by omega) (fun q h1 h2 => hq q (by omega) (by omega)), List.take_succ_cons, List.cons_append,
      show s + 1 + n = s + (n + 1) by omega]
theorem findD_prog (l : List Nat) (s a b : Nat) (h : findD l.toArray l.length s = some (a, b)) : s ≤ a ∧ a < b ∧ b ≤ l.length := by
  unfold findD at h
  by_cases hl : s ≥ l.length
  · rw [if_pos hl] at h; cases h
  rw [if_neg hl] at h
  cases hs : scanD l.toArray l.length (l.length + 1 - s) s with
  | none => rw [hs] at h; cases h
  | some p =>
    rw [hs] at h
    simp only [Option.map_some, Option.some.injEq, Prod.mk.injEq] at h
    obtain ⟨rfl, rfl⟩ := h
    obtain ⟨h1, h2, _⟩ := scanD_some hs
    unfold hitD at h2
    simp at h2
    omega
theorem sub_stuff (l : List Nat) : ∀ f s, l.length - s < f → s ≤ l.length → subF (findD l.toArray l.length) [46, 46] l.toArray f s = stuffL (bol l s) (l.drop s) := by
  intro f
  induction f with
  | zero => intro s h; omega
  | succ f ih =>
    intro s hf hs
    unfold subF
    cases hE : findD l.toArray l.length s with
    | none =>
      have hq : ∀ q, s ≤ q → q < l.length → hitD l.toArray l.length q = false := by
        unfold findD at hE
        by_cases hl : s ≥ l.length
        · intro q h1 h2; omega
        · rw [if_neg hl] at hE
          exact scanD_none (f := l.length + 1 - s) (s := s) (by omega) (by simpa using hE)
      rw [stuffL_pre (l.length - s) s (by omega) (fun q h1 h2 => hq q h1 (by omega))]
      rw [show s + (l.length - s) = l.length by omega, List.drop_length]
      dsimp only
      rw [extract_arr, List.size_toArray]
      simp [stuffL]
    | some ab =>
      obtain ⟨a, b⟩ := ab
      obtain ⟨q1, q2, q3⟩ := findD_prog l s a b hE
      dsimp only
      rw [ih b (by omega) q3, extract_arr]
      unfold findD at hE
      have hl : ¬ s ≥ l.length := by omega
      rw [if_neg hl] at hE
      cases hsc : scanD l.toArray l.length (l.length + 1 - s) s with
      | none => rw [hsc] at hE; cases hE
      | some p =>
        rw [hsc] at hE
        simp only [Option.map_some, Option.some.injEq, Prod.mk.injEq] at hE
        obtain ⟨rfl, rfl⟩ := hE
        obtain ⟨h1, h2, h3⟩ := scanD_some hsc
        rw [stuffL_pre (p - s) s (by omega) (fun q h5 h6 => h3 q h5 (by omega)), show s + (p - s) = p by omega]
        congr 1
        have hp : p < l.length := by omega
        rw [hitD_arr l p hp] at h2
        simp only [Bool.and_eq_true, beq_iff_eq] at h2
        rw [drop_cons hp, stuffL, if_pos ⟨h2.1, h2.2⟩, ← bol_succ]; rfl
/-- what quotedata gives -/
def quotedL (l : List Nat) : List Nat := stuffL true (crlfL l)
end
-- part Quote
section
theorem crlfL_len : ∀ (n : Nat) (l : List Nat), l.length ≤ n → (crlfL l).length ≤ 2 * l.length := by
  intro n
  induction n with
  | zero => intro l h; cases l with | nil => exact Nat.le_refl _ | cons _ _ => simp at h
  | succ n ih =>
    intro l h
    rw [crlfL.eq_def]
    split <;> simp only [List.length_cons, List.length_nil] at h ⊢
    · omega
    · rename_i r; have := ih r (by omega); omega
    · rename_i r; have := ih r (by omega); omega
    · rename_i r _; have := ih r (by omega); omega
    · rename_i c r _ _ _; have := ih r (by omega); omega
theorem IsPat.fr {h₀ h : Heap} {L : Addr} {m : Str → Option Value} {P K : Addr} {C : Array Nat} (x : IsPat h₀ P K C) (F : Fr h₀ L h m) : IsPat h P K C := x.at fun b _ o e => F.keep b o e
section
variable {prog : Program} {w : World} {A : Around} {E : Value → Shared → Prop} {s : Shared} {h₀ : Heap} {L : Addr} {m : Str → Option Value} {news : List (Addr × Obj)} {u v : Tok} {Q : Value → Shared → Prop}
theorem call_crlf {data : List Nat} (hlen : data.length ≤ 400) (hP : IsPat h₀ 41 40 C41) (F : Fr h₀ L s.heap m) (N : News h₀ L s.heap news) (h : ∀ h' tk t', Fr h₀ L h' m → News h₀ L h' news → Q (.str (S (crlfL data)) t') { s with heap := h', toks := tk }) :
    wpAny (model prog w) A (call (.builtin "re.Pattern.sub") [.ref 41, .str (Str.ofString "\r\n") v, .str (S data) u]) Q E s := by
  refine call_sub (findE data.toArray data.length) (fun s => ?_) (fun s a b h => ?_) (by simp [S]; omega) (by decide +kernel) (by decide +kernel) (by decide +kernel) (hP.fr F) fun h' tk t' hk => ?_
  · have := find41 data.toArray s
    simpa [S] using this
  · have := findE_prog data s a b h
    simpa [S] using this
  · have e : subF (findE data.toArray data.length) (Str.ofString "\r\n").cps.toList (S data).cps ((S data).cps.size + 1) 0 = crlfL data := by
      rw [str_crlf]
      have := sub_crlf data (data.length + 1) 0 (by omega) (Nat.zero_le _)
      simpa [S] using this
    rw [e]
    exact h h' tk t' (F.keeps hk) (N.grown hk)
theorem call_stuff {data : List Nat} (hlen : data.length ≤ 900) (hP : IsPat h₀ 36 35 C36) (F : Fr h₀ L s.heap m) (N : News h₀ L s.heap news) (h : ∀ h' tk t', Fr h₀ L h' m → News h₀ L h' news → Q (.str (S (stuffL true data)) t') { s with heap := h', toks := tk }) :
    wpAny (model prog w) A (call (.builtin "re.Pattern.sub") [.ref 36, .str (Str.ofString "..") v, .str (S data) u]) Q E s := by
  refine call_sub (findD data.toArray data.length) (fun s => ?_) (fun s a b h => ?_) (by simp [S]; omega) (by decide +kernel) (by decide +kernel) (by decide +kernel) (hP.fr F) fun h' tk t' hk => ?_
  · have := find36 data.toArray s (by simp; omega)
    simpa [S] using this
  · have := findD_prog data s a b h
    simpa [S] using this
  · have e : subF (findD data.toArray data.length) (Str.ofString "..").cps.toList (S data).cps ((S data).cps.size + 1) 0 = stuffL true data := by
      rw [show Str.ofString ".." = S [46, 46] by decide +kernel]
      have := sub_stuff data (data.length + 1) 0 (by omega) (Nat.zero_le _)
      simpa [S, bol] using this
    rw [e]
    exact h h' tk t' (F.keeps hk) (N.grown hk)
end
local macro_rules | `(tactic| walk_at "getMethod ref") => `(tactic| ((rename Fr _ _ _ _ => fF); first | refine method_sub (IsPat.fr (P := 36) (by assumption) fF) ?_ | refine method_sub (IsPat.fr (P := 41) (by assumption) fF) ?_))
local macro_rules | `(tactic| walk_at "call builtin:re.Pattern.sub") => `(tactic| ((rename Fr _ _ _ _ => fF); (rename News _ _ _ _ => fN); (first | refine call_crlf (by first | assumption | omega) (by assumption) fF fN ?_ | refine call_stuff (by omega) (by assumption) fF fN ?_); clear fF fN; intro _ _ _ _ _))
theorem quote_c {w : World} {news : List (Addr × Obj)} (data : List Nat) (t : Tok) (hlen : data.length ≤ 400) :
  CTell w 48 [.str (S data) t] 20 news (fun r n' => ∃ t, r = .str (S (quotedL data)) t ∧ n' = news) := by
  unfold CTell
  k_fill
  intro p loose mean mg mb dp un gd cn cs a ccd cl outer A₀ base h₀ L m s Q E B F X N T hk hd hu ret
  refine wpAny_call ?_
  k_dflt ktr_enter
  clear B F X N T hk
  rename Fr _ _ _ _ => F1
  replace F1 := fr_as F1 (m' := fun y => if y = "data" then some (.str (S data) t) else none) (fun y => (lk_eq _ y).trans (by with_unfolding_all rfl))
  rename Frag.In _ _ => XX
  rename Fr _ _ _ _ => F1
  have h41 : IsPat _ 41 40 C41 := ⟨_, _, _, _, _, XX 41 _ (by rfl), rfl, rfl, rfl, rfl, rfl, rfl, XX 40 _ (by rfl), rfl, by decide +kernel⟩
  have h36 : IsPat _ 36 35 C36 := ⟨_, _, _, _, _, XX 36 _ (by rfl), rfl, rfl, rfl, rfl, rfl, rfl, XX 35 _ (by rfl), rfl, by decide +kernel⟩
  have hcl := crlfL_len data.length data (Nat.le_refl _)
  have hS : Hold True := trivial
  k_steps
  exact leaveK_ (by assumption) (by assumption) fun F9 N9 => ret _ _ _ _ ⟨_, rfl, rfl⟩ F9 N9
end
-- part Toks
section
theorem setGen_toks (s : Shared) (g : Nat) (x : GenState) : (s.setGen g x).toks = s.toks := rfl
/-- no run takes a token back -/
theorem runs_toks {M : Model} {Γ : PySem.Ctx} {p : Pos} {t : Sem Fin} {fs : List PySem.Frame} {s : Shared} {e : End} {s' : Shared} (h : Runs M Γ p t fs s e s') : s.toks ≤ s'.toks := by
  induction h with
  | done => exact Nat.le_refl _
  | raise => exact Nat.le_refl _
  | yield => exact Nat.le_refl _
  | again _ _ ih => exact ih
  | rule _ ih => exact ih
  | «at» _ ih => exact ih
  | load _ _ ih => exact ih
  | update _ _ ih => exact ih
  | loadIfAlive _ ih => exact ih
  | point _ ih => exact ih
  | alloc _ ih => exact ih
  | fresh _ ih => exact Nat.le_trans (Nat.le_succ _) ih
  | ask _ ih => exact ih
  | choose _ _ ih => exact ih
  | os _ ih => exact ih
  | handled _ ih => exact ih
  | genState _ _ ih => exact ih
  | stack _ ih => exact ih
  | thread _ ih => exact ih
  | newGen _ ih => exact ih
  | call _ _ ih1 ih2 => exact Nat.le_trans ih1 ih2
  | callSusp _ ih => exact ih
  | resumeFresh _ _ _ _ ih1 ih2 => exact Nat.le_trans ih1 ih2
  | resumeSuspended _ _ _ _ ih1 ih2 => exact Nat.le_trans ih1 ih2
  | resumeJustStarted _ _ _ ih => exact ih
  | resumeThrowFresh _ _ ih => exact ih
  | resumeRunning _ _ ih => exact ih
  | resumeFinished _ _ ih => exact ih
  | segRet _ _ ih1 ih2 => exact Nat.le_trans ih1 ih2
  | segGen _ _ ih1 ih2 => exact Nat.le_trans ih1 ih2
  | segSuspOut _ _ ih => exact ih
  | segSuspGen _ _ _ _ ih1 ih2 => exact Nat.le_trans ih1 ih2
theorem wakes_toks {M : Model} {Γ : PySem.Ctx} {p : Pos} {g : Nat} {r : Resume} {s : Shared} {res : GenResult} {s' : Shared} (h : Wakes M Γ p g r s res s') : s.toks ≤ s'.toks := by
  unfold Wakes at h
  split at h
  · exact h.elim
  · split at h
    · obtain ⟨e₁, s₁, h, _, _, rfl⟩ := h; have q := runs_toks h; exact q
    · rw [h.2]; exact Nat.le_refl _
    · rw [h.2]; exact Nat.le_refl _
  · obtain ⟨e₁, s₁, h, _, _, rfl⟩ := h; have q := runs_toks h; exact q
  · rw [h.2]; exact Nat.le_refl _
  · rw [h.2]; exact Nat.le_refl _
theorem wp_toks (M : Model) (Γ : PySem.Ctx) (n : Nat) {α : Type} (t : Sem α) : ∀ (Q : α → Pos → Shared → Prop) (E : Value → Pos → Shared → Prop) (p : Pos) (s : Shared), n ≤ s.toks → Sem.wp M Γ t Q E p s →
    Sem.wp M Γ t (fun a p' s' => n ≤ s'.toks ∧ Q a p' s') (fun e p' s' => n ≤ s'.toks ∧ E e p' s') p s := by
  induction t with
  | pure a => intro Q E p s hn h; rw [Sem.wp] at h ⊢; exact ⟨hn, h⟩
  | raise e => intro Q E p s hn h; rw [Sem.wp] at h ⊢; exact ⟨hn, h⟩
  | unsupported _ => intro Q E p s hn h; rw [Sem.wp] at h; exact h.elim
  | finish _ => intro Q E p s hn h; rw [Sem.wp] at h; exact h.elim
  | rule _ k ih => intro Q E p s hn h; rw [Sem.wp] at h ⊢; exact ih _ _ _ _ _ hn h
  | «at» _ k ih => intro Q E p s hn h; rw [Sem.wp] at h ⊢; exact ih _ _ _ _ _ hn h
  | load a _ k ih => intro Q E p s hn h; rw [Sem.wp] at h ⊢; obtain ⟨o, ho, h⟩ := h; exact ⟨o, ho, ih _ _ _ _ _ hn h⟩
  | update a _ f k ih => intro Q E p s hn h; rw [Sem.wp] at h ⊢; exact ⟨h.1, ih _ _ _ _ _ hn h.2⟩
  | loadIfAlive a k ih => intro Q E p s hn h; rw [Sem.wp] at h ⊢; exact ih _ _ _ _ _ hn h
  | point _ k ih => intro Q E p s hn h; rw [Sem.wp] at h ⊢; exact ih _ _ _ _ _ hn h
  | register _ _ => intro Q E p s hn h; rw [Sem.wp] at h; exact h.elim
  | alloc o k ih => intro Q E p s hn h; rw [Sem.wp] at h ⊢; exact ih _ _ _ _ _ hn h
  | fresh k ih => intro Q E p s hn h; rw [Sem.wp] at h ⊢; exact ih _ _ _ _ _ (Nat.le_succ_of_le hn) h
  | ask k ih => intro Q E p s hn h; rw [Sem.wp] at h ⊢; exact ih _ _ _ _ _ hn h
  | choose src n k ih => intro Q E p s hn h; rw [Sem.wp] at h ⊢; exact ⟨h.1, ih _ _ _ _ _ hn h.2⟩
  | os q _ k ih => intro Q E p s hn h; rw [Sem.wp] at h ⊢; exact ih _ _ _ _ _ hn h
  | call c hd g l k ih =>
    intro Q E p s hn h
    rw [Sem.wp] at h ⊢
    obtain ⟨r, s', hr, h⟩ := h
    exact ⟨r, s', hr, ih _ _ _ _ _ (Nat.le_trans hn (runs_toks hr)) h⟩
  | handled own k ih => intro Q E p s hn h; rw [Sem.wp] at h ⊢; exact ih _ _ _ _ _ hn h
  | genState g k ih => intro Q E p s hn h; rw [Sem.wp] at h ⊢; obtain ⟨o, ho, h⟩ := h; exact ⟨o, ho, ih _ _ _ _ _ hn h⟩
  | newGen c k ih => intro Q E p s hn h; rw [Sem.wp] at h ⊢; exact ih _ _ _ _ _ hn h
  | resume g r _ k ih =>
    intro Q E p s hn h
    rw [Sem.wp] at h ⊢
    obtain ⟨res, s', hr, h⟩ := h
    exact ⟨res, s', hr, ih _ _ _ _ _ (Nat.le_trans hn (wakes_toks hr)) h⟩
  | yield _ _ _ _ => intro Q E p s hn h; rw [Sem.wp] at h; exact h.elim
  | stack k ih => intro Q E p s hn h; rw [Sem.wp] at h ⊢; exact ih _ _ _ _ _ hn h
  | fork _ _ => intro Q E p s hn h; rw [Sem.wp] at h; exact h.elim
  | thread k ih => intro Q E p s hn h; rw [Sem.wp] at h ⊢; exact ih _ _ _ _ _ hn h
  | await _ _ _ _ _ => intro Q E p s hn h; rw [Sem.wp] at h; exact h.elim
theorem wpAny_toks {M : Model} {A : Around} {α : Type} {t : Sem α} {Q : α → Shared → Prop} {E : Value → Shared → Prop} {s : Shared} {n : Nat} (hn : n ≤ s.toks)
    (h : wpAny M A t (fun a s' => n ≤ s'.toks → Q a s') (fun e s' => n ≤ s'.toks → E e s') s) : wpAny M A t Q E s := fun Γ p hΓ =>
  Sem.wp_mono M Γ t (fun _ _ _ x => x.2 x.1) (fun _ _ _ x => x.2 x.1) p s (wp_toks M Γ n t _ _ p s hn (h Γ p hΓ))
end
-- part Enum
section
section
variable {prog : Program} {w : World} {A : Around} {E : Value → Shared → Prop} {s : Shared}
/-- the next letter that enumerate tells, with its token -/
theorem enum_next_letter {e it : Addr} {x : Str} {t : Tok} {i c : Nat} {old : Value} {Q : Value → Shared → Prop}
    (he : IsEnum s.heap e it i old) (hit : s.heap.IsStrIter it "str_ascii_iterator" x t i) (hx : x.cps[i]? = some c) (hne : e ≠ it)
    (hQ : ∀ h', IsEnumOut h' e it ((i : Int) + 1) (.str ⟨#[c]⟩ s.toks) s.heap.objs.size → h'.IsStrIter it "str_ascii_iterator" x t (i + 1) →
      h'.get? s.heap.objs.size = some { cls := .type "tuple", data := .seq #[.int i (s.toks + 1), .str ⟨#[c]⟩ s.toks] } → h'.objs.size = s.heap.objs.size + 1 →
      (∀ b o, b ≠ e → b ≠ it → s.heap.get? b = some o → h'.get? b = some o) → Q (.ref s.heap.objs.size) { s with heap := h', toks := s.toks + 1 + 1 }) :
    wpAny (model prog w) A (Builtin.«enumerate.__next__» ⟨[.ref e], []⟩) (fun fin s' => ∃ v, fin = .done (.ret v) ∧ Q v s') E s := by
  obtain ⟨hp, g, d, tk, os⟩ := s
  show wpAny _ _ (field (.ref e) 2 >>= _) _ _ _
  refine wpAny_bind (wpAny_field he rfl (x := .ref it) rfl ?_)
  refine wpAny_bind (wpAny_nextOf_ascii_item hit hx fun h₁ hit₁ hs₁ => ?_)
  replace hs₁ : Heap.SameBut it hp h₁ := hs₁
  have he₁ : IsEnum h₁ e it i old := (hs₁.2 e hne).trans he
  show wpAny _ _ (field (.ref e) 3 >>= _) _ _ ⟨h₁, g, d, tk + 1, os⟩
  refine wpAny_bind (wpAny_field he₁ rfl (x := rawInt i) rfl ?_)
  show wpAny _ _ (field (.ref e) 4 >>= _) _ _ ⟨h₁, g, d, tk + 1, os⟩
  refine wpAny_bind (wpAny_field he₁ rfl (x := .none) rfl ?_)
  show wpAny _ _ (mkInt i >>= _) _ _ ⟨h₁, g, d, tk + 1, os⟩
  refine wpAny_bind (wpAny_mkInt ?_)
  show wpAny _ _ (setField (.ref e) 3 (rawInt ((i : Int) + 1)) >>= _) _ _ ⟨h₁, g, d, tk + 1 + 1, os⟩
  refine wpAny_bind (wpAny_setField_rec he₁ (by simp) fun h₂ he₂ hs₂ => ?_)
  replace hs₂ : Heap.SameBut e h₁ h₂ := hs₂
  replace he₂ : IsEnum h₂ e it ((i : Int) + 1) old := he₂
  show wpAny _ _ (setField (.ref e) 4 .none >>= _) _ _ ⟨h₂, g, d, tk + 1 + 1, os⟩
  refine wpAny_bind (wpAny_setField_rec he₂ (by simp) fun h₃ he₃ hs₃ => ?_)
  replace hs₃ : Heap.SameBut e h₂ h₃ := hs₃
  replace he₃ : IsEnum h₃ e it ((i : Int) + 1) old := he₃
  have keep3 : ∀ b o, b ≠ e → b ≠ it → hp.get? b = some o → h₃.get? b = some o := fun b o h1 h2 hb => hs₃.extBut b o h1 (hs₂.extBut b o h1 (hs₁.extBut b o h2 hb))
  have hit₃ : h₃.IsStrIter it "str_ascii_iterator" x t (i + 1) := by
    obtain ⟨o, ho, r⟩ := hit₁
    exact ⟨o, hs₃.extBut _ _ (Ne.symm hne) (hs₂.extBut _ _ (Ne.symm hne) ho), r⟩
  have hsz : h₃.objs.size = hp.objs.size := by rw [hs₃.1, hs₂.1, hs₁.1]
  have hel : e < hp.objs.size := Heap.lt_size he
  show wpAny _ _ (newTuple [.int i (tk + 1), .str ⟨#[c]⟩ tk] >>= _) _ _ ⟨h₃, g, d, tk + 1 + 1, os⟩
  refine wpAny_bind (wpAny_newTuple ?_)
  have he₄ : IsEnum (h₃.push { cls := .type "tuple", data := .seq #[.int i (tk + 1), .str ⟨#[c]⟩ tk] }) e it ((i : Int) + 1) old := Heap.get?_push_of_some _ he₃
  have up4 : ∀ b o, h₃.get? b = some o → (h₃.push { cls := .type "tuple", data := .seq #[.int i (tk + 1), .str ⟨#[c]⟩ tk] }).get? b = some o := fun b o hb => Heap.get?_push_of_some _ hb
  have ht₄ : (h₃.push { cls := .type "tuple", data := .seq #[.int i (tk + 1), .str ⟨#[c]⟩ tk] }).get? hp.objs.size = some { cls := .type "tuple", data := .seq #[.int i (tk + 1), .str ⟨#[c]⟩ tk] } := by rw [← hsz]; exact Heap.get?_push_size _ rfl
  have hz₄ : (h₃.push { cls := .type "tuple", data := .seq #[.int i (tk + 1), .str ⟨#[c]⟩ tk] }).objs.size = hp.objs.size + 1 := by rw [Heap.size_push, hsz]
  dsimp only
  rw [hsz]
  generalize h₃.push { cls := .type "tuple", data := .seq #[.int i (tk + 1), .str ⟨#[c]⟩ tk] } = h₄ at he₄ up4 ht₄ hz₄ ⊢
  show wpAny _ _ (Builtin.SmallTypes.ownedTupleIsFree (.ref e) >>= _) _ _ ⟨h₄, g, d, tk + 1 + 1, os⟩
  refine wpAny_bind ?_
  unfold Builtin.SmallTypes.ownedTupleIsFree
  refine wpAny_bind (wpAny_field he₄ rfl (x := .none) rfl (wpAny_pure ?_))
  simp only [if_true]
  refine wpAny_bind (wpAny_rule ?_)
  refine wpAny_bind (wpAny_field he₄ rfl (x := old) rfl ?_)
  refine wpAny_bind (wpAny_setField_rec he₄ (by simp) fun h₅ he₅ hs₅ => ?_)
  replace hs₅ : Heap.SameBut e h₄ h₅ := hs₅
  replace he₅ : IsEnum h₅ e it ((i : Int) + 1) (.str ⟨#[c]⟩ tk) := he₅
  show wpAny _ _ (Builtin.SmallTypes.ownedTupleHandOut (.ref e) (.ref hp.objs.size) >>= _) _ _ ⟨h₅, g, d, tk + 1 + 1, os⟩
  refine wpAny_bind ?_
  unfold Builtin.SmallTypes.ownedTupleHandOut
  refine wpAny_bind (wpAny_setField_rec he₅ (by simp) fun h₆ he₆ hs₆ => ?_)
  replace hs₆ : Heap.SameBut e h₅ h₆ := hs₆
  replace he₆ : IsEnumOut h₆ e it ((i : Int) + 1) (.str ⟨#[c]⟩ tk) hp.objs.size := he₆
  refine wpAny_setField_rec he₆ (by simp) fun h₇ he₇ hs₇ => ?_
  replace hs₇ : Heap.SameBut e h₆ h₇ := hs₇
  have kp : ∀ b o, b ≠ e → h₄.get? b = some o → h₇.get? b = some o := fun b o h1 hb => hs₇.extBut b o h1 (hs₆.extBut b o h1 (hs₅.extBut b o h1 hb))
  refine wpAny_bind (wpAny_letGo (wpAny_pure ⟨_, rfl, hQ h₇ he₇ ?_ ?_ ?_ ?_⟩))
  · obtain ⟨o, ho, r⟩ := hit₃; exact ⟨o, kp _ _ (Ne.symm hne) (up4 _ _ ho), r⟩
  · exact kp _ _ (Nat.ne_of_gt hel) ht₄
  · rw [hs₇.1, hs₆.1, hs₅.1, hz₄]
  · exact fun b o hbe hbi hb => kp _ _ hbe (up4 _ _ (keep3 b o hbe hbi hb))
theorem pyNext_letter {e it : Addr} {x : Str} {t : Tok} {i c : Nat} {old : Value} {Q : Option Value → Shared → Prop}
    (he : IsEnum s.heap e it i old) (hit : s.heap.IsStrIter it "str_ascii_iterator" x t i) (hx : x.cps[i]? = some c) (hne : e ≠ it)
    (hQ : ∀ h', IsEnumOut h' e it ((i : Int) + 1) (.str ⟨#[c]⟩ s.toks) s.heap.objs.size → h'.IsStrIter it "str_ascii_iterator" x t (i + 1) →
      h'.get? s.heap.objs.size = some { cls := .type "tuple", data := .seq #[.int i (s.toks + 1), .str ⟨#[c]⟩ s.toks] } → h'.objs.size = s.heap.objs.size + 1 →
      (∀ b o, b ≠ e → b ≠ it → s.heap.get? b = some o → h'.get? b = some o) → Q (some (.ref s.heap.objs.size)) { s with heap := h', toks := s.toks + 1 + 1 }) :
    wpAny (model prog w) A (pyNext (.ref e)) Q E s := by
  have hT : s.TypeIs (.ref e) "enumerate" := ⟨_, he, rfl⟩
  unfold pyNext
  exact wpAny_bind (wpAny_attempt (wpAny_callSpecial?_slot (name := Str.ofString "__next__") hT F.slot_enumerate_next
    (wpAny_call_entry F.slot_enumerate_next hT F.entry_enumerate_next
      (enum_next_letter he hit hx hne fun h' a b c d k => wpAny_pure (hQ h' a b c d k)) (F.args_enumerate_next_1 _))))
end
end
-- part Index
section
/-- as CTell, for a call with an argument whose token u is older than the state -/
def CTellT (w : World) (f : Addr) (vs : List Value) (u : Nat) (d : Nat) (news : List (Addr × Obj)) (Out : Value → List (Addr × Obj) → Prop) : Prop :=
  ∀ (p : Program) (loose : List Str) (mean : ExcName → Option Value) (mg mb : Str → Option Value) (dp un : Nat) (gd : Option (List Code)) (cn : Str) (cs : Scope) (a : Addr) (ccd : Value) (cl : List (Str × Addr)) (outer : List Env) (A₀ : Around) (base h₀ : Heap) (L : Addr) (m : Str → Option Value) (s : Shared) (Q E : Value → Shared → Prop),
    Below A₀ base outer h₀ → Fr h₀ L s.heap m → (Mine.hd.heap_39 w.params).In h₀ → News h₀ L s.heap news → Top p loose mean mg mb h₀ → cs.kind = .function → dp + d < recursionLimit → un + 8 * d < cLine → 0 < u → u < s.toks →
    (∀ r n' h' tk', Out r n' → Fr h₀ L h' m → News h₀ L h' n' → Q r { s with heap := h', toks := tk' }) →
    wpAny (model PySem.Challenge.rw_sw0019_01.row.prog w) (ktrTop dp un gd cn cs L a ccd cl outer) (call (.ref f) vs) Q E s
theorem none_booked_of {w : World} {p : Program} {loose : List Str} {mean : ExcName → Option Value} {mg mb : Str → Option Value} {h₀ : Heap} (X : (Mine.hd.heap_39 w.params).In h₀) (T : Top p loose mean mg mb h₀) : NoneBooked h₀ := by
  obtain ⟨mc, G, _⟩ := T.nolimit
  exact ⟨mc, G, ns_none_of X G (by rfl)⟩
theorem ltNI {a b : Nat} (h : a < b) : a < b := h
theorem new_of {h₀ h : Heap} {L b : Addr} {m : Str → Option Value} (F : Fr h₀ L h m) (hb : @LT.lt Nat instLTNat L b) : h₀.get? b = none := by
  cases e : h₀.get? b with
  | none => rfl
  | some o => exact absurd (Nat.lt_of_lt_of_le (Heap.lt_size e) F.above) (Nat.not_lt_of_gt hb)
theorem news_cons {h₀ h : Heap} {L a : Addr} {o : Obj} {l : List (Addr × Obj)} (h1 : h.get? a = some o) (h2 : a ≠ L) (h3 : h₀.get? a = none) (N : News h₀ L h l) : News h₀ L h ((a, o) :: l) := fun p hp => by
  rcases List.mem_cons.mp hp with rfl | hp
  · exact ⟨h1, h2, h3⟩
  · exact N p hp
local macro_rules | `(tactic| walk_at "compareOp Is str str") => `(tactic| ((rename Fr _ _ _ _ => fF); first | refine is_str_other (by assumption) (by omega) (by decide +kernel) ?_ | (refine is_str_any (by assumption) (by omega) (by (rename NoneBooked _ => hNB9); obtain ⟨mc, G, e⟩ := hNB9; exact ⟨mc, G.keeps fF.keep, e⟩) ?_; intro bb)))
theorem getL (k : Nat) (rest : List Nat) (i : Nat) (h : i ≤ k) : (S (dotL k ++ 97 :: rest)).cps[i]? = some (if i = k then 97 else 46) := by
  unfold S dotL
  rw [List.getElem?_toArray]
  rcases Nat.lt_or_ge i k with h1 | h1
  · rw [List.getElem?_append_left (by simpa using h1), if_neg (Nat.ne_of_lt h1)]
    rw [List.getElem?_replicate, if_pos h1]
  · have e : i = k := Nat.le_antisymm h h1
    subst e
    rw [List.getElem?_append_right (by simp), if_pos rfl]
    simp
section
variable {M : Model} {A : Around} {E : Value → Shared → Prop} {s : Shared}
/-- another text's token is another: not the same object -/
theorem is_str_other {y z : Str} {u v : Nat} {Q : Value → Shared → Prop} (hu : 0 < u) (hv : u < v) (hyz : y ≠ z) (h : Q (.bool false) s) : wpAny M A (compareOp .Is (.str y v) (.str z u)) Q E s := by
  have e := isSame_str_other y z v u (by rw [Bool.or_eq_false_iff]; exact ⟨beq_eq_false_iff_ne.mpr (Nat.ne_of_gt (Nat.lt_trans hu hv)), beq_eq_false_iff_ne.mpr (Nat.ne_of_gt hu)⟩) (beq_eq_false_iff_ne.mpr (Nat.ne_of_gt hv)) (beq_eq_false_iff_ne.mpr hyz)
  show wpAny M A (do let b ← isSame (.str y v) (.str z u); pure (Value.bool b)) _ _ _
  exact wpAny_bind (wpAny_of_eq e (wpAny_pure h))
theorem is_str_any {y z : Str} {u v : Nat} {Q : Value → Shared → Prop} (hu : 0 < u) (hv : u < v) (hb : NoneBooked s.heap) (h : ∀ b, Q (.bool b) s) : wpAny M A (compareOp .Is (.str y v) (.str z u)) Q E s := by
  show wpAny M A (do let b ← isSame (.str y v) (.str z u); pure (Value.bool b)) _ _ _
  exact wpAny_bind (wpAny_isSame_str (by rw [Bool.or_eq_false_iff]; exact ⟨beq_eq_false_iff_ne.mpr (Nat.ne_of_gt (Nat.lt_trans hu hv)), beq_eq_false_iff_ne.mpr (Nat.ne_of_gt hu)⟩) hb fun b => wpAny_pure (h b))
end
def IdxJ (k : Nat) (e it : Addr) (x : Str) (t u : Tok) (g : Heap) (L : Addr) (news : List (Addr × Obj)) (s : Shared) (n : Nat) (s' : Shared) : Prop :=
  ∃ (i : Nat) (h' : Heap) (tk : Nat) (m' : Str → Option Value) (old : Value), s' = { heap := h', gens := s.gens, drawn := s.drawn, toks := tk, os := s.os } ∧ i ≤ k ∧ n = k + 1 - i ∧ @LT.lt Nat instLTNat u tk ∧ IsEnum h' e it i old ∧
    h'.IsStrIter it "str_ascii_iterator" x t i ∧ Fr g L h' m' ∧ News g L h' news ∧ (m' "b" = some (.str (S [97]) u)) ∧ (m' "a" = some (.str x t)) ∧ (∀ y : Str, y ≠ "b" → y ≠ "a" → y ≠ "i" → y ≠ "j" → m' y = (fun (_ : Str) => none) y)
local macro_rules | `(tactic| walk_at "compareOp Eq str str") => `(tactic| ((with_reducible rename Hold True => hS9); refine Hold.out ?_))
theorem indexOf_c {w : World} {news : List (Addr × Obj)} (k : Nat) (rest : List Nat) (t u : Tok) (hasc : (S (dotL k ++ 97 :: rest)).cps.all (· < 128) = true) :
  CTellT w 117 [.str (S (dotL k ++ 97 :: rest)) t, .str (S [97]) u] u 20 news (fun r n' => (∃ t, r = .int (k : Int) t) ∧ n' = news) := by
  unfold CTellT
  k_fill
  intro p loose mean mg mb dp un gd cn cs a ccd cl outer A₀ base h₀ L m s Q E B F X N T hk hd hu hu0 hut ret
  refine wpAny_call ?_
  k_dflt ktr_enter
  clear B F X N T hk
  rename Fr _ _ _ _ => F1
  replace F1 := fr_as F1 (m' := fun y => if y = "b" then some (.str (S [97]) u) else if y = "a" then some (.str (S (dotL k ++ 97 :: rest)) t) else none) (fun y => (lk_eq _ y).trans (by with_unfolding_all rfl))
  rename Frag.In _ _ => XX
  rename Top _ _ _ _ _ _ => TX
  have hNB := none_booked_of XX TX
  have hS : Hold True := trivial
  k_steps
  refine (Hold.mk ?_ : Hold _)
  refine wpAny_For ?_
  k_steps
  refine (Hold.mk ?_ : Hold _)
  rename Fr _ _ _ _ => F1
  rename News _ _ _ _ => N1
  have hltN := fun p hp => ltNI (Heap.lt_size (N1 p hp).1)
  have hLlt := ltNI F1.ns.lt
  refine call_enumerate_str fun h1 hE hI hsz hk => ?_
  refine wpAny_pyIter_enum hE ?_
  have hty : strIterType (S (dotL k ++ 97 :: rest)) = "str_ascii_iterator" := by unfold strIterType; rw [if_pos hasc]
  rw [hty] at hI
  dsimp only
  replace F1 := F1.keeps hk
  replace N1 := N1.grown hk
  rename_i gX LX hX FGX BX TX2
  refine codeAny_forLoop_any (IdxJ k (hX.objs.size + 1) hX.objs.size (S (dotL k ++ 97 :: rest)) t u gX LX news s) ?_ (k + 1) ?_
  · rintro n s' ⟨i, h', tk, m', old, rfl, hik, rfl, hut', hE, hI, F, N, hm⟩
    refine pyNext_letter hE hI (getL k rest i hik) (Nat.succ_ne_self _) fun h2 hO hI2 hT hsz2 hk2 => ?_
    dsimp only
    refine wpAny_letOwnedTupleGo_enum hO fun h3 he3 hs3 => ?_
    replace hs3 : Heap.SameBut (hX.objs.size + 1) h2 h3 := hs3
    replace hk2 : ∀ b o, b ≠ hX.objs.size + 1 → b ≠ hX.objs.size → h'.get? b = some o → h2.get? b = some o := hk2
    replace hT : h2.get? h'.objs.size = some { cls := .type "tuple", data := .seq #[.int i (tk + 1), .str ⟨#[if i = k then 97 else 46]⟩ tk] } := hT
    have hk3 : ∀ b o, b ≠ hX.objs.size + 1 → b ≠ hX.objs.size → h'.get? b = some o → h3.get? b = some o := fun b o q1 q2 e => hs3.extBut b o q1 (hk2 b o q1 q2 e)
    have hE' := ltNI (Heap.lt_size hE)
    have hT3 : h3.get? h'.objs.size = some { cls := .type "tuple", data := .seq #[.int i (tk + 1), .str ⟨#[if i = k then 97 else 46]⟩ tk] } := hs3.extBut _ _ (Nat.ne_of_gt hE') hT
    obtain ⟨oI, hoI, hcI, hdI⟩ := hI2
    have hoI3 := hs3.extBut _ _ (Nat.ne_of_lt (Nat.lt_succ_self hX.objs.size)) hoI
    have F3 : Fr gX LX h3 m' := ⟨F.ns.at' fun o e => hk3 _ o (Nat.ne_of_lt (Nat.lt_succ_of_lt hLlt)) (Nat.ne_of_lt hLlt) e,
      fun b o e => hk3 b o (Nat.ne_of_lt (Nat.lt_succ_of_lt (Nat.lt_trans (Nat.lt_of_lt_of_le (Heap.lt_size e) F.above) hLlt))) (Nat.ne_of_lt (Nat.lt_trans (Nat.lt_of_lt_of_le (Heap.lt_size e) F.above) hLlt)) (F.keep b o e), F.above⟩
    have N3 : News gX LX h3 ((hX.objs.size + 1, _) :: (hX.objs.size, oI) :: (h'.objs.size, _) :: news) :=
      news_cons he3 (Nat.ne_of_gt (Nat.lt_succ_of_lt hLlt)) (new_of F (Nat.lt_succ_of_lt hLlt)) (news_cons hoI3 (Nat.ne_of_gt hLlt) (new_of F hLlt)
        (news_cons hT3 (Nat.ne_of_gt (Nat.lt_trans (Nat.lt_succ_of_lt hLlt) hE')) (new_of F (Nat.lt_trans (Nat.lt_succ_of_lt hLlt) hE')) fun p hp => ⟨hk3 _ _ (Nat.ne_of_lt (Nat.lt_succ_of_lt (hltN p hp))) (Nat.ne_of_lt (hltN p hp)) (N p hp).1, (N p hp).2⟩))
    have hTup : IsTup h3 h'.objs.size #[.int i (tk + 1), .str ⟨#[if i = k then 97 else 46]⟩ tk] := ⟨_, hT3, rfl, _, rfl⟩
    obtain ⟨e_b, e_a, e_rest⟩ := hm; replace F3 := fr_as F3 (m' := fun (y : Str) => if y = "b" then some (.str (S [97]) u) else if y = "a" then some (.str (S (dotL k ++ 97 :: rest)) t) else if y = "i" then m' "i" else if y = "j" then m' "j" else (fun (_ : Str) => none) y) (by intro y; (by_cases q0 : y = "b"); (subst q0; rw [if_pos rfl]; exact e_b); rw [if_neg q0]; (by_cases q1 : y = "a"); (subst q1; rw [if_pos rfl]; exact e_a); rw [if_neg q1]; (by_cases q2 : y = "i"); (subst q2; rw [if_pos rfl]); rw [if_neg q2]; (by_cases q3 : y = "j"); (subst q3; rw [if_pos rfl]); rw [if_neg q3]; exact e_rest y q0 q1 q2 q3)
    clear F N hE hO hT hoI hk2 hsz2 hs3 he3 hk3 hoI3 hT3
    by_cases hc : i = k
    · rw [if_pos hc] at hTup N3
      subst hc
      k_steps
      rename Fr _ _ _ _ => F4
      refine is_str_any hu0 hut' (by obtain ⟨mc, G, e⟩ := hNB; exact ⟨mc, G.keeps F4.keep, e⟩) fun bb => ?_
      cases bb
      · k_steps
        refine (Hold.mk ?_ : Hold _)
        (rename Hold True => hS8); clear hS8
        k_steps
        rename News _ _ _ _ => N5
        replace N5 := news_sub N5 (fun p hp => List.mem_cons_of_mem _ (List.mem_cons_of_mem _ (List.mem_cons_of_mem _ hp)))
        exact leaveK_ (by assumption) (by assumption) fun F9 N9 => ret _ _ _ _ ⟨⟨_, rfl⟩, rfl⟩ F9 N9
      · k_steps
        rename News _ _ _ _ => N5
        replace N5 := news_sub N5 (fun p hp => List.mem_cons_of_mem _ (List.mem_cons_of_mem _ (List.mem_cons_of_mem _ hp)))
        exact leaveK_ (by assumption) (by assumption) fun F9 N9 => ret _ _ _ _ ⟨⟨_, rfl⟩, rfl⟩ F9 N9
    · rw [if_neg hc] at hTup N3
      have hut3 : u + 1 ≤ tk + 1 + 1 := Nat.le_succ_of_le (Nat.le_succ_of_le hut')
      refine wpAny_toks (n := u + 1) hut3 ?_
      walk1
      walk1
      walk1
      walk1
      walk1
      walk1
      walk1
      walk1
      refine wpAny_pure ?_
      intro hut4
      refine wpAny_toks (n := u + 1) hut4 ?_
      k_steps
      refine is_str_other hu0 hut' (by decide +kernel) ?_
      k_steps
      refine (Hold.mk ?_ : Hold _)
      (rename Hold True => hS8); clear hS8 hut4
      k_steps
      rotate_right
      · exact k + 1 - (i + 1)
      · omega
      · rename Fr _ _ _ _ => F5
        rename News _ _ _ _ => N5
        refine ⟨i + 1, _, _, _, _, rfl, by omega, rfl, ?_, (N5 _ List.mem_cons_self).1, ⟨oI, (N5 _ (List.mem_cons_of_mem _ List.mem_cons_self)).1, hcI, hdI⟩, F5, news_sub N5 (fun p hp => List.mem_cons_of_mem _ (List.mem_cons_of_mem _ (List.mem_cons_of_mem _ hp))), ⟨(by with_unfolding_all rfl), (by with_unfolding_all rfl), (by intro y q0 q1 q2 q3; simp only [q0, q1, q2, q3, if_false])⟩⟩
        rename u + 1 ≤ _ => hut9
        exact hut9
  · refine ⟨0, h1, _, _, .none, rfl, Nat.zero_le _, rfl, Nat.lt_of_lt_of_le hut (Nat.le_add_right _ _), hE, hI, F1, N1, ⟨(by with_unfolding_all rfl), (by with_unfolding_all rfl), (by intro y q0 q1 q2 q3; simp only [q0, q1, q2, q3, if_false])⟩⟩
end
-- part TLoop
section
section
variable {prog : Program} {w : World} {A : Around} {E : Value → Shared → Prop} {s : Shared} {env : Env} {h₀ : Heap} {x : Str} {body : List Stmt} {Q : Flow → Shared → Prop}
/-- what the rule below asks of the list that is walked -/
def ListSrcT (prog : Program) (w : World) (A : Around) (E : Value → Shared → Prop) (env : Env) (h₀ : Heap) (x : Str) (body : List Stmt) (Q : Flow → Shared → Prop) (n0 : Nat) (xv : Value) (s₁ : Shared) : Prop :=
  ∃ (l : Addr) (o : Obj) (vs : List Value) (k : Nat) (m₀ : Str → Option Value) (news : List (Addr × Obj)) (J : Nat → (Str → Option Value) → List (Addr × Obj) → Prop),
    o = W.listOf vs.toArray k ∧ xv = .ref l ∧ n0 ≤ s₁.toks ∧ (l, o) ∈ news ∧ Fr h₀ env.locals s₁.heap m₀ ∧ News h₀ env.locals s₁.heap news ∧ J 0 m₀ news ∧
      (∀ i v m₁ nx h tk I oI, n0 ≤ tk → vs[i]? = some v → (l, o) ∈ nx → (∀ p ∈ nx, p.1 ≠ I) → J i m₁ nx → Fr h₀ env.locals h (fun y => if y = x then some v else m₁ y) → News h₀ env.locals h ((I, oI) :: nx) →
        wpAny (model prog w) A (execs body env) (TPost h₀ env.locals (I, oI) [(l, o)] (J (i + 1)) { s₁ with heap := h, toks := tk } Q) E { s₁ with heap := h, toks := tk }) ∧
      (∀ m₁ nx h tk, n0 ≤ tk → (l, o) ∈ nx → J vs.length m₁ nx → Fr h₀ env.locals h m₁ → News h₀ env.locals h nx → Q .next { s₁ with heap := h, toks := tk })
/-- a list walked by a for, the tokens' lower bound told to each turn -/
theorem For_list_t {iter : PySem.Expr} {px pos : Pos} {m₀ : Str → Option Value} (n0 : Nat) (_F₀ : Fr h₀ env.locals s.heap m₀)
    (hh : A.handled = none) (hx : env.kindOf x = some .local)
    (hp : (env.scope.kind == .class || (env.scope.kind == .module && env.locals != env.globals)) = false)
    (h : wpAny (model prog w) A (eval iter env) (ListSrcT prog w A E env h₀ x body Q n0) E s)
    (hs : ∀ x, foldedSetIterable iter env x = pure x := by intro _; rfl)
    (hE : PassesOwn (model prog w) A env E := by passes_own) :
    wpAny (model prog w) A (exec (.For (.Name x px) iter body [] pos) env) Q E s := by
  refine wpAny_For (wpAny_mono h (fun xv s₁ h₁ => ?_) fun _ _ e => e) hs
  obtain ⟨l, o, vs, k, m₀, news, J, ho, rfl, hn0, hl, F, N, hj, turn, done⟩ := h₁
  have hol : s₁.heap.get? l = some o := (N _ hl).1
  have hls : s₁.heap.IsList l vs.toArray := ⟨_, hol, by rw [ho], k, by rw [ho]⟩
  have hne : l ≠ s₁.heap.objs.size := Nat.ne_of_lt (Heap.lt_size hol)
  have hLI : env.locals ≠ s₁.heap.objs.size := Nat.ne_of_lt F.ns.lt
  have hI0 : h₀.get? s₁.heap.objs.size = none := next_is_new F
  have hLl : env.locals ≠ l := fun e => (N _ hl).2.1 e.symm
  refine wpAny_pyIter_list hls ?_
  have W := Walks.list (prog := prog) (w := w) hh s₁.heap.objs.size l hne vs.toArray
  rw [List.size_toArray] at W
  have hLw : env.locals ∉ [s₁.heap.objs.size, l] := fun hm => by
    rcases List.mem_cons.mp hm with e | hm
    · exact hLI e
    · exact hLl (List.mem_singleton.mp hm)
  refine codeAny_forLoop_any (fun n s' => ∃ (i : Nat) (h' : Heap) (tk : Nat) (m' : Str → Option Value) (nx : List (Addr × Obj)), s' = { s₁ with heap := h', toks := tk } ∧ n0 ≤ tk ∧ i ≤ vs.length ∧ n = vs.length + 1 - i ∧
      (h'.IsListIter s₁.heap.objs.size l i ∧ h'.IsList l vs.toArray) ∧ (l, o) ∈ nx ∧ (∀ p ∈ nx, p.1 ≠ s₁.heap.objs.size) ∧ J i m' nx ∧ Fr h₀ env.locals h' m' ∧ News h₀ env.locals h' nx) ?_ (vs.length + 1)
    ⟨0, _, _, m₀, news, rfl, hn0, Nat.zero_le _, rfl, ⟨⟨_, Heap.get?_push_size _ rfl, rfl, rfl⟩, hls.at fun o e => Heap.get?_push_of_some _ e⟩, hl, fun p hp => Nat.ne_of_lt (Heap.lt_size (N p hp).1), hj, F.push _, fun p hp => ⟨Heap.get?_push_of_some _ (N p hp).1, (N p hp).2⟩⟩
  rintro n s' ⟨i, h', tk, m', nx, rfl, htk, hi, rfl, hst, hlx, hnI, hJ, F', N'⟩
  have next : ∀ h₁ : Heap, (∀ b o, b ∉ [s₁.heap.objs.size] → h'.get? b = some o → h₁.get? b = some o) → Fr h₀ env.locals h₁ m' ∧ News h₀ env.locals h₁ nx := fun h₁ hk₁ =>
    ⟨⟨F'.ns.at' fun o e => hk₁ _ o (fun hm => hLI (List.mem_singleton.mp hm)) e, fun b o e => hk₁ b o (fun hm => by rw [List.mem_singleton.mp hm, hI0] at e; cases e) (F'.keep b o e), F'.above⟩,
      fun p hp => ⟨hk₁ _ _ (fun hm => hnI p hp (List.mem_singleton.mp hm)) (N' p hp).1, (N' p hp).2⟩⟩
  refine wpAny_toks (n := n0) htk ?_
  by_cases hlt : i < vs.length
  · refine W.item i _ _ _ hlt hst fun v h₁ tk₁ hP hst₁ hk₁ => ?_
    intro htk₁
    obtain ⟨F₁, N₁⟩ := next h₁ hk₁
    refine wpAny_pure (a := ()) ?_
    refine wpAny_assign_Name (wpAny_storeName_local hx F₁.ns (fun h₂ hn₂ hs₂ => ?_) hp)
    have F₂ := F₁.set hn₂ hs₂
    have N₂ := N₁.set hs₂
    have hst₂ := W.frame _ _ h₂ hst₁ fun b hb o e => (hs₂.2 b fun q => hLw (q ▸ hb)).trans e
    obtain ⟨⟨oI, hoI, hcI, hdI⟩, _⟩ := hst₂
    have NI : News h₀ env.locals h₂ ((s₁.heap.objs.size, oI) :: nx) := fun p hp => by
      rcases List.mem_cons.mp hp with rfl | hp
      · exact ⟨hoI, Ne.symm hLI, hI0⟩
      · exact N₂ p hp
    have htk₂ : n0 ≤ tk₁ + 1 := Nat.le_succ_of_le htk₁
    have body := wpAny_toks (n := n0) htk₂ (wpAny_mono (turn i v m' nx h₂ (tk₁ + 1) _ oI htk₂ (by simpa using hP) hlx hnI hJ F₂ NI) (fun f s₃ q (_ : n0 ≤ s₃.toks) => (⟨‹_›, q⟩ : n0 ≤ s₃.toks ∧ _)) fun _ _ e _ => e)
    refine wpAny_passesOwn hE (wpAny_mono body (fun f s₃ q => ?_) fun _ _ e => e)
    obtain ⟨q0, q⟩ := q
    have fin : TEnd h₀ env.locals (s₁.heap.objs.size, oI) [(l, o)] (J (i + 1)) { s₁ with heap := h₂, toks := tk₁ + 1 } s₃ → ∃ m, m < vs.length + 1 - i ∧ ∃ (i : Nat) (h' : Heap) (tk : Nat) (m' : Str → Option Value) (nx : List (Addr × Obj)), s₃ = { s₁ with heap := h', toks := tk } ∧ n0 ≤ tk ∧ i ≤ vs.length ∧ m = vs.length + 1 - i ∧
        (h'.IsListIter s₁.heap.objs.size l i ∧ h'.IsList l vs.toArray) ∧ (l, o) ∈ nx ∧ (∀ p ∈ nx, p.1 ≠ s₁.heap.objs.size) ∧ J i m' nx ∧ Fr h₀ env.locals h' m' ∧ News h₀ env.locals h' nx := by
      rintro ⟨h3, tk3, m3, nx3, rfl, F3, N3, hne3, hk3, hj3⟩
      have hl3 := hk3 _ (List.mem_singleton.mpr rfl)
      exact ⟨vs.length + 1 - (i + 1), by omega, i + 1, h3, tk3, m3, nx3, rfl, q0, hlt, rfl, ⟨⟨oI, (N3 _ List.mem_cons_self).1, hcI, hdI⟩, ⟨o, (N3 _ (List.mem_cons_of_mem _ hl3)).1, by rw [ho], k, by rw [ho]⟩⟩, hl3, hne3, hj3, F3, fun p hp => N3 p (List.mem_cons_of_mem _ hp)⟩
    cases f with
    | ret v => exact q
    | brk => exact q
    | next => exact fin q
    | cont => exact fin q
  · have e : i = vs.length := by omega
    subst e
    refine W.done _ _ _ hst fun h₁ tk₁ hk₁ => ?_
    intro htk₁
    obtain ⟨F₁, N₁⟩ := next h₁ hk₁
    exact wpAny_execs_nil (done m' nx h₁ tk₁ htk₁ hlx hJ F₁ N₁)
end
end
-- part TUse
section
section
variable {w : World} {f : Addr} {vs : List Value} {d u n : Nat} {news : List (Addr × Obj)} {Out : Value → List (Addr × Obj) → Prop} {p : Program} {loose : List Str} {mean : ExcName → Option Value} {mg mb : Str → Option Value} {dp un : Nat} {gd : Option (List Code)} {cn : Str} {cs : Scope} {a : Addr} {ccd : Value} {cl : List (Str × Addr)} {outer : List Env} {A₀ : Around} {base h₀ : Heap} {L : Addr} {m : Str → Option Value} {s : Shared} {Q E : Value → Shared → Prop}
theorem ctell_use_t (C : CTell w f vs d news Out) (hn : n ≤ s.toks) (B : Below A₀ base outer h₀) (F : Fr h₀ L s.heap m) (X : (Mine.hd.heap_39 w.params).In h₀) (N : News h₀ L s.heap news) (T : Top p loose mean mg mb h₀) (hk : cs.kind = .function) (hd : dp + d < recursionLimit) (hu : un + 8 * d < cLine)
    (ret : ∀ r n' h' tk', n ≤ tk' → Out r n' → Fr h₀ L h' m → News h₀ L h' n' → Q r { s with heap := h', toks := tk' }) :
    wpAny (model PySem.Challenge.rw_sw0019_01.row.prog w) (ktrTop dp un gd cn cs L a ccd cl outer) (call (.ref f) vs) Q E s :=
  wpAny_toks hn (C _ _ _ _ _ _ _ _ _ _ _ _ _ _ _ _ _ _ _ _ _ _ B F X N T hk hd hu fun r n' h' tk' o F' N' q => ret r n' h' tk' q o F' N')
theorem ctellT_use_t (C : CTellT w f vs u d news Out) (hn : n ≤ s.toks) (hu0 : 0 < u) (hut : u < s.toks) (B : Below A₀ base outer h₀) (F : Fr h₀ L s.heap m) (X : (Mine.hd.heap_39 w.params).In h₀) (N : News h₀ L s.heap news) (T : Top p loose mean mg mb h₀) (hk : cs.kind = .function) (hd : dp + d < recursionLimit) (hu : un + 8 * d < cLine)
    (ret : ∀ r n' h' tk', n ≤ tk' → Out r n' → Fr h₀ L h' m → News h₀ L h' n' → Q r { s with heap := h', toks := tk' }) :
    wpAny (model PySem.Challenge.rw_sw0019_01.row.prog w) (ktrTop dp un gd cn cs L a ccd cl outer) (call (.ref f) vs) Q E s :=
  wpAny_toks hn (C _ _ _ _ _ _ _ _ _ _ _ _ _ _ _ _ _ _ _ _ _ _ B F X N T hk hd hu hu0 hut fun r n' h' tk' o F' N' q => ret r n' h' tk' q o F' N')
end
end
-- part Keep
section
theorem ints4 {ws : List Value} {a b c d : Int} (h : IntsAre ws [a, b, c, d]) : ∃ t0 t1 t2 t3, ws = [.int a t0, .int b t1, .int c t2, .int d t3] := by
  cases h with | cons _ t0 h => cases h with | cons _ t1 h => cases h with | cons _ t2 h => cases h with | cons _ t3 h => cases h with | nil => exact ⟨t0, t1, t2, t3, rfl⟩
theorem list8 {l : List Int} (h : l.length = 8) : ∃ a b c d e f g i, l = [a, b, c, d, e, f, g, i] := by
  rcases l with _ | ⟨a, _ | ⟨b, _ | ⟨c, _ | ⟨d, _ | ⟨e, _ | ⟨f, _ | ⟨g, _ | ⟨i, _ | ⟨j, l⟩⟩⟩⟩⟩⟩⟩⟩⟩ <;> simp at h
  exact ⟨_, _, _, _, _, _, _, _, rfl⟩
def leadOf (sd : Nat) (n : Int) : Int := if 0 < n.fmod 4 then n.fmod 4 + (sd : Int) else 0
def countsOf (ls : List Int) : List Int := ls.foldl ins []
def TupAt (more : List (Addr × Obj)) (t : Value) (a b : List Int) : Prop :=
  ∃ (T Wd Ld : Addr) (wv lv : List Value) (we le n : Nat), t = .ref T ∧ (T, { cls := Value.type "tuple", data := Data.seq #[Value.ref Wd, Value.ref Ld] n }) ∈ more ∧
    (Wd, W.listOf wv.toArray we) ∈ more ∧ IntsAre wv a ∧ (Ld, W.listOf lv.toArray le) ∈ more ∧ IntsAre lv b
theorem TupAt.mono {more more' : List (Addr × Obj)} {t : Value} {a b : List Int} (h : TupAt more t a b) (hs : ∀ p ∈ more, p ∈ more') : TupAt more' t a b := by
  obtain ⟨T, Wd, Ld, wv, lv, we, le, n, h1, h2, h5, h6, h7, h8⟩ := h
  exact ⟨T, Wd, Ld, wv, lv, we, le, n, h1, hs _ h2, hs _ h5, h6, hs _ h7, h8⟩
def waysOf (sd : Nat) (p : List Int) : List Int := countedOf (p.map (leadOf sd))
def placesOf (sd : Nat) (p : List Int) : List Int := lessUp (countsOf (p.map (leadOf sd))) 4
theorem led7 {h₀ h : Heap} {L : Addr} {a1 a2 a3 a4 a5 a6 a7 : Addr} {o1 o2 o3 o4 o5 o6 o7 : Obj} (N : News h₀ L h [(a1, o1), (a2, o2), (a3, o3), (a4, o4), (a5, o5), (a6, o6), (a7, o7)]) :
    ∃ b1 b2 b3 b4 x7, b1 = a1 ∧ b2 = a2 ∧ b3 = a3 ∧ b4 = a4 ∧ x7 = o7 ∧ News h₀ L h [(b4, o4), (b1, o1), (b2, o2), (b3, o3), (a7, x7)] :=
  ⟨a1, a2, a3, a4, o7, rfl, rfl, rfl, rfl, rfl, fun p hp => N p (by simp only [List.mem_cons] at hp ⊢; rcases hp with h | h | h | h | h | h <;> simp_all)⟩
theorem led_as {h₀ h : Heap} {L : Addr} {nx : List (Addr × Obj)} (N : News h₀ L h nx) : ∃ nx', nx' = nx ∧ News h₀ L h nx' := ⟨_, rfl, N⟩
/-- the mail, sent j times -/
def sentI (l : List Int) : Nat → List Nat
  | 0 => mailL l l.length
  | j + 1 => quotedL (sentI l j)
theorem tup2 {tups : List Value} {a b : Value} (h : tups.length = 2) (e0 : tups.getD 0 .none = a) (e1 : tups.getD 1 .none = b) : tups = [a, b] := by
  match tups, h with
  | [x, y], _ => rw [show x = a from e0, show y = b from e1]
end
-- part Quo
section
/-- rows as they stand in what is sent: dots, an a, dots, both signs -/
def rowN (p : Nat × Nat) : List Nat := dotL p.1 ++ 97 :: (dotL p.2 ++ [13, 10])
def rowsN : List (Nat × Nat) → List Nat
  | [] => []
  | p :: r => rowN p ++ rowsN r
def upN (p : Nat × Nat) : Nat × Nat := (if p.1 = 0 then 0 else p.1 + 1, p.2)
theorem crlf_dots (r : List Nat) : ∀ k, crlfL (dotL k ++ r) = dotL k ++ crlfL r
  | 0 => rfl
  | k + 1 => by
    show crlfL (46 :: (dotL k ++ r)) = 46 :: (dotL k ++ crlfL r)
    rw [crlfL_plain (by decide) (by decide), crlf_dots r k]
theorem crlf_end {q : Int} {rest : List Nat} (h : rest.getD 0 0 ≠ 10) : crlfL (endL q ++ rest) = 13 :: 10 :: crlfL rest := by
  unfold endL
  split
  · rw [List.cons_append, List.nil_append, crlfL]
  · split
    · rw [List.cons_append, List.nil_append, crlfL_13 h]
    · rw [List.cons_append, List.cons_append, List.nil_append, crlfL]
theorem crlf_row (n : Int) {rest : List Nat} (h : rest.getD 0 0 ≠ 10) : crlfL (rowL n ++ rest) = rowN ((n.fmod 4).toNat, ((n.fdiv 4).fmod 3).toNat) ++ crlfL rest := by
  unfold rowL rowN
  simp only [List.append_assoc, List.cons_append, List.nil_append]
  rw [crlf_dots, crlfL_plain (by decide) (by decide), crlf_dots, crlf_end h]
theorem crlf_rowN (p : Nat × Nat) (rest : List Nat) : crlfL (rowN p ++ rest) = rowN p ++ crlfL rest := by
  unfold rowN
  simp only [List.append_assoc, List.cons_append, List.nil_append]
  rw [crlf_dots, crlfL_plain (by decide) (by decide), crlf_dots, crlfL]
theorem crlf_rowsN : ∀ l, crlfL (rowsN l) = rowsN l
  | [] => rfl
  | p :: r => by rw [rowsN, crlf_rowN, crlf_rowsN r]
theorem rowL_head (n : Int) (r : List Nat) : (rowL n ++ r).getD 0 0 ≠ 10 := by
  unfold rowL dotL
  cases (n.fmod 4).toNat with
  | zero => simp
  | succ k => simp [List.replicate_succ]
theorem crlf_mail (a0 a1 a2 a3 : Int) : crlfL (mailL [a0, a1, a2, a3] 4) = rowsN [((a0.fmod 4).toNat, ((a0.fdiv 4).fmod 3).toNat), ((a1.fmod 4).toNat, ((a1.fdiv 4).fmod 3).toNat), ((a2.fmod 4).toNat, ((a2.fdiv 4).fmod 3).toNat), ((a3.fmod 4).toNat, ((a3.fdiv 4).fmod 3).toNat)] := by
  have e : mailL [a0, a1, a2, a3] 4 = rowL a0 ++ (rowL a1 ++ (rowL a2 ++ (rowL a3 ++ []))) := by
    show ((([] ++ rowL a0) ++ rowL a1) ++ rowL a2) ++ rowL a3 = _
    simp only [List.append_assoc, List.nil_append, List.append_nil]
  rw [e, crlf_row _ (rowL_head _ _), crlf_row _ (rowL_head _ _), crlf_row _ (rowL_head _ _), crlf_row _ (by decide)]
  rfl
theorem stuff_dots (r : List Nat) : ∀ k, stuffL false (dotL k ++ r) = dotL k ++ stuffL false r
  | 0 => rfl
  | k + 1 => by
    show stuffL false (46 :: (dotL k ++ r)) = 46 :: (dotL k ++ stuffL false r)
    rw [stuffL, if_neg (by simp)]
    show 46 :: stuffL false (dotL k ++ r) = _
    rw [stuff_dots r k]
theorem stuff_rowN (p : Nat × Nat) (rest : List Nat) : stuffL true (rowN p ++ rest) = rowN (upN p) ++ stuffL true rest := by
  obtain ⟨d, q⟩ := p
  have tail : stuffL false (97 :: (dotL q ++ 13 :: 10 :: rest)) = 97 :: (dotL q ++ 13 :: 10 :: stuffL true rest) := by
    rw [stuffL, if_neg (by simp)]
    show 97 :: stuffL false (dotL q ++ 13 :: 10 :: rest) = _
    rw [stuff_dots, stuffL, if_neg (by simp)]
    show 97 :: (dotL q ++ 13 :: stuffL false (10 :: rest)) = _
    rw [stuffL, if_neg (by simp)]
    rfl
  unfold rowN upN
  simp only [List.append_assoc, List.cons_append, List.nil_append]
  cases d with
  | zero =>
    show stuffL true (97 :: (dotL q ++ 13 :: 10 :: rest)) = 97 :: (dotL q ++ 13 :: 10 :: stuffL true rest)
    rw [← tail, stuffL, stuffL, if_neg (by simp), if_neg (by simp)]
  | succ k =>
    rw [if_neg (Nat.succ_ne_zero k)]
    show stuffL true (46 :: (dotL k ++ 97 :: (dotL q ++ 13 :: 10 :: rest))) = 46 :: 46 :: (dotL k ++ 97 :: (dotL q ++ 13 :: 10 :: stuffL true rest))
    rw [stuffL, if_pos ⟨rfl, rfl⟩]
    show 46 :: 46 :: stuffL false (dotL k ++ 97 :: (dotL q ++ 13 :: 10 :: rest)) = _
    rw [stuff_dots, tail]
theorem stuff_rowsN : ∀ l, stuffL true (rowsN l) = rowsN (l.map upN)
  | [] => rfl
  | p :: r => by rw [rowsN, stuff_rowN, stuff_rowsN r]; rfl
theorem quoted_rowsN (l : List (Nat × Nat)) : quotedL (rowsN l) = rowsN (l.map upN) := by rw [quotedL, crlf_rowsN, stuff_rowsN]
def baseN (a : Int) : Nat × Nat := ((a.fmod 4).toNat, ((a.fdiv 4).fmod 3).toNat)
theorem sentI_1 (a0 a1 a2 a3 : Int) : sentI [a0, a1, a2, a3] 1 = rowsN ([baseN a0, baseN a1, baseN a2, baseN a3].map upN) := by
  show quotedL (mailL [a0, a1, a2, a3] 4) = _
  rw [quotedL, crlf_mail, stuff_rowsN]; rfl
theorem sentI_2 (a0 a1 a2 a3 : Int) : sentI [a0, a1, a2, a3] 2 = rowsN (([baseN a0, baseN a1, baseN a2, baseN a3].map upN).map upN) := by
  show quotedL (sentI [a0, a1, a2, a3] 1) = _
  rw [sentI_1, quoted_rowsN]
theorem lead_1 (a : Int) : leadOf 1 a = ((upN (baseN a)).1 : Nat) := by
  have h := fmod_ok a 4 (by decide)
  unfold leadOf upN baseN
  dsimp only
  split <;> split <;> omega
theorem lead_2 (a : Int) : leadOf 2 a = ((upN (upN (baseN a))).1 : Nat) := by
  have h := fmod_ok a 4 (by decide)
  unfold leadOf upN baseN
  dsimp only
  split <;> split <;> (try split) <;> omega
theorem sentRow_of (a d : Int) (p : Nat × Nat) (h1 : d = (p.1 : Nat)) (h2 : p.2 = ((a.fdiv 4).fmod 3).toNat) : sentRowL a d = rowN p := by
  unfold sentRowL rowN
  rw [h1, h2, Int.toNat_natCast]
  simp only [List.cons_append, List.nil_append]
theorem rowsN_4 (p q r t : Nat × Nat) : rowsN [p, q, r, t] = rowN p ++ (rowN q ++ (rowN r ++ rowN t)) := by
  simp only [rowsN, List.append_nil]
theorem sentI_end (a0 a1 a2 a3 : Int) {sd : Nat} (hsd : sd = 1 ∨ sd = 2) :
    sentI [a0, a1, a2, a3] sd = sentRowL a0 (leadOf sd a0) ++ (sentRowL a1 (leadOf sd a1) ++ (sentRowL a2 (leadOf sd a2) ++ sentRowL a3 (leadOf sd a3))) := by
  rcases hsd with rfl | rfl
  · rw [sentI_1, sentRow_of a0 _ _ (lead_1 a0) rfl, sentRow_of a1 _ _ (lead_1 a1) rfl, sentRow_of a2 _ _ (lead_1 a2) rfl, sentRow_of a3 _ _ (lead_1 a3) rfl]
    exact rowsN_4 _ _ _ _
  · rw [sentI_2, sentRow_of a0 _ _ (lead_2 a0) rfl, sentRow_of a1 _ _ (lead_2 a1) rfl, sentRow_of a2 _ _ (lead_2 a2) rfl, sentRow_of a3 _ _ (lead_2 a3) rfl]
    exact rowsN_4 _ _ _ _
theorem leadOf_ok {sd : Nat} (hsd : sd = 1 ∨ sd = 2) (a : Int) : 0 ≤ leadOf sd a ∧ leadOf sd a ≤ 5 := by
  have h := fmod_ok a 4 (by decide)
  rw [leadOf]; split <;> omega
theorem sentRow_len (n d : Int) (h : 0 ≤ d ∧ d ≤ 5) : (sentRowL n d).length ≤ 20 := by
  have h2 := fmod_ok (n.fdiv 4) 3 (by decide)
  unfold sentRowL
  simp only [List.length_append, len_dotL, List.length_cons, List.length_nil]; omega
theorem sentI_len (a0 a1 a2 a3 : Int) {sd : Nat} (hsd : sd = 1 ∨ sd = 2) {j : Nat} (hj : j < sd) : (sentI [a0, a1, a2, a3] j).length ≤ 400 := by
  have hj2 : j = 0 ∨ j = 1 := by omega
  rcases hj2 with rfl | rfl
  · have := mailL_len [a0, a1, a2, a3] 4
    show (mailL [a0, a1, a2, a3] 4).length ≤ 400
    omega
  · rw [sentI_end a0 a1 a2 a3 (.inl rfl)]
    have z0 := sentRow_len a0 (leadOf 1 a0) (leadOf_ok (.inl rfl) a0)
    have z1 := sentRow_len a1 (leadOf 1 a1) (leadOf_ok (.inl rfl) a1)
    have z2 := sentRow_len a2 (leadOf 1 a2) (leadOf_ok (.inl rfl) a2)
    have z3 := sentRow_len a3 (leadOf 1 a3) (leadOf_ok (.inl rfl) a3)
    simp only [List.length_append]; omega
end
-- part Split
section
open PySem.Builtin.Str in
def occF : List Nat → Nat → List Nat
  | [], _ => []
  | c :: r, p => if c = 13 ∧ r.getD 0 0 = 10 then p :: occF r (p + 1) else occF r (p + 1)
theorem occF_row {rest : List Nat} : ∀ (r : List Nat) (p : Nat), (∀ c ∈ r, c ≠ 13) → occF (r ++ 13 :: 10 :: rest) p = (p + r.length) :: occF rest (p + r.length + 2)
  | [], p, _ => by
    show occF (13 :: 10 :: rest) p = _
    rw [occF, if_pos ⟨rfl, rfl⟩, occF, if_neg (by simp)]
    rfl
  | c :: r, p, h => by
    show occF (c :: (r ++ 13 :: 10 :: rest)) p = _
    rw [occF, if_neg (fun q => h c List.mem_cons_self q.1), occF_row r (p + 1) (fun c hc => h c (List.mem_cons_of_mem _ hc)), List.length_cons]
    rw [show p + 1 + r.length = p + (r.length + 1) by omega]
theorem subAt_crlf (l : List Nat) (p : Nat) : PySem.Builtin.Str.subAt (S l) (S [13, 10]) p = true ↔ l.getD p 0 = 13 ∧ l.getD (p + 1) 0 = 10 := by
  rw [PySem.StrLaws.subAt_eq, beq_iff_eq]
  show ((S l).cps.toList.drop p).take 2 = [13, 10] ↔ _
  have e : (S l).cps.toList = l := by simp [S]
  rw [e]
  have g : ∀ k, l.getD (p + k) 0 = (l.drop p).getD k 0 := fun k => by
    rw [List.getD_eq_getElem?_getD, List.getD_eq_getElem?_getD, List.getElem?_drop]
  rw [show l.getD p 0 = (l.drop p).getD 0 0 from g 0, g 1]
  match l.drop p with
  | [] => simp
  | [a] => simp
  | a :: b :: r => simp
theorem occ_crlf (l : List Nat) : ∀ (n p : Nat) (acc : Array Nat) (free : Nat), p + n = l.length → acc.size ≤ p → free ≤ p + 1 → (free = p + 1 → l.getD p 0 = 10) →
    (forIn (List.range' p (n + 1)) (acc, free) (PySem.StrLaws.occBody (S l) (S [13, 10]) l.length (l.length + 1))).run.fst.toList = acc.toList ++ occF (l.drop p) p
  | 0, p, acc, free, hp, _, _, _ => by
    have hd : l.drop p = [] := List.drop_eq_nil_of_le (by omega)
    rw [hd, occF, List.append_nil, List.range'_succ, List.forIn_cons]
    have e : PySem.StrLaws.occBody (S l) (S [13, 10]) l.length (l.length + 1) p (acc, free) = pure (ForInStep.yield (acc, free)) := by
      unfold PySem.StrLaws.occBody
      rw [if_neg]
      intro h
      have := h.1.2
      rw [S_len] at this
      simp only [List.length_cons, List.length_nil] at this
      omega
    rw [e]
    rfl
  | n + 1, p, acc, free, hp, hs, hf, hf1 => by
    rw [List.range'_succ, List.forIn_cons, drop_cons (l := l) (p := p) (by omega), occF]
    have e1 : (l.drop (p + 1)).getD 0 0 = l.getD (p + 1) 0 := by
      rw [List.getD_eq_getElem?_getD, List.getD_eq_getElem?_getD, List.getElem?_drop]
    rw [e1]
    by_cases hc : l.getD p 0 = 13 ∧ l.getD (p + 1) 0 = 10
    · have hlt : p + 1 < l.length := by
        rcases Nat.lt_or_ge (p + 1) l.length with h | h
        · exact h
        · have := hc.2
          rw [List.getD_eq_getElem?_getD, List.getElem?_eq_none h] at this
          exact absurd this (by decide)
      have hfp : free ≤ p := by
        rcases Nat.lt_or_eq_of_le hf with h | h
        · omega
        · have := hf1 h
          rw [hc.1] at this
          exact absurd this (by decide)
      have e : PySem.StrLaws.occBody (S l) (S [13, 10]) l.length (l.length + 1) p (acc, free) = pure (ForInStep.yield (acc.push p, p + 2)) := by
        unfold PySem.StrLaws.occBody
        rw [if_pos]
        · rw [S_len]; rfl
        · refine ⟨⟨⟨?_, hfp⟩, ?_⟩, (subAt_crlf l p).mpr hc⟩
          · dsimp only; omega
          · rw [S_len]; simp only [List.length_cons, List.length_nil]; omega
      rw [e, if_pos hc]
      have ih := occ_crlf l n (p + 1) (acc.push p) (p + 2) (by omega) (by rw [Array.size_push]; omega) (by omega) (fun _ => hc.2)
      rw [Array.toList_push, List.append_assoc] at ih
      exact ih
    · have e : PySem.StrLaws.occBody (S l) (S [13, 10]) l.length (l.length + 1) p (acc, free) = pure (ForInStep.yield (acc, free)) := by
        unfold PySem.StrLaws.occBody
        rw [if_neg]
        intro h
        exact hc ((subAt_crlf l p).mp h.2)
      rw [e, if_neg hc]
      exact occ_crlf l n (p + 1) acc free (by omega) (by omega) (by omega) (fun h => absurd h (by omega))
theorem occ_is (l : List Nat) : PySem.Builtin.Str.occurrences (S l) (S [13, 10]) 0 (S l).length ((S l).length + 1) = occF l 0 := by
  rw [PySem.StrLaws.occ_eq, S_len]
  have := occ_crlf l l.length 0 #[] 0 (by omega) (Nat.le_refl 0) (by omega) (fun h => absurd h (by decide))
  simpa using this
def segs : List (List Nat) → List Nat
  | [] => []
  | r :: rs => r ++ 13 :: 10 :: segs rs
theorem strSub_S (l : List Nat) (a c : Nat) : PySem.Builtin.Str.strSub (S l) a c = S ((l.drop a).take (c - a)) := by
  apply Str.ext'
  apply Array.toList_inj.mp
  rw [PySem.StrLaws.strSub_toList]
  simp [S]
theorem parts_segs (l : List Nat) : ∀ (rs : List (List Nat)) (a : Nat), l.drop a = segs rs → (∀ r ∈ rs, ∀ c ∈ r, c ≠ 13) → a ≤ l.length →
    PySem.StrLaws.partsFrom (S l) 2 a (occF (segs rs) a) = rs.map S ++ [S []]
  | [], a, h, _, _ => by
    rw [segs, occF, PySem.StrLaws.partsFrom, strSub_S, h, segs, List.take_nil]
    rfl
  | r :: rs, a, h, hr, ha => by
    rw [segs, occF_row r a (hr r List.mem_cons_self), PySem.StrLaws.partsFrom, strSub_S, h, segs]
    have h2 : l.drop (a + r.length + 2) = segs rs := by
      rw [show a + r.length + 2 = a + (r.length + 2) by omega, ← List.drop_drop, h, segs, List.drop_append]
      simp
    have h3 : a + r.length + 2 ≤ l.length := by
      have := congrArg List.length h
      rw [segs, List.length_drop, List.length_append, List.length_cons, List.length_cons] at this
      omega
    rw [parts_segs l rs (a + r.length + 2) h2 (fun r hr' => hr r (List.mem_cons_of_mem _ hr')) h3]
    have h4 : (r ++ 13 :: 10 :: segs rs).take (a + r.length - a) = r := by
      rw [show a + r.length - a = r.length by omega, List.take_left]
    rw [h4]
    rfl
theorem split_segs (rs : List (List Nat)) (hr : ∀ r ∈ rs, ∀ c ∈ r, c ≠ 13) (hne : rs ≠ []) (hk : PySem.Builtin.Str.strKind (S (segs rs)) = 1) : Txt.split (S (segs rs)) (S [13, 10]) = rs.map S ++ [S []] := by
  obtain ⟨r, rs', rfl⟩ := List.exists_cons_of_ne_nil hne
  unfold Txt.split
  have hl : ¬ ((S (segs (r :: rs'))).length < (S [13, 10]).length) := by
    rw [S_len, S_len, segs, List.length_append]; simp only [List.length_cons, List.length_nil]; omega
  have hk2 : ¬ (PySem.Builtin.Str.strKind (S (segs (r :: rs'))) < PySem.Builtin.Str.strKind (S [13, 10])) := by
    rw [hk, show PySem.Builtin.Str.strKind (S [13, 10]) = 1 by decide +kernel]; decide
  rw [if_neg (by simp [hl, hk2]), occ_is]
  have ho : (occF (segs (r :: rs')) 0).isEmpty = false := by
    rw [segs, occF_row r 0 (hr r List.mem_cons_self)]; rfl
  rw [ho, if_neg (by decide), PySem.StrLaws.partsBetween_eq, S_len]
  exact parts_segs _ (r :: rs') 0 rfl hr (Nat.zero_le _)
def rowS (n d : Int) : List Nat := dotL d.toNat ++ 97 :: dotL ((n.fdiv 4).fmod 3).toNat
theorem sentRow_S (n d : Int) (r : List Nat) : sentRowL n d ++ r = rowS n d ++ 13 :: 10 :: r := by
  unfold sentRowL rowS
  simp only [List.append_assoc, List.cons_append, List.nil_append]
theorem rowS_low (n d : Int) : ∀ c ∈ rowS n d, c = 46 ∨ c = 97 := by
  intro c hc
  unfold rowS dotL at hc
  simp only [List.mem_append, List.mem_cons, List.mem_replicate] at hc
  rcases hc with h | h | h
  · exact .inl h.2
  · exact .inr h
  · exact .inl h.2
theorem segs_low : ∀ (rs : List (List Nat)), (∀ r ∈ rs, ∀ c ∈ r, c = 46 ∨ c = 97) → ∀ c ∈ segs rs, c < 256
  | [], _, c, hc => by rw [segs] at hc; exact nomatch hc
  | r :: rs, h, c, hc => by
    rw [segs] at hc
    simp only [List.mem_append, List.mem_cons] at hc
    rcases hc with hc | rfl | rfl | hc
    · rcases h r List.mem_cons_self c hc with rfl | rfl <;> decide
    · decide
    · decide
    · exact segs_low rs (fun r hr => h r (List.mem_cons_of_mem _ hr)) c hc
theorem split_sent (a0 a1 a2 a3 d0 d1 d2 d3 : Int) :
    Txt.split (S (sentRowL a0 d0 ++ (sentRowL a1 d1 ++ (sentRowL a2 d2 ++ sentRowL a3 d3)))) (Str.ofString "\r\n") = [S (rowS a0 d0), S (rowS a1 d1), S (rowS a2 d2), S (rowS a3 d3), S []] := by
  rw [str_crlf]
  have e : sentRowL a0 d0 ++ (sentRowL a1 d1 ++ (sentRowL a2 d2 ++ sentRowL a3 d3)) = segs [rowS a0 d0, rowS a1 d1, rowS a2 d2, rowS a3 d3] := by
    rw [← List.append_nil (sentRowL a3 d3), sentRow_S, sentRow_S, sentRow_S, sentRow_S]
    rfl
  have hlow : ∀ r ∈ [rowS a0 d0, rowS a1 d1, rowS a2 d2, rowS a3 d3], ∀ c ∈ r, c = 46 ∨ c = 97 := by
    intro r hr
    simp only [List.mem_cons, List.mem_nil_iff, or_false] at hr
    rcases hr with rfl | rfl | rfl | rfl <;> exact rowS_low _ _
  rw [e]
  refine split_segs _ (fun r hr c hc => ?_) (by simp) ?_
  · rcases hlow r hr c hc with rfl | rfl <;> decide
  · unfold PySem.Builtin.Str.strKind
    rw [if_pos]
    rw [Array.all_eq_true_iff_forall_mem]
    intro c hc
    exact decide_eq_true (segs_low _ hlow c (by simpa [S] using hc))
end
-- part Rows
section
theorem rowS_asc (n d : Int) : (S (dotL d.toNat ++ 97 :: dotL ((n.fdiv 4).fmod 3).toNat)).cps.all (· < 128) = true := by
  simp [S, dotL]
def countsUp (ls : List Int) (i : Nat) : List Int := (ls.take i).foldl ins []
theorem countsUp_succ {ls : List Int} {i : Nat} {x : Int} (h : ls[i]? = some x) : countsUp ls (i + 1) = ins (countsUp ls i) x := by
  unfold countsUp
  rw [List.take_add_one, h]
  simp
theorem countsUp_length (ls : List Int) : ∀ i, i ≤ ls.length → (countsUp ls i).length = i
  | 0, _ => by simp [countsUp]
  | i + 1, h => by
    rw [countsUp_succ (List.getElem?_eq_getElem (by omega)), ins_length, countsUp_length ls i (by omega)]
theorem allLt_mem {d : Addr} : ∀ {l : List (Addr × Obj)}, AllLt d l → ∀ p ∈ l, p.1 < d
  | [], _, _, h => nomatch h
  | _ :: _, x, p, h => by
    rcases List.mem_cons.mp h with rfl | h
    · exact x.1
    · exact allLt_mem x.2 p h
theorem indexOf_a {w : World} {news : List (Addr × Obj)} (k : Nat) (rest : List Nat) (t u : Tok) (hasc : (S (dotL k ++ 97 :: rest)).cps.all (· < 128) = true) :
  CTellT w 117 [.str (S (dotL k ++ 97 :: rest)) t, .str (Str.ofString "a") u] u 20 news (fun r n' => (∃ t, r = .int (k : Int) t) ∧ n' = news) := by
  rw [str_a]; exact indexOf_c k rest t u hasc
end
-- part Rook
section
/-- a sum over a table, each key weighed -/
def wsum (f : Int → Int) : List (Int × Int) → Int
  | [] => 0
  | p :: r => p.2 * f p.1 + wsum f r
def NK (c : List (Int × Int)) : Prop := (c.map (·.1)).Nodup
theorem wsum_append (f : Int → Int) (b : List (Int × Int)) : ∀ a, wsum f (a ++ b) = wsum f a + wsum f b
  | [] => by simp [wsum]
  | p :: a => by rw [List.cons_append, wsum, wsum, wsum_append f b a]; omega
theorem kdfLook_cons (a : Int × Int) (c : List (Int × Int)) (k : Int) : kdfLook (a :: c) k 0 = if a.1 = k then a.2 else kdfLook c k 0 := by
  unfold kdfLook
  rw [List.find?_cons]
  by_cases h : a.1 = k
  · rw [if_pos h, decide_eq_true h]; rfl
  · rw [if_neg h, decide_eq_false h]
theorem look_absent (k : Int) : ∀ c : List (Int × Int), (∀ p ∈ c, p.1 ≠ k) → kdfLook c k 0 = 0
  | [], _ => rfl
  | a :: c, h => by
    rw [kdfLook_cons, if_neg (h a List.mem_cons_self), look_absent k c (fun p hp => h p (List.mem_cons_of_mem _ hp))]
theorem map_absent (k v : Int) : ∀ c : List (Int × Int), (∀ p ∈ c, p.1 ≠ k) → c.map (fun p => if decide (p.1 = k) then (p.1, v) else p) = c
  | [], _ => rfl
  | a :: c, h => by
    rw [List.map_cons, map_absent k v c (fun p hp => h p (List.mem_cons_of_mem _ hp)), decide_eq_false (h a List.mem_cons_self)]
    rfl
theorem NK.cons {a : Int × Int} {c : List (Int × Int)} (h : NK (a :: c)) : NK c ∧ ∀ p ∈ c, p.1 ≠ a.1 := by
  unfold NK at h ⊢
  rw [List.map_cons, List.nodup_cons] at h
  exact ⟨h.2, fun p hp e => h.1 (List.mem_map.mpr ⟨p, hp, e⟩)⟩
theorem NK.put {g : List (Int × Int)} (h : NK g) (k v : Int) : NK (kdfPut g k v) := by
  unfold kdfPut NK
  split
  · have e : (g.map fun p => if decide (p.1 = k) then (p.1, v) else p).map (·.1) = g.map (·.1) := by
      rw [List.map_map]
      apply List.map_congr_left
      intro p _
      show (if decide (p.1 = k) then (p.1, v) else p).1 = p.1
      split <;> rfl
    rw [e]; exact h
  · rename_i hn
    rw [List.map_append, List.nodup_append]
    refine ⟨h, by simp, ?_⟩
    intro a ha b hb e
    obtain ⟨p, hp, rfl⟩ := List.mem_map.mp ha
    have eb : b = k := by simpa using hb
    subst eb
    exact hn (List.any_eq_true.mpr ⟨p, hp, decide_eq_true e⟩)
theorem wsum_map (f : Int → Int) (k x : Int) : ∀ g : List (Int × Int), NK g → (∃ p ∈ g, p.1 = k) →
    wsum f (g.map fun p => if decide (p.1 = k) then (p.1, kdfLook g k 0 + x) else p) = wsum f g + x * f k
  | [], _, h => by obtain ⟨p, hp, _⟩ := h; exact nomatch hp
  | a :: g, hN, h => by
    obtain ⟨hN', hne⟩ := hN.cons
    by_cases ha : a.1 = k
    · have hgk : ∀ p ∈ g, p.1 ≠ k := fun p hp => ha ▸ hne p hp
      rw [List.map_cons, kdfLook_cons, if_pos ha, map_absent k _ g hgk, decide_eq_true ha, if_pos rfl, wsum, wsum]
      dsimp only
      rw [ha, Int.add_mul]; omega
    · have hk : kdfLook (a :: g) k 0 = kdfLook g k 0 := by rw [kdfLook_cons, if_neg ha]
      have hg : ∃ p ∈ g, p.1 = k := by
        obtain ⟨p, hp, e⟩ := h
        rcases List.mem_cons.mp hp with rfl | hp
        · exact absurd e ha
        · exact ⟨p, hp, e⟩
      have ih := wsum_map f k x g hN' hg
      rw [List.map_cons, hk, decide_eq_false ha, if_neg (by decide), wsum, ih, wsum]; omega
theorem wsum_put (f : Int → Int) {g : List (Int × Int)} (hN : NK g) (k x : Int) : wsum f (kdfPut g k (kdfLook g k 0 + x)) = wsum f g + x * f k := by
  unfold kdfPut
  by_cases hc : ∃ p ∈ g, p.1 = k
  · rw [if_pos (by obtain ⟨p, hp, e⟩ := hc; exact List.any_eq_true.mpr ⟨p, hp, decide_eq_true e⟩)]
    exact wsum_map f k x g hN hc
  · have hne : ∀ p ∈ g, p.1 ≠ k := fun p hp e => hc ⟨p, hp, e⟩
    rw [if_neg (by
      intro h
      obtain ⟨p, hp, e⟩ := List.any_eq_true.mp h
      exact hne p hp (of_decide_eq_true e)), look_absent k g hne, wsum_append, Int.zero_add, wsum, wsum]
    dsimp only
    omega
def rowSum (f : Int → Int) (T : Int) : Nat → Int
  | 0 => 0
  | j + 1 => rowSum f T j + if colBit T j then f (withBit T j) else 0
theorem cellUp_sum (f : Int → Int) (T v : Int) {g : List (Int × Int)} (hN : NK g) : ∀ j, NK (cellUp T v g j) ∧ wsum f (cellUp T v g j) = wsum f g + v * rowSum f T j
  | 0 => ⟨hN, by rw [cellUp, rowSum]; omega⟩
  | j + 1 => by
    obtain ⟨h1, h2⟩ := cellUp_sum f T v hN j
    rw [cellUp, rowSum]
    split
    · refine ⟨h1.put _ _, ?_⟩
      rw [wsum_put f h1, h2, Int.mul_add]; omega
    · exact ⟨h1, by rw [h2, Int.add_zero]⟩
theorem look_at : ∀ {c : List (Int × Int)}, NK c → ∀ n, n < c.length → kdfLook c (c.getD n (0, 0)).1 0 = (c.getD n (0, 0)).2
  | a :: c, hN, 0, _ => by
    show kdfLook (a :: c) a.1 0 = a.2
    rw [kdfLook_cons, if_pos rfl]
  | a :: c, hN, n + 1, h => by
    obtain ⟨hN', hne⟩ := hN.cons
    have hn : n < c.length := Nat.lt_of_succ_lt_succ h
    show kdfLook (a :: c) (c.getD n (0, 0)).1 0 = (c.getD n (0, 0)).2
    have hm : c.getD n (0, 0) ∈ c := by
      rw [List.getD_eq_getElem?_getD, List.getElem?_eq_getElem hn]; exact List.getElem_mem _
    rw [kdfLook_cons, if_neg (fun e => hne _ hm e.symm)]
    exact look_at hN' n hn
theorem wsum_take (f : Int → Int) (c : List (Int × Int)) (n : Nat) (h : n < c.length) : wsum f (c.take (n + 1)) = wsum f (c.take n) + (c.getD n (0, 0)).2 * f (c.getD n (0, 0)).1 := by
  rw [List.take_add_one, List.getElem?_eq_getElem h, wsum_append]
  rw [List.getD_eq_getElem?_getD, List.getElem?_eq_getElem h]
  show _ + wsum f [c[n]] = _
  rw [wsum, wsum]; simp
theorem growUp_sum (f : Int → Int) {c : List (Int × Int)} (hN : NK c) (lead : Int) : ∀ n, n ≤ c.length → NK (growUp c lead n) ∧ wsum f (growUp c lead n) = wsum f c + wsum (fun T => rowSum f T lead.toNat) (c.take n)
  | 0, _ => ⟨hN, by rw [growUp, List.take_zero, wsum]; omega⟩
  | n + 1, h => by
    obtain ⟨h1, h2⟩ := growUp_sum f hN lead n (by omega)
    obtain ⟨h3, h4⟩ := cellUp_sum f (c.getD n (0, 0)).1 (kdfLook c (c.getD n (0, 0)).1 0) h1 lead.toNat
    rw [growUp]
    refine ⟨h3, ?_⟩
    rw [h4, h2, wsum_take _ c n (by omega), look_at hN n (by omega)]
    omega
/-- a row put ahead of a weight -/
def rowD (lead : Int) (f : Int → Int) (T : Int) : Int := f T + rowSum f T lead.toNat
theorem wsum_add (f g : Int → Int) : ∀ c, wsum (fun T => f T + g T) c = wsum f c + wsum g c
  | [] => rfl
  | p :: c => by rw [wsum, wsum, wsum, wsum_add f g c, Int.mul_add]; omega
theorem waysUp_NK (ns : List Int) : ∀ i, NK (waysUp ns i)
  | 0 => by unfold waysUp NK; simp
  | i + 1 => by rw [waysUp]; exact (growUp_sum (fun _ => 0) (waysUp_NK ns i) _ _ (Nat.le_refl _)).1
theorem waysUp_sum (ns : List Int) (f : Int → Int) (i : Nat) : wsum f (waysUp ns (i + 1)) = wsum (rowD (ns.getD i 0) f) (waysUp ns i) := by
  rw [waysUp, (growUp_sum f (waysUp_NK ns i) _ _ (Nat.le_refl _)).2, List.take_length]
  exact (wsum_add f (fun T => rowSum f T (ns.getD i 0).toNat) _).symm
theorem waysUp_4 (n0 n1 n2 n3 : Int) (f : Int → Int) : wsum f (waysUp [n0, n1, n2, n3] 4) = rowD n0 (rowD n1 (rowD n2 (rowD n3 f))) 0 := by
  rw [waysUp_sum, waysUp_sum, waysUp_sum, waysUp_sum]
  show wsum _ [(0, 1)] = _
  rw [wsum, wsum, Int.add_zero, Int.one_mul]
  rfl
theorem countUp_sum {c : List (Int × Int)} (hN : NK c) (ch : Int → Int) (k : Nat) (hk : k < 5) : ∀ n, n ≤ c.length → (countUp c ch n).getD k 0 = wsum (fun T => if (ch T).toNat = k then 1 else 0) (c.take n)
  | 0, _ => by
    rw [countUp, List.take_zero, wsum]
    match k, hk with
    | 0, _ => rfl
    | 1, _ => rfl
    | 2, _ => rfl
    | 3, _ => rfl
    | 4, _ => rfl
  | n + 1, h => by
    have ih := countUp_sum hN ch k hk n (by omega)
    rw [countUp, wsum_take _ c n (by omega), ← ih, look_at hN n (by omega)]
    rw [List.getD_eq_getElem?_getD, List.getElem?_set, countUp_length]
    by_cases e : (ch (c.getD n (0, 0)).1).toNat = k
    · subst e
      rw [if_pos rfl, if_pos hk, if_pos rfl, Int.mul_one]; rfl
    · rw [if_neg e, if_neg e, Int.mul_zero, Int.add_zero, List.getD_eq_getElem?_getD]
theorem list5 {l : List Int} (h : l.length = 5) : l = [l.getD 0 0, l.getD 1 0, l.getD 2 0, l.getD 3 0, l.getD 4 0] := by
  rcases l with _ | ⟨a, _ | ⟨b, _ | ⟨c, _ | ⟨d, _ | ⟨e, _ | ⟨f, l⟩⟩⟩⟩⟩⟩ <;> simp at h
  rfl
/-- how many ways end at k, from the set T of p columns on -/
def rook : List Nat → Nat → Nat → Nat → Nat
  | [], _, p, k => if p = k then 1 else 0
  | d :: ds, T, p, k => rook ds T p k + (List.range d).foldl (fun acc j => if (T / 2 ^ j) % 2 = 0 then acc + rook ds (T ||| 2 ^ j) (p + 1) k else acc) 0
theorem colBit_nat : ∀ (T : Fin 32) (j : Fin 5), colBit ((T.val : Nat) : Int) j.val = decide ((T.val / 2 ^ j.val) % 2 = 0) := by decide +kernel
def PcOk (T p : Nat) : Prop := T < 32 ∧ (bits5 ((T : Nat) : Int) 5).sum = (p : Int)
def chi (k : Nat) (T : Int) : Int := if ((bits5 T 5).sum).toNat = k then 1 else 0
theorem rowSum_rook {f : Int → Int} {ds : List Nat} {k : Nat} (ih : ∀ T p, PcOk T p → f ((T : Nat) : Int) = (rook ds T p k : Nat)) {T p : Nat} (hT : PcOk T p) : ∀ d, d ≤ 5 →
    rowSum f ((T : Nat) : Int) d = (((List.range d).foldl (fun acc j => if (T / 2 ^ j) % 2 = 0 then acc + rook ds (T ||| 2 ^ j) (p + 1) k else acc) 0 : Nat) : Int)
  | 0, _ => rfl
  | d + 1, h => by
    have ih2 := rowSum_rook ih hT d (by omega)
    rw [rowSum, ih2, List.range_succ, List.foldl_append, List.foldl_cons, List.foldl_nil]
    have hb := colBit_nat ⟨T, hT.1⟩ ⟨d, by omega⟩
    dsimp only at hb
    by_cases e : (T / 2 ^ d) % 2 = 0
    · rw [decide_eq_true e] at hb
      have h5 := bits5_with ⟨T, hT.1⟩ ⟨d, by omega⟩ hb
      dsimp only at h5
      have hT2 : PcOk (T ||| 2 ^ d) (p + 1) := ⟨h5.1, by rw [h5.2, hT.2]; omega⟩
      rw [if_pos hb, if_pos e, withBit_nat, ih _ _ hT2]; omega
    · rw [decide_eq_false e] at hb
      rw [hb, if_neg (by decide), if_neg e, Int.add_zero]
theorem rowD_rook {f : Int → Int} {ds : List Nat} {k : Nat} (ih : ∀ T p, PcOk T p → f ((T : Nat) : Int) = (rook ds T p k : Nat)) (d : Nat) (hd : d ≤ 5) : ∀ T p, PcOk T p → rowD (d : Int) f ((T : Nat) : Int) = (rook (d :: ds) T p k : Nat) := fun T p hT => by
  rw [rowD, Int.toNat_natCast, rowSum_rook ih hT d hd, ih T p hT, rook]; omega
theorem chi_rook (k : Nat) : ∀ T p, PcOk T p → chi k ((T : Nat) : Int) = (rook [] T p k : Nat) := fun T p hT => by
  unfold chi rook
  rw [hT.2, Int.toNat_natCast]
  split <;> rfl
theorem counted_rook (d0 d1 d2 d3 : Nat) (h0 : d0 ≤ 5) (h1 : d1 ≤ 5) (h2 : d2 ≤ 5) (h3 : d3 ≤ 5) :
    countedOf [(d0 : Int), d1, d2, d3] = [((rook [d0, d1, d2, d3] 0 0 0 : Nat) : Int), ((rook [d0, d1, d2, d3] 0 0 1 : Nat) : Int), ((rook [d0, d1, d2, d3] 0 0 2 : Nat) : Int), ((rook [d0, d1, d2, d3] 0 0 3 : Nat) : Int), ((rook [d0, d1, d2, d3] 0 0 4 : Nat) : Int)] := by
  have key : ∀ k, k < 5 → (countedOf [(d0 : Int), d1, d2, d3]).getD k 0 = (rook [d0, d1, d2, d3] 0 0 k : Nat) := fun k hk => by
    unfold countedOf
    rw [countUp_sum (waysUp_NK _ _) _ k hk _ (Nat.le_refl _), List.take_length]
    show wsum (chi k) (waysUp [(d0 : Int), d1, d2, d3] 4) = _
    rw [waysUp_4]
    exact rowD_rook (rowD_rook (rowD_rook (rowD_rook (chi_rook k) d3 h3) d2 h2) d1 h1) d0 h0 0 0 ⟨by decide, by decide +kernel⟩
  have hl : (countedOf [(d0 : Int), d1, d2, d3]).length = 5 := countUp_length _ _ _
  rw [list5 hl, key 0 (by decide), key 1 (by decide), key 2 (by decide), key 3 (by decide), key 4 (by decide)]
end
-- part Board
section
/-- the counts, the ways and the places that the boards of one sending, of two, can have -/
def tab1 : List (List Int × List Int × List Int) := [([0, 0, 0, 0], [1, 0, 0, 0, 0], [-3, -2, -1, 0]), ([0, 0, 0, 2], [1, 2, 0, 0, 0], [-2, -1, -1, 0]), ([0, 0, 0, 3], [1, 3, 0, 0, 0], [-2, -1, 0, 0]), ([0, 0, 0, 4], [1, 4, 0, 0, 0], [-2, -1, 0, 1]), ([0, 0, 2, 2], [1, 4, 2, 0, 0], [-1, -1, 0, 0]), ([0, 0, 2, 3], [1, 5, 4, 0, 0], [-1, 0, 0, 0]), ([0, 0, 2, 4], [1, 6, 6, 0, 0], [-1, 0, 0, 1]), ([0, 0, 3, 3], [1, 6, 6, 0, 0], [-1, 0, 0, 1]), ([0, 0, 3, 4], [1, 7, 9, 0, 0], [-1, 0, 1, 1]), ([0, 0, 4, 4], [1, 8, 12, 0, 0], [-1, 0, 1, 2]), ([0, 2, 2, 2], [1, 6, 6, 0, 0], [-1, 0, 0, 1]), ([0, 2, 2, 3], [1, 7, 10, 2, 0], [0, 0, 0, 1]), ([0, 2, 2, 4], [1, 8, 14, 4, 0], [0, 0, 1, 1]), ([0, 2, 3, 3], [1, 8, 14, 4, 0], [0, 0, 1, 1]), ([0, 2, 3, 4], [1, 9, 19, 8, 0], [0, 1, 1, 1]), ([0, 2, 4, 4], [1, 10, 24, 12, 0], [0, 1, 1, 2]), ([0, 3, 3, 3], [1, 9, 18, 6, 0], [0, 0, 1, 2]), ([0, 3, 3, 4], [1, 10, 24, 12, 0], [0, 1, 1, 2]), ([0, 3, 4, 4], [1, 11, 30, 18, 0], [0, 1, 2, 2]), ([0, 4, 4, 4], [1, 12, 36, 24, 0], [0, 1, 2, 3]), ([2, 2, 2, 2], [1, 8, 12, 0, 0], [-1, 0, 1, 2]), ([2, 2, 2, 3], [1, 9, 18, 6, 0], [0, 0, 1, 2]), ([2, 2, 2, 4], [1, 10, 24, 12, 0], [0, 1, 1, 2]), ([2, 2, 3, 3], [1, 10, 24, 12, 0], [0, 1, 1, 2]), ([2, 2, 3, 4], [1, 11, 31, 22, 2], [1, 1, 1, 2]), ([2, 2, 4, 4], [1, 12, 38, 32, 4], [1, 1, 2, 2]), ([2, 3, 3, 3], [1, 11, 30, 18, 0], [0, 1, 2, 2]), ([2, 3, 3, 4], [1, 12, 38, 32, 4], [1, 1, 2, 2]), ([2, 3, 4, 4], [1, 13, 46, 46, 8], [1, 2, 2, 2]), ([2, 4, 4, 4], [1, 14, 54, 60, 12], [1, 2, 2, 3]), ([3, 3, 3, 3], [1, 12, 36, 24, 0], [0, 1, 2, 3]), ([3, 3, 3, 4], [1, 13, 45, 42, 6], [1, 1, 2, 3]), ([3, 3, 4, 4], [1, 14, 54, 60, 12], [1, 2, 2, 3]), ([3, 4, 4, 4], [1, 15, 63, 78, 18], [1, 2, 3, 3]), ([4, 4, 4, 4], [1, 16, 72, 96, 24], [1, 2, 3, 4])]
def tab2 : List (List Int × List Int × List Int) := [([0, 0, 0, 0], [1, 0, 0, 0, 0], [-3, -2, -1, 0]), ([0, 0, 0, 3], [1, 3, 0, 0, 0], [-2, -1, 0, 0]), ([0, 0, 0, 4], [1, 4, 0, 0, 0], [-2, -1, 0, 1]), ([0, 0, 0, 5], [1, 5, 0, 0, 0], [-2, -1, 0, 2]), ([0, 0, 3, 3], [1, 6, 6, 0, 0], [-1, 0, 0, 1]), ([0, 0, 3, 4], [1, 7, 9, 0, 0], [-1, 0, 1, 1]), ([0, 0, 3, 5], [1, 8, 12, 0, 0], [-1, 0, 1, 2]), ([0, 0, 4, 4], [1, 8, 12, 0, 0], [-1, 0, 1, 2]), ([0, 0, 4, 5], [1, 9, 16, 0, 0], [-1, 0, 2, 2]), ([0, 0, 5, 5], [1, 10, 20, 0, 0], [-1, 0, 2, 3]), ([0, 3, 3, 3], [1, 9, 18, 6, 0], [0, 0, 1, 2]), ([0, 3, 3, 4], [1, 10, 24, 12, 0], [0, 1, 1, 2]), ([0, 3, 3, 5], [1, 11, 30, 18, 0], [0, 1, 2, 2]), ([0, 3, 4, 4], [1, 11, 30, 18, 0], [0, 1, 2, 2]), ([0, 3, 4, 5], [1, 12, 37, 27, 0], [0, 2, 2, 2]), ([0, 3, 5, 5], [1, 13, 44, 36, 0], [0, 2, 2, 3]), ([0, 4, 4, 4], [1, 12, 36, 24, 0], [0, 1, 2, 3]), ([0, 4, 4, 5], [1, 13, 44, 36, 0], [0, 2, 2, 3]), ([0, 4, 5, 5], [1, 14, 52, 48, 0], [0, 2, 3, 3]), ([0, 5, 5, 5], [1, 15, 60, 60, 0], [0, 2, 3, 4]), ([3, 3, 3, 3], [1, 12, 36, 24, 0], [0, 1, 2, 3]), ([3, 3, 3, 4], [1, 13, 45, 42, 6], [1, 1, 2, 3]), ([3, 3, 3, 5], [1, 14, 54, 60, 12], [1, 2, 2, 3]), ([3, 3, 4, 4], [1, 14, 54, 60, 12], [1, 2, 2, 3]), ([3, 3, 4, 5], [1, 15, 64, 84, 24], [2, 2, 2, 3]), ([3, 3, 5, 5], [1, 16, 74, 108, 36], [2, 2, 3, 3]), ([3, 4, 4, 4], [1, 15, 63, 78, 18], [1, 2, 3, 3]), ([3, 4, 4, 5], [1, 16, 74, 108, 36], [2, 2, 3, 3]), ([3, 4, 5, 5], [1, 17, 85, 138, 54], [2, 3, 3, 3]), ([3, 5, 5, 5], [1, 18, 96, 168, 72], [2, 3, 3, 4]), ([4, 4, 4, 4], [1, 16, 72, 96, 24], [1, 2, 3, 4]), ([4, 4, 4, 5], [1, 17, 84, 132, 48], [2, 2, 3, 4]), ([4, 4, 5, 5], [1, 18, 96, 168, 72], [2, 3, 3, 4]), ([4, 5, 5, 5], [1, 19, 108, 204, 96], [2, 3, 4, 4]), ([5, 5, 5, 5], [1, 20, 120, 240, 120], [2, 3, 4, 5])]
def waysR (d0 d1 d2 d3 : Nat) : List Int := [((rook [d0, d1, d2, d3] 0 0 0 : Nat) : Int), ((rook [d0, d1, d2, d3] 0 0 1 : Nat) : Int), ((rook [d0, d1, d2, d3] 0 0 2 : Nat) : Int), ((rook [d0, d1, d2, d3] 0 0 3 : Nat) : Int), ((rook [d0, d1, d2, d3] 0 0 4 : Nat) : Int)]
def sizesB (zs wl : List Int) : Bool :=
  decide (zs.length ≤ 5) && (zs.all fun z => decide (0 ≤ z ∧ z ≤ 5)) && decide ((productOf zs).length ≤ 6) && decide (productOf zs ++ List.replicate (6 - (productOf zs).length) 0 = wl ++ [0])
def entryB (p : List Int × List Int × List Int) : Bool :=
  decide (0 ≤ lastOf p.1 ∧ lastOf p.1 ≤ 5) && sizesB p.1 p.2.1 && sizesB (colsUp p.1 (lastOf p.1).toNat) p.2.1 && decide (lessUp p.1 4 = p.2.2)
def hasB (tab : List (List Int × List Int × List Int)) (cs wl : List Int) : Bool := tab.any fun p => decide (p.1 = cs) && decide (p.2.1 = wl)
def boardB (tab : List (List Int × List Int × List Int)) (d0 d1 d2 d3 : Nat) : Bool := hasB tab (countsUp [(d0 : Int), d1, d2, d3] 4) (waysR d0 d1 d2 d3)
theorem boards1_0 : ([0, 2, 3, 4].all fun d1 => [0, 2, 3, 4].all fun d2 => [0, 2, 3, 4].all fun d3 => boardB tab1 0 d1 d2 d3) = true := by decide +kernel
theorem boards1_2 : ([0, 2, 3, 4].all fun d1 => [0, 2, 3, 4].all fun d2 => [0, 2, 3, 4].all fun d3 => boardB tab1 2 d1 d2 d3) = true := by decide +kernel
theorem boards1_3 : ([0, 2, 3, 4].all fun d1 => [0, 2, 3, 4].all fun d2 => [0, 2, 3, 4].all fun d3 => boardB tab1 3 d1 d2 d3) = true := by decide +kernel
theorem boards1_4 : ([0, 2, 3, 4].all fun d1 => [0, 2, 3, 4].all fun d2 => [0, 2, 3, 4].all fun d3 => boardB tab1 4 d1 d2 d3) = true := by decide +kernel
theorem entries1 : tab1.all entryB = true := by decide +kernel
theorem tab1_ok : (tab1.all fun x => tab1.all fun y => decide (x.2.1 = y.2.1) == decide (x.2.2 = y.2.2)) = true := by decide +kernel
theorem boards2_0 : ([0, 3, 4, 5].all fun d1 => [0, 3, 4, 5].all fun d2 => [0, 3, 4, 5].all fun d3 => boardB tab2 0 d1 d2 d3) = true := by decide +kernel
theorem boards2_3 : ([0, 3, 4, 5].all fun d1 => [0, 3, 4, 5].all fun d2 => [0, 3, 4, 5].all fun d3 => boardB tab2 3 d1 d2 d3) = true := by decide +kernel
theorem boards2_4 : ([0, 3, 4, 5].all fun d1 => [0, 3, 4, 5].all fun d2 => [0, 3, 4, 5].all fun d3 => boardB tab2 4 d1 d2 d3) = true := by decide +kernel
theorem boards2_5 : ([0, 3, 4, 5].all fun d1 => [0, 3, 4, 5].all fun d2 => [0, 3, 4, 5].all fun d3 => boardB tab2 5 d1 d2 d3) = true := by decide +kernel
theorem entries2 : tab2.all entryB = true := by decide +kernel
theorem tab2_ok : (tab2.all fun x => tab2.all fun y => decide (x.2.1 = y.2.1) == decide (x.2.2 = y.2.2)) = true := by decide +kernel
end
-- part Plain
section
def countsL (sd : Nat) (a0 a1 a2 a3 : Int) : List Int := countsUp [leadOf sd a0, leadOf sd a1, leadOf sd a2, leadOf sd a3] 4
def colsL (sd : Nat) (a0 a1 a2 a3 : Int) : List Int := colsUp (countsL sd a0 a1 a2 a3) (lastOf (countsL sd a0 a1 a2 a3)).toNat
def waysL (sd : Nat) (a0 a1 a2 a3 : Int) : List Int := countedOf [leadOf sd a0, leadOf sd a1, leadOf sd a2, leadOf sd a3]
theorem waysL_len (sd : Nat) (a0 a1 a2 a3 : Int) : (waysL sd a0 a1 a2 a3).length = 5 := countUp_length _ _ _
theorem counts_len (sd : Nat) (a0 a1 a2 a3 : Int) : (countsL sd a0 a1 a2 a3).length = 4 := countsUp_length _ 4 (Nat.le_refl 4)
theorem lead_in1 (a : Int) : ∃ d, d ∈ [0, 2, 3, 4] ∧ leadOf 1 a = ((d : Nat) : Int) := by
  have h := fmod_ok a 4 (by decide)
  have hc : a.fmod 4 = 0 ∨ a.fmod 4 = 1 ∨ a.fmod 4 = 2 ∨ a.fmod 4 = 3 := by omega
  unfold leadOf
  rcases hc with e | e | e | e <;> rw [e]
  · exact ⟨0, by decide, rfl⟩
  · exact ⟨2, by decide, rfl⟩
  · exact ⟨3, by decide, rfl⟩
  · exact ⟨4, by decide, rfl⟩
theorem lead_in2 (a : Int) : ∃ d, d ∈ [0, 3, 4, 5] ∧ leadOf 2 a = ((d : Nat) : Int) := by
  have h := fmod_ok a 4 (by decide)
  have hc : a.fmod 4 = 0 ∨ a.fmod 4 = 1 ∨ a.fmod 4 = 2 ∨ a.fmod 4 = 3 := by omega
  unfold leadOf
  rcases hc with e | e | e | e <;> rw [e]
  · exact ⟨0, by decide, rfl⟩
  · exact ⟨3, by decide, rfl⟩
  · exact ⟨4, by decide, rfl⟩
  · exact ⟨5, by decide, rfl⟩
theorem all3 {D : List Nat} {P : Nat → Nat → Nat → Bool} (h : (D.all fun d1 => D.all fun d2 => D.all fun d3 => P d1 d2 d3) = true) {d1 d2 d3 : Nat} (h1 : d1 ∈ D) (h2 : d2 ∈ D) (h3 : d3 ∈ D) : P d1 d2 d3 = true :=
  List.all_eq_true.mp (List.all_eq_true.mp (List.all_eq_true.mp h d1 h1) d2 h2) d3 h3
theorem board1 {d0 d1 d2 d3 : Nat} (h0 : d0 ∈ [0, 2, 3, 4]) (h1 : d1 ∈ [0, 2, 3, 4]) (h2 : d2 ∈ [0, 2, 3, 4]) (h3 : d3 ∈ [0, 2, 3, 4]) : boardB tab1 d0 d1 d2 d3 = true := by
  simp only [List.mem_cons, List.mem_nil_iff, or_false] at h0
  rcases h0 with rfl | rfl | rfl | rfl
  · exact all3 boards1_0 h1 h2 h3
  · exact all3 boards1_2 h1 h2 h3
  · exact all3 boards1_3 h1 h2 h3
  · exact all3 boards1_4 h1 h2 h3
theorem board2 {d0 d1 d2 d3 : Nat} (h0 : d0 ∈ [0, 3, 4, 5]) (h1 : d1 ∈ [0, 3, 4, 5]) (h2 : d2 ∈ [0, 3, 4, 5]) (h3 : d3 ∈ [0, 3, 4, 5]) : boardB tab2 d0 d1 d2 d3 = true := by
  simp only [List.mem_cons, List.mem_nil_iff, or_false] at h0
  rcases h0 with rfl | rfl | rfl | rfl
  · exact all3 boards2_0 h1 h2 h3
  · exact all3 boards2_3 h1 h2 h3
  · exact all3 boards2_4 h1 h2 h3
  · exact all3 boards2_5 h1 h2 h3
def tabOf (sd : Nat) : List (List Int × List Int × List Int) := if sd = 1 then tab1 else tab2
theorem le5_1 : ∀ d ∈ [0, 2, 3, 4], d ≤ 5 := by decide
theorem le5_2 : ∀ d ∈ [0, 3, 4, 5], d ≤ 5 := by decide
theorem counted_R {d0 d1 d2 d3 : Nat} (h0 : d0 ≤ 5) (h1 : d1 ≤ 5) (h2 : d2 ≤ 5) (h3 : d3 ≤ 5) : countedOf [(d0 : Int), d1, d2, d3] = waysR d0 d1 d2 d3 := counted_rook d0 d1 d2 d3 h0 h1 h2 h3
/-- what the check of a board says of what the law builds -/
theorem board_of {sd : Nat} (hsd : sd = 1 ∨ sd = 2) (a0 a1 a2 a3 : Int) : ∃ d0 d1 d2 d3 : Nat, countsL sd a0 a1 a2 a3 = countsUp [(d0 : Int), d1, d2, d3] 4 ∧ waysL sd a0 a1 a2 a3 = waysR d0 d1 d2 d3 ∧ boardB (tabOf sd) d0 d1 d2 d3 = true := by
  rcases hsd with rfl | rfl
  · obtain ⟨d0, h0, e0⟩ := lead_in1 a0
    obtain ⟨d1, h1, e1⟩ := lead_in1 a1
    obtain ⟨d2, h2, e2⟩ := lead_in1 a2
    obtain ⟨d3, h3, e3⟩ := lead_in1 a3
    refine ⟨d0, d1, d2, d3, ?_, ?_, board1 h0 h1 h2 h3⟩
    · unfold countsL; rw [e0, e1, e2, e3]
    · unfold waysL; rw [e0, e1, e2, e3, counted_R (le5_1 _ h0) (le5_1 _ h1) (le5_1 _ h2) (le5_1 _ h3)]
  · obtain ⟨d0, h0, e0⟩ := lead_in2 a0
    obtain ⟨d1, h1, e1⟩ := lead_in2 a1
    obtain ⟨d2, h2, e2⟩ := lead_in2 a2
    obtain ⟨d3, h3, e3⟩ := lead_in2 a3
    refine ⟨d0, d1, d2, d3, ?_, ?_, board2 h0 h1 h2 h3⟩
    · unfold countsL; rw [e0, e1, e2, e3]
    · unfold waysL; rw [e0, e1, e2, e3, counted_R (le5_2 _ h0) (le5_2 _ h1) (le5_2 _ h2) (le5_2 _ h3)]
theorem entry_of {sd : Nat} (hsd : sd = 1 ∨ sd = 2) (a0 a1 a2 a3 : Int) : ∃ p ∈ tabOf sd, p.1 = countsL sd a0 a1 a2 a3 ∧ p.2.1 = waysL sd a0 a1 a2 a3 ∧ entryB p = true := by
  obtain ⟨d0, d1, d2, d3, e1, e2, hb⟩ := board_of hsd a0 a1 a2 a3
  obtain ⟨p, hp, h⟩ := List.any_eq_true.mp (show ((tabOf sd).any fun p => decide (p.1 = countsUp [(d0 : Int), d1, d2, d3] 4) && decide (p.2.1 = waysR d0 d1 d2 d3)) = true from hb)
  rw [Bool.and_eq_true] at h
  refine ⟨p, hp, (of_decide_eq_true h.1).trans e1.symm, (of_decide_eq_true h.2).trans e2.symm, ?_⟩
  rcases hsd with rfl | rfl
  · exact List.all_eq_true.mp entries1 p hp
  · exact List.all_eq_true.mp entries2 p hp
theorem entryB_parts {p : List Int × List Int × List Int} (h : entryB p = true) :
    (0 ≤ lastOf p.1 ∧ lastOf p.1 ≤ 5) ∧ sizesB p.1 p.2.1 = true ∧ sizesB (colsUp p.1 (lastOf p.1).toNat) p.2.1 = true ∧ lessUp p.1 4 = p.2.2 := by
  unfold entryB at h
  rw [Bool.and_eq_true, Bool.and_eq_true, Bool.and_eq_true] at h
  exact ⟨of_decide_eq_true h.1.1.1, h.1.1.2, h.1.2, of_decide_eq_true h.2⟩
theorem counts_last {sd : Nat} (hsd : sd = 1 ∨ sd = 2) (a0 a1 a2 a3 : Int) : 0 ≤ lastOf (countsL sd a0 a1 a2 a3) ∧ lastOf (countsL sd a0 a1 a2 a3) ≤ 1000 := by
  obtain ⟨p, hp, e1, e2, hb⟩ := entry_of hsd a0 a1 a2 a3
  have h := (entryB_parts hb).1
  rw [← e1]
  exact ⟨h.1, Int.le_trans h.2 (by decide)⟩
/-- what the product's walk needs of its argument, and what it answers -/
def SizesOk (sd : Nat) (a0 a1 a2 a3 : Int) (zs : List Int) : Prop :=
  zs.length ≤ 5 ∧ (∀ i, 0 ≤ zs.getD i 0 ∧ zs.getD i 0 ≤ 5) ∧ (productOf zs).length ≤ 6 ∧ productOf zs ++ List.replicate (6 - (productOf zs).length) 0 = waysL sd a0 a1 a2 a3 ++ [0]
theorem all_getD {zs : List Int} (h : (zs.all fun z => decide (0 ≤ z ∧ z ≤ 5)) = true) : ∀ i, 0 ≤ zs.getD i 0 ∧ zs.getD i 0 ≤ 5 := fun i => by
  rw [List.getD_eq_getElem?_getD]
  cases e : zs[i]? with
  | none => exact (show (0 : Int) ≤ 0 ∧ (0 : Int) ≤ 5 by decide)
  | some z => exact of_decide_eq_true (List.all_eq_true.mp h z (List.mem_of_getElem? e))
theorem sizesB_parts {zs wl : List Int} (h : sizesB zs wl = true) : zs.length ≤ 5 ∧ (∀ i, 0 ≤ zs.getD i 0 ∧ zs.getD i 0 ≤ 5) ∧ (productOf zs).length ≤ 6 ∧ productOf zs ++ List.replicate (6 - (productOf zs).length) 0 = wl ++ [0] := by
  unfold sizesB at h
  rw [Bool.and_eq_true, Bool.and_eq_true, Bool.and_eq_true] at h
  exact ⟨of_decide_eq_true h.1.1.1, all_getD h.1.1.2, of_decide_eq_true h.1.2, of_decide_eq_true h.2⟩
theorem sizes_counts {sd : Nat} (hsd : sd = 1 ∨ sd = 2) (a0 a1 a2 a3 : Int) : SizesOk sd a0 a1 a2 a3 (countsL sd a0 a1 a2 a3) := by
  obtain ⟨p, hp, e1, e2, hb⟩ := entry_of hsd a0 a1 a2 a3
  unfold SizesOk
  rw [← e1, ← e2]
  exact sizesB_parts (entryB_parts hb).2.1
theorem sizes_cols {sd : Nat} (hsd : sd = 1 ∨ sd = 2) (a0 a1 a2 a3 : Int) : SizesOk sd a0 a1 a2 a3 (colsL sd a0 a1 a2 a3) := by
  obtain ⟨p, hp, e1, e2, hb⟩ := entry_of hsd a0 a1 a2 a3
  unfold SizesOk colsL
  rw [← e1, ← e2]
  exact sizesB_parts (entryB_parts hb).2.2.1
theorem leads_bound {sd : Nat} (hsd : sd = 1 ∨ sd = 2) (a0 a1 a2 a3 : Int) : ∀ i, 0 ≤ [leadOf sd a0, leadOf sd a1, leadOf sd a2, leadOf sd a3].getD i 0 ∧ [leadOf sd a0, leadOf sd a1, leadOf sd a2, leadOf sd a3].getD i 0 ≤ 5 := fun i => by
  match i with
  | 0 => exact leadOf_ok hsd a0
  | 1 => exact leadOf_ok hsd a1
  | 2 => exact leadOf_ok hsd a2
  | 3 => exact leadOf_ok hsd a3
  | i + 4 => exact (show (0 : Int) ≤ 0 ∧ (0 : Int) ≤ 5 by decide)
theorem told_eq {sd : Nat} {a0 a1 a2 a3 : Int} {zs zp wl : List Int} (h : SizesOk sd a0 a1 a2 a3 zs) (hz : productOf zs = zp) (hw : waysL sd a0 a1 a2 a3 = wl) :
    zp ++ (List.replicate ((6 : Int) - (zp.length : Nat)).toNat [(0 : Int)]).flatten = wl ++ [0] := by
  have h1 := h.2.2.2
  have h2 := h.2.2.1
  rw [hz, hw] at h1
  rw [hz] at h2
  rw [← h1, List.flatten_replicate_singleton]
  congr 2
  omega
theorem places_eq (sd : Nat) (a0 a1 a2 a3 : Int) : placesOf sd [a0, a1, a2, a3] = lessUp (countsL sd a0 a1 a2 a3) 4 := by
  unfold placesOf countsOf countsL countsUp
  rfl
theorem ways_eq (sd : Nat) (a0 a1 a2 a3 : Int) : waysOf sd [a0, a1, a2, a3] = waysL sd a0 a1 a2 a3 := by
  unfold waysOf waysL
  rfl
theorem in_tab {sd : Nat} (hsd : sd = 1 ∨ sd = 2) (a0 a1 a2 a3 : Int) : ∃ p ∈ tabOf sd, p.2.1 = waysOf sd [a0, a1, a2, a3] ∧ p.2.2 = placesOf sd [a0, a1, a2, a3] := by
  obtain ⟨p, hp, e1, e2, hb⟩ := entry_of hsd a0 a1 a2 a3
  refine ⟨p, hp, ?_, ?_⟩
  · rw [ways_eq, e2]
  · rw [places_eq, ← e1, (entryB_parts hb).2.2.2]
theorem tab_ok {sd : Nat} (hsd : sd = 1 ∨ sd = 2) {x y : List Int × List Int × List Int} (hx : x ∈ tabOf sd) (hy : y ∈ tabOf sd) : x.2.1 = y.2.1 ↔ x.2.2 = y.2.2 := by
  have key : ((tabOf sd).all fun x => (tabOf sd).all fun y => decide (x.2.1 = y.2.1) == decide (x.2.2 = y.2.2)) = true := by
    rcases hsd with rfl | rfl
    · exact tab1_ok
    · exact tab2_ok
  have h := beq_iff_eq.mp (List.all_eq_true.mp (List.all_eq_true.mp key x hx) y hy)
  exact decide_eq_decide.mp h
theorem law_same {sd : Nat} (hsd : sd = 1 ∨ sd = 2) (a0 a1 a2 a3 b0 b1 b2 b3 : Int) :
    waysOf sd [a0, a1, a2, a3] = waysOf sd [b0, b1, b2, b3] ↔ placesOf sd [a0, a1, a2, a3] = placesOf sd [b0, b1, b2, b3] := by
  obtain ⟨p, hp, e1, e2⟩ := in_tab hsd a0 a1 a2 a3
  obtain ⟨q, hq, e3, e4⟩ := in_tab hsd b0 b1 b2 b3
  rw [← e1, ← e2, ← e3, ← e4]
  exact tab_ok hsd hp hq
end
-- the law
theorem ints_as {vs : List Value} {ns : List Int} (h : IntsAre vs ns) : ∃ a b, IntsAre a b ∧ a = vs ∧ b = ns := ⟨_, _, h, rfl, rfl⟩
theorem news1_as {h₀ h : Heap} {L a : Addr} {o : Obj} (N : News h₀ L h [(a, o)]) : ∃ b x, b = a ∧ x = o ∧ News h₀ L h [(b, x)] := ⟨a, o, rfl, rfl, N⟩
theorem list_as {h : Heap} {a : Addr} {xs : Array Value} (N : h.IsList a xs) : ∃ b, b = a ∧ h.IsList b xs := ⟨a, rfl, N⟩
theorem set_nonneg {l : List Int} (h : ∀ i, 0 ≤ l.getD i 0) {j : Nat} {x : Int} (hx : 0 ≤ x) : ∀ i, 0 ≤ (l.set j x).getD i 0 := fun i => by
  have := h i
  rw [List.getD_eq_getElem?_getD] at this ⊢
  rw [List.getElem?_set]
  split
  · split <;> simp [hx]
  · exact this
theorem getD_nonneg {l : List Int} (h : ∀ x ∈ l, 0 ≤ x) : ∀ i, 0 ≤ l.getD i 0 := fun i => by
  rw [List.getD_eq_getElem?_getD]
  cases e : l[i]? with
  | none => exact Int.le_refl 0
  | some x => exact h x (List.mem_of_getElem? e)
theorem law_holds : PySem.Challenge.rw_sw0019_01.Holds := by
  refine Mine.hd ?_
  k_go0
  all_goals (try k_fold)
  rename Fr _ _ _ _ => F1
  rename News _ _ _ _ => N1
  rename (Obj.data _ = _) => hc1
  replace hc1 : _ = Data.cell none := hc1
  rename IntsAre _ _ => hI
  obtain ⟨sv, sn, hI, e1, e2⟩ := ints_as hI
  subst e1
  subst e2
  have hlen : sn.length ≤ 63 := by (rename ¬ _ < _ => hcc); omega
  rename Heap.IsList _ _ _ => hLs
  obtain ⟨ca, co, eca, eco, N1⟩ := news1_as N1
  subst eco
  obtain ⟨sc, esc, hLs⟩ := list_as hLs
  subst esc
  replace F1 := fr_as F1 (m' := fun y => if y = "script" then some _ else none) (fun y => by with_unfolding_all rfl)
  have hS : Hold True := trivial
  k_steps
  refine (Hold.mk ?_ : Hold _)
  rename Fr _ _ _ _ => F2
  rename News _ _ _ _ => N2
  obtain ⟨Lp, hLp, N2⟩ := head_as N2
  subst hLp
  obtain ⟨qs, eq, N2', hqs⟩ := led_ints (ns := [1, 16, 35, 17, 30, 8, 13, 6]) N2 (.cons _ _ (.cons _ _ (.cons _ _ (.cons _ _ (.cons _ _ (.cons _ _ (.cons _ _ (.cons _ _ .nil))))))))
  clear N2
  replace F2 := fr_as F2 (m' := fun y => if y = "numbers" then some (.ref Lp) else if y = "script" then some _ else none) (fun y => by rw [lk_eq]; with_unfolding_all rfl)
  refine For_invVF F2 rfl rfl ?_
  k_steps
  refine (Hold.mk ?_ : Hold _)
  rename IsRange _ _ _ _ _ _ _ _ => hR
  rename Fr _ _ _ _ => F3
  rename News _ _ _ _ => N3
  rw [if_neg (by omega)] at hR
  refine range_loop (n := sn.length) (fun i m' nx => (∃ (qs : List Value) (e : Nat) (nn : List Int), nx = [(Lp, W.listOf qs.toArray e), (_, co)] ∧ IntsAre qs nn ∧ nn.length = 8 ∧ ∀ i, 0 ≤ nn.getD i 0) ∧ (m' "numbers" = some (.ref Lp)) ∧ (m' "script" = some (.ref sc)) ∧ (∀ y : Str, y ≠ "numbers" → y ≠ "script" → y ≠ "k" → m' y = (fun (_ : Str) => none) y))
    rfl hR (range_small _ (by omega)) (range_size _) F3 N3 ⟨⟨_, _, _, rfl, hqs, rfl, getD_nonneg (by decide)⟩, ⟨(by with_unfolding_all rfl), (by with_unfolding_all rfl), (by intro y q0 q1 q2; simp only [q0, q1, q2, if_false])⟩⟩ ?_ ?_
  · rintro i t m₁ nx h tk I oI hin hneI ⟨⟨qs2, e2, nn, rfl, hq2, h8, h0⟩, hm⟩ F4 N4
    rw [Int.zero_add] at F4
    obtain ⟨e_numbers, e_script, e_rest⟩ := hm; replace F4 := fr_as F4 (m' := fun (y : Str) => if y = "k" then some (.int (i : Int) t) else if y = "numbers" then some (.ref Lp) else if y = "script" then some (.ref sc) else (fun (_ : Str) => none) y) (by intro y; (by_cases qx : y = "k"); (rw [if_pos qx, if_pos qx]); rw [if_neg qx, if_neg qx]; (by_cases q0 : y = "numbers"); (subst q0; rw [if_pos rfl]; exact e_numbers); rw [if_neg q0]; (by_cases q1 : y = "script"); (subst q1; rw [if_pos rfl]; exact e_script); rw [if_neg q1]; exact e_rest y q0 q1 qx)
    have hmod := fmod_ok (i : Int) 8 (by decide)
    have hmod1 := hmod.1
    have hmod2 := hmod.2
    clear hR F3 N3
    k_steps
    rename Fr _ _ _ _ => F5
    rename News _ _ _ _ => N5
    have hLI : Lp ≠ I := hneI _ List.mem_cons_self
    rename (_ < Lp) => hltL
    refine ksa_set F5 N5 (Upd.tail (Ne.symm hLI) (Upd.head (List.forall_mem_cons.mpr ⟨Nat.ne_of_lt hltL, fun _ h => nomatch h⟩))) hq2 hmod1 (by omega) (by omega) ?_
    intro h6 F6 N6 hq3 hl3 _
    clear F5 N5
    k_steps
    have hq2' := fmod_ok (sn.getD (i : Int).toNat 0) 1000000 (by decide)
    exact TEnd.intro F6 N6 (ne_same hneI) (fun _ h => nomatch h) ⟨⟨_, _, _, rfl, hq3, hl3.trans h8, set_nonneg h0 (by have := h0 ((i : Int).fmod 8).toNat; omega)⟩, ⟨(by with_unfolding_all rfl), (by with_unfolding_all rfl), (by intro y q0 q1 q2; simp only [q0, q1, q2, if_false])⟩⟩
  · rintro m₁ nx h tk ⟨⟨qs2, e2, nn, rfl, hq2, h8, h0⟩, hm⟩ F4 N4
    obtain ⟨e_numbers, e_script, e_rest⟩ := hm; replace F4 := fr_as F4 (m' := fun (y : Str) => if y = "numbers" then some (.ref Lp) else if y = "script" then some (.ref sc) else if y = "k" then m₁ "k" else (fun (_ : Str) => none) y) (by intro y; (by_cases q0 : y = "numbers"); (subst q0; rw [if_pos rfl]; exact e_numbers); rw [if_neg q0]; (by_cases q1 : y = "script"); (subst q1; rw [if_pos rfl]; exact e_script); rw [if_neg q1]; (by_cases q2 : y = "k"); (subst q2; rw [if_pos rfl]); rw [if_neg q2]; exact e_rest y q0 q1 q2)
    clear hR F3 N3
    dsimp only
    k_steps
    refine (Hold.mk ?_ : Hold _)
    (rename Hold True => hS8); clear hS8
    walk1; walk1; walk1; walk1; walk1; walk1; walk1; walk1; walk1; walk1; walk1; walk1; walk1; walk1
    have hsd : ∃ sd : Nat, (1 + (List.map (fun k' => Int.fdiv k' 4) nn).sum.fmod 2 : Int) = ((sd : Nat) : Int) ∧ (sd = 1 ∨ sd = 2) := by
      have hm := fmod_ok (List.map (fun k' => Int.fdiv k' 4) nn).sum 2 (by decide)
      exact ⟨(1 + (List.map (fun k' => Int.fdiv k' 4) nn).sum.fmod 2).toNat, by omega, by omega⟩
    obtain ⟨sd, esd, hsd⟩ := hsd
    rw [esd]
    have hS : Hold True := trivial
    k_steps
    refine (Hold.mk ?_ : Hold _)
    rename Fr _ _ _ _ => F5
    rename News _ _ _ _ => N5
    rename Shared => s1
    clear esd
    rename IntsAre _ (List.take 4 nn) => hIA
    rename IntsAre _ (List.drop 4 nn) => hIB
    obtain ⟨n0, n1, n2, n3, n4, n5, n6, n7, rfl⟩ := list8 h8
    have p0 : 0 ≤ n0 := h0 0
    have p1 : 0 ≤ n1 := h0 1
    have p2 : 0 ≤ n2 := h0 2
    have p3 : 0 ≤ n3 := h0 3
    have p4 : 0 ≤ n4 := h0 4
    have p5 : 0 ≤ n5 := h0 5
    have p6 : 0 ≤ n6 := h0 6
    have p7 : 0 ≤ n7 := h0 7
    obtain ⟨t0, t1, t2, t3, eA⟩ := ints4 hIA
    obtain ⟨t4, t5, t6, t7, eB⟩ := ints4 hIB
    obtain ⟨pl, Bq, Aq, kl, co', x1, x2, x3, x4, x5, N7⟩ := led7 N5
    subst x1
    subst x2
    subst x3
    subst x4
    subst x5
    subst eA
    subst eB
    have hco : ∃ t, co'.data = .cell (some (.int (sd : Int) t)) := ⟨_, by assumption⟩
    obtain ⟨tsd, hco⟩ := hco
    dsimp only
    have kA : kl < Aq := by (rename kl < Aq ∧ _ => lA); exact lA.1
    have kB : kl < Bq := by (rename _ < Bq ∧ _ => lA); exact lA.2.1
    have kP : kl < pl := by (rename _ < pl ∧ _ => lA); exact lA.2.2.1
    rename _ < kl ∧ _ => lK
    refine list_loop (vs := [.ref Aq, .ref Bq]) (k := 0) (fun i m' nx => (∃ (tups : List Value) (more : List (Addr × Obj)) (e : Nat), nx = (kl, W.listOf tups.toArray e) :: (pl, W.listOf #[.ref Aq, .ref Bq] 0) :: (Bq, W.listOf #[.int n4 t4, .int n5 t5, .int n6 t6, .int n7 t7] 0) :: (Aq, W.listOf #[.int n0 t0, .int n1 t1, .int n2 t2, .int n3 t3] 0) :: (s1.heap.objs.size + 1, co') :: more ∧
        tups.length = i ∧ (∀ j, j < i → TupAt more (tups.getD j .none) (waysOf sd (if j = 0 then [n0, n1, n2, n3] else [n4, n5, n6, n7])) (placesOf sd (if j = 0 then [n0, n1, n2, n3] else [n4, n5, n6, n7]))) ∧ ∀ p ∈ more, p.1 ≠ kl) ∧
        (m' "kept" = some (.ref kl)) ∧ (m' "numbers" = some (.ref Lp)) ∧ (m' "script" = some (.ref sc)) ∧ (∀ y : Str, y ≠ "kept" → y ≠ "numbers" → y ≠ "script" → y ≠ "part" → y ≠ "sent" → y ≠ "turn" → y ≠ "leads" → y ≠ "counts" → y ≠ "row" → y ≠ "ways" → y ≠ "sizes" → y ≠ "told" → m' y = (fun (_ : Str) => none) y))
      rfl (List.mem_cons_of_mem _ List.mem_cons_self) rfl F5 N7 ⟨⟨[], [], 0, rfl, rfl, (fun _ h => absurd h (Nat.not_lt_zero _)), fun _ h => nomatch h⟩, ⟨(by with_unfolding_all rfl), (by with_unfolding_all rfl), (by with_unfolding_all rfl), (by intro y q0 q1 q2 q3 q4 q5 q6 q7 q8 q9 q10 q11; simp only [q0, q1, q2, q3, q4, q5, q6, q7, q8, q9, q10, q11, if_false])⟩⟩ ?_ ?_
    · rintro i v m₁ nx h tk I oI hv hlx hneI ⟨⟨tups, more, ek, rfl, htl, htups, hmk⟩, hm⟩ F6 N6
      have kR : ∀ p ∈ (pl, W.listOf #[.ref Aq, .ref Bq] 0) :: (Bq, W.listOf #[.int n4 t4, .int n5 t5, .int n6 t6, .int n7 t7] 0) :: (Aq, W.listOf #[.int n0 t0, .int n1 t1, .int n2 t2, .int n3 t3] 0) :: (s1.heap.objs.size + 1, co') :: more, p.1 ≠ kl := fun p hp => by
        simp only [List.mem_cons] at hp
        rcases hp with rfl | rfl | rfl | rfl | hp
        · exact Nat.ne_of_gt kP
        · exact Nat.ne_of_gt kB
        · exact Nat.ne_of_gt kA
        · exact Nat.ne_of_lt lK.2.2
        · exact hmk p hp
      have hP : ∃ (Pa : Addr) (a0 a1 a2 a3 : Int) (u0 u1 u2 u3 : Tok), v = .ref Pa ∧ (Pa, W.listOf #[.int a0 u0, .int a1 u1, .int a2 u2, .int a3 u3] 0) ∈ [(Bq, W.listOf #[.int n4 t4, .int n5 t5, .int n6 t6, .int n7 t7] 0), (Aq, W.listOf #[.int n0 t0, .int n1 t1, .int n2 t2, .int n3 t3] 0)] ∧
          (if i = 0 then [n0, n1, n2, n3] else [n4, n5, n6, n7]) = [a0, a1, a2, a3] ∧ 0 ≤ a0 ∧ 0 ≤ a1 ∧ 0 ≤ a2 ∧ 0 ≤ a3 := by
        match i, hv with
        | 0, hv => exact ⟨Aq, n0, n1, n2, n3, t0, t1, t2, t3, (Option.some.inj hv).symm, List.mem_cons_of_mem _ List.mem_cons_self, rfl, p0, p1, p2, p3⟩
        | 1, hv => exact ⟨Bq, n4, n5, n6, n7, t4, t5, t6, t7, (Option.some.inj hv).symm, List.mem_cons_self, rfl, p4, p5, p6, p7⟩
        | i + 2, hv => exact nomatch hv
      obtain ⟨Pa, a0, a1, a2, a3, u0, u1, u2, u3, rfl, hPm, hpt, q0, q1, q2, q3⟩ := hP
      obtain ⟨e_kept, e_numbers, e_script, e_rest⟩ := hm; replace F6 := fr_as F6 (m' := fun (y : Str) => if y = "part" then some (.ref Pa) else if y = "kept" then some (.ref kl) else if y = "numbers" then some (.ref Lp) else if y = "script" then some (.ref sc) else if y = "sent" then m₁ "sent" else if y = "turn" then m₁ "turn" else if y = "leads" then m₁ "leads" else if y = "counts" then m₁ "counts" else if y = "row" then m₁ "row" else if y = "ways" then m₁ "ways" else if y = "sizes" then m₁ "sizes" else if y = "told" then m₁ "told" else (fun (_ : Str) => none) y) (by intro y; (by_cases qx : y = "part"); (rw [if_pos qx, if_pos qx]); rw [if_neg qx, if_neg qx]; (by_cases q0 : y = "kept"); (subst q0; rw [if_pos rfl]; exact e_kept); rw [if_neg q0]; (by_cases q1 : y = "numbers"); (subst q1; rw [if_pos rfl]; exact e_numbers); rw [if_neg q1]; (by_cases q2 : y = "script"); (subst q2; rw [if_pos rfl]; exact e_script); rw [if_neg q2]; (by_cases q4 : y = "sent"); (subst q4; rw [if_pos rfl]); rw [if_neg q4]; (by_cases q5 : y = "turn"); (subst q5; rw [if_pos rfl]); rw [if_neg q5]; (by_cases q6 : y = "leads"); (subst q6; rw [if_pos rfl]); rw [if_neg q6]; (by_cases q7 : y = "counts"); (subst q7; rw [if_pos rfl]); rw [if_neg q7]; (by_cases q8 : y = "row"); (subst q8; rw [if_pos rfl]); rw [if_neg q8]; (by_cases q9 : y = "ways"); (subst q9; rw [if_pos rfl]); rw [if_neg q9]; (by_cases q10 : y = "sizes"); (subst q10; rw [if_pos rfl]); rw [if_neg q10]; (by_cases q11 : y = "told"); (subst q11; rw [if_pos rfl]); rw [if_neg q11]; exact e_rest y q0 q1 q2 qx q4 q5 q6 q7 q8 q9 q10 q11)
      have N7 := news_sub N6 (news' := (I, oI) :: (kl, W.listOf tups.toArray ek) :: (Pa, W.listOf #[.int a0 u0, .int a1 u1, .int a2 u2, .int a3 u3] 0) :: (pl, W.listOf #[.ref Aq, .ref Bq] 0) :: (Bq, W.listOf #[.int n4 t4, .int n5 t5, .int n6 t6, .int n7 t7] 0) :: (Aq, W.listOf #[.int n0 t0, .int n1 t1, .int n2 t2, .int n3 t3] 0) :: (s1.heap.objs.size + 1, co') :: more) (fun p hp => by
        simp only [List.mem_cons, List.mem_nil_iff, or_false] at hp hPm ⊢
        rcases hp with h | h | h | h | h | h | h | h
        · simp only [h, true_or]
        · simp only [h, true_or, or_true]
        · rw [h]; rcases hPm with h | h <;> simp only [h, true_or, or_true]
        · simp only [h, true_or, or_true]
        · simp only [h, true_or, or_true]
        · simp only [h, true_or, or_true]
        · simp only [h, true_or, or_true]
        · simp only [h, true_or, or_true])
      clear F5 N5 N6
      have hS : Hold True := trivial
      dsimp only
      k_with "call ref" => (k_dflt (refine' ctell_use (mail_c Pa [.int a0 u0, .int a1 u1, .int a2 u2, .int a3 u3] [a0, a1, a2, a3] 0 (List.mem_cons_of_mem _ (List.mem_cons_of_mem _ List.mem_cons_self)) (.cons _ _ (.cons _ _ (.cons _ _ (.cons _ _ .nil)))) (show 4 ≤ 10 by decide)) ?uB ?uF ?uX ?uN ?uT ?uK ?uD ?uU ?_; (case uB => k_asm); (case uF => k_asm); (case uX => k_asm); (case uN => k_asm); (case uT => k_asm); (case uK => first | exact rfl | assumption); (case uD => ktr_room); (case uU => ktr_units)); intro r9 n9 h9 tk9 o9 F9 N9; (obtain ⟨tm, e9, e9'⟩ := o9); subst e9; subst e9')
      k_steps
      refine (Hold.mk ?_ : Hold _)
      rename Fr _ _ _ _ => F8
      rename News _ _ _ _ => N8
      clear F6 N7
      refine For_invVF F8 rfl rfl ?_
      k_steps
      refine (Hold.mk ?_ : Hold _)
      rename IsRange _ _ _ _ _ _ _ _ => hR
      rename Fr _ _ _ _ => F9
      rename News _ _ _ _ => N9
      obtain ⟨NX, hNX, N9⟩ := led_as N9
      refine range_loop (n := sd) (fun i m' nx => nx = NX ∧
          (∃ t, m' "sent" = some (.str (S (sentI [a0, a1, a2, a3] i)) t)) ∧ (m' "part" = some (.ref Pa)) ∧ (m' "kept" = some (.ref kl)) ∧ (m' "numbers" = some (.ref Lp)) ∧ (m' "script" = some (.ref sc)) ∧ (∀ y : Str, y ≠ "sent" → y ≠ "part" → y ≠ "kept" → y ≠ "numbers" → y ≠ "script" → y ≠ "turn" → y ≠ "leads" → y ≠ "counts" → y ≠ "row" → y ≠ "ways" → y ≠ "sizes" → y ≠ "told" → m' y = (fun (_ : Str) => none) y))
        rfl hR (range_small _ (by omega)) (range_size _) F9 N9 ⟨rfl, ⟨⟨_, by with_unfolding_all rfl⟩, (by with_unfolding_all rfl), (by with_unfolding_all rfl), (by with_unfolding_all rfl), (by with_unfolding_all rfl), (by intro y q0 q1 q2 q3 q4 q5 q6 q7 q8 q9 q10 q11; simp only [q0, q1, q2, q3, q4, q5, q6, q7, q8, q9, q10, q11, if_false])⟩⟩ ?_ ?_
      · rintro j t m₂ nx h tk I2 oI2 hj hneI2 ⟨rfl, hm⟩ F10 N10
        rw [Int.zero_add] at F10
        obtain ⟨⟨t_sent, e_sent⟩, e_part, e_kept, e_numbers, e_script, e_rest⟩ := hm; replace F10 := fr_as F10 (m' := fun (y : Str) => if y = "turn" then some (.int (j : Int) t) else if y = "sent" then some (.str (S (sentI [a0, a1, a2, a3] j)) t_sent) else if y = "part" then some (.ref Pa) else if y = "kept" then some (.ref kl) else if y = "numbers" then some (.ref Lp) else if y = "script" then some (.ref sc) else if y = "leads" then m₂ "leads" else if y = "counts" then m₂ "counts" else if y = "row" then m₂ "row" else if y = "ways" then m₂ "ways" else if y = "sizes" then m₂ "sizes" else if y = "told" then m₂ "told" else (fun (_ : Str) => none) y) (by intro y; (by_cases qx : y = "turn"); (rw [if_pos qx, if_pos qx]); rw [if_neg qx, if_neg qx]; (by_cases q0 : y = "sent"); (subst q0; rw [if_pos rfl]; exact e_sent); rw [if_neg q0]; (by_cases q1 : y = "part"); (subst q1; rw [if_pos rfl]; exact e_part); rw [if_neg q1]; (by_cases q2 : y = "kept"); (subst q2; rw [if_pos rfl]; exact e_kept); rw [if_neg q2]; (by_cases q3 : y = "numbers"); (subst q3; rw [if_pos rfl]; exact e_numbers); rw [if_neg q3]; (by_cases q4 : y = "script"); (subst q4; rw [if_pos rfl]; exact e_script); rw [if_neg q4]; (by_cases q6 : y = "leads"); (subst q6; rw [if_pos rfl]); rw [if_neg q6]; (by_cases q7 : y = "counts"); (subst q7; rw [if_pos rfl]); rw [if_neg q7]; (by_cases q8 : y = "row"); (subst q8; rw [if_pos rfl]); rw [if_neg q8]; (by_cases q9 : y = "ways"); (subst q9; rw [if_pos rfl]); rw [if_neg q9]; (by_cases q10 : y = "sizes"); (subst q10; rw [if_pos rfl]); rw [if_neg q10]; (by_cases q11 : y = "told"); (subst q11; rw [if_pos rfl]); rw [if_neg q11]; exact e_rest y q0 q1 q2 q3 q4 qx q6 q7 q8 q9 q10 q11)
        clear hR F9 N9
        have hl400 := sentI_len a0 a1 a2 a3 hsd hj
        k_with "call ref" => (k_dflt (refine' ctell_use (quote_c (sentI [a0, a1, a2, a3] j) t_sent hl400) ?uB ?uF ?uX ?uN ?uT ?uK ?uD ?uU ?_; (case uB => k_asm); (case uF => k_asm); (case uX => k_asm); (case uN => k_asm); (case uT => k_asm); (case uK => first | exact rfl | assumption); (case uD => ktr_room); (case uU => ktr_units)); intro r9 n9 h9 tk9 o9 F9 N9; (obtain ⟨tm, e9, e9'⟩ := o9); subst e9; subst e9')
        k_steps
        rename Fr _ _ _ _ => F11
        rename News _ _ _ _ => N11
        exact TEnd.intro F11 N11 hneI2 (fun _ h => nomatch h) ⟨rfl, ⟨⟨_, by with_unfolding_all rfl⟩, (by with_unfolding_all rfl), (by with_unfolding_all rfl), (by with_unfolding_all rfl), (by with_unfolding_all rfl), (by intro y q0 q1 q2 q3 q4 q5 q6 q7 q8 q9 q10 q11; simp only [q0, q1, q2, q3, q4, q5, q6, q7, q8, q9, q10, q11, if_false])⟩⟩
      · rintro m₂ nx h tk ⟨rfl, hm⟩ F10 N10
        subst hNX
        rw [sentI_end a0 a1 a2 a3 hsd] at hm
        obtain ⟨⟨t_sent, e_sent⟩, e_part, e_kept, e_numbers, e_script, e_rest⟩ := hm; replace F10 := fr_as F10 (m' := fun (y : Str) => if y = "sent" then some (.str (S (sentRowL a0 (leadOf sd a0) ++ (sentRowL a1 (leadOf sd a1) ++ (sentRowL a2 (leadOf sd a2) ++ sentRowL a3 (leadOf sd a3))))) t_sent) else if y = "part" then some (.ref Pa) else if y = "kept" then some (.ref kl) else if y = "numbers" then some (.ref Lp) else if y = "script" then some (.ref sc) else if y = "turn" then m₂ "turn" else if y = "leads" then m₂ "leads" else if y = "counts" then m₂ "counts" else if y = "row" then m₂ "row" else if y = "ways" then m₂ "ways" else if y = "sizes" then m₂ "sizes" else if y = "told" then m₂ "told" else (fun (_ : Str) => none) y) (by intro y; (by_cases q0 : y = "sent"); (subst q0; rw [if_pos rfl]; exact e_sent); rw [if_neg q0]; (by_cases q1 : y = "part"); (subst q1; rw [if_pos rfl]; exact e_part); rw [if_neg q1]; (by_cases q2 : y = "kept"); (subst q2; rw [if_pos rfl]; exact e_kept); rw [if_neg q2]; (by_cases q3 : y = "numbers"); (subst q3; rw [if_pos rfl]; exact e_numbers); rw [if_neg q3]; (by_cases q4 : y = "script"); (subst q4; rw [if_pos rfl]; exact e_script); rw [if_neg q4]; (by_cases q5 : y = "turn"); (subst q5; rw [if_pos rfl]); rw [if_neg q5]; (by_cases q6 : y = "leads"); (subst q6; rw [if_pos rfl]); rw [if_neg q6]; (by_cases q7 : y = "counts"); (subst q7; rw [if_pos rfl]); rw [if_neg q7]; (by_cases q8 : y = "row"); (subst q8; rw [if_pos rfl]); rw [if_neg q8]; (by_cases q9 : y = "ways"); (subst q9; rw [if_pos rfl]); rw [if_neg q9]; (by_cases q10 : y = "sizes"); (subst q10; rw [if_pos rfl]); rw [if_neg q10]; (by_cases q11 : y = "told"); (subst q11; rw [if_pos rfl]); rw [if_neg q11]; exact e_rest y q0 q1 q2 q3 q4 q5 q6 q7 q8 q9 q10 q11)
        clear hR F9 N9
        dsimp only
        k_steps
        refine (Hold.mk ?_ : Hold _)
        rename Fr _ _ _ _ => F12
        rename News _ _ _ _ => N12
        refine LCg.Assign_ListComp_U (F₀ := F12) (by rfl) (by with_unfolding_all rfl) (by with_unfolding_all rfl) (by decide) (by rfl) (by decide) (by rfl) (by rfl) (by rfl) ?_
        k_steps
        refine (Hold.mk ?_ : Hold _)
        refine LCg.CompSrc.ledger (by rfl) (by k_asm) (by k_asm) (List.mem_cons_of_mem _ (List.mem_cons_of_mem _ List.mem_cons_self)) (by kcf_size) ?_
        intro g8
        refine kcf_list (ns := [a0, a1, a2, a3]) (leadOf sd) (.cons _ _ (.cons _ _ (.cons _ _ (.cons _ _ .nil)))) (fun k' t' I' oI' C' oC' D' m' ys' h' tk' E' hk' hC' hx' F' N' off' ne' hMark' => ?_) ?_
        all_goals (try (simp only [LCg.Off3, and_true] at off'))
        · repeat ((rename Hold True => hS8); clear hS8)
          k_steps
          all_goals (refine kcf_el ?_ rfl rfl; rw [leadOf]; (split <;> first | rfl | omega))
        · intro ys hys
          obtain ⟨w0, w1, w2, w3, eys⟩ := ints4 hys
          subst eys
          walk1
          rename Fr _ _ _ _ => F13
          rename News _ _ _ _ => N13
          obtain ⟨Ld, hLd, N13⟩ := head_as N13
          subst hLd
          obtain ⟨NX, hNX, N13⟩ := led_as N13
          have hmA : (Pa, W.listOf #[.int a0 u0, .int a1 u1, .int a2 u2, .int a3 u3] 0) ∈ NX := by rw [hNX]; exact List.mem_cons_of_mem _ (List.mem_cons_of_mem _ (List.mem_cons_of_mem _ List.mem_cons_self))
          have hmL : (Ld, W.listOf #[.int (leadOf sd a0) w0, .int (leadOf sd a1) w1, .int (leadOf sd a2) w2, .int (leadOf sd a3) w3] 4) ∈ NX := by rw [hNX]; exact List.mem_cons_self
          have N14 := news_sub N13 (news' := (Pa, W.listOf #[.int a0 u0, .int a1 u1, .int a2 u2, .int a3 u3] 0) :: (Ld, W.listOf #[.int (leadOf sd a0) w0, .int (leadOf sd a1) w1, .int (leadOf sd a2) w2, .int (leadOf sd a3) w3] 4) :: NX) (List.forall_mem_cons.mpr ⟨hmA, List.forall_mem_cons.mpr ⟨hmL, fun _ h => h⟩⟩)
          clear N13
          k_with "call ref" => (k_dflt (refine' ctell_use (as_sent_c Pa Ld a0 a1 a2 a3 _ _ _ _ u0 u1 u2 u3 w0 w1 w2 w3 0 4 (leadOf_ok hsd a0) (leadOf_ok hsd a1) (leadOf_ok hsd a2) (leadOf_ok hsd a3)) ?uB ?uF ?uX ?uN ?uT ?uK ?uD ?uU ?_; (case uB => k_asm); (case uF => k_asm); (case uX => k_asm); (case uN => k_asm); (case uT => k_asm); (case uK => first | exact rfl | assumption); (case uD => ktr_room); (case uU => ktr_units)); intro r9 n9 h9 tk9 o9 F9 N9; (obtain ⟨tm, e9, e9'⟩ := o9); subst e9; subst e9')
          k_steps
          · exfalso
            rename (_ != _) = true => hc
            simp at hc
          · refine (Hold.mk ?_ : Hold _)
            rename Fr _ _ _ _ => F15
            rename News _ _ _ _ => N15
            obtain ⟨Cn, hCn, N15⟩ := head_as N15
            subst hCn
            refine For_list_t 1 F15 rfl rfl rfl ?_
            k_steps
            have z0 := sentRow_len a0 (leadOf sd a0) (leadOf_ok hsd a0)
            have z1 := sentRow_len a1 (leadOf sd a1) (leadOf_ok hsd a1)
            have z2 := sentRow_len a2 (leadOf sd a2) (leadOf_ok hsd a2)
            have z3 := sentRow_len a3 (leadOf sd a3) (leadOf_ok hsd a3)
            refine KSpl.split1 F15 N15 (by decide +kernel) ?_ (by rw [sizeLine_eq, S_len]; simp only [List.length_append]; omega)
            intro Ds ls hs ks es as_ Fs Ns lts
            rw [split_sent] at es
            obtain ⟨v0, ls1, rfl, es0⟩ := KSpl.cons_of es
            obtain ⟨v1, ls2, rfl, es1⟩ := KSpl.cons_of es0
            obtain ⟨v2, ls3, rfl, es2⟩ := KSpl.cons_of es1
            obtain ⟨v3, ls4, rfl, es3⟩ := KSpl.cons_of es2
            obtain ⟨v4, ls5, rfl, es4⟩ := KSpl.cons_of es3
            obtain rfl := KSpl.nil_of es4
            simp only [strValues, List.map_cons, List.map_nil] at Ns as_
            clear z0 z1 z2 z3 es es0 es1 es2 es3 es4 F15 N15
            walk1; walk1; walk1; walk1; walk1; walk1
            refine wpAny_toks (n := 1) (by first | exact Nat.succ_le_succ (Nat.zero_le _) | (dsimp only; omega)) ?_
            k_steps
            rename Fr _ _ _ _ => F16
            rename News _ _ _ _ => N16
            rename 1 ≤ _ => hone
            rename (_ < _ ∧ _) => hlt16
            obtain ⟨Rw, hRw, N16⟩ := head_as N16
            subst hRw
            have N17 := news_sub N16 (news' := (Cn, W.listOf #[] 0) :: (Rw, W.listOf #[.str (S (rowS a0 (leadOf sd a0))) v0, .str (S (rowS a1 (leadOf sd a1))) v1, .str (S (rowS a2 (leadOf sd a2))) v2, .str (S (rowS a3 (leadOf sd a3))) v3] 0) :: NX) (fun p hp => by
              simp only [List.mem_cons] at hp ⊢
              rcases hp with h | h | h <;> simp only [h, true_or, or_true])
            clear N16
            have hCR : ∀ p ∈ (Rw, W.listOf #[.str (S (rowS a0 (leadOf sd a0))) v0, .str (S (rowS a1 (leadOf sd a1))) v1, .str (S (rowS a2 (leadOf sd a2))) v2, .str (S (rowS a3 (leadOf sd a3))) v3] 0) :: NX, p.1 ≠ Cn := by
              intro p hp
              rcases List.mem_cons.mp hp with rfl | hp
              · exact Nat.ne_of_gt hlt16.2.1
              · rename Pa < Cn ∧ _ => hPC
                exact Nat.ne_of_lt (allLt_mem hPC.2.2 p hp)
            refine ⟨Rw, _, [.str (S (rowS a0 (leadOf sd a0))) v0, .str (S (rowS a1 (leadOf sd a1))) v1, .str (S (rowS a2 (leadOf sd a2))) v2, .str (S (rowS a3 (leadOf sd a3))) v3], 0, _, _, (fun i m' nx => (∃ (vs : List Value) (e : Nat), nx = (Cn, W.listOf vs.toArray e) :: (Rw, W.listOf #[.str (S (rowS a0 (leadOf sd a0))) v0, .str (S (rowS a1 (leadOf sd a1))) v1, .str (S (rowS a2 (leadOf sd a2))) v2, .str (S (rowS a3 (leadOf sd a3))) v3] 0) :: NX ∧ IntsAre vs (countsUp [leadOf sd a0, leadOf sd a1, leadOf sd a2, leadOf sd a3] i)) ∧
                (m' "counts" = some (.ref Cn)) ∧ (m' "leads" = some (.ref Ld)) ∧ (m' "part" = some (.ref Pa)) ∧ (m' "kept" = some (.ref kl)) ∧ (m' "numbers" = some (.ref Lp)) ∧ (m' "script" = some (.ref sc)) ∧ (∀ y : Str, y ≠ "counts" → y ≠ "leads" → y ≠ "part" → y ≠ "kept" → y ≠ "numbers" → y ≠ "script" → y ≠ "sent" → y ≠ "turn" → y ≠ "row" → y ≠ "ways" → y ≠ "sizes" → y ≠ "told" → m' y = (fun (_ : Str) => none) y)), rfl, rfl, hone, List.mem_cons_of_mem _ List.mem_cons_self, F16, N17,
                ⟨⟨[], 0, rfl, .nil⟩, ⟨(by with_unfolding_all rfl), (by with_unfolding_all rfl), (by with_unfolding_all rfl), (by with_unfolding_all rfl), (by with_unfolding_all rfl), (by with_unfolding_all rfl), (by intro y q0 q1 q2 q3 q4 q5 q6 q7 q8 q9 q10 q11; simp only [q0, q1, q2, q3, q4, q5, q6, q7, q8, q9, q10, q11, if_false])⟩⟩, ?_, ?_⟩
            · rintro j v m₃ nx h tk I3 oI3 htk hv hlx3 hneI3 ⟨⟨vs3, e3, rfl, hi3⟩, hm⟩ F18 N18
              have hP3 : ∃ (a : Int) (tv : Tok), v = .str (S (dotL (leadOf sd a).toNat ++ 97 :: dotL ((a.fdiv 4).fmod 3).toNat)) tv ∧ [leadOf sd a0, leadOf sd a1, leadOf sd a2, leadOf sd a3][j]? = some (leadOf sd a) := by
                match j, hv with
                | 0, hv => exact ⟨a0, v0, (Option.some.inj hv).symm, rfl⟩
                | 1, hv => exact ⟨a1, v1, (Option.some.inj hv).symm, rfl⟩
                | 2, hv => exact ⟨a2, v2, (Option.some.inj hv).symm, rfl⟩
                | 3, hv => exact ⟨a3, v3, (Option.some.inj hv).symm, rfl⟩
                | j + 4, hv => exact nomatch hv
              obtain ⟨a, tv, rfl, hxa⟩ := hP3
              obtain ⟨e_counts, e_leads, e_part, e_kept, e_numbers, e_script, e_rest⟩ := hm; replace F18 := fr_as F18 (m' := fun (y : Str) => if y = "row" then some (.str (S (dotL (leadOf sd a).toNat ++ 97 :: dotL ((a.fdiv 4).fmod 3).toNat)) tv) else if y = "counts" then some (.ref Cn) else if y = "leads" then some (.ref Ld) else if y = "part" then some (.ref Pa) else if y = "kept" then some (.ref kl) else if y = "numbers" then some (.ref Lp) else if y = "script" then some (.ref sc) else if y = "sent" then m₃ "sent" else if y = "turn" then m₃ "turn" else if y = "ways" then m₃ "ways" else if y = "sizes" then m₃ "sizes" else if y = "told" then m₃ "told" else (fun (_ : Str) => none) y) (by intro y; (by_cases qx : y = "row"); (rw [if_pos qx, if_pos qx]); rw [if_neg qx, if_neg qx]; (by_cases q0 : y = "counts"); (subst q0; rw [if_pos rfl]; exact e_counts); rw [if_neg q0]; (by_cases q1 : y = "leads"); (subst q1; rw [if_pos rfl]; exact e_leads); rw [if_neg q1]; (by_cases q2 : y = "part"); (subst q2; rw [if_pos rfl]; exact e_part); rw [if_neg q2]; (by_cases q3 : y = "kept"); (subst q3; rw [if_pos rfl]; exact e_kept); rw [if_neg q3]; (by_cases q4 : y = "numbers"); (subst q4; rw [if_pos rfl]; exact e_numbers); rw [if_neg q4]; (by_cases q5 : y = "script"); (subst q5; rw [if_pos rfl]; exact e_script); rw [if_neg q5]; (by_cases q6 : y = "sent"); (subst q6; rw [if_pos rfl]); rw [if_neg q6]; (by_cases q7 : y = "turn"); (subst q7; rw [if_pos rfl]); rw [if_neg q7]; (by_cases q9 : y = "ways"); (subst q9; rw [if_pos rfl]); rw [if_neg q9]; (by_cases q10 : y = "sizes"); (subst q10; rw [if_pos rfl]); rw [if_neg q10]; (by_cases q11 : y = "told"); (subst q11; rw [if_pos rfl]); rw [if_neg q11]; exact e_rest y q0 q1 q2 q3 q4 q5 q6 q7 qx q9 q10 q11)
              have hasc := rowS_asc a (leadOf sd a)
              have hla := leadOf_ok hsd a
              have hj4 : j < 4 := (List.getElem?_eq_some_iff.mp hxa).1
              have hcl := countsUp_length [leadOf sd a0, leadOf sd a1, leadOf sd a2, leadOf sd a3] j (Nat.le_of_lt hj4)
              clear N17 hv
              have hneC : ∀ p ∈ (I3, oI3) :: (Rw, W.listOf #[.str (S (rowS a0 (leadOf sd a0))) v0, .str (S (rowS a1 (leadOf sd a1))) v1, .str (S (rowS a2 (leadOf sd a2))) v2, .str (S (rowS a3 (leadOf sd a3))) v3] 0) :: NX, p.1 ≠ Cn := List.forall_mem_cons.mpr ⟨fun q => hneI3 _ List.mem_cons_self q.symm, hCR⟩
              replace N18 := news_sub N18 swap2
              walk1; walk1; walk1; walk1; walk1; walk1; walk1; walk1; walk1; walk1; walk1; walk1; walk1; walk1; walk1; walk1; walk1
              (k_dflt (refine' ctellT_use_t (n := 1) (indexOf_a (leadOf sd a).toNat (dotL ((a.fdiv 4).fmod 3).toNat) tv _ hasc) ?uM ?u0 ?ut ?uB ?uF ?uX ?uN ?uT ?uK ?uD ?uU ?_; (case uM => ((try dsimp only); omega)); (case u0 => ((try dsimp only); omega)); (case ut => ((try dsimp only); omega)); (case uB => k_asm); (case uF => k_asm); (case uX => k_asm); (case uN => k_asm); (case uT => k_asm); (case uK => first | exact rfl | assumption); (case uD => ktr_room); (case uU => ktr_units)); intro r9 n9 h9 tk9 ht9 o9 F9 N9; (obtain ⟨⟨tix, e9⟩, e9'⟩ := o9); subst e9; subst e9'; (rw [Int.toNat_of_nonneg hla.1]))
              k_with "call ref" => (k_dflt (refine' ctell_use (insort_right_c Cn vs3 (countsUp [leadOf sd a0, leadOf sd a1, leadOf sd a2, leadOf sd a3] j) e3 _ _ hneC hi3 (by omega)) ?uB ?uF ?uX ?uN ?uT ?uK ?uD ?uU ?_; (case uB => k_asm); (case uF => k_asm); (case uX => k_asm); (case uN => k_asm); (case uT => k_asm); (case uK => first | exact rfl | assumption); (case uD => ktr_room); (case uU => ktr_units)); intro r9 n9 h9 tk9 o9 F9 N9; (obtain ⟨e9, vs9, e9', e9'', hi9⟩ := o9); subst e9; subst e9'')
              k_steps
              exact TEnd.intro F9 (news_sub N9 swap2) (ne_same hneI3) (fun p hp => (List.mem_singleton.mp hp) ▸ List.mem_cons_of_mem _ List.mem_cons_self) ⟨⟨_, _, rfl, by rw [countsUp_succ hxa]; exact hi9⟩, ⟨(by with_unfolding_all rfl), (by with_unfolding_all rfl), (by with_unfolding_all rfl), (by with_unfolding_all rfl), (by with_unfolding_all rfl), (by with_unfolding_all rfl), (by intro y q0 q1 q2 q3 q4 q5 q6 q7 q8 q9 q10 q11; simp only [q0, q1, q2, q3, q4, q5, q6, q7, q8, q9, q10, q11, if_false])⟩⟩
            · rintro m₃ nx h tk htk hlx3 ⟨⟨vs3, e3, rfl, hi3⟩, hm⟩ F18 N18
              obtain ⟨e_counts, e_leads, e_part, e_kept, e_numbers, e_script, e_rest⟩ := hm; replace F18 := fr_as F18 (m' := fun (y : Str) => if y = "counts" then some (.ref Cn) else if y = "leads" then some (.ref Ld) else if y = "part" then some (.ref Pa) else if y = "kept" then some (.ref kl) else if y = "numbers" then some (.ref Lp) else if y = "script" then some (.ref sc) else if y = "sent" then m₃ "sent" else if y = "turn" then m₃ "turn" else if y = "row" then m₃ "row" else if y = "ways" then m₃ "ways" else if y = "sizes" then m₃ "sizes" else if y = "told" then m₃ "told" else (fun (_ : Str) => none) y) (by intro y; (by_cases q0 : y = "counts"); (subst q0; rw [if_pos rfl]; exact e_counts); rw [if_neg q0]; (by_cases q1 : y = "leads"); (subst q1; rw [if_pos rfl]; exact e_leads); rw [if_neg q1]; (by_cases q2 : y = "part"); (subst q2; rw [if_pos rfl]; exact e_part); rw [if_neg q2]; (by_cases q3 : y = "kept"); (subst q3; rw [if_pos rfl]; exact e_kept); rw [if_neg q3]; (by_cases q4 : y = "numbers"); (subst q4; rw [if_pos rfl]; exact e_numbers); rw [if_neg q4]; (by_cases q5 : y = "script"); (subst q5; rw [if_pos rfl]; exact e_script); rw [if_neg q5]; (by_cases q6 : y = "sent"); (subst q6; rw [if_pos rfl]); rw [if_neg q6]; (by_cases q7 : y = "turn"); (subst q7; rw [if_pos rfl]); rw [if_neg q7]; (by_cases q8 : y = "row"); (subst q8; rw [if_pos rfl]); rw [if_neg q8]; (by_cases q9 : y = "ways"); (subst q9; rw [if_pos rfl]); rw [if_neg q9]; (by_cases q10 : y = "sizes"); (subst q10; rw [if_pos rfl]); rw [if_neg q10]; (by_cases q11 : y = "told"); (subst q11; rw [if_pos rfl]); rw [if_neg q11]; exact e_rest y q0 q1 q2 q3 q4 q5 q6 q7 q8 q9 q10 q11)
              clear F16 N17
              dsimp only
              have hi4 : IntsAre vs3 (countsL sd a0 a1 a2 a3) := hi3
              clear hi3
              walk1; walk1; walk1; walk1; walk1; walk1; walk1; walk1; walk1
              (k_dflt (refine' ctell_use (ways_c Ld [.int (leadOf sd a0) w0, .int (leadOf sd a1) w1, .int (leadOf sd a2) w2, .int (leadOf sd a3) w3] [leadOf sd a0, leadOf sd a1, leadOf sd a2, leadOf sd a3] 4 (List.mem_cons_of_mem _ (List.mem_cons_of_mem _ hmL)) (.cons _ _ (.cons _ _ (.cons _ _ (.cons _ _ .nil)))) (show 4 ≤ 4 by decide) (leads_bound hsd a0 a1 a2 a3)) ?uB ?uF ?uX ?uN ?uT ?uK ?uD ?uU ?_; (case uB => k_asm); (case uF => k_asm); (case uX => k_asm); (case uN => k_asm); (case uT => k_asm); (case uK => first | exact rfl | assumption); (case uD => ktr_room); (case uU => ktr_units)); intro r9 n9 h9 tk9 o9 F9 N9; (obtain ⟨Wd, wv, we, e9, e9', neW, hiW⟩ := o9); subst e9; subst e9')
              clear F18 N18
              walk1; walk1; walk1; walk1; walk1; walk1; walk1; walk1; walk1; walk1; walk1; walk1; walk1; walk1; walk1
              (k_dflt (refine' ctell_use (cols_c Cn vs3 _ e3 (List.mem_cons_of_mem _ List.mem_cons_self) hi4 (by rw [counts_len]; exact Nat.zero_lt_succ 3) (by rw [counts_len]; exact Nat.le_of_ble_eq_true rfl) (counts_last hsd a0 a1 a2 a3)) ?uB ?uF ?uX ?uN ?uT ?uK ?uD ?uU ?_; (case uB => k_asm); (case uF => k_asm); (case uX => k_asm); (case uN => k_asm); (case uT => k_asm); (case uK => first | exact rfl | assumption); (case uD => ktr_room); (case uU => ktr_units)); intro r9 n9 h9 tk9 o9 F9 N9; (obtain ⟨Kd, kv, ke, e9, e9', neK, hiK⟩ := o9); subst e9; subst e9')
              replace hiK : IntsAre kv (colsL sd a0 a1 a2 a3) := hiK
              replace hiW : IntsAre wv (waysL sd a0 a1 a2 a3) := hiW
              have hkX : (kl, W.listOf tups.toArray ek) ∈ NX := by rw [hNX]; exact List.mem_cons_of_mem _ (List.mem_cons_of_mem _ List.mem_cons_self)
              have hkW : kl ≠ Wd := neW _ (List.mem_cons_of_mem _ (List.mem_cons_of_mem _ hkX))
              have hIW : I ≠ Wd := neW (I, oI) (List.mem_cons_of_mem _ (List.mem_cons_of_mem _ (by rw [hNX]; exact List.mem_cons_of_mem _ List.mem_cons_self)))
              have hkC : kl ≠ Cn := by rename Pa < Cn ∧ _ => hPC; exact Nat.ne_of_lt (allLt_mem hPC.2.2 _ hkX)
              clear neW
              k_steps
              refine (Hold.mk ?_ : Hold _)
              rename Fr _ _ _ _ => F19
              rename News _ _ _ _ => N19
              obtain ⟨Zl, hZl, N19⟩ := head_as N19
              subst hZl
              obtain ⟨NZ, hNZ, N19⟩ := led_as N19
              have mZ : (Zl, W.listOf #[.ref Cn, .ref Kd] 0) ∈ NZ := by rw [hNZ]; exact List.mem_cons_self
              have mK : (Kd, W.listOf kv.toArray ke) ∈ NZ := by rw [hNZ]; exact List.mem_cons_of_mem _ List.mem_cons_self
              have mW : (Wd, W.listOf wv.toArray we) ∈ NZ := by rw [hNZ]; exact List.mem_cons_of_mem _ (List.mem_cons_of_mem _ List.mem_cons_self)
              have mC : (Cn, W.listOf vs3.toArray e3) ∈ NZ := by rw [hNZ]; exact List.mem_cons_of_mem _ (List.mem_cons_of_mem _ (List.mem_cons_of_mem _ List.mem_cons_self))
              refine list_loop (vs := [.ref Cn, .ref Kd]) (k := 0) (fun i m' nx => nx = NZ ∧
                  (m' "ways" = some (.ref Wd)) ∧ (m' "counts" = some (.ref Cn)) ∧ (m' "leads" = some (.ref Ld)) ∧ (m' "part" = some (.ref Pa)) ∧ (m' "kept" = some (.ref kl)) ∧ (m' "numbers" = some (.ref Lp)) ∧ (m' "script" = some (.ref sc)) ∧ (∀ y : Str, y ≠ "ways" → y ≠ "counts" → y ≠ "leads" → y ≠ "part" → y ≠ "kept" → y ≠ "numbers" → y ≠ "script" → y ≠ "sent" → y ≠ "turn" → y ≠ "row" → y ≠ "sizes" → y ≠ "told" → m' y = (fun (_ : Str) => none) y))
                rfl mZ rfl F19 N19 ⟨rfl, ⟨(by with_unfolding_all rfl), (by with_unfolding_all rfl), (by with_unfolding_all rfl), (by with_unfolding_all rfl), (by with_unfolding_all rfl), (by with_unfolding_all rfl), (by with_unfolding_all rfl), (by intro y q0 q1 q2 q3 q4 q5 q6 q7 q8 q9 q10 q11; simp only [q0, q1, q2, q3, q4, q5, q6, q7, q8, q9, q10, q11, if_false])⟩⟩ ?_ ?_
              · rintro j v m₄ nx h tk I4 oI4 hv hlx4 hneI4 ⟨rfl, hm⟩ F20 N20
                have hP4 : ∃ (Sz : Addr) (zv : List Value) (zs : List Int) (ze : Nat), v = .ref Sz ∧ (Sz, W.listOf zv.toArray ze) ∈ nx ∧ IntsAre zv zs ∧ SizesOk sd a0 a1 a2 a3 zs := by
                  match j, hv with
                  | 0, hv => exact ⟨Cn, vs3, _, e3, (Option.some.inj hv).symm, mC, hi4, sizes_counts hsd a0 a1 a2 a3⟩
                  | 1, hv => exact ⟨Kd, kv, _, ke, (Option.some.inj hv).symm, mK, hiK, sizes_cols hsd a0 a1 a2 a3⟩
                  | j + 2, hv => exact nomatch hv
                obtain ⟨Sz, zv, zs, ze, rfl, mS, hiZ, hOk⟩ := hP4
                obtain ⟨e_ways, e_counts, e_leads, e_part, e_kept, e_numbers, e_script, e_rest⟩ := hm; replace F20 := fr_as F20 (m' := fun (y : Str) => if y = "sizes" then some (.ref Sz) else if y = "ways" then some (.ref Wd) else if y = "counts" then some (.ref Cn) else if y = "leads" then some (.ref Ld) else if y = "part" then some (.ref Pa) else if y = "kept" then some (.ref kl) else if y = "numbers" then some (.ref Lp) else if y = "script" then some (.ref sc) else if y = "sent" then m₄ "sent" else if y = "turn" then m₄ "turn" else if y = "row" then m₄ "row" else if y = "told" then m₄ "told" else (fun (_ : Str) => none) y) (by intro y; (by_cases qx : y = "sizes"); (rw [if_pos qx, if_pos qx]); rw [if_neg qx, if_neg qx]; (by_cases q0 : y = "ways"); (subst q0; rw [if_pos rfl]; exact e_ways); rw [if_neg q0]; (by_cases q1 : y = "counts"); (subst q1; rw [if_pos rfl]; exact e_counts); rw [if_neg q1]; (by_cases q2 : y = "leads"); (subst q2; rw [if_pos rfl]; exact e_leads); rw [if_neg q2]; (by_cases q3 : y = "part"); (subst q3; rw [if_pos rfl]; exact e_part); rw [if_neg q3]; (by_cases q4 : y = "kept"); (subst q4; rw [if_pos rfl]; exact e_kept); rw [if_neg q4]; (by_cases q5 : y = "numbers"); (subst q5; rw [if_pos rfl]; exact e_numbers); rw [if_neg q5]; (by_cases q6 : y = "script"); (subst q6; rw [if_pos rfl]; exact e_script); rw [if_neg q6]; (by_cases q7 : y = "sent"); (subst q7; rw [if_pos rfl]); rw [if_neg q7]; (by_cases q8 : y = "turn"); (subst q8; rw [if_pos rfl]); rw [if_neg q8]; (by_cases q9 : y = "row"); (subst q9; rw [if_pos rfl]); rw [if_neg q9]; (by_cases q11 : y = "told"); (subst q11; rw [if_pos rfl]); rw [if_neg q11]; exact e_rest y q0 q1 q2 q3 q4 q5 q6 q7 q8 q9 qx q11)
                have N21 := news_sub N20 (news' := (I4, oI4) :: (Sz, W.listOf zv.toArray ze) :: (Wd, W.listOf wv.toArray we) :: nx) (List.forall_mem_cons.mpr ⟨List.mem_cons_self, List.forall_mem_cons.mpr ⟨List.mem_cons_of_mem _ mS, List.forall_mem_cons.mpr ⟨List.mem_cons_of_mem _ mW, fun p hp => List.mem_cons_of_mem _ hp⟩⟩⟩)
                clear F19 N19 N20 hv hNZ neK
                walk1; walk1; walk1; walk1; walk1; walk1; walk1; walk1; walk1
                (k_dflt (refine' ctell_use (prod_c Sz zv zs ze (List.mem_cons_of_mem _ List.mem_cons_self) hiZ hOk.1 hOk.2.1) ?uB ?uF ?uX ?uN ?uT ?uK ?uD ?uU ?_; (case uB => k_asm); (case uF => k_asm); (case uX => k_asm); (case uN => k_asm); (case uT => k_asm); (case uK => first | exact rfl | assumption); (case uD => ktr_room); (case uU => ktr_units)); intro r9 n9 h9 tk9 o9 F9 N9; (obtain ⟨Td, tv4, te4, e9, e9', ltT, hiT⟩ := o9); subst e9; subst e9')
                generalize hzp : productOf zs = zp at hiT
                have hwl5 : (waysL sd a0 a1 a2 a3).length = 5 := waysL_len sd a0 a1 a2 a3
                generalize hwl : waysL sd a0 a1 a2 a3 = wl at hiW hwl5
                have hzl : zp.length ≤ 6 := by rw [← hzp]; exact hOk.2.2.1
                walk1; walk1; walk1; walk1; walk1; walk1; walk1; walk1; walk1; walk1; walk1; walk1; walk1; walk1; walk1; walk1; walk1; walk1; walk1; walk1; walk1; walk1; walk1; walk1; walk1; walk1; walk1; walk1; walk1; walk1; walk1; walk1; walk1; walk1; walk1; walk1
                rw [if_pos (decide_eq_true (told_eq hOk hzp hwl))]
                k_steps
                rename Fr _ _ _ _ => F22
                rename News _ _ _ _ => N22
                refine TEnd.intro F22 (news_sub N22 (news' := (I4, oI4) :: nx) (fun p hp => ?_)) hneI4 (fun p hp => (List.mem_singleton.mp hp) ▸ mZ) ⟨rfl, ⟨(by with_unfolding_all rfl), (by with_unfolding_all rfl), (by with_unfolding_all rfl), (by with_unfolding_all rfl), (by with_unfolding_all rfl), (by with_unfolding_all rfl), (by with_unfolding_all rfl), (by intro y q0 q1 q2 q3 q4 q5 q6 q7 q8 q9 q10 q11; simp only [q0, q1, q2, q3, q4, q5, q6, q7, q8, q9, q10, q11, if_false])⟩⟩
                simp only [List.mem_cons] at hp ⊢
                rcases hp with h | h <;> simp only [h, true_or, or_true]
              · rintro m₄ nx h tk hlx4 ⟨rfl, hm⟩ F20 N20
                obtain ⟨e_ways, e_counts, e_leads, e_part, e_kept, e_numbers, e_script, e_rest⟩ := hm; replace F20 := fr_as F20 (m' := fun (y : Str) => if y = "ways" then some (.ref Wd) else if y = "counts" then some (.ref Cn) else if y = "leads" then some (.ref Ld) else if y = "part" then some (.ref Pa) else if y = "kept" then some (.ref kl) else if y = "numbers" then some (.ref Lp) else if y = "script" then some (.ref sc) else if y = "sent" then m₄ "sent" else if y = "turn" then m₄ "turn" else if y = "row" then m₄ "row" else if y = "sizes" then m₄ "sizes" else if y = "told" then m₄ "told" else (fun (_ : Str) => none) y) (by intro y; (by_cases q0 : y = "ways"); (subst q0; rw [if_pos rfl]; exact e_ways); rw [if_neg q0]; (by_cases q1 : y = "counts"); (subst q1; rw [if_pos rfl]; exact e_counts); rw [if_neg q1]; (by_cases q2 : y = "leads"); (subst q2; rw [if_pos rfl]; exact e_leads); rw [if_neg q2]; (by_cases q3 : y = "part"); (subst q3; rw [if_pos rfl]; exact e_part); rw [if_neg q3]; (by_cases q4 : y = "kept"); (subst q4; rw [if_pos rfl]; exact e_kept); rw [if_neg q4]; (by_cases q5 : y = "numbers"); (subst q5; rw [if_pos rfl]; exact e_numbers); rw [if_neg q5]; (by_cases q6 : y = "script"); (subst q6; rw [if_pos rfl]; exact e_script); rw [if_neg q6]; (by_cases q7 : y = "sent"); (subst q7; rw [if_pos rfl]); rw [if_neg q7]; (by_cases q8 : y = "turn"); (subst q8; rw [if_pos rfl]); rw [if_neg q8]; (by_cases q9 : y = "row"); (subst q9; rw [if_pos rfl]); rw [if_neg q9]; (by_cases q10 : y = "sizes"); (subst q10; rw [if_pos rfl]); rw [if_neg q10]; (by_cases q11 : y = "told"); (subst q11; rw [if_pos rfl]); rw [if_neg q11]; exact e_rest y q0 q1 q2 q3 q4 q5 q6 q7 q8 q9 q10 q11)
                clear F19 N19
                dsimp only
                have N21 := news_sub N20 (news' := (kl, W.listOf tups.toArray ek) :: (I, oI) :: (Cn, W.listOf vs3.toArray e3) :: (Wd, W.listOf wv.toArray we) :: (pl, W.listOf #[.ref Aq, .ref Bq] 0) :: (Bq, W.listOf #[.int n4 t4, .int n5 t5, .int n6 t6, .int n7 t7] 0) :: (Aq, W.listOf #[.int n0 t0, .int n1 t1, .int n2 t2, .int n3 t3] 0) :: (s1.heap.objs.size + 1, co') :: more) (fun p hp => by
                  rw [hNZ, hNX]
                  simp only [List.mem_cons] at hp ⊢
                  rcases hp with h | h | h | h | h | h | h | h | h <;> simp only [h, true_or, or_true])
                clear N20 hNZ hNX hlx4 mZ mK mW mC
                k_with "call ref" => (k_dflt (refine' ctell_use (less_c Cn vs3 _ e3 (List.mem_cons_of_mem _ (List.mem_cons_of_mem _ List.mem_cons_self)) hi4 (by rw [counts_len]; exact Nat.le_of_ble_eq_true rfl)) ?uB ?uF ?uX ?uN ?uT ?uK ?uD ?uU ?_; (case uB => k_asm); (case uF => k_asm); (case uX => k_asm); (case uN => k_asm); (case uT => k_asm); (case uK => first | exact rfl | assumption); (case uD => ktr_room); (case uU => ktr_units)); intro r9 n9 h9 tk9 o9 F9 N9; (obtain ⟨Yd, yv, ye, e9, e9', ltY, hiY⟩ := o9); subst e9; subst e9')
                walk1; walk1; walk1; walk1; walk1; walk1; walk1; walk1; walk1; walk1; walk1; walk1; walk1; walk1; walk1; walk1; walk1; walk1; walk1; walk1
                rw [counts_len] at hiY
                generalize hyl : lessUp (countsL sd a0 a1 a2 a3) 4 = yl at hiY
                generalize hcl : countsL sd a0 a1 a2 a3 = cl at hi4
                generalize hwl : waysL sd a0 a1 a2 a3 = wl at hiW
                walk1; walk1
                rename Fr _ _ _ _ => F22
                rename News _ _ _ _ => N22
                obtain ⟨Tp, hTp, N22⟩ := head_as N22
                subst hTp
                have hi2 : i < 2 := (List.getElem?_eq_some_iff.mp hv).1
                rename Yd < Tp ∧ _ => hltT
                have N23 := news_sub N22 (news' := (kl, W.listOf tups.toArray ek) :: (Tp, { cls := Value.type "tuple", data := Data.seq #[Value.ref Wd, Value.ref Yd] }) :: (Yd, W.listOf yv.toArray ye) :: (I, oI) :: (Wd, W.listOf wv.toArray we) :: (pl, W.listOf #[.ref Aq, .ref Bq] 0) :: (Bq, W.listOf #[.int n4 t4, .int n5 t5, .int n6 t6, .int n7 t7] 0) :: (Aq, W.listOf #[.int n0 t0, .int n1 t1, .int n2 t2, .int n3 t3] 0) :: (s1.heap.objs.size + 1, co') :: more) (fun p hp => by
                  simp only [List.mem_cons] at hp ⊢
                  rcases hp with h | h | h | h | h | h | h | h | h | h <;> simp only [h, true_or, or_true])
                clear N22
                refine append_K F22 N23 (Upd.head (List.forall_mem_cons.mpr ⟨Nat.ne_of_gt hltT.2.1, List.forall_mem_cons.mpr ⟨Nat.ne_of_gt (ltY _ List.mem_cons_self), List.forall_mem_cons.mpr ⟨fun q => hneI _ List.mem_cons_self q.symm, List.forall_mem_cons.mpr ⟨Ne.symm hkW, kR⟩⟩⟩⟩)) ?_ (by rw [List.size_toArray, htl, sizeLine_eq]; omega)
                intro h7 F23 N24
                simp only [List.push_toArray] at N24
                k_steps
                show TEnd _ _ _ _ _ _ _
                refine TEnd.intro F23 (news_sub N24 (news' := (I, oI) :: (kl, W.listOf (tups ++ [Value.ref Tp]).toArray (ek + 1)) :: (pl, W.listOf #[.ref Aq, .ref Bq] 0) :: (Bq, W.listOf #[.int n4 t4, .int n5 t5, .int n6 t6, .int n7 t7] 0) :: (Aq, W.listOf #[.int n0 t0, .int n1 t1, .int n2 t2, .int n3 t3] 0) :: (s1.heap.objs.size + 1, co') :: (Tp, { cls := Value.type "tuple", data := Data.seq #[Value.ref Wd, Value.ref Yd] }) :: (Yd, W.listOf yv.toArray ye) :: (Wd, W.listOf wv.toArray we) :: more) (fun p hp => ?_)) ?_ (fun p hp => (List.mem_singleton.mp hp) ▸ List.mem_cons_of_mem _ List.mem_cons_self) ⟨⟨_, _, _, rfl, ?_, ?_, ?_⟩, ⟨(by with_unfolding_all rfl), (by with_unfolding_all rfl), (by with_unfolding_all rfl), (by intro y q0 q1 q2 q3 q4 q5 q6 q7 q8 q9 q10 q11; simp only [q0, q1, q2, q3, q4, q5, q6, q7, q8, q9, q10, q11, if_false])⟩⟩
                · simp only [List.mem_cons] at hp ⊢
                  rcases hp with h | h | h | h | h | h | h | h | h | h <;> simp only [h, true_or, or_true]
                · intro p hp
                  simp only [List.mem_cons] at hp
                  rcases hp with rfl | rfl | rfl | rfl | rfl | rfl | rfl | rfl | hp
                  · exact hneI (kl, W.listOf tups.toArray ek) List.mem_cons_self
                  · exact hneI (pl, _) (List.mem_cons_of_mem _ List.mem_cons_self)
                  · exact hneI (Bq, _) (List.mem_cons_of_mem _ (List.mem_cons_of_mem _ List.mem_cons_self))
                  · exact hneI (Aq, _) (List.mem_cons_of_mem _ (List.mem_cons_of_mem _ (List.mem_cons_of_mem _ List.mem_cons_self)))
                  · exact hneI (s1.heap.objs.size + 1, _) (List.mem_cons_of_mem _ (List.mem_cons_of_mem _ (List.mem_cons_of_mem _ (List.mem_cons_of_mem _ List.mem_cons_self))))
                  · exact Nat.ne_of_gt hltT.2.2.1
                  · exact Nat.ne_of_gt (ltY _ (List.mem_cons_of_mem _ List.mem_cons_self))
                  · exact Ne.symm hIW
                  · exact hneI p (List.mem_cons_of_mem _ (List.mem_cons_of_mem _ (List.mem_cons_of_mem _ (List.mem_cons_of_mem _ (List.mem_cons_of_mem _ hp)))))
                · rw [List.length_append, htl]; rfl
                · intro j hj
                  rcases Nat.lt_or_eq_of_le (Nat.le_of_lt_succ hj) with hji | rfl
                  · rw [List.getD_eq_getElem?_getD, List.getElem?_append_left (by omega), ← List.getD_eq_getElem?_getD]
                    exact (htups j hji).mono fun p hp => List.mem_cons_of_mem _ (List.mem_cons_of_mem _ (List.mem_cons_of_mem _ hp))
                  · rw [hpt, ways_eq, places_eq, hwl, hyl, List.getD_eq_getElem?_getD, List.getElem?_append_right (by omega), htl, Nat.sub_self]
                    exact ⟨Tp, Wd, Yd, wv, yv, we, ye, 0, rfl, List.mem_cons_self, List.mem_cons_of_mem _ (List.mem_cons_of_mem _ List.mem_cons_self), hiW, List.mem_cons_of_mem _ List.mem_cons_self, hiY⟩
                · intro p hp
                  simp only [List.mem_cons] at hp
                  rcases hp with rfl | rfl | rfl | hp
                  · exact Nat.ne_of_gt hltT.2.1
                  · exact Nat.ne_of_gt (ltY _ List.mem_cons_self)
                  · exact Ne.symm hkW
                  · exact hmk p hp
    · rintro m₁ nx h tk hlx ⟨⟨tups, more, ek, rfl, htl, htups, hmk⟩, hm⟩ F6 N6
      obtain ⟨e_kept, e_numbers, e_script, e_rest⟩ := hm; replace F6 := fr_as F6 (m' := fun (y : Str) => if y = "kept" then some (.ref kl) else if y = "numbers" then some (.ref Lp) else if y = "script" then some (.ref sc) else if y = "part" then m₁ "part" else if y = "sent" then m₁ "sent" else if y = "turn" then m₁ "turn" else if y = "leads" then m₁ "leads" else if y = "counts" then m₁ "counts" else if y = "row" then m₁ "row" else if y = "ways" then m₁ "ways" else if y = "sizes" then m₁ "sizes" else if y = "told" then m₁ "told" else (fun (_ : Str) => none) y) (by intro y; (by_cases q0 : y = "kept"); (subst q0; rw [if_pos rfl]; exact e_kept); rw [if_neg q0]; (by_cases q1 : y = "numbers"); (subst q1; rw [if_pos rfl]; exact e_numbers); rw [if_neg q1]; (by_cases q2 : y = "script"); (subst q2; rw [if_pos rfl]; exact e_script); rw [if_neg q2]; (by_cases q3 : y = "part"); (subst q3; rw [if_pos rfl]); rw [if_neg q3]; (by_cases q4 : y = "sent"); (subst q4; rw [if_pos rfl]); rw [if_neg q4]; (by_cases q5 : y = "turn"); (subst q5; rw [if_pos rfl]); rw [if_neg q5]; (by_cases q6 : y = "leads"); (subst q6; rw [if_pos rfl]); rw [if_neg q6]; (by_cases q7 : y = "counts"); (subst q7; rw [if_pos rfl]); rw [if_neg q7]; (by_cases q8 : y = "row"); (subst q8; rw [if_pos rfl]); rw [if_neg q8]; (by_cases q9 : y = "ways"); (subst q9; rw [if_pos rfl]); rw [if_neg q9]; (by_cases q10 : y = "sizes"); (subst q10; rw [if_pos rfl]); rw [if_neg q10]; (by_cases q11 : y = "told"); (subst q11; rw [if_pos rfl]); rw [if_neg q11]; exact e_rest y q0 q1 q2 q3 q4 q5 q6 q7 q8 q9 q10 q11)
      obtain ⟨T0, W0, L0, wv0, lv0, we0, le0, nt0, eT0, mT0, mW0, iW0, mL0, iL0⟩ := htups 0 (show 0 < 2 by decide)
      obtain ⟨T1, W1, L1, wv1, lv1, we1, le1, nt1, eT1, mT1, mW1, iW1, mL1, iL1⟩ := htups 1 (show 1 < 2 by decide)
      have etup : tups = [.ref T0, .ref T1] := tup2 htl eT0 eT1
      subst etup
      have N7 := news_sub N6 (news' := [(kl, W.listOf #[.ref T0, .ref T1] ek), (T0, { cls := Value.type "tuple", data := Data.seq #[Value.ref W0, Value.ref L0] nt0 }), (T1, { cls := Value.type "tuple", data := Data.seq #[Value.ref W1, Value.ref L1] nt1 }), (W0, W.listOf wv0.toArray we0), (W1, W.listOf wv1.toArray we1), (L0, W.listOf lv0.toArray le0), (L1, W.listOf lv1.toArray le1)]) (by
        have u : ∀ p ∈ more, p ∈ (kl, W.listOf #[Value.ref T0, Value.ref T1] ek) :: (pl, W.listOf #[.ref Aq, .ref Bq] 0) :: (Bq, W.listOf #[.int n4 t4, .int n5 t5, .int n6 t6, .int n7 t7] 0) :: (Aq, W.listOf #[.int n0 t0, .int n1 t1, .int n2 t2, .int n3 t3] 0) :: (s1.heap.objs.size + 1, co') :: more := fun p hp => List.mem_cons_of_mem _ (List.mem_cons_of_mem _ (List.mem_cons_of_mem _ (List.mem_cons_of_mem _ (List.mem_cons_of_mem _ hp))))
        exact List.forall_mem_cons.mpr ⟨List.mem_cons_self, List.forall_mem_cons.mpr ⟨u _ mT0, List.forall_mem_cons.mpr ⟨u _ mT1, List.forall_mem_cons.mpr ⟨u _ mW0, List.forall_mem_cons.mpr ⟨u _ mW1, List.forall_mem_cons.mpr ⟨u _ mL0, List.forall_mem_cons.mpr ⟨u _ mL1, fun _ h => nomatch h⟩⟩⟩⟩⟩⟩⟩)
      clear F5 N5 N6 hlx htups hmk
      generalize hw0 : waysOf sd _ = ww0 at iW0
      generalize hw1 : waysOf sd _ = ww1 at iW1
      generalize hl0 : placesOf sd _ = ll0 at iL0
      generalize hl1 : placesOf sd _ = ll1 at iL1
      dsimp only
      walk1; (try dsimp only)
      walk1; (try dsimp only)
      walk1; (try dsimp only)
      walk1; (try dsimp only)
      walk1; (try dsimp only)
      walk1; (try dsimp only)
      walk1; (try dsimp only)
      walk1; (try dsimp only)
      walk1; (try dsimp only)
      walk1; (try dsimp only)
      (rename News _ _ _ _ => N8); refine item_tupleT (l := [_, _]) (j := 0) (News.isTup N8 (.tail _ (.head _))) (by decide) (by decide) (show seqIndex? 0 2 = some 0 by decide) rfl ?_
      walk1; (try dsimp only)
      walk1; (try dsimp only)
      walk1; (try dsimp only)
      walk1; (try dsimp only)
      walk1; (try dsimp only)
      walk1; (try dsimp only)
      (rename News _ _ _ _ => N8); refine item_tupleT (l := [_, _]) (j := 0) (News.isTup N8 (.tail _ (.tail _ (.head _)))) (by decide) (by decide) (show seqIndex? 0 2 = some 0 by decide) rfl ?_
      walk1; (try dsimp only)
      walk1; (try dsimp only)
      walk1; (try dsimp only)
      walk1; (try dsimp only)
      walk1; (try dsimp only)
      walk1; (try dsimp only)
      walk1; (try dsimp only)
      walk1; (try dsimp only)
      (rename News _ _ _ _ => N8); refine item_tupleT (l := [_, _]) (j := 1) (News.isTup N8 (.tail _ (.head _))) (by decide) (by decide) (show seqIndex? 1 2 = some 1 by decide) rfl ?_
      walk1; (try dsimp only)
      walk1; (try dsimp only)
      walk1; (try dsimp only)
      walk1; (try dsimp only)
      walk1; (try dsimp only)
      walk1; (try dsimp only)
      (rename News _ _ _ _ => N8); refine item_tupleT (l := [_, _]) (j := 1) (News.isTup N8 (.tail _ (.tail _ (.head _)))) (by decide) (by decide) (show seqIndex? 1 2 = some 1 by decide) rfl ?_
      walk1; (try dsimp only)
      walk1; (try dsimp only)
      have hb : (decide (ww0 = ww1) == decide (ll0 = ll1)) = true := by
        rw [if_pos rfl] at hw0 hl0
        rw [if_neg (by decide)] at hw1 hl1
        rw [← hw0, ← hw1, ← hl0, ← hl1, beq_iff_eq, decide_eq_decide]
        exact law_same hsd n0 n1 n2 n3 n4 n5 n6 n7
      rw [hb]
      clear hb
      k_steps
end Mine

theorem PySem.Challenge.cw_sw0019_01_holds : PySem.Challenge.rw_sw0019_01.Holds := by
  exact Mine.law_holds
