import PyProof.Rows.All
import Wide.All
import OpenK.AllK
import Wide.FinOn
import PySem.Challenge.RW_qh0050_01
open PySem PySem.W PyProof.Rows PySem.Calls
set_option Elab.async false
namespace Mine
/-- a fact told ahead of the goal that wants it -/
theorem keep2 {T G : Prop} (hl : T) (hm : G) : G := And.right ⟨hl, hm⟩
section
/- The head in one run (o_head's own other road): the hole ?hl stands before o_head asks for it, so it lays no pieces; the run is then the kernel's, by the library's twins. -/
local macro_rules | `(tactic| k_head) => `(tactic| (apply keep2; (case' hm => km_head); (case hl => (intro w; unfold openEnds fencedOpening topFrom; rewrite [PySem.W.Fast.te14082659384304107361, PySem.W.Fast.te10274390034422433532, PySem.W.Fast.te14364793385576792824, PySem.W.Fast.te4187177175401517315]; kernel_rfl))))
set_option maxRecDepth 100000 in
set_option maxHeartbeats 8000000 in
open_top hd for PySem.Challenge.rw_qh0050_01
end
section
/-- the law's program, and the written part of the heap -/
abbrev P0 : Program := PySem.Challenge.pw_qh0050_01
/-- every object of g stands in h -/
abbrev Kp (g h : Heap) : Prop := ∀ b o, g.get? b = some o → h.get? b = some o
theorem Kp.trans {g h k : Heap} (a : Kp g h) (b : Kp h k) : Kp g k := fun x o e => b x o (a x o e)
theorem kp_fr {h₀ h h' : Heap} {L : Addr} {m : Str → Option Value} (F : Fr h₀ L h m) (k : Kp h h') : Fr h₀ L h' m :=
  ⟨F.ns.keeps k, fun b o e => k b o (F.keep b o e), F.above⟩
theorem kp_news {h₀ h h' : Heap} {L : Addr} {news : List (Addr × Obj)} (N : News h₀ L h news) (k : Kp h h') : News h₀ L h' news :=
  fun p hp => ⟨k _ _ (N p hp).1, (N p hp).2⟩
theorem kstB_lookup : ∀ l : List (Str × Value), kstB (fun _ => none) l = fun y => l.lookup y
  | [] => rfl
  | p :: r => by
    funext y
    show (if y = p.1 then some p.2 else kstB (fun _ => none) r y) = List.lookup y (p :: r)
    rw [kstB_lookup r, List.lookup_cons]
    by_cases h : y = p.1
    · simp [h]
    · rw [if_neg h, show (y == p.1) = false from by simpa using h]
/-- a new object beside the ledger's -/
theorem news_cons {h₀ h h' : Heap} {L : Addr} {m : Str → Option Value} {news : List (Addr × Obj)} {a : Addr} {o : Obj} (F : Fr h₀ L h m) (N : News h₀ L h' news) (ha : h'.get? a = some o) (hn : h.get? a = none) : News h₀ L h' ((a, o) :: news) := by
  intro p hp
  rcases List.mem_cons.mp hp with rfl | hp
  · refine ⟨ha, fun e => ?_, ?_⟩
    · obtain ⟨o', _, _, h1, _⟩ := F.ns
      rw [show L = a from e.symm] at h1
      rw [h1] at hn; cases hn
    · cases q : h₀.get? a with
      | none => rfl
      | some o' => have := F.keep _ _ q; rw [this] at hn; cases hn
  · exact N p hp

section
variable {prog : Program} {w : World} {A A₀ : Around} {s : Shared} {K : Frag} {L : Addr} {h₀ base : Heap} {m mg mb : Str → Option Value} {p : Program} {loose : List Str} {mean : ExcName → Option Value} {Q E : Value → Shared → Prop}
/-- a call of a def of the text, its frame over the whole heap at hand -/
theorem enter {env : Env} {outer : List Env} {name qual : Str} {params : Arguments} {body : List Stmt} {scope : Scope} {dV kV doc pm cdv ct oc : Value} {an od : Option Addr} {osl : Array (Option Value)} {f : Addr} {pos : List Value} {kw : List (Str × Value)} {binds : List (Str × Value)}
    (B : Below A₀ base outer h₀) (F : Fr h₀ L s.heap m) (X₀ : K.In h₀) (T : Top p loose mean mg mb h₀) (hA : A.frames = some (env :: outer)) (hf : env.frame = some L) (hke : env.scope.kind = .function)
    (ho : K.lookup f = some ⟨oc, od, .func (fnX name qual params body scope [] dV kV doc pm an cdv ct), osl⟩) (hcd : codeIn K cdv qual = true) (hroom : A.depth < recursionLimit)
    (hbind : BindsTo s (fnX name qual params body scope [] dV kV doc pm an cdv ct) ⟨pos, kw⟩ binds) (hloc : ∀ y ∈ binds, scope.names.lookup y.1 = some .local)
    (h : ∀ L' h₁ tk, Fr s.heap L' h₁ (kstB (fun _ => none) binds.reverse) → News s.heap L' h₁ [] → Below A base (env :: outer) s.heap → K.In s.heap → Top p loose mean mg mb s.heap →
      wpAny (model prog w) (A.deeper (envX qual scope L' f cdv [])) (execs body (envX qual scope L' f cdv []))
        (fun fl s' => Q (match fl with | .ret v => v | _ => .none) s') (fun _ _ => False) { s with heap := h₁, toks := tk })
    (hcell : ∀ x ∈ scope.names, x.2 ≠ .cell) (hco : scope.isCoroutine = false) (hgen : scope.isGenerator = false) (hk : scope.kind = .function) : wpAny (model prog w) A (call (.ref f) pos kw) Q E s := by
  have X := X₀.keeps F.keep
  have TT := T.keeps F.keep
  have BB : Below A base (env :: outer) s.heap := by
    have b := pushX B F hf hke
    exact ⟨hA, b.stays, b.frames⟩
  refine wpAny_call (codeAny_call_def (fd := fnX name qual params body scope [] dV kV doc pm an cdv ct) (body := body) (binds := binds) hroom (X _ _ ho) rfl TT.nolimit (codeRec_of X hcd) rfl hbind hcell hloc (fun h₁ hns hk₁ => ?_) hco hgen hk)
  exact wpAny_mono (h s.heap.objs.size h₁ _ ⟨by rw [kstB_lookup]; exact hns, hk₁, Nat.le_refl _⟩ News.nil BB X TT) (fun fl s' hl => hl) fun _ _ y => y.elim
/-- the same for a def with cells -/
theorem enterC {env : Env} {outer : List Env} {name qual : Str} {params : Arguments} {body : List Stmt} {scope : Scope} {dV kV doc pm cdv ct oc : Value} {an od : Option Addr} {osl : Array (Option Value)} {f : Addr} {pos : List Value} {kw : List (Str × Value)} {binds : List (Str × Value)} (cl : Addr → List (Str × Addr)) (ml : Str → Option Value)
    (B : Below A₀ base outer h₀) (F : Fr h₀ L s.heap m) (X₀ : K.In h₀) (T : Top p loose mean mg mb h₀) (hA : A.frames = some (env :: outer)) (hf : env.frame = some L) (hke : env.scope.kind = .function)
    (ho : K.lookup f = some ⟨oc, od, .func (fnX name qual params body scope [] dV kV doc pm an cdv ct), osl⟩) (hcd : codeIn K cdv qual = true) (hroom : A.depth < recursionLimit)
    (hbind : BindsTo s (fnX name qual params body scope [] dV kV doc pm an cdv ct) ⟨pos, kw⟩ binds) (hkind : (binds.all fun y => scope.names.lookup y.1 == some .local || scope.names.lookup y.1 == some .cell) = true)
    (hml : ∀ L', bindL (envOfC qual scope L' f cdv).kindOf binds (fun _ => none) = ml) (hcl : ∀ n, cellsFrom (n + 1) scope.names [] = cl n) (hnd : ((cellsFrom 0 scope.names []).map (·.1)).Nodup)
    (h : ∀ L' h₁ tk cells, Fr s.heap L' h₁ ml → News s.heap L' h₁ cells →
      CellsAre (bindC (envOfC qual scope L' f cdv).kindOf binds fun _ => none) (cl L') cells → Below A base (env :: outer) s.heap → K.In s.heap → Top p loose mean mg mb s.heap →
      wpAny (model prog w) (A.deeper (envX qual scope L' f cdv (cl L'))) (execs body (envX qual scope L' f cdv (cl L')))
        (fun fl s' => Q (match fl with | .ret v => v | _ => .none) s') (fun _ _ => False) { s with heap := h₁, toks := tk })
    (hco : scope.isCoroutine = false) (hgen : scope.isGenerator = false) (hk : scope.kind = .function) : wpAny (model prog w) A (call (.ref f) pos kw) Q E s := by
  have X := X₀.keeps F.keep
  have TT := T.keeps F.keep
  have BB : Below A base (env :: outer) s.heap := by
    have b := pushX B F hf hke
    exact ⟨hA, b.stays, b.frames⟩
  refine wpAny_call (codeAny_call_function (fd := fnX name qual params body scope [] dV kV doc pm an cdv ct) hroom (X _ _ ho) rfl hco hgen rfl (codeRec_of X hcd) (hbind _ _ _ _ ?_))
  refine wpAny_newFunctionEnv_cells hk (kindsX hkind _) fun env' he s' x => ?_
  subst he
  refine ⟨TT.nolimit.keeps x.toInCall.keep, codeAny_func ?_⟩
  obtain ⟨h₁, tk, rfl, _⟩ := x.done
  have hk₁ := x.toInCall.keep
  obtain ⟨cells, NC, Y⟩ := Cl.news (h₀ := s.heap) (Nat.le_refl _) fun n c hm => ⟨x.cell n c (lookup_of_mem_nodup (cellsFrom_names scope.names 0 (s.heap.objs.size + 1) [] [] rfl ▸ hnd) hm), x.above n c hm⟩
  have h := h s.heap.objs.size h₁ tk cells
  rw [← hcl, ← hml s.heap.objs.size] at h
  exact wpAny_mono (h ⟨x.toInCall.ns, fun b o e => hk₁ b o e, Nat.le_refl _⟩ NC Y BB X TT) (fun fl s' hl => hl) fun _ _ y => y.elim
end
end
section
section
variable {M : Model} {A : Around} {E : Value → Shared → Prop} {s : Shared} {h₀ : Heap} {L a : Addr} {m : Str → Option Value} {cn : Str} {cs : Scope} {ccd : Value} {cl : List (Str × Addr)} {x : Str} {pos : Pos} {v : Value}
theorem nmX {Q : Value → Shared → Prop} (hx : (cs.names.lookup x == some .local && !(x == ("__debug__" : Str)) && cs.kind == .function) = true) (F : Fr h₀ L s.heap m) (hv : m x = some v) (h : Q v s) :
    wpAny M A (eval (.Name x pos) (envX cn cs L a ccd cl)) Q E s := by
  simp only [Bool.and_eq_true, beq_iff_eq, Bool.not_eq_true'] at hx
  exact nameX_L F hv h hx.2 hx.1.1 hx.1.2
theorem stX {Q : Unit → Shared → Prop} {news : List (Addr × Obj)} (hx : (cs.names.lookup x == some .local && cs.kind == .function) = true) (F : Fr h₀ L s.heap m) (N : News h₀ L s.heap news)
    (h : ∀ h', Fr h₀ L h' (fun y => if y = x then some v else m y) → News h₀ L h' news → Q () { s with heap := h', toks := s.toks + 1 }) :
    wpAny M A (storeName (envX cn cs L a ccd cl) x v) Q E s := by
  simp only [Bool.and_eq_true, beq_iff_eq] at hx
  exact storeX_L F N h hx.2 hx.1
end
theorem kl_hit {α : Type} {x : Str} {a b : α} : (if x = x then a else b) = a := if_pos rfl
theorem kl_miss {α : Type} {x y : Str} {a b c : α} (h : (x == y) = false) (hr : b = c) : (if x = y then a else b) = c := by
  rw [if_neg (by intro e; rw [e] at h; simp at h)]; exact hr
theorem kb_hit {u : Str → Option Value} {x : Str} {v : Value} {r : List (Str × Value)} : kstB u ((x, v) :: r) x = some v := if_pos rfl
theorem kb_miss {u : Str → Option Value} {x y : Str} {v : Value} {r : List (Str × Value)} {c : Option Value} (h : (x == y) = false) (hr : kstB u r x = c) : kstB u ((y, v) :: r) x = c := kl_miss h hr
theorem ll_hit {x : Str} {v : Value} {r : List (Str × Value)} : List.lookup x ((x, v) :: r) = some v := by simp
theorem ll_miss {x y : Str} {v : Value} {r : List (Str × Value)} {c : Option Value} (h : (x == y) = false) (hr : List.lookup x r = c) : List.lookup x ((y, v) :: r) = c := by
  rw [List.lookup_cons, h]; exact hr
theorem kc_miss {α : Type} {st : List Str} {x : Str} {a b c : α} (h : st.contains x = false) (hr : b = c) : (if st.contains x = true then a else b) = c := by
  rw [if_neg (by rw [h]; simp)]; exact hr
end
section
theorem nat_xor_and : ∀ (n a b : Nat), a ≤ n → (a ^^^ b) + 2 * (a &&& b) = a + b
  | 0, a, b, h => by
    have : a = 0 := by omega
    subst this; simp
  | n + 1, a, b, h => by
    have ih := nat_xor_and n (a / 2) (b / 2) (by omega)
    have e1 : (a ^^^ b) / 2 = a / 2 ^^^ b / 2 := by
      apply Nat.eq_of_testBit_eq; intro i; simp [Nat.testBit_div_two]
    have e2 : (a &&& b) / 2 = a / 2 &&& b / 2 := by
      apply Nat.eq_of_testBit_eq; intro i; simp [Nat.testBit_div_two]
    have e3 : (a ^^^ b) % 2 = (a % 2) ^^^ (b % 2) := by
      have := Nat.xor_mod_two_pow (a := a) (b := b) (n := 1); simpa using this
    have e4 : (a &&& b) % 2 = (a % 2) &&& (b % 2) := by
      have := Nat.and_mod_two_pow (a := a) (b := b) (n := 1); simpa using this
    rw [← e1, ← e2] at ih
    generalize a ^^^ b = X at *
    generalize a &&& b = Y at *
    clear e1 e2
    rcases Nat.mod_two_eq_zero_or_one a with ha | ha <;> rcases Nat.mod_two_eq_zero_or_one b with hb | hb <;> rw [ha, hb] at e3 e4 <;> simp at e3 e4 <;> omega
theorem xor_nat (a b : Nat) : Builtin.bitXor (a : Int) (b : Int) = ((a ^^^ b : Nat) : Int) := by
  rw [bitXor_and, bitAnd_pp (Int.natCast_nonneg a) (Int.natCast_nonneg b)]
  have := nat_xor_and a a b (Nat.le_refl _)
  simp only [Int.toNat_natCast]
  omega
theorem xor_mask (x s : Nat) : x ^^^ (x / 2 ^ s * 2 ^ s) = x % 2 ^ s := by
  apply Nat.eq_of_testBit_eq
  intro i
  rw [Nat.testBit_xor, Nat.testBit_mul_two_pow, Nat.testBit_mod_two_pow, Nat.testBit_div_two_pow]
  by_cases h : i < s
  · simp [h, Nat.not_le.mpr h]
  · have h' : s ≤ i := by omega
    simp [h, h']
theorem nat_lt_bits {x : Int} (h0 : 0 ≤ x) : x < 2 ^ Builtin.Int.intBits x := by
  have := (intBits_le_iff (m := Builtin.Int.intBits x) (x := x)).mp (Nat.le_refl _)
  have e : ((2 ^ Builtin.Int.intBits x : Nat) : Int) = 2 ^ Builtin.Int.intBits x := by simp
  omega
end
section
/-- the state of a loop: a datum c, told by the ledger and by some names of the frame -/
def KS {σ : Type} (Led : σ → List (Addr × Obj)) (ps : σ → List (Str × Value)) (stored : List Str) (m₀ : Str → Option Value) (P : σ → Prop) (m : Str → Option Value) (nx : List (Addr × Obj)) : Prop :=
  ∃ c : σ, nx = Led c ∧ (∀ p ∈ ps c, m p.1 = some p.2) ∧ (∀ z, (∀ p ∈ ps c, z ≠ p.1) → stored.contains z = false → m z = m₀ z) ∧ P c
/-- the frame's map at the turn -/
abbrev KM {σ : Type} (ps : σ → List (Str × Value)) (stored : List Str) (m₀ u : Str → Option Value) (c : σ) : Str → Option Value :=
  kstB (fun z => if stored.contains z then u z else m₀ z) (ps c)
theorem km_eq {ps : List (Str × Value)} {stored : List Str} {m₀ m : Str → Option Value} (h1 : ∀ p ∈ ps, m p.1 = some p.2) (h2 : ∀ z, (∀ p ∈ ps, z ≠ p.1) → stored.contains z = false → m z = m₀ z) :
    kstB (fun z => if stored.contains z then m z else m₀ z) ps = m := by
  funext y
  refine kstB_eq h1 fun hn => ?_
  show (if stored.contains y = true then m y else m₀ y) = m y
  cases h3 : stored.contains y with
  | true => simp
  | false => simp only [Bool.false_eq_true, if_false]; exact (h2 y hn h3).symm
theorem ks_end {σ : Type} {h₀ : Heap} {Led : σ → List (Addr × Obj)} {ps : σ → List (Str × Value)} {stored : List Str} {m₀ : Str → Option Value} {P : σ → Prop} (c : σ) {L : Addr} {m' : Str → Option Value} {own news' : List (Addr × Obj)} {adr : List Addr} {s₁ : Shared} {h' : Heap} {tk : Nat}
    (F : Fr h₀ L h' m') (N : News h₀ L h' news') (hn : ∀ p ∈ Led c, p ∈ news') (ho : ∀ p ∈ own, p ∈ news') (ha : (Led c).map (·.1) = adr) (hk : ∀ p ∈ ps c, m' p.1 = some p.2) (hr : ∀ z, (∀ p ∈ ps c, z ≠ p.1) → stored.contains z = false → m' z = m₀ z) (hp : P c) :
    InvEndN h₀ L (KS Led ps stored m₀ P) own adr s₁ { s₁ with heap := h', toks := tk } :=
  InvEndN.intro F N ⟨c, rfl, hk, hr, hp⟩ ha hn ho
section
variable {prog : Program} {w : World} {A : Around} {s : Shared} {env : Env} {h₀ : Heap} {target : Expr} {body : List Stmt} {Q : Flow → Shared → Prop}
theorem loop_gen {I : Addr} {fp wr : List Addr} {n : Nat} {P : Nat → Value → Prop} {St : Nat → Heap → Prop} {m₀ : Str → Option Value} {news : List (Addr × Obj)} {R : Result → Shared → Prop} (J : Nat → (Str → Option Value) → List (Addr × Obj) → Prop)
    (W : Walks prog w A I fp wr n P St) (hLf : env.locals ∉ fp) (hwr : ∀ b ∈ wr, h₀.get? b = none) (hfp : ∀ q ∈ news, q.1 ∉ fp) (hst : St 0 s.heap) (F : Fr h₀ env.locals s.heap m₀) (N : News h₀ env.locals s.heap news) (hj : J 0 m₀ news)
    (turn : ∀ i v m₁ news₁ h tk own, i < n → P i v → news₁.map (·.1) = news.map (·.1) → OwnOff own (news.map (·.1)) → J i m₁ news₁ → Fr h₀ env.locals h m₁ → News h₀ env.locals h (news₁ ++ own) →
      wpAny (model prog w) A (assign target env v) (fun _ s₂ => wpAny (model prog w) A (execs body env) (InvPostN h₀ env.locals (J (i + 1)) own (news.map (·.1)) { s with heap := h, toks := tk } Q) (fun _ _ => False) s₂) (fun _ _ => False) { s with heap := h, toks := tk })
    (done : ∀ m₁ news₁ h tk, J n m₁ news₁ → Fr h₀ env.locals h m₁ → News h₀ env.locals h news₁ → Q .next { s with heap := h, toks := tk })
    (hR : ∀ f s', Q f s' → R (.ok f) s') (ht : ∀ v, letOwnedTupleGo target (.ref I) v = pure ()) :
    codeAny (model prog w) A (.forLoop target (.ref I) body [] env) R s := by
  have hLw : env.locals ∉ wr := fun h => hLf (W.sub _ h)
  have old : ∀ b o, h₀.get? b = some o → b ∉ wr := fun b o e hb => by rw [hwr b hb] at e; cases e
  have adrs : ∀ {nw : List (Addr × Obj)}, nw.map (·.1) = news.map (·.1) → ∀ p ∈ nw, p.1 ∉ fp := fun e p hp => by
    have h1 : p.1 ∈ news.map (·.1) := e ▸ List.mem_map.mpr ⟨p, hp, rfl⟩
    obtain ⟨q, hq, e'⟩ := List.mem_map.mp h1
    exact e' ▸ hfp q hq
  refine codeAny_forLoop (ht := ht)
    (fun k s' => ∃ h' tk m' news' i, s' = { s with heap := h', toks := tk } ∧ St i h' ∧ Fr h₀ env.locals h' m' ∧ News h₀ env.locals h' news' ∧ news'.map (·.1) = news.map (·.1) ∧ J i m' news' ∧ i ≤ n ∧ k = n + 1 - i) ?_ (n + 1)
    ⟨s.heap, s.toks, m₀, news, 0, rfl, hst, F, N, rfl, hj, Nat.zero_le _, rfl⟩
  rintro k s' ⟨h', tk, m', news', i, rfl, hst', F', N', hadr, hJ, hi, rfl⟩
  have hnw' := adrs hadr
  have next : ∀ h₁ : Heap, (∀ b o, b ∉ wr → h'.get? b = some o → h₁.get? b = some o) → Fr h₀ env.locals h₁ m' ∧ News h₀ env.locals h₁ news' := fun h₁ hk₁ =>
    ⟨⟨F'.ns.at' fun o e => hk₁ _ o hLw e, fun b o e => hk₁ b o (old b o e) (F'.keep b o e), F'.above⟩, fun p hp => ⟨hk₁ _ _ (fun hq => hnw' p hp (W.sub _ hq)) (N' p hp).1, (N' p hp).2⟩⟩
  by_cases hlt : i < n
  · refine W.item i _ _ _ hlt hst' fun v h₁ tk₁ hP hst₁ hk₁ => ?_
    obtain ⟨F₁, N₁⟩ := next h₁ hk₁
    have Nown : News h₀ env.locals h₁ (ownOf h₀ fp h₁) := news_ownOf hLf
    have hoff : OwnOff (ownOf h₀ fp h₁) (news.map (·.1)) := fun p hp b hb e => by
      obtain ⟨q, hq, rfl⟩ := List.mem_map.mp hb
      exact hfp q hq (e ▸ ownOf_sub p hp)
    have N₂ : News h₀ env.locals h₁ (news' ++ ownOf h₀ fp h₁) := fun p hp => (List.mem_append.mp hp).elim (N₁ p) (Nown p)
    refine wpAny_mono (turn i v m' news' h₁ tk₁ (ownOf h₀ fp h₁) hlt hP hadr hoff hJ F₁ N₂) (fun _ s₂ h₂ => ?_) fun _ _ e => e.elim
    refine wpAny_mono h₂ (fun f s₃ h₃ => ?_) fun _ _ e => e.elim
    have fin : InvEndN h₀ env.locals (J (i + 1)) (ownOf h₀ fp h₁) (news.map (·.1)) { s with heap := h₁, toks := tk₁ } s₃ →
        ∃ m, m < n + 1 - i ∧ ∃ h' tk m' news' i, s₃ = { s with heap := h', toks := tk } ∧ St i h' ∧ Fr h₀ env.locals h' m' ∧ News h₀ env.locals h' news' ∧ news'.map (·.1) = news.map (·.1) ∧ J i m' news' ∧ i ≤ n ∧ m = n + 1 - i := by
      rintro ⟨h₃', tk₃, m₃, news₃, nx, rfl, F₃, N₃, hn₃, ho₃, ha₃, hJ₃⟩
      refine ⟨n + 1 - (i + 1), by omega, h₃', tk₃, m₃, nx, i + 1, rfl, ?_, F₃, fun p hp => N₃ p (hn₃ p hp), ha₃, hJ₃, hlt, rfl⟩
      refine W.frame _ _ _ hst₁ fun b hb o e => ?_
      cases hn : h₀.get? b with
      | some o₀ =>
        have : o₀ = o := by have := F₁.keep b o₀ hn; rw [e] at this; exact (Option.some.inj this).symm
        exact this ▸ F₃.keep b o₀ hn
      | none => exact (N₃ _ (ho₃ _ (mem_ownOf hb hn e))).1
    cases f with
    | ret v => exact hR _ _ h₃
    | brk => exact hR _ _ h₃
    | cont => exact fin h₃
    | next => exact fin h₃
  · have hin : i = n := by omega
    subst hin
    refine W.done _ _ _ hst' fun h₁ tk₁ hk₁ => wpAny_execs_nil ?_
    obtain ⟨F₁, N₁⟩ := next h₁ hk₁
    exact hR _ _ (done m' news' h₁ tk₁ hJ F₁ N₁)
/-- a loop by a datum: for any target and anything that is walked -/
theorem loop_ks {σ : Type} {I : Addr} {fp wr : List Addr} {n : Nat} {P : Nat → Value → Prop} {St : Nat → Heap → Prop} {m₀ : Str → Option Value} {R : Result → Shared → Prop} (Led : σ → List (Addr × Obj)) (ps : σ → List (Str × Value)) (stored : List Str) (J : Nat → σ → Prop) (c₀ : σ)
    (W : Walks prog w A I fp wr n P St) (hLf : env.locals ∉ fp) (hwr : ∀ b ∈ wr, h₀.get? b = none) (hfp : ∀ q ∈ Led c₀, q.1 ∉ fp) (hst : St 0 s.heap) (F : Fr h₀ env.locals s.heap m₀) (N : News h₀ env.locals s.heap (Led c₀)) (hk : ∀ p ∈ ps c₀, m₀ p.1 = some p.2) (hj : J 0 c₀)
    (turn : ∀ (c : σ) i v (u : Str → Option Value) h tk own, i < n → P i v → (Led c).map (·.1) = (Led c₀).map (·.1) → OwnOff own ((Led c₀).map (·.1)) → J i c → Fr h₀ env.locals h (KM ps stored m₀ u c) → News h₀ env.locals h (Led c ++ own) →
      wpAny (model prog w) A (assign target env v) (fun _ s₂ => wpAny (model prog w) A (execs body env) (InvPostN h₀ env.locals (KS Led ps stored m₀ (J (i + 1))) own ((Led c₀).map (·.1)) { s with heap := h, toks := tk } Q) (fun _ _ => False) s₂) (fun _ _ => False) { s with heap := h, toks := tk })
    (done : ∀ (c : σ) (u : Str → Option Value) h tk, J n c → Fr h₀ env.locals h (KM ps stored m₀ u c) → News h₀ env.locals h (Led c) → Q .next { s with heap := h, toks := tk })
    (hR : ∀ f s', Q f s' → R (.ok f) s') (ht : ∀ v, letOwnedTupleGo target (.ref I) v = pure ()) :
    codeAny (model prog w) A (.forLoop target (.ref I) body [] env) R s := by
  refine loop_gen (news := Led c₀) (fun i m nx => KS Led ps stored m₀ (J i) m nx) W hLf hwr hfp hst F N ⟨c₀, rfl, hk, fun _ _ _ => rfl, hj⟩ ?_ ?_ hR ht
  · rintro i v m₁ nx h tk own hi hP hadr hoff ⟨c, rfl, h1, h2, hJ⟩ F₁ N₁
    exact turn c i v m₁ h tk own hi hP hadr hoff hJ (by rw [KM, km_eq h1 h2]; exact F₁) N₁
  · rintro m₁ nx h tk ⟨c, rfl, h1, h2, hJ⟩ F₁ N₁
    exact done c m₁ h tk hJ (by rw [KM, km_eq h1 h2]; exact F₁) N₁
variable {iter : Expr} {pos : Pos}
/-- for x in range(..) -/
theorem for_range {σ : Type} {r : Addr} {a₀ b₀ : Int} {t₀ u₀ v₀ : Tok} {n : Nat} {m₀ : Str → Option Value} {R : Result → Shared → Prop} (Led : σ → List (Addr × Obj)) (ps : σ → List (Str × Value)) (stored : List Str) (J : Nat → σ → Prop) (c₀ : σ)
    (hh : A.handled = none) (hr : IsRange s.heap r a₀ b₀ 1 t₀ u₀ v₀) (hsmall : Builtin.Range.small a₀ b₀ 1 = true) (hn : Builtin.Range.rangeSize a₀ b₀ 1 = (n : Int)) (F : Fr h₀ env.locals s.heap m₀) (N : News h₀ env.locals s.heap (Led c₀)) (hk : ∀ p ∈ ps c₀, m₀ p.1 = some p.2) (hj : J 0 c₀)
    (turn : ∀ (c : σ) (i : Nat) t (u : Str → Option Value) h tk own, i < n → (Led c).map (·.1) = (Led c₀).map (·.1) → OwnOff own ((Led c₀).map (·.1)) → J i c → Fr h₀ env.locals h (KM ps stored m₀ u c) → News h₀ env.locals h (Led c ++ own) →
      wpAny (model prog w) A (assign target env (.int (a₀ + (i : Int)) t)) (fun _ s₂ => wpAny (model prog w) A (execs body env) (InvPostN h₀ env.locals (KS Led ps stored m₀ (J (i + 1))) own ((Led c₀).map (·.1)) { s with heap := h, toks := tk } Q) (fun _ _ => False) s₂) (fun _ _ => False) { s with heap := h, toks := tk })
    (done : ∀ (c : σ) (u : Str → Option Value) h tk, J n c → Fr h₀ env.locals h (KM ps stored m₀ u c) → News h₀ env.locals h (Led c) → Q .next { s with heap := h, toks := tk })
    (hR : ∀ f s', Q f s' → R (.ok f) s') (ht : ∀ I v, letOwnedTupleGo target (.ref I) v = pure ()) :
    wpAny (model prog w) A (pyIter (.ref r)) (fun it s₂ => codeAny (model prog w) A (.forLoop target it body [] env) R s₂) (fun _ _ => False) s := by
  refine wpAny_pyIter_range hr hsmall ?_
  have W : Walks prog w A s.heap.objs.size [s.heap.objs.size] [s.heap.objs.size] n (fun i v => ∃ t, v = .int (a₀ + i * 1) t)
      (fun i h => IsRangeIter h s.heap.objs.size (a₀ + (i : Nat) * 1) ((n : Int) - (i : Nat)) 1) := Walks.range hh _ a₀ 1 n
  refine loop_ks Led ps stored J c₀ W ?_ ?_ ?_ (by show IsRangeIter _ _ _ _ _; rw [hn]; simpa using Heap.get?_push_size _ rfl) (F.push _) (fun p hp => ⟨Heap.get?_push_of_some _ (N p hp).1, (N p hp).2⟩) hk hj ?_ done hR (ht _)
  · intro hm
    exact absurd F.ns.lt ((List.mem_singleton.mp hm) ▸ Nat.lt_irrefl _)
  · intro b hb
    rw [List.mem_singleton.mp hb]
    exact next_is_new F
  · intro p hp hI
    exact absurd (Heap.lt_size (N p hp).1) ((List.mem_singleton.mp hI) ▸ Nat.lt_irrefl _)
  · rintro c i v u h tk own hi ⟨t, rfl⟩ hadr hoff hJ F₁ N₁
    have e1 : a₀ + (i : Int) * 1 = a₀ + (i : Int) := by omega
    rw [e1]
    exact turn c i t u h tk own hi hadr hoff hJ F₁ N₁
/-- for x in a list, any items -/
theorem for_list {σ : Type} {l : Addr} {items : Array Value} {m₀ : Str → Option Value} {R : Result → Shared → Prop} (Led : σ → List (Addr × Obj)) (ps : σ → List (Str × Value)) (stored : List Str) (J : Nat → σ → Prop) (c₀ : σ)
    (hh : A.handled = none) (hl : s.heap.IsList l items) (hlL : l ≠ env.locals) (hlN : ∀ q ∈ Led c₀, q.1 ≠ l) (F : Fr h₀ env.locals s.heap m₀) (N : News h₀ env.locals s.heap (Led c₀)) (hk : ∀ p ∈ ps c₀, m₀ p.1 = some p.2) (hj : J 0 c₀)
    (turn : ∀ (c : σ) (i : Nat) v (u : Str → Option Value) h tk own, i < items.size → items[i]? = some v → (Led c).map (·.1) = (Led c₀).map (·.1) → OwnOff own ((Led c₀).map (·.1)) → J i c → Fr h₀ env.locals h (KM ps stored m₀ u c) → News h₀ env.locals h (Led c ++ own) →
      wpAny (model prog w) A (assign target env v) (fun _ s₂ => wpAny (model prog w) A (execs body env) (InvPostN h₀ env.locals (KS Led ps stored m₀ (J (i + 1))) own ((Led c₀).map (·.1)) { s with heap := h, toks := tk } Q) (fun _ _ => False) s₂) (fun _ _ => False) { s with heap := h, toks := tk })
    (done : ∀ (c : σ) (u : Str → Option Value) h tk, J items.size c → Fr h₀ env.locals h (KM ps stored m₀ u c) → News h₀ env.locals h (Led c) → Q .next { s with heap := h, toks := tk })
    (hR : ∀ f s', Q f s' → R (.ok f) s') (ht : ∀ I v, letOwnedTupleGo target (.ref I) v = pure ()) :
    wpAny (model prog w) A (pyIter (.ref l)) (fun it s₂ => codeAny (model prog w) A (.forLoop target it body [] env) R s₂) (fun _ _ => False) s := by
  refine wpAny_pyIter_list hl ?_
  have hlt : l < s.heap.objs.size := by obtain ⟨o, ho, _⟩ := id hl; exact Heap.lt_size ho
  have hne : l ≠ s.heap.objs.size := Nat.ne_of_lt hlt
  have W := Walks.list (prog := prog) (w := w) hh s.heap.objs.size l hne items
  refine loop_ks Led ps stored J c₀ W ?_ ?_ ?_ ⟨⟨_, Heap.get?_push_size _ rfl, rfl, rfl⟩, hl.at fun o e => Heap.get?_push_of_some _ e⟩ (F.push _) (fun p hp => ⟨Heap.get?_push_of_some _ (N p hp).1, (N p hp).2⟩) hk hj ?_ done hR (ht _)
  · intro hm
    rcases List.mem_cons.mp hm with e | hm
    · exact absurd F.ns.lt (e ▸ Nat.lt_irrefl _)
    · exact hlL (List.mem_singleton.mp hm).symm
  · intro b hb
    rw [List.mem_singleton.mp hb]
    exact next_is_new F
  · intro p hp hI
    rcases List.mem_cons.mp hI with e | hm
    · exact absurd (Heap.lt_size (N p hp).1) (e ▸ Nat.lt_irrefl _)
    · exact hlN p hp (List.mem_singleton.mp hm)
  · rintro c i v u h tk own hi hv hadr hoff hJ F₁ N₁
    exact turn c i v u h tk own hi hv hadr hoff hJ F₁ N₁
/-- for x in bytes -/
theorem for_bytes {σ : Type} {b : Array UInt8} {tb : Tok} {m₀ : Str → Option Value} {R : Result → Shared → Prop} (Led : σ → List (Addr × Obj)) (ps : σ → List (Str × Value)) (stored : List Str) (J : Nat → σ → Prop) (c₀ : σ)
    (hh : A.handled = none) (F : Fr h₀ env.locals s.heap m₀) (N : News h₀ env.locals s.heap (Led c₀)) (hk : ∀ p ∈ ps c₀, m₀ p.1 = some p.2) (hj : J 0 c₀)
    (turn : ∀ (c : σ) (i : Nat) (k : Int) t (u : Str → Option Value) h tk own, i < b.size → (KBw.bInts b)[i]? = some k → (Led c).map (·.1) = (Led c₀).map (·.1) → OwnOff own ((Led c₀).map (·.1)) → J i c → Fr h₀ env.locals h (KM ps stored m₀ u c) → News h₀ env.locals h (Led c ++ own) →
      wpAny (model prog w) A (assign target env (.int k t)) (fun _ s₂ => wpAny (model prog w) A (execs body env) (InvPostN h₀ env.locals (KS Led ps stored m₀ (J (i + 1))) own ((Led c₀).map (·.1)) { s with heap := h, toks := tk } Q) (fun _ _ => False) s₂) (fun _ _ => False) { s with heap := h, toks := tk })
    (done : ∀ (c : σ) (u : Str → Option Value) h tk, J b.size c → Fr h₀ env.locals h (KM ps stored m₀ u c) → News h₀ env.locals h (Led c) → Q .next { s with heap := h, toks := tk })
    (hR : ∀ f s', Q f s' → R (.ok f) s') (ht : ∀ I v, letOwnedTupleGo target (.ref I) v = pure ()) :
    wpAny (model prog w) A (pyIter (.bytes b tb)) (fun it s₂ => codeAny (model prog w) A (.forLoop target it body [] env) R s₂) (fun _ _ => False) s := by
  refine KBw.pyIter_bytes ?_
  refine loop_ks Led ps stored J c₀ (KBw.walks hh s.heap.objs.size b tb) ?_ ?_ ?_ ⟨_, Heap.get?_push_size _ rfl, rfl, rfl⟩ (F.push _) (fun p hp => ⟨Heap.get?_push_of_some _ (N p hp).1, (N p hp).2⟩) hk hj ?_ done hR (ht _)
  · intro hm
    exact absurd F.ns.lt ((List.mem_singleton.mp hm) ▸ Nat.lt_irrefl _)
  · intro b hb
    rw [List.mem_singleton.mp hb]
    exact next_is_new F
  · intro p hp hI
    exact absurd (Heap.lt_size (N p hp).1) ((List.mem_singleton.mp hI) ▸ Nat.lt_irrefl _)
  · rintro c i v u h tk own hi ⟨cb, t, hc, rfl⟩ hadr hoff hJ F₁ N₁
    exact turn c i _ t u h tk own hi (KBw.ints_get hc) hadr hoff hJ F₁ N₁
theorem for_exec (h : wpAny (model prog w) A (eval iter env) (fun x s₁ => wpAny (model prog w) A (pyIter x) (fun it s₂ =>
      codeAny (model prog w) A (.forLoop target it body [] env) (fun r s' => match r with | .ok f => Q f s' | .error _ => False) s₂) (fun _ _ => False) s₁) (fun _ _ => False) s)
    (hs : ∀ x, foldedSetIterable iter env x = pure x := by intro _; rfl) : wpAny (model prog w) A (exec (.For target iter body [] pos) env) Q (fun _ _ => False) s :=
  wpAny_For (wpAny_mono h (fun _ _ h₁ => wpAny_mono h₁ (fun _ _ h₂ => codeAny_mono h₂ fun r s' hr => by cases r with | ok f => exact hr | error e => exact hr.elim) fun _ _ e => e) fun _ _ e => e) hs
end
theorem ne_fr {g h : Heap} {L l : Addr} {m : Str → Option Value} {its : Array Value} (F : Fr g L h m) (hl : g.IsList l its) : l ≠ L := by
  obtain ⟨o, ho, _⟩ := hl
  exact Nat.ne_of_lt (Nat.lt_of_lt_of_le (Heap.lt_size ho) F.above)
theorem ne_news {g h : Heap} {L l : Addr} {news : List (Addr × Obj)} {its : Array Value} (N : News g L h news) (hl : g.IsList l its) : ∀ q ∈ news, q.1 ≠ l := fun q hq e => by
  obtain ⟨o, ho, _⟩ := hl
  have := (N q hq).2.2
  rw [e, ho] at this; cases this
def WEnd {σ : Type} (h₀ : Heap) (L : Addr) (Led : σ → List (Addr × Obj)) (ps : σ → List (Str × Value)) (stored : List Str) (m₀ : Str → Option Value) (J : σ → Prop) (μ : σ → Nat) (n : Nat) (s s₂ : Shared) : Prop :=
  ∃ h' tk m' news' c, s₂ = { s with heap := h', toks := tk } ∧ Fr h₀ L h' m' ∧ News h₀ L h' news' ∧ (∀ p ∈ Led c, p ∈ news') ∧ (∀ p ∈ ps c, m' p.1 = some p.2) ∧ (∀ z, (∀ p ∈ ps c, z ≠ p.1) → stored.contains z = false → m' z = m₀ z) ∧ J c ∧ μ c < n
def WPost {σ : Type} (h₀ : Heap) (L : Addr) (Led : σ → List (Addr × Obj)) (ps : σ → List (Str × Value)) (stored : List Str) (m₀ : Str → Option Value) (J : σ → Prop) (μ : σ → Nat) (n : Nat) (s : Shared) (Q : Flow → Shared → Prop) (f : Flow) (s₂ : Shared) : Prop := match f with
  | .ret v => Q (.ret v) s₂
  | .brk => Q .next s₂
  | _ => WEnd h₀ L Led ps stored m₀ J μ n s s₂
theorem w_end {σ : Type} {h₀ : Heap} {L : Addr} {Led : σ → List (Addr × Obj)} {ps : σ → List (Str × Value)} {stored : List Str} {m₀ : Str → Option Value} {J : σ → Prop} {μ : σ → Nat} {n : Nat} {s : Shared} (c : σ) {h' : Heap} {tk : Nat} {m' : Str → Option Value} {news' : List (Addr × Obj)}
    (F : Fr h₀ L h' m') (N : News h₀ L h' news') (hn : ∀ p ∈ Led c, p ∈ news') (hk : ∀ p ∈ ps c, m' p.1 = some p.2) (hr : ∀ z, (∀ p ∈ ps c, z ≠ p.1) → stored.contains z = false → m' z = m₀ z) (hj : J c) (hm : μ c < n) :
    WEnd h₀ L Led ps stored m₀ J μ n s { s with heap := h', toks := tk } := ⟨h', tk, m', news', c, rfl, F, N, hn, hk, hr, hj, hm⟩
theorem while_ks {prog : Program} {w : World} {A : Around} {s : Shared} {env : Env} {h₀ : Heap} {test : Expr} {body : List Stmt} {pos : Pos} {Q : Flow → Shared → Prop} {σ : Type} {m₀ : Str → Option Value} (Led : σ → List (Addr × Obj)) (ps : σ → List (Str × Value)) (stored : List Str) (J : σ → Prop) (μ : σ → Nat) (c₀ : σ)
    (F : Fr h₀ env.locals s.heap m₀) (N : News h₀ env.locals s.heap (Led c₀)) (hk : ∀ p ∈ ps c₀, m₀ p.1 = some p.2) (hj : J c₀)
    (turn : ∀ (c : σ) (u : Str → Option Value) h tk, J c → Fr h₀ env.locals h (KM ps stored m₀ u c) → News h₀ env.locals h (Led c) →
      wpAny (model prog w) A (isTrue test env (eval test env)) (fun b s₂ => WhlIf b (wpAny (model prog w) A (execs body env) (WPost h₀ env.locals Led ps stored m₀ J μ (μ c) s Q) (fun _ _ => False) s₂) (Q .next s₂)) (fun _ _ => False) { s with heap := h, toks := tk }) :
    wpAny (model prog w) A (exec (.While test body [] pos) env) Q (fun _ _ => False) s := by
  refine wpAny_While (codeAny_whileLoop (fun n s' => ∃ h' tk m' c, s' = { s with heap := h', toks := tk } ∧ Fr h₀ env.locals h' m' ∧ News h₀ env.locals h' (Led c) ∧ (∀ p ∈ ps c, m' p.1 = some p.2) ∧ (∀ z, (∀ p ∈ ps c, z ≠ p.1) → stored.contains z = false → m' z = m₀ z) ∧ J c ∧ n = μ c) ?_ (μ c₀)
    ⟨s.heap, s.toks, m₀, c₀, rfl, F, N, hk, fun _ _ _ => rfl, hj, rfl⟩)
  rintro n s' ⟨h', tk, m', c, rfl, F', N', h1, h2, hJ, rfl⟩
  refine wpAny_mono (turn c m' h' tk hJ (by rw [KM, km_eq h1 h2]; exact F') N') (fun b s₂ hb => ?_) fun _ _ e => e.elim
  cases b with
  | false => exact wpAny_execs_nil hb
  | true =>
    refine wpAny_mono hb (fun f s₃ h₃ => ?_) fun _ _ e => e.elim
    have fin : WEnd h₀ env.locals Led ps stored m₀ J μ (μ c) s s₃ → ∃ m, m < μ c ∧ ∃ h' tk m' c, s₃ = { s with heap := h', toks := tk } ∧ Fr h₀ env.locals h' m' ∧ News h₀ env.locals h' (Led c) ∧ (∀ p ∈ ps c, m' p.1 = some p.2) ∧ (∀ z, (∀ p ∈ ps c, z ≠ p.1) → stored.contains z = false → m' z = m₀ z) ∧ J c ∧ m = μ c := by
      rintro ⟨h₄, tk₄, m₄, news₄, c₄, rfl, F₄, N₄, hn₄, hk₄, hr₄, hJ₄, hm₄⟩
      exact ⟨μ c₄, hm₄, h₄, tk₄, m₄, c₄, rfl, F₄, fun p hp => N₄ p (hn₄ p hp), hk₄, hr₄, hJ₄, rfl⟩
    cases f with
    | ret v => exact h₃
    | brk => exact h₃
    | cont => exact fin h₃
    | next => exact fin h₃
theorem news_sub {h₀ h : Heap} {L : Addr} {news l : List (Addr × Obj)} (N : News h₀ L h news) (hs : ∀ p ∈ l, p ∈ news) : News h₀ L h l := fun p hp => N p (hs p hp)
theorem append_M {prog : Program} {w : World} {A : Around} {E : Value → Shared → Prop} {s : Shared} {h₀ : Heap} {L l : Addr} {m : Str → Option Value} {rest : List (Addr × Obj)} {vs : List Value} {n : Nat} {x : Value} {Q : Value → Shared → Prop}
    (F : Fr h₀ L s.heap m) (N : News h₀ L s.heap ((l, listOf vs.toArray n) :: rest)) (hne : ∀ p ∈ rest, p.1 ≠ l) (hsz : vs.length ≤ 16777216)
    (h : ∀ h', Fr h₀ L h' m → News h₀ L h' ((l, listOf (vs ++ [x]).toArray (n + 1)) :: rest) → Q .none { s with heap := h' }) : wpAny (model prog w) A (call (.builtin "list.append") [.ref l, x]) Q E s :=
  append_K F N (.head hne) (fun h' F' N' => h h' F' (by simpa using N')) (by rw [List.size_toArray]; exact hsz)
theorem extend_M {prog : Program} {w : World} {A : Around} {E : Value → Shared → Prop} {s : Shared} {h₀ : Heap} {L l b : Addr} {m : Str → Option Value} {rest : List (Addr × Obj)} {vs : List Value} {its2 : Array Value} {n n2 : Nat} {Q : Value → Shared → Prop}
    (F : Fr h₀ L s.heap m) (N : News h₀ L s.heap ((l, listOf vs.toArray n) :: rest)) (hne : ∀ p ∈ rest, p.1 ≠ l) (hb : s.heap.get? b = some (listOf its2 n2)) (hsz : vs.length + its2.size ≤ 16777216)
    (h : ∀ h' n', Fr h₀ L h' m → News h₀ L h' ((l, listOf (vs ++ its2.toList).toArray n') :: rest) → Q .none { s with heap := h' }) : wpAny (model prog w) A (call (.builtin "list.extend") [.ref l, .ref b]) Q E s :=
  extend_in (own := []) F N (fun _ h => nomatch h) hne hb (fun h' n' F' N' => h h' n' F' N') (by rw [PySem.sizeLine_eq]; exact hsz)
end
section
theorem tests_nil {M : Model} {A : Around} {E : Value → Shared → Prop} {s : Shared} {f : Expr → Bool → Sem (ForInStep Bool)} {Q : Bool → Shared → Prop} (h : Q true s) : wpAny M A (forIn ([] : List Expr) true f) Q E s := by
  rw [List.forIn_nil]; exact wpAny_pure h
theorem tests_one {M : Model} {A : Around} {E : Value → Shared → Prop} {s : Shared} {env : Env} {c : Expr} {Q : Bool → Shared → Prop} (h : wpAny M A (isTrue c env (eval c env)) Q E s) :
    wpAny M A (forIn [c] true fun c r => if r = true then do let ok ← isTrue c env (eval c env); pure (ForInStep.yield ok) else pure (ForInStep.yield r)) Q E s := by
  rw [List.forIn_cons]
  refine wpAny_bind ?_
  rw [if_pos rfl]
  refine wpAny_bind (wpAny_mono h (fun ok s' h' => wpAny_pure ?_) fun _ _ e => e)
  show wpAny M A (forIn ([] : List Expr) ok _) Q E s'
  rw [List.forIn_nil]
  exact wpAny_pure h'
def pV (p : Int → Bool) (v : Value) : Bool := match v with
  | .int k _ => p k
  | _ => false
def fV (f : Int → Value → Prop) (v y : Value) : Prop := ∃ k t, v = .int k t ∧ f k y
theorem ints_of : ∀ {ks : List Int} {vs : List Value}, vs.length = ks.length → (∀ (j : Nat) (v : Value), vs[j]? = some v → ∃ k t, ks[j]? = some k ∧ v = Value.int k t) → IntsAre vs ks
  | [], [], _, _ => .nil
  | k :: ks, v :: vs, hl, h => by
    obtain ⟨k', t, hk, rfl⟩ := h 0 v rfl
    cases hk
    exact .cons _ _ (ints_of (by simpa using hl) fun j v hv => by simpa using h (j + 1) v (by simpa using hv))
theorem paired_of {p : Int → Bool} {f : Int → Value → Prop} {vs : List Value} {ks : List Int} (hi : IntsAre vs ks) : ∀ {ys : List Value}, Paired (fV f) (vs.filter (pV p)) ys → Paired f (ks.filter p) ys := by
  induction hi with
  | nil => intro ys h; cases h; exact .nil
  | cons n t hi ih =>
    intro ys h
    rw [List.filter_cons] at h ⊢
    by_cases hp : p n = true
    · rw [if_pos (show pV p (.int n t) = true from hp)] at h
      rw [if_pos hp]
      cases h with
      | cons ha hr =>
        obtain ⟨k, t', e, hf⟩ := ha
        cases e
        exact .cons hf (ih hr)
    · rw [if_neg (show ¬ pV p (.int n t) = true from hp)] at h
      rw [if_neg hp]
      exact ih h
theorem paired_ints {ks : List Int} {g : Int → Int} : ∀ {ys : List Value}, Paired (fun k y => ∃ t, y = Value.int (g k) t) ks ys → IntsAre ys (ks.map g) := by
  induction ks with
  | nil => intro ys h; cases h; exact .nil
  | cons k ks ih => intro ys h; cases h with | cons ha hr => obtain ⟨t, rfl⟩ := ha; exact .cons _ _ (ih hr)
theorem fr_at {g h : Heap} {C : Addr} {m : Str → Option Value} {x : Str} {v : Value} (hm : m x = some v) (F : Fr g C h m) : Fr g C h (fun y => if y = x then some v else m y) := by
  have e : (fun y => if y = x then some v else m y) = m := by
    funext y
    by_cases h : y = x
    · rw [if_pos h, h, hm]
    · rw [if_neg h]
  rw [e]; exact F
theorem fr_nil {g h : Heap} {C : Addr} {m : Str → Option Value} (_F : Fr g C h m) : News g C h [] := News.nil
theorem new_ne {h₀ h : Heap} {L D : Addr} {news : List (Addr × Obj)} {p : Addr × Obj} (N : News h₀ L h news) (hD : h.get? D = none) (hp : p ∈ news) : p.1 ≠ D := fun e => by rw [← e, (N p hp).1] at hD; cases hD
theorem nm_cell {M : Model} {A : Around} {E : Value → Shared → Prop} {s : Shared} {env : Env} {x : Str} {pos : Pos} {c : Addr} {o : Obj} {v : Value} {Q : Value → Shared → Prop} (hc : env.cells.lookup x = some c) (ho : s.heap.get? c = some o) (hd : o.data = .cell (some v)) (h : Q v s)
    (hk : env.scope.kind = .function := by rfl) (hx : env.kindOf x = some .cell := by rfl) (hb : (x == ("__debug__" : Str)) = false := by decide) : wpAny M A (eval (.Name x pos) env) Q E s :=
  wpAny_Name (wpAny_loadName_cell hk hx hc ⟨o, ho, hd⟩ h) hb
theorem nm_loc {M : Model} {A : Around} {E : Value → Shared → Prop} {s : Shared} {env : Env} {x : Str} {pos : Pos} {g : Heap} {m : Str → Option Value} {v : Value} {Q : Value → Shared → Prop} (F : Fr g env.locals s.heap m) (hv : m x = some v) (h : Q v s)
    (hk : env.scope.kind = .function := by rfl) (hx : env.kindOf x = some .local := by rfl) (hb : (x == ("__debug__" : Str)) = false := by decide) : wpAny M A (eval (.Name x pos) env) Q E s :=
  wpAny_Name (wpAny_loadName_local hk hx F.ns hv h) hb
theorem nm_blt {M : Model} {A : Around} {E : Value → Shared → Prop} {s : Shared} {env : Env} {x : Str} {pos : Pos} {g : Heap} {K : Frag} {p : Program} {loose : List Str} {mean : ExcName → Option Value} {mg mb : Str → Option Value} {v : Value} {Q : Value → Shared → Prop} (k : Kp g s.heap) (X : K.In g) (T : Top p loose mean mg mb g)
    (e : nsIn K mainGlobals x = some none) (hv : bootBuiltins x = some v) (hn : x ≠ "__name__") (h : Q v s)
    (hg : env.globals = mainGlobals := by rfl) (hb : env.builtins = builtinsNs := by rfl) (hk : env.scope.kind = .function := by rfl) (hx : env.kindOf x = some .globalImplicit := by rfl) (hd : (x == ("__debug__" : Str)) = false := by decide) : wpAny M A (eval (.Name x pos) env) Q E s :=
  Name_function_global hk hx (loadGlobal_builtin (env := env) (by rw [hg]; exact T.g.keeps k) (mg_none_of X T.g e) (by rw [hb]; exact T.b.keeps k) ((T.builtins x hn).trans hv) h) hd
theorem nm_glb {M : Model} {A : Around} {E : Value → Shared → Prop} {s : Shared} {env : Env} {x : Str} {pos : Pos} {g : Heap} {K : Frag} {p : Program} {loose : List Str} {mean : ExcName → Option Value} {mg mb : Str → Option Value} {v : Value} {Q : Value → Shared → Prop} (k : Kp g s.heap) (X : K.In g) (T : Top p loose mean mg mb g)
    (e : nsIn K mainGlobals x = some (some v)) (h : Q v s)
    (hg : env.globals = mainGlobals := by rfl) (hk : env.scope.kind = .function := by rfl) (hx : env.kindOf x = some .globalImplicit := by rfl) (hd : (x == ("__debug__" : Str)) = false := by decide) : wpAny M A (eval (.Name x pos) env) Q E s :=
  Name_function_global hk hx (loadGlobal_global (env := env) (by rw [hg]; exact T.g.keeps k) (mg_of X T.g e) h) hd
section
variable {prog : Program} {w : World} {A : Around} {env : Env} {elt iter : Expr} {x : Str} {px : Pos} {ifs : List Expr} {scope : Scope} {cl : List (Str × Addr)} {pos : Pos}
/-- what is asked of a comprehension over ints: its tests and its elements, the heap behind them as before -/
structure CompI (prog : Program) (w : World) (A : Around) (env : Env) (scope : Scope) (cl : List (Str × Addr)) (x : Str) (ifs : List Expr) (elt : Expr) (g : Heap) (ks : List Int) (p : Int → Bool) (f : Int → Value → Prop) : Prop where
  tests : ∀ C k t (s₃ : Shared) (m₃ : Str → Option Value), k ∈ ks → Fr g C s₃.heap (fun y => if y = x then some (.int k t) else m₃ y) →
    wpAny (model prog w) A (forIn ifs true fun c r => if r = true then do let ok ← isTrue c (compEnvC scope cl C env) (eval c (compEnvC scope cl C env)); pure (ForInStep.yield ok) else pure (ForInStep.yield r))
      (fun ok s₄ => ok = p k ∧ PySem.Keeps s₃ s₄) (fun _ _ => False) s₃
  elt : ∀ C k t (s₃ : Shared) (m₃ : Str → Option Value), k ∈ ks → p k = true → Fr g C s₃.heap (fun y => if y = x then some (.int k t) else m₃ y) →
    wpAny (model prog w) A (eval elt (compEnvC scope cl C env)) (fun y s₄ => f k y ∧ PySem.Keeps s₃ s₄) (fun _ _ => False) s₃
theorem quietC {wr : List Addr} {P : Nat → Value → Prop} {ks : List Int} {g : Heap} {s₂ : Shared} {p : Int → Bool} {f : Int → Value → Prop} (hP : ∀ i v, P i v → ∃ k t, ks[i]? = some k ∧ v = .int k t) (hk : Kp g s₂.heap) (hw : ∀ b ∈ wr, g.get? b = none) (hsz : g.objs.size ≤ s₂.heap.objs.size)
    (H : CompI prog w A env scope cl x ifs elt g ks p f) : QuietOnC prog w A env scope cl x ifs elt wr P (pV p) (fV f) s₂ where
  tests := fun C i v s₃ m₃ E' hC hPv hn hm hkk _ => by
    obtain ⟨k, t, hi, rfl⟩ := hP i v hPv
    refine wpAny_mono (H.tests C k t s₃ m₃ (List.mem_of_getElem? hi) (fr_at hm ⟨hn, fun b o e => hkk b o (fun hb => by rw [hw b hb] at e; cases e) (hk b o e), Nat.le_trans hsz hC⟩)) (fun ok s₄ h => h) fun _ _ e => e.elim
  elt := fun C i v s₃ m₃ E' hC hPv hp hn hm hkk _ => by
    obtain ⟨k, t, hi, rfl⟩ := hP i v hPv
    refine wpAny_mono (H.elt C k t s₃ m₃ (List.mem_of_getElem? hi) hp (fr_at hm ⟨hn, fun b o e => hkk b o (fun hb => by rw [hw b hb] at e; cases e) (hk b o e), Nat.le_trans hsz hC⟩)) (fun y s₄ h => ⟨⟨k, t, rfl, h.1⟩, h.2⟩) fun _ _ e => e.elim
/-- a source of ints: its iterator stands, new, in s₂ -/
structure Src (prog : Program) (w : World) (A : Around) (s s₂ : Shared) (it : Value) (ks : List Int) (I : Addr) (fp wr : List Addr) (n : Nat) (P : Nat → Value → Prop) (St : Nat → Heap → Prop) : Prop where
  is : it = .ref I
  W : Walks prog w A I fp wr n P St
  st : St 0 s₂.heap
  hfp : ∀ b ∈ fp, b < s₂.heap.objs.size
  hold : ∀ b ∈ fp, b ∈ wr ∨ ∃ vs, s.heap.IsList b vs
  hwr : ∀ b ∈ wr, s.heap.get? b = none
  hP : ∀ i v, P i v → ∃ k t, ks[i]? = some k ∧ v = .int k t
  hn : n = ks.length
  kp : Kp s.heap s₂.heap
  sz : s.heap.objs.size ≤ s₂.heap.objs.size
  sh : s₂ = { s with heap := s₂.heap }
def SrcE (prog : Program) (w : World) (A : Around) (ks : List Int) (s : Shared) (it : Value) (s₂ : Shared) : Prop := ∃ I fp wr n P St, Src prog w A s s₂ it ks I fp wr n P St
def CompE (prog : Program) (w : World) (A : Around) (env : Env) (scope : Scope) (cl : List (Str × Addr)) (x : Str) (ifs : List Expr) (elt : Expr) (ks : List Int) (p : Int → Bool) (f : Int → Value → Prop) (Q : Value → Shared → Prop) (xv : Value) (s₁ : Shared) : Prop :=
  wpAny (model prog w) A (pyIter xv) (SrcE prog w A ks s₁) (fun _ _ => False) s₁ ∧ CompI prog w A env scope cl x ifs elt s₁.heap ks p f ∧ (∀ D nn ys h' tk, Kp s₁.heap h' → s₁.heap.get? D = none → h'.get? D = some (listOf ys.toArray nn) → Paired f (ks.filter p) ys → Q (.ref D) { s₁ with heap := h', toks := tk })
def CompA (prog : Program) (w : World) (A : Around) (env : Env) (scope : Scope) (cl : List (Str × Addr)) (x : Str) (ifs : List Expr) (elt : Expr) (h₀ : Heap) (m : Str → Option Value) (y : Str) (ks : List Int) (p : Int → Bool) (f : Int → Value → Prop) (Q : Flow → Shared → Prop) (xv : Value) (s₁ : Shared) : Prop :=
  ∃ news, wpAny (model prog w) A (pyIter xv) (SrcE prog w A ks s₁) (fun _ _ => False) s₁ ∧ Fr h₀ env.locals s₁.heap m ∧ News h₀ env.locals s₁.heap news ∧ CompI prog w A env scope cl x ifs elt s₁.heap ks p f ∧ (∀ D nn ys h' tk, Fr h₀ env.locals h' (fun z => if z = y then some (.ref D) else m z) → News h₀ env.locals h' ((D, listOf ys.toArray nn) :: news) → (∀ p ∈ news, p.1 ≠ D) → (∀ b o, b ≠ env.locals → s₁.heap.get? b = some o → h'.get? b = some o) → Paired f (ks.filter p) ys → Q .next { s₁ with heap := h', toks := tk })
/-- a comprehension as an expression -/
theorem comp_expr {s : Shared} {ks : List Int} {Q : Value → Shared → Prop} (p : Int → Bool) (f : Int → Value → Prop)
    (hclos : closureFor scope env = pure cl) (hcell : ∀ y ∈ scope.names, y.2 ≠ .cell) (hkind : scope.kind = .function)
    (hnames : ∀ y ∈ scope.names, y.2 = .local → scope.names.lookup y.1 = some .local) (hx : scope.names.lookup x = some .local) (hsz : ks.length ≤ sizeLine)
    (h : wpAny (model prog w) A (eval iter env) (fun xv s₁ => CompE prog w A env scope cl x ifs elt ks p f Q xv s₁) (fun _ _ => False) s)
    (hs : ∀ x, foldedSetIterable iter env x = pure x := by intro _; rfl) :
    wpAny (model prog w) A (eval (.ListComp elt [⟨.Name x px, iter, ifs, 0⟩] scope pos) env) Q (fun _ _ => False) s := by
  refine wpAny_ListComp_free (pV p) (fV f) hclos hcell hkind hnames hx (wpAny_mono h (fun xv s₁ h₁ => ?_) fun _ _ e => e) hs
  obtain ⟨hi, H, hQ⟩ := h₁
  refine wpAny_mono hi (fun it s₂ h₂ => ?_) fun _ _ e => e
  obtain ⟨I, fp, wr, n, P, St, S⟩ := h₂
  have hn := S.hn; subst hn
  refine ⟨I, fp, wr, _, P, St, S.is, S.W, hsz, S.st, S.hfp, quietC S.hP S.kp S.hwr S.sz H, ?_⟩
  intro D h' tk ys vs hD hl hpl hlen hPv hF hk
  obtain ⟨nn, e⟩ := hpl
  rw [S.sh]
  refine hQ D nn ys.toList h' tk (fun b o e => hk b o (fun hb => by rw [S.hwr b hb] at e; cases e) (S.kp b o e)) ?_ (by simpa [W.listOf] using e) (paired_of (ints_of hlen fun j v hv => S.hP j v (hPv j v hv)) hF)
  cases q : s₁.heap.get? D with
  | none => rfl
  | some o => rw [S.kp _ _ q] at hD; cases hD
/-- a comprehension that a local name takes -/
theorem comp_assign {s : Shared} {ks : List Int} {y : Str} {py spos : Pos} {Q : Flow → Shared → Prop} {h₀ : Heap} {m : Str → Option Value} (_F0 : Fr h₀ env.locals s.heap m) (p : Int → Bool) (f : Int → Value → Prop)
    (hsw : swapsWith (.ListComp elt [⟨.Name x px, iter, ifs, 0⟩] scope pos) (some (.Name y py)) spos.line env = pure true)
    (hclos : closureFor scope env = pure cl) (hcell : ∀ z ∈ scope.names, z.2 ≠ .cell) (hkind : scope.kind = .function)
    (hnames : ∀ z ∈ scope.names, z.2 = .local → scope.names.lookup z.1 = some .local) (hx : scope.names.lookup x = some .local)
    (hy : env.kindOf y = some .local) (hp : (env.scope.kind == .class || (env.scope.kind == .module && env.locals != env.globals)) = false) (hsz : ks.length ≤ sizeLine)
    (h : wpAny (model prog w) A (eval iter env) (fun xv s₁ => CompA prog w A env scope cl x ifs elt h₀ m y ks p f Q xv s₁) (fun _ _ => False) s)
    (hs : ∀ x, foldedSetIterable iter env x = pure x := by intro _; rfl) :
    wpAny (model prog w) A (exec (.Assign [.Name y py] (.ListComp elt [⟨.Name x px, iter, ifs, 0⟩] scope pos) spos) env) Q (fun _ _ => False) s := by
  refine wpAny_Assign_ListComp_free (pV p) (fV f) hsw hclos hcell hkind hnames hx hy hp (wpAny_mono h (fun xv s₁ h₁ => ?_) fun _ _ e => e) hs
  obtain ⟨news, hi, F, N, H, hQ⟩ := h₁
  refine wpAny_mono hi (fun it s₂ h₂ => ?_) fun _ _ e => e
  obtain ⟨I, fp, wr, n, P, St, S⟩ := h₂
  have hn := S.hn; subst hn
  have hLw : env.locals ∉ wr := fun hb => by obtain ⟨o, _, _, ho, _⟩ := F.ns; rw [S.hwr _ hb] at ho; cases ho
  refine ⟨I, fp, wr, _, P, St, m, S.is, S.W, hsz, S.st, S.hfp, hLw, F.ns.keeps S.kp, quietC S.hP S.kp S.hwr S.sz H, ?_⟩
  intro D h' tk ys vs hD hl hpl hlen hPv hF hns hk
  obtain ⟨nn, e⟩ := hpl
  have hk' : ∀ b o, b ≠ env.locals → s₁.heap.get? b = some o → h'.get? b = some o := fun b o hb e => hk b o hb (fun hb => by rw [S.hwr b hb] at e; cases e) (S.kp b o e)
  have hD' : s₁.heap.get? D = none := by
    cases q : s₁.heap.get? D with
    | none => rfl
    | some o => rw [S.kp _ _ q] at hD; cases hD
  have F' : Fr h₀ env.locals h' (fun z => if z = y then some (.ref D) else m z) := ⟨hns, fun b o e => hk' b o (fun q => absurd (Nat.lt_of_lt_of_le (Heap.lt_size e) F.above) (by rw [q]; exact Nat.lt_irrefl _)) (F.keep b o e), F.above⟩
  rw [S.sh]
  refine hQ D nn ys.toList h' tk F' ?_ ?_ hk' (paired_of (ints_of hlen fun j v hv => S.hP j v (hPv j v hv)) hF)
  · refine news_cons F (fun q hq => ⟨hk' _ _ (N q hq).2.1 (N q hq).1, (N q hq).2⟩) (by simpa [W.listOf] using e) hD'
  · intro q hq e'
    rw [← e', (N q hq).1] at hD'; cases hD'
variable {s : Shared}
theorem src_range {r : Addr} {a₀ b₀ : Int} {t₀ u₀ v₀ : Tok} {n : Nat} (hh : A.handled = none) (hr : IsRange s.heap r a₀ b₀ 1 t₀ u₀ v₀) (hsmall : Builtin.Range.small a₀ b₀ 1 = true) (hn : Builtin.Range.rangeSize a₀ b₀ 1 = (n : Int)) :
    wpAny (model prog w) A (pyIter (.ref r)) (SrcE prog w A (rangeKs a₀ n) s) (fun _ _ => False) s := by
  refine wpAny_pyIter_range hr hsmall ?_
  have new : s.heap.get? s.heap.objs.size = none := by
    cases q : s.heap.get? s.heap.objs.size with
    | none => rfl
    | some o => exact absurd (Heap.lt_size q) (Nat.lt_irrefl _)
  refine ⟨_, _, _, n, fun i v => i < n ∧ ∃ t, v = .int (a₀ + i * 1) t, _, rfl, (Walks.range hh _ a₀ 1 n).bound, by show IsRangeIter _ _ _ _ _; rw [hn]; simpa using Heap.get?_push_size _ rfl, ?_, ?_, ?_, ?_, by rw [rangeKs_length], fun b o e => Heap.get?_push_of_some _ e, ?_, rfl⟩
  · intro b hb; rw [List.mem_singleton.mp hb, Heap.size_push]; exact Nat.lt_succ_self _
  · intro b hb; exact .inl hb
  · intro b hb; rw [List.mem_singleton.mp hb]; exact new
  · rintro i v ⟨hi, t, rfl⟩
    exact ⟨a₀ + i * 1, t, by simp [rangeKs, hi], rfl⟩
  · rw [Heap.size_push]; exact Nat.le_succ _
theorem src_list {l : Addr} {vs : List Value} {ks : List Int} (hh : A.handled = none) (hl : s.heap.IsList l vs.toArray) (hi : IntsAre vs ks) :
    wpAny (model prog w) A (pyIter (.ref l)) (SrcE prog w A ks s) (fun _ _ => False) s := by
  refine wpAny_pyIter_list hl ?_
  have new : s.heap.get? s.heap.objs.size = none := by
    cases q : s.heap.get? s.heap.objs.size with
    | none => rfl
    | some o => exact absurd (Heap.lt_size q) (Nat.lt_irrefl _)
  have hlt : l < s.heap.objs.size := by obtain ⟨o, ho, _⟩ := id hl; exact Heap.lt_size ho
  refine ⟨_, _, _, _, _, _, rfl, Walks.list hh s.heap.objs.size l (Nat.ne_of_lt hlt) vs.toArray, ⟨⟨_, Heap.get?_push_size _ rfl, rfl, rfl⟩, hl.at fun o e => Heap.get?_push_of_some _ e⟩, ?_, ?_, ?_, ?_, by rw [List.size_toArray, hi.length], fun b o e => Heap.get?_push_of_some _ e, ?_, rfl⟩
  · intro b hb
    rw [Heap.size_push]
    rcases List.mem_cons.mp hb with rfl | hb
    · exact Nat.lt_succ_self _
    · rw [List.mem_singleton.mp hb]; exact Nat.lt_succ_of_lt hlt
  · intro b hb
    rcases List.mem_cons.mp hb with rfl | hb
    · exact .inl (.head _)
    · rw [List.mem_singleton.mp hb]; exact .inr ⟨_, hl⟩
  · intro b hb; rw [List.mem_singleton.mp hb]; exact new
  · intro i v hv
    obtain ⟨n, t, e1, e2⟩ := hi.at i v (by simpa using hv)
    exact ⟨n, t, e2, e1⟩
  · rw [Heap.size_push]; exact Nat.le_succ _
theorem src_bytes {b : Array UInt8} {t : Tok} (hh : A.handled = none) :
    wpAny (model prog w) A (pyIter (.bytes b t)) (SrcE prog w A (KBw.bInts b) s) (fun _ _ => False) s := by
  refine KBw.pyIter_bytes ?_
  have new : s.heap.get? s.heap.objs.size = none := by
    cases q : s.heap.get? s.heap.objs.size with
    | none => rfl
    | some o => exact absurd (Heap.lt_size q) (Nat.lt_irrefl _)
  refine ⟨_, _, _, _, _, _, rfl, KBw.walks hh s.heap.objs.size b t, ⟨_, Heap.get?_push_size _ rfl, rfl, rfl⟩, ?_, ?_, ?_, ?_, by rw [KBw.ints_length], fun b o e => Heap.get?_push_of_some _ e, ?_, rfl⟩
  · intro b hb; rw [List.mem_singleton.mp hb, Heap.size_push]; exact Nat.lt_succ_self _
  · intro b hb; exact .inl hb
  · intro b hb; rw [List.mem_singleton.mp hb]; exact new
  · rintro i v ⟨c, u, hc, rfl⟩
    exact ⟨_, u, KBw.ints_get hc, rfl⟩
  · rw [Heap.size_push]; exact Nat.le_succ _
end
end
section
def bitB (x k : Int) : Bool := ((x.fdiv (2 ^ k.toNat)).fmod 2 == 1)
def timesL (word : Int) (rows : List Int) (ks : List Int) : Int := ks.foldl (fun a k => if bitB word k then Builtin.bitXor a (rows.getD k.toNat 0) else a) 0
theorem timesL_step (word : Int) (rows : List Int) (pre : List Int) (k : Int) : timesL word rows (pre ++ [k]) = if bitB word k then Builtin.bitXor (timesL word rows pre) (rows.getD k.toNat 0) else timesL word rows pre := by
  simp [timesL, List.foldl_append]
set_option maxRecDepth 100000 in
set_option maxHeartbeats 8000000 in
theorem c_times (w : World) {p : Program} {loose : List Str} {mean : ExcName → Option Value} {mg mb : Str → Option Value}
    {dp un : Nat} {gd : Option (List Code)} {cn : Str} {cs : Scope} {a : Addr} {ccd : Value} {cl : List (Str × Addr)} {outer : List Env} {A₀ : Around} {base h₀ : Heap} {L : Addr} {m : Str → Option Value} {s : Shared} {Q E : Value → Shared → Prop}
    (B : Below A₀ base outer h₀) (F : Fr h₀ L s.heap m) (X : (hd.heap_39 w.params).In h₀) (T : Top p loose mean mg mb h₀) (hk : cs.kind = .function)
    (hd1 : dp + 4 < recursionLimit)
    {l : Addr} {vs : List Value} {ns : List Int} (hl : s.heap.IsList l vs.toArray) (hi : IntsAre vs ns) (hlen : ns.length = 12) {word : Int} {t : Tok}
    (hret : ∀ (t : Tok) (h' : Heap) (tk' : Nat), Kp s.heap h' → Q (.int (timesL word ns (rangeKs 0 12)) t) { s with heap := h', toks := tk' }) :
    wpAny (model P0 w) (ktrTop dp un gd cn cs L a ccd cl outer) (call (.ref 135) [.int word t, .ref l]) Q E s := by
  refine enter (binds := [("word", .int word t), ("rows", .ref l)]) B F X T rfl rfl hk (by k_is) (by k_is) ?room (BindsTo.of_eq rfl) (locs rfl) ?_ (by decide) rfl rfl rfl
  · ktr_room
  intro L' h₁ tk F' N' B' X' T'
  (try dsimp only); k_fold
  clear B F X T
  repeat' ((fail_if_success (with_reducible show wpAny _ _ (PySem.exec (PySem.Stmt.For _ _ _ _ _) _) _ _ _)); (first | (k_unfold; (try dsimp only)) | ((first | (with_reducible show wpAny _ _ _ _ _ _) | (with_reducible show (ite _ _ _ : Prop)) | (with_reducible show InvPostN _ _ _ _ _ _ _ _ _)); (first | walk1 | (dsimp only; walk1)); (try dsimp only)) | ((with_reducible show (PySem.W.Frag.In _ _ ∧ _)); (refine And.intro (by k_in) ?_))))
  rename Fr _ _ _ _ => F1
  refine For_invVF F1 rfl rfl ?_
  repeat' ((fail_if_success (with_reducible show wpAny _ _ (PySem.pyIter _) _ _ _)); (first | (k_unfold; (try dsimp only)) | ((first | (with_reducible show wpAny _ _ _ _ _ _) | (with_reducible show (ite _ _ _ : Prop)) | (with_reducible show InvPostN _ _ _ _ _ _ _ _ _)); (first | walk1 | (dsimp only; walk1)); (try dsimp only)) | ((with_reducible show (PySem.W.Frag.In _ _ ∧ _)); (refine And.intro (by k_in) ?_))))
  rename Fr _ _ _ _ => F2
  rename News _ _ _ _ => N2
  rename IsRange _ _ _ _ _ _ _ _ => R2
  refine kst_range (σ := Int × Nat) (n := 12) (fun _ => []) (fun c => [("total", .int c.1 c.2)]) (fun _ => True) [] (fun pre c => c.1 = timesL word ns pre) (0, ?tk0) rfl R2 (by decide) (by decide) F2 N2 trivial ?hk0 ?hp0 ?turn ?done
  case hk0 => intro p hp; rcases List.mem_singleton.mp hp with rfl; rfl
  case hp0 => rfl
  case turn =>
    rintro ⟨c, ct⟩ pre k t' u h tk' own hke hlt hoff _ hP F' N'
    clear F2 N2 R2
    (try dsimp only at hP F' N' hoff)
    subst hP
    repeat' (first | (k_unfold; (try dsimp only)) | ((first | (with_reducible show wpAny _ _ _ _ _ _) | (with_reducible show (ite _ _ _ : Prop)) | (with_reducible show InvPostN _ _ _ _ _ _ _ _ _)); (first | walk1 | (dsimp only; walk1)); (try dsimp only)) | ((with_reducible show (PySem.W.Frag.In _ _ ∧ _)); (refine And.intro (by k_in) ?_)))
    · rename (Int.fmod _ _ = _) => hb
      rename Fr _ _ _ _ => F9
      rename News _ _ _ _ => N9
      refine kst_end (_, _) F9 N9 (by kst_in) (by intro p hp; exact hp) rfl trivial (by kst_all) (by intro z h1 h2 _; have h2' := h2 _ (.head _); simp_all [kstB]) ?_
      show _ = _
      rw [timesL_step, if_pos (by simpa [bitB] using hb)]
    · rename (¬ (Int.fmod _ _ = _)) => hb
      rename Fr _ _ _ _ => F9
      rename News _ _ _ _ => N9
      refine kst_end (_, _) F9 N9 (by kst_in) (by intro p hp; exact hp) rfl trivial (by kst_all) (by intro z h1 h2 _; have h2' := h2 _ (.head _); simp_all [kstB]) ?_
      show _ = _
      rw [timesL_step, if_neg (by simpa [bitB] using hb)]
  case done =>
    rintro ⟨c, ct⟩ u h tk' _ hP F' N'
    clear F2 N2 R2
    (try dsimp only at hP F' N')
    subst hP
    repeat' (first | (k_unfold; (try dsimp only)) | ((first | (with_reducible show wpAny _ _ _ _ _ _) | (with_reducible show (ite _ _ _ : Prop)) | (with_reducible show InvPostN _ _ _ _ _ _ _ _ _)); (first | walk1 | (dsimp only; walk1)); (try dsimp only)) | ((with_reducible show (PySem.W.Frag.In _ _ ∧ _)); (refine And.intro (by k_in) ?_)))
    exact hret _ _ _ F'.keep
end
section
def rowI (i : Int) : Int := 2048 + (((rangeKs 0 11).filter fun k => [0, 1, 3, 4, 5, 9].contains ((i + k).fmod 11)).map fun k => (2 : Int) ^ k.toNat).sum
def rowsI (n : Nat) : List Int := (rangeKs 0 n).map rowI
theorem rowsI_step (n : Nat) : rowsI (n + 1) = rowsI n ++ [rowI n] := by
  simp [rowsI, rangeKs, List.range_succ]
def rowsL : List Int := [2619, 3357, 3726, 2887, 3491, 3793, 3944, 2996, 2522, 2285, 3190, 2047]
theorem rowsI_is : rowsI 11 ++ [2047] = rowsL := by decide +kernel
local macro_rules | `(tactic| walk_at "eval Name") => `(tactic| ((with_reducible show wpAny _ _ (PySem.eval (PySem.Expr.Name _ _) (PySem.compEnvC _ _ _ _)) _ _ _); (refine nm_loc (by assumption) (by rfl) ?_)))
set_option maxRecDepth 100000 in
set_option maxHeartbeats 8000000 in
theorem c_rows (w : World) {p : Program} {loose : List Str} {mean : ExcName → Option Value} {mg mb : Str → Option Value}
    {dp un : Nat} {gd : Option (List Code)} {cn : Str} {cs : Scope} {a : Addr} {ccd : Value} {cl : List (Str × Addr)} {outer : List Env} {A₀ : Around} {base h₀ : Heap} {L : Addr} {m : Str → Option Value} {s : Shared} {Q E : Value → Shared → Prop}
    (B : Below A₀ base outer h₀) (F : Fr h₀ L s.heap m) (X : (hd.heap_39 w.params).In h₀) (T : Top p loose mean mg mb h₀) (hk : cs.kind = .function)
    (hd1 : dp + 4 < recursionLimit)
    (hret : ∀ (l : Addr) (vs : List Value) (n : Nat) (h' : Heap) (tk' : Nat), Kp s.heap h' → s.heap.get? l = none → h'.get? l = some (listOf vs.toArray n) → IntsAre vs rowsL → Q (.ref l) { s with heap := h', toks := tk' }) :
    wpAny (model P0 w) (ktrTop dp un gd cn cs L a ccd cl outer) (call (.ref 128) []) Q E s := by
  refine enterC (binds := []) (fun n => [("i", n + 1)]) (fun _ => none) B F X T rfl rfl hk (by k_is) (by k_is) ?room (BindsTo.of_eq rfl) rfl (fun _ => rfl) (fun _ => rfl) (by decide +kernel) ?_ rfl rfl rfl
  · ktr_room
  intro L' h₁ tk cells F' N' Y' B' X' T'
  k_cells Y'
  (try dsimp only); (try k_unmd); k_fold
  clear B F X T
  repeat' ((fail_if_success (with_reducible show wpAny _ _ (PySem.exec (PySem.Stmt.For _ _ _ _ _) _) _ _ _)); (first | (k_unfold; (try dsimp only)) | ((first | (with_reducible show wpAny _ _ _ _ _ _) | (with_reducible show (ite _ _ _ : Prop)) | (with_reducible show InvPostN _ _ _ _ _ _ _ _ _)); (first | walk1 | (dsimp only; walk1)); (try dsimp only)) | ((with_reducible show (PySem.W.Frag.In _ _ ∧ _)); (refine And.intro (by k_in) ?_))))
  refine for_exec ?_
  repeat' ((fail_if_success (with_reducible show wpAny _ _ (PySem.pyIter _) _ _ _)); (first | (k_unfold; (try dsimp only)) | ((first | (with_reducible show wpAny _ _ _ _ _ _) | (with_reducible show (ite _ _ _ : Prop)) | (with_reducible show InvPostN _ _ _ _ _ _ _ _ _)); (first | walk1 | (dsimp only; walk1)); (try dsimp only)) | ((with_reducible show (PySem.W.Frag.In _ _ ∧ _)); (refine And.intro (by k_in) ?_))))
  rename Fr _ _ _ _ => F2
  rename News _ _ _ _ => N2
  rename IsRange _ _ _ _ _ _ _ _ => R2
  refine for_range (σ := List Value × Nat × Obj) (n := 11) (fun c => [(_, listOf c.1.toArray c.2.1), (L' + 1, c.2.2)]) (fun _ => []) [] (fun i c => IntsAre c.1 (rowsI i) ∧ ∃ v, c.2.2.data = .cell v) ([], 0, _) rfl R2 (by decide) (by decide) F2 N2 (by intro p hp; cases hp) ⟨IntsAre.nil, _, ‹_›⟩ ?turn ?done (fun _ _ h => h) (fun _ _ => rfl)
  case turn =>
    rintro ⟨vs, n, oc⟩ i t u h tk' own hi hadr hoff ⟨hI, cv, hcv⟩ F' N'
    clear F2 N2 R2 hadr
    (try dsimp only at hI hcv F' N' hoff)
    refine wpAny_assign_Name ?_
    repeat' ((fail_if_success (with_reducible show wpAny _ _ (PySem.eval (PySem.Expr.ListComp _ _ _ _) _) _ _ _)); (first | (k_unfold; (try dsimp only)) | ((first | (with_reducible show wpAny _ _ _ _ _ _) | (with_reducible show (ite _ _ _ : Prop)) | (with_reducible show InvPostN _ _ _ _ _ _ _ _ _)); (first | walk1 | (dsimp only; walk1)); (try dsimp only)) | ((with_reducible show (PySem.W.Frag.In _ _ ∧ _)); (refine And.intro (by k_in) ?_))))
    refine comp_expr (ks := rangeKs 0 11) (fun k => [0, 1, 3, 4, 5, 9].contains (((i : Int) + k).fmod 11)) (fun k y => ∃ t, y = .int (2 ^ k.toNat) t) rfl (by decide) rfl (by decide) rfl (by decide) ?_
    repeat' (first | (k_unfold; (try dsimp only)) | ((first | (with_reducible show wpAny _ _ _ _ _ _) | (with_reducible show (ite _ _ _ : Prop)) | (with_reducible show InvPostN _ _ _ _ _ _ _ _ _)); (first | walk1 | (dsimp only; walk1)); (try dsimp only)) | ((with_reducible show (PySem.W.Frag.In _ _ ∧ _)); (refine And.intro (by k_in) ?_)))
    rename Fr _ _ _ _ => F3
    rename News _ _ _ _ => N3
    rename IsRange _ _ _ _ _ _ _ _ => R3
    refine ⟨src_range rfl R3 (by decide) (by decide), ⟨?tests, ?elt⟩, ?ret⟩
    case tests =>
      intro C k t3 s₃ m₃ hk FC
      have hc := FC.keep _ _ (N3 _ (.tail _ (.head _))).1
      have NC := fr_nil FC
      clear F3 N3 R3 hret hoff hI B' T' X'
      (try dsimp only at FC NC hc)
      refine tests_one ?_
      repeat' ((fail_if_success (with_reducible show wpAny _ _ (PySem.eval (PySem.Expr.Name (PySem.Str.ofString "i") _) _) _ _ _)); (first | (k_unfold; (try dsimp only)) | ((first | (with_reducible show wpAny _ _ _ _ _ _) | (with_reducible show (ite _ _ _ : Prop)) | (with_reducible show InvPostN _ _ _ _ _ _ _ _ _)); (first | walk1 | (dsimp only; walk1)); (try dsimp only)) | ((with_reducible show (PySem.W.Frag.In _ _ ∧ _)); (refine And.intro (by k_in) ?_))))
      refine nm_cell rfl hc ‹_› ?_
      repeat' ((fail_if_success (with_reducible show wpAny _ _ (PySem.newTuple _) _ _ _)); (first | (k_unfold; (try dsimp only)) | ((first | (with_reducible show wpAny _ _ _ _ _ _) | (with_reducible show (ite _ _ _ : Prop)) | (with_reducible show InvPostN _ _ _ _ _ _ _ _ _)); (first | walk1 | (dsimp only; walk1)); (try dsimp only)) | ((with_reducible show (PySem.W.Frag.In _ _ ∧ _)); (refine And.intro (by k_in) ?_))))
      refine newTuple_NK FC NC fun h' F5 N5 k5 => ?_
      repeat' (first | (k_unfold; (try dsimp only)) | ((first | (with_reducible show wpAny _ _ _ _ _ _) | (with_reducible show (ite _ _ _ : Prop)) | (with_reducible show InvPostN _ _ _ _ _ _ _ _ _)); (first | walk1 | (dsimp only; walk1)); (try dsimp only)) | ((with_reducible show (PySem.W.Frag.In _ _ ∧ _)); (refine And.intro (by k_in) ?_)))
      exact ⟨by rw [Int.zero_add, List.contains_eq_any_beq]; congr 1; funext x; exact BEq.comm, _, _, rfl, k5⟩
    case elt =>
      intro C k t3 s₃ m₃ hk hp FC
      have NC := fr_nil FC
      clear F3 N3 R3 hret hoff hI B' T' X'
      (try dsimp only at FC NC)
      have hk2 : 0 ≤ k ∧ k < 11 := by simp [rangeKs] at hk; omega
      repeat' (first | (k_unfold; (try dsimp only)) | ((first | (with_reducible show wpAny _ _ _ _ _ _) | (with_reducible show (ite _ _ _ : Prop)) | (with_reducible show InvPostN _ _ _ _ _ _ _ _ _)); (first | walk1 | (dsimp only; walk1)); (try dsimp only)) | ((with_reducible show (PySem.W.Frag.In _ _ ∧ _)); (refine And.intro (by k_in) ?_)))
      exact ⟨⟨_, rfl⟩, _, _, rfl, fun _ _ e => e⟩
    case ret =>
      intro D nn ys h' tk9 hkp hD hg hpair
      have F4 := kp_fr F3 hkp
      have N4 := news_cons F3 (kp_news N3 hkp) hg hD
      have I4 := paired_ints hpair
      have q1 := new_ne N3 hD (.head _)
      have q2 := new_ne N3 hD (.tail _ (.head _))
      (try dsimp only at q1 q2)
      clear F3 N3 R3
      repeat' ((fail_if_success (with_reducible show wpAny _ _ (PySem.call (PySem.Value.builtin "list.append") _ _) _ _ _)); (first | (k_unfold; (try dsimp only)) | ((first | (with_reducible show wpAny _ _ _ _ _ _) | (with_reducible show (ite _ _ _ : Prop)) | (with_reducible show InvPostN _ _ _ _ _ _ _ _ _)); (first | walk1 | (dsimp only; walk1)); (try dsimp only)) | ((with_reducible show (PySem.W.Frag.In _ _ ∧ _)); (refine And.intro (by k_in) ?_))))
      rename Fr _ _ _ _ => F5
      rename News _ _ _ _ => N5
      have hlen : vs.length = i := by rw [hI.length]; simp [rowsI, rangeKs]
      refine append_M F5 (news_sub N5 (fun p hp => .tail _ hp)) ?_ (by omega) fun h6 F6 N6 => ?_
      · intro p hp
        rcases List.mem_cons.mp hp with rfl | hp
        · exact Nat.ne_of_lt ‹_›
        · exact hoff p hp _ (.head _)
      repeat' (first | (k_unfold; (try dsimp only)) | ((first | (with_reducible show wpAny _ _ _ _ _ _) | (with_reducible show (ite _ _ _ : Prop)) | (with_reducible show InvPostN _ _ _ _ _ _ _ _ _)); (first | walk1 | (dsimp only; walk1)); (try dsimp only)) | ((with_reducible show (PySem.W.Frag.In _ _ ∧ _)); (refine And.intro (by k_in) ?_)))
      refine ks_end (vs ++ [_], n + 1, _) F6 N6 (List.forall_mem_cons.mpr ⟨.head _, List.forall_mem_cons.mpr ⟨.tail _ (.head _), List.forall_mem_nil _⟩⟩) (fun p hp => .tail _ (.tail _ hp)) rfl (List.forall_mem_nil _) (fun _ _ _ => rfl) ⟨?_, _, ‹_›⟩
      rw [rowsI_step]
      exact hI.append (.cons _ _ .nil)
  case done =>
    rintro ⟨vs, n, oc⟩ u h tk' ⟨hI, cv, hcv⟩ F' N'
    clear F2 N2 R2
    (try dsimp only at hI hcv F' N')
    repeat' (first | (k_unfold; (try dsimp only)) | ((first | (with_reducible show wpAny _ _ _ _ _ _) | (with_reducible show (ite _ _ _ : Prop)) | (with_reducible show InvPostN _ _ _ _ _ _ _ _ _)); (first | walk1 | (dsimp only; walk1)); (try dsimp only)) | ((with_reducible show (PySem.W.Frag.In _ _ ∧ _)); (refine And.intro (by k_in) ?_)))
    rename Fr _ _ _ _ => F9
    rename News _ _ _ _ => N9
    rename IntsAre _ (_ ++ _) => I9
    rw [rowsI_is] at I9
    exact hret _ _ _ _ _ F9.keep (N9 _ (.head _)).2.2 (N9 _ (.head _)).1 I9
end
section
def placeI (x : Int) (i : Nat) : Int := (x.fdiv (25 ^ i)).fmod 25
def turnedN (x : Int) : Nat → List Int
  | 0 => []
  | i + 1 => if placeI x i < 24 ∧ placeI x i ∉ turnedN x i then turnedN x i ++ [placeI x i] else turnedN x i
theorem turnedN_length (x : Int) : ∀ i, (turnedN x i).length ≤ i
  | 0 => Nat.le_refl _
  | i + 1 => by
    have := turnedN_length x i
    rw [turnedN]; split
    · simp; omega
    · omega
theorem pow25_ne (i : Nat) : (25 : Int) ^ i ≠ 0 := Int.pow_ne_zero (by decide)
theorem pow25_lt {i : Nat} (h : i < 4) : ((25 : Int) ^ i).natAbs < 1073741824 := by
  have : i = 0 ∨ i = 1 ∨ i = 2 ∨ i = 3 := by omega
  rcases this with rfl | rfl | rfl | rfl <;> decide
set_option maxRecDepth 100000 in
set_option maxHeartbeats 8000000 in
theorem c_turned (w : World) {p : Program} {loose : List Str} {mean : ExcName → Option Value} {mg mb : Str → Option Value}
    {dp un : Nat} {gd : Option (List Code)} {cn : Str} {cs : Scope} {a : Addr} {ccd : Value} {cl : List (Str × Addr)} {outer : List Env} {A₀ : Around} {base h₀ : Heap} {L : Addr} {m : Str → Option Value} {s : Shared} {Q E : Value → Shared → Prop}
    (B : Below A₀ base outer h₀) (F : Fr h₀ L s.heap m) (X : (hd.heap_39 w.params).In h₀) (T : Top p loose mean mg mb h₀) (hk : cs.kind = .function)
    (hd1 : dp + 4 < recursionLimit) {x : Int} {t : Tok}
    (hret : ∀ (l : Addr) (vs : List Value) (n : Nat) (h' : Heap) (tk' : Nat), Kp s.heap h' → s.heap.get? l = none → h'.get? l = some (listOf vs.toArray n) → IntsAre vs (turnedN x 4) → Q (.ref l) { s with heap := h', toks := tk' }) :
    wpAny (model P0 w) (ktrTop dp un gd cn cs L a ccd cl outer) (call (.ref 142) [.int x t]) Q E s := by
  refine enter (binds := [("x", .int x t)]) B F X T rfl rfl hk (by k_is) (by k_is) ?room (BindsTo.of_eq rfl) (locs rfl) ?_ (by decide) rfl rfl rfl
  · ktr_room
  intro L' h₁ tk F' N' B' X' T'
  (try dsimp only); (try k_unmd); k_fold
  clear B F X T
  repeat' ((fail_if_success (with_reducible show wpAny _ _ (PySem.exec (PySem.Stmt.For _ _ _ _ _) _) _ _ _)); (first | (k_unfold; (try dsimp only)) | ((first | (with_reducible show wpAny _ _ _ _ _ _) | (with_reducible show (ite _ _ _ : Prop)) | (with_reducible show InvPostN _ _ _ _ _ _ _ _ _)); (first | walk1 | (dsimp only; walk1)); (try dsimp only)) | ((with_reducible show (PySem.W.Frag.In _ _ ∧ _)); (refine And.intro (by k_in) ?_))))
  refine for_exec ?_
  repeat' ((fail_if_success (with_reducible show wpAny _ _ (PySem.pyIter _) _ _ _)); (first | (k_unfold; (try dsimp only)) | ((first | (with_reducible show wpAny _ _ _ _ _ _) | (with_reducible show (ite _ _ _ : Prop)) | (with_reducible show InvPostN _ _ _ _ _ _ _ _ _)); (first | walk1 | (dsimp only; walk1)); (try dsimp only)) | ((with_reducible show (PySem.W.Frag.In _ _ ∧ _)); (refine And.intro (by k_in) ?_))))
  rename Fr _ _ _ _ => F2
  rename News _ _ _ _ => N2
  rename IsRange _ _ _ _ _ _ _ _ => R2
  refine for_range (σ := List Value × Nat) (n := 4) (fun c => [(_, listOf c.1.toArray c.2)]) (fun _ => []) ["k", "place"] (fun i c => IntsAre c.1 (turnedN x i)) ([], 0) rfl R2 (by decide) (by decide) F2 N2 (by intro p hp; cases hp) IntsAre.nil ?turn ?done (fun _ _ h => h) (fun _ _ => rfl)
  case turn =>
    rintro ⟨vs, n⟩ i t u h tk' own hi hadr hoff hI F' N'
    clear F2 N2 R2 hadr
    (try dsimp only at hI F' N' hoff)
    refine wpAny_assign_Name ?_
    repeat' ((fail_if_success (with_reducible show wpAny _ _ (PySem.binaryOp PySem.Operator.FloorDiv _ _) _ _ _)); (first | (k_unfold; (try dsimp only)) | ((first | (with_reducible show wpAny _ _ _ _ _ _) | (with_reducible show (ite _ _ _ : Prop)) | (with_reducible show InvPostN _ _ _ _ _ _ _ _ _)); (first | walk1 | (dsimp only; walk1)); (try dsimp only)) | ((with_reducible show (PySem.W.Frag.In _ _ ∧ _)); (refine And.intro (by k_in) ?_))))
    have e25 : ((0 : Int) + (i : Int)).toNat = i := by omega
    rw [e25]
    refine floordiv_int (pow25_ne i) ?_ (Or.inl (PyProof.noPylong_small (pow25_lt hi)))
    (try dsimp only)
    repeat' ((fail_if_success (with_reducible show wpAny _ _ (PySem.compareOp PySem.CmpOp.NotIn _ _) _ _ _)); (first | (k_unfold; (try dsimp only)) | ((first | (with_reducible show wpAny _ _ _ _ _ _) | (with_reducible show (ite _ _ _ : Prop)) | (with_reducible show InvPostN _ _ _ _ _ _ _ _ _)); (first | walk1 | (dsimp only; walk1)); (try dsimp only)) | ((with_reducible show (PySem.W.Frag.In _ _ ∧ _)); (refine And.intro (by k_in) ?_))))
    · rename News _ _ _ _ => N5
      refine notin_list_ints ⟨_, (N5 _ (.head _)).1, rfl, _, rfl⟩ hI ?_
      (try dsimp only)
      repeat' ((fail_if_success (with_reducible show wpAny _ _ (PySem.call (PySem.Value.builtin "list.append") _ _) _ _ _)); (first | (k_unfold; (try dsimp only)) | ((first | (with_reducible show wpAny _ _ _ _ _ _) | (with_reducible show (ite _ _ _ : Prop)) | (with_reducible show InvPostN _ _ _ _ _ _ _ _ _)); (first | walk1 | (dsimp only; walk1)); (try dsimp only)) | ((with_reducible show (PySem.W.Frag.In _ _ ∧ _)); (refine And.intro (by k_in) ?_))))
      · rename Fr _ _ _ _ => F5
        rename News _ _ _ _ => N5
        rename ((List.any _ _) = true) => hno
        refine ks_end (vs, n) F5 N5 (List.forall_mem_cons.mpr ⟨.head _, List.forall_mem_nil _⟩) (fun p hp => .tail _ hp) rfl (List.forall_mem_nil _) (fun z _ hz => by simp_all [KM, kstB]) ?_
        have e : turnedN x (i + 1) = turnedN x i := by
          rw [turnedN, if_neg]
          rintro ⟨_, hm⟩
          rw [List.any_eq_true] at hno
          obtain ⟨y, hy, he⟩ := hno
          exact hm (by have := eq_of_beq he; rw [placeI, ← this]; exact hy)
        show IntsAre _ (turnedN x (i + 1))
        rw [e]
        exact hI
      · rename Fr _ _ _ _ => F5
        rename News _ _ _ _ => N5
        rename ((List.any _ _) = false) => hno
        rename ((_ : Int) < 24) => hlt
        have hlen : vs.length ≤ i := by rw [hI.length]; exact turnedN_length x i
        refine append_M (vs := vs) (rest := own) F5 N5 (fun p hp => hoff p hp _ (.head _)) (by omega) fun h6 F6 N6 => ?_
        repeat' (first | (k_unfold; (try dsimp only)) | ((first | (with_reducible show wpAny _ _ _ _ _ _) | (with_reducible show (ite _ _ _ : Prop)) | (with_reducible show InvPostN _ _ _ _ _ _ _ _ _)); (first | walk1 | (dsimp only; walk1)); (try dsimp only)) | ((with_reducible show (PySem.W.Frag.In _ _ ∧ _)); (refine And.intro (by k_in) ?_)))
        refine ks_end (vs ++ [_], n + 1) F6 N6 (List.forall_mem_cons.mpr ⟨.head _, List.forall_mem_nil _⟩) (fun p hp => .tail _ hp) rfl (List.forall_mem_nil _) (fun z _ hz => by simp_all [KM, kstB]) ?_
        have e : turnedN x (i + 1) = turnedN x i ++ [placeI x i] := by
          rw [turnedN, if_pos]
          exact ⟨hlt, fun hm => by rw [List.any_eq_false] at hno; exact hno _ hm (by simp [placeI])⟩
        show IntsAre _ (turnedN x (i + 1))
        rw [e]
        exact hI.append (.cons _ _ .nil)
    · rename Fr _ _ _ _ => F5
      rename News _ _ _ _ => N5
      rename (¬ (_ : Int) < 24) => hlt
      refine ks_end (vs, n) F5 N5 (List.forall_mem_cons.mpr ⟨.head _, List.forall_mem_nil _⟩) (fun p hp => .tail _ hp) rfl (List.forall_mem_nil _) (fun z _ hz => by simp_all [KM, kstB]) ?_
      have e : turnedN x (i + 1) = turnedN x i := by
        rw [turnedN, if_neg]
        exact fun hm => hlt hm.1
      show IntsAre _ (turnedN x (i + 1))
      rw [e]
      exact hI
  case done =>
    rintro ⟨vs, n⟩ u h tk' hI F' N'
    clear F2 N2 R2
    (try dsimp only at hI F' N')
    repeat' (first | (k_unfold; (try dsimp only)) | ((first | (with_reducible show wpAny _ _ _ _ _ _) | (with_reducible show (ite _ _ _ : Prop)) | (with_reducible show InvPostN _ _ _ _ _ _ _ _ _)); (first | walk1 | (dsimp only; walk1)); (try dsimp only)) | ((with_reducible show (PySem.W.Frag.In _ _ ∧ _)); (refine And.intro (by k_in) ?_)))
    exact hret _ _ _ _ _ F'.keep (N' _ (.head _)).2.2 (N' _ (.head _)).1 hI
end
section
theorem ret_int {s : Shared} {Q : Value → Shared → Prop} {x y : Int} {h' : Heap} {t : Tok} {tk' : Nat} (hret : ∀ (t : Tok) (h' : Heap) (tk' : Nat), Kp s.heap h' → Q (.int x t) { s with heap := h', toks := tk' }) (e : x = y) (k : Kp s.heap h') : Q (.int y t) { s with heap := h', toks := tk' } :=
  e ▸ hret t h' tk' k
def b64v (c : Int) : Int := if 65 ≤ c ∧ c ≤ 90 then c - 65 else if 97 ≤ c ∧ c ≤ 122 then c - 71 else if 48 ≤ c ∧ c ≤ 57 then c + 4 else if c = 43 then 62 else if c = 47 then 63 else 64
set_option maxRecDepth 100000 in
set_option maxHeartbeats 8000000 in
theorem c_b64v (w : World) {p : Program} {loose : List Str} {mean : ExcName → Option Value} {mg mb : Str → Option Value}
    {dp un : Nat} {gd : Option (List Code)} {cn : Str} {cs : Scope} {a : Addr} {ccd : Value} {cl : List (Str × Addr)} {outer : List Env} {A₀ : Around} {base h₀ : Heap} {L : Addr} {m : Str → Option Value} {s : Shared} {Q E : Value → Shared → Prop}
    (B : Below A₀ base outer h₀) (F : Fr h₀ L s.heap m) (X : (hd.heap_39 w.params).In h₀) (T : Top p loose mean mg mb h₀) (hk : cs.kind = .function)
    (hd1 : dp + 4 < recursionLimit) {c : Int} {t : Tok}
    (hret : ∀ (t : Tok) (h' : Heap) (tk' : Nat), Kp s.heap h' → Q (.int (b64v c) t) { s with heap := h', toks := tk' }) :
    wpAny (model P0 w) (ktrTop dp un gd cn cs L a ccd cl outer) (call (.ref 70) [.int c t]) Q E s := by
  refine enter (binds := [("c", .int c t)]) B F X T rfl rfl hk (by k_is) (by k_is) ?room (BindsTo.of_eq rfl) (locs rfl) ?_ (by decide) rfl rfl rfl
  · ktr_room
  intro L' h₁ tk F' N' B' X' T'
  (try dsimp only); (try k_unmd); k_fold
  clear B F X T
  repeat' (first | (k_unfold; (try dsimp only)) | ((first | (with_reducible show wpAny _ _ _ _ _ _) | (with_reducible show (ite _ _ _ : Prop)) | (with_reducible show InvPostN _ _ _ _ _ _ _ _ _)); (first | walk1 | (dsimp only; walk1)); (try dsimp only)) | ((with_reducible show (PySem.W.Frag.In _ _ ∧ _)); (refine And.intro (by k_in) ?_)))
  all_goals ((rename Fr _ _ _ _ => F9); exact ret_int (s := s) (Q := Q) hret (by unfold b64v; (repeat' split) <;> omega) F9.keep)
set_option maxRecDepth 100000 in
set_option maxHeartbeats 8000000 in
theorem c_truth (w : World) {p : Program} {loose : List Str} {mean : ExcName → Option Value} {mg mb : Str → Option Value}
    {dp un : Nat} {gd : Option (List Code)} {cn : Str} {cs : Scope} {a : Addr} {ccd : Value} {cl : List (Str × Addr)} {outer : List Env} {A₀ : Around} {base h₀ : Heap} {L : Addr} {m : Str → Option Value} {s : Shared} {Q E : Value → Shared → Prop}
    (B : Below A₀ base outer h₀) (F : Fr h₀ L s.heap m) (X : (hd.heap_39 w.params).In h₀) (T : Top p loose mean mg mb h₀) (hk : cs.kind = .function)
    (hd1 : dp + 4 < recursionLimit)
    (hret : ∀ (h' : Heap) (tk' : Nat), Kp s.heap h' → Q (.bool false) { s with heap := h', toks := tk' }) :
    wpAny (model P0 w) (ktrTop dp un gd cn cs L a ccd cl outer) (call (.ref 63) [.bool false]) Q E s := by
  refine enter (binds := [("x", .bool false)]) B F X T rfl rfl hk (by k_is) (by k_is) ?room (BindsTo.of_eq rfl) (locs rfl) ?_ (by decide) rfl rfl rfl
  · ktr_room
  intro L' h₁ tk F' N' B' X' T'
  (try dsimp only); (try k_unmd); k_fold
  clear B F X T
  repeat' (first | (k_unfold; (try dsimp only)) | ((first | (with_reducible show wpAny _ _ _ _ _ _) | (with_reducible show (ite _ _ _ : Prop)) | (with_reducible show InvPostN _ _ _ _ _ _ _ _ _)); (first | walk1 | (dsimp only; walk1)); (try dsimp only)) | ((with_reducible show (PySem.W.Frag.In _ _ ∧ _)); (refine And.intro (by k_in) ?_)))
  rename Fr _ _ _ _ => F9
  exact hret _ _ F9.keep
set_option maxRecDepth 100000 in
set_option maxHeartbeats 8000000 in
theorem c_buffer (w : World) {p : Program} {loose : List Str} {mean : ExcName → Option Value} {mg mb : Str → Option Value}
    {dp un : Nat} {gd : Option (List Code)} {cn : Str} {cs : Scope} {a : Addr} {ccd : Value} {cl : List (Str × Addr)} {outer : List Env} {A₀ : Around} {base h₀ : Heap} {L : Addr} {m : Str → Option Value} {s : Shared} {Q E : Value → Shared → Prop}
    (B : Below A₀ base outer h₀) (F : Fr h₀ L s.heap m) (X : (hd.heap_39 w.params).In h₀) (T : Top p loose mean mg mb h₀) (hk : cs.kind = .function)
    (hd1 : dp + 4 < recursionLimit) {b : Array UInt8} {t : Tok}
    (hret : ∀ (h' : Heap) (tk' : Nat), Kp s.heap h' → Q (.bytes b t) { s with heap := h', toks := tk' }) :
    wpAny (model P0 w) (ktrTop dp un gd cn cs L a ccd cl outer) (call (.ref 56) [.bytes b t]) Q E s := by
  refine enter (binds := [("data", .bytes b t)]) B F X T rfl rfl hk (by k_is) (by k_is) ?room (BindsTo.of_eq rfl) (locs rfl) ?_ (by decide) rfl rfl rfl
  · ktr_room
  intro L' h₁ tk F' N' B' X' T'
  (try dsimp only); (try k_unmd); k_fold
  clear B F X T
  repeat' ((fail_if_success (with_reducible show wpAny _ _ (PySem.call (PySem.Value.type "type") _ _) _ _ _)); (first | (k_unfold; (try dsimp only)) | ((first | (with_reducible show wpAny _ _ _ _ _ _) | (with_reducible show (ite _ _ _ : Prop)) | (with_reducible show InvPostN _ _ _ _ _ _ _ _ _)); (first | walk1 | (dsimp only; walk1)); (try dsimp only)) | ((with_reducible show (PySem.W.Frag.In _ _ ∧ _)); (refine And.intro (by k_in) ?_))))
  refine call_type_of (Tx := "bytes") rfl (by decide +kernel) ?_
  repeat' (first | (k_unfold; (try dsimp only)) | ((first | (with_reducible show wpAny _ _ _ _ _ _) | (with_reducible show (ite _ _ _ : Prop)) | (with_reducible show InvPostN _ _ _ _ _ _ _ _ _)); (first | walk1 | (dsimp only; walk1)); (try dsimp only)) | ((with_reducible show (PySem.W.Frag.In _ _ ∧ _)); (refine And.intro (by k_in) ?_)))
  rename Fr _ _ _ _ => F9
  exact hret _ _ F9.keep
set_option maxRecDepth 100000 in
set_option maxHeartbeats 8000000 in
theorem c_ascii (w : World) {p : Program} {loose : List Str} {mean : ExcName → Option Value} {mg mb : Str → Option Value}
    {dp un : Nat} {gd : Option (List Code)} {cn : Str} {cs : Scope} {a : Addr} {ccd : Value} {cl : List (Str × Addr)} {outer : List Env} {A₀ : Around} {base h₀ : Heap} {L : Addr} {m : Str → Option Value} {s : Shared} {Q E : Value → Shared → Prop}
    (B : Below A₀ base outer h₀) (F : Fr h₀ L s.heap m) (X : (hd.heap_39 w.params).In h₀) (T : Top p loose mean mg mb h₀) (hk : cs.kind = .function)
    (hd1 : dp + 4 < recursionLimit) {b : Array UInt8} {t : Tok}
    (hret : ∀ (h' : Heap) (tk' : Nat), Kp s.heap h' → Q (.bytes b t) { s with heap := h', toks := tk' }) :
    wpAny (model P0 w) (ktrTop dp un gd cn cs L a ccd cl outer) (call (.ref 49) [.bytes b t]) Q E s := by
  refine enter (binds := [("data", .bytes b t)]) B F X T rfl rfl hk (by k_is) (by k_is) ?room (BindsTo.of_eq rfl) (locs rfl) ?_ (by decide) rfl rfl rfl
  · ktr_room
  intro L' h₁ tk F' N' B' X' T'
  (try dsimp only); (try k_unmd); k_fold
  clear B F X T
  repeat' ((fail_if_success (with_reducible show wpAny _ _ (PySem.call (PySem.Value.type "type") _ _) _ _ _)); (first | (k_unfold; (try dsimp only)) | ((first | (with_reducible show wpAny _ _ _ _ _ _) | (with_reducible show (ite _ _ _ : Prop)) | (with_reducible show InvPostN _ _ _ _ _ _ _ _ _)); (first | walk1 | (dsimp only; walk1)); (try dsimp only)) | ((with_reducible show (PySem.W.Frag.In _ _ ∧ _)); (refine And.intro (by k_in) ?_))))
  refine call_type_of (Tx := "bytes") rfl (by decide +kernel) ?_
  repeat' (first | (k_unfold; (try dsimp only)) | ((first | (with_reducible show wpAny _ _ _ _ _ _) | (with_reducible show (ite _ _ _ : Prop)) | (with_reducible show InvPostN _ _ _ _ _ _ _ _ _)); (first | walk1 | (dsimp only; walk1)); (try dsimp only)) | ((with_reducible show (PySem.W.Frag.In _ _ ∧ _)); (refine And.intro (by k_in) ?_)))
  rename Fr _ _ _ _ => F9
  exact hret _ _ F9.keep
end
section
section
open Builtin Builtin._codecs
def encA (x : Str) : Array UInt8 := x.cps.map fun c => c.toUInt8
theorem encA_fold (x : Array Nat) : (x.foldl (fun acc y => acc ++ (asciiCodec.bytesOf y).toArray) (#[] : Array UInt8)) = x.map fun c => c.toUInt8 := by
  rw [← Array.foldl_toList]
  have key : ∀ (l : List Nat) (acc : Array UInt8), l.foldl (fun acc y => acc ++ (asciiCodec.bytesOf y).toArray) acc = acc ++ (l.map fun c => c.toUInt8).toArray := by
    intro l
    induction l with
    | nil => intro acc; simp
    | cons a r ih => intro acc; rw [List.foldl_cons, ih]; simp [asciiCodec]
  rw [key]; apply Array.ext'; simp
theorem forIn_once {M : Model} {A : Around} {E : Value → Shared → Prop} {s : Shared} {β : Type} {f : Nat → β → Sem (ForInStep β)} {a b : β} {Q : β → Shared → Prop} (n : Nat)
    (h1 : ∀ k, n ≠ 0 → f k a = pure (.yield b)) (h2 : ∀ k, f k b = pure (.done b)) (ha : n = 0 → Q a s) (hb : n ≠ 0 → Q b s) : wpAny M A (forIn [0:n] a f) Q E s := by
  rw [Std.Legacy.Range.forIn_eq_forIn_range']
  match n, h1, ha, hb with
  | 0, _, ha, _ => simpa [Std.Legacy.Range.size, List.range'] using wpAny_pure (M := M) (A := A) (E := E) (ha rfl)
  | 1, h1, _, hb =>
    simp only [Std.Legacy.Range.size, List.range', List.forIn_cons, List.forIn_nil]
    rw [h1 _ (by omega)]
    exact wpAny_bind (wpAny_pure (wpAny_pure (hb (by omega))))
  | n + 2, h1, _, hb =>
    have e : Std.Legacy.Range.size [0:n + 2] = (n + 1) + 1 := by simp [Std.Legacy.Range.size]
    rw [e, List.range'_succ, List.range'_succ]
    simp only [List.forIn_cons]
    rw [h1 _ (by omega)]
    refine wpAny_bind (wpAny_pure ?_)
    show wpAny M A (f (0 + 1) b >>= _) Q E s
    rw [h2]
    exact wpAny_bind (wpAny_pure (wpAny_pure (hb (by omega))))
theorem encode_narrow {M : Model} {A : Around} {E : Value → Shared → Prop} {s : Shared} {x : Str} {self : Value} {Q : Array UInt8 → Shared → Prop} (hx : ∀ c ∈ x.cps, c < 128) (hsz : x.cps.size ≤ sizeLine) (h : Q (encA x) s) :
    wpAny M A (encodeNarrow "str.encode" asciiCodec none self x) Q E s := by
  unfold encodeNarrow
  refine wpAny_bind (forIn_once (b := (x.cps.size, encA x, ({} : Faults))) x.length (fun k hn => ?_) (fun k => ?_) (fun hn => wpAny_pure ?_) (fun hn => wpAny_pure h))
  · have hpos : 0 < x.cps.size := Nat.pos_of_ne_zero hn
    have h0 : x.cps[0]? = some x.cps[0] := by simp [hpos]
    have hb : asciiCodec.bad x.cps[0] = false := by
      have := hx x.cps[0] (Array.getElem_mem hpos)
      simp [asciiCodec]; omega
    have hr : x.cps.extract 0 x.cps.size = x.cps := by simp
    have hf : Array.findIdx? asciiCodec.bad x.cps = none := by
      rw [Array.findIdx?_eq_none_iff]
      intro c hc
      have := hx c hc
      simp [asciiCodec]; omega
    (try dsimp only)
    rw [if_neg (by simp)]
    simp only [h0, hb, hr, hf, Bool.not_false, if_true, Option.getD_none, Nat.zero_add]
    rw [encA_fold]
    rfl
  · have h0 : x.cps[x.cps.size]? = none := by simp
    (try dsimp only)
    rw [if_neg (by simp [encA]; exact hsz)]
    simp only [h0]
  · have : encA x = #[] := by
      have : x.cps = #[] := Array.eq_empty_of_size_eq_zero hn
      simp [encA, this]
    rw [this] at h
    exact h
theorem call_encode {prog : Program} {w : World} {A : Around} {E : Value → Shared → Prop} {s : Shared} {x : Str} {t u : Tok} {Q : Value → Shared → Prop} (hx : ∀ c ∈ x.cps, c < 128) (hsz : x.cps.size ≤ sizeLine) (h : Q (.bytes (encA x) s.toks) { s with toks := s.toks + 1 }) :
    wpAny (model prog w) A (call (.builtin "str.encode") [.str x t, .str (Str.ofString "ascii") u]) Q E s := by
  refine wpAny_call_entry F.slot_str_encode (typeIs_str s x t) F.entry_str_encode ?_ (F.args_str_encode_2 _ _)
  unfold «str.encode»
  refine wpAny_bind (wpAny_of_eq (a := (.str x t, x, [.str (Str.ofString "ascii") u])) rfl ?_)
  refine wpAny_bind (wpAny_of_eq (a := [some (.str (Str.ofString "ascii") u), none]) rfl ?_)
  (try dsimp only)
  have e1 : (Str.ofString "ascii").cps.any (· ≥ 128) = false := by decide +kernel
  have e2 : (Str.ofString "ascii").cps.contains 0 = false := by decide +kernel
  have e3 : Builtin.Str.codecArg "str.encode" "encode" "'encoding'" (some (.str (Str.ofString "ascii") u)) = pure (some (Str.ofString "ascii")) := by
    unfold Builtin.Str.codecArg
    (try dsimp only)
    show (pure (Str.ofString "ascii") >>= _) = _
    rw [pure_bind, e1, e2]
    rfl
  refine wpAny_bind (wpAny_of_eq e3 ?_)
  refine wpAny_bind (wpAny_of_eq (a := none) rfl ?_)
  have e4 : (normalName (Str.ofString "ascii")).toString = "ascii" := by decide +kernel
  have e5 : encodeRoad "str.encode" (.str x t) x (Str.ofString "ascii") none = (do mkBytes (← encodeNarrow "str.encode" asciiCodec none (.str x t) x)) := by
    unfold encodeRoad
    rw [e4]
    first | rfl | simp only []
  show wpAny _ _ (encodeRoad "str.encode" (.str x t) x (Str.ofString "ascii") none >>= _) _ _ _
  rw [e5]
  exact wpAny_bind (wpAny_bind (encode_narrow hx hsz (wpAny_mkBytes (wpAny_pure ⟨_, rfl, h⟩) (by simpa [encA] using hsz))))
end
end
section
set_option maxRecDepth 100000 in
set_option maxHeartbeats 8000000 in
theorem c_from (w : World) {p : Program} {loose : List Str} {mean : ExcName → Option Value} {mg mb : Str → Option Value}
    {dp un : Nat} {gd : Option (List Code)} {cn : Str} {cs : Scope} {a : Addr} {ccd : Value} {cl : List (Str × Addr)} {outer : List Env} {A₀ : Around} {base h₀ : Heap} {L : Addr} {m : Str → Option Value} {s : Shared} {Q E : Value → Shared → Prop}
    (B : Below A₀ base outer h₀) (F : Fr h₀ L s.heap m) (X : (hd.heap_39 w.params).In h₀) (T : Top p loose mean mg mb h₀) (hk : cs.kind = .function)
    (hd1 : dp + 4 < recursionLimit) {x : Str} {t : Tok} (hx : ∀ c ∈ x.cps, c < 128) (hlen : x.cps.size ≤ 1000)
    (hret : ∀ (t : Tok) (h' : Heap) (tk' : Nat), Kp s.heap h' → Q (.bytes (encA x) t) { s with heap := h', toks := tk' }) :
    wpAny (model P0 w) (ktrTop dp un gd cn cs L a ccd cl outer) (call (.ref 29) [.str x t]) Q E s := by
  refine enter (binds := [("s", .str x t)]) B F X T rfl rfl hk (by k_is) (by k_is) ?room (BindsTo.of_eq rfl) (locs rfl) ?_ (by decide) rfl rfl rfl
  · ktr_room
  intro L' h₁ tk F' N' B' X' T'
  (try dsimp only); (try k_unmd); k_fold
  clear B F X T
  repeat' ((fail_if_success (with_reducible show wpAny _ _ (PySem.exec (PySem.Stmt.Try _ _ _ _ _) _) _ _ _)); (first | (k_unfold; (try dsimp only)) | ((first | (with_reducible show wpAny _ _ _ _ _ _) | (with_reducible show (ite _ _ _ : Prop)) | (with_reducible show InvPostN _ _ _ _ _ _ _ _ _)); (first | walk1 | (dsimp only; walk1)); (try dsimp only)) | ((with_reducible show (PySem.W.Frag.In _ _ ∧ _)); (refine And.intro (by k_in) ?_))))
  refine wpAny_Try_except (wpAny_mono ?_ (fun _ _ h => h) (fun _ _ (e : False) => e.elim))
  (try k_fold)
  repeat' ((fail_if_success (with_reducible show wpAny _ _ (PySem.getMethod _ _ _) _ _ _)); (first | (k_unfold; (try dsimp only)) | ((first | (with_reducible show wpAny _ _ _ _ _ _) | (with_reducible show (ite _ _ _ : Prop)) | (with_reducible show InvPostN _ _ _ _ _ _ _ _ _)); (first | walk1 | (dsimp only; walk1)); (try dsimp only)) | ((with_reducible show (PySem.W.Frag.In _ _ ∧ _)); (refine And.intro (by k_in) ?_))))
  refine GM.of (.str x t) (typeIs_str _ _ _) F.slot_str_encode F.type_str_encode GM.noRef ?_
  repeat' ((fail_if_success (with_reducible show wpAny _ _ (PySem.call (PySem.Value.builtin "str.encode") _ _) _ _ _)); (first | (k_unfold; (try dsimp only)) | ((first | (with_reducible show wpAny _ _ _ _ _ _) | (with_reducible show (ite _ _ _ : Prop)) | (with_reducible show InvPostN _ _ _ _ _ _ _ _ _)); (first | walk1 | (dsimp only; walk1)); (try dsimp only)) | ((with_reducible show (PySem.W.Frag.In _ _ ∧ _)); (refine And.intro (by k_in) ?_))))
  refine call_encode hx (by rw [PySem.sizeLine_eq]; omega) ?_
  (try dsimp only)
  repeat' (first | (k_unfold; (try dsimp only)) | ((first | (with_reducible show wpAny _ _ _ _ _ _) | (with_reducible show (ite _ _ _ : Prop)) | (with_reducible show InvPostN _ _ _ _ _ _ _ _ _)); (first | walk1 | (dsimp only; walk1)); (try dsimp only)) | ((with_reducible show (PySem.W.Frag.In _ _ ∧ _)); (refine And.intro (by k_in) ?_)))
  rename Fr _ _ _ _ => F9
  exact hret _ _ _ F9.keep
end
section
local macro_rules | `(tactic| walk_at "eval Name") => `(tactic| ((with_reducible show wpAny _ _ (PySem.eval (PySem.Expr.Name _ _) (PySem.W.envX _ _ _ _ _ _)) _ _ _); (refine nmX ?kx ?kf ?kv ?_; (case kx => decide +kernel); (case kf => with_reducible assumption); (case kv => (try dsimp only [List.reverse, List.reverseAux]); repeat (first | exact kl_hit | exact kb_hit | exact ll_hit | (refine kl_miss (by decide +kernel) ?_) | (refine kc_miss (by decide +kernel) ?_) | (refine kb_miss (by decide +kernel) ?_) | (refine ll_miss (by decide +kernel) ?_))))))
local macro_rules | `(tactic| walk_at "storeName") => `(tactic| ((with_reducible show wpAny _ _ (PySem.storeName (PySem.W.envX _ _ _ _ _ _) _ _) _ _ _); (refine stX ?kx ?kf ?kn ?_; (case kx => decide +kernel); (case kf => with_reducible assumption); (case kn => with_reducible assumption)); (intro h9 F9 N9); (try k_sweep)))
def sgnL : List Int := "ABCDEFGHIJKLMNOPQRSTUVWXYZabcdefghijklmnopqrstuvwxyz0123456789+/".toList.map fun c => (c.toNat : Int)
def sgn (k : Int) : Int := sgnL.getD k.toNat 0
def b2aStep (c : List Int × Int × Int) (b : Int) : List Int × Int × Int :=
  let lc := (c.2.2 * 256 + b) % 65536
  if c.2.1 = 0 then (c.1 ++ [sgn (lc / 4 % 64)], 2, lc)
  else if c.2.1 = 2 then (c.1 ++ [sgn (lc / 16 % 64)], 4, lc)
  else (c.1 ++ [sgn (lc / 64 % 64), sgn (lc % 64)], 0, lc)
def b2aF (bs : List Int) : List Int × Int × Int := bs.foldl b2aStep ([], 0, 0)
theorem sgn_range (k : Int) : 0 ≤ sgn k ∧ sgn k < 256 := by
  have h : ∀ x ∈ sgnL, 0 ≤ x ∧ x < 256 := by decide +kernel
  unfold sgn
  rw [List.getD_eq_getElem?_getD]
  cases e : sgnL[k.toNat]? with
  | none => simp
  | some x => exact h x (List.mem_of_getElem? e)
theorem b2aF_range (bs : List Int) : ∀ n ∈ (b2aF bs).1, 0 ≤ n ∧ n < 256 := by
  have key : ∀ (bs : List Int) (c : List Int × Int × Int), (∀ n ∈ c.1, 0 ≤ n ∧ n < 256) → ∀ n ∈ (bs.foldl b2aStep c).1, 0 ≤ n ∧ n < 256 := by
    intro bs
    induction bs with
    | nil => intro c h; exact h
    | cons b r ih =>
      intro c h
      refine ih _ ?_
      intro n hn
      unfold b2aStep at hn
      (try dsimp only at hn)
      split at hn
      · rcases List.mem_append.mp hn with h1 | h1
        · exact h n h1
        · rw [List.mem_singleton.mp h1]; exact sgn_range _
      · split at hn
        · rcases List.mem_append.mp hn with h1 | h1
          · exact h n h1
          · rw [List.mem_singleton.mp h1]; exact sgn_range _
        · rcases List.mem_append.mp hn with h1 | h1
          · exact h n h1
          · rcases List.mem_cons.mp h1 with rfl | h1
            · exact sgn_range _
            · rw [List.mem_singleton.mp h1]; exact sgn_range _
  exact key bs _ (fun _ h => nomatch h)
theorem and_mul (a b k : Nat) (hb : b < 2 ^ k) : (a * 2 ^ k) &&& b = 0 := by
  apply Nat.eq_of_testBit_eq
  intro i
  rw [Nat.testBit_and, Nat.zero_testBit, Nat.testBit_mul_two_pow]
  by_cases h : k ≤ i
  · rw [Nat.testBit_lt_two_pow (Nat.lt_of_lt_of_le hb (Nat.pow_le_pow_right (by decide) h))]; simp
  · simp [h]
theorem or_mul {a b : Int} (k : Nat) (ha : 0 ≤ a) (h0 : 0 ≤ b) (hb : b < 2 ^ k) : Builtin.bitOr (a * 2 ^ k) b = a * 2 ^ k + b := by
  have hm : 0 ≤ a * 2 ^ k := Int.mul_nonneg ha (Int.le_of_lt (Int.pow_pos (by decide)))
  rw [bitOr_and, bitAnd_pp hm h0]
  have e : (a * 2 ^ k).toNat = a.toNat * 2 ^ k := by
    obtain ⟨n, rfl⟩ := Int.eq_ofNat_of_zero_le ha
    have : (n : Int) * 2 ^ k = ((n * 2 ^ k : Nat) : Int) := by simp
    show ((n : Int) * 2 ^ k).toNat = n * 2 ^ k
    rw [this]; exact Int.toNat_natCast _
  have hb' : b.toNat < 2 ^ k := by
    have : ((2 ^ k : Nat) : Int) = 2 ^ k := by simp
    omega
  rw [e, and_mul _ _ _ hb']; simp
theorem lc_step {lc k : Int} (h0 : 0 ≤ lc) (h1 : lc < 65536) (h2 : 0 ≤ k) (h3 : k < 256) : Builtin.bitAnd (Builtin.bitOr (lc * 2 ^ (8 : Int).toNat) k) 65535 = (lc * 256 + k) % 65536 := by
  have e : (8 : Int).toNat = 8 := rfl
  rw [e, or_mul 8 h0 h2 (by simpa using h3), bitAnd_m16]
  rfl
theorem idx_is {q : Int} (n : Nat) : Builtin.bitAnd (q.fdiv (2 ^ n)) 63 = q / 2 ^ n % 64 := by
  rw [bitAnd_m6, Int.fdiv_eq_ediv_of_nonneg _ (Int.le_of_lt (Int.pow_pos (by decide)))]
theorem b2aF_step {bs : List Int} {i : Nat} {k : Int} (h : bs[i]? = some k) : b2aF (bs.take (i + 1)) = b2aStep (b2aF (bs.take i)) k := by
  rw [List.take_add_one, h]; simp [b2aF, List.foldl_append]
structure B2J (bs : List Int) (i : Nat) (vs : List Value) (lb lc : Int) : Prop where
  hI : IntsAre vs (b2aF (bs.take i)).1
  hlb : lb = (b2aF (bs.take i)).2.1
  hlc : lc = (b2aF (bs.take i)).2.2
  lb3 : lb = 0 ∨ lb = 2 ∨ lb = 4
  lc0 : 0 ≤ lc
  lc1 : lc < 65536
  hlen : vs.length ≤ 2 * i
theorem allB_back : ∀ {ns : List Int}, AllB ns → KBw.bInts (ns.map fun n => n.toNat.toUInt8).toArray = ns
  | [], _ => rfl
  | n :: r, h => by
    rw [KBw.ints_list]
    simp only [List.map_cons, List.map_map]
    rw [h.head]
    have := allB_back h.tail
    rw [KBw.ints_list, List.map_map] at this
    rw [this]
def B2W (vs : List Value) (lb q : Int) (vs2 : List Value) (lb2 : Int) : Prop :=
  ∃ es : List Value, vs2 = vs ++ es ∧ es.length ≤ 2 ∧ ((lb2 = lb + 8 ∧ es = []) ∨ (lb2 = lb + 2 ∧ ∃ t, es = [.int (sgn (q / 2 ^ (lb + 2).toNat % 64)) t]) ∨ (lb = 4 ∧ lb2 = 0 ∧ ∃ t u, es = [.int (sgn (q / 64 % 64)) t, .int (sgn (q % 64)) u]))
theorem B2W.step {vs vs2 : List Value} {lb q lb2 : Int} {t : Tok} (h : B2W vs lb q vs2 lb2) (hlb : lb = 0 ∨ lb = 2 ∨ lb = 4) (hge : lb2 ≥ 6) : B2W vs lb q (vs2 ++ [.int (sgnL.getD (q / 2 ^ (lb2 - 6).toNat % 64).toNat 0) t]) (lb2 - 6) := by
  obtain ⟨es, rfl, hl, hw⟩ := h
  rcases hw with ⟨rfl, rfl⟩ | ⟨rfl, u, rfl⟩ | ⟨rfl, rfl, _⟩
  · refine ⟨[.int (sgnL.getD (q / 2 ^ (lb + 8 - 6).toNat % 64).toNat 0) t], by simp, by simp, .inr (.inl ⟨by omega, t, ?_⟩)⟩
    have : lb + 8 - 6 = lb + 2 := by omega
    rw [this]; rfl
  · refine ⟨[_, _], by simp; exact ⟨rfl, rfl⟩, by simp, .inr (.inr ⟨by omega, by omega, u, t, ?_⟩)⟩
    have : lb = 4 := by omega
    subst this
    simp only [show ((4 : Int) + 2).toNat = 6 from rfl, show ((4 : Int) + 2 - 6).toNat = 0 from rfl, Int.pow_zero, Int.ediv_one]
    rfl
  · omega
theorem B2W.done {bs : List Int} {i : Nat} {vs vs2 : List Value} {lb q lb2 : Int} (h : B2W vs lb q vs2 lb2) (hlb : lb = 0 ∨ lb = 2 ∨ lb = 4) (hge : ¬ lb2 ≥ 6) (hI : IntsAre vs (b2aF (bs.take i)).1) (hq : 0 ≤ q ∧ q < 65536)
    (eS : b2aF (bs.take (i + 1)) = if lb = 0 then ((b2aF (bs.take i)).1 ++ [sgn (q / 4 % 64)], 2, q) else if lb = 2 then ((b2aF (bs.take i)).1 ++ [sgn (q / 16 % 64)], 4, q) else ((b2aF (bs.take i)).1 ++ [sgn (q / 64 % 64), sgn (q % 64)], 0, q))
    (hvl : vs.length ≤ 2 * i) : B2J bs (i + 1) vs2 lb2 q := by
  obtain ⟨es, rfl, hl, hw⟩ := h
  have hlen : (vs ++ es).length ≤ 2 * (i + 1) := by simp; omega
  rcases hlb with rfl | rfl | rfl
  · rw [if_pos rfl] at eS
    rcases hw with ⟨rfl, rfl⟩ | ⟨rfl, u, rfl⟩ | ⟨h, _⟩
    · omega
    · exact ⟨by rw [eS]; exact hI.append (.cons _ _ .nil), by rw [eS]; rfl, by rw [eS], .inr (.inl rfl), hq.1, hq.2, hlen⟩
    · omega
  · rw [if_neg (by decide), if_pos rfl] at eS
    rcases hw with ⟨rfl, rfl⟩ | ⟨rfl, u, rfl⟩ | ⟨h, _⟩
    · omega
    · exact ⟨by rw [eS]; exact hI.append (.cons _ _ .nil), by rw [eS]; rfl, by rw [eS], .inr (.inr rfl), hq.1, hq.2, hlen⟩
    · omega
  · rw [if_neg (by decide), if_neg (by decide)] at eS
    rcases hw with ⟨rfl, rfl⟩ | ⟨rfl, u, rfl⟩ | ⟨_, rfl, t, u, rfl⟩
    · omega
    · omega
    · exact ⟨by rw [eS]; exact hI.append (.cons _ _ (.cons _ _ .nil)), by rw [eS], by rw [eS], .inl rfl, hq.1, hq.2, hlen⟩
set_option maxRecDepth 100000 in
set_option maxHeartbeats 8000000 in
theorem c_b2a (w : World) {p : Program} {loose : List Str} {mean : ExcName → Option Value} {mg mb : Str → Option Value}
    {dp un : Nat} {gd : Option (List Code)} {cn : Str} {cs : Scope} {a : Addr} {ccd : Value} {cl : List (Str × Addr)} {outer : List Env} {A₀ : Around} {base h₀ : Heap} {L : Addr} {m : Str → Option Value} {s : Shared} {Q E : Value → Shared → Prop}
    (B : Below A₀ base outer h₀) (F : Fr h₀ L s.heap m) (X : (hd.heap_39 w.params).In h₀) (T : Top p loose mean mg mb h₀) (hk : cs.kind = .function)
    (hd1 : dp + 8 < recursionLimit) {b : Array UInt8} {t : Tok} {out : List Int} {lc : Int} (hsz : b.size ≤ 1000) (hb : b2aF (KBw.bInts b) = (out, 0, lc))
    (hret : ∀ (r : Array UInt8) (t : Tok) (h' : Heap) (tk' : Nat), Kp s.heap h' → KBw.bInts r = out → Q (.bytes r t) { s with heap := h', toks := tk' }) :
    wpAny (model P0 w) (ktrTop dp un gd cn cs L a ccd cl outer) (call (.ref 86) [.bytes b t] [("newline", .bool false)]) Q E s := by
  refine enter (binds := [("data", .bytes b t), ("newline", .bool false)]) B F X T rfl rfl hk (by k_is) (by k_is) ?room (kp_binds (X.keeps F.keep) (by intro S; rfl)) (locs rfl) ?_ (by decide) rfl rfl rfl
  · ktr_room
  intro L' h₁ tk F' N' B' X' T'
  (try dsimp only); (try k_unmd); k_fold
  clear B F X T
  repeat' ((fail_if_success (with_reducible show wpAny _ _ (PySem.call (PySem.Value.ref 56) _ _) _ _ _)); (first | (k_unfold; (try dsimp only)) | ((first | (with_reducible show wpAny _ _ _ _ _ _) | (with_reducible show (ite _ _ _ : Prop)) | (with_reducible show InvPostN _ _ _ _ _ _ _ _ _)); (first | walk1 | (dsimp only; walk1)); (try dsimp only)) | ((with_reducible show (PySem.W.Frag.In _ _ ∧ _)); (refine And.intro (by k_in) ?_))))
  refine c_buffer w B' F' X' T' rfl (by show dp + 1 + 4 < _; omega) fun h3 tk3 k3 => ?_
  replace F' := kp_fr F' k3
  replace N' := kp_news N' k3
  (try dsimp only)
  repeat' ((fail_if_success (with_reducible show wpAny _ _ (PySem.call (PySem.Value.ref 63) _ _) _ _ _)); (first | (k_unfold; (try dsimp only)) | ((first | (with_reducible show wpAny _ _ _ _ _ _) | (with_reducible show (ite _ _ _ : Prop)) | (with_reducible show InvPostN _ _ _ _ _ _ _ _ _)); (first | walk1 | (dsimp only; walk1)); (try dsimp only)) | ((with_reducible show (PySem.W.Frag.In _ _ ∧ _)); (refine And.intro (by k_in) ?_))))
  rename Fr _ _ _ _ => F3
  rename News _ _ _ _ => N3
  refine c_truth w B' F3 X' T' rfl (by show dp + 1 + 4 < _; omega) fun h4 tk4 k4 => ?_
  replace F3 := kp_fr F3 k4
  replace N3 := kp_news N3 k4
  (try dsimp only)
  repeat' ((fail_if_success (with_reducible show wpAny _ _ (PySem.exec (PySem.Stmt.For _ _ _ _ _) _) _ _ _)); (first | (k_unfold; (try dsimp only)) | ((first | (with_reducible show wpAny _ _ _ _ _ _) | (with_reducible show (ite _ _ _ : Prop)) | (with_reducible show InvPostN _ _ _ _ _ _ _ _ _)); (first | walk1 | (dsimp only; walk1)); (try dsimp only)) | ((with_reducible show (PySem.W.Frag.In _ _ ∧ _)); (refine And.intro (by k_in) ?_))))
  refine for_exec ?_
  repeat' ((fail_if_success (with_reducible show wpAny _ _ (PySem.pyIter _) _ _ _)); (first | (k_unfold; (try dsimp only)) | ((first | (with_reducible show wpAny _ _ _ _ _ _) | (with_reducible show (ite _ _ _ : Prop)) | (with_reducible show InvPostN _ _ _ _ _ _ _ _ _)); (first | walk1 | (dsimp only; walk1)); (try dsimp only)) | ((with_reducible show (PySem.W.Frag.In _ _ ∧ _)); (refine And.intro (by k_in) ?_))))
  rename Fr _ _ _ _ => F2
  rename News _ _ _ _ => N2
  refine for_bytes (σ := (List Value × Nat) × (Int × Nat) × (Int × Nat)) (fun c => [(_, listOf c.1.1.toArray c.1.2)]) (fun c => [("leftbits", .int c.2.1.1 c.2.1.2), ("leftchar", .int c.2.2.1 c.2.2.2)]) ["b"]
    (fun i c => B2J (KBw.bInts b) i c.1.1 c.2.1.1 c.2.2.1) (([], 0), (0, ?t1), (0, ?t2)) rfl F2 N2 ?hk0 ?hj0 ?turn ?done (fun _ _ h => h) (fun _ _ => rfl)
  case hk0 => intro p hp; rcases List.mem_cons.mp hp with rfl | hp; rfl; rcases List.mem_singleton.mp hp with rfl; rfl
  case hj0 => exact ⟨IntsAre.nil, rfl, rfl, .inl rfl, Int.le_refl _, (by decide : (0 : Int) < 65536), Nat.le_refl _⟩
  case turn =>
    rintro ⟨⟨vs, n⟩, ⟨lb, lbt⟩, ⟨lc, lct⟩⟩ i k t' u h tk' own hi hk' hadr hoff ⟨hI, e1, e2, hlb, hlc0, hlc1, hvl⟩ F' N'
    clear F2 N2 hadr
    (try dsimp only at hI e1 e2 hlb hlc0 hlc1 hvl F' N' hoff)
    have hkr := KBw.ints_in (List.mem_of_getElem? hk')
    refine wpAny_assign_Name ?_
    repeat' ((fail_if_success (with_reducible show wpAny _ _ (PySem.exec (PySem.Stmt.While _ _ _ _) _) _ _ _)); (first | (k_unfold; (try dsimp only)) | ((first | (with_reducible show wpAny _ _ _ _ _ _) | (with_reducible show (ite _ _ _ : Prop)) | (with_reducible show InvPostN _ _ _ _ _ _ _ _ _)); (first | walk1 | (dsimp only; walk1)); (try dsimp only)) | ((with_reducible show (PySem.W.Frag.In _ _ ∧ _)); (refine And.intro (by k_in) ?_))))
    rename Fr _ _ _ _ => F5
    rename News _ _ _ _ => N5
    rw [lc_step hlc0 hlc1 hkr.1 hkr.2] at F5
    have hq : 0 ≤ (lc * 256 + k) % 65536 ∧ (lc * 256 + k) % 65536 < 65536 := by omega
    generalize hQ : (lc * 256 + k) % 65536 = q at F5 hq
    (try dsimp only at F5)
    refine while_ks (σ := (List Value × Nat) × (Int × Nat)) (fun c => (_, listOf c.1.1.toArray c.1.2) :: own) (fun c => [("leftbits", .int c.2.1 c.2.2)]) [] (fun c => B2W vs lb q c.1.1 c.2.1) (fun c => c.2.1.toNat) ((vs, n), (lb + 8, ?tw)) F5 N5 ?hw0 ⟨[], by simp, Nat.zero_le _, .inl ⟨rfl, rfl⟩⟩ ?wturn
    case hw0 => intro p hp; rcases List.mem_singleton.mp hp with rfl; rfl
    case wturn =>
      rintro ⟨⟨vs2, n2⟩, ⟨lb2, lbt2⟩⟩ u2 h2 tk2 hW F6 N6
      (try dsimp only at hW F6 N6)
      obtain ⟨es, hes, hl2, hw⟩ := hW
      clear F5 N5
      repeat' (first | (k_unfold; (try dsimp only)) | ((first | (with_reducible show wpAny _ _ _ _ _ _) | (with_reducible show (ite _ _ _ : Prop)) | (with_reducible show InvPostN _ _ _ _ _ _ _ _ _)); (first | walk1 | (dsimp only; walk1)); (try dsimp only)) | ((with_reducible show (PySem.W.Frag.In _ _ ∧ _)); (refine And.intro (by k_in) ?_)))
      by_cases hge : lb2 ≥ 6
      · refine WhlIf.yes (by simpa using hge) ?_
        repeat' ((fail_if_success (with_reducible show wpAny _ _ (PyProof.Rows.subscriptTail _ _ _ _) _ _ _)); (first | (k_unfold; (try dsimp only)) | ((first | (with_reducible show wpAny _ _ _ _ _ _) | (with_reducible show (ite _ _ _ : Prop)) | (with_reducible show InvPostN _ _ _ _ _ _ _ _ _)); (first | walk1 | (dsimp only; walk1)); (try dsimp only)) | ((with_reducible show (PySem.W.Frag.In _ _ ∧ _)); (refine And.intro (by k_in) ?_))))
        rw [idx_is]
        have hix : 0 ≤ q / 2 ^ (lb2 - 6).toNat % 64 ∧ q / 2 ^ (lb2 - 6).toNat % 64 < 64 := by omega
        refine KBw.item_K (ks := sgnL) (by decide +kernel) (by decide +kernel) hix.1 (by show _ < ((64 : Nat) : Int); omega) (fun t5 tk5 _ _ => ?_)
        (try dsimp only)
        repeat' ((fail_if_success (with_reducible show wpAny _ _ (PySem.call (PySem.Value.builtin "list.append") _ _) _ _ _)); (first | (k_unfold; (try dsimp only)) | ((first | (with_reducible show wpAny _ _ _ _ _ _) | (with_reducible show (ite _ _ _ : Prop)) | (with_reducible show InvPostN _ _ _ _ _ _ _ _ _)); (first | walk1 | (dsimp only; walk1)); (try dsimp only)) | ((with_reducible show (PySem.W.Frag.In _ _ ∧ _)); (refine And.intro (by k_in) ?_))))
        rename Fr _ _ _ _ => F7
        rename News _ _ _ _ => N7
        refine append_M (rest := own) F7 N7 (fun p hp => hoff p hp _ (.head _)) (by have := congrArg List.length hes; simp at this; omega) fun h7 F8 N8 => ?_
        (try dsimp only)
        clear F7 N7
        repeat' (first | (k_unfold; (try dsimp only)) | ((first | (with_reducible show wpAny _ _ _ _ _ _) | (with_reducible show (ite _ _ _ : Prop)) | (with_reducible show InvPostN _ _ _ _ _ _ _ _ _)); (first | walk1 | (dsimp only; walk1)); (try dsimp only)) | ((with_reducible show (PySem.W.Frag.In _ _ ∧ _)); (refine And.intro (by k_in) ?_)))
        rename Fr _ _ _ _ => F9
        rename News _ _ _ _ => N9
        refine w_end ((vs2 ++ [_], n2 + 1), (lb2 - 6, _)) F9 N9 (fun p hp => hp) (by intro p hp; rcases List.mem_singleton.mp hp with rfl; rfl) (fun z h1 _ => by have h3 := h1 _ (.head _); simp_all [KM, kstB]) ?_ (by show (lb2 - 6).toNat < lb2.toNat; omega)
        exact B2W.step ⟨es, hes, hl2, hw⟩ hlb hge
      · refine WhlIf.no (by simpa using hge) ?_
        repeat' (first | (k_unfold; (try dsimp only)) | ((first | (with_reducible show wpAny _ _ _ _ _ _) | (with_reducible show (ite _ _ _ : Prop)) | (with_reducible show InvPostN _ _ _ _ _ _ _ _ _)); (first | walk1 | (dsimp only; walk1)); (try dsimp only)) | ((with_reducible show (PySem.W.Frag.In _ _ ∧ _)); (refine And.intro (by k_in) ?_)))
        rename Fr _ _ _ _ => F8
        rename News _ _ _ _ => N8
        refine ks_end ((vs2, n2), (lb2, _), (q, _)) F8 N8 (List.forall_mem_cons.mpr ⟨.head _, List.forall_mem_nil _⟩) (fun p hp => .tail _ hp) rfl (by intro p hp; rcases List.mem_cons.mp hp with rfl | hp; rfl; rcases List.mem_singleton.mp hp with rfl; rfl) (fun z h1 h2 => by have h3 := h1 _ (.head _); have h4 := h1 _ (.tail _ (.head _)); simp_all [KM, kstB]) ?_
        have eS := b2aF_step hk'
        rw [b2aStep, ← e1, ← e2] at eS
        simp only [hQ] at eS
        exact B2W.done ⟨es, hes, hl2, hw⟩ hlb hge hI hq eS hvl
  case done =>
    rintro ⟨⟨vs, n⟩, ⟨lb, lbt⟩, ⟨lc2, lct⟩⟩ u h tk' ⟨hI, e1, e2, hlb, hlc0, hlc1, hvl⟩ F' N'
    clear F2 N2
    (try dsimp only at hI e1 e2 hlb hlc0 hlc1 hvl F' N')
    have ht : (KBw.bInts b).take b.size = KBw.bInts b := List.take_of_length_le (by rw [KBw.ints_length]; exact Nat.le_refl _)
    rw [ht, hb] at hI e1 e2
    (try dsimp only at hI e1 e2)
    subst e1
    repeat' (first | (k_unfold; (try dsimp only)) | ((first | (with_reducible show wpAny _ _ _ _ _ _) | (with_reducible show InvPostN _ _ _ _ _ _ _ _ _)); (first | walk1 | (dsimp only; walk1)); (try dsimp only)) | ((with_reducible show (PySem.W.Frag.In _ _ ∧ _)); (refine And.intro (by k_in) ?_)))
    rw [if_neg (by first | decide | (dsimp only; decide))]
    repeat' (first | (k_unfold; (try dsimp only)) | ((first | (with_reducible show wpAny _ _ _ _ _ _) | (with_reducible show InvPostN _ _ _ _ _ _ _ _ _)); (first | walk1 | (dsimp only; walk1)); (try dsimp only)) | ((with_reducible show (PySem.W.Frag.In _ _ ∧ _)); (refine And.intro (by k_in) ?_)))
    rw [if_neg (by first | decide | (dsimp only; decide))]
    repeat' (first | (k_unfold; (try dsimp only)) | ((first | (with_reducible show wpAny _ _ _ _ _ _) | (with_reducible show InvPostN _ _ _ _ _ _ _ _ _)); (first | walk1 | (dsimp only; walk1)); (try dsimp only)) | ((with_reducible show (PySem.W.Frag.In _ _ ∧ _)); (refine And.intro (by k_in) ?_)))
    rw [if_neg (by first | decide | (dsimp only; decide))]
    repeat' ((fail_if_success (with_reducible show wpAny _ _ (PySem.call (PySem.Value.type "bytes") _ _) _ _ _)); (first | (k_unfold; (try dsimp only)) | ((first | (with_reducible show wpAny _ _ _ _ _ _) | (with_reducible show InvPostN _ _ _ _ _ _ _ _ _)); (first | walk1 | (dsimp only; walk1)); (try dsimp only)) | ((with_reducible show (PySem.W.Frag.In _ _ ∧ _)); (refine And.intro (by k_in) ?_))))
    rename Fr _ _ _ _ => F9
    rename News _ _ _ _ => N9
    have hr : ∀ n ∈ out, 0 ≤ n ∧ n < 256 := by
      have := b2aF_range (KBw.bInts b)
      rw [hb] at this
      exact this
    refine bytes_K F9 N9 ⟨_, (N9 _ (.head _)).1, rfl, _, rfl⟩ hI hr (by rw [PySem.sizeLine_eq]; omega) rfl fun h' t9 k9 F10 N10 hA => ?_
    repeat' (first | (k_unfold; (try dsimp only)) | ((first | (with_reducible show wpAny _ _ _ _ _ _) | (with_reducible show InvPostN _ _ _ _ _ _ _ _ _)); (first | walk1 | (dsimp only; walk1)); (try dsimp only)) | ((with_reducible show (PySem.W.Frag.In _ _ ∧ _)); (refine And.intro (by k_in) ?_)))
    exact hret _ _ _ _ F10.keep (allB_back hA)
end
section
local macro_rules | `(tactic| walk_at "eval Name") => `(tactic| ((with_reducible show wpAny _ _ (PySem.eval (PySem.Expr.Name _ _) (PySem.W.envX _ _ _ _ _ _)) _ _ _); (refine nmX ?kx ?kf ?kv ?_; (case kx => decide +kernel); (case kf => with_reducible assumption); (case kv => (try dsimp only [List.reverse, List.reverseAux]); repeat (first | exact kl_hit | exact kb_hit | exact ll_hit | (refine kl_miss (by decide +kernel) ?_) | (refine kc_miss (by decide +kernel) ?_) | (refine kb_miss (by decide +kernel) ?_) | (refine ll_miss (by decide +kernel) ?_))))))
local macro_rules | `(tactic| walk_at "storeName") => `(tactic| ((with_reducible show wpAny _ _ (PySem.storeName (PySem.W.envX _ _ _ _ _ _) _ _) _ _ _); (refine stX ?kx ?kf ?kn ?_; (case kx => decide +kernel); (case kf => with_reducible assumption); (case kn => with_reducible assumption)); (intro h9 F9 N9); (try k_sweep)))
set_option maxRecDepth 100000 in
set_option maxHeartbeats 8000000 in
theorem c_enc (w : World) {p : Program} {loose : List Str} {mean : ExcName → Option Value} {mg mb : Str → Option Value}
    {dp un : Nat} {gd : Option (List Code)} {cn : Str} {cs : Scope} {a : Addr} {ccd : Value} {cl : List (Str × Addr)} {outer : List Env} {A₀ : Around} {base h₀ : Heap} {L : Addr} {m : Str → Option Value} {s : Shared} {Q E : Value → Shared → Prop}
    (B : Below A₀ base outer h₀) (F : Fr h₀ L s.heap m) (X : (hd.heap_39 w.params).In h₀) (T : Top p loose mean mg mb h₀) (hk : cs.kind = .function)
    (hd1 : dp + 12 < recursionLimit) {b : Array UInt8} {t : Tok} {out : List Int} {lc : Int} (hsz : b.size ≤ 1000) (hb : b2aF (KBw.bInts b) = (out, 0, lc))
    (hret : ∀ (r : Array UInt8) (t : Tok) (h' : Heap) (tk' : Nat), Kp s.heap h' → KBw.bInts r = out → Q (.bytes r t) { s with heap := h', toks := tk' }) :
    wpAny (model P0 w) (ktrTop dp un gd cn cs L a ccd cl outer) (call (.ref 94) [.bytes b t]) Q E s := by
  refine enter (binds := [("s", .bytes b t), ("altchars", .none)]) B F X T rfl rfl hk (by k_is) (by k_is) ?room (binds_K (X.keeps F.keep) rfl (by k_is) rfl rfl rfl) (locs rfl) ?_ (by decide) rfl rfl rfl
  · ktr_room
  intro L' h₁ tk F' N' B' X' T'
  (try dsimp only); (try k_unmd); k_fold
  clear B F X T
  repeat' ((fail_if_success (with_reducible show wpAny _ _ (PySem.call (PySem.Value.ref 86) _ _) _ _ _)); (first | (k_unfold; (try dsimp only)) | ((first | (with_reducible show wpAny _ _ _ _ _ _) | (with_reducible show (ite _ _ _ : Prop)) | (with_reducible show InvPostN _ _ _ _ _ _ _ _ _)); (first | walk1 | (dsimp only; walk1)); (try dsimp only)) | ((with_reducible show (PySem.W.Frag.In _ _ ∧ _)); (refine And.intro (by k_in) ?_))))
  rename Fr _ _ _ _ => F3
  rename News _ _ _ _ => N3
  refine c_b2a w B' F3 X' T' rfl (by show dp + 1 + 8 < _; omega) hsz hb fun r t4 h4 tk4 k4 hr => ?_
  replace F3 := kp_fr F3 k4
  replace N3 := kp_news N3 k4
  (try dsimp only)
  repeat' (first | (k_unfold; (try dsimp only)) | ((first | (with_reducible show wpAny _ _ _ _ _ _) | (with_reducible show (ite _ _ _ : Prop)) | (with_reducible show InvPostN _ _ _ _ _ _ _ _ _)); (first | walk1 | (dsimp only; walk1)); (try dsimp only)) | ((with_reducible show (PySem.W.Frag.In _ _ ∧ _)); (refine And.intro (by k_in) ?_)))
  rename Fr _ _ _ _ => F9
  exact hret _ _ _ _ F9.keep hr
end
section
def a2bStep (c : List Int × Int × Int) (k : Int) : List Int × Int × Int :=
  if c.2.1 = 0 then (c.1, 1, b64v k)
  else if c.2.1 = 1 then (c.1 ++ [c.2.2 * 4 + b64v k / 16], 2, b64v k % 16)
  else if c.2.1 = 2 then (c.1 ++ [c.2.2 * 16 + b64v k / 4], 3, b64v k % 4)
  else (c.1 ++ [c.2.2 * 64 + b64v k], 0, 0)
def a2bF (bs : List Int) : List Int × Int × Int := bs.foldl a2bStep ([], 0, 0)
theorem a2bF_step {bs : List Int} {i : Nat} {k : Int} (h : bs[i]? = some k) : a2bF (bs.take (i + 1)) = a2bStep (a2bF (bs.take i)) k := by
  rw [List.take_add_one, h]; simp [a2bF, List.foldl_append]
theorem sh1 {a v : Int} (ha : 0 ≤ a) (h0 : 0 ≤ v) (h1 : v < 64) : Builtin.bitOr (a * 2 ^ Int.toNat 2) (v.fdiv (2 ^ Int.toNat 4)) = a * 4 + v / 16 := by
  rw [Int.fdiv_eq_ediv_of_nonneg _ (by decide)]
  have e : v / 2 ^ Int.toNat 4 = v / 16 := rfl
  rw [e]
  exact or_mul 2 ha (by omega) (by show v / 16 < 4; omega)
theorem sh2 {a v : Int} (ha : 0 ≤ a) (h0 : 0 ≤ v) (h1 : v < 64) : Builtin.bitOr (a * 2 ^ Int.toNat 4) (v.fdiv (2 ^ Int.toNat 2)) = a * 16 + v / 4 := by
  rw [Int.fdiv_eq_ediv_of_nonneg _ (by decide)]
  have e : v / 2 ^ Int.toNat 2 = v / 4 := rfl
  rw [e]
  exact or_mul 4 ha (by omega) (by show v / 4 < 16; omega)
theorem sh3 {a v : Int} (ha : 0 ≤ a) (h0 : 0 ≤ v) (h1 : v < 64) : Builtin.bitOr (a * 2 ^ Int.toNat 6) v = a * 64 + v :=
  or_mul 6 ha h0 (by show v < 64; exact h1)
theorem rng_app {l : List Int} {x : Int} (h : ∀ n ∈ l, 0 ≤ n ∧ n < 256) (h0 : 0 ≤ x) (h1 : x < 256) : ∀ n ∈ l ++ [x], 0 ≤ n ∧ n < 256 := fun n hn => (List.mem_append.mp hn).elim (h n) fun e => by rw [List.mem_singleton.mp e]; exact ⟨h0, h1⟩
structure A2J (bs : List Int) (i : Nat) (vs : List Value) (q lc : Int) : Prop where
  hI : IntsAre vs (a2bF (bs.take i)).1
  hq : q = (a2bF (bs.take i)).2.1
  hlc : lc = (a2bF (bs.take i)).2.2
  q4 : (q = 0) ∨ (q = 1 ∧ lc < 64) ∨ (q = 2 ∧ lc < 16) ∨ (q = 3 ∧ lc < 4)
  lc0 : 0 ≤ lc
  hr : ∀ n ∈ (a2bF (bs.take i)).1, 0 ≤ n ∧ n < 256
  hlen : vs.length ≤ i
set_option maxRecDepth 100000 in
set_option maxHeartbeats 8000000 in
theorem c_a2b (w : World) {p : Program} {loose : List Str} {mean : ExcName → Option Value} {mg mb : Str → Option Value}
    {dp un : Nat} {gd : Option (List Code)} {cn : Str} {cs : Scope} {a : Addr} {ccd : Value} {cl : List (Str × Addr)} {outer : List Env} {A₀ : Around} {base h₀ : Heap} {L : Addr} {m : Str → Option Value} {s : Shared} {Q E : Value → Shared → Prop}
    (B : Below A₀ base outer h₀) (F : Fr h₀ L s.heap m) (X : (hd.heap_39 w.params).In h₀) (T : Top p loose mean mg mb h₀) (hk : cs.kind = .function)
    (hd1 : dp + 8 < recursionLimit) {b : Array UInt8} {t : Tok} {out : List Int} (hsz : b.size ≤ 1000) (hal : ∀ k ∈ KBw.bInts b, k ≠ 61 ∧ 0 ≤ b64v k ∧ b64v k < 64) (hb : a2bF (KBw.bInts b) = (out, 0, 0))
    (hret : ∀ (r : Array UInt8) (t : Tok) (h' : Heap) (tk' : Nat), Kp s.heap h' → KBw.bInts r = out → Q (.bytes r t) { s with heap := h', toks := tk' }) :
    wpAny (model P0 w) (ktrTop dp un gd cn cs L a ccd cl outer) (call (.ref 78) [.bytes b t] [("strict_mode", .bool false)]) Q E s := by
  refine enter (binds := [("data", .bytes b t), ("strict_mode", .bool false)]) B F X T rfl rfl hk (by k_is) (by k_is) ?room (kp_binds (X.keeps F.keep) (by intro S; rfl)) (locs rfl) ?_ (by decide) rfl rfl rfl
  · ktr_room
  intro L' h₁ tk F' N' B' X' T'
  (try dsimp only); (try k_unmd); k_fold
  clear B F X T
  repeat' ((fail_if_success (with_reducible show wpAny _ _ (PySem.call (PySem.Value.ref 49) _ _) _ _ _)); (first | (k_unfold; (try dsimp only)) | ((first | (with_reducible show wpAny _ _ _ _ _ _) | (with_reducible show (ite _ _ _ : Prop)) | (with_reducible show InvPostN _ _ _ _ _ _ _ _ _)); (first | walk1 | (dsimp only; walk1))) | ((with_reducible show (PySem.W.Frag.In _ _ ∧ _)); (refine And.intro (by k_in) ?_))))
  refine c_ascii w B' F' X' T' rfl (by show dp + 1 + 4 < _; omega) fun h3 tk3 k3 => ?_
  replace F' := kp_fr F' k3
  replace N' := kp_news N' k3
  dsimp only
  repeat' ((fail_if_success (with_reducible show wpAny _ _ (PySem.call (PySem.Value.ref 63) _ _) _ _ _)); (first | (k_unfold; (try dsimp only)) | ((first | (with_reducible show wpAny _ _ _ _ _ _) | (with_reducible show (ite _ _ _ : Prop)) | (with_reducible show InvPostN _ _ _ _ _ _ _ _ _)); (first | walk1 | (dsimp only; walk1))) | ((with_reducible show (PySem.W.Frag.In _ _ ∧ _)); (refine And.intro (by k_in) ?_))))
  rename Fr _ _ _ _ => F3
  rename News _ _ _ _ => N3
  refine c_truth w B' F3 X' T' rfl (by show dp + 1 + 4 < _; omega) fun h4 tk4 k4 => ?_
  replace F3 := kp_fr F3 k4
  replace N3 := kp_news N3 k4
  dsimp only
  repeat' ((fail_if_success (with_reducible show wpAny _ _ (PySem.exec (PySem.Stmt.For _ _ _ _ _) _) _ _ _)); (first | (k_unfold; (try dsimp only)) | ((first | (with_reducible show wpAny _ _ _ _ _ _) | (with_reducible show (ite _ _ _ : Prop)) | (with_reducible show InvPostN _ _ _ _ _ _ _ _ _)); (first | walk1 | (dsimp only; walk1))) | ((with_reducible show (PySem.W.Frag.In _ _ ∧ _)); (refine And.intro (by k_in) ?_))))
  refine for_exec ?_
  repeat' ((fail_if_success (with_reducible show wpAny _ _ (PySem.pyIter _) _ _ _)); (first | (k_unfold; (try dsimp only)) | ((first | (with_reducible show wpAny _ _ _ _ _ _) | (with_reducible show (ite _ _ _ : Prop)) | (with_reducible show InvPostN _ _ _ _ _ _ _ _ _)); (first | walk1 | (dsimp only; walk1))) | ((with_reducible show (PySem.W.Frag.In _ _ ∧ _)); (refine And.intro (by k_in) ?_))))
  rename Fr _ _ _ _ => F2
  rename News _ _ _ _ => N2
  dsimp only at F2
  refine for_bytes (σ := (List Value × Nat) × (Int × Nat) × (Int × Nat) × Nat × (Int × Nat)) (fun c => [(_, listOf c.1.1.toArray c.1.2)])
    (fun c => [("quad_pos", .int c.2.1.1 c.2.1.2), ("leftchar", .int c.2.2.1.1 c.2.2.1.2), ("pads", .int 0 c.2.2.2.1), ("i", .int c.2.2.2.2.1 c.2.2.2.2.2)]) ["this_ch"]
    (fun i c => A2J (KBw.bInts b) i c.1.1 c.2.1.1 c.2.2.1.1) (([], 0), (0, ?t1), (0, ?t2), ?t3, (0, ?t4)) rfl F2 N2 ?hk0 ?hj0 ?turn ?done (fun _ _ h => h) (fun _ _ => rfl)
  case hk0 => intro p hp; rcases List.mem_cons.mp hp with rfl | hp; rfl; rcases List.mem_cons.mp hp with rfl | hp; rfl; rcases List.mem_cons.mp hp with rfl | hp; rfl; rcases List.mem_singleton.mp hp with rfl; rfl
  case hj0 => exact ⟨IntsAre.nil, rfl, rfl, .inl rfl, Int.le_refl _, (fun _ h => nomatch h), Nat.le_refl _⟩
  case turn =>
    rintro ⟨⟨vs, n⟩, ⟨q, qt⟩, ⟨lc, lct⟩, pt, ⟨iv, it⟩⟩ i k t' u h tk' own hi hk' hadr hoff ⟨hI, e1, e2, hq4, hlc0, hrr, hvl⟩ F' N'
    clear F2 N2 hadr
    dsimp only at hI e1 e2 hq4 hlc0 hrr hvl F' N' hoff
    obtain ⟨hk61, hv0, hv1⟩ := hal k (List.mem_of_getElem? hk')
    refine wpAny_assign_Name ?_
    repeat' (first | (k_unfold; (try dsimp only)) | ((first | (with_reducible show wpAny _ _ _ _ _ _) | (with_reducible show InvPostN _ _ _ _ _ _ _ _ _)); (first | walk1 | (dsimp only; walk1))) | ((with_reducible show (PySem.W.Frag.In _ _ ∧ _)); (refine And.intro (by k_in) ?_)))
    rw [if_neg (by simpa using hk61)]
    repeat' ((fail_if_success (with_reducible show wpAny _ _ (PySem.call (PySem.Value.ref 70) _ _) _ _ _)); (first | (k_unfold; (try dsimp only)) | ((first | (with_reducible show wpAny _ _ _ _ _ _) | (with_reducible show InvPostN _ _ _ _ _ _ _ _ _)); (first | walk1 | (dsimp only; walk1))) | ((with_reducible show (PySem.W.Frag.In _ _ ∧ _)); (refine And.intro (by k_in) ?_))))
    rename Fr _ _ _ _ => F3
    rename News _ _ _ _ => N3
    refine c_b64v w B' F3 X' T' rfl (by show dp + 1 + 4 < _; omega) fun t5 h5 tk5 k5 => ?_
    replace F3 := kp_fr F3 k5
    replace N3 := kp_news N3 k5
    dsimp only
    generalize hV : b64v k = v at hv0 hv1
    repeat' (first | (k_unfold; (try dsimp only)) | ((first | (with_reducible show wpAny _ _ _ _ _ _) | (with_reducible show InvPostN _ _ _ _ _ _ _ _ _)); (first | walk1 | (dsimp only; walk1))) | ((with_reducible show (PySem.W.Frag.In _ _ ∧ _)); (refine And.intro (by k_in) ?_)))
    rw [if_neg (by simp; omega)]
    repeat' (first | (k_unfold; (try dsimp only)) | ((first | (with_reducible show wpAny _ _ _ _ _ _) | (with_reducible show InvPostN _ _ _ _ _ _ _ _ _)); (first | walk1 | (dsimp only; walk1))) | ((with_reducible show (PySem.W.Frag.In _ _ ∧ _)); (refine And.intro (by k_in) ?_)))
    rw [if_neg (by first | decide | (dsimp only; decide))]
    repeat' (first | (k_unfold; (try dsimp only)) | ((first | (with_reducible show wpAny _ _ _ _ _ _) | (with_reducible show InvPostN _ _ _ _ _ _ _ _ _)); (first | walk1 | (dsimp only; walk1))) | ((with_reducible show (PySem.W.Frag.In _ _ ∧ _)); (refine And.intro (by k_in) ?_)))
    rw [if_neg (by first | decide | (dsimp only; decide))]
    repeat' (first | (k_unfold; (try dsimp only)) | ((first | (with_reducible show wpAny _ _ _ _ _ _) | (with_reducible show InvPostN _ _ _ _ _ _ _ _ _)); (first | walk1 | (dsimp only; walk1))) | ((with_reducible show (PySem.W.Frag.In _ _ ∧ _)); (refine And.intro (by k_in) ?_)))
    have eS := a2bF_step hk'
    rw [a2bStep, ← e1, ← e2, hV] at eS
    rcases hq4 with rfl | ⟨rfl, hlc1⟩ | ⟨rfl, hlc1⟩ | ⟨rfl, hlc1⟩
    · rw [if_pos (by first | decide | (dsimp only; decide))]
      repeat' (first | (k_unfold; (try dsimp only)) | ((first | (with_reducible show wpAny _ _ _ _ _ _) | (with_reducible show InvPostN _ _ _ _ _ _ _ _ _)); (first | walk1 | (dsimp only; walk1))) | ((with_reducible show (PySem.W.Frag.In _ _ ∧ _)); (refine And.intro (by k_in) ?_)))
      rename Fr _ _ _ _ => F8
      rename News _ _ _ _ => N8
      rw [if_pos rfl] at eS
      refine ks_end ((vs, _), (1, _), (v, _), _, (_, _)) F8 N8 (List.forall_mem_cons.mpr ⟨.head _, List.forall_mem_nil _⟩) (fun p hp => .tail _ hp) rfl (by intro p hp; rcases List.mem_cons.mp hp with rfl | hp; rfl; rcases List.mem_cons.mp hp with rfl | hp; rfl; rcases List.mem_cons.mp hp with rfl | hp; rfl; rcases List.mem_singleton.mp hp with rfl; rfl) (fun z h1 h2 => by have h3 := h1 _ (.head _); have h4 := h1 _ (.tail _ (.head _)); have h5 := h1 _ (.tail _ (.tail _ (.head _))); have h6 := h1 _ (.tail _ (.tail _ (.tail _ (.head _)))); simp_all [KM, kstB]) ?_
      exact ⟨by rw [eS]; exact hI, by rw [eS], by rw [eS], .inr (.inl ⟨rfl, hv1⟩), hv0, by rw [eS]; exact hrr, by show vs.length ≤ i + 1; omega⟩
    · rw [if_neg (by first | decide | (dsimp only; decide))]
      repeat' (first | (k_unfold; (try dsimp only)) | ((first | (with_reducible show wpAny _ _ _ _ _ _) | (with_reducible show InvPostN _ _ _ _ _ _ _ _ _)); (first | walk1 | (dsimp only; walk1))) | ((with_reducible show (PySem.W.Frag.In _ _ ∧ _)); (refine And.intro (by k_in) ?_)))
      rw [if_pos (by first | decide | (dsimp only; decide))]
      rw [if_neg (by decide), if_pos rfl] at eS
      repeat' ((fail_if_success (with_reducible show wpAny _ _ (PySem.call (PySem.Value.builtin "list.append") _ _) _ _ _)); (first | (k_unfold; (try dsimp only)) | ((first | (with_reducible show wpAny _ _ _ _ _ _) | (with_reducible show InvPostN _ _ _ _ _ _ _ _ _)); (first | walk1 | (dsimp only; walk1))) | ((with_reducible show (PySem.W.Frag.In _ _ ∧ _)); (refine And.intro (by k_in) ?_))))
      rename Fr _ _ _ _ => F6
      rename News _ _ _ _ => N6
      refine append_M (rest := own) F6 N6 (fun p hp => hoff p hp _ (.head _)) (by omega) fun h7 F7 N7 => ?_
      dsimp only
      clear F6 N6
      rw [sh1 hlc0 hv0 hv1] at N7
      repeat' (first | (k_unfold; (try dsimp only)) | ((first | (with_reducible show wpAny _ _ _ _ _ _) | (with_reducible show InvPostN _ _ _ _ _ _ _ _ _)); (first | walk1 | (dsimp only; walk1))) | ((with_reducible show (PySem.W.Frag.In _ _ ∧ _)); (refine And.intro (by k_in) ?_)))
      rename Fr _ _ _ _ => F8
      rename News _ _ _ _ => N8
      rw [bitAnd_m4] at F8
      refine ks_end ((vs ++ [_], _), (2, _), (v % 16, _), _, (_, _)) F8 N8 (List.forall_mem_cons.mpr ⟨.head _, List.forall_mem_nil _⟩) (fun p hp => .tail _ hp) rfl (by intro p hp; rcases List.mem_cons.mp hp with rfl | hp; rfl; rcases List.mem_cons.mp hp with rfl | hp; rfl; rcases List.mem_cons.mp hp with rfl | hp; rfl; rcases List.mem_singleton.mp hp with rfl; rfl) (fun z h1 h2 => by have h3 := h1 _ (.head _); have h4 := h1 _ (.tail _ (.head _)); have h5 := h1 _ (.tail _ (.tail _ (.head _))); have h6 := h1 _ (.tail _ (.tail _ (.tail _ (.head _)))); simp_all [KM, kstB]) ?_
      exact ⟨by rw [eS]; exact hI.append (.cons _ _ .nil), by rw [eS], by rw [eS], .inr (.inr (.inl ⟨rfl, by show v % 16 < 16; omega⟩)), by show 0 ≤ v % 16; omega, by rw [eS]; exact rng_app hrr (by omega) (by omega), by simp; omega⟩
    · rw [if_neg (by first | decide | (dsimp only; decide))]
      repeat' (first | (k_unfold; (try dsimp only)) | ((first | (with_reducible show wpAny _ _ _ _ _ _) | (with_reducible show InvPostN _ _ _ _ _ _ _ _ _)); (first | walk1 | (dsimp only; walk1))) | ((with_reducible show (PySem.W.Frag.In _ _ ∧ _)); (refine And.intro (by k_in) ?_)))
      rw [if_neg (by first | decide | (dsimp only; decide))]
      repeat' (first | (k_unfold; (try dsimp only)) | ((first | (with_reducible show wpAny _ _ _ _ _ _) | (with_reducible show InvPostN _ _ _ _ _ _ _ _ _)); (first | walk1 | (dsimp only; walk1))) | ((with_reducible show (PySem.W.Frag.In _ _ ∧ _)); (refine And.intro (by k_in) ?_)))
      rw [if_pos (by first | decide | (dsimp only; decide))]
      rw [if_neg (by decide), if_neg (by decide), if_pos rfl] at eS
      repeat' ((fail_if_success (with_reducible show wpAny _ _ (PySem.call (PySem.Value.builtin "list.append") _ _) _ _ _)); (first | (k_unfold; (try dsimp only)) | ((first | (with_reducible show wpAny _ _ _ _ _ _) | (with_reducible show InvPostN _ _ _ _ _ _ _ _ _)); (first | walk1 | (dsimp only; walk1))) | ((with_reducible show (PySem.W.Frag.In _ _ ∧ _)); (refine And.intro (by k_in) ?_))))
      rename Fr _ _ _ _ => F6
      rename News _ _ _ _ => N6
      refine append_M (rest := own) F6 N6 (fun p hp => hoff p hp _ (.head _)) (by omega) fun h7 F7 N7 => ?_
      dsimp only
      clear F6 N6
      rw [sh2 hlc0 hv0 hv1] at N7
      repeat' (first | (k_unfold; (try dsimp only)) | ((first | (with_reducible show wpAny _ _ _ _ _ _) | (with_reducible show InvPostN _ _ _ _ _ _ _ _ _)); (first | walk1 | (dsimp only; walk1))) | ((with_reducible show (PySem.W.Frag.In _ _ ∧ _)); (refine And.intro (by k_in) ?_)))
      rename Fr _ _ _ _ => F8
      rename News _ _ _ _ => N8
      rw [bitAnd_m2] at F8
      refine ks_end ((vs ++ [_], _), (3, _), (v % 4, _), _, (_, _)) F8 N8 (List.forall_mem_cons.mpr ⟨.head _, List.forall_mem_nil _⟩) (fun p hp => .tail _ hp) rfl (by intro p hp; rcases List.mem_cons.mp hp with rfl | hp; rfl; rcases List.mem_cons.mp hp with rfl | hp; rfl; rcases List.mem_cons.mp hp with rfl | hp; rfl; rcases List.mem_singleton.mp hp with rfl; rfl) (fun z h1 h2 => by have h3 := h1 _ (.head _); have h4 := h1 _ (.tail _ (.head _)); have h5 := h1 _ (.tail _ (.tail _ (.head _))); have h6 := h1 _ (.tail _ (.tail _ (.tail _ (.head _)))); simp_all [KM, kstB]) ?_
      exact ⟨by rw [eS]; exact hI.append (.cons _ _ .nil), by rw [eS], by rw [eS], .inr (.inr (.inr ⟨rfl, by show v % 4 < 4; omega⟩)), by show 0 ≤ v % 4; omega, by rw [eS]; exact rng_app hrr (by omega) (by omega), by simp; omega⟩
    · rw [if_neg (by first | decide | (dsimp only; decide))]
      repeat' (first | (k_unfold; (try dsimp only)) | ((first | (with_reducible show wpAny _ _ _ _ _ _) | (with_reducible show InvPostN _ _ _ _ _ _ _ _ _)); (first | walk1 | (dsimp only; walk1))) | ((with_reducible show (PySem.W.Frag.In _ _ ∧ _)); (refine And.intro (by k_in) ?_)))
      rw [if_neg (by first | decide | (dsimp only; decide))]
      repeat' (first | (k_unfold; (try dsimp only)) | ((first | (with_reducible show wpAny _ _ _ _ _ _) | (with_reducible show InvPostN _ _ _ _ _ _ _ _ _)); (first | walk1 | (dsimp only; walk1))) | ((with_reducible show (PySem.W.Frag.In _ _ ∧ _)); (refine And.intro (by k_in) ?_)))
      rw [if_neg (by first | decide | (dsimp only; decide))]
      rw [if_neg (by decide), if_neg (by decide), if_neg (by decide)] at eS
      repeat' ((fail_if_success (with_reducible show wpAny _ _ (PySem.call (PySem.Value.builtin "list.append") _ _) _ _ _)); (first | (k_unfold; (try dsimp only)) | ((first | (with_reducible show wpAny _ _ _ _ _ _) | (with_reducible show InvPostN _ _ _ _ _ _ _ _ _)); (first | walk1 | (dsimp only; walk1))) | ((with_reducible show (PySem.W.Frag.In _ _ ∧ _)); (refine And.intro (by k_in) ?_))))
      rename Fr _ _ _ _ => F6
      rename News _ _ _ _ => N6
      refine append_M (rest := own) F6 N6 (fun p hp => hoff p hp _ (.head _)) (by omega) fun h7 F7 N7 => ?_
      dsimp only
      clear F6 N6
      rw [sh3 hlc0 hv0 hv1] at N7
      repeat' (first | (k_unfold; (try dsimp only)) | ((first | (with_reducible show wpAny _ _ _ _ _ _) | (with_reducible show InvPostN _ _ _ _ _ _ _ _ _)); (first | walk1 | (dsimp only; walk1))) | ((with_reducible show (PySem.W.Frag.In _ _ ∧ _)); (refine And.intro (by k_in) ?_)))
      rename Fr _ _ _ _ => F8
      rename News _ _ _ _ => N8
      refine ks_end ((vs ++ [_], _), (0, _), (0, _), _, (_, _)) F8 N8 (List.forall_mem_cons.mpr ⟨.head _, List.forall_mem_nil _⟩) (fun p hp => .tail _ hp) rfl (by intro p hp; rcases List.mem_cons.mp hp with rfl | hp; rfl; rcases List.mem_cons.mp hp with rfl | hp; rfl; rcases List.mem_cons.mp hp with rfl | hp; rfl; rcases List.mem_singleton.mp hp with rfl; rfl) (fun z h1 h2 => by have h3 := h1 _ (.head _); have h4 := h1 _ (.tail _ (.head _)); have h5 := h1 _ (.tail _ (.tail _ (.head _))); have h6 := h1 _ (.tail _ (.tail _ (.tail _ (.head _)))); simp_all [KM, kstB]) ?_
      exact ⟨by rw [eS]; exact hI.append (.cons _ _ .nil), by rw [eS], by rw [eS], .inl rfl, Int.le_refl _, by rw [eS]; exact rng_app hrr (by omega) (by omega), by simp; omega⟩
  case done =>
    rintro ⟨⟨vs, n⟩, ⟨q, qt⟩, ⟨lc, lct⟩, pt, ⟨iv, it⟩⟩ u h tk' ⟨hI, e1, e2, hq4, hlc0, hrr, hvl⟩ F' N'
    clear F2 N2
    dsimp only at hI e1 e2 hq4 hlc0 hrr hvl F' N'
    have ht : (KBw.bInts b).take b.size = KBw.bInts b := List.take_of_length_le (by rw [KBw.ints_length]; exact Nat.le_refl _)
    rw [ht, hb] at hI e1 e2 hrr
    dsimp only at hI e1 e2 hrr
    subst e1
    repeat' (first | (k_unfold; (try dsimp only)) | ((first | (with_reducible show wpAny _ _ _ _ _ _) | (with_reducible show InvPostN _ _ _ _ _ _ _ _ _)); (first | walk1 | (dsimp only; walk1))) | ((with_reducible show (PySem.W.Frag.In _ _ ∧ _)); (refine And.intro (by k_in) ?_)))
    rw [if_neg (by first | decide | (dsimp only; decide))]
    repeat' (first | (k_unfold; (try dsimp only)) | ((first | (with_reducible show wpAny _ _ _ _ _ _) | (with_reducible show InvPostN _ _ _ _ _ _ _ _ _)); (first | walk1 | (dsimp only; walk1))) | ((with_reducible show (PySem.W.Frag.In _ _ ∧ _)); (refine And.intro (by k_in) ?_)))
    rw [if_neg (by first | decide | (dsimp only; decide))]
    repeat' (first | (k_unfold; (try dsimp only)) | ((first | (with_reducible show wpAny _ _ _ _ _ _) | (with_reducible show InvPostN _ _ _ _ _ _ _ _ _)); (first | walk1 | (dsimp only; walk1))) | ((with_reducible show (PySem.W.Frag.In _ _ ∧ _)); (refine And.intro (by k_in) ?_)))
    rw [if_neg (by first | decide | (dsimp only; decide))]
    repeat' ((fail_if_success (with_reducible show wpAny _ _ (PySem.call (PySem.Value.type "bytes") _ _) _ _ _)); (first | (k_unfold; (try dsimp only)) | ((first | (with_reducible show wpAny _ _ _ _ _ _) | (with_reducible show InvPostN _ _ _ _ _ _ _ _ _)); (first | walk1 | (dsimp only; walk1))) | ((with_reducible show (PySem.W.Frag.In _ _ ∧ _)); (refine And.intro (by k_in) ?_))))
    rename Fr _ _ _ _ => F9
    rename News _ _ _ _ => N9
    refine bytes_K F9 N9 ⟨_, (N9 _ (.head _)).1, rfl, _, rfl⟩ hI hrr (by rw [PySem.sizeLine_eq]; omega) rfl fun h' t9 k9 F10 N10 hA => ?_
    repeat' (first | (k_unfold; (try dsimp only)) | ((first | (with_reducible show wpAny _ _ _ _ _ _) | (with_reducible show InvPostN _ _ _ _ _ _ _ _ _)); (first | walk1 | (dsimp only; walk1))) | ((with_reducible show (PySem.W.Frag.In _ _ ∧ _)); (refine And.intro (by k_in) ?_)))
    exact hret _ _ _ _ F10.keep (allB_back hA)
set_option maxRecDepth 100000 in
set_option maxHeartbeats 8000000 in
theorem c_dec (w : World) {p : Program} {loose : List Str} {mean : ExcName → Option Value} {mg mb : Str → Option Value}
    {dp un : Nat} {gd : Option (List Code)} {cn : Str} {cs : Scope} {a : Addr} {ccd : Value} {cl : List (Str × Addr)} {outer : List Env} {A₀ : Around} {base h₀ : Heap} {L : Addr} {m : Str → Option Value} {s : Shared} {Q E : Value → Shared → Prop}
    (B : Below A₀ base outer h₀) (F : Fr h₀ L s.heap m) (X : (hd.heap_39 w.params).In h₀) (T : Top p loose mean mg mb h₀) (hk : cs.kind = .function)
    (hd1 : dp + 12 < recursionLimit) {x : Str} {t : Tok} {out : List Int} (hx : ∀ c ∈ x.cps, c < 128) (hlen : x.cps.size ≤ 1000) (hal : ∀ k ∈ KBw.bInts (encA x), k ≠ 61 ∧ 0 ≤ b64v k ∧ b64v k < 64) (hb : a2bF (KBw.bInts (encA x)) = (out, 0, 0))
    (hret : ∀ (r : Array UInt8) (t : Tok) (h' : Heap) (tk' : Nat), Kp s.heap h' → KBw.bInts r = out → Q (.bytes r t) { s with heap := h', toks := tk' }) :
    wpAny (model P0 w) (ktrTop dp un gd cn cs L a ccd cl outer) (call (.ref 102) [.str x t]) Q E s := by
  refine enter (binds := [("s", .str x t), ("altchars", .none), ("validate", .bool false)]) B F X T rfl rfl hk (by k_is) (by k_is) ?room (binds_K (X.keeps F.keep) rfl (by k_is) rfl rfl rfl) (locs rfl) ?_ (by decide) rfl rfl rfl
  · ktr_room
  intro L' h₁ tk F' N' B' X' T'
  (try dsimp only); (try k_unmd); k_fold
  clear B F X T
  repeat' ((fail_if_success (with_reducible show wpAny _ _ (PySem.call (PySem.Value.ref 29) _ _) _ _ _)); (first | (k_unfold; (try dsimp only)) | ((first | (with_reducible show wpAny _ _ _ _ _ _) | (with_reducible show (ite _ _ _ : Prop)) | (with_reducible show InvPostN _ _ _ _ _ _ _ _ _)); (first | walk1 | (dsimp only; walk1))) | ((with_reducible show (PySem.W.Frag.In _ _ ∧ _)); (refine And.intro (by k_in) ?_))))
  refine c_from w B' F' X' T' rfl (by show dp + 1 + 4 < _; omega) hx hlen fun t3 h3 tk3 k3 => ?_
  replace F' := kp_fr F' k3
  replace N' := kp_news N' k3
  dsimp only
  repeat' ((fail_if_success (with_reducible show wpAny _ _ (PySem.call (PySem.Value.ref 78) _ _) _ _ _)); (first | (k_unfold; (try dsimp only)) | ((first | (with_reducible show wpAny _ _ _ _ _ _) | (with_reducible show (ite _ _ _ : Prop)) | (with_reducible show InvPostN _ _ _ _ _ _ _ _ _)); (first | walk1 | (dsimp only; walk1))) | ((with_reducible show (PySem.W.Frag.In _ _ ∧ _)); (refine And.intro (by k_in) ?_))))
  rename Fr _ _ _ _ => F3
  rename News _ _ _ _ => N3
  refine c_a2b w B' F3 X' T' rfl (by show dp + 1 + 8 < _; omega) (by simpa [encA] using hlen) hal hb fun r t4 h4 tk4 k4 hr => ?_
  replace F3 := kp_fr F3 k4
  replace N3 := kp_news N3 k4
  dsimp only
  repeat' (first | (k_unfold; (try dsimp only)) | ((first | (with_reducible show wpAny _ _ _ _ _ _) | (with_reducible show (ite _ _ _ : Prop)) | (with_reducible show InvPostN _ _ _ _ _ _ _ _ _)); (first | walk1 | (dsimp only; walk1))) | ((with_reducible show (PySem.W.Frag.In _ _ ∧ _)); (refine And.intro (by k_in) ?_)))
  exact hret _ _ _ _ F3.keep hr
end
section
/-- the names hold what is told -/
def Nam (m : Str → Option Value) (ps : List (Str × Value)) : Prop := ∀ p ∈ ps, m p.1 = some p.2
theorem nam0 {m : Str → Option Value} : Nam m [] := fun _ h => nomatch h
theorem nam1 {m : Str → Option Value} {a : Str × Value} (h1 : m a.1 = some a.2) : Nam m [a] := fun p hp => by rw [List.mem_singleton.mp hp]; exact h1
theorem namC {m : Str → Option Value} {a : Str × Value} {l : List (Str × Value)} (h1 : m a.1 = some a.2) (h : Nam m l) : Nam m (a :: l) := fun p hp => by
  rcases List.mem_cons.mp hp with rfl | hp
  · exact h1
  · exact h p hp
theorem nam2 {m : Str → Option Value} {a b : Str × Value} (h1 : m a.1 = some a.2) (h2 : m b.1 = some b.2) : Nam m [a, b] := namC h1 (nam1 h2)
theorem nam3 {m : Str → Option Value} {a b c : Str × Value} (h1 : m a.1 = some a.2) (h2 : m b.1 = some b.2) (h3 : m c.1 = some c.2) : Nam m [a, b, c] := namC h1 (nam2 h2 h3)
theorem nam4 {m : Str → Option Value} {a b c d : Str × Value} (h1 : m a.1 = some a.2) (h2 : m b.1 = some b.2) (h3 : m c.1 = some c.2) (h4 : m d.1 = some d.2) : Nam m [a, b, c, d] := namC h1 (nam3 h2 h3 h4)
theorem nam5 {m : Str → Option Value} {a b c d e : Str × Value} (h1 : m a.1 = some a.2) (h2 : m b.1 = some b.2) (h3 : m c.1 = some c.2) (h4 : m d.1 = some d.2) (h5 : m e.1 = some e.2) : Nam m [a, b, c, d, e] := namC h1 (nam4 h2 h3 h4 h5)
theorem led_head {g h : Heap} {L a : Addr} {o : Obj} {r : List (Addr × Obj)} (_N : News g L h ((a, o) :: r)) : ∃ lo, lo = a := ⟨_, rfl⟩
/-- the state of a loop: as KS, every name that is not told is forgotten -/
def KN {σ : Type} (Led : σ → List (Addr × Obj)) (ps : σ → List (Str × Value)) (P : σ → Prop) (m : Str → Option Value) (nx : List (Addr × Obj)) : Prop :=
  ∃ c : σ, nx = Led c ∧ Nam m (ps c) ∧ P c
theorem kstB_self {ps : List (Str × Value)} {m : Str → Option Value} (h1 : Nam m ps) : kstB m ps = m := by
  funext y
  exact kstB_eq h1 fun _ => rfl
theorem fr_pick {g h : Heap} {L : Addr} {m : Str → Option Value} {ps : List (Str × Value)} (F : Fr g L h m) (h1 : Nam m ps) : ∃ m₀, Fr g L h (kstB m₀ ps) :=
  ⟨m, by rw [kstB_self h1]; exact F⟩
theorem kn_end {σ : Type} {h₀ : Heap} {Led : σ → List (Addr × Obj)} {ps : σ → List (Str × Value)} {P : σ → Prop} (c : σ) {L : Addr} {m' : Str → Option Value} {own news' : List (Addr × Obj)} {adr : List Addr} {s₁ : Shared} {h' : Heap} {tk : Nat}
    (F : Fr h₀ L h' m') (N : News h₀ L h' news') (hn : ∀ p ∈ Led c, p ∈ news') (ho : ∀ p ∈ own, p ∈ news') (ha : (Led c).map (·.1) = adr) (hk : Nam m' (ps c)) (hp : P c) :
    InvEndN h₀ L (KN Led ps P) own adr s₁ { s₁ with heap := h', toks := tk } :=
  InvEndN.intro F N ⟨c, rfl, hk, hp⟩ ha hn ho
section
variable {prog : Program} {w : World} {A : Around} {s : Shared} {env : Env} {h₀ : Heap} {target : Expr} {body : List Stmt} {Q : Flow → Shared → Prop}
theorem loop_kn {σ : Type} {I : Addr} {fp wr : List Addr} {n : Nat} {P : Nat → Value → Prop} {St : Nat → Heap → Prop} {m₀ : Str → Option Value} {R : Result → Shared → Prop} (Led : σ → List (Addr × Obj)) (ps : σ → List (Str × Value)) (J : Nat → σ → Prop) (c₀ : σ)
    (W : Walks prog w A I fp wr n P St) (hLf : env.locals ∉ fp) (hwr : ∀ b ∈ wr, h₀.get? b = none) (hfp : ∀ q ∈ Led c₀, q.1 ∉ fp) (hst : St 0 s.heap) (F : Fr h₀ env.locals s.heap m₀) (N : News h₀ env.locals s.heap (Led c₀)) (hk : Nam m₀ (ps c₀)) (hj : J 0 c₀)
    (turn : ∀ (c : σ) i v (u : Str → Option Value) h tk own, i < n → P i v → (Led c).map (·.1) = (Led c₀).map (·.1) → OwnOff own ((Led c₀).map (·.1)) → J i c → Fr h₀ env.locals h (kstB u (ps c)) → News h₀ env.locals h (Led c ++ own) →
      wpAny (model prog w) A (assign target env v) (fun _ s₂ => wpAny (model prog w) A (execs body env) (InvPostN h₀ env.locals (KN Led ps (J (i + 1))) own ((Led c₀).map (·.1)) { s with heap := h, toks := tk } Q) (fun _ _ => False) s₂) (fun _ _ => False) { s with heap := h, toks := tk })
    (done : ∀ (c : σ) (u : Str → Option Value) h tk, J n c → Fr h₀ env.locals h (kstB u (ps c)) → News h₀ env.locals h (Led c) → Q .next { s with heap := h, toks := tk })
    (hR : ∀ f s', Q f s' → R (.ok f) s') (ht : ∀ v, letOwnedTupleGo target (.ref I) v = pure ()) :
    codeAny (model prog w) A (.forLoop target (.ref I) body [] env) R s := by
  refine loop_gen (news := Led c₀) (fun i m nx => KN Led ps (J i) m nx) W hLf hwr hfp hst F N ⟨c₀, rfl, hk, hj⟩ ?_ ?_ hR ht
  · rintro i v m₁ nx h tk own hi hP hadr hoff ⟨c, rfl, h1, hJ⟩ F₁ N₁
    exact turn c i v m₁ h tk own hi hP hadr hoff hJ (by rw [kstB_self h1]; exact F₁) N₁
  · rintro m₁ nx h tk ⟨c, rfl, h1, hJ⟩ F₁ N₁
    exact done c m₁ h tk hJ (by rw [kstB_self h1]; exact F₁) N₁
/-- for x in range(..) -/
theorem for_rangeN {σ : Type} {r : Addr} {a₀ b₀ : Int} {t₀ u₀ v₀ : Tok} {n : Nat} {m₀ : Str → Option Value} {R : Result → Shared → Prop} (Led : σ → List (Addr × Obj)) (ps : σ → List (Str × Value)) (J : Nat → σ → Prop) (c₀ : σ)
    (hh : A.handled = none) (hr : IsRange s.heap r a₀ b₀ 1 t₀ u₀ v₀) (hsmall : Builtin.Range.small a₀ b₀ 1 = true) (hn : Builtin.Range.rangeSize a₀ b₀ 1 = (n : Int)) (F : Fr h₀ env.locals s.heap m₀) (N : News h₀ env.locals s.heap (Led c₀)) (hk : Nam m₀ (ps c₀)) (hj : J 0 c₀)
    (turn : ∀ (c : σ) (i : Nat) t (u : Str → Option Value) h tk own, i < n → (Led c).map (·.1) = (Led c₀).map (·.1) → OwnOff own ((Led c₀).map (·.1)) → J i c → Fr h₀ env.locals h (kstB u (ps c)) → News h₀ env.locals h (Led c ++ own) →
      wpAny (model prog w) A (assign target env (.int (a₀ + (i : Int)) t)) (fun _ s₂ => wpAny (model prog w) A (execs body env) (InvPostN h₀ env.locals (KN Led ps (J (i + 1))) own ((Led c₀).map (·.1)) { s with heap := h, toks := tk } Q) (fun _ _ => False) s₂) (fun _ _ => False) { s with heap := h, toks := tk })
    (done : ∀ (c : σ) (u : Str → Option Value) h tk, J n c → Fr h₀ env.locals h (kstB u (ps c)) → News h₀ env.locals h (Led c) → Q .next { s with heap := h, toks := tk })
    (hR : ∀ f s', Q f s' → R (.ok f) s') (ht : ∀ I v, letOwnedTupleGo target (.ref I) v = pure ()) :
    wpAny (model prog w) A (pyIter (.ref r)) (fun it s₂ => codeAny (model prog w) A (.forLoop target it body [] env) R s₂) (fun _ _ => False) s := by
  refine wpAny_pyIter_range hr hsmall ?_
  have W : Walks prog w A s.heap.objs.size [s.heap.objs.size] [s.heap.objs.size] n (fun i v => ∃ t, v = .int (a₀ + i * 1) t)
      (fun i h => IsRangeIter h s.heap.objs.size (a₀ + (i : Nat) * 1) ((n : Int) - (i : Nat)) 1) := Walks.range hh _ a₀ 1 n
  refine loop_kn Led ps J c₀ W ?_ ?_ ?_ (by show IsRangeIter _ _ _ _ _; rw [hn]; simpa using Heap.get?_push_size _ rfl) (F.push _) (fun p hp => ⟨Heap.get?_push_of_some _ (N p hp).1, (N p hp).2⟩) hk hj ?_ done hR (ht _)
  · intro hm
    exact absurd F.ns.lt ((List.mem_singleton.mp hm) ▸ Nat.lt_irrefl _)
  · intro b hb
    rw [List.mem_singleton.mp hb]
    exact next_is_new F
  · intro p hp hI
    exact absurd (Heap.lt_size (N p hp).1) ((List.mem_singleton.mp hI) ▸ Nat.lt_irrefl _)
  · rintro c i v u h tk own hi ⟨t, rfl⟩ hadr hoff hJ F₁ N₁
    have e1 : a₀ + (i : Int) * 1 = a₀ + (i : Int) := by omega
    rw [e1]
    exact turn c i t u h tk own hi hadr hoff hJ F₁ N₁
/-- for x in a list, any items -/
theorem for_listN {σ : Type} {l : Addr} {items : Array Value} {m₀ : Str → Option Value} {R : Result → Shared → Prop} (Led : σ → List (Addr × Obj)) (ps : σ → List (Str × Value)) (J : Nat → σ → Prop) (c₀ : σ)
    (hh : A.handled = none) (hl : s.heap.IsList l items) (hlL : l ≠ env.locals) (hlN : ∀ q ∈ Led c₀, q.1 ≠ l) (F : Fr h₀ env.locals s.heap m₀) (N : News h₀ env.locals s.heap (Led c₀)) (hk : Nam m₀ (ps c₀)) (hj : J 0 c₀)
    (turn : ∀ (c : σ) (i : Nat) v (u : Str → Option Value) h tk own, i < items.size → items[i]? = some v → (Led c).map (·.1) = (Led c₀).map (·.1) → OwnOff own ((Led c₀).map (·.1)) → J i c → Fr h₀ env.locals h (kstB u (ps c)) → News h₀ env.locals h (Led c ++ own) →
      wpAny (model prog w) A (assign target env v) (fun _ s₂ => wpAny (model prog w) A (execs body env) (InvPostN h₀ env.locals (KN Led ps (J (i + 1))) own ((Led c₀).map (·.1)) { s with heap := h, toks := tk } Q) (fun _ _ => False) s₂) (fun _ _ => False) { s with heap := h, toks := tk })
    (done : ∀ (c : σ) (u : Str → Option Value) h tk, J items.size c → Fr h₀ env.locals h (kstB u (ps c)) → News h₀ env.locals h (Led c) → Q .next { s with heap := h, toks := tk })
    (hR : ∀ f s', Q f s' → R (.ok f) s') (ht : ∀ I v, letOwnedTupleGo target (.ref I) v = pure ()) :
    wpAny (model prog w) A (pyIter (.ref l)) (fun it s₂ => codeAny (model prog w) A (.forLoop target it body [] env) R s₂) (fun _ _ => False) s := by
  refine wpAny_pyIter_list hl ?_
  have hlt : l < s.heap.objs.size := by obtain ⟨o, ho, _⟩ := id hl; exact Heap.lt_size ho
  have hne : l ≠ s.heap.objs.size := Nat.ne_of_lt hlt
  have W := Walks.list (prog := prog) (w := w) hh s.heap.objs.size l hne items
  refine loop_kn Led ps J c₀ W ?_ ?_ ?_ ⟨⟨_, Heap.get?_push_size _ rfl, rfl, rfl⟩, hl.at fun o e => Heap.get?_push_of_some _ e⟩ (F.push _) (fun p hp => ⟨Heap.get?_push_of_some _ (N p hp).1, (N p hp).2⟩) hk hj ?_ done hR (ht _)
  · intro hm
    rcases List.mem_cons.mp hm with e | hm
    · exact absurd F.ns.lt (e ▸ Nat.lt_irrefl _)
    · exact hlL (List.mem_singleton.mp hm).symm
  · intro b hb
    rw [List.mem_singleton.mp hb]
    exact next_is_new F
  · intro p hp hI
    rcases List.mem_cons.mp hI with e | hm
    · exact absurd (Heap.lt_size (N p hp).1) (e ▸ Nat.lt_irrefl _)
    · exact hlN p hp (List.mem_singleton.mp hm)
  · rintro c i v u h tk own hi hv hadr hoff hJ F₁ N₁
    exact turn c i v u h tk own hi hv hadr hoff hJ F₁ N₁
end
end
section
local macro_rules | `(tactic| walk_at "eval Name") => `(tactic| ((with_reducible show wpAny _ _ (PySem.eval (PySem.Expr.Name _ _) (PySem.W.envX _ _ _ _ _ _)) _ _ _); (refine nmX ?kx ?kf ?kv ?_; (case kx => decide +kernel); (case kf => with_reducible assumption); (case kv => (try dsimp only [List.reverse, List.reverseAux]); repeat (first | exact kl_hit | exact kb_hit | exact ll_hit | (refine kl_miss (by decide +kernel) ?_) | (refine kc_miss (by decide +kernel) ?_) | (refine kb_miss (by decide +kernel) ?_) | (refine ll_miss (by decide +kernel) ?_))))))
local macro_rules | `(tactic| walk_at "storeName") => `(tactic| ((with_reducible show wpAny _ _ (PySem.storeName (PySem.W.envX _ _ _ _ _ _) _ _) _ _ _); (refine stX ?kx ?kf ?kn ?_; (case kx => decide +kernel); (case kf => with_reducible assumption); (case kn => with_reducible assumption)); (intro h9 F9 N9); (try k_sweep)))
local macro_rules | `(tactic| walk_at "eval Name") => `(tactic| ((with_reducible show wpAny _ _ (PySem.eval (PySem.Expr.Name _ _) (PySem.compEnvC _ _ _ _)) _ _ _); (refine nm_loc (by assumption) (by rfl) ?_)))
theorem sgn_mem {k : Int} (h0 : 0 ≤ k) (h1 : k < 64) : sgn k ∈ sgnL := by
  unfold sgn
  rw [List.getD_eq_getElem?_getD]
  have hl : sgnL.length = 64 := by decide +kernel
  have hk : k.toNat < sgnL.length := by omega
  rw [List.getElem?_eq_getElem hk]
  exact List.getElem_mem hk
theorem b2aF_mem (bs : List Int) : ∀ n ∈ (b2aF bs).1, n ∈ sgnL := by
  have key : ∀ (bs : List Int) (c : List Int × Int × Int), (∀ n ∈ c.1, n ∈ sgnL) → ∀ n ∈ (bs.foldl b2aStep c).1, n ∈ sgnL := by
    intro bs
    induction bs with
    | nil => intro c h; exact h
    | cons b r ih =>
      intro c h
      refine ih _ ?_
      intro n hn
      unfold b2aStep at hn
      (try dsimp only at hn)
      split at hn
      · rcases List.mem_append.mp hn with h1 | h1
        · exact h n h1
        · rw [List.mem_singleton.mp h1]; exact sgn_mem (by omega) (by omega)
      · split at hn
        · rcases List.mem_append.mp hn with h1 | h1
          · exact h n h1
          · rw [List.mem_singleton.mp h1]; exact sgn_mem (by omega) (by omega)
        · rcases List.mem_append.mp hn with h1 | h1
          · exact h n h1
          · rcases List.mem_cons.mp h1 with rfl | h1
            · exact sgn_mem (by omega) (by omega)
            · rw [List.mem_singleton.mp h1]; exact sgn_mem (by omega) (by omega)
  exact key bs _ (fun _ h => nomatch h)
theorem find_sgn : ∀ k ∈ sgnL, 0 ≤ k ∧ k < 256 ∧ Txt.find (Str.ofString "ABCDEFGHIJKLMNOPQRSTUVWXYZabcdefghijklmnopqrstuvwxyz0123456789+/") ⟨#[k.toNat]⟩ = b64v k ∧ 0 ≤ b64v k ∧ b64v k < 64 := by decide +kernel
theorem filter_all (l : List Int) : l.filter (fun _ => true) = l := List.filter_eq_self.mpr fun _ _ => rfl
def oct3 (w : Int) : List Int := [w.fdiv 65536, (w.fdiv 256).fmod 256, w.fmod 256]
theorem oct3_len (ws : List Int) (i : Nat) : ((ws.take i).flatMap oct3).length ≤ 3 * i := by
  have key : ∀ l : List Int, (l.flatMap oct3).length = 3 * l.length := by
    intro l
    induction l with
    | nil => rfl
    | cons a r ih => simp only [List.flatMap_cons, List.length_append, ih, List.length_cons]; simp [oct3]; omega
  rw [key, List.length_take]; omega
theorem oct3_rng {ws : List Int} (h : ∀ w ∈ ws, 0 ≤ w ∧ w < 16777216) : ∀ n ∈ ws.flatMap oct3, 0 ≤ n ∧ n < 256 := by
  intro n hn
  obtain ⟨w, hw, hn⟩ := List.mem_flatMap.mp hn
  obtain ⟨h0, h1⟩ := h w hw
  have e1 : w.fdiv 65536 = w / 65536 := Int.fdiv_eq_ediv_of_nonneg _ (by decide)
  have e2 : w.fdiv 256 = w / 256 := Int.fdiv_eq_ediv_of_nonneg _ (by decide)
  have e3 : (w / 256).fmod 256 = w / 256 % 256 := Int.fmod_eq_emod_of_nonneg _ (by decide)
  have e4 : w.fmod 256 = w % 256 := Int.fmod_eq_emod_of_nonneg _ (by decide)
  simp only [oct3, e1, e2, e3, e4, List.mem_cons, List.not_mem_nil, or_false] at hn
  omega
theorem oct3_step {ws : List Int} {i : Nat} {k : Int} (h : ws[i]? = some k) : (ws.take (i + 1)).flatMap oct3 = (ws.take i).flatMap oct3 ++ oct3 k := by
  rw [List.take_add_one, h]; simp
def turnF (fs : List Int) (i : Nat) (ps : List Int) : List Int := ps.foldl (fun fs p => fs.set ((4 * (i : Int) + 3 - p.fdiv 6).toNat) (Builtin.bitXor (fs.getD (4 * (i : Int) + 3 - p.fdiv 6).toNat 0) (2 ^ (p.fmod 6).toNat))) fs
def pageF (fs : List Int) (ts : List (List Int)) (n : Nat) : List Int := (List.range n).foldl (fun fs j => turnF fs j (ts.getD j [])) fs
theorem item_list {prog : Program} {w : World} {A : Around} {E : Value → Shared → Prop} {s : Shared} {value slice : Expr} {l : Addr} {vs : List Value} {k : Int} {u : Tok} {v : Value} {Q : Value → Shared → Prop}
    (hl : s.heap.IsList l vs.toArray) (h0 : 0 ≤ k) (hhi : k < 2 ^ 63) (hx : vs[k.toNat]? = some v) (h : Q v s)
    (hs : subscripted slice false (.ref l) (.int k u) = operate [.ref l, .int k u] (getItem (.ref l) (.int k u)) := by with_unfolding_all rfl) :
    wpAny (model prog w) A (subscriptTail value slice (.ref l) (.int k u)) Q E s :=
  tail_any hl.typeIs slot_list_getitem.lookup (wpAny_getItem_list hl h0 hhi (by simpa using hx) h) hs
theorem turnF_step {fs : List Int} {i j : Nat} {ps : List Int} {p : Int} (h : ps[j]? = some p) : turnF fs i (ps.take (j + 1)) = (turnF fs i (ps.take j)).set ((4 * (i : Int) + 3 - p.fdiv 6).toNat) (Builtin.bitXor ((turnF fs i (ps.take j)).getD (4 * (i : Int) + 3 - p.fdiv 6).toNat 0) (2 ^ (p.fmod 6).toNat)) := by
  rw [List.take_add_one, h]; simp [turnF, List.foldl_append]
theorem turnF_length (fs : List Int) (i : Nat) (ps : List Int) : (turnF fs i ps).length = fs.length := by
  unfold turnF
  induction ps generalizing fs with
  | nil => rfl
  | cons p r ih => rw [List.foldl_cons, ih]; simp
theorem pageF_step (fs : List Int) (ts : List (List Int)) (n : Nat) : pageF fs ts (n + 1) = turnF (pageF fs ts n) n (ts.getD n []) := by
  unfold pageF; rw [List.range_succ, List.foldl_append]; rfl
theorem pageF_length (fs : List Int) (ts : List (List Int)) : ∀ n, (pageF fs ts n).length = fs.length
  | 0 => rfl
  | n + 1 => by rw [pageF_step, turnF_length, pageF_length]
/-- a list of lists of ints in the heap -/
def ListsAre (h : Heap) : List Value → List (List Int) → Prop
  | [], [] => True
  | .ref l :: vs, ns :: r => (∃ us, h.IsList l us.toArray ∧ IntsAre us ns) ∧ ListsAre h vs r
  | _, _ => False
theorem ListsAre.keeps {h h' : Heap} (k : Kp h h') : ∀ {vs : List Value} {ns : List (List Int)}, ListsAre h vs ns → ListsAre h' vs ns
  | [], [], _ => trivial
  | .ref _ :: _, _ :: _, ⟨⟨us, hl, hi⟩, r⟩ => ⟨⟨us, hl.at fun o e => k _ o e, hi⟩, r.keeps k⟩
theorem ListsAre.length {h : Heap} : ∀ {vs : List Value} {ns : List (List Int)}, ListsAre h vs ns → vs.length = ns.length
  | [], [], _ => rfl
  | .ref _ :: _, _ :: _, ⟨_, r⟩ => by simp [r.length]
theorem ListsAre.get {h : Heap} : ∀ {vs : List Value} {ns : List (List Int)}, ListsAre h vs ns → ∀ {i : Nat} {n : List Int}, ns[i]? = some n → ∃ l us, vs[i]? = some (.ref l) ∧ h.IsList l us.toArray ∧ IntsAre us n
  | [], [], _, _, _, e => by simp at e
  | .ref l :: _, _ :: _, ⟨⟨us, hl, hi⟩, _⟩, 0, n, e => by cases e; exact ⟨l, us, rfl, hl, hi⟩
  | .ref _ :: _, _ :: _, ⟨_, r⟩, i + 1, n, e => by simpa using r.get (i := i) (by simpa using e)
def pageS (f : Int) : Str := ⟨#[(sgn f).toNat]⟩
theorem xor64 {a : Int} {k : Nat} (h0 : 0 ≤ a) (h1 : a < 64) (hk : k < 6) : 0 ≤ Builtin.bitXor a (2 ^ k) ∧ Builtin.bitXor a (2 ^ k) < 64 := by
  have key : ∀ (x : Fin 64) (k : Fin 6), 0 ≤ Builtin.bitXor (x.val : Int) (2 ^ k.val) ∧ Builtin.bitXor (x.val : Int) (2 ^ k.val) < 64 := by decide +kernel
  have := key ⟨a.toNat, by omega⟩ ⟨k, hk⟩
  simp only [Int.toNat_of_nonneg h0] at this
  exact this
theorem turnF_rng {i : Nat} : ∀ {ps fs : List Int}, (∀ f ∈ fs, 0 ≤ f ∧ f < 64) → ∀ f ∈ turnF fs i ps, 0 ≤ f ∧ f < 64
  | [], _, h => h
  | p :: ps, fs, h => by
    refine turnF_rng (ps := ps) ?_
    intro f hf
    rcases List.mem_or_eq_of_mem_set hf with hf | rfl
    · exact h f hf
    · have hg : 0 ≤ fs.getD (4 * (i : Int) + 3 - p.fdiv 6).toNat 0 ∧ fs.getD (4 * (i : Int) + 3 - p.fdiv 6).toNat 0 < 64 := by
        rw [List.getD_eq_getElem?_getD]
        cases e : fs[(4 * (i : Int) + 3 - p.fdiv 6).toNat]? with
        | none => exact ⟨by decide, by decide⟩
        | some f => exact h f (List.mem_of_getElem? e)
      have e : p.fmod 6 = p % 6 := Int.fmod_eq_emod_of_nonneg _ (by decide)
      exact xor64 hg.1 hg.2 (by rw [e]; omega)
theorem pageF_rng {fs : List Int} {ts : List (List Int)} (h : ∀ f ∈ fs, 0 ≤ f ∧ f < 64) : ∀ n, ∀ f ∈ pageF fs ts n, 0 ≤ f ∧ f < 64
  | 0 => h
  | n + 1 => by rw [pageF_step]; exact turnF_rng (pageF_rng h n)
theorem alpha_item : ∀ k : Fin 64, Txt.item (Str.ofString "ABCDEFGHIJKLMNOPQRSTUVWXYZabcdefghijklmnopqrstuvwxyz0123456789+/") (k.val : Int) = pageS k.val := by decide +kernel
theorem paired_strs {ks : List Int} {g : Int → Str} : ∀ {ys : List Value}, Paired (fun k y => ∃ t, y = Value.str (g k) t) ks ys → StrsAre ys (ks.map g) := by
  induction ks with
  | nil => intro ys h; cases h; exact .nil
  | cons k ks ih => intro ys h; cases h with | cons ha hr => obtain ⟨t, rfl⟩ := ha; exact .cons _ _ (ih hr)
set_option maxRecDepth 100000 in
set_option maxHeartbeats 8000000 in
theorem c_page (w : World) {p : Program} {loose : List Str} {mean : ExcName → Option Value} {mg mb : Str → Option Value}
    {dp un : Nat} {gd : Option (List Code)} {cn : Str} {cs : Scope} {a : Addr} {ccd : Value} {cl : List (Str × Addr)} {outer : List Env} {A₀ : Around} {base h₀ : Heap} {L : Addr} {m : Str → Option Value} {s : Shared} {Q E : Value → Shared → Prop}
    (B : Below A₀ base outer h₀) (F : Fr h₀ L s.heap m) (X : (hd.heap_39 w.params).In h₀) (T : Top p loose mean mg mb h₀) (hk : cs.kind = .function)
    (hd1 : dp + 20 < recursionLimit) {lw lt : Addr} {wvs tvs : List Value} {ws : List Int} {ts : List (List Int)} (hlw : s.heap.IsList lw wvs.toArray) (hiw : IntsAre wvs ws) (hlt : s.heap.IsList lt tvs.toArray) (hit : ListsAre s.heap tvs ts) (hn : ws.length ≤ 3) (hn2 : ts.length = ws.length) {out : List Int} {lc : Int} (hb : b2aF (ws.flatMap oct3) = (out, 0, lc)) (hlo : out.length ≤ 1000) (hrg : ∀ w ∈ ws, 0 ≤ w ∧ w < 16777216) (hpl : ∀ ps ∈ ts, ∀ p ∈ ps, 0 ≤ p ∧ p < 24) (ho4 : out.length = 4 * ws.length)
    (hret : ∀ (x : Str) (t : Tok) (h' : Heap) (tk' : Nat), Kp s.heap h' → x = Txt.join (Str.ofString "") ((pageF (out.map b64v) ts ws.length).map pageS) → Q (.str x t) { s with heap := h', toks := tk' }) :
    wpAny (model P0 w) (ktrTop dp un gd cn cs L a ccd cl outer) (call (.ref 147) [.ref lw, .ref lt]) Q E s := by
  refine enterC (binds := [("words", .ref lw), ("turned", .ref lt)]) (fun n => [("alphabet", n + 1)]) (fun y => if y = "turned" then some (.ref lt) else if y = "words" then some (.ref lw) else none) B F X T rfl rfl hk (by k_is) (by k_is) ?room (BindsTo.of_eq rfl) rfl (fun _ => rfl) (fun _ => rfl) (by decide +kernel) ?_ rfl rfl rfl
  · ktr_room
  intro L' h₁ tk cells F' N' Y' B' X' T'
  k_cells Y'
  (try dsimp only); (try k_unmd); k_fold
  clear B F X T
  repeat' ((fail_if_success (with_reducible show wpAny _ _ (PySem.exec (PySem.Stmt.For _ _ _ _ _) _) _ _ _)); (first | (k_unfold; (try dsimp only)) | ((first | (with_reducible show wpAny _ _ _ _ _ _) | (with_reducible show (ite _ _ _ : Prop)) | (with_reducible show InvPostN _ _ _ _ _ _ _ _ _)); (first | walk1 | (dsimp only; walk1)); (try dsimp only)) | ((with_reducible show (PySem.W.Frag.In _ _ ∧ _)); (refine And.intro (by k_in) ?_))))
  refine for_exec ?_
  repeat' ((fail_if_success (with_reducible show wpAny _ _ (PySem.pyIter _) _ _ _)); (first | (k_unfold; (try dsimp only)) | ((first | (with_reducible show wpAny _ _ _ _ _ _) | (with_reducible show (ite _ _ _ : Prop)) | (with_reducible show InvPostN _ _ _ _ _ _ _ _ _)); (first | walk1 | (dsimp only; walk1)); (try dsimp only)) | ((with_reducible show (PySem.W.Frag.In _ _ ∧ _)); (refine And.intro (by k_in) ?_))))
  rename Fr _ _ _ _ => F2
  rename News _ _ _ _ => N2
  rename (_ = Data.cell (some _)) => hcd
  rename Obj => oa
  obtain ⟨lo, hlo⟩ := led_head N2
  subst hlo
  refine for_listN (σ := List Value × Nat) (fun c => [(lo, listOf c.1.toArray c.2), (L' + 1, oa)]) (fun _ => [("octets", .ref lo), ("turned", .ref lt), ("words", .ref lw)]) (fun i c => IntsAre c.1 ((ws.take i).flatMap oct3)) ([], 0) rfl (hlw.at fun o e => F2.keep _ o e) (ne_fr F2 hlw) (ne_news N2 hlw) F2 N2 (nam3 rfl rfl rfl) IntsAre.nil ?turn ?done (fun _ _ h => h) (fun _ _ => rfl)
  case turn =>
    rintro ⟨vs, n⟩ i v u h tk' own hi hv hadr hoff hI F' N'
    clear F2 N2 hadr
    (try dsimp only at hI F' N' hoff)
    obtain ⟨k, t', rfl, hk'⟩ := hiw.at i v (by simpa using hv)
    refine wpAny_assign_Name ?_
    repeat' ((fail_if_success (with_reducible show wpAny _ _ (PySem.call (PySem.Value.builtin "list.extend") _ _) _ _ _)); (first | (k_unfold; (try dsimp only)) | ((first | (with_reducible show wpAny _ _ _ _ _ _) | (with_reducible show (ite _ _ _ : Prop)) | (with_reducible show InvPostN _ _ _ _ _ _ _ _ _)); (first | walk1 | (dsimp only; walk1)); (try dsimp only)) | ((with_reducible show (PySem.W.Frag.In _ _ ∧ _)); (refine And.intro (by k_in) ?_))))
    rename Fr _ _ _ _ => F5
    rename News _ _ _ _ => N5
    have hlen : vs.length ≤ 3 * i := by rw [hI.length]; exact oct3_len ws i
    have hi3 : i < 3 := by have := hiw.length; simp at hi; omega
    refine extend_M (rest := (L' + 1, oa) :: own) F5 (news_sub N5 (fun p hp => .tail _ hp)) ?_ (N5 _ (.head _)).1 (by simp; omega) fun h6 n6 F6 N6 => ?_
    · intro p hp
      rcases List.mem_cons.mp hp with rfl | hp
      · exact Nat.ne_of_lt ‹_›
      · exact hoff p hp _ (.head _)
    (try dsimp only)
    clear F5 N5
    repeat' (first | (k_unfold; (try dsimp only)) | ((first | (with_reducible show wpAny _ _ _ _ _ _) | (with_reducible show (ite _ _ _ : Prop)) | (with_reducible show InvPostN _ _ _ _ _ _ _ _ _)); (first | walk1 | (dsimp only; walk1)); (try dsimp only)) | ((with_reducible show (PySem.W.Frag.In _ _ ∧ _)); (refine And.intro (by k_in) ?_)))
    rename Fr _ _ _ _ => F7
    rename News _ _ _ _ => N7
    refine kn_end (vs ++ _, n6) F7 N7 (List.forall_mem_cons.mpr ⟨.head _, List.forall_mem_cons.mpr ⟨.tail _ (.head _), List.forall_mem_nil _⟩⟩) (fun p hp => .tail _ (.tail _ hp)) rfl (nam3 rfl rfl rfl) ?_
    show IntsAre _ ((ws.take (i + 1)).flatMap oct3)
    rw [oct3_step hk']
    exact hI.append (.cons _ _ (.cons _ _ (.cons _ _ .nil)))
  case done =>
    rintro ⟨vs, n⟩ u h tk' hI F' N'
    clear F2 N2
    (try dsimp only at hI F' N')
    have htk : ws.take wvs.toArray.size = ws := List.take_of_length_le (by rw [List.size_toArray, hiw.length]; exact Nat.le_refl _)
    rw [htk] at hI
    repeat' ((fail_if_success (with_reducible show wpAny _ _ (PySem.exec (PySem.Stmt.Assign _ _ _) _) _ _ _)); (first | (k_unfold; (try dsimp only)) | ((first | (with_reducible show wpAny _ _ _ _ _ _) | (with_reducible show (ite _ _ _ : Prop)) | (with_reducible show InvPostN _ _ _ _ _ _ _ _ _)); (first | walk1 | (dsimp only; walk1)); (try dsimp only)) | ((with_reducible show (PySem.W.Frag.In _ _ ∧ _)); (refine And.intro (by k_in) ?_))))
    refine comp_assign (ks := out) F' (fun _ => true) (fun k y => ∃ t, y = .int (b64v k) t) rfl rfl (by decide) rfl (by decide) rfl rfl rfl (by rw [PySem.sizeLine_eq]; omega) ?_
    repeat' ((fail_if_success (with_reducible show wpAny _ _ (PySem.call (PySem.Value.type "bytes") _ _) _ _ _)); (first | (k_unfold; (try dsimp only)) | ((first | (with_reducible show wpAny _ _ _ _ _ _) | (with_reducible show (ite _ _ _ : Prop)) | (with_reducible show InvPostN _ _ _ _ _ _ _ _ _)); (first | walk1 | (dsimp only; walk1)); (try dsimp only)) | ((with_reducible show (PySem.W.Frag.In _ _ ∧ _)); (refine And.intro (by k_in) ?_))))
    rename Fr _ _ _ _ => F5
    rename News _ _ _ _ => N5
    refine bytes_K F5 N5 ⟨_, (N5 _ (.head _)).1, rfl, _, rfl⟩ hI (oct3_rng hrg) (by rw [PySem.sizeLine_eq, hI.length]; have := oct3_len ws ws.length; rw [List.take_length] at this; omega) rfl fun h6 t6 tk6 F6 N6 hA => ?_
    (try dsimp only)
    clear F5 N5
    repeat' ((fail_if_success (with_reducible show wpAny _ _ (PySem.call (PySem.Value.ref 94) _ _) _ _ _)); (first | (k_unfold; (try dsimp only)) | ((first | (with_reducible show wpAny _ _ _ _ _ _) | (with_reducible show (ite _ _ _ : Prop)) | (with_reducible show InvPostN _ _ _ _ _ _ _ _ _)); (first | walk1 | (dsimp only; walk1)); (try dsimp only)) | ((with_reducible show (PySem.W.Frag.In _ _ ∧ _)); (refine And.intro (by k_in) ?_))))
    refine c_enc w B' F6 X' T' rfl (by show dp + 1 + 12 < _; omega) (by rw [List.size_toArray, List.length_map]; have := oct3_len ws ws.length; rw [List.take_length] at this; omega) (by rw [allB_back hA]; exact hb) fun r t7 h7 tk7 k7 hr => ?_
    replace F6 := kp_fr F6 k7
    replace N6 := kp_news N6 k7
    (try dsimp only)
    repeat' (first | (k_unfold; (try dsimp only)) | ((first | (with_reducible show wpAny _ _ _ _ _ _) | (with_reducible show (ite _ _ _ : Prop)) | (with_reducible show InvPostN _ _ _ _ _ _ _ _ _)); (first | walk1 | (dsimp only; walk1)); (try dsimp only)) | ((with_reducible show (PySem.W.Frag.In _ _ ∧ _)); (refine And.intro (by k_in) ?_)))
    refine ⟨_, by rw [← hr]; exact src_bytes rfl, F6, N6, ⟨?tests, ?elt⟩, ?ret⟩
    case tests =>
      intro C k t3 s₃ m₃ hk FC
      exact tests_nil ⟨rfl, _, _, rfl, fun _ _ e => e⟩
    case elt =>
      intro C k t3 s₃ m₃ hk hp FC
      have hc := FC.keep _ _ (N6 _ (.tail _ (.head _))).1
      have NC := fr_nil FC
      (try dsimp only at FC NC hc)
      repeat' ((fail_if_success (with_reducible show wpAny _ _ (PySem.eval (PySem.Expr.Name (PySem.Str.ofString "alphabet") _) _) _ _ _)); (first | (k_unfold; (try dsimp only)) | ((first | (with_reducible show wpAny _ _ _ _ _ _) | (with_reducible show (ite _ _ _ : Prop)) | (with_reducible show InvPostN _ _ _ _ _ _ _ _ _)); (first | walk1 | (dsimp only; walk1)); (try dsimp only)) | ((with_reducible show (PySem.W.Frag.In _ _ ∧ _)); (refine And.intro (by k_in) ?_))))
      refine nm_cell rfl hc hcd ?_
      repeat' ((fail_if_success (with_reducible show wpAny _ _ (PySem.eval (PySem.Expr.Name (PySem.Str.ofString "chr") _) _) _ _ _)); (first | (k_unfold; (try dsimp only)) | ((first | (with_reducible show wpAny _ _ _ _ _ _) | (with_reducible show (ite _ _ _ : Prop)) | (with_reducible show InvPostN _ _ _ _ _ _ _ _ _)); (first | walk1 | (dsimp only; walk1)); (try dsimp only)) | ((with_reducible show (PySem.W.Frag.In _ _ ∧ _)); (refine And.intro (by k_in) ?_))))
      refine nm_blt (Kp.trans F6.keep FC.keep) X' T' (by k_is) boot_chr (by decide) ?_
      repeat' ((fail_if_success (with_reducible show wpAny _ _ (PySem.eval (PySem.Expr.Name (PySem.Str.ofString "octet") _) _) _ _ _)); (first | (k_unfold; (try dsimp only)) | ((first | (with_reducible show wpAny _ _ _ _ _ _) | (with_reducible show (ite _ _ _ : Prop)) | (with_reducible show InvPostN _ _ _ _ _ _ _ _ _)); (first | walk1 | (dsimp only; walk1)); (try dsimp only)) | ((with_reducible show (PySem.W.Frag.In _ _ ∧ _)); (refine And.intro (by k_in) ?_))))
      refine nm_loc FC rfl ?_
      repeat' ((fail_if_success (with_reducible show wpAny _ _ (PySem.call (PySem.Value.builtin "chr") _ _) _ _ _)); (first | (k_unfold; (try dsimp only)) | ((first | (with_reducible show wpAny _ _ _ _ _ _) | (with_reducible show (ite _ _ _ : Prop)) | (with_reducible show InvPostN _ _ _ _ _ _ _ _ _)); (first | walk1 | (dsimp only; walk1)); (try dsimp only)) | ((with_reducible show (PySem.W.Frag.In _ _ ∧ _)); (refine And.intro (by k_in) ?_))))
      have hks := b2aF_mem (ws.flatMap oct3)
      rw [hb] at hks
      have hfd := find_sgn k (hks k hk)
      refine chr_of_range hfd.1 (Int.le_trans (Int.le_of_lt hfd.2.1) (by decide)) ?_
      (try dsimp only)
      repeat' ((fail_if_success (with_reducible show wpAny _ _ (PySem.call (PySem.Value.builtin "str.index") _ _) _ _ _)); (first | (k_unfold; (try dsimp only)) | ((first | (with_reducible show wpAny _ _ _ _ _ _) | (with_reducible show (ite _ _ _ : Prop)) | (with_reducible show InvPostN _ _ _ _ _ _ _ _ _)); (first | walk1 | (dsimp only; walk1)); (try dsimp only)) | ((with_reducible show (PySem.W.Frag.In _ _ ∧ _)); (refine And.intro (by k_in) ?_))))
      refine index_or rfl (fun e => by rw [hfd.2.2.1] at e; omega) fun _ _ => ?_
      rw [hfd.2.2.1]
      exact ⟨⟨_, rfl⟩, _, _, rfl, fun _ _ e => e⟩
    case ret =>
      intro D nn ys h8 tk8 F8 N8 hne hkeep hpair
      have I8 := paired_ints hpair
      rw [filter_all] at I8
      clear F6 N6 k7 hpair
      have q1 := hne _ (.head _)
      have q2 := hne _ (.tail _ (.head _))
      (try dsimp only at q1 q2)
      repeat' ((fail_if_success (with_reducible show wpAny _ _ (PySem.exec (PySem.Stmt.For _ _ _ _ _) _) _ _ _)); (first | (k_unfold; (try dsimp only)) | ((first | (with_reducible show wpAny _ _ _ _ _ _) | (with_reducible show (ite _ _ _ : Prop)) | (with_reducible show InvPostN _ _ _ _ _ _ _ _ _)); (first | walk1 | (dsimp only; walk1)); (try dsimp only)) | ((with_reducible show (PySem.W.Frag.In _ _ ∧ _)); (refine And.intro (by k_in) ?_))))
      refine for_exec ?_
      repeat' ((fail_if_success (with_reducible show wpAny _ _ (PySem.pyIter _) _ _ _)); (first | (k_unfold; (try dsimp only)) | ((first | (with_reducible show wpAny _ _ _ _ _ _) | (with_reducible show (ite _ _ _ : Prop)) | (with_reducible show InvPostN _ _ _ _ _ _ _ _ _)); (first | walk1 | (dsimp only; walk1)); (try dsimp only)) | ((with_reducible show (PySem.W.Frag.In _ _ ∧ _)); (refine And.intro (by k_in) ?_))))
      rename Fr _ _ _ _ => F2
      rename News _ _ _ _ => N2
      rename IsRange _ _ _ _ _ _ _ _ => R2
      refine for_rangeN (σ := List Value × Nat) (n := ws.length) (fun c => [(D, listOf c.1.toArray c.2), (L' + 1, oa)]) (fun _ => [("figures", .ref D), ("turned", .ref lt)]) (fun i c => IntsAre c.1 (pageF (out.map b64v) ts i)) (ys, nn) rfl R2 (small_one (by omega) (by omega) (by omega) (by omega)) (by rw [rangeSize_nat]; omega) F2 (news_sub N2 (List.forall_mem_cons.mpr ⟨.head _, List.forall_mem_cons.mpr ⟨.tail _ (.tail _ (.head _)), List.forall_mem_nil _⟩⟩)) (nam2 rfl rfl) I8 ?turn ?done (fun _ _ h => h) (fun _ _ => rfl)
      case turn =>
        rintro ⟨fs, fn⟩ i t' u2 h2 tk2 own hi hadr hoff hI2 F' N'
        clear F2 N2 R2 hadr
        (try dsimp only at hI2 F' N' hoff)
        refine wpAny_assign_Name ?_
        repeat' ((fail_if_success (with_reducible show wpAny _ _ (PySem.exec (PySem.Stmt.For _ _ _ _ _) _) _ _ _)); (first | (k_unfold; (try dsimp only)) | ((first | (with_reducible show wpAny _ _ _ _ _ _) | (with_reducible show (ite _ _ _ : Prop)) | (with_reducible show InvPostN _ _ _ _ _ _ _ _ _)); (first | walk1 | (dsimp only; walk1)); (try dsimp only)) | ((with_reducible show (PySem.W.Frag.In _ _ ∧ _)); (refine And.intro (by k_in) ?_))))
        refine for_exec ?_
        repeat' ((fail_if_success (with_reducible show wpAny _ _ (PyProof.Rows.subscriptTail _ _ _ _) _ _ _)); (first | (k_unfold; (try dsimp only)) | ((first | (with_reducible show wpAny _ _ _ _ _ _) | (with_reducible show (ite _ _ _ : Prop)) | (with_reducible show InvPostN _ _ _ _ _ _ _ _ _)); (first | walk1 | (dsimp only; walk1)); (try dsimp only)) | ((with_reducible show (PySem.W.Frag.In _ _ ∧ _)); (refine And.intro (by k_in) ?_))))
        rename Fr _ _ _ _ => F5
        rename News _ _ _ _ => N5
        have hit' : i < ts.length := by omega
        obtain ⟨lp, us, hx, hlp, hip⟩ := hit.get (i := i) (n := ts[i]) (by simp [hit'])
        refine item_list (hlt.at fun o e => F5.keep _ o e) (by omega) (by omega) (by rw [show (0 + (i : Int)).toNat = i from by omega]; exact hx) ?_
        have hg : ts.getD i [] = ts[i] := by simp [hit']
        have hp24 : ∀ p ∈ ts[i], 0 ≤ p ∧ p < 24 := hpl _ (List.getElem_mem hit')
        (try dsimp only)
        repeat' ((fail_if_success (with_reducible show wpAny _ _ (PySem.pyIter _) _ _ _)); (first | (k_unfold; (try dsimp only)) | ((first | (with_reducible show wpAny _ _ _ _ _ _) | (with_reducible show (ite _ _ _ : Prop)) | (with_reducible show InvPostN _ _ _ _ _ _ _ _ _)); (first | walk1 | (dsimp only; walk1)); (try dsimp only)) | ((with_reducible show (PySem.W.Frag.In _ _ ∧ _)); (refine And.intro (by k_in) ?_))))
        refine for_listN (σ := List Value × Nat) (fun c => (D, listOf c.1.toArray c.2) :: (L' + 1, oa) :: own) (fun _ => [("figures", .ref D), ("turned", .ref lt), ("i", .int (0 + (i : Int)) t')]) (fun j c => IntsAre c.1 (turnF (pageF (out.map b64v) ts i) i (ts[i].take j))) (fs, fn) rfl (hlp.at fun o e => F5.keep _ o e) (ne_fr F5 hlp) (ne_news N5 hlp) F5 N5 (nam3 rfl rfl rfl) hI2 ?turn2 ?done2 (fun _ _ h => h) (fun _ _ => rfl)
        case turn2 =>
          rintro ⟨gs, gn⟩ j v u3 h3 tk3 own2 hj hv hadr2 hoff2 hI3 F' N'
          clear F5 N5 hadr2
          (try dsimp only at hI3 F' N' hoff2)
          obtain ⟨p, t9, rfl, hp'⟩ := hip.at j v (by simpa using hv)
          have hpr := hp24 p (List.mem_of_getElem? hp')
          refine wpAny_assign_Name ?_
          repeat' ((fail_if_success (with_reducible show wpAny _ _ (PyProof.Rows.subscriptTail _ _ _ _) _ _ _)); (first | (k_unfold; (try dsimp only)) | ((first | (with_reducible show wpAny _ _ _ _ _ _) | (with_reducible show (ite _ _ _ : Prop)) | (with_reducible show InvPostN _ _ _ _ _ _ _ _ _)); (first | walk1 | (dsimp only; walk1)); (try dsimp only)) | ((with_reducible show (PySem.W.Frag.In _ _ ∧ _)); (refine And.intro (by k_in) ?_))))
          rename News _ _ _ _ => N5
          have hfl : (turnF (pageF (out.map b64v) ts i) i (ts[i].take j)).length = 4 * ws.length := by rw [turnF_length, pageF_length, List.length_map, ho4]
          have hdv : p.fdiv 6 = p / 6 := Int.fdiv_eq_ediv_of_nonneg _ (by decide)
          have hk0 : 0 ≤ 4 * (0 + (i : Int)) + 3 - p.fdiv 6 := by rw [hdv]; omega
          have hk1 : 4 * (0 + (i : Int)) + 3 - p.fdiv 6 < 4 * (ws.length : Int) := by rw [hdv]; omega
          have hk2 : 4 * (0 + (i : Int)) + 3 - p.fdiv 6 < (turnF (pageF (out.map b64v) ts i) i (ts[i].take j)).length := by rw [hfl]; omega
          have hk3 : 4 * (0 + (i : Int)) + 3 - p.fdiv 6 < 2 ^ 63 := by omega
          refine ksa_sub N5 (.head _) hI3 hk0 hk2 hk3 fun t10 => ?_
          (try dsimp only)
          repeat' ((fail_if_success (with_reducible show wpAny _ _ (PySem.setItem _ _ _) _ _ _)); (first | (k_unfold; (try dsimp only)) | ((first | (with_reducible show wpAny _ _ _ _ _ _) | (with_reducible show (ite _ _ _ : Prop)) | (with_reducible show InvPostN _ _ _ _ _ _ _ _ _)); (first | walk1 | (dsimp only; walk1)); (try dsimp only)) | ((with_reducible show (PySem.W.Frag.In _ _ ∧ _)); (refine And.intro (by k_in) ?_))))
          rename Fr _ _ _ _ => F6
          rename News _ _ _ _ => N6
          refine ksa_set F6 N6 (.head ?off) hI3 hk0 hk2 hk3 fun h7 F7 N7 hI7 _ _ => ?_
          case off =>
            intro q hq
            rcases List.mem_append.mp hq with hq | hq
            · rcases List.mem_cons.mp hq with rfl | hq
              · exact q2
              · exact hoff q hq _ (.head _)
            · exact hoff2 q hq _ (.head _)
          clear F6 N6
          (try dsimp only)
          repeat' (first | (k_unfold; (try dsimp only)) | ((first | (with_reducible show wpAny _ _ _ _ _ _) | (with_reducible show (ite _ _ _ : Prop)) | (with_reducible show InvPostN _ _ _ _ _ _ _ _ _)); (first | walk1 | (dsimp only; walk1)); (try dsimp only)) | ((with_reducible show (PySem.W.Frag.In _ _ ∧ _)); (refine And.intro (by k_in) ?_)))
          rename Fr _ _ _ _ => F8
          rename News _ _ _ _ => N8
          refine kn_end (_, gn) F8 N8 (fun q hq => List.mem_append_left _ hq) (fun q hq => List.mem_append_right ((_ :: _ :: own)) hq) rfl (nam3 rfl rfl rfl) ?_
          show IntsAre _ (turnF (pageF (out.map b64v) ts i) i (ts[i].take (j + 1)))
          rw [turnF_step hp']
          simp only [Int.zero_add] at hI7 ⊢
          exact hI7
        case done2 =>
          rintro ⟨gs, gn⟩ u3 h3 tk3 hI3 F' N'
          clear F5 N5
          (try dsimp only at hI3 F' N')
          repeat' (first | (k_unfold; (try dsimp only)) | ((first | (with_reducible show wpAny _ _ _ _ _ _) | (with_reducible show (ite _ _ _ : Prop)) | (with_reducible show InvPostN _ _ _ _ _ _ _ _ _)); (first | walk1 | (dsimp only; walk1)); (try dsimp only)) | ((with_reducible show (PySem.W.Frag.In _ _ ∧ _)); (refine And.intro (by k_in) ?_)))
          rename Fr _ _ _ _ => F8
          rename News _ _ _ _ => N8
          refine kn_end (gs, gn) F8 N8 (List.forall_mem_cons.mpr ⟨.head _, List.forall_mem_cons.mpr ⟨.tail _ (.head _), List.forall_mem_nil _⟩⟩) (fun q hq => .tail _ (.tail _ hq)) rfl (nam2 rfl rfl) ?_
          show IntsAre gs (pageF (out.map b64v) ts (i + 1))
          rw [pageF_step, hg]
          rw [List.take_of_length_le (by rw [List.size_toArray, hip.length]; exact Nat.le_refl _)] at hI3
          exact hI3
      case done =>
        rintro ⟨gs, gn⟩ u2 h9 tk9 hI9 F' N'
        clear F2 N2 R2
        (try dsimp only at hI9 F' N')
        have hks := b2aF_mem (ws.flatMap oct3)
        rw [hb] at hks
        have hbd := pageF_rng (fs := out.map b64v) (ts := ts) (fun f hf => by obtain ⟨k, hk, rfl⟩ := List.mem_map.mp hf; exact (find_sgn k (hks k hk)).2.2.2) ws.length
        have hpl4 : (pageF (out.map b64v) ts ws.length).length = 4 * ws.length := by rw [pageF_length, List.length_map, ho4]
        repeat' ((fail_if_success (with_reducible show wpAny _ _ (PySem.eval (PySem.Expr.ListComp _ _ _ _) _) _ _ _)); (first | (k_unfold; (try dsimp only)) | ((first | (with_reducible show wpAny _ _ _ _ _ _) | (with_reducible show (ite _ _ _ : Prop)) | (with_reducible show InvPostN _ _ _ _ _ _ _ _ _)); (first | walk1 | (dsimp only; walk1)); (try dsimp only)) | ((with_reducible show (PySem.W.Frag.In _ _ ∧ _)); (refine And.intro (by k_in) ?_))))
        refine comp_expr (ks := pageF (out.map b64v) ts ws.length) (fun _ => true) (fun k y => ∃ t, y = .str (pageS k) t) rfl (by decide) rfl (by decide) rfl (by rw [PySem.sizeLine_eq, hpl4]; omega) ?_
        repeat' (first | (k_unfold; (try dsimp only)) | ((first | (with_reducible show wpAny _ _ _ _ _ _) | (with_reducible show (ite _ _ _ : Prop)) | (with_reducible show InvPostN _ _ _ _ _ _ _ _ _)); (first | walk1 | (dsimp only; walk1)); (try dsimp only)) | ((with_reducible show (PySem.W.Frag.In _ _ ∧ _)); (refine And.intro (by k_in) ?_)))
        rename Fr _ _ _ _ => F3
        rename News _ _ _ _ => N3
        refine ⟨src_list rfl (PySem.IsL.isList (N3 _ (.head _)).1) hI9, ⟨?tests, ?elt⟩, ?ret⟩
        case tests =>
          intro C k t3 s₃ m₃ hk FC
          exact tests_nil ⟨rfl, _, _, rfl, fun _ _ e => e⟩
        case elt =>
          intro C k t3 s₃ m₃ hk hp FC
          have hc := FC.keep _ _ (N3 _ (.tail _ (.head _))).1
          have NC := fr_nil FC
          (try dsimp only at FC NC hc)
          repeat' ((fail_if_success (with_reducible show wpAny _ _ (PySem.eval (PySem.Expr.Name (PySem.Str.ofString "alphabet") _) _) _ _ _)); (first | (k_unfold; (try dsimp only)) | ((first | (with_reducible show wpAny _ _ _ _ _ _) | (with_reducible show (ite _ _ _ : Prop)) | (with_reducible show InvPostN _ _ _ _ _ _ _ _ _)); (first | walk1 | (dsimp only; walk1)); (try dsimp only)) | ((with_reducible show (PySem.W.Frag.In _ _ ∧ _)); (refine And.intro (by k_in) ?_))))
          refine nm_cell rfl hc hcd ?_
          repeat' ((fail_if_success (with_reducible show wpAny _ _ (PySem.eval (PySem.Expr.Name (PySem.Str.ofString "figure") _) _) _ _ _)); (first | (k_unfold; (try dsimp only)) | ((first | (with_reducible show wpAny _ _ _ _ _ _) | (with_reducible show (ite _ _ _ : Prop)) | (with_reducible show InvPostN _ _ _ _ _ _ _ _ _)); (first | walk1 | (dsimp only; walk1)); (try dsimp only)) | ((with_reducible show (PySem.W.Frag.In _ _ ∧ _)); (refine And.intro (by k_in) ?_))))
          refine nm_loc FC rfl ?_
          repeat' ((fail_if_success (with_reducible show wpAny _ _ (PyProof.Rows.subscriptTail _ _ _ _) _ _ _)); (first | (k_unfold; (try dsimp only)) | ((first | (with_reducible show wpAny _ _ _ _ _ _) | (with_reducible show (ite _ _ _ : Prop)) | (with_reducible show InvPostN _ _ _ _ _ _ _ _ _)); (first | walk1 | (dsimp only; walk1)); (try dsimp only)) | ((with_reducible show (PySem.W.Frag.In _ _ ∧ _)); (refine And.intro (by k_in) ?_))))
          have hk2 := hbd k hk
          refine KXi.item (n := 64) (by decide +kernel) (by omega) (by omega) (by decide) fun _ => ?_
          have hai := alpha_item ⟨k.toNat, by omega⟩
          (try dsimp only at hai)
          rw [Int.toNat_of_nonneg hk2.1] at hai
          rw [hai]
          exact ⟨⟨_, rfl⟩, _, _, rfl, fun _ _ e => e⟩
        case ret =>
          intro D2 nn2 ys2 h8 tk8 hkp hD hg hpair
          have I8 := paired_strs hpair
          rw [filter_all] at I8
          have F4 := kp_fr F3 hkp
          clear F3 N3
          repeat' ((fail_if_success (with_reducible show wpAny _ _ (PySem.call (PySem.Value.builtin "str.join") _ _) _ _ _)); (first | (k_unfold; (try dsimp only)) | ((first | (with_reducible show wpAny _ _ _ _ _ _) | (with_reducible show (ite _ _ _ : Prop)) | (with_reducible show InvPostN _ _ _ _ _ _ _ _ _)); (first | walk1 | (dsimp only; walk1)); (try dsimp only)) | ((with_reducible show (PySem.W.Frag.In _ _ ∧ _)); (refine And.intro (by k_in) ?_))))
          refine join_listW (PySem.IsL.isList hg) (by simpa using I8) (by decide +kernel) ?_ fun t' k => ?_
          · have e : (((pageF (out.map b64v) ts ws.length).map pageS).map (·.length)) = List.replicate (4 * ws.length) 1 := by
              rw [List.map_map, ← hpl4]
              exact List.map_eq_replicate_iff.mpr fun _ _ => rfl
            rw [e, List.length_map, hpl4]; simp; omega
          repeat' (first | (k_unfold; (try dsimp only)) | ((first | (with_reducible show wpAny _ _ _ _ _ _) | (with_reducible show (ite _ _ _ : Prop)) | (with_reducible show InvPostN _ _ _ _ _ _ _ _ _)); (first | walk1 | (dsimp only; walk1)); (try dsimp only)) | ((with_reducible show (PySem.W.Frag.In _ _ ∧ _)); (refine And.intro (by k_in) ?_)))
          exact hret _ _ _ _ F4.keep rfl
end
section
local macro_rules | `(tactic| walk_at "eval Name") => `(tactic| ((with_reducible show wpAny _ _ (PySem.eval (PySem.Expr.Name _ _) (PySem.compEnvC _ _ _ _)) _ _ _); (refine nm_loc (by assumption) (by rfl) ?_)))
def try2 (g b : Int) (rows : List Int) (k : Nat) : List Int := [Builtin.bitXor g (rows.getD k 0) + 4096 * 2 ^ k, 2 ^ k + 4096 * Builtin.bitXor b (rows.getD k 0)]
def triesI (g b : Int) (rows : List Int) (n : Nat) : List Int := [g, 4096 * b] ++ (List.range n).flatMap (try2 g b rows)
theorem triesI_step (g b : Int) (rows : List Int) (n : Nat) : triesI g b rows (n + 1) = triesI g b rows n ++ try2 g b rows n := by
  simp [triesI, List.range_succ]
theorem triesI_length (g b : Int) (rows : List Int) : ∀ n, (triesI g b rows n).length = 2 + 2 * n
  | 0 => rfl
  | n + 1 => by rw [triesI_step, List.length_append, triesI_length]; simp [try2]; omega
def bitsF (one : Int) : List Int := (rangeKs 0 24).filter (fun k => bitB one k)
def gapF (word : Int) (rows : List Int) : Int := Builtin.bitXor (word.fmod 4096) (timesL (word.fdiv 4096) rows (rangeKs 0 12))
def toldF (word : Int) (rows : List Int) : Option (List Int) := ((triesI (gapF word rows) (timesL (gapF word rows) rows (rangeKs 0 12)) rows 12).find? fun one => decide ((bitsF one).length < 4)).map bitsF
theorem find_at {l : List Int} {i : Nat} {x : Int} {p : Int → Bool} (h : l[i]? = some x) (hp : p x = true) (hno : ∀ y ∈ l.take i, ¬ p y = true) : l.find? p = some x := by
  have hi : i < l.length := (List.getElem?_eq_some_iff.mp h).1
  have e : l = l.take i ++ x :: l.drop (i + 1) := by
    have h2 := List.drop_eq_getElem_cons hi
    rw [(List.getElem?_eq_some_iff.mp h).2] at h2
    rw [← h2, List.take_append_drop]
  rw [e, List.find?_append, List.find?_eq_none.mpr hno, List.find?_cons_of_pos hp]
  rfl
theorem find_no {l : List Int} {n : Nat} {p : Int → Bool} (hn : l.length ≤ n) (hno : ∀ y ∈ l.take n, ¬ p y = true) : l.find? p = none := by
  rw [List.take_of_length_le hn] at hno
  exact List.find?_eq_none.mpr hno
set_option maxRecDepth 100000 in
set_option maxHeartbeats 8000000 in
theorem c_told (w : World) {p : Program} {loose : List Str} {mean : ExcName → Option Value} {mg mb : Str → Option Value}
    {dp un : Nat} {gd : Option (List Code)} {cn : Str} {cs : Scope} {a : Addr} {ccd : Value} {cl : List (Str × Addr)} {outer : List Env} {A₀ : Around} {base h₀ : Heap} {L : Addr} {m : Str → Option Value} {s : Shared} {Q E : Value → Shared → Prop}
    (B : Below A₀ base outer h₀) (F : Fr h₀ L s.heap m) (X : (hd.heap_39 w.params).In h₀) (T : Top p loose mean mg mb h₀) (hk : cs.kind = .function)
    (hd1 : dp + 8 < recursionLimit) {lr : Addr} {vs : List Value} {ns : List Int} (hl : s.heap.IsList lr vs.toArray) (hi : IntsAre vs ns) (hlen : ns.length = 12) {word : Int} {t : Tok}
    (hret : ∀ (ps : List Int) (l : Addr) (vs : List Value) (n : Nat) (h' : Heap) (tk' : Nat), toldF word ns = some ps → Kp s.heap h' → s.heap.get? l = none → h'.get? l = some (listOf vs.toArray n) → IntsAre vs ps → Q (.ref l) { s with heap := h', toks := tk' })
    (hnone : ∀ (h' : Heap) (tk' : Nat), toldF word ns = none → Kp s.heap h' → Q .none { s with heap := h', toks := tk' }) :
    wpAny (model P0 w) (ktrTop dp un gd cn cs L a ccd cl outer) (call (.ref 152) [.int word t, .ref lr]) Q E s := by
  refine enterC (binds := [("word", .int word t), ("rows", .ref lr)]) (fun n => [("one", n + 1)]) (fun y => if y = "rows" then some (.ref lr) else if y = "word" then some (.int word t) else none) B F X T rfl rfl hk (by k_is) (by k_is) ?room (BindsTo.of_eq rfl) rfl (fun _ => rfl) (fun _ => rfl) (by decide +kernel) ?_ rfl rfl rfl
  · ktr_room
  intro L' h₁ tk cells F' N' Y' B' X' T'
  k_cells Y'
  (try dsimp only); (try k_unmd); k_fold
  clear B F X T
  repeat' ((fail_if_success (with_reducible show wpAny _ _ (PySem.call (PySem.Value.ref 135) _ _) _ _ _)); (first | (k_unfold; (try dsimp only)) | ((first | (with_reducible show wpAny _ _ _ _ _ _) | (with_reducible show (ite _ _ _ : Prop)) | (with_reducible show InvPostN _ _ _ _ _ _ _ _ _)); (first | walk1 | (dsimp only; walk1)); (try dsimp only)) | ((with_reducible show (PySem.W.Frag.In _ _ ∧ _)); (refine And.intro (by k_in) ?_))))
  rename Fr _ _ _ _ => F1
  rename News _ _ _ _ => N1
  refine c_times w B' F1 X' T' rfl (by show dp + 1 + 4 < _; omega) (hl.at fun o e => F1.keep _ o e) hi hlen fun t1 h1 tk1 k1 => ?_
  replace F1 := kp_fr F1 k1
  replace N1 := kp_news N1 k1
  (try dsimp only)
  repeat' ((fail_if_success (with_reducible show wpAny _ _ (PySem.call (PySem.Value.ref 135) _ _) _ _ _)); (first | (k_unfold; (try dsimp only)) | ((first | (with_reducible show wpAny _ _ _ _ _ _) | (with_reducible show (ite _ _ _ : Prop)) | (with_reducible show InvPostN _ _ _ _ _ _ _ _ _)); (first | walk1 | (dsimp only; walk1)); (try dsimp only)) | ((with_reducible show (PySem.W.Frag.In _ _ ∧ _)); (refine And.intro (by k_in) ?_))))
  rename Fr _ _ _ _ => F2
  rename News _ _ _ _ => N2
  refine c_times w B' F2 X' T' rfl (by show dp + 1 + 4 < _; omega) (hl.at fun o e => F2.keep _ o e) hi hlen fun t2 h2 tk2 k2 => ?_
  replace F2 := kp_fr F2 k2
  replace N2 := kp_news N2 k2
  (try dsimp only)
  change wpAny _ _ _ _ _ _
  rw [show Builtin.bitXor (word.fmod 4096) (timesL (word.fdiv 4096) ns (rangeKs 0 12)) = gapF word ns from rfl] at *
  generalize hgp : gapF word ns = gp at *
  generalize hbk : timesL gp ns (rangeKs 0 12) = bk at *
  repeat' ((fail_if_success (with_reducible show wpAny _ _ (PySem.exec (PySem.Stmt.For _ _ _ _ _) _) _ _ _)); (first | (k_unfold; (try dsimp only)) | ((first | (with_reducible show wpAny _ _ _ _ _ _) | (with_reducible show (ite _ _ _ : Prop)) | (with_reducible show InvPostN _ _ _ _ _ _ _ _ _)); (first | walk1 | (dsimp only; walk1)); (try dsimp only)) | ((with_reducible show (PySem.W.Frag.In _ _ ∧ _)); (refine And.intro (by k_in) ?_))))
  refine for_exec ?_
  repeat' ((fail_if_success (with_reducible show wpAny _ _ (PySem.pyIter _) _ _ _)); (first | (k_unfold; (try dsimp only)) | ((first | (with_reducible show wpAny _ _ _ _ _ _) | (with_reducible show (ite _ _ _ : Prop)) | (with_reducible show InvPostN _ _ _ _ _ _ _ _ _)); (first | walk1 | (dsimp only; walk1)); (try dsimp only)) | ((with_reducible show (PySem.W.Frag.In _ _ ∧ _)); (refine And.intro (by k_in) ?_))))
  rename Fr _ _ _ _ => F3
  rename News _ _ _ _ => N3
  rename IsRange _ _ _ _ _ _ _ _ => R3
  rename Obj => oa
  rename (_ = Data.cell _) => hcd
  obtain ⟨lo, hlo⟩ := led_head N3
  subst hlo
  (try clear F1); (try clear N1); (try clear F2); (try clear N2)
  refine for_rangeN (σ := List Value × Nat) (n := 12) (fun c => [(lo, listOf c.1.toArray c.2), (L' + 1, oa)]) (fun _ => [("tries", .ref lo), ("back", .int bk t2), ("gap", .int gp tk1), ("rows", .ref lr)]) (fun i c => IntsAre c.1 (triesI gp bk ns i)) ([_, _], 0) rfl R3 (by decide) (by decide) F3 N3 (nam4 rfl rfl rfl rfl) (.cons _ _ (.cons _ _ .nil)) ?turn ?done (fun _ _ h => h) (fun _ _ => rfl)
  case turn =>
    rintro ⟨us, n⟩ i t' u h tk' own hik hadr hoff hI F' N'
    clear F3 N3 R3 hadr
    (try dsimp only at hI F' N' hoff)
    refine wpAny_assign_Name ?_
    repeat' ((fail_if_success (with_reducible show wpAny _ _ (PySem.call (PySem.Value.builtin "list.extend") _ _) _ _ _)); (first | (k_unfold; (try dsimp only)) | ((first | (with_reducible show wpAny _ _ _ _ _ _) | (with_reducible show (ite _ _ _ : Prop)) | (with_reducible show InvPostN _ _ _ _ _ _ _ _ _)); (first | walk1 | (dsimp only; walk1)); (try dsimp only)) | ((with_reducible show (PySem.W.Frag.In _ _ ∧ _)); (refine And.intro (by k_in) ?_))))
    rename Fr _ _ _ _ => F5
    rename News _ _ _ _ => N5
    have hlen2 : us.length = 2 + 2 * i := by rw [hI.length]; exact triesI_length ..
    refine extend_M (rest := (L' + 1, oa) :: own) F5 (news_sub N5 (fun p hp => .tail _ hp)) ?_ (N5 _ (.head _)).1 (by simp; omega) fun h6 n6 F6 N6 => ?_
    · intro p hp
      rcases List.mem_cons.mp hp with rfl | hp
      · exact Nat.ne_of_lt ‹_›
      · exact hoff p hp _ (.head _)
    (try dsimp only)
    clear F5 N5
    repeat' (first | (k_unfold; (try dsimp only)) | ((first | (with_reducible show wpAny _ _ _ _ _ _) | (with_reducible show (ite _ _ _ : Prop)) | (with_reducible show InvPostN _ _ _ _ _ _ _ _ _)); (first | walk1 | (dsimp only; walk1)); (try dsimp only)) | ((with_reducible show (PySem.W.Frag.In _ _ ∧ _)); (refine And.intro (by k_in) ?_)))
    rename Fr _ _ _ _ => F7
    rename News _ _ _ _ => N7
    refine kn_end (us ++ _, n6) F7 N7 (List.forall_mem_cons.mpr ⟨.head _, List.forall_mem_cons.mpr ⟨.tail _ (.head _), List.forall_mem_nil _⟩⟩) (fun p hp => .tail _ (.tail _ hp)) rfl (nam4 rfl rfl rfl rfl) ?_
    show IntsAre _ (triesI gp bk ns (i + 1))
    rw [triesI_step]
    refine hI.append ?_
    rw [show (0 + (i : Int)).toNat = i from by omega]
    exact .cons _ _ (.cons _ _ .nil)
  case done =>
    rintro ⟨us, n⟩ u h tk' hI F' N'
    clear F3 N3 R3
    (try dsimp only at hI F' N')
    repeat' ((fail_if_success (with_reducible show wpAny _ _ (PySem.exec (PySem.Stmt.For _ _ _ _ _) _) _ _ _)); (first | (k_unfold; (try dsimp only)) | ((first | (with_reducible show wpAny _ _ _ _ _ _) | (with_reducible show (ite _ _ _ : Prop)) | (with_reducible show InvPostN _ _ _ _ _ _ _ _ _)); (first | walk1 | (dsimp only; walk1)); (try dsimp only)) | ((with_reducible show (PySem.W.Frag.In _ _ ∧ _)); (refine And.intro (by k_in) ?_))))
    refine for_exec ?_
    repeat' ((fail_if_success (with_reducible show wpAny _ _ (PySem.pyIter _) _ _ _)); (first | (k_unfold; (try dsimp only)) | ((first | (with_reducible show wpAny _ _ _ _ _ _) | (with_reducible show (ite _ _ _ : Prop)) | (with_reducible show InvPostN _ _ _ _ _ _ _ _ _)); (first | walk1 | (dsimp only; walk1)); (try dsimp only)) | ((with_reducible show (PySem.W.Frag.In _ _ ∧ _)); (refine And.intro (by k_in) ?_))))
    rename Fr _ _ _ _ => F3
    rename News _ _ _ _ => N3
    refine for_listN (σ := Obj) (fun c => [(L' + 1, c)]) (fun _ => []) (fun i c => (∃ v, c.data = .cell v) ∧ ∀ x ∈ (triesI gp bk ns 12).take i, ¬ (bitsF x).length < 4) oa rfl (PySem.IsL.isList (N3 _ (.head _)).1) (N3 _ (.head _)).2.1 (fun q hq => by rw [List.mem_singleton.mp hq]; exact Nat.ne_of_lt ‹_›) F3 (news_sub N3 (fun p hp => .tail _ hp)) nam0 ⟨⟨_, hcd⟩, fun x hx => by simp at hx⟩ ?turn2 ?done2 (fun _ _ h => h) (fun _ _ => rfl)
    case turn2 =>
      rintro oc i v u2 h2 tk2 own hik hv hadr hoff ⟨⟨cv, hcv⟩, hno⟩ F' N'
      clear F3 N3 hadr
      (try dsimp only at F' N' hoff hcv)
      obtain ⟨one, t9, rfl, hone⟩ := hI.at i v (by simpa using hv)
      refine wpAny_assign_Name ?_
      repeat' ((fail_if_success (with_reducible show wpAny _ _ (PySem.exec (PySem.Stmt.Assign _ _ _) _) _ _ _)); (first | (k_unfold; (try dsimp only)) | ((first | (with_reducible show wpAny _ _ _ _ _ _) | (with_reducible show (ite _ _ _ : Prop)) | (with_reducible show InvPostN _ _ _ _ _ _ _ _ _)); (first | walk1 | (dsimp only; walk1)); (try dsimp only)) | ((with_reducible show (PySem.W.Frag.In _ _ ∧ _)); (refine And.intro (by k_in) ?_))))
      rename Fr _ _ _ _ => F4
      rename News _ _ _ _ => N4
      rename (_ = Data.cell (some _)) => hc4
      refine comp_assign (ks := rangeKs 0 24) F4 (fun k => bitB one k) (fun k y => ∃ t, y = .int k t) rfl rfl (by decide) rfl (by decide) rfl rfl rfl (by decide) ?_
      repeat' (first | (k_unfold; (try dsimp only)) | ((first | (with_reducible show wpAny _ _ _ _ _ _) | (with_reducible show (ite _ _ _ : Prop)) | (with_reducible show InvPostN _ _ _ _ _ _ _ _ _)); (first | walk1 | (dsimp only; walk1)); (try dsimp only)) | ((with_reducible show (PySem.W.Frag.In _ _ ∧ _)); (refine And.intro (by k_in) ?_)))
      rename Fr _ _ _ _ => F5
      rename News _ _ _ _ => N5
      rename IsRange _ _ _ _ _ _ _ _ => R5
      refine ⟨_, src_range rfl R5 (by decide) (by decide), F5, N5, ⟨?tests, ?elt⟩, ?ret⟩
      case tests =>
        intro C k t3 s₃ m₃ hk FC
        have hc := FC.keep _ _ (N5 _ (.head _)).1
        have NC := fr_nil FC
        (try dsimp only at FC NC hc)
        refine tests_one ?_
        have hk2 : 0 ≤ k ∧ k < 24 := by simp [rangeKs] at hk; omega
        repeat' ((fail_if_success (with_reducible show wpAny _ _ (PySem.eval (PySem.Expr.Name (PySem.Str.ofString "one") _) _) _ _ _)); (first | (k_unfold; (try dsimp only)) | ((first | (with_reducible show wpAny _ _ _ _ _ _) | (with_reducible show (ite _ _ _ : Prop)) | (with_reducible show InvPostN _ _ _ _ _ _ _ _ _)); (first | walk1 | (dsimp only; walk1)); (try dsimp only)) | ((with_reducible show (PySem.W.Frag.In _ _ ∧ _)); (refine And.intro (by k_in) ?_))))
        refine nm_cell rfl hc hc4 ?_
        repeat' ((fail_if_success (with_reducible show wpAny _ _ (PySem.eval (PySem.Expr.Name (PySem.Str.ofString "k") _) _) _ _ _)); (first | (k_unfold; (try dsimp only)) | ((first | (with_reducible show wpAny _ _ _ _ _ _) | (with_reducible show (ite _ _ _ : Prop)) | (with_reducible show InvPostN _ _ _ _ _ _ _ _ _)); (first | walk1 | (dsimp only; walk1)); (try dsimp only)) | ((with_reducible show (PySem.W.Frag.In _ _ ∧ _)); (refine And.intro (by k_in) ?_))))
        refine nm_loc FC rfl ?_
        repeat' (first | (k_unfold; (try dsimp only)) | ((first | (with_reducible show wpAny _ _ _ _ _ _) | (with_reducible show (ite _ _ _ : Prop)) | (with_reducible show InvPostN _ _ _ _ _ _ _ _ _)); (first | walk1 | (dsimp only; walk1)); (try dsimp only)) | ((with_reducible show (PySem.W.Frag.In _ _ ∧ _)); (refine And.intro (by k_in) ?_)))
        exact ⟨rfl, _, _, rfl, fun _ _ e => e⟩
      case elt =>
        intro C k t3 s₃ m₃ hk hp FC
        have NC := fr_nil FC
        (try dsimp only at FC NC)
        refine nm_loc FC rfl ?_
        exact ⟨⟨_, rfl⟩, _, _, rfl, fun _ _ e => e⟩
      case ret =>
        intro D nn ys h8 tk8 F8 N8 hne hkeep hpair
        have I8 := paired_ints (g := id) hpair
        rw [List.map_id] at I8
        clear hpair F5 N5
        have hyl : ys.length ≤ 24 := by rw [I8.length]; exact Nat.le_trans (List.length_filter_le ..) (by simp [rangeKs])
        (try dsimp only at F8 N8)
        repeat' ((fail_if_success (with_reducible show wpAny _ _ (PySem.call (PySem.Value.builtin "len") _ _) _ _ _)); (first | (k_unfold; (try dsimp only)) | ((first | (with_reducible show wpAny _ _ _ _ _ _) | (with_reducible show (ite _ _ _ : Prop)) | (with_reducible show InvPostN _ _ _ _ _ _ _ _ _)); (first | walk1 | (dsimp only; walk1)); (try dsimp only)) | ((with_reducible show (PySem.W.Frag.In _ _ ∧ _)); (refine And.intro (by k_in) ?_))))
        refine call_len_list (PySem.IsL.isList (N8 _ (.head _)).1) (by simp; omega) ?_
        repeat' (first | (k_unfold; (try dsimp only)) | ((first | (with_reducible show wpAny _ _ _ _ _ _) | (with_reducible show InvPostN _ _ _ _ _ _ _ _ _)); (first | walk1 | (dsimp only; walk1)); (try dsimp only)) | ((with_reducible show (PySem.W.Frag.In _ _ ∧ _)); (refine And.intro (by k_in) ?_)))
        rw [show ys.toArray.size = (bitsF one).length from by rw [List.size_toArray, I8.length]; rfl]
        by_cases h4 : (bitsF one).length < 4
        · rw [if_pos (by rw [decide_eq_true_eq]; omega)]
          repeat' (first | (k_unfold; (try dsimp only)) | ((first | (with_reducible show wpAny _ _ _ _ _ _) | (with_reducible show (ite _ _ _ : Prop)) | (with_reducible show InvPostN _ _ _ _ _ _ _ _ _)); (first | walk1 | (dsimp only; walk1)); (try dsimp only)) | ((with_reducible show (PySem.W.Frag.In _ _ ∧ _)); (refine And.intro (by k_in) ?_)))
          rename Fr _ _ _ _ => F9
          rename News _ _ _ _ => N9
          refine hret (bitsF one) D ys nn _ _ ?_ F9.keep (N9 _ (.head _)).2.2 (N9 _ (.head _)).1 I8
          rw [toldF, hgp, hbk, find_at hone (by simpa using h4) (fun y hy => by simpa using hno y hy)]
          rfl
        · rw [if_neg (by rw [decide_eq_true_eq]; omega)]
          repeat' (first | (k_unfold; (try dsimp only)) | ((first | (with_reducible show wpAny _ _ _ _ _ _) | (with_reducible show (ite _ _ _ : Prop)) | (with_reducible show InvPostN _ _ _ _ _ _ _ _ _)); (first | walk1 | (dsimp only; walk1)); (try dsimp only)) | ((with_reducible show (PySem.W.Frag.In _ _ ∧ _)); (refine And.intro (by k_in) ?_)))
          rename Fr _ _ _ _ => F9
          rename News _ _ _ _ => N9
          refine kn_end _ F9 N9 (List.forall_mem_cons.mpr ⟨.tail _ (.head _), List.forall_mem_nil _⟩) (fun p hp => .tail _ (.tail _ hp)) rfl nam0 ⟨⟨_, ‹_›⟩, fun x hx => ?_⟩
          rw [List.take_add_one, hone] at hx
          rcases List.mem_append.mp hx with hx | hx
          · exact hno x hx
          · rw [List.mem_singleton.mp hx]; exact h4
    case done2 =>
      rintro oc u2 h2 tk2 ⟨⟨cv, hcv⟩, hno⟩ F' N'
      clear F3 N3
      (try dsimp only at F' N')
      repeat' (first | (k_unfold; (try dsimp only)) | ((first | (with_reducible show wpAny _ _ _ _ _ _) | (with_reducible show (ite _ _ _ : Prop)) | (with_reducible show InvPostN _ _ _ _ _ _ _ _ _)); (first | walk1 | (dsimp only; walk1)); (try dsimp only)) | ((with_reducible show (PySem.W.Frag.In _ _ ∧ _)); (refine And.intro (by k_in) ?_)))
      refine hnone _ _ ?_ F'.keep
      rw [toldF, hgp, hbk, find_no (n := us.toArray.size) (by rw [List.size_toArray, hI.length]; exact Nat.le_refl _) (fun y hy => by simpa using hno y hy)]
      rfl
end
section
/-- every object of g but those at as stands in h -/
abbrev KpX (as : List Addr) (g h : Heap) : Prop := ∀ b o, b ∉ as → g.get? b = some o → h.get? b = some o
theorem hide_fr {h₀ h : Heap} {L : Addr} {m : Str → Option Value} (as : List Addr) (F : Fr h₀ L h m) : Fr (hideAll h₀ as) L h m :=
  ⟨F.ns, fun b o e => F.keep b o (of_hideAll _ e), Nat.le_trans (Nat.le_of_eq (hideAll_size _ _)) F.above⟩
theorem hide_fresh {h : Heap} {as : List Addr} {b : Addr} (e : h.get? b = none) : (hideAll h as).get? b = none := by
  cases q : (hideAll h as).get? b with
  | none => rfl
  | some o => rw [of_hideAll _ q] at e; cases e
theorem hide_news {h₀ h g : Heap} {L L₀ : Addr} {m : Str → Option Value} {cells hid : List (Addr × Obj)} (F : Fr g L h m) (N : News g L h cells) (H : News h₀ L₀ g hid) : News (hideAll g (hid.map (·.1))) L h (cells ++ hid) := fun p hp => by
  rcases List.mem_append.mp hp with hp | hp
  · exact ⟨(N p hp).1, (N p hp).2.1, hide_fresh (N p hp).2.2⟩
  · exact ⟨F.keep _ _ (H p hp).1, Nat.ne_of_lt (Nat.lt_of_lt_of_le (Heap.lt_size (H p hp).1) F.above), hideAll_none _ (List.mem_map_of_mem hp)⟩
theorem kpx_of {g h : Heap} {as : List Addr} {L : Addr} {m : Str → Option Value} (F : Fr (hideAll g as) L h m) : KpX as g h := fun b o hb e => F.keep b o (hideAll_get _ e hb)
theorem kpx_fr {g h h' : Heap} {L D : Addr} {o : Obj} {m : Str → Option Value} (F : Fr g L h m) (H : News g L h [(D, o)]) (k : KpX [D] h h') : Fr g L h' m := by
  have z := H _ (.head _)
  refine ⟨F.ns.at' fun ob e => k _ ob (fun hb => ?_) e, fun b ob e => k b ob (fun hb => ?_) (F.keep b ob e), F.above⟩
  · exact z.2.1 (List.mem_singleton.mp hb).symm
  · rw [List.mem_singleton.mp hb, z.2.2] at e; cases e
theorem kpx_news {g h h' : Heap} {L D : Addr} {news : List (Addr × Obj)} (N : News g L h news) (hn : ∀ q ∈ news, q.1 ≠ D) (k : KpX [D] h h') : News g L h' news := fun p hp =>
  ⟨k _ _ (fun hb => hn p hp (List.mem_singleton.mp hb)) (N p hp).1, (N p hp).2⟩
theorem news_one {g h h' : Heap} {L D : Addr} {o o' : Obj} (H : News g L h [(D, o)]) (e : h'.get? D = some o') : News g L h' [(D, o')] := fun p hp => by
  rw [List.mem_singleton.mp hp]; exact ⟨e, (H _ (.head _)).2⟩
theorem kpx_trans {as : List Addr} {g h k : Heap} (a : KpX as g h) (b : KpX as h k) : KpX as g k := fun x o hx e => b x o hx (a x o hx e)
section
variable {prog : Program} {w : World} {A A₀ : Around} {s : Shared} {K : Frag} {L : Addr} {h₀ base : Heap} {m mg mb : Str → Option Value} {p : Program} {loose : List Str} {mean : ExcName → Option Value} {Q E : Value → Shared → Prop}
/-- a call of a def with cells, some objects of the heap laid aside (they may be changed) -/
theorem enterH {env : Env} {outer : List Env} {name qual : Str} {params : Arguments} {body : List Stmt} {scope : Scope} {dV kV doc pm cdv ct oc : Value} {an od : Option Addr} {osl : Array (Option Value)} {f : Addr} {pos : List Value} {kw : List (Str × Value)} {binds : List (Str × Value)} (cl : Addr → List (Str × Addr)) (ml : Str → Option Value) {hid : List (Addr × Obj)} (H : News h₀ L s.heap hid)
    (B : Below A₀ base outer h₀) (F : Fr h₀ L s.heap m) (X₀ : K.In h₀) (T : Top p loose mean mg mb h₀) (hA : A.frames = some (env :: outer)) (hf : env.frame = some L) (hke : env.scope.kind = .function)
    (ho : K.lookup f = some ⟨oc, od, .func (fnX name qual params body scope [] dV kV doc pm an cdv ct), osl⟩) (hcd : codeIn K cdv qual = true) (hroom : A.depth < recursionLimit)
    (hbind : BindsTo s (fnX name qual params body scope [] dV kV doc pm an cdv ct) ⟨pos, kw⟩ binds) (hkind : (binds.all fun y => scope.names.lookup y.1 == some .local || scope.names.lookup y.1 == some .cell) = true)
    (hml : ∀ L', bindL (envOfC qual scope L' f cdv).kindOf binds (fun _ => none) = ml) (hcl : ∀ n, cellsFrom (n + 1) scope.names [] = cl n) (hnd : ((cellsFrom 0 scope.names []).map (·.1)).Nodup)
    (h : ∀ g L' h₁ tk cells, g = hideAll s.heap (hid.map (·.1)) → Fr g L' h₁ ml → News g L' h₁ (cells ++ hid) → News s.heap L' h₁ cells →
      CellsAre (bindC (envOfC qual scope L' f cdv).kindOf binds fun _ => none) (cl L') cells → (∀ q ∈ hid, q.1 < L') → Below A base (env :: outer) g → K.In g → Top p loose mean mg mb g →
      wpAny (model prog w) (A.deeper (envX qual scope L' f cdv (cl L'))) (execs body (envX qual scope L' f cdv (cl L')))
        (fun fl s' => Q (match fl with | .ret v => v | _ => .none) s') (fun _ _ => False) { s with heap := h₁, toks := tk })
    (hco : scope.isCoroutine = false) (hgen : scope.isGenerator = false) (hk : scope.kind = .function) : wpAny (model prog w) A (call (.ref f) pos kw) Q E s := by
  obtain ⟨_, BG, st, _⟩ := groundX (R := fun _ _ => True) B F H hA hf hke
  refine enterC cl ml B F X₀ T hA hf hke ho hcd hroom hbind hkind hml hcl hnd (fun L' h₁ tk cells F' N' Y' B' X' T' => ?_) hco hgen hk
  exact h _ L' h₁ tk cells rfl (hide_fr _ F') (hide_news F' N' H) N' Y' (fun q hq => Nat.lt_of_lt_of_le (Heap.lt_size (H q hq).1) F'.above) BG (X₀.keeps st) (T.keeps st)
/-- a call of a def that the call made, its closure at hand, some objects of the heap laid aside -/
theorem enterN {env : Env} {outer : List Env} {name qual : Str} {params : Arguments} {body : List Stmt} {scope : Scope} {cl : List (Str × Addr)} {dV kV doc pm cdv ct oc : Value} {an od : Option Addr} {osl : Array (Option Value)} {f : Addr} {pos : List Value} {kw : List (Str × Value)} {binds : List (Str × Value)} {hid : List (Addr × Obj)} (H : News h₀ L s.heap hid)
    (B : Below A₀ base outer h₀) (F : Fr h₀ L s.heap m) (X₀ : K.In h₀) (T : Top p loose mean mg mb h₀) (hA : A.frames = some (env :: outer)) (hf : env.frame = some L) (hke : env.scope.kind = .function)
    (ho : s.heap.get? f = some ⟨oc, od, .func (fnX name qual params body scope cl dV kV doc pm an cdv ct), osl⟩) (hcd : s.heap.CodeRec cdv qual) (hroom : A.depth < recursionLimit)
    (hbind : BindsTo s (fnX name qual params body scope cl dV kV doc pm an cdv ct) ⟨pos, kw⟩ binds) (hloc : ∀ y ∈ binds, scope.names.lookup y.1 = some .local)
    (h : ∀ g L' h₁ tk, g = hideAll s.heap (hid.map (·.1)) → Fr g L' h₁ (kstB (fun _ => none) binds.reverse) → News g L' h₁ hid → (∀ b o, s.heap.get? b = some o → h₁.get? b = some o) → Below A base (env :: outer) g → K.In g → Top p loose mean mg mb g →
      wpAny (model prog w) (A.deeper (envX qual scope L' f cdv cl)) (execs body (envX qual scope L' f cdv cl))
        (fun fl s' => Q (match fl with | .ret v => v | _ => .none) s') (fun _ _ => False) { s with heap := h₁, toks := tk })
    (hcell : ∀ x ∈ scope.names, x.2 ≠ .cell) (hco : scope.isCoroutine = false) (hgen : scope.isGenerator = false) (hk : scope.kind = .function) : wpAny (model prog w) A (call (.ref f) pos kw) Q E s := by
  obtain ⟨_, BG, st, _⟩ := groundX (R := fun _ _ => True) B F H hA hf hke
  have TT := T.keeps F.keep
  refine wpAny_call (codeAny_call_def (fd := fnX name qual params body scope cl dV kV doc pm an cdv ct) (body := body) (binds := binds) hroom ho rfl TT.nolimit hcd rfl hbind hcell hloc (fun h₁ hns hk₁ => ?_) hco hgen hk)
  have F' : Fr s.heap s.heap.objs.size h₁ (kstB (fun _ => none) binds.reverse) := ⟨by rw [kstB_lookup]; exact hns, hk₁, Nat.le_refl _⟩
  have N' := hide_news F' News.nil H
  exact wpAny_mono (h _ s.heap.objs.size h₁ _ rfl (hide_fr _ F') N' hk₁ BG (X₀.keeps st) (T.keeps st)) (fun fl s' hl => hl) fun _ _ y => y.elim
theorem nm_free {M : Model} {x : Str} {pos : Pos} {c : Addr} {o : Obj} {v : Value} {cn : Str} {cs : Scope} {L a : Addr} {ccd : Value} {cl : List (Str × Addr)} (hc : cl.lookup x = some c) (ho : s.heap.get? c = some o) (hd : o.data = .cell (some v)) (h : Q v s)
    (hk : cs.kind = .function := by rfl) (hx : (envX cn cs L a ccd cl).kindOf x = some .free := by rfl) (hb : (x == ("__debug__" : Str)) = false := by decide) (hn : (x == ("__classdict__" : Str)) = false := by decide) :
    wpAny M A (eval (.Name x pos) (envX cn cs L a ccd cl)) Q E s := wpAny_Name (wpAny_loadName_free hk hx hc ⟨o, ho, hd⟩ h hn) hb
end
theorem news_rot {g h : Heap} {L : Addr} {x : Addr × Obj} {l : List (Addr × Obj)} (N : News g L h (l ++ [x])) : News g L h (x :: l) := fun p hp => N p (by
  rcases List.mem_cons.mp hp with rfl | hp
  · exact List.mem_append_right _ (.head _)
  · exact List.mem_append_left _ hp)
theorem of_head {P : Addr → Obj → Prop} {C : Prop} {g h : Heap} {L f : Addr} {o : Obj} {r : List (Addr × Obj)} (_N : News g L h ((f, o) :: r)) (h1 : P f o) (h2 : P f o → C) : C := h2 h1
theorem codeRec_kp {h h' : Heap} {cd : Value} {q : Str} (x : h.CodeRec cd q) (k : Kp h h') : h'.CodeRec cd q :=
  let ⟨c, o, vs, t, e, e2, r⟩ := x; ⟨c, o, vs, t, e, k _ _ e2, r⟩
/-- the table of a def's codes: empty, or with the inner def's code -/
def TabOk (q : Str) (pos : Pos) (ps : Array Value) (h : Heap) : Prop := ps = #[] ∨ ∃ c', ps = #[rawInt pos.line, rawInt pos.col, .ref c'] ∧ h.CodeRec (.ref c') q
theorem tabOk_hide {h₀ g : Heap} {L P : Addr} {q : Str} {pos : Pos} {ps : Array Value} (H : News h₀ L g [(P, tabObj ps)]) (x : TabOk q pos ps g) : TabOk q pos ps (hideAll g [P]) := by
  rcases x with e | ⟨c', e, c₂, oc, vs, t, e2, hoc, hd, hv⟩
  · exact .inl e
  · refine .inr ⟨c', e, c₂, oc, vs, t, e2, hideAll_get _ hoc fun hb => ?_, hd, hv⟩
    have h1 := (H _ (.head _)).1
    rw [List.mem_singleton.mp hb] at hoc
    (try dsimp only at h1)
    rw [hoc] at h1
    cases h1
    cases hd
    rw [e] at hv
    cases hv
theorem hide_kp {h₀ g : Heap} {L P : Addr} {o : Obj} (H : News h₀ L g [(P, o)]) (k : Kp h₀ g) : Kp h₀ (hideAll g [P]) := fun b ob e =>
  hideAll_get _ (k b ob e) fun hb => by rw [List.mem_singleton.mp hb, (H _ (.head _)).2.2] at e; cases e
theorem list_hide {h₀ g : Heap} {L P l : Addr} {ps : Array Value} {its : Array Value} (H : News h₀ L g [(P, tabObj ps)]) (x : g.IsList l its) : (hideAll g [P]).IsList l its := by
  obtain ⟨o, e, hc, r⟩ := x
  refine ⟨o, hideAll_get _ e fun hb => ?_, hc, r⟩
  have h1 := (H _ (.head _)).1
  (try dsimp only at h1)
  rw [List.mem_singleton.mp hb, h1] at e
  cases e; cases hc
theorem itemL {prog : Program} {w : World} {A : Around} {E : Value → Shared → Prop} {s : Shared} {value slice : Expr} {l : Addr} {vs : List Value} {k : Int} {u : Tok} {v : Value} {Q : Value → Shared → Prop}
    (hl : s.heap.IsList l vs.toArray) (h0 : 0 ≤ k) (hhi : k < 2 ^ 63) (hx : vs[k.toNat]? = some v) (h : Q v s)
    (hs : subscripted slice false (.ref l) (.int k u) = operate [.ref l, .int k u] (getItem (.ref l) (.int k u)) := by with_unfolding_all rfl) :
    wpAny (model prog w) A (subscriptTail value slice (.ref l) (.int k u)) Q E s :=
  tail_any hl.typeIs slot_list_getitem.lookup (wpAny_getItem_list hl h0 hhi (by simpa using hx) h) hs
theorem storeC {M : Model} {A : Around} {E : Value → Shared → Prop} {s : Shared} {h₀ : Heap} {L a : Addr} {m : Str → Option Value} {cn : Str} {cs : Scope} {ccd : Value} {cl : List (Str × Addr)}
    {x : Str} {v : Value} {Q : Unit → Shared → Prop} {news : List (Addr × Obj)} {g : Obj → List (Addr × Obj)} {c : Addr} {o : Obj} {v₀ : Option Value} (F : Fr h₀ L s.heap m) (N : News h₀ L s.heap news) (hc : cl.lookup x = some c) (U : UpdF c o news g) (hd : o.data = .cell v₀)
    (h : ∀ h' o', Fr h₀ L h' m → News h₀ L h' (g o') → o'.data = .cell (some v) → (∀ cd q, s.heap.CodeRec cd q → h'.CodeRec cd q) → Q () { s with heap := h' })
    (hk : cs.kind = .function := by rfl) (hx : (envX cn cs L a ccd cl).kindOf x = some .cell := by rfl) : wpAny M A (storeName (envX cn cs L a ccd cl) x v) Q E s := by
  obtain ⟨own, rest, rfl, hg, h1, h2⟩ := U.split
  have hmem := N _ (List.mem_append_right own (.head _))
  refine wpAny_storeName_cell hk hx hc ⟨o, hmem.1, hd⟩ fun h' hv hs => ?_
  obtain ⟨o', ho', hd'⟩ := hv
  refine h h' o' ⟨F.ns.sameBut hs (Ne.symm hmem.2.1), fun b ob e => (hs.2 b (fun q => ?_)).trans (F.keep b ob e), F.above⟩ (hg o' ▸ N.setAt h1 h2 hs ho') hd' ?_
  · rw [q, hmem.2.2] at e; cases e
  · rintro cd q ⟨c₂, oc, vs, t, e2, hoc, hd2, hv2⟩
    refine ⟨c₂, oc, vs, t, e2, (hs.2 c₂ fun e => ?_).trans hoc, hd2, hv2⟩
    rw [e, hmem.1] at hoc
    cases hoc
    rw [hd] at hd2
    cases hd2
/-- the inner def is made: its code new or met -/
theorem makeT {M : Model} {A : Around} {E : Value → Shared → Prop} {s : Shared} {h₀ : Heap} {L a c P : Addr} {m mg mb : Str → Option Value} {cn : Str} {cs : Scope} {ccd : Value} {cl : List (Str × Addr)} {rest : List (Addr × Obj)}
    {p : Program} {loose : List Str} {mean : ExcName → Option Value} {name qual : Str} {params : Arguments} {body : List Stmt} {scope : Scope} {ps : Array Value} {pos : Pos} {firstLine : Nat} {clos : List (Str × Addr)} {Q : Value → Shared → Prop}
    (F : Fr h₀ L s.heap m) (N : News h₀ L s.heap ((P, tabObj ps) :: rest)) (hne : ∀ q ∈ rest, q.1 ≠ P) (T : Top p loose mean mg mb h₀) (C : CodeHd h₀ c P) (hcd : ccd = .ref c) (hps : TabOk qual pos ps h₀)
    (hcl : closureFor scope (envX cn cs L a ccd cl) = pure clos)
    (h : ∀ f c' ctv doc h' tk, Fr h₀ L h' m → News h₀ L h' ((f, fnMade name qual params body scope clos doc ((mg "__name__").getD .none) c' ctv) :: (P, tabObj #[rawInt pos.line, rawInt pos.col, .ref c']) :: rest) →
      h'.CodeRec (.ref c') qual → (ps = #[rawInt pos.line, rawInt pos.col, .ref c'] ∨ (h₀.get? c' = none ∧ c' ≠ P)) → (∀ q ∈ (P, tabObj ps) :: rest, q.1 < f) → Q (.ref f) { s with heap := h', toks := tk }) :
    wpAny M A (makeFunction name qual params (.stmts body) scope (envX cn cs L a ccd cl) [] [] [] pos firstLine) Q E s := by
  rcases hps with rfl | ⟨c', rfl, hrec⟩
  · refine nest_K F N T C hcd (.head hne) trivial rfl hcl fun f c' oc vs t ctv doc h' tk F' N' hd hv hlt hlt2 => ?_
    refine h f c' ctv doc h' tk F' ?_ (codeRec_news N' (.tail _ (.head _)) hd hv) (.inr ⟨(N' _ (.tail _ (.head _))).2.2, Nat.ne_of_gt (hlt _ (.head _))⟩) (fun q hq => Nat.lt_trans (hlt q hq) hlt2)
    refine news_sub N' fun q hq => ?_
    rcases List.mem_cons.mp hq with rfl | hq
    · exact .head _
    · refine .tail _ (.tail _ ?_)
      exact List.mem_cons.mpr (by simpa using hq)
  · refine nestHit_K F N T C hcd (.head _) trivial (c' := c') ?_ hcl fun f ctv doc h' tk F' N' hlt => ?_
    · simp [codeAmong, rawInt]
    · obtain ⟨c₂, oc, vs, t, e2, hoc, hd, hv⟩ := hrec
      exact h f c' ctv doc h' tk F' N' ⟨c₂, oc, vs, t, e2, F'.keep _ _ hoc, hd, hv⟩ (.inl rfl) hlt
end
section
def dval : List Int → Int
  | [] => 0
  | k :: r => k + 256 * dval r
theorem dval_append : ∀ (a b : List Int), dval (a ++ b) = dval a + 256 ^ a.length * dval b
  | [], b => by simp [dval]
  | k :: a, b => by simp only [List.cons_append, dval, dval_append a b, List.length_cons, Int.pow_succ]; rw [Int.mul_add, ← Int.mul_assoc, Int.mul_comm 256 (256 ^ a.length)]; omega
theorem dval_rng : ∀ {a : List Int}, (∀ k ∈ a, 0 ≤ k ∧ k < 256) → 0 ≤ dval a ∧ dval a < 256 ^ a.length
  | [], _ => by simp [dval]
  | k :: a, h => by
    have h1 := h k (.head _)
    have h2 := dval_rng fun x hx => h x (.tail _ hx)
    simp only [dval, List.length_cons, Int.pow_succ]
    omega
def segI (ns : List Int) (lo hi : Nat) : List Int := (ns.take hi).drop lo
theorem segI_split (ns : List Int) {lo mid hi : Nat} (h1 : lo ≤ mid) (h2 : mid ≤ hi) : segI ns lo hi = segI ns lo mid ++ segI ns mid hi := by
  unfold segI
  have e : ns.take hi = ns.take mid ++ (ns.take hi).drop mid := by
    have := List.take_append_drop mid (ns.take hi)
    rw [List.take_take, Nat.min_eq_left h2] at this
    exact this.symm
  by_cases hm : mid ≤ ns.length
  · conv => lhs; rw [e]
    rw [List.drop_append_of_le_length (by rw [List.length_take]; omega)]
  · rw [List.take_of_length_le (by omega : ns.length ≤ hi), List.take_of_length_le (by omega : ns.length ≤ mid), List.drop_of_length_le (by omega : ns.length ≤ mid), List.append_nil]
theorem segI_one {ns : List Int} {lo : Nat} {k : Int} (h : ns[lo]? = some k) : segI ns lo (lo + 1) = [k] := by
  unfold segI
  rw [List.take_add_one, h]
  have hl : lo < ns.length := (List.getElem?_eq_some_iff.mp h).1
  rw [List.drop_append_of_le_length (by rw [List.length_take]; omega), List.drop_of_length_le (by rw [List.length_take]; omega)]
  rfl
theorem segI_length {ns : List Int} {lo hi : Nat} (h : hi ≤ ns.length) : (segI ns lo hi).length = hi - lo := by
  unfold segI; rw [List.length_drop, List.length_take]; omega
theorem segI_sub {ns : List Int} {lo hi : Nat} : ∀ k ∈ segI ns lo hi, k ∈ ns := fun k hk => List.mem_of_mem_take (List.mem_of_mem_drop hk)
theorem segI_b {ns : List Int} (hrg : ∀ k ∈ ns, 0 ≤ k ∧ k < 256) (hlen : ns.length = 3) {lo hi : Nat} (h : hi ≤ ns.length) : 0 ≤ dval (segI ns lo hi) ∧ dval (segI ns lo hi) < 16777216 := by
  have h1 := dval_rng (a := segI ns lo hi) fun _ hk => hrg _ (segI_sub _ hk)
  rw [segI_length h] at h1
  have h3 : hi - lo = 0 ∨ hi - lo = 1 ∨ hi - lo = 2 ∨ hi - lo = 3 := by omega
  rcases h3 with e | e | e | e <;> rw [e] at h1 <;> simp at h1 <;> omega
theorem dval_split {ns : List Int} {lo md hi : Nat} (h1 : lo ≤ md) (h2 : md ≤ hi) (h3 : hi ≤ ns.length) : dval (segI ns md hi) * 2 ^ (((md : Int) - lo) * 8).toNat + dval (segI ns lo md) = dval (segI ns lo hi) := by
  rw [segI_split ns h1 h2, dval_append, segI_length (by omega), show (((md : Int) - lo) * 8).toNat = 8 * (md - lo) from by omega, Int.pow_mul, Int.mul_comm]
  show 256 ^ (md - lo) * _ + _ = _
  omega
/-- the inner def's contract: from any surroundings in which the heap of its making stands -/
def Rec2 (w : World) (hd0 : Heap) (ns : List Int) (f : Addr) (o : Obj) : Prop :=
  hd0.get? f = some o → ∀ (n : Nat) {p : Program} {loose : List Str} {mean : ExcName → Option Value} {mg mb : Str → Option Value}
    {dp un : Nat} {gd : Option (List Code)} {cn : Str} {cs : Scope} {a : Addr} {ccd : Value} {cl : List (Str × Addr)} {outer : List Env} {A₀ : Around} {base h₀ : Heap} {L : Addr} {m : Str → Option Value} {s : Shared} {Q E : Value → Shared → Prop}
    (_B : Below A₀ base outer h₀) (_F : Fr h₀ L s.heap m) (_X : (hd.heap_39 w.params).In h₀) (_T : Top p loose mean mg mb h₀) (_hk : cs.kind = .function)
    (_hd1 : dp + 2 * n + 2 < recursionLimit) (lo hi : Nat) (t u : Tok) (_h1 : lo < hi) (_h2 : hi ≤ ns.length) (_hn : hi - lo ≤ n) (_hkp : Kp hd0 s.heap)
    (_hret : ∀ (t : Tok) (h' : Heap) (tk' : Nat), Kp s.heap h' → Q (.int (dval (segI ns lo hi)) t) { s with heap := h', toks := tk' }),
    wpAny (model P0 w) (ktrTop dp un gd cn cs L a ccd cl outer) (call (.ref f) [.int lo t, .int hi u]) Q E s
set_option maxRecDepth 100000 in
set_option maxHeartbeats 8000000 in
theorem c_d2i (w : World) {p : Program} {loose : List Str} {mean : ExcName → Option Value} {mg mb : Str → Option Value}
    {dp un : Nat} {gd : Option (List Code)} {cn : Str} {cs : Scope} {a : Addr} {ccd : Value} {cl : List (Str × Addr)} {outer : List Env} {A₀ : Around} {base h₀ : Heap} {L : Addr} {m : Str → Option Value} {s : Shared} {Q E : Value → Shared → Prop}
    (B : Below A₀ base outer h₀) (F : Fr h₀ L s.heap m) (X : (hd.heap_39 w.params).In h₀) (T : Top p loose mean mg mb h₀) (hk : cs.kind = .function)
    (hd1 : dp + 16 < recursionLimit) {ps : Array Value} (H : News h₀ L s.heap [(111, tabObj ps)]) (C : CodeHd h₀ 115 111) (hps : TabOk "_digits2int.<locals>.inner" ⟨166, 4, 171, 55⟩ ps s.heap) {ld : Addr} {vs : List Value} {ns : List Int} (hl : s.heap.IsList ld vs.toArray) (hi : IntsAre vs ns) (hlen : ns.length = 3) (hrg : ∀ k ∈ ns, 0 ≤ k ∧ k < 256) {tn : Tok}
    (hret : ∀ (t : Tok) (h' : Heap) (tk' : Nat) (c' : Addr), KpX [111] s.heap h' → h'.get? 111 = some (tabObj #[rawInt 166, rawInt 4, .ref c']) → h'.CodeRec (.ref c') "_digits2int.<locals>.inner" → (ps = #[rawInt 166, rawInt 4, .ref c'] ∨ s.heap.get? c' = none) → Q (.int (dval ns) t) { s with heap := h', toks := tk' }) :
    wpAny (model P0 w) (ktrTop dp un gd cn cs L a ccd cl outer) (call (.ref 116) [.ref ld, .int 8 tn]) Q E s := by
  refine enterH (binds := [("digits", .ref ld), ("n", .int 8 tn)]) (fun n => [("inner", n + 1 + 1 + 1), ("n", n + 1 + 1), ("digits", n + 1)]) (fun _ => none) H B F X T rfl rfl hk (by k_is) (by k_is) ?room (BindsTo.of_eq rfl) rfl (fun _ => rfl) (fun _ => rfl) (by decide +kernel) ?_ rfl rfl rfl
  · ktr_room
  intro g L' h₁ tk cells hg F' N' N₀ Y' hlt B' X' T'
  obtain ⟨o1, o2, o3, he, d1, d2, d3⟩ := CellsAre.three Y'
  subst he
  clear Y'
  (try dsimp only); (try k_unmd); k_fold
  repeat' ((fail_if_success (with_reducible show wpAny _ _ (PySem.exec (PySem.Stmt.FunctionDef _ _ _ _ _ _ _ _ _ _) _) _ _ _)); (first | (k_unfold; (try dsimp only)) | ((first | (with_reducible show wpAny _ _ _ _ _ _) | (with_reducible show (ite _ _ _ : Prop)) | (with_reducible show InvPostN _ _ _ _ _ _ _ _ _)); (first | walk1 | (dsimp only; walk1)); (try dsimp only)) | ((with_reducible show (PySem.W.Frag.In _ _ ∧ _)); (refine And.intro (by k_in) ?_))))
  have hk0 : Kp h₀ g := hg ▸ hide_kp H F.keep
  have hps' : TabOk "_digits2int.<locals>.inner" ⟨166, 4, 171, 55⟩ ps g := hg ▸ tabOk_hide H hps
  have h111 := hlt _ (.head _)
  (try dsimp only at h111)
  refine nestDef_K rfl rfl rfl ?_
  refine makeT F' (news_rot N') ?_ T' (C.keeps hk0) rfl hps' rfl fun f c' ctv doc h2 tk2 F2 N2 hrec hnew hlf => ?_
  · exact List.forall_mem_cons.mpr ⟨Nat.ne_of_gt (Nat.lt_of_lt_of_le h111 (Nat.le_add_right L' 3)), List.forall_mem_cons.mpr ⟨Nat.ne_of_gt (Nat.lt_of_lt_of_le h111 (Nat.le_add_right L' 2)), List.forall_mem_cons.mpr ⟨Nat.ne_of_gt (Nat.lt_of_lt_of_le h111 (Nat.le_add_right L' 1)), List.forall_mem_nil _⟩⟩⟩
  have hf1 := hlf _ (.tail _ (.head _))
  (try dsimp only at hf1)
  clear F' N' N₀
  (try dsimp only)
  replace hrec : h2.CodeRec (.ref c') "_digits2int.<locals>.inner" := hrec
  refine storeC F2 N2 rfl (.tail (Nat.ne_of_gt hf1) (.tail (Nat.ne_of_lt (Nat.lt_of_lt_of_le h111 (Nat.le_add_right L' 3))) (.head ?_))) d1 fun h3 o4 F3 N3 d4 hcr => ?_
  · exact List.forall_mem_cons.mpr ⟨Nat.ne_of_lt (Nat.lt_succ_self _), List.forall_mem_cons.mpr ⟨Nat.ne_of_lt (Nat.lt_add_of_pos_right (by decide : 0 < 2)), List.forall_mem_nil _⟩⟩
  repeat' ((fail_if_success (with_reducible show wpAny _ _ (PySem.call (PySem.Value.ref _) _ _) _ _ _)); (first | (k_unfold; (try dsimp only)) | ((first | (with_reducible show wpAny _ _ _ _ _ _) | (with_reducible show (ite _ _ _ : Prop)) | (with_reducible show InvPostN _ _ _ _ _ _ _ _ _)); (first | walk1 | (dsimp only; walk1)); (try dsimp only)) | ((with_reducible show (PySem.W.Frag.In _ _ ∧ _)); (refine And.intro (by k_in) ?_))))
  replace hrec := hcr _ _ hrec
  clear hcr
  have hld : g.IsList ld vs.toArray := hg ▸ list_hide H hl
  have hvl : vs.length = 3 := by rw [hi.length, hlen]
  refine wpAny_truthy_list (hld.at fun o e => F3.keep _ o e) (by simp; omega) ?_
  rw [if_pos (by cases vs with | nil => simp at hvl | cons a b => simp)]
  (try dsimp only)
  repeat' ((fail_if_success (with_reducible show wpAny _ _ (PySem.callWith _ (PySem.Value.ref f) _ _ _) _ _ _)); (first | (k_unfold; (try dsimp only)) | ((first | (with_reducible show wpAny _ _ _ _ _ _) | (with_reducible show (ite _ _ _ : Prop)) | (with_reducible show InvPostN _ _ _ _ _ _ _ _ _)); (first | walk1 | (dsimp only; walk1)); (try dsimp only)) | ((with_reducible show (PySem.W.Frag.In _ _ ∧ _)); (refine And.intro (by k_in) ?_))))
  refine callWith_F ⟨_, _, _, _, (N3 _ (.head _)).1⟩ ?_
  repeat' ((fail_if_success (with_reducible show wpAny _ _ (PySem.call (PySem.Value.builtin "len") _ _) _ _ _)); (first | (k_unfold; (try dsimp only)) | ((first | (with_reducible show wpAny _ _ _ _ _ _) | (with_reducible show (ite _ _ _ : Prop)) | (with_reducible show InvPostN _ _ _ _ _ _ _ _ _)); (first | walk1 | (dsimp only; walk1)); (try dsimp only)) | ((with_reducible show (PySem.W.Frag.In _ _ ∧ _)); (refine And.intro (by k_in) ?_))))
  refine call_len_list (hld.at fun o e => F3.keep _ o e) (by simp; omega) ?_
  rw [List.size_toArray, hvl]
  (try dsimp only)
  repeat' ((fail_if_success (with_reducible show wpAny _ _ (PySem.call (PySem.Value.ref _) _ _) _ _ _)); (first | (k_unfold; (try dsimp only)) | ((first | (with_reducible show wpAny _ _ _ _ _ _) | (with_reducible show (ite _ _ _ : Prop)) | (with_reducible show InvPostN _ _ _ _ _ _ _ _ _)); (first | walk1 | (dsimp only; walk1)); (try dsimp only)) | ((with_reducible show (PySem.W.Frag.In _ _ ∧ _)); (refine And.intro (by k_in) ?_))))
  refine ⟨⟨_, _, _, _, (N3 _ (.head _)).1⟩, ?_⟩
  (try dsimp only [List.nil_append])
  refine of_head (P := fun f o => Rec2 w h3 ns f o) N3 ?rec fun hR => ?_
  case rec =>
    intro hf n
    clear hret F2 N2 B F X T B' X' T'
    have q1 : h3.get? (L' + 1) = some o3 := (N3 _ (.tail _ (.tail _ (.tail _ (.tail _ (.head _)))))).1
    have q2 : h3.get? (L' + 1 + 1) = some o2 := (N3 _ (.tail _ (.tail _ (.tail _ (.head _))))).1
    have q3 : h3.get? (L' + 1 + 1 + 1) = some o4 := (N3 _ (.tail _ (.tail _ (.head _)))).1
    have q4 : h3.IsList ld vs.toArray := hld.at fun o e => F3.keep _ o e
    clear N3 F3 hlf
    induction n with
    | zero => intros; omega
    | succ n ih =>
      intro p loose mean mg mb dp un gd cn cs a ccd cl outer A₀ base h₀ L m s2 Q E B F X T hk hd1 lo hi' t u h1 h2' hn hkp hret
      refine enterN (binds := [("L", .int lo t), ("R", .int hi' u)]) (hid := []) News.nil B F X T rfl rfl hk (hkp _ _ hf) (codeRec_kp hrec hkp) (by show dp < _; omega) (BindsTo.of_eq rfl) (locs rfl) ?_ (by decide) rfl rfl rfl
      intro g2 L2 h4 tk4 hg2 F4 N4 hkp4 B4 X4 T4
      subst hg2
      (try dsimp only); (try k_unmd); k_fold
      clear B F X T
      replace F4 : Fr s2.heap _ _ _ := F4
      replace N4 : News s2.heap _ _ _ := N4
      replace B4 : Below _ _ _ s2.heap := B4
      replace X4 : Frag.In _ s2.heap := X4
      replace T4 : Top _ _ _ _ _ s2.heap := T4
      repeat' ((fail_if_success (with_reducible show wpAny _ _ (PySem.eval (PySem.Expr.Name (PySem.Str.ofString "digits") _) _) _ _ _)); (fail_if_success (with_reducible show wpAny _ _ (PySem.eval (PySem.Expr.Name (PySem.Str.ofString "n") _) _) _ _ _)); (first | (k_unfold; (try dsimp only)) | ((first | (with_reducible show wpAny _ _ _ _ _ _) | (with_reducible show (ite _ _ _ : Prop)) | (with_reducible show InvPostN _ _ _ _ _ _ _ _ _)); (first | walk1 | (dsimp only; walk1)); (try dsimp only)) | ((with_reducible show (PySem.W.Frag.In _ _ ∧ _)); (refine And.intro (by k_in) ?_))))
      · rename ((lo : Int) + 1 = (hi' : Int)) => he
        rename Fr _ _ _ _ => F5
        refine nm_free rfl (F5.keep _ _ (hkp _ _ q1)) d3 ?_
        repeat' ((fail_if_success (with_reducible show wpAny _ _ (PyProof.Rows.subscriptTail _ _ _ _) _ _ _)); (first | (k_unfold; (try dsimp only)) | ((first | (with_reducible show wpAny _ _ _ _ _ _) | (with_reducible show (ite _ _ _ : Prop)) | (with_reducible show InvPostN _ _ _ _ _ _ _ _ _)); (first | walk1 | (dsimp only; walk1)); (try dsimp only)) | ((with_reducible show (PySem.W.Frag.In _ _ ∧ _)); (refine And.intro (by k_in) ?_))))
        have hlo : lo < ns.length := by omega
        obtain ⟨t9, hx⟩ := hi.get lo ns[lo] (by simp [hlo])
        refine itemL (q4.at fun o e => F5.keep _ o (hkp _ _ e)) (by omega) (by omega) hx ?_
        (try dsimp only)
        repeat' (first | (k_unfold; (try dsimp only)) | ((first | (with_reducible show wpAny _ _ _ _ _ _) | (with_reducible show (ite _ _ _ : Prop)) | (with_reducible show InvPostN _ _ _ _ _ _ _ _ _)); (first | walk1 | (dsimp only; walk1)); (try dsimp only)) | ((with_reducible show (PySem.W.Frag.In _ _ ∧ _)); (refine And.intro (by k_in) ?_)))
        have e1 : dval (segI ns lo hi') = ns[lo] := by
          rw [show hi' = lo + 1 from by omega, segI_one (k := ns[lo]) (by simp [hlo])]
          simp [dval]
        rw [← e1]
        exact hret _ _ _ F5.keep
      · rename ((lo : Int) + 1 ≠ (hi' : Int)) => he
        rename Fr _ _ _ _ => F5
        have hmd : ∃ md : Nat, md = (lo + hi') / 2 := ⟨_, rfl⟩
        obtain ⟨md, hmd⟩ := hmd
        have emid : ((lo : Int) + hi').fdiv (2 ^ Int.toNat 1) = (md : Int) := by
          rw [show ((2 : Int) ^ Int.toNat 1) = 2 from rfl, Int.fdiv_eq_ediv_of_nonneg _ (by decide)]; omega
        refine nm_free rfl (F5.keep _ _ (hkp _ _ q2)) d2 ?_
        rw [emid] at F5 ⊢
        have hm1 : lo < md := by omega
        have hm2 : md < hi' := by omega
        have hm3 : hi' ≤ 3 := by omega
        clear emid
        repeat' ((fail_if_success (with_reducible show wpAny _ _ (PySem.eval (PySem.Expr.Name (PySem.Str.ofString "inner") _) _) _ _ _)); (first | (k_unfold; (try dsimp only)) | ((first | (with_reducible show wpAny _ _ _ _ _ _) | (with_reducible show (ite _ _ _ : Prop)) | (with_reducible show InvPostN _ _ _ _ _ _ _ _ _)); (first | walk1 | (dsimp only; walk1)); (try dsimp only)) | ((with_reducible show (PySem.W.Frag.In _ _ ∧ _)); (refine And.intro (by k_in) ?_))))
        rename Fr _ _ _ _ => F6
        rename News _ _ _ _ => N6
        refine nm_free rfl (F6.keep _ _ (hkp _ _ q3)) d4 ?_
        repeat' ((fail_if_success (with_reducible show wpAny _ _ (PySem.callWith _ _ _ _ _) _ _ _)); (first | (k_unfold; (try dsimp only)) | ((first | (with_reducible show wpAny _ _ _ _ _ _) | (with_reducible show (ite _ _ _ : Prop)) | (with_reducible show InvPostN _ _ _ _ _ _ _ _ _)); (first | walk1 | (dsimp only; walk1)); (try dsimp only)) | ((with_reducible show (PySem.W.Frag.In _ _ ∧ _)); (refine And.intro (by k_in) ?_))))
        refine callWith_F ⟨_, _, _, _, F6.keep _ _ (hkp _ _ hf)⟩ ?_
        repeat' ((fail_if_success (with_reducible show wpAny _ _ (PySem.call (PySem.Value.ref _) _ _) _ _ _)); (first | (k_unfold; (try dsimp only)) | ((first | (with_reducible show wpAny _ _ _ _ _ _) | (with_reducible show (ite _ _ _ : Prop)) | (with_reducible show InvPostN _ _ _ _ _ _ _ _ _)); (first | walk1 | (dsimp only; walk1)); (try dsimp only)) | ((with_reducible show (PySem.W.Frag.In _ _ ∧ _)); (refine And.intro (by k_in) ?_))))
        refine ⟨⟨_, _, _, _, F6.keep _ _ (hkp _ _ hf)⟩, ?_⟩
        (try dsimp only [List.nil_append])
        refine ih B4 F6 X4 T4 rfl (by show dp + 1 + 2 * n + 2 < _; omega) md hi' _ _ hm2 h2' (by omega) (by exact Kp.trans hkp F6.keep) fun t7 h7 tk7 k7 => ?_
        replace F6 := kp_fr F6 k7
        replace N6 := kp_news N6 k7
        (try dsimp only)
        have hb := segI_b hrg hlen (lo := md) h2'
        repeat' ((fail_if_success (with_reducible show wpAny _ _ (PySem.binaryOp PySem.Operator.LShift _ _) _ _ _)); (first | (k_unfold; (try dsimp only)) | ((first | (with_reducible show wpAny _ _ _ _ _ _) | (with_reducible show (ite _ _ _ : Prop)) | (with_reducible show InvPostN _ _ _ _ _ _ _ _ _)); (first | walk1 | (dsimp only; walk1)); (try dsimp only)) | ((with_reducible show (PySem.W.Frag.In _ _ ∧ _)); (refine And.intro (by k_in) ?_))))
        refine lshift_int_small (by omega) (by omega) (by omega) ?_
        (try dsimp only)
        repeat' ((fail_if_success (with_reducible show wpAny _ _ (PySem.eval (PySem.Expr.Name (PySem.Str.ofString "inner") _) _) _ _ _)); (first | (k_unfold; (try dsimp only)) | ((first | (with_reducible show wpAny _ _ _ _ _ _) | (with_reducible show (ite _ _ _ : Prop)) | (with_reducible show InvPostN _ _ _ _ _ _ _ _ _)); (first | walk1 | (dsimp only; walk1)); (try dsimp only)) | ((with_reducible show (PySem.W.Frag.In _ _ ∧ _)); (refine And.intro (by k_in) ?_))))
        refine nm_free rfl (F6.keep _ _ (hkp _ _ q3)) d4 ?_
        repeat' ((fail_if_success (with_reducible show wpAny _ _ (PySem.callWith _ _ _ _ _) _ _ _)); (first | (k_unfold; (try dsimp only)) | ((first | (with_reducible show wpAny _ _ _ _ _ _) | (with_reducible show (ite _ _ _ : Prop)) | (with_reducible show InvPostN _ _ _ _ _ _ _ _ _)); (first | walk1 | (dsimp only; walk1)); (try dsimp only)) | ((with_reducible show (PySem.W.Frag.In _ _ ∧ _)); (refine And.intro (by k_in) ?_))))
        refine callWith_F ⟨_, _, _, _, F6.keep _ _ (hkp _ _ hf)⟩ ?_
        repeat' ((fail_if_success (with_reducible show wpAny _ _ (PySem.call (PySem.Value.ref _) _ _) _ _ _)); (first | (k_unfold; (try dsimp only)) | ((first | (with_reducible show wpAny _ _ _ _ _ _) | (with_reducible show (ite _ _ _ : Prop)) | (with_reducible show InvPostN _ _ _ _ _ _ _ _ _)); (first | walk1 | (dsimp only; walk1)); (try dsimp only)) | ((with_reducible show (PySem.W.Frag.In _ _ ∧ _)); (refine And.intro (by k_in) ?_))))
        refine ⟨⟨_, _, _, _, F6.keep _ _ (hkp _ _ hf)⟩, ?_⟩
        (try dsimp only [List.nil_append])
        refine ih B4 F6 X4 T4 rfl (by show dp + 1 + 2 * n + 2 < _; omega) lo md _ _ hm1 (by omega) (by omega) (by exact Kp.trans hkp F6.keep) fun t8 h8 tk8 k8 => ?_
        replace F6 := kp_fr F6 k8
        replace N6 := kp_news N6 k8
        (try dsimp only)
        repeat' (first | (k_unfold; (try dsimp only)) | ((first | (with_reducible show wpAny _ _ _ _ _ _) | (with_reducible show (ite _ _ _ : Prop)) | (with_reducible show InvPostN _ _ _ _ _ _ _ _ _)); (first | walk1 | (dsimp only; walk1)); (try dsimp only)) | ((with_reducible show (PySem.W.Frag.In _ _ ∧ _)); (refine And.intro (by k_in) ?_)))
        rw [dval_split (Nat.le_of_lt hm1) (Nat.le_of_lt hm2) h2']
        exact hret _ _ _ F6.keep
  clear hf1 hlf
  refine hR (N3 _ (.head _)).1 3 B' F3 X' T' rfl (by show dp + 1 + 2 * 3 + 2 < _; omega) 0 3 _ _ (by decide) (by omega) (by decide) (by exact fun _ _ e => e) fun t9 h9 tk9 k9 => ?_
  replace F3 := kp_fr F3 k9
  replace N3 := kp_news N3 k9
  (try dsimp only)
  repeat' (first | (k_unfold; (try dsimp only)) | ((first | (with_reducible show wpAny _ _ _ _ _ _) | (with_reducible show (ite _ _ _ : Prop)) | (with_reducible show InvPostN _ _ _ _ _ _ _ _ _)); (first | walk1 | (dsimp only; walk1)); (try dsimp only)) | ((with_reducible show (PySem.W.Frag.In _ _ ∧ _)); (refine And.intro (by k_in) ?_)))
  have e3 : dval (segI ns 0 3) = dval ns := by rw [segI, ← hlen, List.take_length]; rfl
  rw [e3]
  have hk9 : KpX [111] s.heap h9 := kpx_of (hg ▸ F3)
  refine hret _ _ _ c' hk9 (N3 _ (.tail _ (.head _))).1 (codeRec_kp hrec k9) ?_
  rcases hnew with e | ⟨e, hne⟩
  · exact .inl e
  · refine .inr ?_
    cases q : s.heap.get? c' with
    | none => rfl
    | some o =>
      rw [hg] at e
      have := hideAll_get [111] q (by simpa using hne)
      exact absurd (e.symm.trans this) (by simp)
end
section
def bitsL (x : Int) (n : Nat) : List Int := (List.range n).map fun j => x / 2 ^ j % 2
def putB (ns : List Int) (lo n : Nat) (x : Int) : List Int := ns.take lo ++ bitsL x n ++ ns.drop (lo + n)
theorem bitsL_length (x : Int) (n : Nat) : (bitsL x n).length = n := by simp [bitsL]
theorem putB_length {ns : List Int} {lo n : Nat} {x : Int} (h : lo + n ≤ ns.length) : (putB ns lo n x).length = ns.length := by
  simp [putB, bitsL_length]; omega
theorem bitsL_split (x : Int) (a b : Nat) : bitsL x (a + b) = bitsL x a ++ bitsL (x / 2 ^ a) b := by
  simp only [bitsL, List.range_add, List.map_append, List.map_map]
  congr 1
  refine List.map_congr_left fun j _ => ?_
  show x / 2 ^ (a + j) % 2 = x / 2 ^ a / 2 ^ j % 2
  rw [Int.ediv_ediv_of_nonneg (Int.le_of_lt (Int.pow_pos (by decide))), ← Int.pow_add]
theorem bitsL_mod (x : Int) (a : Nat) : bitsL (x % 2 ^ a) a = bitsL x a := by
  refine List.map_congr_left fun j hj => ?_
  have hj' : j < a := by simpa using hj
  have e : (2 : Int) ^ a = 2 ^ j * (2 * 2 ^ (a - j - 1)) := by
    rw [← Int.mul_assoc, ← Int.pow_succ, ← Int.pow_add]; congr 1; omega
  have hp : (0 : Int) < 2 ^ j := Int.pow_pos (by decide)
  generalize (2 : Int) ^ j = u at *
  generalize (2 : Int) ^ (a - j - 1) = v at *
  rw [e]
  have h2 := Int.mul_ediv_add_emod x (u * (2 * v))
  generalize x % (u * (2 * v)) = r at *
  generalize x / (u * (2 * v)) = q at *
  have h3 : x = r + u * (2 * (v * q)) := by rw [← h2, Int.mul_assoc u, Int.mul_assoc 2, Int.add_comm]
  rw [h3, Int.add_mul_ediv_left _ _ (Int.ne_of_gt hp), Int.add_mul_emod_self_left]
theorem putB_one {ns : List Int} {lo : Nat} {x : Int} (h : lo < ns.length) (h0 : 0 ≤ x) (h1 : x < 2) : putB ns lo 1 x = ns.set lo x := by
  rw [List.set_eq_take_append_cons_drop, if_pos h, putB]
  have : bitsL x 1 = [x] := by simp [bitsL]; omega
  rw [this]; simp
theorem putB_two {ns : List Int} {lo a b : Nat} {x : Int} (h : lo + a + b ≤ ns.length) : putB (putB ns lo a (x % 2 ^ a)) (lo + a) b (x / 2 ^ a) = putB ns lo (a + b) x := by
  have hl : (ns.take lo ++ bitsL (x % 2 ^ a) a).length = lo + a := by simp [bitsL_length]; omega
  unfold putB
  rw [List.take_append_of_le_length (by omega), List.take_of_length_le (by omega), bitsL_mod, bitsL_split]
  rw [bitsL_mod] at hl
  rw [List.drop_append, List.drop_of_length_le (by omega), hl, List.drop_drop]
  simp only [List.append_assoc, List.nil_append]
  congr 4
  omega
theorem pow_le24 {n : Nat} (h : n ≤ 24) : (2 : Int) ^ n ≤ 16777216 := by
  have : ∀ n : Fin 25, (2 : Int) ^ n.val ≤ 16777216 := by decide
  exact this ⟨n, by omega⟩
theorem low_eq {x : Int} (h0 : 0 ≤ x) (k : Nat) : Builtin.bitXor x (x / 2 ^ k * 2 ^ k) = x % 2 ^ k := by
  obtain ⟨n, rfl⟩ := Int.eq_ofNat_of_zero_le h0
  have e1 : (n : Int) / 2 ^ k * 2 ^ k = ((n / 2 ^ k * 2 ^ k : Nat) : Int) := by simp
  have e2 : (n : Int) % 2 ^ k = ((n % 2 ^ k : Nat) : Int) := by simp
  rw [e1, e2, xor_nat, xor_mask]
theorem up_lt {x : Int} {a b : Nat} (h1 : x < 2 ^ (a + b)) : x / 2 ^ a < 2 ^ b := by
  rw [Int.pow_add, Int.mul_comm] at h1
  exact Int.ediv_lt_of_lt_mul (Int.pow_pos (by decide)) h1
theorem rep_zero : ∀ n : Nat, (List.replicate n [(0 : Int)]).flatten = List.replicate n 0
  | 0 => rfl
  | n + 1 => by rw [List.replicate_succ, List.flatten_cons, rep_zero n]; rfl
theorem codeRec_kpx {h h' : Heap} {cd : Value} {q : Str} {D : Addr} {its : Array Value} {k : Nat} (x : h.CodeRec cd q) (hl : h.get? D = some (listOf its k)) (kp : KpX [D] h h') : h'.CodeRec cd q := by
  obtain ⟨c, o, vs, t, e, e2, e3, e4⟩ := x
  refine ⟨c, o, vs, t, e, kp _ _ (fun hb => ?_) e2, e3, e4⟩
  rw [List.mem_singleton.mp hb, hl] at e2
  cases e2; cases e3
/-- the inner def's contract: the list ld turned -/
def Rec1 (w : World) (hd0 : Heap) (ld : Addr) (f : Addr) (o : Obj) : Prop :=
  hd0.get? f = some o → ∀ (n : Nat) {p : Program} {loose : List Str} {mean : ExcName → Option Value} {mg mb : Str → Option Value}
    {dp un : Nat} {gd : Option (List Code)} {cn : Str} {cs : Scope} {a : Addr} {ccd : Value} {cl : List (Str × Addr)} {outer : List Env} {A₀ : Around} {base h₀ : Heap} {L : Addr} {m : Str → Option Value} {s : Shared} {Q E : Value → Shared → Prop}
    (_B : Below A₀ base outer h₀) (_F : Fr h₀ L s.heap m) (_X : (hd.heap_39 w.params).In h₀) (_T : Top p loose mean mg mb h₀) (_hk : cs.kind = .function)
    (_hd1 : dp + 2 * n + 2 < recursionLimit) (x : Int) (lo hi : Nat) (v t u : Tok) (vs : List Value) (k : Nat) (ns : List Int) (_hi : IntsAre vs ns) (_H : News h₀ L s.heap [(ld, listOf vs.toArray k)]) (_h1 : lo < hi) (_h2 : hi ≤ ns.length) (_h24 : ns.length ≤ 24) (_hn : hi - lo ≤ n) (_hkp : KpX [ld] hd0 s.heap) (_hx0 : 0 ≤ x) (_hx1 : x < 2 ^ (hi - lo))
    (_hret : ∀ (vs' : List Value) (h' : Heap) (tk' : Nat), KpX [ld] s.heap h' → h'.get? ld = some (listOf vs'.toArray k) → IntsAre vs' (putB ns lo (hi - lo) x) → Q .none { s with heap := h', toks := tk' }),
    wpAny (model P0 w) (ktrTop dp un gd cn cs L a ccd cl outer) (call (.ref f) [.int x v, .int lo t, .int hi u]) Q E s
set_option maxRecDepth 100000 in
set_option maxHeartbeats 8000000 in
theorem c_i2d (w : World) {p : Program} {loose : List Str} {mean : ExcName → Option Value} {mg mb : Str → Option Value}
    {dp un : Nat} {gd : Option (List Code)} {cn : Str} {cs : Scope} {a : Addr} {ccd : Value} {cl : List (Str × Addr)} {outer : List Env} {A₀ : Around} {base h₀ : Heap} {L : Addr} {m : Str → Option Value} {s : Shared} {Q E : Value → Shared → Prop}
    (B : Below A₀ base outer h₀) (F : Fr h₀ L s.heap m) (X : (hd.heap_39 w.params).In h₀) (T : Top p loose mean mg mb h₀) (hk : cs.kind = .function)
    (hd1 : dp + 64 < recursionLimit) {ps : Array Value} (H : News h₀ L s.heap [(104, tabObj ps)]) (C : CodeHd h₀ 108 104) (hps : TabOk "_int2digits.<locals>.inner" ⟨151, 4, 160, 28⟩ ps s.heap) {x : Int} {t tn : Tok} (hx0 : 0 ≤ x) (hx1 : x < 2 ^ 24)
    (hret : ∀ (l : Addr) (vs : List Value) (n : Nat) (h' : Heap) (tk' : Nat) (c' : Addr), KpX [104] s.heap h' → h'.get? 104 = some (tabObj #[rawInt 151, rawInt 4, .ref c']) → h'.CodeRec (.ref c') "_int2digits.<locals>.inner" → (ps = #[rawInt 151, rawInt 4, .ref c'] ∨ s.heap.get? c' = none) →
      s.heap.get? l = none → h'.get? l = some (listOf vs.toArray n) → IntsAre vs (bitsL x (Builtin.Int.intBits x)) → Q (.ref l) { s with heap := h', toks := tk' }) :
    wpAny (model P0 w) (ktrTop dp un gd cn cs L a ccd cl outer) (call (.ref 109) [.int x t, .int 1 tn]) Q E s := by
  refine enterH (binds := [("a", .int x t), ("n", .int 1 tn)]) (fun n => [("inner", n + 1 + 1 + 1), ("a_digits", n + 1 + 1), ("n", n + 1)]) (fun y => if y = "a" then some (.int x t) else none) H B F X T rfl rfl hk (by k_is) (by k_is) ?room (BindsTo.of_eq rfl) rfl (fun _ => rfl) (fun _ => rfl) (by decide +kernel) ?_ rfl rfl rfl
  · ktr_room
  intro g L' h₁ tk cells hg F' N' N₀ Y' hlt B' X' T'
  obtain ⟨o1, o2, o3, he, d1, d2, d3⟩ := CellsAre.three Y'
  subst he
  clear Y'
  (try dsimp only); (try k_unmd); k_fold
  have hk0 : Kp h₀ g := hg ▸ hide_kp H F.keep
  have hps' : TabOk "_int2digits.<locals>.inner" ⟨151, 4, 160, 28⟩ ps g := hg ▸ tabOk_hide H hps
  have h104 := hlt _ (.head _)
  (try dsimp only at h104)
  clear N₀
  (try dsimp only [List.cons_append, List.nil_append] at N')
  repeat' ((fail_if_success (with_reducible show wpAny _ _ (PySem.binaryOp PySem.Operator.Mult _ _) _ _ _)); (fail_if_success (with_reducible show wpAny _ _ (PySem.exec (PySem.Stmt.FunctionDef _ _ _ _ _ _ _ _ _ _) _) _ _ _)); (first | (k_unfold; (try dsimp only)) | ((first | (with_reducible show wpAny _ _ _ _ _ _) | (with_reducible show (ite _ _ _ : Prop)) | (with_reducible show InvPostN _ _ _ _ _ _ _ _ _)); (first | walk1 | (dsimp only; walk1)); (try dsimp only)) | ((with_reducible show (PySem.W.Frag.In _ _ ∧ _)); (refine And.intro (by k_in) ?_))))
  rename Fr _ _ _ _ => F1
  rename News _ _ _ _ => N1
  have hnb : Builtin.Int.intBits x ≤ 24 := intBits_le_iff.mpr (by omega)
  have hxb := nat_lt_bits hx0
  generalize Builtin.Int.intBits x = nb at *
  rw [show ((nb : Int) + 1 - 1).fdiv 1 = (nb : Int) from by rw [Int.fdiv_one]; omega]
  refine PySem.W.KM.mul F1 N1 (PySem.IsL.isList (N1 _ (.head _)).1) (ns := [0]) (.cons _ _ .nil) (by omega) (by omega) (by simp; omega) fun D h2 F2 N2 hltD hID _ _ _ _ _ => ?_
  have hD0 : 104 < D := hltD _ (.tail _ (.tail _ (.tail _ (.tail _ (.head _)))))
  have hD1 : L' + 1 < D := hltD _ (.tail _ (.tail _ (.tail _ (.head _))))
  have hD2 : L' + 1 + 1 < D := hltD _ (.tail _ (.tail _ (.head _)))
  have hD3 : L' + 1 + 1 + 1 < D := hltD _ (.tail _ (.head _))
  rw [rep_zero] at hID
  rw [Int.toNat_natCast] at hID N2
  generalize (List.replicate nb [_]).flatten = vs0 at hID N2
  replace N2 : News g L' h2 [(D, listOf vs0.toArray 0), (L' + 1 + 1 + 1, o1), (L' + 1 + 1, o2), (L' + 1, o3), (104, tabObj ps)] := news_sub N2 (List.forall_mem_cons.mpr ⟨.head _, fun p hp => .tail _ (.tail _ hp)⟩)
  clear F1 N1 hltD
  (try dsimp only)
  have g1 : L' + 1 ≠ 104 := Nat.ne_of_gt (Nat.lt_of_lt_of_le h104 (Nat.le_add_right L' 1))
  have g2 : L' + 1 + 1 ≠ 104 := Nat.ne_of_gt (Nat.lt_of_lt_of_le h104 (Nat.le_add_right L' 2))
  have g3 : L' + 1 + 1 + 1 ≠ 104 := Nat.ne_of_gt (Nat.lt_of_lt_of_le h104 (Nat.le_add_right L' 3))
  have g12 : L' + 1 ≠ L' + 1 + 1 := Nat.ne_of_lt (Nat.lt_succ_self _)
  have g23 : L' + 1 + 1 ≠ L' + 1 + 1 + 1 := Nat.ne_of_lt (Nat.lt_succ_self _)
  have g13 : L' + 1 ≠ L' + 1 + 1 + 1 := Nat.ne_of_lt (Nat.lt_add_of_pos_right (by decide : 0 < 2))
  refine storeC F2 N2 rfl (.tail (Nat.ne_of_gt hD2) (.tail g23.symm (.head ?_))) d2 fun h3 o4 F3 N3 d4 hcr1 => ?_
  · exact List.forall_mem_cons.mpr ⟨g12, List.forall_mem_cons.mpr ⟨g2.symm, List.forall_mem_nil _⟩⟩
  clear hcr1
  repeat' ((fail_if_success (with_reducible show wpAny _ _ (PySem.exec (PySem.Stmt.FunctionDef _ _ _ _ _ _ _ _ _ _) _) _ _ _)); (first | (k_unfold; (try dsimp only)) | ((first | (with_reducible show wpAny _ _ _ _ _ _) | (with_reducible show (ite _ _ _ : Prop)) | (with_reducible show InvPostN _ _ _ _ _ _ _ _ _)); (first | walk1 | (dsimp only; walk1)); (try dsimp only)) | ((with_reducible show (PySem.W.Frag.In _ _ ∧ _)); (refine And.intro (by k_in) ?_))))
  refine nestDef_K rfl rfl rfl ?_
  refine makeT F3 (news_rot (l := [_, _, _, _]) N3) ?_ T' (C.keeps hk0) rfl hps' rfl fun f c' ctv doc h4 tk4 F4 N4 hrec hnew hlf => ?_
  · exact List.forall_mem_cons.mpr ⟨Nat.ne_of_gt hD0, List.forall_mem_cons.mpr ⟨g3, List.forall_mem_cons.mpr ⟨g2, List.forall_mem_cons.mpr ⟨g1, List.forall_mem_nil _⟩⟩⟩⟩
  have hfD : D < f := hlf _ (.tail _ (.head _))
  have hf3 : L' + 1 + 1 + 1 < f := Nat.lt_trans hD3 hfD
  clear F2 N2 F3 N3 hlf
  (try dsimp only)
  replace hrec : h4.CodeRec (.ref c') "_int2digits.<locals>.inner" := hrec
  refine storeC F4 N4 rfl (.tail (Nat.ne_of_gt hf3) (.tail g3.symm (.tail (Nat.ne_of_gt hD3) (.head ?_)))) d1 fun h5 o5 F5 N5 d5 hcr => ?_
  · exact List.forall_mem_cons.mpr ⟨g23, List.forall_mem_cons.mpr ⟨g13, List.forall_mem_nil _⟩⟩
  replace hrec := hcr _ _ hrec
  clear hcr F4 N4
  have hl0 : vs0.length = nb := by rw [hID.length]; simp
  have hfin : ∀ (vs9 : List Value) (h9 : Heap) (tk9 : Nat) (m9 : Str → Option Value), Fr g L' h9 m9 → News g L' h9 [(D, listOf vs9.toArray 0), (104, tabObj #[rawInt 151, rawInt 4, .ref c'])] → h9.CodeRec (.ref c') "_int2digits.<locals>.inner" → IntsAre vs9 (bitsL x nb) → Q (.ref D) { s with heap := h9, toks := tk9 } := by
    intro vs9 h9 tk9 m9 F9 N9 hr9 hI9
    have hfr : g.get? D = none := (N9 _ (.head _)).2.2
    have back : ∀ b, g.get? b = none → b ≠ 104 → s.heap.get? b = none := fun b e hne => by
      cases q : s.heap.get? b with
      | none => rfl
      | some o =>
        rw [hg] at e
        have := hideAll_get [104] q (by simpa using hne)
        exact absurd (e.symm.trans this) (by simp)
    refine hret D vs9 0 h9 tk9 c' (kpx_of (hg ▸ F9)) (N9 _ (.tail _ (.head _))).1 hr9 ?_ (back D hfr (Nat.ne_of_gt hD0)) (N9 _ (.head _)).1 hI9
    rcases hnew with e | ⟨e, hne⟩
    · exact .inl e
    · exact .inr (back c' e hne)
  clear hret
  repeat' (first | (k_unfold; (try dsimp only)) | ((first | (with_reducible show wpAny _ _ _ _ _ _) | (with_reducible show (ite _ _ _ : Prop)) | (with_reducible show InvPostN _ _ _ _ _ _ _ _ _)); (first | walk1 | (dsimp only; walk1)); (try dsimp only)) | ((with_reducible show (PySem.W.Frag.In _ _ ∧ _)); (refine And.intro (by k_in) ?_)))
  · rename (x ≠ 0) => hx
    have n1 : News g L' h5 [(D, listOf vs0.toArray 0), (104, tabObj #[rawInt 151, rawInt 4, .ref c'])] := news_sub N5 (List.forall_mem_cons.mpr ⟨.tail _ (.tail _ (.head _)), List.forall_mem_cons.mpr ⟨.tail _ (.head _), List.forall_mem_nil _⟩⟩)
    refine call_len_list (PySem.IsL.isList (n1 _ (.head _)).1) (by simp; omega) ?_
    rw [List.size_toArray, hl0]
    (try dsimp only)
    clear n1
    repeat' ((fail_if_success (with_reducible show wpAny _ _ (PySem.call (PySem.Value.ref _) _ _) _ _ _)); (first | (k_unfold; (try dsimp only)) | ((first | (with_reducible show wpAny _ _ _ _ _ _) | (with_reducible show (ite _ _ _ : Prop)) | (with_reducible show InvPostN _ _ _ _ _ _ _ _ _)); (first | walk1 | (dsimp only; walk1)); (try dsimp only)) | ((with_reducible show (PySem.W.Frag.In _ _ ∧ _)); (refine And.intro (by k_in) ?_))))
    have n1 : News g L' h5 [(D, listOf vs0.toArray 0), (104, tabObj #[rawInt 151, rawInt 4, .ref c'])] := news_sub N5 (List.forall_mem_cons.mpr ⟨.tail _ (.tail _ (.head _)), List.forall_mem_cons.mpr ⟨.tail _ (.head _), List.forall_mem_nil _⟩⟩)
    refine ⟨⟨_, _, _, _, (N5 _ (.head _)).1⟩, ?_⟩
    (try dsimp only [List.nil_append])
    have hn1 : 1 ≤ nb := by
      rcases Nat.eq_zero_or_pos nb with e | e
      · rw [e] at hxb; simp at hxb; omega
      · exact e
    refine of_head (P := fun f o => Rec1 w h5 D f o) N5 ?rec fun hR => ?_
    case rec =>
      intro hf n
      have q1 : h5.get? (L' + 1) = some o3 := (N5 _ (.tail _ (.tail _ (.tail _ (.tail _ (.tail _ (.head _))))))).1
      have q2 : h5.get? (L' + 1 + 1) = some o4 := (N5 _ (.tail _ (.tail _ (.tail _ (.tail _ (.head _)))))).1
      have q3 : h5.get? (L' + 1 + 1 + 1) = some o5 := (N5 _ (.tail _ (.tail _ (.tail _ (.head _))))).1
      have q4 : h5.get? D = some (listOf vs0.toArray 0) := (n1 _ (.head _)).1
      clear N5 F5 hfin B F X T B' X' T' n1 H C
      induction n with
      | zero => intros; omega
      | succ n ih =>
        intro p loose mean mg mb dp un gd cn cs a ccd cl outer A₀ base h₀ L m s2 Q E B F X T hk hd1 x lo hi' tv t u vs k ns hI H h1 h2' h24 hn hkp hx0 hx1 hret
        refine enterN (binds := [("x", .int x tv), ("L", .int lo t), ("R", .int hi' u)]) (hid := [(D, listOf vs.toArray k)]) H B F X T rfl rfl hk (hkp _ _ (by simpa using Nat.ne_of_gt hfD) hf) (codeRec_kpx hrec q4 hkp) (by show dp < _; omega) (BindsTo.of_eq rfl) (locs rfl) ?_ (by decide) rfl rfl rfl
        intro g6 L6 h6 tk6 hg6 F6 N6 hkp6 B6 X6 T6
        (try dsimp only); (try k_unmd); k_fold
        clear B F X T
        have kq : ∀ {b o}, b ≠ D → h5.get? b = some o → g6.get? b = some o := fun hb e => by rw [hg6]; exact hideAll_get _ (hkp _ _ (by simpa using hb) e) (by simpa using hb)
        replace q1 := kq (Nat.ne_of_lt hD1) q1
        replace q2 := kq (Nat.ne_of_lt hD2) q2
        replace q3 := kq (Nat.ne_of_lt hD3) q3
        replace hf := kq (Nat.ne_of_gt hfD) hf
        have hpx : ∀ h : Heap, ∀ m, Fr g6 L6 h m → KpX [D] s2.heap h := fun h m F b o hb e => F.keep b o (by rw [hg6]; exact hideAll_get _ e hb)
        clear hg6
        repeat' ((fail_if_success (with_reducible show wpAny _ _ (PySem.eval (PySem.Expr.Name (PySem.Str.ofString "a_digits") _) _) _ _ _)); (fail_if_success (with_reducible show wpAny _ _ (PySem.eval (PySem.Expr.Name (PySem.Str.ofString "n") _) _) _ _ _)); (first | (k_unfold; (try dsimp only)) | ((first | (with_reducible show wpAny _ _ _ _ _ _) | (with_reducible show (ite _ _ _ : Prop)) | (with_reducible show InvPostN _ _ _ _ _ _ _ _ _)); (first | walk1 | (dsimp only; walk1)); (try dsimp only)) | ((with_reducible show (PySem.W.Frag.In _ _ ∧ _)); (refine And.intro (by k_in) ?_))))
        · rename ((lo : Int) + 1 = (hi' : Int)) => he
          rename Fr _ _ _ _ => F7
          rename News _ _ _ _ => N7
          refine nm_free rfl (F7.keep _ _ q2) d4 ?_
          repeat' ((fail_if_success (with_reducible show wpAny _ _ (PySem.setItem _ _ _) _ _ _)); (first | (k_unfold; (try dsimp only)) | ((first | (with_reducible show wpAny _ _ _ _ _ _) | (with_reducible show (ite _ _ _ : Prop)) | (with_reducible show InvPostN _ _ _ _ _ _ _ _ _)); (first | walk1 | (dsimp only; walk1)); (try dsimp only)) | ((with_reducible show (PySem.W.Frag.In _ _ ∧ _)); (refine And.intro (by k_in) ?_))))
          have hlo : lo < ns.length := by omega
          refine ksa_set F7 N7 (.head (fun _ h => nomatch h)) hI (by omega) (by omega) (by omega) fun h8 F8 N8 hI8 _ _ => ?_
          clear F7 N7
          (try dsimp only)
          repeat' (first | (k_unfold; (try dsimp only)) | ((first | (with_reducible show wpAny _ _ _ _ _ _) | (with_reducible show (ite _ _ _ : Prop)) | (with_reducible show InvPostN _ _ _ _ _ _ _ _ _)); (first | walk1 | (dsimp only; walk1)); (try dsimp only)) | ((with_reducible show (PySem.W.Frag.In _ _ ∧ _)); (refine And.intro (by k_in) ?_)))
          rename Fr _ _ _ _ => F9
          rename News _ _ _ _ => N9
          refine hret _ _ _ (hpx _ _ F9) (N9 _ (.head _)).1 ?_
          rw [show hi' - lo = 1 from by omega] at hx1 ⊢
          rw [putB_one hlo hx0 (by simpa using hx1)]
          simpa using hI8
        · rename ((lo : Int) + 1 ≠ (hi' : Int)) => he
          rename Fr _ _ _ _ => F7
          rename News _ _ _ _ => N7
          have hmd : ∃ md : Nat, md = (lo + hi') / 2 := ⟨_, rfl⟩
          obtain ⟨md, hmd⟩ := hmd
          have emid : ((lo : Int) + hi').fdiv (2 ^ Int.toNat 1) = (md : Int) := by
            rw [show ((2 : Int) ^ Int.toNat 1) = 2 from rfl, Int.fdiv_eq_ediv_of_nonneg _ (by decide)]; omega
          refine nm_free rfl (F7.keep _ _ q1) d3 ?_
          rw [emid] at F7 ⊢
          have hm1 : lo < md := by omega
          have hm2 : md < hi' := by omega
          have hm3 : hi' ≤ 24 := by omega
          clear emid
          repeat' ((fail_if_success (with_reducible show wpAny _ _ (PySem.binaryOp PySem.Operator.RShift _ _) _ _ _)); (first | (k_unfold; (try dsimp only)) | ((first | (with_reducible show wpAny _ _ _ _ _ _) | (with_reducible show (ite _ _ _ : Prop)) | (with_reducible show InvPostN _ _ _ _ _ _ _ _ _)); (first | walk1 | (dsimp only; walk1)); (try dsimp only)) | ((with_reducible show (PySem.W.Frag.In _ _ ∧ _)); (refine And.intro (by k_in) ?_))))
          have esh : ((((md : Int) - lo) * 1)).toNat = md - lo := by omega
          refine rshift_int (by omega) ?_
          rw [esh, Int.fdiv_eq_ediv_of_nonneg _ (Int.le_of_lt (Int.pow_pos (by decide)))]
          have hu0 : 0 ≤ x / 2 ^ (md - lo) := Int.ediv_nonneg hx0 (Int.le_of_lt (Int.pow_pos (by decide)))
          have hu1 : x / 2 ^ (md - lo) < 2 ^ (hi' - md) := up_lt (by rw [show md - lo + (hi' - md) = hi' - lo from by omega]; exact hx1)
          have hu2 := pow_le24 (n := hi' - md) (by omega)
          have hl0 : 0 ≤ x % 2 ^ (md - lo) := Int.emod_nonneg _ (Int.ne_of_gt (Int.pow_pos (by decide)))
          have hl1 : x % 2 ^ (md - lo) < 2 ^ (md - lo) := Int.emod_lt_of_pos _ (Int.pow_pos (by decide))
          have elow := low_eq hx0 (md - lo)
          have e2 := putB_two (ns := ns) (lo := lo) (a := md - lo) (b := hi' - md) (x := x) (by omega)
          rw [show md - lo + (hi' - md) = hi' - lo from by omega, show lo + (md - lo) = md from by omega] at e2
          have hpl := putB_length (ns := ns) (lo := lo) (n := md - lo) (x := x % 2 ^ (md - lo)) (by omega)
          generalize x / 2 ^ (md - lo) = up at *
          generalize x % 2 ^ (md - lo) = low at *
          (try dsimp only)
          repeat' ((fail_if_success (with_reducible show wpAny _ _ (PySem.binaryOp PySem.Operator.LShift _ _) _ _ _)); (first | (k_unfold; (try dsimp only)) | ((first | (with_reducible show wpAny _ _ _ _ _ _) | (with_reducible show (ite _ _ _ : Prop)) | (with_reducible show InvPostN _ _ _ _ _ _ _ _ _)); (first | walk1 | (dsimp only; walk1)); (try dsimp only)) | ((with_reducible show (PySem.W.Frag.In _ _ ∧ _)); (refine And.intro (by k_in) ?_))))
          refine lshift_int_small (by omega) (by omega) (by omega) ?_
          rw [esh]
          (try dsimp only)
          repeat' ((fail_if_success (with_reducible show wpAny _ _ (PySem.binaryOp PySem.Operator.BitXor _ _) _ _ _)); (first | (k_unfold; (try dsimp only)) | ((first | (with_reducible show wpAny _ _ _ _ _ _) | (with_reducible show (ite _ _ _ : Prop)) | (with_reducible show InvPostN _ _ _ _ _ _ _ _ _)); (first | walk1 | (dsimp only; walk1)); (try dsimp only)) | ((with_reducible show (PySem.W.Frag.In _ _ ∧ _)); (refine And.intro (by k_in) ?_))))
          refine xor_int ?_
          rw [elow]
          (try dsimp only)
          repeat' ((fail_if_success (with_reducible show wpAny _ _ (PySem.eval (PySem.Expr.Name (PySem.Str.ofString "inner") _) _) _ _ _)); (first | (k_unfold; (try dsimp only)) | ((first | (with_reducible show wpAny _ _ _ _ _ _) | (with_reducible show (ite _ _ _ : Prop)) | (with_reducible show InvPostN _ _ _ _ _ _ _ _ _)); (first | walk1 | (dsimp only; walk1)); (try dsimp only)) | ((with_reducible show (PySem.W.Frag.In _ _ ∧ _)); (refine And.intro (by k_in) ?_))))
          rename Fr _ _ _ _ => F8
          rename News _ _ _ _ => N8
          refine nm_free rfl (F8.keep _ _ q3) d5 ?_
          repeat' ((fail_if_success (with_reducible show wpAny _ _ (PySem.callWith _ _ _ _ _) _ _ _)); (first | (k_unfold; (try dsimp only)) | ((first | (with_reducible show wpAny _ _ _ _ _ _) | (with_reducible show (ite _ _ _ : Prop)) | (with_reducible show InvPostN _ _ _ _ _ _ _ _ _)); (first | walk1 | (dsimp only; walk1)); (try dsimp only)) | ((with_reducible show (PySem.W.Frag.In _ _ ∧ _)); (refine And.intro (by k_in) ?_))))
          refine callWith_F ⟨_, _, _, _, F8.keep _ _ hf⟩ ?_
          repeat' ((fail_if_success (with_reducible show wpAny _ _ (PySem.call (PySem.Value.ref _) _ _) _ _ _)); (first | (k_unfold; (try dsimp only)) | ((first | (with_reducible show wpAny _ _ _ _ _ _) | (with_reducible show (ite _ _ _ : Prop)) | (with_reducible show InvPostN _ _ _ _ _ _ _ _ _)); (first | walk1 | (dsimp only; walk1)); (try dsimp only)) | ((with_reducible show (PySem.W.Frag.In _ _ ∧ _)); (refine And.intro (by k_in) ?_))))
          refine ⟨⟨_, _, _, _, F8.keep _ _ hf⟩, ?_⟩
          (try dsimp only [List.nil_append])
          refine ih B6 F8 X6 T6 rfl (by show dp + 1 + 2 * n + 2 < _; omega) low lo md _ _ _ vs k ns hI N8 hm1 (by omega) h24 (by omega) (by exact kpx_trans hkp (hpx _ _ F8)) hl0 hl1 fun vs7 h7 tk7 k7 hD7 hI7 => ?_
          replace F8 := kpx_fr F8 N8 k7
          replace N8 := news_one N8 hD7
          (try dsimp only)
          repeat' ((fail_if_success (with_reducible show wpAny _ _ (PySem.eval (PySem.Expr.Name (PySem.Str.ofString "inner") _) _) _ _ _)); (first | (k_unfold; (try dsimp only)) | ((first | (with_reducible show wpAny _ _ _ _ _ _) | (with_reducible show (ite _ _ _ : Prop)) | (with_reducible show InvPostN _ _ _ _ _ _ _ _ _)); (first | walk1 | (dsimp only; walk1)); (try dsimp only)) | ((with_reducible show (PySem.W.Frag.In _ _ ∧ _)); (refine And.intro (by k_in) ?_))))
          refine nm_free rfl (F8.keep _ _ q3) d5 ?_
          repeat' ((fail_if_success (with_reducible show wpAny _ _ (PySem.callWith _ _ _ _ _) _ _ _)); (first | (k_unfold; (try dsimp only)) | ((first | (with_reducible show wpAny _ _ _ _ _ _) | (with_reducible show (ite _ _ _ : Prop)) | (with_reducible show InvPostN _ _ _ _ _ _ _ _ _)); (first | walk1 | (dsimp only; walk1)); (try dsimp only)) | ((with_reducible show (PySem.W.Frag.In _ _ ∧ _)); (refine And.intro (by k_in) ?_))))
          refine callWith_F ⟨_, _, _, _, F8.keep _ _ hf⟩ ?_
          repeat' ((fail_if_success (with_reducible show wpAny _ _ (PySem.call (PySem.Value.ref _) _ _) _ _ _)); (first | (k_unfold; (try dsimp only)) | ((first | (with_reducible show wpAny _ _ _ _ _ _) | (with_reducible show (ite _ _ _ : Prop)) | (with_reducible show InvPostN _ _ _ _ _ _ _ _ _)); (first | walk1 | (dsimp only; walk1)); (try dsimp only)) | ((with_reducible show (PySem.W.Frag.In _ _ ∧ _)); (refine And.intro (by k_in) ?_))))
          refine ⟨⟨_, _, _, _, F8.keep _ _ hf⟩, ?_⟩
          (try dsimp only [List.nil_append])
          refine ih B6 F8 X6 T6 rfl (by show dp + 1 + 2 * n + 2 < _; omega) up md hi' _ _ _ vs7 k _ hI7 N8 hm2 (by omega) (by omega) (by omega) (by exact kpx_trans hkp (hpx _ _ F8)) hu0 hu1 fun vs8 h9 tk9 k9 hD9 hI9 => ?_
          replace F8 := kpx_fr F8 N8 k9
          replace N8 := news_one N8 hD9
          (try dsimp only)
          repeat' (first | (k_unfold; (try dsimp only)) | ((first | (with_reducible show wpAny _ _ _ _ _ _) | (with_reducible show (ite _ _ _ : Prop)) | (with_reducible show InvPostN _ _ _ _ _ _ _ _ _)); (first | walk1 | (dsimp only; walk1)); (try dsimp only)) | ((with_reducible show (PySem.W.Frag.In _ _ ∧ _)); (refine And.intro (by k_in) ?_)))
          refine hret _ _ _ (hpx _ _ F8) hD9 ?_
          rw [← e2]
          exact hI9
    refine hR (N5 _ (.head _)).1 24 B' F5 X' T' rfl (by show dp + 1 + 2 * 24 + 2 < _; omega) x 0 nb _ _ _ vs0 0 _ hID (news_sub n1 (List.forall_mem_cons.mpr ⟨.head _, List.forall_mem_nil _⟩)) hn1 (by simp) (by simp; omega) (by omega) (by exact fun _ _ _ e => e) hx0 hxb fun vs9 h9 tk9 k9 hD9 hI9 => ?_
    replace F5 := kpx_fr F5 (news_sub n1 (List.forall_mem_cons.mpr ⟨.head _, List.forall_mem_nil _⟩)) k9
    replace hrec := codeRec_kpx hrec (n1 _ (.head _)).1 k9
    replace N5 : News g L' h9 [(D, listOf vs9.toArray 0), (104, tabObj #[rawInt 151, rawInt 4, .ref c']), (L' + 1 + 1, o4)] := fun p hp => by
      rcases List.mem_cons.mp hp with rfl | hp
      · exact ⟨hD9, (n1 _ (.head _)).2⟩
      · refine kpx_news (news_sub N5 ?_) ?_ k9 p hp
        · exact List.forall_mem_cons.mpr ⟨.tail _ (.head _), List.forall_mem_cons.mpr ⟨.tail _ (.tail _ (.tail _ (.tail _ (.head _)))), List.forall_mem_nil _⟩⟩
        · exact List.forall_mem_cons.mpr ⟨Nat.ne_of_lt hD0, List.forall_mem_cons.mpr ⟨Nat.ne_of_lt hD2, List.forall_mem_nil _⟩⟩
    clear n1
    (try dsimp only)
    repeat' (first | (k_unfold; (try dsimp only)) | ((first | (with_reducible show wpAny _ _ _ _ _ _) | (with_reducible show (ite _ _ _ : Prop)) | (with_reducible show InvPostN _ _ _ _ _ _ _ _ _)); (first | walk1 | (dsimp only; walk1)); (try dsimp only)) | ((with_reducible show (PySem.W.Frag.In _ _ ∧ _)); (refine And.intro (by k_in) ?_)))
    refine hfin vs9 _ _ _ F5 (news_sub N5 (List.forall_mem_cons.mpr ⟨.head _, List.forall_mem_cons.mpr ⟨.tail _ (.head _), List.forall_mem_nil _⟩⟩)) hrec ?_
    have e : putB (List.replicate nb 0) 0 (nb - 0) x = bitsL x nb := by simp [putB]
    rw [← e]
    exact hI9
  · rename (x = 0) => hx
    have n1 : News g L' h5 [(D, listOf vs0.toArray 0), (104, tabObj #[rawInt 151, rawInt 4, .ref c'])] := news_sub N5 (List.forall_mem_cons.mpr ⟨.tail _ (.tail _ (.head _)), List.forall_mem_cons.mpr ⟨.tail _ (.head _), List.forall_mem_nil _⟩⟩)
    rename Fr _ _ _ _ => F9
    refine hfin vs0 _ _ _ F9 n1 hrec ?_
    have e : bitsL x nb = List.replicate nb 0 := List.eq_replicate_iff.mpr ⟨bitsL_length .., fun b hb => by rw [hx] at hb; simp [bitsL] at hb; omega⟩
    rw [e]
    exact hID
end
section
/-- a new exception e of a built-in class, its context ctx -/
structure NewX (h h' : Heap) (e : Addr) (cls : String) (ctx : Value) : Prop where
  keeps : ∀ b o, h.get? b = some o → h'.get? b = some o
  new : h.get? e = none
  there : ∃ ob t, h'.get? e = some ob ∧ ob.cls = .type cls ∧ ob.data = .fields #[t, .none, ctx, .none, .bool false, .none]
theorem NewX.of {h h' : Heap} {e : Addr} {cls : String} (x : Heap.NewExc h h' e cls) : NewX h h' e cls .none := ⟨x.keeps, x.new, x.there⟩
theorem entry_unchain : entryFor table "proto.unchain" = some Builtin.«proto.unchain» := entryFor_of_tree (by kernel_rfl)
section
variable {prog : Program} {w : World} {A : Around} {E : Value → Shared → Prop} {s : Shared}
theorem unchain_none {e h₁ : Addr} {oe : Obj} {vs : Array Value} {Q : Value → Shared → Prop} (he : s.heap.get? h₁ = some oe) (hd : oe.data = .fields vs) (h2 : vs[2]? = some .none) (h : Q .none s) :
    wpAny (model prog w) A (runValue (.builtin "proto.unchain" ⟨[.ref e, .ref h₁, .ref h₁, .bool false], []⟩)) Q E s := by
  refine wpAny_runValue (codeAny_builtin entry_unchain ?_)
  unfold Builtin.«proto.unchain»
  (try dsimp only)
  refine wpAny_bind (wpAny_field he hd h2 ?_)
  rw [if_pos (by decide)]
  exact wpAny_pure h
theorem raiseNew_under {α : Type} {e e₂ : Addr} {oe o2 : Obj} {vs : Array Value} {t : Value} {Q : α → Shared → Prop} (hh : A.handled = some (.ref e)) (hne : e ≠ e₂) (he : s.heap.get? e = some oe) (hd : oe.data = .fields vs) (h2 : vs[2]? = some .none)
    (h2o : s.heap.get? e₂ = some o2) (hd2 : o2.data = .fields #[t, .none, .none, .none, .bool false, .none])
    (h : ∀ h' ob, (∀ b, b ≠ e₂ → h'.get? b = s.heap.get? b) → h'.get? e₂ = some ob → ob.cls = o2.cls → ob.data = .fields #[t, .none, .ref e, .none, .bool false, .none] → E (.ref e₂) { s with heap := h' }) :
    wpAny (model prog w) A (raiseNew (.ref e₂) : Sem α) Q E s := by
  unfold raiseNew
  refine wpAny_bind (wpAny_handled ?_)
  rw [hh]
  (try dsimp only)
  rw [if_pos (show (Value.ref e != Value.ref e₂) = true by simpa using hne)]
  refine wpAny_bind (wpAny_holding (unchain_none he hd h2 ?_))
  unfold updateField
  refine wpAny_bind (wpAny_bind (wpAny_load h2o ?_))
  rw [hd2]
  (try dsimp only)
  rw [if_pos (show 2 < Array.size _ from by simp)]
  have e3 := Obj.data_mapFields hd2 (·.setIfInBounds 2 (Value.ref e))
  refine wpAny_update h2o (wpAny_throw (h _ _ (fun b hb => Heap.get?_update_other _ _ (Ne.symm hb)) (Heap.get?_update_self _ h2o (Obj.isFreed_of_fields e3)) (Obj.cls_mapFields _ _) ?_))
  rw [e3]
  rfl
theorem raise_under {α : Type} {cls msg : String} {e : Addr} {oe : Obj} {vs : Array Value} {Q : α → Shared → Prop} (hp : PlainExc cls) (hh : A.handled = some (.ref e)) (he : s.heap.get? e = some oe) (hd : oe.data = .fields vs) (h2 : vs[2]? = some .none)
    (h : ∀ h' tk e₂, NewX s.heap h' e₂ cls (.ref e) → E (.ref e₂) { s with heap := h', toks := tk }) : wpAny (model prog w) A (raiseErrorWords cls msg : Sem α) Q E s := by
  unfold raiseErrorWords
  refine wpAny_bind (wpAny_mkText (wpAny_bind ?_))
  unfold newExc newTuple
  refine wpAny_bind (wpAny_newObj_type ?_)
  refine wpAny_bind (m := firstArgMember _ _) (wpAny_of_eq (a := Value.none) (by simp only [firstArgMember, hp.first]; rfl) ?_)
  rw [hp.own]
  refine wpAny_newObj_type ?_
  have k1 : ∀ b o, s.heap.get? b = some o → ((s.heap.push { cls := .type "tuple", dict := none, data := .seq #[.str (Str.ofString msg) s.toks] 0 }).push { cls := .type cls, dict := none, data := .fields (#[.ref s.heap.objs.size, .none, .none, .none, .bool false, .none] ++ #[]) }).get? b = some o :=
    fun b o hb => Heap.get?_push_of_some _ (Heap.get?_push_of_some _ hb)
  have hlt := Heap.lt_size he
  refine raiseNew_under hh (e₂ := (s.heap.push _).objs.size) (Nat.ne_of_lt (by rw [Heap.size_push]; exact Nat.lt_succ_of_lt hlt)) (k1 _ _ he) hd h2 (Heap.get?_push_size _ rfl) rfl fun h' ob hk hob hc hdt => ?_
  refine h h' _ _ ⟨fun b o hb => (hk b ?_).trans (k1 b o hb), ?_, ob, _, hob, hc, hdt⟩
  · have hb' := Heap.lt_size hb
    exact Nat.ne_of_lt (by rw [Heap.size_push]; exact Nat.lt_succ_of_lt hb')
  · exact Heap.get?_none_of_le (by rw [Heap.size_push]; exact Nat.le_succ _)
set_option maxRecDepth 100000 in
/-- an item beyond the list's end, whatever is handled -/
theorem item_out {l : Addr} {items : Array Value} {k : Int} {t : Tok} {Q : Value → Shared → Prop} (ctx : Value) (hA : (A.handled = none ∧ ctx = .none) ∨ ∃ e oe vs, ctx = .ref e ∧ A.handled = some (.ref e) ∧ s.heap.get? e = some oe ∧ oe.data = .fields vs ∧ vs[2]? = some .none) (hl : s.heap.IsList l items)
    (hout : (items.size : Int) ≤ k) (hhi : k < 2 ^ 63) (hE : ∀ h' tk e, NewX s.heap h' e "IndexError" ctx → E (.ref e) { s with heap := h', toks := tk }) :
    wpAny (model prog w) A (getItem (.ref l) (.int k t)) Q E s := by
  rcases hA with ⟨hA, rfl⟩ | ⟨e, oe, vs, rfl, hA, he, hde, h2⟩
  · exact wpAny_getItem_list_out hA hl (.inr hout) (by omega) hhi fun h' tk e x => hE h' tk e (.of x)
  obtain ⟨o, ho, hc, ne, hd⟩ := id hl
  unfold getItem
  try with_reducible refine wpAny_holding ?_
  first | refine wpAny_bind (wpAny_pure ?_) | skip
  refine wpAny_bind (wpAny_sequenceKey hl.typeIs (by decide) ?_)
  refine wpAny_bind (wpAny_callSpecial?_slot (name := Str.ofString "__getitem__") hl.typeIs slot_list_getitem (wpAny_call_entry slot_list_getitem hl.typeIs entry_list_getitem ?_ (args_list_getitem _ _)))
  show wpAny _ _ (Builtin.List.listSubscript? (.int k t) >>= _) _ _ s
  refine wpAny_bind (wpAny_listSubscript_int (fitsIndex_both (by omega) hhi) ?_)
  obtain ⟨j, rfl⟩ := Int.eq_ofNat_of_zero_le (show 0 ≤ k by omega)
  have hx : items[j]? = none := Array.getElem?_eq_none (by omega)
  show wpAny _ _ ((seqItemAt l j >>= fun r => pure (r.map (j, ·))) >>= _) _ _ s
  refine wpAny_bind (wpAny_bind (wpAny_seqItemAt ho hd (wpAny_pure ?_)))
  rw [hx]
  have R : ∀ {α : Type} {Q : α → Shared → Prop} {A' : Around}, A'.handled = some (.ref e) → wpAny (model prog w) A' (raiseErrorWords "IndexError" "list index out of range" : Sem α) Q E s := fun hA' => raise_under plainExc_IndexError hA' he hde h2 hE
  first
    | exact wpAny_bind (wpAny_rule (R hA))
    | exact wpAny_bind (wpAny_rule (wpAny_bind (R hA)))
    | exact wpAny_bind (wpAny_bind (wpAny_rule (R hA)))
    | exact wpAny_rule (R hA)
end
/-- an exception and its traceback, as two objects -/
def IsExc (T : Addr) (oe oT : Obj) (fl ctx : Value) : Prop := oe.cls = .type "IndexError" ∧ (∃ t, oe.data = .fields #[t, .ref T, ctx, .none, .bool false, .none]) ∧ ∃ ts, oT.data = .fields ts ∧ ts[3]? = some fl
/-- it stands in the ledger, ahead of rest -/
structure Held (g : Heap) (L : Addr) (h : Heap) (m : Str → Option Value) (e T : Addr) (oe oT : Obj) (fl ctx : Value) (rest : List (Addr × Obj)) : Prop where
  F : Fr g L h m
  N : News g L h ((e, oe) :: (T, oT) :: rest)
  X : IsExc T oe oT fl ctx
  ne : T ≠ e
  off : ∀ q ∈ rest, q.1 ≠ e ∧ q.1 ≠ T
section
variable {M : Model} {A : Around} {E : Value → Shared → Prop} {s : Shared} {g : Heap} {L e T : Addr} {m : Str → Option Value} {oe oT : Obj} {ctx : Value} {rest : List (Addr × Obj)} {env : Env} {Q : Unit → Shared → Prop}
/-- a first look at a new exception -/
theorem noted_raw {h : Heap} {l : List Env} {frs new : List (Addr × Obj)} {name : Str} {scope : Scope} {a : Addr} {cd : Value} (hfr : A.frames = some (envOf name scope L a cd :: l)) (hk : scope.kind = .function) (Fs : TI.Frs l frs) (F : Fr g L h m) (N : News g L h (new ++ frs)) (hap : ∀ p ∈ new, p.1 ∉ L :: frs.map (·.1)) (hx : NewX h s.heap e "IndexError" ctx)
    (k : ∀ h' frs' T oe oT, TI.SameUp frs frs' → TI.Frs l frs' → Held g L h' m e T oe oT (rawInt L) ctx (new ++ frs') → Q () { s with heap := h' }) :
    wpAny M A (noteFrame (.ref e) (envOf name scope L a cd)) Q E s := by
  obtain ⟨ob, t, he, hcls, hd⟩ := hx.there
  obtain ⟨hff, hNs, frs₁, SU, ht⟩ := TI.frames_at (name := name) (a := a) (cd := cd) (h' := s.heap) (base := TI.gone h (L :: frs.map (·.1))) hk Fs F N TI.tail_sub (fun b o hb' => ⟨o.slots, hx.keeps b o hb'⟩) fun b hm => TI.gone_none hm
  unfold noteFrame
  simp only [show (envOf name scope L a cd).frame = some L from rfl]
  refine wpAny_bind (wpAny_field he hd (x := .none) rfl ?_)
  rw [if_neg (by decide)]
  refine wpAny_bind (wpAny_frameOf_fun hfr hff rfl fun h₁ hs₁ => ?_)
  refine wpAny_bind (wpAny_entryPlaceOf fun pl hpl => ?_)
  unfold EntryCells.newEntry newFields
  refine wpAny_bind (wpAny_newObj_type ?_ (hpl.sizeOk5 _ _ _ _ _))
  rw [TI.frames_are Fs] at hs₁
  obtain ⟨hsz, hsame, hup⟩ := hs₁
  have old : ∀ b o, h.get? b = some o → b ≠ e := fun b o eb q => by rw [q, hx.new] at eb; cases eb
  have heS : e ∉ L :: frs.map (·.1) := fun hm => by
    rcases List.mem_cons.mp hm with q | hm
    · obtain ⟨o, _, _, ho, _⟩ := F.ns
      exact old L o ho q.symm
    · obtain ⟨p, hp, q⟩ := List.mem_map.mp hm
      exact old p.1 p.2 (N p (List.mem_append_right _ hp)).1 q
  have he₁ : h₁.get? e = some ob := (hsame e heS).trans he
  (try dsimp only)
  generalize hoT : ({ cls := .type "traceback", dict := none, data := .fields ([.none, .ref L, .none, rawInt L, .none] ++ (if pl.isEmpty then List.replicate 6 Value.none else pl)).toArray, slots := #[] } : Obj) = oT
  have he₂ := Heap.get?_push_of_some (h := h₁) oT he₁
  refine wpAny_setField he₂ hd (by simp) ?_
  have hTe : h₁.objs.size ≠ e := Nat.ne_of_gt (Heap.lt_size he₁)
  have hd₃ := Obj.data_mapFields hd (·.setIfInBounds 1 (Value.ref h₁.objs.size))
  have he₃ := Heap.get?_update_self (Obj.mapFields (·.setIfInBounds 1 (Value.ref h₁.objs.size))) he₂ (Obj.isFreed_of_fields hd₃)
  have hT₃ := (Heap.get?_update_other (h₁.push oT) (Obj.mapFields (·.setIfInBounds 1 (Value.ref h₁.objs.size))) (Ne.symm hTe)).trans (Heap.get?_push_size h₁ (by rw [← hoT]; rfl))
  have keep : ∀ b o, b ≠ e → h₁.get? b = some o → ((h₁.push oT).update e (Obj.mapFields (·.setIfInBounds 1 (Value.ref h₁.objs.size)))).get? b = some o := fun b o hb eb =>
    (Heap.get?_update_other _ _ (Ne.symm hb)).trans (Heap.get?_push_of_some _ eb)
  generalize (h₁.push oT).update e (Obj.mapFields (·.setIfInBounds 1 (Value.ref h₁.objs.size))) = h₂ at *
  have fin : ∀ b o, b ∉ L :: frs.map (·.1) → h.get? b = some o → h₂.get? b = some o := fun b o hb eb =>
    keep b o (old b o eb) ((hsame b hb).trans (hx.keeps b o eb))
  have F₂ : Fr g L h₂ m := by
    obtain ⟨o, es, ep, ho, r⟩ := hNs
    obtain ⟨sl, hsl⟩ := hup L o ho
    exact ⟨⟨_, es, ep, keep L _ (fun q => heS (by rw [← q]; exact .head _)) hsl, r⟩, fun b o eb => fin b o (TI.base_apart F N TI.tail_sub eb) (F.keep b o eb), F.above⟩
  obtain ⟨frs₂, SU₂, ht₂⟩ := TI.sameUp_of (h' := h₂) (frs := frs₁) fun p hp => by
    obtain ⟨sl, hsl⟩ := hup p.1 p.2 (ht p hp)
    obtain ⟨x, hx', q⟩ := SU.fwd p hp
    exact ⟨sl, keep _ _ (fun q2 => heS (by rw [← q2, q]; exact List.mem_cons_of_mem _ (List.mem_map.mpr ⟨x, hx', rfl⟩))) hsl⟩
  have SU' := SU.trans SU₂
  have gnone : ∀ b, h.get? b = none → g.get? b = none := fun b hb => TI.none_of F.keep hb
  have Tnone : h.get? h₁.objs.size = none := by
    cases q : h.get? h₁.objs.size with
    | none => rfl
    | some o => exact absurd (Heap.lt_size (hx.keeps _ _ q)) (by rw [hsz]; exact Nat.lt_irrefl _)
  have there : ∀ q ∈ new ++ frs₂, ∃ o, h.get? q.1 = some o := fun q hq => by
    rcases List.mem_append.mp hq with hq | hq
    · exact ⟨_, (N q (List.mem_append_left _ hq)).1⟩
    · obtain ⟨x, hx', q'⟩ := SU'.fwd q hq
      exact ⟨_, by rw [q']; exact (N x (List.mem_append_right _ hx')).1⟩
  have hLo : ∃ o, h.get? L = some o := by obtain ⟨o, _, _, ho, _⟩ := F.ns; exact ⟨o, ho⟩
  refine k h₂ frs₂ h₁.objs.size _ oT SU' (Fs.up SU') ⟨F₂, fun p hp => ?_, ⟨(Obj.cls_mapFields _ _).trans hcls, ⟨t, hd₃⟩, _, by rw [← hoT], by first | (simp; done) | (rcases hpl with rfl | ⟨_, _, _, _, _, _, _, rfl⟩ <;> simp)⟩, hTe, fun q hq => ?_⟩
  · rcases List.mem_cons.mp hp with rfl | hp
    · exact ⟨he₃, (fun q => heS (by rw [show e = L from q]; exact .head _)), gnone _ hx.new⟩
    · rcases List.mem_cons.mp hp with rfl | hp
      · obtain ⟨o, ho⟩ := hLo
        exact ⟨hT₃, (fun q => by rw [← show h₁.objs.size = L from q, Tnone] at ho; cases ho), gnone _ Tnone⟩
      · rcases List.mem_append.mp hp with hp | hp
        · obtain ⟨a1, a2, a3⟩ := N p (List.mem_append_left _ hp)
          exact ⟨fin _ _ (hap p hp) a1, a2, a3⟩
        · obtain ⟨x, hx', q'⟩ := SU'.fwd p hp
          obtain ⟨_, a2, a3⟩ := N x (List.mem_append_right _ hx')
          exact ⟨ht₂ p hp, by rw [q']; exact a2, by rw [q']; exact a3⟩
  · obtain ⟨o, ho⟩ := there q hq
    exact ⟨old _ _ ho, fun q2 => by rw [q2, Tnone] at ho; cases ho⟩
/-- it is in flight here already -/
theorem noted_held (hf : env.frame = some L) (H : Held g L s.heap m e T oe oT (rawInt L) ctx rest) (k : Q () s) : wpAny M A (noteFrame (.ref e) env) Q E s := by
  obtain ⟨F, N, ⟨_, ⟨t, hd⟩, ts, hdt, h3⟩, _, _⟩ := H
  unfold noteFrame
  simp only [hf]
  refine wpAny_bind (wpAny_field (N _ (.head _)).1 hd (x := .ref T) rfl ?_)
  rw [if_pos (show (Value.ref T != Value.none) = true from by simp)]
  refine wpAny_bind (wpAny_field (N _ (.tail _ (.head _))).1 hdt h3 ?_)
  rw [if_pos (show (rawInt L == rawInt L) = true from by simp)]
  exact wpAny_pure k
/-- its flight is set -/
theorem flight_set {fl : Value} (x : Option Addr) (H : Held g L s.heap m e T oe oT fl ctx rest) (k : ∀ h' oT', Held g L h' m e T oe oT' (x.elim .none fun f => rawInt f) ctx rest → Q () { s with heap := h' }) : wpAny M A (setFlight (.ref e) x) Q E s := by
  obtain ⟨F, N, ⟨hc, ⟨t, hd⟩, ts, hdt, h3⟩, hne, hoff⟩ := H
  have hsz : 3 < ts.size := (Array.getElem?_eq_some_iff.mp h3).1
  have hT := N _ (.tail _ (.head _))
  unfold setFlight
  refine wpAny_bind (wpAny_field (N _ (.head _)).1 hd (x := .ref T) rfl ?_)
  rw [if_pos (show (Value.ref T != Value.none) = true from by simp)]
  refine wpAny_setField hT.1 hdt hsz ?_
  have hd₃ := Obj.data_mapFields hdt (·.setIfInBounds 3 (x.elim Value.none fun f => rawInt f))
  have hT₃ := Heap.get?_update_self (Obj.mapFields (·.setIfInBounds 3 (x.elim Value.none fun f => rawInt f))) hT.1 (Obj.isFreed_of_fields hd₃)
  have same : ∀ b, b ≠ T → (s.heap.update T (Obj.mapFields (·.setIfInBounds 3 (x.elim Value.none fun f => rawInt f)))).get? b = s.heap.get? b := fun b hb => Heap.get?_update_other _ _ (Ne.symm hb)
  generalize s.heap.update T (Obj.mapFields (·.setIfInBounds 3 (x.elim Value.none fun f => rawInt f))) = h₂ at *
  refine k h₂ _ ⟨⟨F.ns.at' fun o eo => (same _ hT.2.1.symm).trans eo, fun b o eb => (same b fun q => by rw [q, hT.2.2] at eb; cases eb).trans (F.keep b o eb), F.above⟩, fun p hp => ?_, ⟨hc, ⟨t, hd⟩, _, hd₃, by simp [hsz]⟩, hne, hoff⟩
  rcases List.mem_cons.mp hp with rfl | hp
  · exact ⟨(same _ hne.symm).trans (N _ (.head _)).1, (N _ (.head _)).2⟩
  · rcases List.mem_cons.mp hp with rfl | hp
    · exact ⟨hT₃, hT.2⟩
    · have z := N p (.tail _ (.tail _ hp))
      exact ⟨(same _ (hoff p hp).2).trans z.1, z.2⟩
theorem came_back (hf : env.frame = some L) (H : Held g L s.heap m e T oe oT (rawInt L) ctx rest) (k : ∀ h' oT', Held g L h' m e T oe oT' (rawInt L) ctx rest → E (.ref e) { s with heap := h' }) : cameBackBy M A env E (.ref e) s := by
  unfold cameBackBy
  obtain ⟨t, hd⟩ := H.X.2.1
  refine wpAny_bind (wpAny_field (H.N _ (.head _)).1 hd (x := .ref T) rfl ?_)
  rw [if_neg (show ¬ (Value.ref T == Value.none) = true from by simp)]
  rw [hf]
  first
    | exact flight_set (some L) H k
    | exact wpAny_bind (wpAny_pure (flight_set (some L) H k))
theorem pass_on {α : Type} {what : String} {Q : α → Shared → Prop} (hf : env.frame = some L) {fl : Value} (H : Held g L s.heap m e T oe oT fl ctx rest) (k : ∀ h' oT', Held g L h' m e T oe oT' (rawInt L) ctx rest → E (.ref e) { s with heap := h' }) : wpAny M A (PySem.passOn what (.ref e) env : Sem α) Q E s := by
  unfold PySem.passOn
  obtain ⟨t, hd⟩ := H.X.2.1
  refine wpAny_bind (wpAny_field (H.N _ (.head _)).1 hd (x := .ref T) rfl ?_)
  rw [if_neg (show ¬ (Value.ref T == Value.none) = true from by simp)]
  rw [hf]
  first
    | exact wpAny_bind (flight_set (some L) H fun h' oT' H' => wpAny_throw (k h' oT' H'))
    | exact wpAny_bind (wpAny_pure (wpAny_bind (flight_set (some L) H fun h' oT' H' => wpAny_throw (k h' oT' H'))))
end
/-- what a try asks of an exception of its body -/
abbrev PEx (prog : Program) (w : World) (A : Around) (env : Env) (hs : List ExceptHandler) (Q : Flow → Shared → Prop) (e : Value) (s : Shared) : Prop :=
  wpAny (model prog w) A (noteFrame e env) (fun _ s₂ => wpAny (model prog w) A (setFlight e none) (fun _ s₃ => wpAny (model prog w) A (handleBy e env hs) Q (fun _ _ => False) s₃) (fun _ _ => False) s₂) (fun _ _ => False) s
section
variable {prog : Program} {w : World} {A : Around} {s : Shared} {g : Heap} {L e T : Addr} {m mg mb : Str → Option Value} {oe oT : Obj} {ctx : Value} {rest : List (Addr × Obj)} {Q : Flow → Shared → Prop} {name : Str} {scope : Scope} {a : Addr} {cd : Value} {p : Program} {loose : List Str} {mean : ExcName → Option Value}
  {b₀ : Stmt} {suite : List Stmt} {pos np : Pos}
abbrev IdxName (prog : Program) (w : World) (g : Heap) (np : Pos) (env : Env) : Prop := ∀ (A' : Around) (Q' E' : Value → Shared → Prop) (s' : Shared), Kp g s'.heap → Q' (.type "IndexError") s' → wpAny (model prog w) A' (eval (.Name "IndexError" np) env) Q' E' s'
theorem handle_idx {fl : Value} (hT : IdxName prog w g np (envOf name scope L a cd)) (H : Held g L s.heap m e T oe oT fl ctx rest)
    (k : ∀ h', Fr g L h' m → News g L h' rest → wpAny (model prog w) (A.mark (some (.ref e))) (execs (b₀ :: suite) (envOf name scope L a cd)) Q (fun _ _ => False) { s with heap := h' })
    :
    wpAny (model prog w) A (handleBy (.ref e) (envOf name scope L a cd) [.ExceptHandler (some (.Name "IndexError" np)) none (b₀ :: suite) pos]) Q (fun _ _ => False) s := by
  refine wpAny_handleBy_builtin (X := "IndexError") (T := "IndexError") (b := true) (isSubtype_of_subB (by decide +kernel)) (isSubtype_of_subB (by decide +kernel)) (isSubtype_of_subB (by decide +kernel)) ?_
  refine hT _ _ _ _ H.F.keep ⟨rfl, ⟨_, (H.N _ (.head _)).1, H.X.1⟩, ?_⟩
  rw [if_pos rfl]
  refine flight_set none H fun h' oT' H' => ?_
  exact wpAny_mono (k h' H'.F fun q hq => H'.N q (.tail _ (.tail _ hq))) (fun _ _ x => x) fun _ _ x => x.elim
theorem pe_held (hT : IdxName prog w g np (envOf name scope L a cd)) (H : Held g L s.heap m e T oe oT (rawInt L) ctx rest)
    (k : ∀ h', Fr g L h' m → News g L h' rest → wpAny (model prog w) (A.mark (some (.ref e))) (execs (b₀ :: suite) (envOf name scope L a cd)) Q (fun _ _ => False) { s with heap := h' })
    :
    PEx prog w A (envOf name scope L a cd) [.ExceptHandler (some (.Name "IndexError" np)) none (b₀ :: suite) pos] Q (.ref e) s :=
  noted_held rfl H (flight_set none H fun _ _ H' => handle_idx hT H' k)
theorem pe_raw {h : Heap} {l : List Env} {frs new : List (Addr × Obj)} (hfr : A.frames = some (envOf name scope L a cd :: l)) (Fs : TI.Frs l frs) (F : Fr g L h m) (N : News g L h (new ++ frs)) (hap : ∀ p ∈ new, p.1 ∉ L :: frs.map (·.1)) (hx : NewX h s.heap e "IndexError" ctx)
    (hT : IdxName prog w g np (envOf name scope L a cd))
    (k : ∀ h' frs', TI.SameUp frs frs' → TI.Frs l frs' → Fr g L h' m → News g L h' (new ++ frs') → wpAny (model prog w) (A.mark (some (.ref e))) (execs (b₀ :: suite) (envOf name scope L a cd)) Q (fun _ _ => False) { s with heap := h' })
    (hk : scope.kind = .function) :
    PEx prog w A (envOf name scope L a cd) [.ExceptHandler (some (.Name "IndexError" np)) none (b₀ :: suite) pos] Q (.ref e) s :=
  noted_raw hfr hk Fs F N hap hx fun _ frs' _ _ _ SU Fs' H => flight_set none H fun _ _ H' => handle_idx hT H' (fun h' F' N' => k h' frs' SU Fs' F' N')
/-- a while whose test is false at once, or raises -/
theorem while_out {E : Value → Shared → Prop} {env : Env} {test : Expr} {body : List Stmt} (h : wpAny (model prog w) A (isTrue test env (eval test env)) (fun b s₂ => b = false ∧ Q .next s₂) (notedBy (model prog w) A env (cameBackBy (model prog w) A env E)) s) :
    wpAny (model prog w) A (exec (.While test body [] pos) env) Q E s := by
  refine wpAny_While (codeAny_whileLoop (fun _ s' => s' = s) ?_ 0 rfl)
  rintro n s' rfl
  refine wpAny_mono h (fun b s₂ hb => ?_) fun _ _ x => x
  rw [hb.1, if_neg (by decide)]
  exact wpAny_execs_nil hb.2
end
end
section
local macro_rules | `(tactic| walk_at "eval Name") => `(tactic| ((with_reducible show wpAny _ _ (PySem.eval (PySem.Expr.Name _ _) (PySem.W.envX _ _ _ _ _ _)) _ _ _); (refine nmX ?kx ?kf ?kv ?_; (case kx => decide +kernel); (case kf => with_reducible assumption); (case kv => (try dsimp only [List.reverse, List.reverseAux]); repeat (first | exact kl_hit | exact kb_hit | exact ll_hit | (refine kl_miss (by decide +kernel) ?_) | (refine kc_miss (by decide +kernel) ?_) | (refine kb_miss (by decide +kernel) ?_) | (refine ll_miss (by decide +kernel) ?_))))))
local macro_rules | `(tactic| walk_at "storeName") => `(tactic| ((with_reducible show wpAny _ _ (PySem.storeName (PySem.W.envX _ _ _ _ _ _) _ _) _ _ _); (refine stX ?kx ?kf ?kn ?_; (case kx => decide +kernel); (case kf => with_reducible assumption); (case kn => with_reducible assumption)); (intro h9 F9 N9); (try k_sweep)))
def diffI (es as : List Int) : List Int := es.filter fun x => !as.contains x
structure SJ (es as : List Int) (i j : Nat) (mi un : List Int) : Prop where
  hi : i ≤ es.length
  hj : j ≤ as.length
  hm : mi = diffI (es.take i) as
  hu : un = diffI (as.take j) es
  s1 : ∀ x ∈ es.take i, ∀ y ∈ as.drop j, x < y
  s2 : ∀ y ∈ as.take j, ∀ x ∈ es.drop i, y < x
theorem SJ.symm {es as mi un : List Int} {i j : Nat} (h : SJ es as i j mi un) : SJ as es j i un mi := ⟨h.hj, h.hi, h.hu, h.hm, h.s2, h.s1⟩
theorem drop_at {l : List Int} {i : Nat} {e : Int} (h : l[i]? = some e) : l.drop i = e :: l.drop (i + 1) := by
  have hi := (List.getElem?_eq_some_iff.mp h).1
  rw [List.drop_eq_getElem_cons hi, (List.getElem?_eq_some_iff.mp h).2]
theorem take_at {l : List Int} {i : Nat} {e : Int} (h : l[i]? = some e) : l.take (i + 1) = l.take i ++ [e] := by rw [List.take_add_one, h]; rfl
theorem drop_gt {l : List Int} {i : Nat} {e : Int} (hs : l.Pairwise (· < ·)) (h : l[i]? = some e) : ∀ y ∈ l.drop (i + 1), e < y := by
  have h1 := hs.sublist (List.drop_sublist i l)
  rw [drop_at h] at h1
  exact (List.pairwise_cons.mp h1).1
theorem next_ne {l : List Int} {i : Nat} {e x : Int} (hs : l.Pairwise (· < ·)) (h : l[i]? = some e) (h2 : l[i + 1]? = some x) : x ≠ e := fun q => by
  have := drop_gt hs h x (by rw [drop_at h2]; exact .head _)
  rw [q] at this; exact absurd this (Int.lt_irrefl _)
theorem diff_snoc_in {l as : List Int} {e : Int} (h : e ∈ as) : diffI (l ++ [e]) as = diffI l as := by simp [diffI, List.filter_append, h]
theorem diff_snoc_out {l as : List Int} {e : Int} (h : e ∉ as) : diffI (l ++ [e]) as = diffI l as ++ [e] := by simp [diffI, List.filter_append, h]
theorem SJ.lt {es as mi un : List Int} {i j : Nat} {e a : Int} (h : SJ es as i j mi un) (sa : as.Pairwise (· < ·)) (he : es[i]? = some e) (ha : as[j]? = some a) (hl : e < a) : SJ es as (i + 1) j (mi ++ [e]) un := by
  have hge : ∀ y ∈ as.drop j, e < y := fun y hy => by
    rw [drop_at ha] at hy
    rcases List.mem_cons.mp hy with rfl | hy
    · exact hl
    · exact Int.lt_trans hl (drop_gt sa ha y hy)
  have hne : e ∉ as := fun hm => by
    rw [← List.take_append_drop j as] at hm
    rcases List.mem_append.mp hm with hm | hm
    · exact absurd (h.s2 e hm e (by rw [drop_at he]; exact .head _)) (Int.lt_irrefl _)
    · exact absurd (hge e hm) (Int.lt_irrefl _)
  refine ⟨(List.getElem?_eq_some_iff.mp he).1, h.hj, ?_, h.hu, fun x hx y hy => ?_, fun y hy x hx => h.s2 y hy x (by rw [drop_at he]; exact .tail _ hx)⟩
  · rw [take_at he, diff_snoc_out hne, h.hm]
  · rw [take_at he] at hx
    rcases List.mem_append.mp hx with hx | hx
    · exact h.s1 x hx y hy
    · rw [List.mem_singleton.mp hx]; exact hge y hy
theorem SJ.eq {es as mi un : List Int} {i j : Nat} {e : Int} (h : SJ es as i j mi un) (se : es.Pairwise (· < ·)) (sa : as.Pairwise (· < ·)) (he : es[i]? = some e) (ha : as[j]? = some e) : SJ es as (i + 1) (j + 1) mi un := by
  have m1 : e ∈ as := List.mem_of_getElem? ha
  have m2 : e ∈ es := List.mem_of_getElem? he
  refine ⟨(List.getElem?_eq_some_iff.mp he).1, (List.getElem?_eq_some_iff.mp ha).1, ?_, ?_, fun x hx y hy => ?_, fun y hy x hx => ?_⟩
  · rw [take_at he, diff_snoc_in m1, h.hm]
  · rw [take_at ha, diff_snoc_in m2, h.hu]
  · rw [take_at he] at hx
    rcases List.mem_append.mp hx with hx | hx
    · exact h.s1 x hx y (by rw [drop_at ha]; exact .tail _ hy)
    · rw [List.mem_singleton.mp hx]; exact drop_gt sa ha y hy
  · rw [take_at ha] at hy
    rcases List.mem_append.mp hy with hy | hy
    · exact h.s2 y hy x (by rw [drop_at he]; exact .tail _ hx)
    · rw [List.mem_singleton.mp hy]; exact drop_gt se he x hx
theorem SJ.done {es as mi un : List Int} {i j : Nat} (h : SJ es as i j mi un) (hd : i = es.length ∨ j = as.length) : mi ++ es.drop i = diffI es as ∧ un ++ as.drop j = diffI as es := by
  have key : ∀ {es as mi un : List Int} {i j : Nat}, SJ es as i j mi un → i = es.length → mi ++ es.drop i = diffI es as ∧ un ++ as.drop j = diffI as es := by
    intro es as mi un i j h hd
    subst hd
    have h1 := h.hm
    rw [List.take_length] at h1
    refine ⟨by rw [List.drop_length, List.append_nil]; exact h1, ?_⟩
    have h2 : diffI (as.drop j) es = as.drop j := by
      refine List.filter_eq_self.mpr fun y hy => ?_
      have : y ∉ es := fun hm => absurd (h.s1 y (by rw [List.take_length]; exact hm) y hy) (Int.lt_irrefl _)
      simp [this]
    have h3 : diffI as es = diffI (as.take j) es ++ diffI (as.drop j) es := by
      rw [diffI, diffI, diffI, ← List.filter_append, List.take_append_drop]
    rw [h3, h2, h.hu]
  rcases hd with hd | hd
  · exact key h hd
  · exact (key h.symm hd).symm
section
variable {prog : Program} {w : World} {A : Around} {s : Shared} {K : Frag} {L : Addr} {gb : Heap} {m mg mb : Str → Option Value} {p : Program} {loose : List Str} {mean : ExcName → Option Value} {Q E : Value → Shared → Prop}
/-- a call of a def of the text, the frames laid aside -/
theorem enterF {env : Env} {outer : List Env} {frs0 : List (Addr × Obj)} {name qual : Str} {params : Arguments} {body : List Stmt} {scope : Scope} {dV kV doc pm cdv ct oc : Value} {an od : Option Addr} {osl : Array (Option Value)} {f : Addr} {pos : List Value} {kw : List (Str × Value)} {binds : List (Str × Value)}
    (F : Fr gb L s.heap m) (X₀ : K.In gb) (T : Top p loose mean mg mb gb) (Fs0 : TI.Frs outer frs0) (H : News gb L s.heap frs0) (hA : A.frames = some (env :: outer)) (hf : env.frame = some L) (hke : env.scope.kind = .function)
    (ho : K.lookup f = some ⟨oc, od, .func (fnX name qual params body scope [] dV kV doc pm an cdv ct), osl⟩) (hcd : codeIn K cdv qual = true) (hroom : A.depth < recursionLimit)
    (hbind : BindsTo s (fnX name qual params body scope [] dV kV doc pm an cdv ct) ⟨pos, kw⟩ binds) (hloc : ∀ y ∈ binds, scope.names.lookup y.1 = some .local)
    (h : ∀ g L' h₁ tk oL, s.heap.get? L = some oL → g = hideAll s.heap (L :: frs0.map (·.1)) → Fr g L' h₁ (kstB (fun _ => none) binds.reverse) → News g L' h₁ ([] ++ ((L, oL) :: frs0)) → TI.Frs (env :: outer) ((L, oL) :: frs0) → (∀ q ∈ (L, oL) :: frs0, q.1 < L') → K.In g → Top p loose mean mg mb g → Kp gb g →
      wpAny (model prog w) (A.deeper (envX qual scope L' f cdv [])) (execs body (envX qual scope L' f cdv []))
        (fun fl s' => Q (match fl with | .ret v => v | _ => .none) s') (fun _ _ => False) { s with heap := h₁, toks := tk })
    (hcell : ∀ x ∈ scope.names, x.2 ≠ .cell) (hco : scope.isCoroutine = false) (hgen : scope.isGenerator = false) (hk : scope.kind = .function) : wpAny (model prog w) A (call (.ref f) pos kw) Q E s := by
  have X := X₀.keeps F.keep
  have TT := T.keeps F.keep
  obtain ⟨oL, es, ep, hL, hLd, hLr⟩ := id F.ns
  have hfr : ∀ q ∈ (L, oL) :: frs0, s.heap.get? q.1 = some q.2 := fun q hq => by
    rcases List.mem_cons.mp hq with rfl | hq
    · exact hL
    · exact (H q hq).1
  have hgb : Kp gb (hideAll s.heap (L :: frs0.map (·.1))) := fun b o e => hideAll_get _ (F.keep b o e) fun hb => by
    rcases List.mem_cons.mp hb with rfl | hb
    · exact absurd (Nat.lt_of_lt_of_le (Heap.lt_size e) F.above) (Nat.lt_irrefl _)
    · obtain ⟨q, hq, rfl⟩ := List.mem_map.mp hb
      rw [(H q hq).2.2] at e; cases e
  refine wpAny_call (codeAny_call_def (fd := fnX name qual params body scope [] dV kV doc pm an cdv ct) (body := body) (binds := binds) hroom (X _ _ ho) rfl TT.nolimit (codeRec_of X hcd) rfl hbind hcell hloc (fun h₁ hns hk₁ => ?_) hco hgen hk)
  have F' : Fr s.heap s.heap.objs.size h₁ (kstB (fun _ => none) binds.reverse) := ⟨by rw [kstB_lookup]; exact hns, hk₁, Nat.le_refl _⟩
  refine wpAny_mono (h _ s.heap.objs.size h₁ _ oL hL rfl (hide_fr _ F') (fun q hq => ?_) ⟨by rw [hke]; decide, hf, ⟨es, ep, hLd⟩, Fs0⟩ (fun q hq => Heap.lt_size (hfr q hq)) (X₀.keeps hgb) (T.keeps hgb) hgb) (fun fl s' hl => hl) fun _ _ y => y.elim
  have hq' : q ∈ (L, oL) :: frs0 := hq
  refine ⟨hk₁ _ _ (hfr q hq'), Nat.ne_of_lt (Heap.lt_size (hfr q hq')), hideAll_none _ ?_⟩
  rcases List.mem_cons.mp hq' with rfl | hq
  · exact .head _
  · exact .tail _ (List.mem_map_of_mem hq)
theorem tail_out {value slice : Expr} {l : Addr} {items : Array Value} {k : Int} {u : Tok} {Q E : Value → Shared → Prop} (ctx : Value) (hA : (A.handled = none ∧ ctx = .none) ∨ ∃ e oe vs, ctx = .ref e ∧ A.handled = some (.ref e) ∧ s.heap.get? e = some oe ∧ oe.data = .fields vs ∧ vs[2]? = some .none)
    (hl : s.heap.IsList l items) (hout : (items.size : Int) ≤ k) (hhi : k < 2 ^ 63) (hE : ∀ h' tk e, NewX s.heap h' e "IndexError" ctx → E (.ref e) { s with heap := h', toks := tk })
    (hs : subscripted slice false (.ref l) (.int k u) = operate [.ref l, .int k u] (getItem (.ref l) (.int k u)) := by with_unfolding_all rfl) :
    wpAny (model prog w) A (subscriptTail value slice (.ref l) (.int k u)) Q E s :=
  tail_any hl.typeIs slot_list_getitem.lookup (item_out ctx hA hl hout hhi hE) hs
theorem hap_of {g h : Heap} {L : Addr} {frs new : List (Addr × Obj)} (N : News g L h (new ++ frs)) (h2 : ∀ p ∈ new, ∀ q ∈ frs, q.1 ≠ p.1) : ∀ p ∈ new, p.1 ∉ L :: frs.map (·.1) := fun p hp hm => by
  rcases List.mem_cons.mp hm with q | hm
  · exact (N p (List.mem_append_left _ hp)).2.1 q
  · obtain ⟨x, hx, q⟩ := List.mem_map.mp hm
    exact h2 p hp x hx q
theorem off_up {a b : Addr} {frs frs' : List (Addr × Obj)} (SU : TI.SameUp frs frs') (h1 : ∀ q ∈ frs, q.1 ≠ a ∧ q.1 ≠ b) : ∀ q ∈ frs', q.1 ≠ a ∧ q.1 ≠ b := fun q hq => by
  obtain ⟨p, hp, e⟩ := SU.fwd q hq
  rw [e]; exact h1 p hp
theorem cut_post {M : Model} {α : Type} {A : Around} {s : Shared} {c : Sem α} {Q : α → Shared → Prop} {E : Value → Shared → Prop} {P : (α → Shared → Prop) → Prop} (h1 : P Q) (h2 : ∀ Q', P Q' → wpAny M A c Q' E s) : wpAny M A c Q E s := h2 _ h1
theorem while_cut {env : Env} {test : Expr} {body els : List Stmt} {pos : Pos} {Q : Flow → Shared → Prop} {E : Value → Shared → Prop} (h : ∀ b, b = body → wpAny (model prog w) A (exec (.While test b els pos) env) Q E s) : wpAny (model prog w) A (exec (.While test body els pos) env) Q E s := h _ rfl
theorem mark_frames {A : Around} {x : Option Value} {l : List Env} (h : A.frames = some l) : (A.mark x).frames = some l := h
theorem exec_then {M : Model} {env : Env} {st : Stmt} {rest : List Stmt} {Q : Flow → Shared → Prop} {E : Value → Shared → Prop} {P : (Shared → Prop) → Prop} (h1 : P fun s' => wpAny M A (execs rest env) Q E s') (h2 : ∀ X, P X → wpAny M A (exec st env) (fun f s' => match f with | .next => X s' | f => Q f s') E s) : wpAny M A (execs (st :: rest) env) Q E s := wpAny_execs_cons (h2 _ h1)
theorem exec_last {M : Model} {env : Env} {st : Stmt} {Q : Flow → Shared → Prop} {E : Value → Shared → Prop} (h : ∀ Q', (∀ s', Q .next s' → Q' .next s') → (∀ s', Q .brk s' → Q' .brk s') → wpAny M A (exec st env) Q' E s) : wpAny M A (execs [st] env) Q E s :=
  wpAny_execs_cons (wpAny_mono (h Q (fun _ h => h) fun _ h => h) (fun f s' h => by cases f with | next => exact wpAny_execs_nil h | _ => exact h) fun _ _ h => h)
theorem if_true {M : Model} {env : Env} {test : Expr} {body els : List Stmt} {pos : Pos} {Q : Flow → Shared → Prop} {E : Value → Shared → Prop} {P : (Shared → Prop) → Prop} (h1 : P fun s' => wpAny M A (execs body env) Q E s') (h2 : ∀ X, P X → wpAny M A (isTrue test env (eval test env)) (fun b s₂ => b = true ∧ X s₂) E s) : wpAny M A (exec (.If test body els pos) env) Q E s :=
  wpAny_If (wpAny_mono (h2 _ h1) (fun b s₂ h => by rw [h.1, if_pos rfl]; exact h.2) fun _ _ h => h)
theorem if_false {M : Model} {env : Env} {test : Expr} {body els : List Stmt} {pos : Pos} {Q : Flow → Shared → Prop} {E : Value → Shared → Prop} {P : (Shared → Prop) → Prop} (h1 : P fun s' => wpAny M A (execs els env) Q E s') (h2 : ∀ X, P X → wpAny M A (isTrue test env (eval test env)) (fun b s₂ => b = false ∧ X s₂) E s) : wpAny M A (exec (.If test body els pos) env) Q E s :=
  wpAny_If (wpAny_mono (h2 _ h1) (fun b s₂ h => by rw [h.1, if_neg (by decide)]; exact h.2) fun _ _ h => h)
theorem cut_E {M : Model} {α : Type} {A : Around} {s : Shared} {c : Sem α} {Q : α → Shared → Prop} {E : Value → Shared → Prop} {P : (Value → Shared → Prop) → Prop} (h1 : P E) (h2 : ∀ E', P E' → wpAny M A c Q E' s) : wpAny M A c Q E s := h2 _ h1
/-- a while: the names that are not told are forgotten; what it asks of a turn's end is told by two facts -/
theorem while_kn {env : Env} {h₀ : Heap} {test : Expr} {body : List Stmt} {pos : Pos} {Q : Flow → Shared → Prop} {σ : Type} {m₀ : Str → Option Value} (Led : σ → List (Addr × Obj)) (ps : σ → List (Str × Value)) (J : σ → Prop) (μ : σ → Nat) (c₀ : σ)
    (F : Fr h₀ env.locals s.heap m₀) (N : News h₀ env.locals s.heap (Led c₀)) (hk : Nam m₀ (ps c₀)) (hj : J c₀)
    (turn : ∀ (c : σ) (u : Str → Option Value) h tk, J c → Fr h₀ env.locals h (kstB u (ps c)) → News h₀ env.locals h (Led c) → ∀ Q' : Flow → Shared → Prop,
      (∀ (c' : σ) h' tk' m', Fr h₀ env.locals h' m' → News h₀ env.locals h' (Led c') → Nam m' (ps c') → J c' → μ c' < μ c → Q' .next { s with heap := h', toks := tk' }) → (∀ s₂, Q .next s₂ → Q' .brk s₂) →
      wpAny (model prog w) A (isTrue test env (eval test env)) (fun b s₂ => WhlIf b (wpAny (model prog w) A (execs body env) Q' (fun _ _ => False) s₂) (Q .next s₂)) (fun _ _ => False) { s with heap := h, toks := tk }) :
    wpAny (model prog w) A (exec (.While test body [] pos) env) Q (fun _ _ => False) s := by
  refine wpAny_While (codeAny_whileLoop (fun n s' => ∃ h' tk m' c, s' = { s with heap := h', toks := tk } ∧ Fr h₀ env.locals h' m' ∧ News h₀ env.locals h' (Led c) ∧ Nam m' (ps c) ∧ J c ∧ n = μ c) ?_ (μ c₀)
    ⟨s.heap, s.toks, m₀, c₀, rfl, F, N, hk, hj, rfl⟩)
  rintro n s' ⟨h', tk, m', c, rfl, F', N', h1, hJ, rfl⟩
  refine wpAny_mono (turn c m' h' tk hJ (by rw [kstB_self h1]; exact F') N' (fun f s₃ => match f with
      | .ret v => Q (.ret v) s₃
      | .brk => Q .next s₃
      | _ => ∃ m, m < μ c ∧ ∃ h' tk m' c, s₃ = { s with heap := h', toks := tk } ∧ Fr h₀ env.locals h' m' ∧ News h₀ env.locals h' (Led c) ∧ Nam m' (ps c) ∧ J c ∧ m = μ c)
    (fun c' h₄ tk₄ m₄ F₄ N₄ hn₄ hJ₄ hm₄ => ⟨μ c', hm₄, h₄, tk₄, m₄, c', rfl, F₄, N₄, hn₄, hJ₄, rfl⟩) fun _ h => h) (fun b s₂ hb => ?_) fun _ _ e => e.elim
  cases b with
  | false => exact wpAny_execs_nil hb
  | true =>
    refine wpAny_mono hb (fun f s₃ h₃ => ?_) fun _ _ e => e.elim
    cases f with
    | ret v => exact h₃
    | brk => exact h₃
    | cont => exact h₃
    | next => exact h₃
theorem try_idx {env : Env} {body : List Stmt} {b₀ : Stmt} {suite : List Stmt} {t : Expr} {pos pos' : Pos} {Q : Flow → Shared → Prop} {P : (Addr → Shared → Prop) → Prop} (h1 : P fun e s => wpAny (model prog w) (A.mark (some (.ref e))) (execs (b₀ :: suite) env) Q (fun _ _ => False) s)
    (h2 : P (fun e s => wpAny (model prog w) (A.mark (some (.ref e))) (execs (b₀ :: suite) env) Q (fun _ _ => False) s) → wpAny (model prog w) A (execs body env) (fun f s₁ => match f with | .next => Q .next s₁ | f => Q f s₁) (fun e s₁ => PEx prog w A env [.ExceptHandler (some t) none (b₀ :: suite) pos] Q e s₁) s) :
    wpAny (model prog w) A (exec (.Try body [.ExceptHandler (some t) none (b₀ :: suite) pos] [] [] pos') env) Q (fun _ _ => False) s :=
  wpAny_Try_except (wpAny_mono (h2 h1) (fun f s₁ h => by cases f with | next => exact wpAny_execs_nil h | _ => exact h) fun _ _ h => h)
end
theorem nam6 {m : Str → Option Value} {a b c d e f : Str × Value} (h1 : m a.1 = some a.2) (h2 : m b.1 = some b.2) (h3 : m c.1 = some c.2) (h4 : m d.1 = some d.2) (h5 : m e.1 = some e.2) (h6 : m f.1 = some f.2) : Nam m [a, b, c, d, e, f] := namC h1 (nam5 h2 h3 h4 h5 h6)
theorem nam8 {m : Str → Option Value} {a b c d e f g h : Str × Value} (h1 : m a.1 = some a.2) (h2 : m b.1 = some b.2) (h3 : m c.1 = some c.2) (h4 : m d.1 = some d.2) (h5 : m e.1 = some e.2) (h6 : m f.1 = some f.2) (h7 : m g.1 = some g.2) (h8 : m h.1 = some h.2) : Nam m [a, b, c, d, e, f, g, h] := namC h1 (namC h2 (nam6 h3 h4 h5 h6 h7 h8))
theorem nam7 {m : Str → Option Value} {a b c d e f g : Str × Value} (h1 : m a.1 = some a.2) (h2 : m b.1 = some b.2) (h3 : m c.1 = some c.2) (h4 : m d.1 = some d.2) (h5 : m e.1 = some e.2) (h6 : m f.1 = some f.2) (h7 : m g.1 = some g.2) : Nam m [a, b, c, d, e, f, g] := namC h1 (nam6 h2 h3 h4 h5 h6 h7)
theorem sld_out {gb g hp h' : Heap} {L L' : Addr} {m m9 : Str → Option Value} {env : Env} {outer : List Env} {frs0 frs' news : List (Addr × Obj)} {oL : Obj} (F : Fr gb L hp m) (hL : hp.get? L = some oL) (hg : g = hideAll hp (L :: frs0.map (·.1))) (hgb : Kp gb g) (F9 : Fr g L' h' m9) (Fs : TI.Frs (env :: outer) ((L, oL) :: frs0)) (SU : TI.SameUp ((L, oL) :: frs0) frs') (N9 : News g L' h' (news ++ frs')) (hseq : ∀ q ∈ news, ∃ a b, q.2.data = .seq a b) :
    KpX (L :: frs0.map (·.1)) hp h' ∧ h'.Ns L m ∧ (∃ frs'', TI.SameUp frs0 frs'' ∧ ∀ q ∈ frs'', h'.get? q.1 = some q.2) ∧ News gb L h' news ∧ (∀ p ∈ news, ∀ q ∈ frs0, q.1 ≠ p.1) ∧ (∀ p ∈ news, hp.get? p.1 = none) := by
  have apart : ∀ p ∈ news, ∀ q ∈ (L, oL) :: frs0, q.1 ≠ p.1 := fun p hp' q hq e => by
    obtain ⟨sl, hb⟩ := SU.back q hq
    obtain ⟨es, ep, hd⟩ := (Fs.up SU).dict _ hb
    obtain ⟨a, b, hs⟩ := hseq p hp'
    have h1 := (N9 _ (List.mem_append_right _ hb)).1
    have h2 := (N9 _ (List.mem_append_left _ hp')).1
    (try dsimp only at h1)
    rw [e, h2] at h1
    rw [Option.some.inj h1] at hs
    rw [hd] at hs; cases hs
  have nin : ∀ p ∈ news, p.1 ∉ L :: frs0.map (·.1) := fun p hp' hm => by
    rcases List.mem_cons.mp hm with e | hm
    · exact apart p hp' _ (.head _) e.symm
    · obtain ⟨q, hq, e⟩ := List.mem_map.mp hm
      exact apart p hp' q (.tail _ hq) e
  cases frs' with
  | nil => exact False.elim SU
  | cons q qs =>
    obtain ⟨e1, ⟨sl, e2⟩, SU2⟩ := SU
    have hq := (N9 q (List.mem_append_right _ (.head _))).1
    have e1' : q.1 = L := e1
    rw [e1', e2] at hq
    refine ⟨kpx_of (hg ▸ F9), ?_, ⟨qs, SU2, fun x hx => (N9 x (List.mem_append_right _ (.tail _ hx))).1⟩, fun p hp' => ⟨(N9 p (List.mem_append_left _ hp')).1, (apart p hp' _ (.head _)).symm, TI.none_of hgb (N9 p (List.mem_append_left _ hp')).2.2⟩, fun p hp' q hq => apart p hp' q (.tail _ hq), fun p hp' => ?_⟩
    · obtain ⟨o, es, ep, ho, r⟩ := F.ns
      rw [hL] at ho; cases ho
      exact ⟨_, es, ep, hq, r⟩
    · cases z : hp.get? p.1 with
      | none => rfl
      | some o =>
        have h1 := (N9 p (List.mem_append_left _ hp')).2.2
        rw [hg, hideAll_get _ z (nin p hp')] at h1
        cases h1
set_option maxRecDepth 100000 in
set_option maxHeartbeats 8000000 in
theorem c_sld (w : World) {p : Program} {loose : List Str} {mean : ExcName → Option Value} {mg mb : Str → Option Value}
    {dp un : Nat} {gd : Option (List Code)} {cn : Str} {cs : Scope} {a : Addr} {ccd : Value} {cl : List (Str × Addr)} {outer : List Env} {gb : Heap} {L : Addr} {m : Str → Option Value} {s : Shared} {Q E : Value → Shared → Prop} {frs0 : List (Addr × Obj)}
    (F : Fr gb L s.heap m) (X : (hd.heap_39 w.params).In gb) (T : Top p loose mean mg mb gb) (Fs0 : TI.Frs outer frs0) (H : News gb L s.heap frs0) (hk : cs.kind = .function)
    (hd1 : dp + 4 < recursionLimit) {le la : Addr} {ves vas : List Value} {es as : List Int} (hle : s.heap.IsList le ves.toArray) (hla : s.heap.IsList la vas.toArray) (ie : IntsAre ves es) (ia : IntsAre vas as) (se : es.Pairwise (· < ·)) (sa : as.Pairwise (· < ·)) (he24 : es.length ≤ 24) (ha24 : as.length ≤ 24)
    (hret : ∀ (l1 l2 tp : Addr) (vs1 vs2 : List Value) (n1 n2 : Nat) (h' : Heap) (tk' : Nat), KpX (L :: frs0.map (·.1)) s.heap h' → h'.Ns L m → (∃ frs', TI.SameUp frs0 frs' ∧ ∀ q ∈ frs', h'.get? q.1 = some q.2) →
      News gb L h' [(tp, ({ cls := .type "tuple", data := .seq #[.ref l1, .ref l2] } : Obj)), (l2, listOf vs2.toArray n2), (l1, listOf vs1.toArray n1)] → (∀ b ∈ [tp, l2, l1], ∀ q ∈ frs0, q.1 ≠ b) → (∀ b ∈ [tp, l2, l1], s.heap.get? b = none) → IntsAre vs1 (diffI es as) → IntsAre vs2 (diffI as es) → Q (.ref tp) { s with heap := h', toks := tk' }) :
    wpAny (model P0 w) (ktrTop dp un gd cn cs L a ccd cl outer) (call (.ref 123) [.ref le, .ref la]) Q E s := by
  refine enterF (binds := [("expected", .ref le), ("actual", .ref la)]) F X T Fs0 H rfl rfl hk (by k_is) (by k_is) ?room (BindsTo.of_eq rfl) (locs rfl) ?_ (by decide) rfl rfl rfl
  · ktr_room
  intro g L' h₁ tk oL hL hg F' N' Fs hlt X' T' hgb
  (try dsimp only); (try k_unmd); k_fold
  repeat' ((fail_if_success (with_reducible show wpAny _ _ (PySem.exec (PySem.Stmt.While _ _ _ _) _) _ _ _)); (first | (k_unfold; (try dsimp only)) | ((first | (with_reducible show wpAny _ _ _ _ _ _) | (with_reducible show (ite _ _ _ : Prop)) | (with_reducible show InvPostN _ _ _ _ _ _ _ _ _)); (first | walk1 | (dsimp only; walk1)); (try dsimp only)) | ((with_reducible show (PySem.W.Frag.In _ _ ∧ _)); (refine And.intro (by k_in) ?_))))
  rename Fr _ _ _ _ => F1
  rename News _ _ _ _ => N1
  (try dsimp only [List.nil_append] at N1)
  generalize hfrs : (L, oL) :: frs0 = frs at *
  obtain ⟨lu, hlu⟩ := led_head N1
  obtain ⟨lm, hlm⟩ := led_head (news_sub N1 fun p hp => .tail _ hp)
  subst hlu hlm
  have l2 : lm < lu ∧ _ := ‹lm < lu ∧ _›
  have hml := l2.1
  clear l2
  have hoff : ∀ q ∈ frs, q.1 ≠ lm ∧ q.1 ≠ lu := fun q hq => by
    have l1 : ∀ p ∈ [] ++ frs, p.1 < lm := by assumption
    have h1 := l1 q (by simpa using hq)
    exact ⟨Nat.ne_of_lt h1, Nat.ne_of_lt (Nat.lt_trans h1 hml)⟩
  refine cut_post (P := fun Q9 => ∀ (mi un : List Value × Nat) (frs' : List (Addr × Obj)) (h' : Heap) (tk' : Nat) (m' : Str → Option Value), Nam m' [("missing", .ref lm), ("unexpected", .ref lu)] → Fr g L' h' m' → News g L' h' ((lu, listOf un.1.toArray un.2) :: (lm, listOf mi.1.toArray mi.2) :: frs') → TI.SameUp frs frs' → IntsAre mi.1 (diffI es as) → IntsAre un.1 (diffI as es) → Q9 .next { s with heap := h', toks := tk' }) ?fin fun Q9 hfin => ?_
  case fin =>
    rintro ⟨mi, nm⟩ ⟨un, nu⟩ frs' h' tk' m' hN F9 N9 SU hm hu
    clear F1 N1
    obtain ⟨m0, F9⟩ := fr_pick F9 hN
    (try dsimp only at N9 hm hu ⊢)
    repeat' (first | (k_unfold; (try dsimp only)) | ((first | (with_reducible show wpAny _ _ _ _ _ _) | (with_reducible show (ite _ _ _ : Prop)) | (with_reducible show InvPostN _ _ _ _ _ _ _ _ _)); (first | walk1 | (dsimp only; walk1)); (try dsimp only)) | ((with_reducible show (PySem.W.Frag.In _ _ ∧ _)); (refine And.intro (by k_in) ?_)))
    rename Fr _ _ _ _ => FZ
    rename News _ _ _ _ => NZ
    subst hfrs
    obtain ⟨z1, z2, z3, z4, z5, z6⟩ := sld_out (news := [_, _, _]) F hL hg hgb FZ Fs SU NZ (List.forall_mem_cons.mpr ⟨⟨_, _, rfl⟩, List.forall_mem_cons.mpr ⟨⟨_, _, rfl⟩, List.forall_mem_cons.mpr ⟨⟨_, _, rfl⟩, List.forall_mem_nil _⟩⟩⟩)
    refine hret lm lu _ mi un nm nu _ _ z1 z2 z3 z4 (fun b hb q hq => ?_) (fun b hb => ?_) hm hu
    · rcases List.mem_cons.mp hb with rfl | hb
      · exact z5 _ (.head _) q hq
      · rcases List.mem_cons.mp hb with rfl | hb
        · exact z5 _ (.tail _ (.head _)) q hq
        · rw [List.mem_singleton.mp hb]; exact z5 _ (.tail _ (.tail _ (.head _))) q hq
    · rcases List.mem_cons.mp hb with rfl | hb
      · exact z6 _ (.head _)
      · rcases List.mem_cons.mp hb with rfl | hb
        · exact z6 _ (.tail _ (.head _))
        · rw [List.mem_singleton.mp hb]; exact z6 _ (.tail _ (.tail _ (.head _)))
  have hfrd : ∀ {l : Addr} {its : Array Value}, s.heap.IsList l its → g.IsList l its := by
    intro l its ⟨o, ho, hc, ho2⟩
    refine ⟨o, ?_, hc, ho2⟩
    rw [hg]
    refine hideAll_get _ ho fun hm => ?_
    obtain ⟨nq, hd⟩ := ho2
    have hx : ∃ q ∈ frs, q.1 = l := by
      rw [← hfrs]
      rcases List.mem_cons.mp hm with e | hm
      · exact ⟨_, .head _, e.symm⟩
      · obtain ⟨q, hq, e⟩ := List.mem_map.mp hm
        exact ⟨q, .tail _ hq, e⟩
    obtain ⟨q, hq, e⟩ := hx
    obtain ⟨es', ep, hdd⟩ := Fs.dict q hq
    have h1 : s.heap.get? q.1 = some q.2 := by
      rw [← hfrs] at hq
      rcases List.mem_cons.mp hq with rfl | hq
      · exact hL
      · exact (H q hq).1
    rw [e, ho] at h1
    cases h1
    rw [hd] at hdd
    cases hdd
  have hle' := hfrd hle
  have hla' := hfrd hla
  clear hlt
  refine while_cut fun bd hbd => ?_
  refine while_kn (σ := (List Value × Nat) × (List Value × Nat) × (Nat × Tok) × (Nat × Tok)) (fun c => (lu, listOf c.2.1.1.toArray c.2.1.2) :: (lm, listOf c.1.1.toArray c.1.2) :: frs) (fun c => [("i", .int c.2.2.1.1 c.2.2.1.2), ("j", .int c.2.2.2.1 c.2.2.2.2), ("missing", .ref lm), ("unexpected", .ref lu), ("expected", .ref le), ("actual", .ref la)])
    (fun c => ∃ mis uns, IntsAre c.1.1 mis ∧ IntsAre c.2.1.1 uns ∧ SJ es as c.2.2.1.1 c.2.2.2.1 mis uns) (fun c => (es.length - c.2.2.1.1) + (as.length - c.2.2.2.1)) (([], 0), ([], 0), (0, ?ti0), (0, ?tj0)) F1 N1 ?hk0 ⟨[], [], .nil, .nil, ⟨Nat.zero_le _, Nat.zero_le _, rfl, rfl, fun x hx => by simp at hx, fun x hx => by simp at hx⟩⟩ ?turn
  case hk0 => exact nam6 (by rfl) (by rfl) (by rfl) (by rfl) (by rfl) (by rfl)
  case turn =>
    rintro ⟨⟨mi, nm⟩, ⟨un, nu⟩, ⟨i, ti⟩, ⟨j, tj⟩⟩ u h2 tk2 ⟨mis, uns, hmi, hun, hS⟩ F2 N2 Q8 hnext hbrk
    (try dsimp only at hmi hun hS F2 N2 hnext)
    clear F1 N1
    repeat' (first | (k_unfold; (try dsimp only)) | ((first | (with_reducible show wpAny _ _ _ _ _ _) | (with_reducible show (ite _ _ _ : Prop)) | (with_reducible show InvPostN _ _ _ _ _ _ _ _ _)); (first | walk1 | (dsimp only; walk1)); (try dsimp only)) | ((with_reducible show (PySem.W.Frag.In _ _ ∧ _)); (refine And.intro (by k_in) ?_)))
    refine WhlIf.yes rfl ?_
    subst hbd
    repeat' ((fail_if_success (with_reducible show wpAny _ _ (PySem.exec (PySem.Stmt.Try _ _ _ _ _) _) _ _ _)); (first | (k_unfold; (try dsimp only)) | ((first | (with_reducible show wpAny _ _ _ _ _ _) | (with_reducible show (ite _ _ _ : Prop)) | (with_reducible show InvPostN _ _ _ _ _ _ _ _ _)); (first | walk1 | (dsimp only; walk1)); (try dsimp only)) | ((with_reducible show (PySem.W.Frag.In _ _ ∧ _)); (refine And.intro (by k_in) ?_))))
    refine cut_post (P := fun Q' => (∀ s₂, Q8 .next s₂ → Q' .next s₂) ∧ (∀ s₂, Q8 .brk s₂ → Q' .brk s₂)) ⟨fun s₂ h => wpAny_execs_nil h, fun s₂ h => h⟩ fun Q7 h7 => ?_
    obtain ⟨h7n, h7b⟩ := h7
    replace hnext := fun c' h' tk' m' a b c d e => h7n _ (hnext c' h' tk' m' a b c d e)
    replace hbrk := fun s₂ h => h7b s₂ (hbrk s₂ h)
    clear h7n h7b
    refine try_idx (P := fun S => ∀ (e : Addr) (mi un : List Value × Nat) (i j : Nat) (ti tj : Tok) (frs' : List (Addr × Obj)) (h' : Heap) (tk' : Nat) (m' : Str → Option Value) (mis uns : List Int), (i = es.length ∨ j = as.length) → SJ es as i j mis uns → IntsAre mi.1 mis → IntsAre un.1 uns → Nam m' [("i", .int i ti), ("j", .int j tj), ("missing", .ref lm), ("unexpected", .ref lu), ("expected", .ref le), ("actual", .ref la)] → Fr g L' h' m' → News g L' h' ((lu, listOf un.1.toArray un.2) :: (lm, listOf mi.1.toArray mi.2) :: frs') → TI.SameUp frs frs' → S e { s with heap := h', toks := tk' }) ?suite fun hsuite => ?_
    case suite =>
      rintro e ⟨mi, nm⟩ ⟨un, nu⟩ i j ti tj frs' h' tk' m' mis uns hend hS hmi hun hN F9 N9 SU
      clear F2 N2
      (try dsimp only at hmi hun N9)
      obtain ⟨m0, F9⟩ := fr_pick F9 hN
      have hend := hS.done hend
      have hof := off_up SU hoff
      have hmil := hmi.length
      have hunl := hun.length
      have hd1 : mis.length + (es.drop i).length ≤ 24 := by rw [← List.length_append, hend.1]; exact Nat.le_trans (List.length_filter_le ..) he24
      have hd2 : uns.length + (as.drop j).length ≤ 24 := by rw [← List.length_append, hend.2]; exact Nat.le_trans (List.length_filter_le ..) ha24
      have hi1 := hS.hi
      have hj1 := hS.hj
      repeat' ((fail_if_success (with_reducible show wpAny _ _ (PyProof.Rows.subscriptTail _ _ _ _) _ _ _)); (first | (k_unfold; (try dsimp only)) | ((first | (with_reducible show wpAny _ _ _ _ _ _) | (with_reducible show (ite _ _ _ : Prop)) | (with_reducible show InvPostN _ _ _ _ _ _ _ _ _)); (first | walk1 | (dsimp only; walk1)); (try dsimp only)) | ((with_reducible show (PySem.W.Frag.In _ _ ∧ _)); (refine And.intro (by k_in) ?_))))
      refine' kmk_slice_ints (s := { s with heap := h', toks := _ }) ?sF ?sN ?sl ?sp ?sq ?si ?sm ?sc ?sk ?ss ?st ?sz
      case sF => exact F9
      case sN => exact N9
      case sl => exact hle'.at fun o e => F9.keep _ o e
      case sp => exact IsPart.int _ _
      case sq => exact IsPart.none
      case si => exact ie
      case sm => exact slice_ints_from ie (by omega) (by omega)
      case sc => rfl
      case ss => with_unfolding_all rfl
      case st => intro _; with_unfolding_all rfl
      case sz => rw [List.size_toArray, ie.length, PySem.sizeLine_eq]; omega
      intro D ws h4 F4 N4 hlt4 hI4 _ _
      rw [Int.toNat_natCast] at hI4
      clear F9 N9
      (try dsimp only)
      repeat' ((fail_if_success (with_reducible show wpAny _ _ (PySem.call (PySem.Value.builtin "list.extend") _ _) _ _ _)); (first | (k_unfold; (try dsimp only)) | ((first | (with_reducible show wpAny _ _ _ _ _ _) | (with_reducible show (ite _ _ _ : Prop)) | (with_reducible show InvPostN _ _ _ _ _ _ _ _ _)); (first | walk1 | (dsimp only; walk1)); (try dsimp only)) | ((with_reducible show (PySem.W.Frag.In _ _ ∧ _)); (refine And.intro (by k_in) ?_))))
      refine extend_M (n := nm) (rest := (lu, listOf un.toArray nu) :: frs') F4 (news_sub N4 ?_) ?_ (N4 _ (.head _)).1 (by rw [hmil, List.size_toArray, hI4.length]; omega) fun h5 n5 F5 N5 => ?_
      · exact List.forall_mem_cons.mpr ⟨.tail _ (.tail _ (.head _)), List.forall_mem_cons.mpr ⟨.tail _ (.head _), fun p hp => .tail _ (.tail _ (.tail _ hp))⟩⟩
      · exact List.forall_mem_cons.mpr ⟨Nat.ne_of_gt hml, fun p hp => (hof p hp).1⟩
      clear F4 N4
      (try dsimp only)
      repeat' ((fail_if_success (with_reducible show wpAny _ _ (PyProof.Rows.subscriptTail _ _ _ _) _ _ _)); (first | (k_unfold; (try dsimp only)) | ((first | (with_reducible show wpAny _ _ _ _ _ _) | (with_reducible show (ite _ _ _ : Prop)) | (with_reducible show InvPostN _ _ _ _ _ _ _ _ _)); (first | walk1 | (dsimp only; walk1)); (try dsimp only)) | ((with_reducible show (PySem.W.Frag.In _ _ ∧ _)); (refine And.intro (by k_in) ?_))))
      refine' kmk_slice_ints (s := { s with heap := h5, toks := _ }) ?tF ?tN ?tl ?tp ?tq ?ti ?tm ?tc ?tk ?ts ?tt ?tz
      case tF => exact F5
      case tN => exact N5
      case tl => exact hla'.at fun o e => F5.keep _ o e
      case tp => exact IsPart.int _ _
      case tq => exact IsPart.none
      case ti => exact ia
      case tm => exact slice_ints_from ia (by omega) (by omega)
      case tc => rfl
      case ts => with_unfolding_all rfl
      case tt => intro _; with_unfolding_all rfl
      case tz => rw [List.size_toArray, ia.length, PySem.sizeLine_eq]; omega
      intro D2 ws2 h6 F6 N6 hlt6 hI6 _ _
      rw [Int.toNat_natCast] at hI6
      clear F5 N5
      (try dsimp only)
      repeat' ((fail_if_success (with_reducible show wpAny _ _ (PySem.call (PySem.Value.builtin "list.extend") _ _) _ _ _)); (first | (k_unfold; (try dsimp only)) | ((first | (with_reducible show wpAny _ _ _ _ _ _) | (with_reducible show (ite _ _ _ : Prop)) | (with_reducible show InvPostN _ _ _ _ _ _ _ _ _)); (first | walk1 | (dsimp only; walk1)); (try dsimp only)) | ((with_reducible show (PySem.W.Frag.In _ _ ∧ _)); (refine And.intro (by k_in) ?_))))
      refine extend_M (n := nu) (rest := (lm, listOf (mi ++ ws.toArray.toList).toArray n5) :: frs') F6 (news_sub N6 ?_) ?_ (N6 _ (.head _)).1 (by rw [hunl, List.size_toArray, hI6.length]; omega) fun h7 n7 F7 N7 => ?_
      · exact List.forall_mem_cons.mpr ⟨.tail _ (.tail _ (.head _)), List.forall_mem_cons.mpr ⟨.tail _ (.head _), fun p hp => .tail _ (.tail _ (.tail _ hp))⟩⟩
      · exact List.forall_mem_cons.mpr ⟨Nat.ne_of_lt hml, fun p hp => (hof p hp).2⟩
      clear F6 N6
      (try dsimp only)
      repeat' (first | (k_unfold; (try dsimp only)) | ((first | (with_reducible show wpAny _ _ _ _ _ _) | (with_reducible show (ite _ _ _ : Prop)) | (with_reducible show InvPostN _ _ _ _ _ _ _ _ _)); (first | walk1 | (dsimp only; walk1)); (try dsimp only)) | ((with_reducible show (PySem.W.Frag.In _ _ ∧ _)); (refine And.intro (by k_in) ?_)))
      refine hbrk _ (hfin (mi ++ ws, n5) (un ++ ws2, n7) frs' h7 _ _ (nam2 rfl rfl) F7 N7 SU ?_ ?_)
      · rw [← hend.1]; exact hmi.append hI4
      · rw [← hend.2]; exact hun.append hI6
    refine cut_E (P := fun S => ∀ (e : Addr) (mi un : List Value) (nm nu i j : Nat) (ti tj : Tok) (frs' : List (Addr × Obj)) (h' : Heap) (tk' : Nat) (m' : Str → Option Value) (mis uns : List Int), (i = es.length ∨ j = as.length) → SJ es as i j mis uns → IntsAre mi mis → IntsAre un uns → Nam m' [("i", .int i ti), ("j", .int j tj), ("missing", .ref lm), ("unexpected", .ref lu), ("expected", .ref le), ("actual", .ref la)] →
      ((∃ T oe oT ctx rest, Held g L' h' m' e T oe oT (rawInt L') ctx rest ∧ (∀ q ∈ (lu, listOf un.toArray nu) :: (lm, listOf mi.toArray nm) :: frs', q ∈ rest) ∧ TI.SameUp frs frs') ∨ (∃ h0, Fr g L' h0 m' ∧ News g L' h0 ((lu, listOf un.toArray nu) :: (lm, listOf mi.toArray nm) :: frs) ∧ NewX h0 h' e "IndexError" .none)) → S (.ref e) { s with heap := h', toks := tk' }) ?ctch fun E7 hcatch => ?_
    case ctch =>
      intro e mi un nm nu i j ti tj frs' h' tk' m' mis uns hend hS hmi hun hN hX
      clear F2 N2
      rcases hX with ⟨T, oe, oT, ctx, rest, H, hsub, SU⟩ | ⟨h0, F9, N9, hx⟩
      · exact pe_held (fun A' Q' E' s' kp h => nm_blt kp X' T' (by k_is) (by kernel_rfl) (by decide) h) H fun h9 F9 N9 => hsuite e (mi, nm) (un, nu) i j ti tj frs' h9 tk' m' mis uns hend hS hmi hun hN F9 (news_sub N9 hsub) SU
      · refine pe_raw (l := envX cn cs L a ccd cl :: outer) (frs := frs) (new := [(lu, listOf un.toArray nu), (lm, listOf mi.toArray nm)]) (Around.frames_deeper rfl) Fs F9 N9 (hap_of N9 ?_) hx (fun A' Q' E' s' kp h => nm_blt kp X' T' (by k_is) (by kernel_rfl) (by decide) h) (fun h9 frs9 SU Fs9 F9 N9 => hsuite e (mi, nm) (un, nu) i j ti tj frs9 h9 tk' m' mis uns hend hS hmi hun hN F9 N9 SU) rfl
        exact List.forall_mem_cons.mpr ⟨fun q hq => (hoff q hq).2, List.forall_mem_cons.mpr ⟨fun q hq => (hoff q hq).1, List.forall_mem_nil _⟩⟩
    clear hsuite
    have hi1 := hS.hi
    have hj1 := hS.hj
    by_cases hi : i < es.length
    case neg =>
      refine exec_then (P := fun _ => True) trivial fun X _ => ?_
      repeat' ((fail_if_success (with_reducible show wpAny _ _ (PyProof.Rows.subscriptTail _ _ _ _) _ _ _)); (first | (k_unfold; (try dsimp only)) | ((first | (with_reducible show wpAny _ _ _ _ _ _) | (with_reducible show (ite _ _ _ : Prop)) | (with_reducible show InvPostN _ _ _ _ _ _ _ _ _)); (first | walk1 | (dsimp only; walk1)); (try dsimp only)) | ((with_reducible show (PySem.W.Frag.In _ _ ∧ _)); (refine And.intro (by k_in) ?_))))
      rename Fr _ _ _ _ => F3
      rename News _ _ _ _ => N3
      refine tail_out .none (.inl ⟨rfl, rfl⟩) (hle'.at fun o e => F3.keep _ o e) (by rw [List.size_toArray, ie.length]; omega) (by omega) fun h9 tk9 e9 hx9 => ?_
      exact hcatch e9 mi un nm nu i j ti tj frs h9 _ _ mis uns (.inl (by omega)) hS hmi hun (nam6 rfl rfl rfl rfl rfl rfl) (.inr ⟨_, F3, N3, hx9⟩)
    obtain ⟨e, he⟩ : ∃ e, es[i]? = some e := ⟨_, List.getElem?_eq_getElem hi⟩
    obtain ⟨te, hxe⟩ := ie.get i e he
    refine exec_then (P := fun X => ∀ h' tk' m', Fr g L' h' m' → News g L' h' ((lu, listOf un.toArray nu) :: (lm, listOf mi.toArray nm) :: frs) → Nam m' [("e", .int e te), ("i", .int i ti), ("j", .int j tj), ("missing", .ref lm), ("unexpected", .ref lu), ("expected", .ref le), ("actual", .ref la)] → X { s with heap := h', toks := tk' }) ?s2 fun X hX => ?m2
    case m2 =>
      repeat' ((fail_if_success (with_reducible show wpAny _ _ (PyProof.Rows.subscriptTail _ _ _ _) _ _ _)); (first | (k_unfold; (try dsimp only)) | ((first | (with_reducible show wpAny _ _ _ _ _ _) | (with_reducible show (ite _ _ _ : Prop)) | (with_reducible show InvPostN _ _ _ _ _ _ _ _ _)); (first | walk1 | (dsimp only; walk1)); (try dsimp only)) | ((with_reducible show (PySem.W.Frag.In _ _ ∧ _)); (refine And.intro (by k_in) ?_))))
      rename Fr _ _ _ _ => F3
      refine itemL (hle'.at fun o e => F3.keep _ o e) (by omega) (by omega) hxe ?_
      (try dsimp only)
      repeat' (first | (k_unfold; (try dsimp only)) | ((first | (with_reducible show wpAny _ _ _ _ _ _) | (with_reducible show (ite _ _ _ : Prop)) | (with_reducible show InvPostN _ _ _ _ _ _ _ _ _)); (first | walk1 | (dsimp only; walk1)); (try dsimp only)) | ((with_reducible show (PySem.W.Frag.In _ _ ∧ _)); (refine And.intro (by k_in) ?_)))
      rename Fr _ _ _ _ => F4
      rename News _ _ _ _ => N4
      exact hX _ _ _ F4 N4 (nam7 rfl rfl rfl rfl rfl rfl rfl)
    case s2 =>
      intro h3 tk3 m3 F3 N3 hN3
      clear F2 N2
      obtain ⟨m3', F3⟩ := fr_pick F3 hN3
      clear hN3
      by_cases hj : j < as.length
      case neg =>
        refine exec_then (P := fun _ => True) trivial fun X _ => ?_
        repeat' ((fail_if_success (with_reducible show wpAny _ _ (PyProof.Rows.subscriptTail _ _ _ _) _ _ _)); (first | (k_unfold; (try dsimp only)) | ((first | (with_reducible show wpAny _ _ _ _ _ _) | (with_reducible show (ite _ _ _ : Prop)) | (with_reducible show InvPostN _ _ _ _ _ _ _ _ _)); (first | walk1 | (dsimp only; walk1)); (try dsimp only)) | ((with_reducible show (PySem.W.Frag.In _ _ ∧ _)); (refine And.intro (by k_in) ?_))))
        rename Fr _ _ _ _ => F4
        rename News _ _ _ _ => N4
        refine tail_out .none (.inl ⟨rfl, rfl⟩) (hla'.at fun o e => F4.keep _ o e) (by rw [List.size_toArray, ia.length]; omega) (by omega) fun h9 tk9 e9 hx9 => ?_
        exact hcatch e9 mi un nm nu i j ti tj frs h9 _ _ mis uns (.inr (by omega)) hS hmi hun (nam6 rfl rfl rfl rfl rfl rfl) (.inr ⟨_, F4, N4, hx9⟩)
      obtain ⟨a', ha⟩ : ∃ a, as[j]? = some a := ⟨_, List.getElem?_eq_getElem hj⟩
      obtain ⟨ta, hxa⟩ := ia.get j a' ha
      refine exec_then (P := fun X => ∀ h' tk' m', Fr g L' h' m' → News g L' h' ((lu, listOf un.toArray nu) :: (lm, listOf mi.toArray nm) :: frs) → Nam m' [("e", .int e te), ("a", .int a' ta), ("i", .int i ti), ("j", .int j tj), ("missing", .ref lm), ("unexpected", .ref lu), ("expected", .ref le), ("actual", .ref la)] → X { s with heap := h', toks := tk' }) ?s3 fun X hX => ?m3
      case m3 =>
        repeat' ((fail_if_success (with_reducible show wpAny _ _ (PyProof.Rows.subscriptTail _ _ _ _) _ _ _)); (first | (k_unfold; (try dsimp only)) | ((first | (with_reducible show wpAny _ _ _ _ _ _) | (with_reducible show (ite _ _ _ : Prop)) | (with_reducible show InvPostN _ _ _ _ _ _ _ _ _)); (first | walk1 | (dsimp only; walk1)); (try dsimp only)) | ((with_reducible show (PySem.W.Frag.In _ _ ∧ _)); (refine And.intro (by k_in) ?_))))
        rename Fr _ _ _ _ => F4
        refine itemL (hla'.at fun o e => F4.keep _ o e) (by omega) (by omega) hxa ?_
        (try dsimp only)
        repeat' (first | (k_unfold; (try dsimp only)) | ((first | (with_reducible show wpAny _ _ _ _ _ _) | (with_reducible show (ite _ _ _ : Prop)) | (with_reducible show InvPostN _ _ _ _ _ _ _ _ _)); (first | walk1 | (dsimp only; walk1)); (try dsimp only)) | ((with_reducible show (PySem.W.Frag.In _ _ ∧ _)); (refine And.intro (by k_in) ?_)))
        rename Fr _ _ _ _ => F5
        rename News _ _ _ _ => N5
        exact hX _ _ _ F5 N5 (nam8 rfl rfl rfl rfl rfl rfl rfl rfl)
      case s3 =>
        intro h4 tk4 m4 F4 N4 hN4
        clear F3 N3
        obtain ⟨m4', F4⟩ := fr_pick F4 hN4
        clear hN4
        refine exec_last fun Q6 hn6 _ => ?_
        replace hnext := fun c' h' tk' m' a b c d e => hn6 _ (hnext c' h' tk' m' a b c d e)
        clear hn6
        have hm24 : mis.length ≤ 24 := by rw [hS.hm]; exact Nat.le_trans (List.length_filter_le ..) (by rw [List.length_take]; omega)
        have hu24 : uns.length ≤ 24 := by rw [hS.hu]; exact Nat.le_trans (List.length_filter_le ..) (by rw [List.length_take]; omega)
        have hmil := hmi.length
        have hunl := hun.length
        by_cases hlt : e < a'
        · refine if_true (P := fun X => ∀ tk', X { s with heap := h4, toks := tk' }) ?b1 fun X hX => ?m4
          case m4 =>
            repeat' (first | (k_unfold; (try dsimp only)) | ((first | (with_reducible show wpAny _ _ _ _ _ _) | (with_reducible show (ite _ _ _ : Prop)) | (with_reducible show InvPostN _ _ _ _ _ _ _ _ _)); (first | walk1 | (dsimp only; walk1)); (try dsimp only)) | ((with_reducible show (PySem.W.Frag.In _ _ ∧ _)); (refine And.intro (by k_in) ?_)))
            exact ⟨by simpa using hlt, hX _⟩
          case b1 =>
            intro tk5
            have hS' := hS.lt sa he ha hlt
            repeat' ((fail_if_success (with_reducible show wpAny _ _ (PySem.call (PySem.Value.builtin "list.append") _ _) _ _ _)); (first | (k_unfold; (try dsimp only)) | ((first | (with_reducible show wpAny _ _ _ _ _ _) | (with_reducible show (ite _ _ _ : Prop)) | (with_reducible show InvPostN _ _ _ _ _ _ _ _ _)); (first | walk1 | (dsimp only; walk1)); (try dsimp only)) | ((with_reducible show (PySem.W.Frag.In _ _ ∧ _)); (refine And.intro (by k_in) ?_))))
            refine append_M (n := nm) (rest := (lu, listOf un.toArray nu) :: frs) F4 (news_sub N4 (List.forall_mem_cons.mpr ⟨.tail _ (.head _), List.forall_mem_cons.mpr ⟨.head _, fun p hp => .tail _ (.tail _ hp)⟩⟩)) ?_ (by omega) fun h6 F6 N6 => ?_
            · exact List.forall_mem_cons.mpr ⟨Nat.ne_of_gt hml, fun p hp => (hoff p hp).1⟩
            clear F4 N4
            (try dsimp only)
            repeat' ((fail_if_success (with_reducible show wpAny _ _ (PySem.exec (PySem.Stmt.While _ _ _ _) _) _ _ _)); (first | (k_unfold; (try dsimp only)) | ((first | (with_reducible show wpAny _ _ _ _ _ _) | (with_reducible show (ite _ _ _ : Prop)) | (with_reducible show InvPostN _ _ _ _ _ _ _ _ _)); (first | walk1 | (dsimp only; walk1)); (try dsimp only)) | ((with_reducible show (PySem.W.Frag.In _ _ ∧ _)); (refine And.intro (by k_in) ?_))))
            rename Fr _ _ _ _ => F7
            rename News _ _ _ _ => N7
            refine while_out ?_
            repeat' ((fail_if_success (with_reducible show wpAny _ _ (PyProof.Rows.subscriptTail _ _ _ _) _ _ _)); (first | (k_unfold; (try dsimp only)) | ((first | (with_reducible show wpAny _ _ _ _ _ _) | (with_reducible show (ite _ _ _ : Prop)) | (with_reducible show InvPostN _ _ _ _ _ _ _ _ _)); (first | walk1 | (dsimp only; walk1)); (try dsimp only)) | ((with_reducible show (PySem.W.Frag.In _ _ ∧ _)); (refine And.intro (by k_in) ?_))))
            by_cases hi2 : i + 1 < es.length
            · obtain ⟨x, hx⟩ : ∃ e, es[i + 1]? = some e := ⟨_, List.getElem?_eq_getElem hi2⟩
              obtain ⟨tx, hxx⟩ := ie.get (i + 1) x hx
              refine itemL (hle'.at fun o e => F7.keep _ o e) (by omega) (by omega) (by rw [show ((i : Int) + 1).toNat = i + 1 from by omega]; exact hxx) ?_
              (try dsimp only)
              repeat' (first | (k_unfold; (try dsimp only)) | ((first | (with_reducible show wpAny _ _ _ _ _ _) | (with_reducible show (ite _ _ _ : Prop)) | (with_reducible show InvPostN _ _ _ _ _ _ _ _ _)); (first | walk1 | (dsimp only; walk1)); (try dsimp only)) | ((with_reducible show (PySem.W.Frag.In _ _ ∧ _)); (refine And.intro (by k_in) ?_)))
              refine ⟨by simpa using next_ne se he hx, ?_⟩
              (try dsimp only)
              repeat' (first | (k_unfold; (try dsimp only)) | ((first | (with_reducible show wpAny _ _ _ _ _ _) | (with_reducible show (ite _ _ _ : Prop)) | (with_reducible show InvPostN _ _ _ _ _ _ _ _ _)); (first | walk1 | (dsimp only; walk1)); (try dsimp only)) | ((with_reducible show (PySem.W.Frag.In _ _ ∧ _)); (refine And.intro (by k_in) ?_)))
              exact hnext ((mi ++ [_], nm + 1), (un, nu), (i + 1, _), (j, tj)) _ _ _ F7 (news_sub N7 (List.forall_mem_cons.mpr ⟨.tail _ (.head _), List.forall_mem_cons.mpr ⟨.head _, fun p hp => .tail _ (.tail _ hp)⟩⟩)) (nam6 rfl rfl rfl rfl rfl rfl) ⟨_, _, hmi.append (.cons _ _ .nil), hun, hS'⟩ (by dsimp only; omega)
            · refine tail_out .none (.inl ⟨rfl, rfl⟩) (hle'.at fun o e => F7.keep _ o e) (by rw [List.size_toArray, ie.length]; omega) (by omega) fun h9 tk9 e9 hx9 => ?_
              refine noted_raw (l := envX cn cs L a ccd cl :: outer) (frs := frs) (new := [_, _]) (Around.frames_deeper rfl) rfl Fs F7 N7 (hap_of (new := [_, _]) N7 (List.forall_mem_cons.mpr ⟨fun q hq => (hoff q hq).1, List.forall_mem_cons.mpr ⟨fun q hq => (hoff q hq).2, List.forall_mem_nil _⟩⟩)) hx9 fun h10 frs10 T10 oe10 oT10 SU10 Fs10 H10 => ?_
              refine came_back rfl H10 fun h11 oT11 H11 => ?_
              exact hcatch e9 (mi ++ [_]) un (nm + 1) nu (i + 1) j _ tj frs10 h11 _ _ _ _ (.inl (by have := hS'.hi; omega)) hS' (hmi.append (.cons _ _ .nil)) hun (nam6 rfl rfl rfl rfl rfl rfl) (.inl ⟨T10, oe10, oT11, .none, _, H11, List.forall_mem_cons.mpr ⟨.tail _ (.head _), List.forall_mem_cons.mpr ⟨.head _, fun p hp => .tail _ (.tail _ hp)⟩⟩, SU10⟩)
        refine if_false (P := fun X => ∀ tk', X { s with heap := h4, toks := tk' }) ?b2 fun X hX => ?m5
        case m5 =>
          repeat' (first | (k_unfold; (try dsimp only)) | ((first | (with_reducible show wpAny _ _ _ _ _ _) | (with_reducible show (ite _ _ _ : Prop)) | (with_reducible show InvPostN _ _ _ _ _ _ _ _ _)); (first | walk1 | (dsimp only; walk1)); (try dsimp only)) | ((with_reducible show (PySem.W.Frag.In _ _ ∧ _)); (refine And.intro (by k_in) ?_)))
          exact ⟨by simpa using hlt, hX _⟩
        case b2 =>
        intro tk5
        refine exec_last fun Q5 hn5 _ => ?_
        replace hnext := fun c' h' tk' m' a b c d e => hn5 _ (hnext c' h' tk' m' a b c d e)
        clear hn5
        by_cases hgt : a' < e
        · refine if_true (P := fun X => ∀ tk', X { s with heap := h4, toks := tk' }) ?b3 fun X hX => ?m6
          case m6 =>
            repeat' (first | (k_unfold; (try dsimp only)) | ((first | (with_reducible show wpAny _ _ _ _ _ _) | (with_reducible show (ite _ _ _ : Prop)) | (with_reducible show InvPostN _ _ _ _ _ _ _ _ _)); (first | walk1 | (dsimp only; walk1)); (try dsimp only)) | ((with_reducible show (PySem.W.Frag.In _ _ ∧ _)); (refine And.intro (by k_in) ?_)))
            exact ⟨by simpa using hgt, hX _⟩
          case b3 =>
            intro tk6
            have hS' := (hS.symm.lt se ha he hgt).symm
            repeat' ((fail_if_success (with_reducible show wpAny _ _ (PySem.call (PySem.Value.builtin "list.append") _ _) _ _ _)); (first | (k_unfold; (try dsimp only)) | ((first | (with_reducible show wpAny _ _ _ _ _ _) | (with_reducible show (ite _ _ _ : Prop)) | (with_reducible show InvPostN _ _ _ _ _ _ _ _ _)); (first | walk1 | (dsimp only; walk1)); (try dsimp only)) | ((with_reducible show (PySem.W.Frag.In _ _ ∧ _)); (refine And.intro (by k_in) ?_))))
            refine append_M (n := nu) (rest := (lm, listOf mi.toArray nm) :: frs) F4 N4 ?_ (by omega) fun h6 F6 N6 => ?_
            · exact List.forall_mem_cons.mpr ⟨Nat.ne_of_lt hml, fun p hp => (hoff p hp).2⟩
            clear F4 N4
            (try dsimp only)
            repeat' ((fail_if_success (with_reducible show wpAny _ _ (PySem.exec (PySem.Stmt.While _ _ _ _) _) _ _ _)); (first | (k_unfold; (try dsimp only)) | ((first | (with_reducible show wpAny _ _ _ _ _ _) | (with_reducible show (ite _ _ _ : Prop)) | (with_reducible show InvPostN _ _ _ _ _ _ _ _ _)); (first | walk1 | (dsimp only; walk1)); (try dsimp only)) | ((with_reducible show (PySem.W.Frag.In _ _ ∧ _)); (refine And.intro (by k_in) ?_))))
            rename Fr _ _ _ _ => F7
            rename News _ _ _ _ => N7
            refine while_out ?_
            repeat' ((fail_if_success (with_reducible show wpAny _ _ (PyProof.Rows.subscriptTail _ _ _ _) _ _ _)); (first | (k_unfold; (try dsimp only)) | ((first | (with_reducible show wpAny _ _ _ _ _ _) | (with_reducible show (ite _ _ _ : Prop)) | (with_reducible show InvPostN _ _ _ _ _ _ _ _ _)); (first | walk1 | (dsimp only; walk1)); (try dsimp only)) | ((with_reducible show (PySem.W.Frag.In _ _ ∧ _)); (refine And.intro (by k_in) ?_))))
            by_cases hj2 : j + 1 < as.length
            · obtain ⟨x, hx⟩ : ∃ e, as[j + 1]? = some e := ⟨_, List.getElem?_eq_getElem hj2⟩
              obtain ⟨tx, hxx⟩ := ia.get (j + 1) x hx
              refine itemL (hla'.at fun o e => F7.keep _ o e) (by omega) (by omega) (by rw [show ((j : Int) + 1).toNat = j + 1 from by omega]; exact hxx) ?_
              (try dsimp only)
              repeat' (first | (k_unfold; (try dsimp only)) | ((first | (with_reducible show wpAny _ _ _ _ _ _) | (with_reducible show (ite _ _ _ : Prop)) | (with_reducible show InvPostN _ _ _ _ _ _ _ _ _)); (first | walk1 | (dsimp only; walk1)); (try dsimp only)) | ((with_reducible show (PySem.W.Frag.In _ _ ∧ _)); (refine And.intro (by k_in) ?_)))
              refine ⟨by simpa using next_ne sa ha hx, ?_⟩
              (try dsimp only)
              repeat' (first | (k_unfold; (try dsimp only)) | ((first | (with_reducible show wpAny _ _ _ _ _ _) | (with_reducible show (ite _ _ _ : Prop)) | (with_reducible show InvPostN _ _ _ _ _ _ _ _ _)); (first | walk1 | (dsimp only; walk1)); (try dsimp only)) | ((with_reducible show (PySem.W.Frag.In _ _ ∧ _)); (refine And.intro (by k_in) ?_)))
              exact hnext ((mi, nm), (un ++ [_], nu + 1), (i, ti), (j + 1, _)) _ _ _ F7 N7 (nam6 rfl rfl rfl rfl rfl rfl) ⟨_, _, hmi, hun.append (.cons _ _ .nil), hS'⟩ (by dsimp only; omega)
            · refine tail_out .none (.inl ⟨rfl, rfl⟩) (hla'.at fun o e => F7.keep _ o e) (by rw [List.size_toArray, ia.length]; omega) (by omega) fun h9 tk9 e9 hx9 => ?_
              refine noted_raw (l := envX cn cs L a ccd cl :: outer) (frs := frs) (new := [_, _]) (Around.frames_deeper rfl) rfl Fs F7 N7 (hap_of (new := [_, _]) N7 (List.forall_mem_cons.mpr ⟨fun q hq => (hoff q hq).2, List.forall_mem_cons.mpr ⟨fun q hq => (hoff q hq).1, List.forall_mem_nil _⟩⟩)) hx9 fun h10 frs10 T10 oe10 oT10 SU10 Fs10 H10 => ?_
              refine came_back rfl H10 fun h11 oT11 H11 => ?_
              exact hcatch e9 mi (un ++ [_]) nm (nu + 1) i (j + 1) ti _ frs10 h11 _ _ _ _ (.inr (by have := hS'.hj; omega)) hS' hmi (hun.append (.cons _ _ .nil)) (nam6 rfl rfl rfl rfl rfl rfl) (.inl ⟨T10, oe10, oT11, .none, _, H11, fun p hp => hp, SU10⟩)
        refine if_false (P := fun X => ∀ tk', X { s with heap := h4, toks := tk' }) ?b4 fun X hX => ?m7
        case m7 =>
          repeat' (first | (k_unfold; (try dsimp only)) | ((first | (with_reducible show wpAny _ _ _ _ _ _) | (with_reducible show (ite _ _ _ : Prop)) | (with_reducible show InvPostN _ _ _ _ _ _ _ _ _)); (first | walk1 | (dsimp only; walk1)); (try dsimp only)) | ((with_reducible show (PySem.W.Frag.In _ _ ∧ _)); (refine And.intro (by k_in) ?_)))
          exact ⟨by simpa using hgt, hX _⟩
        case b4 =>
        intro tk6
        have hea : e = a' := by omega
        subst hea
        have hS' := hS.eq se sa he ha
        clear hlt hgt
        repeat' ((fail_if_success (with_reducible show wpAny _ _ (PySem.exec (PySem.Stmt.Try _ _ _ _ _) _) _ _ _)); (first | (k_unfold; (try dsimp only)) | ((first | (with_reducible show wpAny _ _ _ _ _ _) | (with_reducible show (ite _ _ _ : Prop)) | (with_reducible show InvPostN _ _ _ _ _ _ _ _ _)); (first | walk1 | (dsimp only; walk1)); (try dsimp only)) | ((with_reducible show (PySem.W.Frag.In _ _ ∧ _)); (refine And.intro (by k_in) ?_))))
        rename Fr _ _ _ _ => F7
        rename News _ _ _ _ => N7
        refine cut_post (P := fun Q' => ∀ s', Q5 .next s' → Q' .next s') (fun s' h => wpAny_execs_nil h) fun Q4 hn4 => ?_
        replace hnext := fun c' h' tk' m' a b c d e => hn4 _ (hnext c' h' tk' m' a b c d e)
        clear hn4
        refine wpAny_Try_finally ?_
        repeat' ((fail_if_success (with_reducible show wpAny _ _ (PySem.exec (PySem.Stmt.While _ _ _ _) _) _ _ _)); (first | (k_unfold; (try dsimp only)) | ((first | (with_reducible show wpAny _ _ _ _ _ _) | (with_reducible show (ite _ _ _ : Prop)) | (with_reducible show InvPostN _ _ _ _ _ _ _ _ _)); (first | walk1 | (dsimp only; walk1)); (try dsimp only)) | ((with_reducible show (PySem.W.Frag.In _ _ ∧ _)); (refine And.intro (by k_in) ?_))))
        refine while_out ?_
        repeat' ((fail_if_success (with_reducible show wpAny _ _ (PyProof.Rows.subscriptTail _ _ _ _) _ _ _)); (first | (k_unfold; (try dsimp only)) | ((first | (with_reducible show wpAny _ _ _ _ _ _) | (with_reducible show (ite _ _ _ : Prop)) | (with_reducible show InvPostN _ _ _ _ _ _ _ _ _)); (first | walk1 | (dsimp only; walk1)); (try dsimp only)) | ((with_reducible show (PySem.W.Frag.In _ _ ∧ _)); (refine And.intro (by k_in) ?_))))
        by_cases hi2 : i + 1 < es.length
        · obtain ⟨x, hx⟩ : ∃ e, es[i + 1]? = some e := ⟨_, List.getElem?_eq_getElem hi2⟩
          obtain ⟨tx, hxx⟩ := ie.get (i + 1) x hx
          refine itemL (hle'.at fun o e => F7.keep _ o e) (by omega) (by omega) (by rw [show ((i : Int) + 1).toNat = i + 1 from by omega]; exact hxx) ?_
          (try dsimp only)
          repeat' (first | (k_unfold; (try dsimp only)) | ((first | (with_reducible show wpAny _ _ _ _ _ _) | (with_reducible show (ite _ _ _ : Prop)) | (with_reducible show InvPostN _ _ _ _ _ _ _ _ _)); (first | walk1 | (dsimp only; walk1)); (try dsimp only)) | ((with_reducible show (PySem.W.Frag.In _ _ ∧ _)); (refine And.intro (by k_in) ?_)))
          refine ⟨by simpa using next_ne se he hx, ?_⟩
          (try dsimp only)
          repeat' ((fail_if_success (with_reducible show wpAny _ _ (PySem.exec (PySem.Stmt.While _ _ _ _) _) _ _ _)); (first | (k_unfold; (try dsimp only)) | ((first | (with_reducible show wpAny _ _ _ _ _ _) | (with_reducible show (ite _ _ _ : Prop)) | (with_reducible show InvPostN _ _ _ _ _ _ _ _ _)); (first | walk1 | (dsimp only; walk1)); (try dsimp only)) | ((with_reducible show (PySem.W.Frag.In _ _ ∧ _)); (refine And.intro (by k_in) ?_))))
          rename Fr _ _ _ _ => F8
          rename News _ _ _ _ => N8
          refine while_out ?_
          repeat' ((fail_if_success (with_reducible show wpAny _ _ (PyProof.Rows.subscriptTail _ _ _ _) _ _ _)); (first | (k_unfold; (try dsimp only)) | ((first | (with_reducible show wpAny _ _ _ _ _ _) | (with_reducible show (ite _ _ _ : Prop)) | (with_reducible show InvPostN _ _ _ _ _ _ _ _ _)); (first | walk1 | (dsimp only; walk1)); (try dsimp only)) | ((with_reducible show (PySem.W.Frag.In _ _ ∧ _)); (refine And.intro (by k_in) ?_))))
          by_cases hj2 : j + 1 < as.length
          · obtain ⟨y, hy⟩ : ∃ e, as[j + 1]? = some e := ⟨_, List.getElem?_eq_getElem hj2⟩
            obtain ⟨ty, hyy⟩ := ia.get (j + 1) y hy
            refine itemL (hla'.at fun o e => F8.keep _ o e) (by omega) (by omega) (by rw [show ((j : Int) + 1).toNat = j + 1 from by omega]; exact hyy) ?_
            (try dsimp only)
            repeat' (first | (k_unfold; (try dsimp only)) | ((first | (with_reducible show wpAny _ _ _ _ _ _) | (with_reducible show (ite _ _ _ : Prop)) | (with_reducible show InvPostN _ _ _ _ _ _ _ _ _)); (first | walk1 | (dsimp only; walk1)); (try dsimp only)) | ((with_reducible show (PySem.W.Frag.In _ _ ∧ _)); (refine And.intro (by k_in) ?_)))
            refine ⟨by simpa using next_ne sa ha hy, ?_⟩
            (try dsimp only)
            repeat' (first | (k_unfold; (try dsimp only)) | ((first | (with_reducible show wpAny _ _ _ _ _ _) | (with_reducible show (ite _ _ _ : Prop)) | (with_reducible show InvPostN _ _ _ _ _ _ _ _ _)); (first | walk1 | (dsimp only; walk1)); (try dsimp only)) | ((with_reducible show (PySem.W.Frag.In _ _ ∧ _)); (refine And.intro (by k_in) ?_)))
            exact hnext ((mi, nm), (un, nu), (i + 1, _), (j + 1, _)) _ _ _ F8 N8 (nam6 rfl rfl rfl rfl rfl rfl) ⟨_, _, hmi, hun, hS'⟩ (by dsimp only; omega)
          · refine tail_out .none (.inl ⟨rfl, rfl⟩) (hla'.at fun o e => F8.keep _ o e) (by rw [List.size_toArray, ia.length]; omega) (by omega) fun h9 tk9 e9 hx9 => ?_
            refine noted_raw (l := envX cn cs L a ccd cl :: outer) (frs := frs) (new := [_, _]) (Around.frames_deeper rfl) rfl Fs F8 N8 (hap_of (new := [_, _]) N8 (List.forall_mem_cons.mpr ⟨fun q hq => (hoff q hq).2, List.forall_mem_cons.mpr ⟨fun q hq => (hoff q hq).1, List.forall_mem_nil _⟩⟩)) hx9 fun h10 frs10 T10 oe10 oT10 SU10 Fs10 H10 => ?_
            refine came_back rfl H10 fun h11 oT11 H11 => ?_
            refine noted_held rfl H11 ?_
            refine came_back rfl H11 fun h12 oT12 H12 => ?_
            exact hcatch e9 mi un nm nu (i + 1) (j + 1) _ _ frs10 h12 _ _ _ _ (.inr (by have := hS'.hj; omega)) hS' hmi hun (nam6 rfl rfl rfl rfl rfl rfl) (.inl ⟨T10, oe10, oT12, .none, _, H12, fun p hp => hp, SU10⟩)
        · refine tail_out .none (.inl ⟨rfl, rfl⟩) (hle'.at fun o e => F7.keep _ o e) (by rw [List.size_toArray, ie.length]; omega) (by omega) fun h9 tk9 e9 hx9 => ?_
          refine noted_raw (l := envX cn cs L a ccd cl :: outer) (frs := frs) (new := [_, _]) (Around.frames_deeper rfl) rfl Fs F7 N7 (hap_of (new := [_, _]) N7 (List.forall_mem_cons.mpr ⟨fun q hq => (hoff q hq).2, List.forall_mem_cons.mpr ⟨fun q hq => (hoff q hq).1, List.forall_mem_nil _⟩⟩)) hx9 fun h10 frs10 T10 oe10 oT10 SU10 Fs10 H10 => ?_
          refine came_back rfl H10 fun h11 oT11 H11 => ?_
          refine noted_held rfl H11 ?_
          refine ⟨ref_ne_byPass _, noted_held rfl H11 (flight_set none H11 fun h12 oT12 H12 => ?_)⟩
          have F12 := H12.F
          have N12 := H12.N
          have off12 := H12.off
          have ne12 := H12.ne
          have X12 := H12.X
          obtain ⟨t0, hd0⟩ := X12.2.1
          (try dsimp only [List.cons_append, List.nil_append] at N12)
          clear F7 N7 H10 H11 H12
          (try dsimp only)
          repeat' ((fail_if_success (with_reducible show wpAny _ _ (PySem.exec (PySem.Stmt.While _ _ _ _) _) _ _ _)); (first | (k_unfold; (try dsimp only)) | ((first | (with_reducible show wpAny _ _ _ _ _ _) | (with_reducible show (ite _ _ _ : Prop)) | (with_reducible show InvPostN _ _ _ _ _ _ _ _ _)); (first | walk1 | (dsimp only; walk1)); (try dsimp only)) | ((with_reducible show (PySem.W.Frag.In _ _ ∧ _)); (refine And.intro (by k_in) ?_))))
          rename Fr _ _ _ _ => F13
          rename News _ _ _ _ => N13
          refine while_out ?_
          repeat' ((fail_if_success (with_reducible show wpAny _ _ (PyProof.Rows.subscriptTail _ _ _ _) _ _ _)); (first | (k_unfold; (try dsimp only)) | ((first | (with_reducible show wpAny _ _ _ _ _ _) | (with_reducible show (ite _ _ _ : Prop)) | (with_reducible show InvPostN _ _ _ _ _ _ _ _ _)); (first | walk1 | (dsimp only; walk1)); (try dsimp only)) | ((with_reducible show (PySem.W.Frag.In _ _ ∧ _)); (refine And.intro (by k_in) ?_))))
          by_cases hj2 : j + 1 < as.length
          · obtain ⟨y, hy⟩ : ∃ e, as[j + 1]? = some e := ⟨_, List.getElem?_eq_getElem hj2⟩
            obtain ⟨ty, hyy⟩ := ia.get (j + 1) y hy
            refine itemL (hla'.at fun o e => F13.keep _ o e) (by omega) (by omega) (by rw [show ((j : Int) + 1).toNat = j + 1 from by omega]; exact hyy) ?_
            (try dsimp only)
            repeat' (first | (k_unfold; (try dsimp only)) | ((first | (with_reducible show wpAny _ _ _ _ _ _) | (with_reducible show (ite _ _ _ : Prop)) | (with_reducible show InvPostN _ _ _ _ _ _ _ _ _)); (first | walk1 | (dsimp only; walk1)); (try dsimp only)) | ((with_reducible show (PySem.W.Frag.In _ _ ∧ _)); (refine And.intro (by k_in) ?_)))
            refine ⟨by simpa using next_ne sa ha hy, ?_⟩
            (try dsimp only)
            repeat' ((fail_if_success (with_reducible show wpAny _ _ (PySem.passOn _ _ _) _ _ _)); (first | (k_unfold; (try dsimp only)) | ((first | (with_reducible show wpAny _ _ _ _ _ _) | (with_reducible show (ite _ _ _ : Prop)) | (with_reducible show InvPostN _ _ _ _ _ _ _ _ _)); (first | walk1 | (dsimp only; walk1)); (try dsimp only)) | ((with_reducible show (PySem.W.Frag.In _ _ ∧ _)); (refine And.intro (by k_in) ?_))))
            refine pass_on rfl (Held.mk F13 N13 X12 ne12 off12) fun h14 oT14 H14 => ?_
            exact hcatch e9 mi un nm nu (i + 1) (j + 1) _ _ frs10 h14 _ _ _ _ (.inl (by have := hS'.hi; omega)) hS' hmi hun (nam6 rfl rfl rfl rfl rfl rfl) (.inl ⟨T10, oe10, oT14, .none, _, H14, fun p hp => hp, SU10⟩)
          · refine tail_out (.ref e9) (.inr ⟨e9, oe10, _, rfl, rfl, (N13 _ (.head _)).1, hd0, rfl⟩) (hla'.at fun o e => F13.keep _ o e) (by rw [List.size_toArray, ia.length]; omega) (by omega) fun h14 tk14 e14 hx14 => ?_
            refine noted_raw (l := envX cn cs L a ccd cl :: outer) (frs := frs10) (new := [_, _, _, _]) (mark_frames (Around.frames_deeper rfl)) rfl Fs10 F13 N13 (hap_of (new := [_, _, _, _]) N13 ?_) hx14 fun h15 frs15 T15 oe15 oT15 SU15 Fs15 H15 => ?_
            · have hof := off_up SU10 hoff
              exact List.forall_mem_cons.mpr ⟨fun q hq => (off12 q (List.mem_append_right _ hq)).1, List.forall_mem_cons.mpr ⟨fun q hq => (off12 q (List.mem_append_right _ hq)).2, List.forall_mem_cons.mpr ⟨fun q hq => (hof q hq).2, List.forall_mem_cons.mpr ⟨fun q hq => (hof q hq).1, List.forall_mem_nil _⟩⟩⟩⟩
            refine came_back rfl H15 fun h16 oT16 H16 => ?_
            refine noted_held rfl H16 ?_
            refine came_back rfl H16 fun h17 oT17 H17 => ?_
            exact hcatch e14 mi un nm nu (i + 1) (j + 1) _ _ frs15 h17 _ _ _ _ (.inl (by have := hS'.hi; omega)) hS' hmi hun (nam6 rfl rfl rfl rfl rfl rfl) (.inl ⟨T15, oe15, oT17, .ref e9, _, H17, fun p hp => .tail _ (.tail _ hp), SU10.trans SU15⟩)
end
section
local macro_rules | `(tactic| walk_at "eval Name") => `(tactic| ((with_reducible show wpAny _ _ (PySem.eval (PySem.Expr.Name _ _) (PySem.compEnvC _ _ _ _)) _ _ _); (refine nm_loc (by assumption) (by rfl) ?_)))
/-- the ones of a word -/
def onesF (word : Int) : List Int := (rangeKs 0 (Builtin.Int.intBits word)).filter fun k => (bitsL word (Builtin.Int.intBits word)).getD k.toNat 0 == 1
def sumP (ks : List Int) : Int := (ks.map fun k => (2 : Int) ^ k.toNat).sum
def mendF (word : Int) (rows : List Int) : Option Int := (toldF word rows).map fun told => sumP (diffI (onesF word) told ++ diffI told (onesF word))
theorem tabOk_kp {q : Str} {pos : Pos} {ps : Array Value} {g h : Heap} (x : TabOk q pos ps g) (k : Kp g h) : TabOk q pos ps h := x.imp (fun e => e) fun ⟨c', e, r⟩ => ⟨c', e, codeRec_kp r k⟩
/-- the inner def's code, kept: within the base, or in the ledger -/
theorem code_xs {q : Str} {pos : Pos} {ps : Array Value} {g h₁ h₂ : Heap} {L c' : Addr} {m : Str → Option Value} (F : Fr g L h₁ m) (hps : TabOk q pos ps g) (hrec : h₂.CodeRec (.ref c') q) (hnew : ps = #[rawInt pos.line, rawInt pos.col, .ref c'] ∨ h₁.get? c' = none) :
    ∃ xs : List (Addr × Obj), News g L h₂ xs ∧ (∀ p ∈ xs, h₁.get? p.1 = none) ∧ (∀ p ∈ xs, ∃ vs, p.2.data = .fields vs) ∧ ∀ h : Heap, (∀ b o vs, o.data = .fields vs → g.get? b = some o → h.get? b = some o) → (∀ p ∈ xs, h.get? p.1 = some p.2) → h.CodeRec (.ref c') q := by
  rcases hnew with e | hn
  · rcases hps with e2 | ⟨c₂, e2, c₃, o, vs, t, e3, ho, hd, hv⟩
    · rw [e] at e2; exact absurd (congrArg Array.size e2) (by simp)
    · rw [e] at e2
      have : c' = c₂ := by simpa using e2
      subst this
      exact ⟨[], News.nil, (fun _ h => nomatch h), (fun _ h => nomatch h), fun h hk _ => ⟨c₃, o, vs, t, e3, hk _ _ vs hd ho, hd, hv⟩⟩
  · obtain ⟨c₃, o, vs, t, e3, ho, hd, hv⟩ := hrec
    cases e3
    refine ⟨[(c', o)], fun p hp => ?_, fun p hp => by rw [List.mem_singleton.mp hp]; exact hn, fun p hp => ⟨vs, by rw [List.mem_singleton.mp hp]; exact hd⟩, fun h _ hx => ⟨c', o, vs, t, rfl, hx _ (.head _), hd, hv⟩⟩
    rw [List.mem_singleton.mp hp]
    refine ⟨ho, fun e => ?_, TI.none_of F.keep hn⟩
    obtain ⟨oL, _, _, hL, _⟩ := F.ns
    rw [← show c' = L from e, hn] at hL; cases hL
theorem rangeKs_sorted (n : Nat) : (rangeKs 0 n).Pairwise (· < ·) := by
  unfold rangeKs
  refine List.Pairwise.map _ (fun a b h => ?_) List.pairwise_lt_range
  omega
theorem onesF_sorted (w : Int) : (onesF w).Pairwise (· < ·) := (rangeKs_sorted _).filter _
theorem bitsF_sorted (w : Int) : (bitsF w).Pairwise (· < ·) := (rangeKs_sorted _).filter _
theorem rangeKs_rng {n : Nat} : ∀ k ∈ rangeKs 0 n, 0 ≤ k ∧ k < n := fun k hk => by simp [rangeKs] at hk; omega
theorem onesF_rng {w : Int} : ∀ k ∈ onesF w, 0 ≤ k ∧ k < Builtin.Int.intBits w := fun k hk => rangeKs_rng k (List.mem_filter.mp hk).1
theorem toldF_is {w : Int} {rows ps : List Int} (h : toldF w rows = some ps) : ∃ one, ps = bitsF one := by
  unfold toldF at h
  obtain ⟨one, _, e⟩ := Option.map_eq_some_iff.mp h
  exact ⟨one, e.symm⟩
theorem bitsF_rng {w : Int} : ∀ k ∈ bitsF w, 0 ≤ k ∧ k < 24 := fun k hk => rangeKs_rng (n := 24) k (List.mem_filter.mp hk).1
theorem bitsF_len {w : Int} : (bitsF w).length ≤ 24 := Nat.le_trans (List.length_filter_le ..) (by simp [rangeKs])
set_option maxRecDepth 100000 in
set_option maxHeartbeats 8000000 in
theorem c_mend (w : World) {p : Program} {loose : List Str} {mean : ExcName → Option Value} {mg mb : Str → Option Value}
    {dp un : Nat} {gd : Option (List Code)} {cn : Str} {cs : Scope} {a : Addr} {ccd : Value} {cl : List (Str × Addr)} {A₀ : Around} {base h₀ : Heap} {L : Addr} {m : Str → Option Value} {s : Shared} {Q E : Value → Shared → Prop}
    (B : Below A₀ base [] h₀) (F : Fr h₀ L s.heap m) (X : (hd.heap_39 w.params).In h₀) (T : Top p loose mean mg mb h₀) (hk : cs.kind = .function)
    (hd1 : dp + 80 < recursionLimit) {ps : Array Value} (H : News h₀ L s.heap [(104, tabObj ps)]) (C : CodeHd h₀ 108 104) (hps : TabOk "_int2digits.<locals>.inner" ⟨151, 4, 160, 28⟩ ps s.heap)
    {lr : Addr} {rvs : List Value} {rows : List Int} (hlr : s.heap.IsList lr rvs.toArray) (hir : IntsAre rvs rows) (hrl : rows.length = 12) {word : Int} {t : Tok} (hx0 : 0 ≤ word) (hx1 : word < 2 ^ 24)
    (hret : ∀ (r : Value) (h' : Heap) (tk' : Nat) (c' : Addr), KpX [104, L] s.heap h' → h'.Ns L m → h'.get? 104 = some (tabObj #[rawInt 151, rawInt 4, .ref c']) → h'.CodeRec (.ref c') "_int2digits.<locals>.inner" → (ps = #[rawInt 151, rawInt 4, .ref c'] ∨ s.heap.get? c' = none) →
      (match mendF word rows with | none => r = .none | some v => ∃ t, r = .int v t) → Q r { s with heap := h', toks := tk' }) :
    wpAny (model P0 w) (ktrTop dp un gd cn cs L a ccd cl []) (call (.ref 157) [.int word t, .ref lr]) Q E s := by
  refine enterH (binds := [("word", .int word t), ("rows", .ref lr)]) (fun n => [("bits", n + 1)]) (fun y => if y = "rows" then some (.ref lr) else if y = "word" then some (.int word t) else none) H B F X T rfl rfl hk (by k_is) (by k_is) ?room (BindsTo.of_eq rfl) rfl (fun _ => rfl) (fun _ => rfl) (by decide +kernel) ?_ rfl rfl rfl
  · ktr_room
  intro g L' h₁ tk cells hg F' N' N₀ Y' hlt B' X' T'
  obtain ⟨o1, he, d1⟩ := CellsAre.one Y'
  subst he
  clear Y' N₀
  (try dsimp only [List.cons_append, List.nil_append] at N')
  (try dsimp only); (try k_unmd); k_fold
  have hk0 : Kp h₀ g := hg ▸ hide_kp H F.keep
  have hps' : TabOk "_int2digits.<locals>.inner" ⟨151, 4, 160, 28⟩ ps g := hg ▸ tabOk_hide H hps
  have h104 := hlt _ (.head _)
  (try dsimp only at h104)
  repeat' ((fail_if_success (with_reducible show wpAny _ _ (PySem.call (PySem.Value.ref 109) _ _) _ _ _)); (first | (k_unfold; (try dsimp only)) | ((first | (with_reducible show wpAny _ _ _ _ _ _) | (with_reducible show (ite _ _ _ : Prop)) | (with_reducible show InvPostN _ _ _ _ _ _ _ _ _)); (first | walk1 | (dsimp only; walk1)); (try dsimp only)) | ((with_reducible show (PySem.W.Frag.In _ _ ∧ _)); (refine And.intro (by k_in) ?_))))
  rename Fr _ _ _ _ => F1
  rename News _ _ _ _ => N1
  have hnb : Builtin.Int.intBits word ≤ 24 := intBits_le_iff.mpr (by omega)
  refine c_i2d w B' F1 X' T' rfl (by show dp + 1 + 64 < _; omega) (news_sub N1 (fun p hp => .tail _ hp)) (C.keeps hk0) (tabOk_kp hps' F1.keep) hx0 hx1 fun lb bvs bn h2 tk2 c' k2 e104 hrec hnew hlb0 hlb hIb => ?_
  obtain ⟨xs, Nx, hx1', hxd, hcx⟩ := code_xs F1 hps' hrec hnew
  have g1 : L' + 1 ≠ 104 := Nat.ne_of_gt (Nat.lt_of_lt_of_le h104 (Nat.le_add_right L' 1))
  have hc1 : h₁.get? (L' + 1) = some o1 := (N1 _ (.head _)).1
  have hlbL : lb ≠ L' + 1 := fun e => by rw [e] at hlb0; exact absurd (hlb0.symm.trans hc1) (by simp)
  have F2 := kpx_fr F1 (news_sub N1 (fun p hp => .tail _ hp)) k2
  have N2 : News g L' h2 ((L' + 1, o1) :: (lb, listOf bvs.toArray bn) :: (104, tabObj #[rawInt 151, rawInt 4, .ref c']) :: xs) := fun p hp => by
    rcases List.mem_cons.mp hp with rfl | hp
    · exact kpx_news (news_sub N1 (List.forall_mem_cons.mpr ⟨.head _, List.forall_mem_nil _⟩)) (List.forall_mem_cons.mpr ⟨g1, List.forall_mem_nil _⟩) k2 _ (.head _)
    · rcases List.mem_cons.mp hp with rfl | hp
      · refine ⟨hlb, fun e => ?_, TI.none_of F1.keep hlb0⟩
        obtain ⟨oL, _, _, hL, _⟩ := F1.ns
        rw [← show lb = L' from e, hlb0] at hL; cases hL
      · rcases List.mem_cons.mp hp with rfl | hp
        · exact ⟨e104, (N1 _ (.tail _ (.head _))).2⟩
        · exact Nx p hp
  have h1t := (N1 _ (.tail _ (.head _))).1
  have h1g := F1.keep
  (try dsimp only at h1t)
  clear F1 N1 k2 Nx hrec
  (try dsimp only)
  refine storeC F2 N2 rfl (.head (List.forall_mem_cons.mpr ⟨hlbL, List.forall_mem_cons.mpr ⟨g1.symm, fun p hp e => ?_⟩⟩)) d1 fun h3 o3 F3 N3 d3 _ => ?_
  · have := hx1' p hp
    rw [e, hc1] at this; cases this
  clear F2 N2
  have hnew' : ps = #[rawInt 151, rawInt 4, .ref c'] ∨ s.heap.get? c' = none := hnew.imp (fun e => e) fun e => by
    cases q : s.heap.get? c' with
    | none => rfl
    | some o =>
      by_cases hc : c' = 104
      · rw [hc, h1t] at e; cases e
      · have hz : g.get? c' = some o := by rw [hg]; exact hideAll_get [104] q (by simpa using hc)
        rw [h1g _ _ hz] at e; cases e
  have hg2 : ∀ b o, b ≠ 104 → s.heap.get? b = some o → g.get? b = some o := fun b o hb e => by rw [hg]; exact hideAll_get [104] e (by simpa using hb)
  have hL104 : L ≠ 104 := fun e => (H _ (.head _)).2.1 e.symm
  obtain ⟨oL, esL, epL, hoL, hdL, hrL⟩ := id F.ns
  have hgL : g.get? L = some oL := hg2 L oL hL104 hoL
  have hLL' : L ≠ L' := Nat.ne_of_lt (Nat.lt_of_lt_of_le (Heap.lt_size hgL) F3.above)
  have hlr' : g.IsList lr rvs.toArray := hg ▸ list_hide H hlr
  clear hps hps' H hlt hx1'
  repeat' ((fail_if_success (with_reducible show wpAny _ _ (PySem.call (PySem.Value.ref 152) _ _) _ _ _)); (first | (k_unfold; (try dsimp only)) | ((first | (with_reducible show wpAny _ _ _ _ _ _) | (with_reducible show (ite _ _ _ : Prop)) | (with_reducible show InvPostN _ _ _ _ _ _ _ _ _)); (first | walk1 | (dsimp only; walk1)); (try dsimp only)) | ((with_reducible show (PySem.W.Frag.In _ _ ∧ _)); (refine And.intro (by k_in) ?_))))
  refine c_told w B' F3 X' T' rfl (by show dp + 1 + 8 < _; omega) (hlr'.at fun o e => F3.keep _ o e) hir hrl (fun told lt tvs tn h4 tk4 htold k4 hlt0 hlt4 hIt => ?_) (fun h4 tk4 htold k4 => ?_)
  · have F4 := kp_fr F3 k4
    have N4 := news_cons F3 (kp_news N3 k4) hlt4 hlt0
    clear F3 N3 k4
    (try dsimp only)
    repeat' ((fail_if_success (with_reducible show wpAny _ _ (PySem.eval (PySem.Expr.ListComp _ _ _ _) _) _ _ _)); (first | (k_unfold; (try dsimp only)) | ((first | (with_reducible show wpAny _ _ _ _ _ _) | (with_reducible show (ite _ _ _ : Prop)) | (with_reducible show InvPostN _ _ _ _ _ _ _ _ _)); (first | walk1 | (dsimp only; walk1)); (try dsimp only)) | ((with_reducible show (PySem.W.Frag.In _ _ ∧ _)); (refine And.intro (by k_in) ?_))))
    refine comp_expr (ks := rangeKs 0 (Builtin.Int.intBits word)) (fun k => (bitsL word (Builtin.Int.intBits word)).getD k.toNat 0 == 1) (fun k y => ∃ t, y = .int k t) rfl (by decide) rfl (by decide) rfl (by rw [PySem.sizeLine_eq]; simp [rangeKs]; omega) ?_
    repeat' ((fail_if_success (with_reducible show wpAny _ _ (PySem.call (PySem.Value.builtin "len") _ _) _ _ _)); (first | (k_unfold; (try dsimp only)) | ((first | (with_reducible show wpAny _ _ _ _ _ _) | (with_reducible show (ite _ _ _ : Prop)) | (with_reducible show InvPostN _ _ _ _ _ _ _ _ _)); (first | walk1 | (dsimp only; walk1)); (try dsimp only)) | ((with_reducible show (PySem.W.Frag.In _ _ ∧ _)); (refine And.intro (by k_in) ?_))))
    rename News _ _ _ _ => N5
    have hbl : bvs.length = Builtin.Int.intBits word := by rw [hIb.length, bitsL_length]
    refine call_len_list (PySem.IsL.isList (N5 _ (.tail _ (.tail _ (.head _)))).1) (by rw [List.size_toArray, hbl]; omega) ?_
    rw [List.size_toArray, hbl]
    (try dsimp only)
    repeat' (first | (k_unfold; (try dsimp only)) | ((first | (with_reducible show wpAny _ _ _ _ _ _) | (with_reducible show (ite _ _ _ : Prop)) | (with_reducible show InvPostN _ _ _ _ _ _ _ _ _)); (first | walk1 | (dsimp only; walk1)); (try dsimp only)) | ((with_reducible show (PySem.W.Frag.In _ _ ∧ _)); (refine And.intro (by k_in) ?_)))
    rename Fr _ _ _ _ => F5
    rename News _ _ _ _ => N5
    rename IsRange _ _ _ _ _ _ _ _ => R5
    refine ⟨src_range rfl R5 (small_one (by omega) (by omega) (by omega) (by omega)) (by rw [rangeSize_nat]; omega), ⟨?tests, ?elt⟩, ?ret⟩
    case tests =>
      intro C k t3 s₃ m₃ hk FC
      have hc := FC.keep _ _ (N5 _ (.tail _ (.head _))).1
      have hlb5 := FC.keep _ _ (N5 _ (.tail _ (.tail _ (.head _)))).1
      have NC := fr_nil FC
      have hkr := rangeKs_rng k hk
      (try dsimp only at FC NC hc hlb5)
      refine tests_one ?_
      repeat' ((fail_if_success (with_reducible show wpAny _ _ (PySem.eval (PySem.Expr.Name (PySem.Str.ofString "bits") _) _) _ _ _)); (first | (k_unfold; (try dsimp only)) | ((first | (with_reducible show wpAny _ _ _ _ _ _) | (with_reducible show (ite _ _ _ : Prop)) | (with_reducible show InvPostN _ _ _ _ _ _ _ _ _)); (first | walk1 | (dsimp only; walk1)); (try dsimp only)) | ((with_reducible show (PySem.W.Frag.In _ _ ∧ _)); (refine And.intro (by k_in) ?_))))
      refine nm_cell rfl hc d3 ?_
      repeat' ((fail_if_success (with_reducible show wpAny _ _ (PySem.eval (PySem.Expr.Name (PySem.Str.ofString "k") _) _) _ _ _)); (first | (k_unfold; (try dsimp only)) | ((first | (with_reducible show wpAny _ _ _ _ _ _) | (with_reducible show (ite _ _ _ : Prop)) | (with_reducible show InvPostN _ _ _ _ _ _ _ _ _)); (first | walk1 | (dsimp only; walk1)); (try dsimp only)) | ((with_reducible show (PySem.W.Frag.In _ _ ∧ _)); (refine And.intro (by k_in) ?_))))
      refine nm_loc FC rfl ?_
      repeat' ((fail_if_success (with_reducible show wpAny _ _ (PyProof.Rows.subscriptTail _ _ _ _) _ _ _)); (first | (k_unfold; (try dsimp only)) | ((first | (with_reducible show wpAny _ _ _ _ _ _) | (with_reducible show (ite _ _ _ : Prop)) | (with_reducible show InvPostN _ _ _ _ _ _ _ _ _)); (first | walk1 | (dsimp only; walk1)); (try dsimp only)) | ((with_reducible show (PySem.W.Frag.In _ _ ∧ _)); (refine And.intro (by k_in) ?_))))
      have hkl : k.toNat < (bitsL word (Builtin.Int.intBits word)).length := by rw [bitsL_length]; omega
      obtain ⟨t9, hx⟩ := hIb.get k.toNat ((bitsL word (Builtin.Int.intBits word))[k.toNat]) (by simp [hkl])
      refine itemL (PySem.IsL.isList hlb5) hkr.1 (by omega) hx ?_
      (try dsimp only)
      repeat' (first | (k_unfold; (try dsimp only)) | ((first | (with_reducible show wpAny _ _ _ _ _ _) | (with_reducible show (ite _ _ _ : Prop)) | (with_reducible show InvPostN _ _ _ _ _ _ _ _ _)); (first | walk1 | (dsimp only; walk1)); (try dsimp only)) | ((with_reducible show (PySem.W.Frag.In _ _ ∧ _)); (refine And.intro (by k_in) ?_)))
      refine ⟨?_, _, _, rfl, fun _ _ e => e⟩
      rw [List.getD_eq_getElem?_getD, List.getElem?_eq_getElem hkl]
      rfl
    case elt =>
      intro C k t3 s₃ m₃ hk hp FC
      have NC := fr_nil FC
      (try dsimp only at FC NC)
      refine nm_loc FC rfl ?_
      exact ⟨⟨_, rfl⟩, _, _, rfl, fun _ _ e => e⟩
    case ret =>
      intro D nn ys h6 tk6 hkp hD hgD hpair
      have F6 := kp_fr F5 hkp
      have N6 := news_cons F5 (kp_news N5 hkp) hgD hD
      have I6 := paired_ints (g := id) hpair
      rw [List.map_id] at I6
      clear F5 N5 R5 hpair
      repeat' ((fail_if_success (with_reducible show wpAny _ _ (PySem.call (PySem.Value.ref 123) _ _) _ _ _)); (first | (k_unfold; (try dsimp only)) | ((first | (with_reducible show wpAny _ _ _ _ _ _) | (with_reducible show (ite _ _ _ : Prop)) | (with_reducible show InvPostN _ _ _ _ _ _ _ _ _)); (first | walk1 | (dsimp only; walk1)); (try dsimp only)) | ((with_reducible show (PySem.W.Frag.In _ _ ∧ _)); (refine And.intro (by k_in) ?_))))
      obtain ⟨one, hone⟩ := toldF_is htold
      have hgL6 : h6.get? L = some oL := F6.keep _ _ hgL
      have k10 : Kp h₀ (hideAll g [L]) := fun b o e => hideAll_get _ (hk0 b o e) (by
        intro hm
        rw [List.mem_singleton.mp hm] at e
        exact absurd (Nat.lt_of_lt_of_le (Heap.lt_size e) F.above) (Nat.lt_irrefl _))
      have H0 : News (hideAll g [L]) L' h6 [(L, oL)] := fun p hp => by
        rw [List.mem_singleton.mp hp]
        exact ⟨hgL6, hLL', hideAll_none _ (.head _)⟩
      have kf : ∀ b o, b ∉ L' :: [(L, oL)].map (·.1) → (hideAll g [L]).get? b = some o ∨ (b, o) ∈ ((D, listOf ys.toArray nn) :: (lt, listOf tvs.toArray tn) :: (L' + 1, o3) :: (lb, listOf bvs.toArray bn) :: (104, tabObj #[rawInt 151, rawInt 4, .ref c']) :: xs) → h6.get? b = some o := fun b o _ hb => hb.elim (fun e => F6.keep _ _ (of_hideAll _ e)) fun hm => (N6 _ hm).1
      have hne104 : 104 ∉ L' :: [(L, oL)].map (·.1) := by
        intro hm
        rcases List.mem_cons.mp hm with e | hm
        · exact absurd h104 (by rw [← e]; exact Nat.lt_irrefl _)
        · exact hL104 (List.mem_singleton.mp hm).symm
      have hxne : ∀ p ∈ xs, p.1 ∉ L' :: [(L, oL)].map (·.1) := fun p hp hm => by
        have z := N6 p (.tail _ (.tail _ (.tail _ (.tail _ (.tail _ hp)))))
        rcases List.mem_cons.mp hm with e | hm
        · exact z.2.1 e
        · rw [List.mem_singleton.mp hm] at z
          exact absurd (z.2.2.symm.trans hgL) (by simp)
      have hx6 : ∀ p ∈ xs, h6.get? p.1 = some p.2 := fun p hp => (N6 p (.tail _ (.tail _ (.tail _ (.tail _ (.tail _ hp)))))).1
      have h104' : h6.get? 104 = some (tabObj #[rawInt 151, rawInt 4, .ref c']) := (N6 _ (.tail _ (.tail _ (.tail _ (.tail _ (.head _)))))).1
      have hg104 : (hideAll g [L]).get? 104 = none := hide_fresh ((N6 _ (.tail _ (.tail _ (.tail _ (.tail _ (.head _)))))).2.2)
      have hxg : ∀ p ∈ xs, (hideAll g [L]).get? p.1 = none := fun p hp => hide_fresh (N6 p (.tail _ (.tail _ (.tail _ (.tail _ (.tail _ hp)))))).2.2
      have hFs : TI.Frs [envX cn cs L a ccd cl] [(L, oL)] := ⟨by show cs.kind ≠ .module; rw [hk]; decide, rfl, ⟨_, _, hdL⟩, trivial⟩
      refine c_sld w (hide_fr [L] F6) (X.keeps k10) (T.keeps k10) (frs0 := [(L, oL)]) hFs H0 rfl (by show dp + 1 + 4 < _; omega) (PySem.IsL.isList hgD) (PySem.IsL.isList (N6 _ (.tail _ (.head _))).1) I6 hIt (onesF_sorted word) (by rw [hone]; exact bitsF_sorted one) (Nat.le_trans (List.length_filter_le ..) (by simp [rangeKs]; omega)) (by rw [hone]; exact bitsF_len) fun l1 l2 tp vs1 vs2 n1 n2 h7 tk7 k7 hns7 hfr7 N7 hap7 hnew7 hi1 hi2 => ?_
      obtain ⟨frs', SU, hf7⟩ := hfr7
      have F7 : Fr (hideAll g [L]) L' h7 _ := ⟨hns7, fun b o e => k7 b o (fun hm => by
        rcases List.mem_cons.mp hm with q | hm
        · have hz := of_hideAll _ e
          rw [q] at hz
          exact absurd (Nat.lt_of_lt_of_le (Heap.lt_size hz) F6.above) (Nat.lt_irrefl _)
        · rw [List.mem_singleton.mp hm, hideAll_none [L] (.head _)] at e; cases e) (F6.keep _ _ (of_hideAll _ e)), Nat.le_trans (Nat.le_of_eq (hideAll_size _ _)) F6.above⟩
      obtain ⟨sl, hL7⟩ : ∃ sl, h7.get? L = some { oL with slots := sl } := by
        cases frs' with
        | nil => exact False.elim SU
        | cons q qs =>
          obtain ⟨e1, ⟨sl, e2⟩, _⟩ := SU
          have hq := hf7 q (.head _)
          have e1' : q.1 = L := e1
          rw [e1', e2] at hq
          exact ⟨sl, hq⟩
      have N8 : News (hideAll g [L]) L' h7 ((tp, ({ cls := .type "tuple", data := .seq #[.ref l1, .ref l2] } : Obj)) :: (l2, listOf vs2.toArray n2) :: (l1, listOf vs1.toArray n1) :: (L, { oL with slots := sl }) :: (104, tabObj #[rawInt 151, rawInt 4, .ref c']) :: xs) := fun p hp => by
        rcases List.mem_cons.mp hp with rfl | hp
        · exact N7 _ (.head _)
        · rcases List.mem_cons.mp hp with rfl | hp
          · exact N7 _ (.tail _ (.head _))
          · rcases List.mem_cons.mp hp with rfl | hp
            · exact N7 _ (.tail _ (.tail _ (.head _)))
            · rcases List.mem_cons.mp hp with rfl | hp
              · exact ⟨hL7, hLL', hideAll_none _ (.head _)⟩
              · rcases List.mem_cons.mp hp with rfl | hp
                · exact ⟨k7 _ _ hne104 h104', Nat.ne_of_lt h104, hg104⟩
                · exact ⟨k7 _ _ (hxne p hp) (hx6 p hp), (fun e => hxne p hp (by rw [show p.1 = L' from e]; exact .head _)), hxg p hp⟩
      clear F6 N6 N7 k7 hns7 H0 kf hf7 SU X' T' B'
      have X' := X.keeps k10
      have T' := T.keeps k10
      have hr1 : ∀ k ∈ diffI (onesF word) told ++ diffI told (onesF word), 0 ≤ k ∧ k < 24 := fun k hk => by
        rcases List.mem_append.mp hk with hk | hk
        · have := onesF_rng k (List.mem_filter.mp hk).1
          omega
        · rw [hone] at hk; exact bitsF_rng k (List.mem_filter.mp hk).1
      have hlen1 : (diffI (onesF word) told).length ≤ 24 := Nat.le_trans (List.length_filter_le ..) (Nat.le_trans (List.length_filter_le ..) (by simp [rangeKs]; omega))
      have hlen2 : (diffI told (onesF word)).length ≤ 24 := Nat.le_trans (List.length_filter_le ..) (by rw [hone]; exact bitsF_len)
      (try dsimp only)
      repeat' ((fail_if_success (with_reducible show wpAny _ _ (PySem.eval (PySem.Expr.ListComp _ _ _ _) _) _ _ _)); (first | (k_unfold; (try dsimp only)) | ((first | (with_reducible show wpAny _ _ _ _ _ _) | (with_reducible show (ite _ _ _ : Prop)) | (with_reducible show InvPostN _ _ _ _ _ _ _ _ _)); (first | walk1 | (dsimp only; walk1)); (try dsimp only)) | ((with_reducible show (PySem.W.Frag.In _ _ ∧ _)); (refine And.intro (by k_in) ?_))))
      refine comp_expr (ks := diffI (onesF word) told ++ diffI told (onesF word)) (fun _ => true) (fun k y => ∃ t, y = .int (2 ^ k.toNat) t) rfl (by decide) rfl (by decide) rfl (by rw [PySem.sizeLine_eq, List.length_append]; omega) ?_
      repeat' ((fail_if_success (with_reducible show wpAny _ _ (PySem.binaryOp PySem.Operator.Add _ _) _ _ _)); (first | (k_unfold; (try dsimp only)) | ((first | (with_reducible show wpAny _ _ _ _ _ _) | (with_reducible show (ite _ _ _ : Prop)) | (with_reducible show InvPostN _ _ _ _ _ _ _ _ _)); (first | walk1 | (dsimp only; walk1)); (try dsimp only)) | ((with_reducible show (PySem.W.Frag.In _ _ ∧ _)); (refine And.intro (by k_in) ?_))))
      rename Fr _ _ _ _ => F9
      rename News _ _ _ _ => N9
      replace hi1 : IntsAre vs1 (diffI (onesF word) told) := hi1
      replace hi2 : IntsAre vs2 (diffI told (onesF word)) := hi2
      refine add_lists_ints (hsz := by rw [PySem.sizeLine_eq]; omega) F9 N9 (PySem.IsL.isList (N9 _ (.tail _ (.tail _ (.head _)))).1) (PySem.IsL.isList (N9 _ (.tail _ (.head _))).1) hi1 hi2 fun h10 F10 N10 I10 => ?_
      clear F9 N9
      (try dsimp only)
      refine ⟨src_list rfl ⟨_, (N10 _ (.head _)).1, rfl, _, rfl⟩ I10, ⟨?tests2, ?elt2⟩, ?ret2⟩
      case tests2 =>
        intro C k t3 s₃ m₃ hk FC
        exact tests_nil ⟨rfl, _, _, rfl, fun _ _ e => e⟩
      case elt2 =>
        intro C k t3 s₃ m₃ hk hp FC
        have hkr := hr1 k hk
        have NC := fr_nil FC
        clear F10 N10 X' T'
        (try dsimp only at FC NC)
        repeat' ((fail_if_success (with_reducible show wpAny _ _ (PySem.eval (PySem.Expr.Name (PySem.Str.ofString "k") _) _) _ _ _)); (first | (k_unfold; (try dsimp only)) | ((first | (with_reducible show wpAny _ _ _ _ _ _) | (with_reducible show (ite _ _ _ : Prop)) | (with_reducible show InvPostN _ _ _ _ _ _ _ _ _)); (first | walk1 | (dsimp only; walk1)); (try dsimp only)) | ((with_reducible show (PySem.W.Frag.In _ _ ∧ _)); (refine And.intro (by k_in) ?_))))
        refine nm_loc FC rfl ?_
        repeat' ((fail_if_success (with_reducible show wpAny _ _ (PySem.binaryOp PySem.Operator.Pow _ _) _ _ _)); (first | (k_unfold; (try dsimp only)) | ((first | (with_reducible show wpAny _ _ _ _ _ _) | (with_reducible show (ite _ _ _ : Prop)) | (with_reducible show InvPostN _ _ _ _ _ _ _ _ _)); (first | walk1 | (dsimp only; walk1)); (try dsimp only)) | ((with_reducible show (PySem.W.Frag.In _ _ ∧ _)); (refine And.intro (by k_in) ?_))))
        refine pow_int_small (a := 2) hkr.1 (by omega) (by decide) ?_
        exact ⟨⟨_, rfl⟩, _, _, rfl, fun _ _ e => e⟩
      case ret2 =>
        intro D2 nn2 ys2 h11 tk11 hkp11 hD2 hgD2 hpair2
        have F11 := kp_fr F10 hkp11
        have N11 := news_cons F10 (kp_news N10 hkp11) hgD2 hD2
        have I11 := paired_ints hpair2
        rw [filter_all] at I11
        clear F10 N10 hpair2
        repeat' (first | (k_unfold; (try dsimp only)) | ((first | (with_reducible show wpAny _ _ _ _ _ _) | (with_reducible show (ite _ _ _ : Prop)) | (with_reducible show InvPostN _ _ _ _ _ _ _ _ _)); (first | walk1 | (dsimp only; walk1)); (try dsimp only)) | ((with_reducible show (PySem.W.Frag.In _ _ ∧ _)); (refine And.intro (by k_in) ?_)))
        rename Fr _ _ _ _ => FZ
        rename News _ _ _ _ => NZ
        have kZ : KpX [104, L] s.heap _ := fun b o hb e => FZ.keep b o (hideAll_get _ (hg2 b o (fun q => hb (by rw [q]; exact .head _)) e) (fun q => hb (.tail _ q)))
        have m1 := (NZ _ (.tail _ (.tail _ (.tail _ (.tail _ (.tail _ (.head _))))))).1
        refine hret _ _ _ c' kZ ⟨_, esL, epL, m1, hdL, hrL⟩ (NZ _ (.tail _ (.tail _ (.tail _ (.tail _ (.tail _ (.tail _ (.head _)))))))).1 (hcx _ (fun b o vs hv e => FZ.keep b o (hideAll_get _ e fun q => ?_)) fun p hp => (NZ p (.tail _ (.tail _ (.tail _ (.tail _ (.tail _ (.tail _ (.tail _ hp)))))))).1) hnew' ?_
        · rw [List.mem_singleton.mp q, hgL] at e
          cases e
          rw [hdL] at hv; cases hv
        · rw [mendF, htold]
          exact ⟨_, rfl⟩
  · have F4 := kp_fr F3 k4
    have N4 := kp_news N3 k4
    clear F3 N3 k4
    (try dsimp only)
    repeat' (first | (k_unfold; (try dsimp only)) | ((first | (with_reducible show wpAny _ _ _ _ _ _) | (with_reducible show (ite _ _ _ : Prop)) | (with_reducible show InvPostN _ _ _ _ _ _ _ _ _)); (first | walk1 | (dsimp only; walk1)); (try dsimp only)) | ((with_reducible show (PySem.W.Frag.In _ _ ∧ _)); (refine And.intro (by k_in) ?_)))
    rename Fr _ _ _ _ => F9
    rename News _ _ _ _ => N9
    have k9 : KpX [104] s.heap _ := kpx_of (hg ▸ F9)
    refine hret .none _ _ c' (fun b o hb e => k9 b o (fun hm => hb (by rw [List.mem_singleton.mp hm]; exact .head _)) e) (F.ns.at' fun o e => k9 L o (by simpa using hL104) e) (N9 _ (.tail _ (.tail _ (.head _)))).1 (hcx _ (fun b o _ _ e => F9.keep b o e) fun p hp => (N9 p (.tail _ (.tail _ (.tail _ hp)))).1) hnew' ?_
    rw [mendF, htold]
    rfl
end
section
def sext (w : Int) : List Int := [w / 262144, w / 4096 % 64, w / 64 % 64, w % 64]
theorem p_sgn {k : Int} (h : 0 ≤ k ∧ k < 64) : sgn k ≠ 61 ∧ b64v (sgn k) = k := by
  have : ∀ k : Fin 64, sgn (k.val : Int) ≠ 61 ∧ b64v (sgn (k.val : Int)) = k.val := by decide +kernel
  have z := this ⟨k.toNat, by omega⟩
  simp only [Int.toNat_of_nonneg h.1] at z
  exact z
theorem p_dval {w : Int} (h : 0 ≤ w ∧ w < 16777216) : (∀ k ∈ (oct3 w).reverse, 0 ≤ k ∧ k < 256) ∧ (w % 256) + 256 * (w / 256 % 256 + 256 * (w / 65536)) = w := by
  refine ⟨fun k hk => ?_, by omega⟩
  exact oct3_rng (ws := [w]) (by simpa using h) k (by simpa using hk)
theorem turned_rng (x : Int) : ∀ i, ∀ p ∈ turnedN x i, 0 ≤ p ∧ p < 24
  | 0, _, h => nomatch h
  | i + 1, p, h => by
    rw [turnedN] at h
    split at h
    · rename_i hc
      rcases List.mem_append.mp h with h | h
      · exact turned_rng x i p h
      · rw [List.mem_singleton.mp h]
        exact ⟨Int.fmod_nonneg_of_pos _ (by decide), hc.1⟩
    · exact turned_rng x i p h
theorem p_turned (x : Int) : ∀ p ∈ turnedN x 4, 0 ≤ p ∧ p < 24 := turned_rng x 4
theorem oct3_div (w : Int) : oct3 w = [w / 65536, w / 256 % 256, w % 256] := by
  unfold oct3
  rw [Int.fdiv_eq_ediv_of_nonneg _ (by decide), Int.fdiv_eq_ediv_of_nonneg _ (by decide), Int.fmod_eq_emod_of_nonneg _ (by decide), Int.fmod_eq_emod_of_nonneg _ (by decide)]
theorem b2a_0 (acc : List Int) (lc b : Int) : b2aStep (acc, 0, lc) b = (acc ++ [sgn ((lc * 256 + b) % 65536 / 4 % 64)], 2, (lc * 256 + b) % 65536) := rfl
theorem b2a_2 (acc : List Int) (lc b : Int) : b2aStep (acc, 2, lc) b = (acc ++ [sgn ((lc * 256 + b) % 65536 / 16 % 64)], 4, (lc * 256 + b) % 65536) := rfl
theorem b2a_4 (acc : List Int) (lc b : Int) : b2aStep (acc, 4, lc) b = (acc ++ [sgn ((lc * 256 + b) % 65536 / 64 % 64), sgn ((lc * 256 + b) % 65536 % 64)], 0, (lc * 256 + b) % 65536) := rfl
theorem b2a_word {w : Int} (h : 0 ≤ w ∧ w < 16777216) (acc : List Int) (lc : Int) : (oct3 w).foldl b2aStep (acc, 0, lc) = (acc ++ (sext w).map sgn, 0, w % 65536) := by
  rw [oct3_div, List.foldl_cons, List.foldl_cons, List.foldl_cons, List.foldl_nil, b2a_0, b2a_2, b2a_4]
  have e1 : (lc * 256 + w / 65536) % 65536 / 4 % 64 = w / 262144 := by omega
  have e2 : ((lc * 256 + w / 65536) % 65536 * 256 + w / 256 % 256) % 65536 = w / 256 := by omega
  have e4 : (w / 256 * 256 + w % 256) % 65536 = w % 65536 := by omega
  rw [e1, e2, e4]
  have e3 : w / 256 / 16 % 64 = w / 4096 % 64 := by omega
  have e5 : w % 65536 / 64 % 64 = w / 64 % 64 := by omega
  have e6 : w % 65536 % 64 = w % 64 := by omega
  rw [e3, e5, e6]
  simp [sext]
theorem b2a_words : ∀ {ws : List Int}, (∀ w ∈ ws, 0 ≤ w ∧ w < 16777216) → ∀ (acc : List Int) (lc : Int), ∃ lc', (ws.flatMap oct3).foldl b2aStep (acc, 0, lc) = (acc ++ (ws.flatMap sext).map sgn, 0, lc')
  | [], _, acc, lc => ⟨lc, by simp⟩
  | w :: ws, h, acc, lc => by
    obtain ⟨lc', e⟩ := b2a_words (fun w hw => h w (.tail _ hw)) (acc ++ (sext w).map sgn) (w % 65536)
    refine ⟨lc', ?_⟩
    rw [List.flatMap_cons, List.foldl_append, b2a_word (h w (.head _)), e, List.flatMap_cons, List.map_append, List.append_assoc]
theorem sext_rng {ws : List Int} (h : ∀ w ∈ ws, 0 ≤ w ∧ w < 16777216) : ∀ f ∈ ws.flatMap sext, 0 ≤ f ∧ f < 64 := fun f hf => by
  obtain ⟨w, hw, hf⟩ := List.mem_flatMap.mp hf
  have := h w hw
  simp only [sext, List.mem_cons, List.not_mem_nil, or_false] at hf
  omega
theorem sext_len (ws : List Int) : (ws.flatMap sext).length = 4 * ws.length := by
  induction ws with
  | nil => rfl
  | cons a r ih => rw [List.flatMap_cons, List.length_append, ih]; simp [sext]; omega
theorem sgn_back {fs : List Int} (h : ∀ f ∈ fs, 0 ≤ f ∧ f < 64) : (fs.map sgn).map b64v = fs := by
  rw [List.map_map]
  exact (List.map_congr_left fun f hf => (p_sgn (h f hf)).2).trans (List.map_id _)
theorem p_enc {ws : List Int} (h : ∀ w ∈ ws, 0 ≤ w ∧ w < 16777216) : ∃ out lc, b2aF (ws.flatMap oct3) = (out, 0, lc) ∧ out.length = 4 * ws.length ∧ out.map b64v = ws.flatMap sext := by
  obtain ⟨lc, e⟩ := b2a_words h [] 0
  exact ⟨_, lc, e, by rw [List.nil_append, List.length_map, sext_len], by rw [List.nil_append, sgn_back (sext_rng h)]⟩
theorem a2b_0 (acc : List Int) (k : Int) : a2bStep (acc, 0, 0) k = (acc, 1, b64v k) := rfl
theorem a2b_1 (acc : List Int) (c k : Int) : a2bStep (acc, 1, c) k = (acc ++ [c * 4 + b64v k / 16], 2, b64v k % 16) := rfl
theorem a2b_2 (acc : List Int) (c k : Int) : a2bStep (acc, 2, c) k = (acc ++ [c * 16 + b64v k / 4], 3, b64v k % 4) := rfl
theorem a2b_3 (acc : List Int) (c k : Int) : a2bStep (acc, 3, c) k = (acc ++ [c * 64 + b64v k], 0, 0) := rfl
theorem a2b_word {w : Int} (h : 0 ≤ w ∧ w < 16777216) (acc : List Int) : ((sext w).map sgn).foldl a2bStep (acc, 0, 0) = (acc ++ oct3 w, 0, 0) := by
  rw [oct3_div, sext, List.map_cons, List.map_cons, List.map_cons, List.map_cons, List.map_nil, List.foldl_cons, List.foldl_cons, List.foldl_cons, List.foldl_cons, List.foldl_nil, a2b_0, a2b_1, a2b_2, a2b_3]
  rw [(p_sgn (k := w / 262144) (by omega)).2, (p_sgn (k := w / 4096 % 64) (by omega)).2, (p_sgn (k := w / 64 % 64) (by omega)).2, (p_sgn (k := w % 64) (by omega)).2]
  have e1 : w / 262144 * 4 + w / 4096 % 64 / 16 = w / 65536 := by omega
  have e2 : w / 4096 % 64 % 16 * 16 + w / 64 % 64 / 4 = w / 256 % 256 := by omega
  have e3 : w / 64 % 64 % 4 * 64 + w % 64 = w % 256 := by omega
  rw [e1, e2, e3]
  simp
theorem a2b_words : ∀ {ws : List Int}, (∀ w ∈ ws, 0 ≤ w ∧ w < 16777216) → ∀ acc : List Int, ((ws.flatMap sext).map sgn).foldl a2bStep (acc, 0, 0) = (acc ++ ws.flatMap oct3, 0, 0)
  | [], _, acc => by simp
  | w :: ws, h, acc => by
    rw [List.flatMap_cons, List.map_append, List.foldl_append, a2b_word (h w (.head _)), a2b_words (fun w hw => h w (.tail _ hw)), List.flatMap_cons, List.append_assoc]
theorem p_dec {ws : List Int} (h : ∀ w ∈ ws, 0 ≤ w ∧ w < 16777216) : a2bF ((ws.flatMap sext).map sgn) = (ws.flatMap oct3, 0, 0) ∧ (∀ f ∈ ws.flatMap sext, 0 ≤ f ∧ f < 64) :=
  ⟨a2b_words h [], sext_rng h⟩
end
section
def maskW (w : Int) (ps : List Int) : Int := ps.foldl (fun a p => Builtin.bitXor a (2 ^ p.toNat)) w
theorem join_cps (fs : List Int) : (Txt.join (Str.ofString "") (fs.map pageS)).cps.toList = fs.map fun f => (sgn f).toNat := by
  show (Builtin.Str.glued (Str.ofString "") _).cps.toList = _
  rw [StrLaws.glued_eq_join, show Str.ofString "" = ⟨#[]⟩ from rfl]
  induction fs with
  | nil => rfl
  | cons f r ih =>
    rw [List.map_cons, PyProof.Rows.join_nil_cons, List.map_cons, ← ih]
    show ((pageS f).cps ++ _).toList = _
    rw [Array.toList_append]
    rfl
theorem sgn_small {f : Int} (h : 0 ≤ f ∧ f < 64) : 0 ≤ sgn f ∧ sgn f < 128 := by
  have : ∀ k : Fin 64, 0 ≤ sgn (k.val : Int) ∧ sgn (k.val : Int) < 128 := by decide +kernel
  have z := this ⟨f.toNat, by omega⟩
  simp only [Int.toNat_of_nonneg h.1] at z
  exact z
theorem p_str {fs : List Int} (h : ∀ f ∈ fs, 0 ≤ f ∧ f < 64) : KBw.bInts (encA (Txt.join (Str.ofString "") (fs.map pageS))) = fs.map sgn ∧ (∀ c ∈ (Txt.join (Str.ofString "") (fs.map pageS)).cps, c < 128) ∧ (Txt.join (Str.ofString "") (fs.map pageS)).cps.size = fs.length := by
  have e := join_cps fs
  generalize Txt.join (Str.ofString "") (fs.map pageS) = S at *
  refine ⟨?_, fun c hc => ?_, ?_⟩
  · unfold KBw.bInts encA
    rw [Array.toList_map, e, List.map_map, List.map_map]
    refine List.map_congr_left fun f hf => ?_
    have z := sgn_small (h f hf)
    show (((sgn f).toNat.toUInt8.toNat : Nat) : Int) = sgn f
    rw [show (sgn f).toNat.toUInt8.toNat = (sgn f).toNat % 256 from rfl]
    omega
  · have hc' : c ∈ S.cps.toList := Array.mem_toList_iff.mpr hc
    rw [e] at hc'
    obtain ⟨f, hf, rfl⟩ := List.mem_map.mp hc'
    have z := sgn_small (h f hf)
    omega
  · rw [← Array.length_toList, e, List.length_map]
theorem dig_xor (d n m : Nat) : (n ^^^ m) / 2 ^ d % 2 ^ 6 = (n / 2 ^ d % 2 ^ 6) ^^^ (m / 2 ^ d % 2 ^ 6) := by
  apply Nat.eq_of_testBit_eq
  intro i
  rw [Nat.testBit_xor, Nat.testBit_mod_two_pow, Nat.testBit_mod_two_pow, Nat.testBit_mod_two_pow, Nat.testBit_div_two_pow, Nat.testBit_div_two_pow, Nat.testBit_div_two_pow, Nat.testBit_xor]
  by_cases h : i < 6 <;> simp [h]
theorem sext_nat {n : Nat} (h : n < 16777216) : sext (n : Int) = [((n / 2 ^ 18 % 2 ^ 6 : Nat) : Int), ((n / 2 ^ 12 % 2 ^ 6 : Nat) : Int), ((n / 2 ^ 6 % 2 ^ 6 : Nat) : Int), ((n / 2 ^ 0 % 2 ^ 6 : Nat) : Int)] := by
  have e1 : (n : Int) / 262144 = ((n / 2 ^ 18 % 2 ^ 6 : Nat) : Int) := by omega
  have e2 : (n : Int) / 4096 % 64 = ((n / 2 ^ 12 % 2 ^ 6 : Nat) : Int) := by omega
  have e3 : (n : Int) / 64 % 64 = ((n / 2 ^ 6 % 2 ^ 6 : Nat) : Int) := by omega
  have e4 : (n : Int) % 64 = ((n / 2 ^ 0 % 2 ^ 6 : Nat) : Int) := by omega
  rw [sext, e1, e2, e3, e4]
theorem two_int (k : Nat) : (2 : Int) ^ k = ((2 ^ k : Nat) : Int) := by simp
theorem dig_two : ∀ (q : Fin 4) (r : Fin 6), 2 ^ (6 * q.val + r.val) / 2 ^ 18 % 2 ^ 6 = (if q.val = 3 then 2 ^ r.val else 0) ∧ 2 ^ (6 * q.val + r.val) / 2 ^ 12 % 2 ^ 6 = (if q.val = 2 then 2 ^ r.val else 0) ∧ 2 ^ (6 * q.val + r.val) / 2 ^ 6 % 2 ^ 6 = (if q.val = 1 then 2 ^ r.val else 0) ∧ 2 ^ (6 * q.val + r.val) / 2 ^ 0 % 2 ^ 6 = (if q.val = 0 then 2 ^ r.val else 0) := by decide
theorem xor24 {n p : Nat} (hn : n < 16777216) (hp : p < 24) : n ^^^ 2 ^ p < 16777216 :=
  Nat.xor_lt_two_pow (n := 24) hn (Nat.pow_lt_pow_right (by decide) hp)
theorem set_at (A B : List Int) (j : Nat) (v : Int) : (A ++ B).set (A.length + j) v = A ++ B.set j v := by
  rw [List.set_append_right _ _ (Nat.le_add_right _ _), Nat.add_sub_cancel_left]
theorem getD_at (A B : List Int) (j : Nat) : (A ++ B).getD (A.length + j) 0 = B.getD j 0 := by
  rw [List.getD_eq_getElem?_getD, List.getElem?_append_right (Nat.le_add_right _ _), Nat.add_sub_cancel_left, List.getD_eq_getElem?_getD]
theorem turn_one {A C : List Int} {i n : Nat} (hA : A.length = 4 * i) (hn : n < 16777216) {p : Int} (hp : 0 ≤ p ∧ p < 24) :
    (A ++ (sext n ++ C)).set ((4 * (i : Int) + 3 - p.fdiv 6).toNat) (Builtin.bitXor ((A ++ (sext n ++ C)).getD (4 * (i : Int) + 3 - p.fdiv 6).toNat 0) (2 ^ (p.fmod 6).toNat)) = A ++ (sext ((n ^^^ 2 ^ p.toNat : Nat) : Int) ++ C) := by
  obtain ⟨q, r, hq, hr, rfl⟩ : ∃ q r : Nat, q < 4 ∧ r < 6 ∧ p = ((6 * q + r : Nat) : Int) := ⟨p.toNat / 6, p.toNat % 6, by omega, by omega, by omega⟩
  have e1 : (((6 * q + r : Nat) : Int)).fdiv 6 = q := by rw [Int.fdiv_eq_ediv_of_nonneg _ (by decide)]; omega
  have e2 : ((((6 * q + r : Nat) : Int)).fmod 6).toNat = r := by rw [Int.fmod_eq_emod_of_nonneg _ (by decide)]; omega
  have e3 : (4 * (i : Int) + 3 - (q : Int)).toNat = A.length + (3 - q) := by omega
  rw [e1, e2, e3, set_at, getD_at, Int.toNat_natCast, two_int]
  have hd := dig_two ⟨q, hq⟩ ⟨r, hr⟩
  (try dsimp only at hd)
  rw [sext_nat hn, sext_nat (xor24 hn (by omega)), dig_xor, dig_xor, dig_xor, dig_xor, hd.1, hd.2.1, hd.2.2.1, hd.2.2.2]
  congr 1
  have : q = 0 ∨ q = 1 ∨ q = 2 ∨ q = 3 := by omega
  rcases this with rfl | rfl | rfl | rfl
  all_goals simp only [xor_nat, List.cons_append, List.nil_append, List.getD_cons_zero, List.getD_cons_succ, List.set_cons_zero, List.set_cons_succ, Nat.sub_self, Nat.sub_zero, Nat.xor_zero, if_true, Nat.reduceEqDiff, Nat.reduceSub, if_false]
  all_goals simp
theorem mask_nat {n : Nat} (hn : n < 16777216) : ∀ {ps : List Int}, (∀ p ∈ ps, 0 ≤ p ∧ p < 24) → ∃ k : Nat, maskW n ps = (k : Int) ∧ k < 16777216
  | [], _ => ⟨n, rfl, hn⟩
  | p :: ps, h => by
    have hp := h p (.head _)
    obtain ⟨k, e, hk⟩ := mask_nat (xor24 hn (p := p.toNat) (by omega)) (fun q hq => h q (.tail _ hq))
    refine ⟨k, ?_, hk⟩
    rw [← e, maskW, List.foldl_cons, two_int, xor_nat]; rfl
theorem turn_word {A C : List Int} {i : Nat} (hA : A.length = 4 * i) : ∀ {ps : List Int} {n : Nat}, n < 16777216 → (∀ p ∈ ps, 0 ≤ p ∧ p < 24) → turnF (A ++ (sext n ++ C)) i ps = A ++ (sext (maskW n ps) ++ C)
  | [], n, _, _ => rfl
  | p :: ps, n, hn, h => by
    have hp := h p (.head _)
    have ih := turn_word hA (C := C) (xor24 hn (p := p.toNat) (by omega)) (fun q hq => h q (.tail _ hq))
    unfold turnF at ih ⊢
    rw [List.foldl_cons, turn_one hA hn hp, ih, maskW, maskW, List.foldl_cons, two_int, xor_nat]
theorem p_page {ws : List Int} {ts : List (List Int)} (h : ∀ w ∈ ws, 0 ≤ w ∧ w < 16777216) (hl : ts.length = ws.length) (hp : ∀ ps ∈ ts, ∀ p ∈ ps, 0 ≤ p ∧ p < 24) : pageF (ws.flatMap sext) ts ws.length = (List.zipWith maskW ws ts).flatMap sext ∧ ∀ w ∈ List.zipWith maskW ws ts, 0 ≤ w ∧ w < 16777216 := by
  obtain ⟨l, hL⟩ : ∃ l, l = List.zipWith maskW ws ts := ⟨_, rfl⟩
  have hll : l.length = ws.length := by rw [hL, List.length_zipWith, hl, Nat.min_self]
  have hat : ∀ k (hk : k < ws.length), l[k]? = some (maskW ws[k] (ts.getD k [])) := fun k hk => by
    rw [hL, List.getD_eq_getElem?_getD, List.getElem?_eq_getElem (l := ts) (i := k) (by omega)]
    simp [hk, hl]
  have hgt : ∀ k, k < ws.length → ∀ p ∈ ts.getD k [], 0 ≤ p ∧ p < 24 := fun k hk => by
    rw [List.getD_eq_getElem?_getD, List.getElem?_eq_getElem (by omega)]
    exact hp _ (List.getElem_mem _)
  have hnat : ∀ k (hk : k < ws.length), ∃ n : Nat, ws[k] = (n : Int) ∧ n < 16777216 := fun k hk => by
    have := h _ (List.getElem_mem hk)
    exact ⟨ws[k].toNat, by omega, by omega⟩
  rw [← hL]
  constructor
  · have key : ∀ k, k ≤ ws.length → (List.range k).foldl (fun fs j => turnF fs j (ts.getD j [])) (ws.flatMap sext) = (l.take k).flatMap sext ++ (ws.drop k).flatMap sext := by
      intro k
      induction k with
      | zero => intro _; simp
      | succ k ih =>
        intro hk
        obtain ⟨n, en, hn⟩ := hnat k hk
        rw [List.range_succ, List.foldl_append, ih (by omega), List.foldl_cons, List.foldl_nil, List.drop_eq_getElem_cons hk, List.flatMap_cons, en,
          turn_word (i := k) (by rw [sext_len, List.length_take]; omega) hn (hgt k hk), take_at (hat k hk), List.flatMap_append, en]
        simp
    have z := key ws.length (Nat.le_refl _)
    rw [List.drop_length, List.take_of_length_le (by omega)] at z
    simpa [pageF] using z
  · intro w hw
    obtain ⟨k, hk, e⟩ := List.getElem_of_mem hw
    have hk' : k < ws.length := by omega
    have z := hat k hk'
    rw [List.getElem?_eq_getElem hk, e] at z
    obtain ⟨n, en, hn⟩ := hnat k hk'
    obtain ⟨m, em, hm⟩ := mask_nat hn (hgt k hk')
    rw [en, em] at z
    have := Option.some.inj z
    omega
end
section
def rowsN : List Nat := [2619, 3357, 3726, 2887, 3491, 3793, 3944, 2996, 2522, 2285, 3190, 2047]
def tS : List Nat → Nat → Nat
  | [], _ => 0
  | k :: l, m => (if m.testBit k then rowsN.getD k 0 else 0) ^^^ tS l m
def tN (m : Nat) : Nat := tS (List.range 12) m
theorem rowsL_nat (k : Nat) : rowsL.getD k 0 = ((rowsN.getD k 0 : Nat) : Int) := by
  by_cases h : k < 12
  · have : ∀ k : Fin 12, rowsL.getD k.val 0 = ((rowsN.getD k.val 0 : Nat) : Int) := by decide
    exact this ⟨k, h⟩
  · have h1 : rowsL.length = 12 := rfl
    have h2 : rowsN.length = 12 := rfl
    rw [List.getD_eq_getElem?_getD, List.getD_eq_getElem?_getD, List.getElem?_eq_none (by omega), List.getElem?_eq_none (by omega)]
    rfl
theorem rowsN_lt (k : Nat) : rowsN.getD k 0 < 4096 := by
  by_cases h : k < 12
  · have : ∀ k : Fin 12, rowsN.getD k.val 0 < 4096 := by decide
    exact this ⟨k, h⟩
  · have h2 : rowsN.length = 12 := rfl
    rw [List.getD_eq_getElem?_getD, List.getElem?_eq_none (by omega)]
    decide
theorem bitB_nat (m k : Nat) : bitB (m : Int) (k : Int) = m.testBit k := by
  unfold bitB
  have e1 : (m : Int).fdiv (2 ^ (k : Int).toNat) = ((m / 2 ^ k : Nat) : Int) := by
    rw [Int.toNat_natCast, Int.fdiv_eq_ediv_of_nonneg _ (Int.le_of_lt (Int.pow_pos (by decide)))]
    simp
  rw [e1, Int.fmod_eq_emod_of_nonneg _ (by decide), Nat.testBit_eq_decide_div_mod_eq]
  have e2 : ((m / 2 ^ k : Nat) : Int) % 2 = ((m / 2 ^ k % 2 : Nat) : Int) := by simp
  rw [e2]
  by_cases h : m / 2 ^ k % 2 = 1
  · simp [h]
  · have h0 : m / 2 ^ k % 2 = 0 := by omega
    simp [h0]
theorem fold_nat (m : Nat) : ∀ (l : List Nat) (a : Nat), (l.map fun k : Nat => (k : Int)).foldl (fun a k => if bitB m k then Builtin.bitXor a (rowsL.getD k.toNat 0) else a) (a : Int) = ((a ^^^ tS l m : Nat) : Int)
  | [], a => by simp [tS]
  | k :: l, a => by
    rw [List.map_cons, List.foldl_cons, bitB_nat, Int.toNat_natCast, rowsL_nat, tS]
    by_cases h : m.testBit k
    · rw [if_pos h, if_pos h, xor_nat, fold_nat m l, Nat.xor_assoc]
    · rw [if_neg h, if_neg h, fold_nat m l, Nat.zero_xor]
theorem rangeKs_nat (n : Nat) : rangeKs 0 n = (List.range n).map fun k : Nat => (k : Int) := by simp [rangeKs]
theorem timesL_nat (m : Nat) : timesL (m : Int) rowsL (rangeKs 0 12) = (tN m : Int) := by
  unfold timesL
  rw [rangeKs_nat]
  have := fold_nat m (List.range 12) 0
  rw [Nat.zero_xor] at this
  exact this
theorem tS_lt (m : Nat) : ∀ l, tS l m < 4096
  | [] => (by decide : (0 : Nat) < 4096)
  | k :: l => by
    refine Nat.xor_lt_two_pow (n := 12) ?_ (tS_lt m l)
    split
    · exact rowsN_lt k
    · decide
theorem timesL_rng {m : Int} (h : 0 ≤ m) : 0 ≤ timesL m rowsL (rangeKs 0 12) ∧ timesL m rowsL (rangeKs 0 12) < 4096 := by
  obtain ⟨n, rfl⟩ := Int.eq_ofNat_of_zero_le h
  rw [timesL_nat]
  have := tS_lt n (List.range 12)
  have e : tN n = tS (List.range 12) n := rfl
  omega
def wordF (x : Int) : Int := x.fmod 4096 + 4096 * timesL (x.fmod 4096) rowsL (rangeKs 0 12)
theorem mod_rng (x : Int) : 0 ≤ x.fmod 4096 ∧ x.fmod 4096 < 4096 := ⟨Int.fmod_nonneg_of_pos x (by decide), Int.fmod_lt_of_pos x (by decide)⟩
theorem wordF_rng (x : Int) : 0 ≤ wordF x ∧ wordF x < 16777216 := by
  have h1 := mod_rng x
  have h2 := timesL_rng h1.1
  unfold wordF
  omega
/-- what a word gives back -/
def backF (x : Int) : Option Int := if (turnedN (x.fdiv 4096) 4).length < 4 then some (wordF x) else none
end
section
theorem xor_two (r A B : Nat) : A ^^^ B = (r ^^^ A) ^^^ (r ^^^ B) := by
  apply Nat.eq_of_testBit_eq
  intro i
  simp only [Nat.testBit_xor]
  cases r.testBit i <;> cases A.testBit i <;> cases B.testBit i <;> rfl
theorem xor_mid (A B C D : Nat) : (A ^^^ B) ^^^ (C ^^^ D) = (A ^^^ C) ^^^ (B ^^^ D) := by
  apply Nat.eq_of_testBit_eq
  intro i
  simp only [Nat.testBit_xor]
  cases A.testBit i <;> cases A.testBit i <;> cases B.testBit i <;> cases C.testBit i <;> cases D.testBit i <;> rfl
theorem xor_back (A B : Nat) : A ^^^ (A ^^^ B) = B := by rw [← Nat.xor_assoc, Nat.xor_self, Nat.zero_xor]
theorem xor_eq0 {A B : Nat} (h : A ^^^ B = 0) : A = B := by
  have := xor_back A B
  rw [h, Nat.xor_zero] at this; exact this
theorem tS_xor (a b : Nat) : ∀ l, tS l (a ^^^ b) = tS l a ^^^ tS l b
  | [] => (Nat.xor_self 0).symm
  | k :: l => by
    rw [tS, tS, tS, tS_xor a b l, Nat.testBit_xor]
    generalize rowsN.getD k 0 = r
    have e : ∀ p q : Bool, (if (p ^^ q) = true then r else 0) = (if p = true then r else 0) ^^^ (if q = true then r else 0) := by
      intro p q
      cases p <;> cases q <;> simp
    rw [e, xor_mid]
theorem tN_xor (a b : Nat) : tN (a ^^^ b) = tN a ^^^ tN b := tS_xor a b _
def pc : Nat → Nat → Nat
  | 0, _ => 0
  | n + 1, v => v % 2 + pc n (v / 2)
def tR : List Nat → Nat → Nat
  | [], _ => 0
  | r :: rs, m => (if m % 2 = 1 then r else 0) ^^^ tR rs (m / 2)
theorem tN_tR (m : Nat) : tN m = tR rowsN m := by
  have b : ∀ k, (m / 2 ^ k % 2 = 1) ↔ m.testBit k = true := fun k => by rw [Nat.testBit_eq_decide_div_mod_eq, decide_eq_true_iff]
  have d : ∀ k, m / 2 ^ k / 2 = m / 2 ^ (k + 1) := fun k => by rw [Nat.div_div_eq_div_mul, Nat.pow_succ]
  have z : m = m / 2 ^ 0 := by simp
  have e : ∀ k r, (if m.testBit k = true then r else 0) = if m / 2 ^ k % 2 = 1 then r else 0 := fun k r => by
    by_cases h : m.testBit k = true
    · rw [if_pos h, if_pos ((b k).mpr h)]
    · rw [if_neg h, if_neg (fun q => h ((b k).mp q))]
  rw [z]
  show _ = tR [2619, 3357, 3726, 2887, 3491, 3793, 3944, 2996, 2522, 2285, 3190, 2047] _
  simp only [tR, d, ← e]
  rw [← z]
  rfl
theorem tN_zero : tN 0 = 0 := by decide
/-- the same with the powers in the rows' stead -/
def tI : List Nat → Nat → Nat
  | [], _ => 0
  | k :: l, m => (if m.testBit k then 2 ^ k else 0) ^^^ tI l m
theorem rows_back : ∀ k : Fin 12, tN (rowsN.getD k.val 0) = 2 ^ k.val := by decide +kernel
theorem tN_tS (m : Nat) : ∀ l, (∀ k ∈ l, k < 12) → tN (tS l m) = tI l m
  | [], _ => tN_zero
  | k :: l, h => by
    have hk := rows_back ⟨k, h k (.head _)⟩
    (try dsimp only at hk)
    rw [tS, tI, tN_xor, tN_tS m l fun q hq => h q (.tail _ hq)]
    by_cases hb : m.testBit k = true
    · rw [if_pos hb, if_pos hb, hk]
    · rw [if_neg hb, if_neg hb, tN_zero]
theorem tI_bit (m j : Nat) : ∀ l : List Nat, l.Nodup → (tI l m).testBit j = (decide (j ∈ l) && m.testBit j)
  | [], _ => by simp [tI]
  | k :: l, h => by
    have ih := tI_bit m j l (List.nodup_cons.mp h).2
    have hn := (List.nodup_cons.mp h).1
    rw [tI, Nat.testBit_xor, ih]
    by_cases e : j = k
    · subst e
      cases hb : m.testBit j <;> simp [hn, Nat.testBit_two_pow]
    · have e2 : ¬ k = j := fun h => e h.symm
      cases hb : m.testBit k <;> simp [e, e2, Nat.testBit_two_pow]
theorem tN_inv {m : Nat} (h : m < 4096) : tN (tN m) = m := by
  refine (tN_tS m (List.range 12) fun k hk => List.mem_range.mp hk).trans ?_
  apply Nat.eq_of_testBit_eq; intro j
  rw [tI_bit m j _ List.nodup_range]
  by_cases hj : j < 12
  · rw [decide_eq_true (List.mem_range.mpr hj), Bool.true_and]
  · have : m < 2 ^ j := Nat.lt_of_lt_of_le h (Nat.pow_le_pow_right (n := 2) (i := 12) (by decide) (by omega))
    rw [Nat.testBit_lt_two_pow this, Bool.and_false]
theorem pc_none : ∀ {n v : Nat}, v < 2 ^ n → pc n v = 0 → v = 0
  | 0, v, h, _ => by simpa using h
  | n + 1, v, h, hp => by
    rw [pc] at hp
    have := pc_none (n := n) (v := v / 2) (by rw [Nat.pow_succ] at h; omega) (by omega)
    omega
theorem pc_single : ∀ {n v : Nat}, v < 2 ^ n → pc n v ≤ 1 → v = 0 ∨ ∃ i, i < n ∧ v = 2 ^ i
  | 0, v, h, _ => .inl (by simpa using h)
  | n + 1, v, h, hp => by
    rw [pc] at hp
    have hv : v / 2 < 2 ^ n := by rw [Nat.pow_succ] at h; omega
    rcases Nat.mod_two_eq_zero_or_one v with e | e
    · rcases pc_single hv (by omega) with h0 | ⟨i, hi, h0⟩
      · exact .inl (by omega)
      · exact .inr ⟨i + 1, by omega, by rw [Nat.pow_succ]; omega⟩
    · have := pc_none hv (by omega)
      exact .inr ⟨0, by omega, by rw [Nat.pow_zero]; omega⟩
/-- all sums of at most three rows, told apart -/
def farB : List Nat → Nat → Nat → Bool
  | [], t, w => Nat.ble 8 (w + pc 12 t) || Nat.beq w 0
  | r :: rs, t, w => farB rs t w && (Nat.ble 3 w || farB rs (t ^^^ r) (w + 1))
theorem farB_is : ∀ {rs : List Nat} {t w m : Nat}, farB rs t w = true → w + pc rs.length m ≤ 3 → w + pc rs.length m = 0 ∨ 8 ≤ w + pc rs.length m + pc 12 (t ^^^ tR rs m)
  | [], t, w, m, h, _ => by
    rw [farB, Bool.or_eq_true] at h
    rw [show tR [] m = 0 from rfl, Nat.xor_zero, show pc ([] : List Nat).length m = 0 from rfl, Nat.add_zero]
    exact h.elim (fun h => .inr (Nat.le_of_ble_eq_true h)) (fun h => .inl (Nat.eq_of_beq_eq_true h))
  | r :: rs, t, w, m, h, hw => by
    rw [farB, Bool.and_eq_true, Bool.or_eq_true] at h
    rw [List.length_cons, pc] at hw ⊢
    rw [tR]
    rcases Nat.mod_two_eq_zero_or_one m with e | e
    · have ih := farB_is (m := m / 2) h.1 (by omega)
      rw [e, if_neg (by decide), Nat.zero_xor, Nat.zero_add]
      exact ih
    · have h2 := h.2.elim (fun h => absurd (Nat.le_of_ble_eq_true h) (by omega)) id
      have ih := farB_is (m := m / 2) h2 (by omega)
      rw [e, if_pos rfl, ← Nat.xor_assoc]
      omega
theorem far_all : farB rowsN 0 0 = true := by decide +kernel
theorem far_is {m : Nat} (hp : pc 12 m ≤ 3) : pc 12 m = 0 ∨ 8 ≤ pc 12 m + pc 12 (tN m) := by
  have z := farB_is (m := m) far_all (by rw [Nat.zero_add]; exact hp)
  rw [Nat.zero_add, Nat.zero_xor, ← tN_tR] at z
  exact z
end
section
theorem tN_lt (m : Nat) : tN m < 4096 := tS_lt m _
theorem tN_far {m : Nat} (h : m < 4096) (h0 : m ≠ 0) : 8 ≤ pc 12 m + pc 12 (tN m) := by
  by_cases h1 : pc 12 m ≤ 3
  · exact (far_is h1).elim (fun e => absurd (pc_none (n := 12) h e) h0) id
  · by_cases h2 : pc 12 (tN m) ≤ 3
    · have z := far_is h2
      rw [tN_inv h] at z
      refine z.elim (fun e => ?_) (fun z => by omega)
      have := pc_none (n := 12) (tN_lt m) e
      have e2 := tN_inv h
      rw [this, tN_zero] at e2
      exact absurd e2.symm h0
    · omega
theorem one_bit {m : Nat} (h : m < 4096) (hw : pc 12 m ≤ 1) : m = 0 ∨ ∃ i, i < 12 ∧ m = 2 ^ i := pc_single (n := 12) h hw
/-- the weight over places -/
def cnt : List Nat → Nat → Nat
  | [], _ => 0
  | k :: l, z => (z.testBit k).toNat + cnt l z
theorem cnt_len (z : Nat) : ∀ l : List Nat, (l.filter fun k => z.testBit k).length = cnt l z
  | [] => rfl
  | k :: l => by
    have ih := cnt_len z l
    rw [List.filter_cons, cnt]
    cases z.testBit k
    · simp [ih]
    · simp [ih]; omega
theorem cnt_xor (a b : Nat) : ∀ l, cnt l (a ^^^ b) ≤ cnt l a + cnt l b
  | [] => Nat.le_refl _
  | k :: l => by
    have ih := cnt_xor a b l
    rw [cnt, cnt, cnt, Nat.testBit_xor]
    cases a.testBit k <;> cases b.testBit k <;> simp <;> omega
theorem cnt_set {p : Nat} {y : Nat} (hy : y.testBit p = false) : ∀ l, cnt l (2 ^ p ^^^ y) = cnt l y + l.count p
  | [] => rfl
  | k :: l => by
    have ih := cnt_set hy l
    rw [cnt, cnt, ih, Nat.testBit_xor, Nat.testBit_two_pow, List.count_cons]
    by_cases h : p = k
    · subst h; simp [hy]; omega
    · have h2 : ¬ k = p := fun e => h e.symm
      simp [h, h2]; omega
theorem cnt_map (z : Nat) (f : Nat → Nat) (y : Nat) (h : ∀ k, z.testBit (f k) = y.testBit k) : ∀ l, cnt (l.map f) z = cnt l y
  | [] => rfl
  | k :: l => by rw [List.map_cons, cnt, cnt, h, cnt_map z f y h l]
theorem cnt_app (z : Nat) (b : List Nat) : ∀ a, cnt (a ++ b) z = cnt a z + cnt b z
  | [] => by rw [List.nil_append, cnt, Nat.zero_add]
  | k :: a => by rw [List.cons_append, cnt, cnt, cnt_app z b a, Nat.add_assoc]
theorem cnt_congr {y z : Nat} : ∀ {l : List Nat}, (∀ k ∈ l, y.testBit k = z.testBit k) → cnt l y = cnt l z
  | [], _ => rfl
  | k :: l, h => by rw [cnt, cnt, h k (.head _), cnt_congr fun k hk => h k (.tail _ hk)]
theorem cnt_pc : ∀ n z, cnt (List.range n) z = pc n z
  | 0, _ => rfl
  | n + 1, z => by
    rw [pc, ← cnt_pc n (z / 2), List.range_succ_eq_map, cnt, cnt_map z Nat.succ (z / 2) (fun k => by rw [Nat.testBit_succ])]
    congr 1
    rw [Nat.testBit_zero]
    rcases Nat.mod_two_eq_zero_or_one z with h | h <;> rw [h] <;> rfl
theorem wt_split (z : Nat) : cnt (List.range 24) z = pc 12 (z % 4096) + pc 12 (z / 4096) := by
  rw [show List.range 24 = List.range 12 ++ (List.range 12).map (12 + ·) from by decide, cnt_app, cnt_map z (12 + ·) (z / 4096) (fun k => by rw [show 4096 = 2 ^ 12 from rfl, Nat.testBit_div_two_pow, Nat.add_comm]), ← cnt_pc, ← cnt_pc]
  congr 1
  refine cnt_congr fun k hk => ?_
  rw [show 4096 = 2 ^ 12 from rfl, Nat.testBit_mod_two_pow]
  simp [List.mem_range.mp hk]
theorem lo_xor (y z : Nat) : (y ^^^ z) % 4096 = (y % 4096) ^^^ (z % 4096) := by
  have := Nat.xor_mod_two_pow (a := y) (b := z) (n := 12); simpa using this
theorem hi_xor (y z : Nat) : (y ^^^ z) / 4096 = (y / 4096) ^^^ (z / 4096) := by
  apply Nat.eq_of_testBit_eq; intro i
  rw [show 4096 = 2 ^ 12 from rfl]
  simp only [Nat.testBit_div_two_pow, Nat.testBit_xor]
/-- the syndrome -/
def syn (z : Nat) : Nat := (z % 4096) ^^^ tN (z / 4096)
theorem syn_xor (y z : Nat) : syn (y ^^^ z) = syn y ^^^ syn z := by
  rw [syn, syn, syn, lo_xor, hi_xor, tN_xor, xor_mid]
theorem syn_at {a b : Nat} (ha : a < 4096) : syn (a + 4096 * b) = a ^^^ tN b := by
  rw [syn, show (a + 4096 * b) % 4096 = a from by omega, show (a + 4096 * b) / 4096 = b from by omega]
theorem code_far {d : Nat} (hd : d < 16777216) (hs : syn d = 0) (hw : cnt (List.range 24) d < 8) : d = 0 := by
  have e := xor_eq0 hs
  have h1 : d % 4096 < 4096 := Nat.mod_lt _ (by decide)
  have h2 : d / 4096 < 4096 := by omega
  have e2 : d / 4096 = tN (d % 4096) := by rw [e, tN_inv h2]
  rw [wt_split, e2] at hw
  by_cases h0 : d % 4096 = 0
  · rw [h0, tN_zero] at e2; omega
  · have := tN_far h1 h0; omega
theorem near {y z : Nat} (hy : y < 16777216) (hz : z < 16777216) (hs : syn y = syn z) (h1 : cnt (List.range 24) y < 4) (h2 : cnt (List.range 24) z ≤ 4) : y = z := by
  refine xor_eq0 (code_far (Nat.xor_lt_two_pow (n := 24) hy hz) (by rw [syn_xor, hs, Nat.xor_self]) ?_)
  have := cnt_xor y z (List.range 24)
  omega
end
section
theorem tN_two {k : Nat} (h : k < 12) : tN (2 ^ k) = rowsN.getD k 0 := by
  have : ∀ k : Fin 12, tN (2 ^ k.val) = rowsN.getD k.val 0 := by decide +kernel
  exact this ⟨k, h⟩
theorem two_lt {k n : Nat} (h : k < n) : 2 ^ k < 2 ^ n := Nat.pow_lt_pow_right (by decide) h
theorem tN_row {k : Nat} (h : k < 12) : tN (rowsN.getD k 0) = 2 ^ k := by
  rw [← tN_two h, tN_inv (two_lt h)]
/-- the 26 words, as naturals -/
def triesN (g : Nat) (n : Nat) : List Nat := [g, 4096 * tN g] ++ (List.range n).flatMap fun k => [(g ^^^ rowsN.getD k 0) + 4096 * 2 ^ k, 2 ^ k + 4096 * (tN g ^^^ rowsN.getD k 0)]
theorem xor12 {a b : Nat} (ha : a < 4096) (hb : b < 4096) : a ^^^ b < 4096 := Nat.xor_lt_two_pow (n := 12) ha hb
theorem tries_mem {g z : Nat} : z ∈ triesN g 12 ↔ z = g ∨ z = 4096 * tN g ∨ ∃ k, k < 12 ∧ (z = (g ^^^ rowsN.getD k 0) + 4096 * 2 ^ k ∨ z = 2 ^ k + 4096 * (tN g ^^^ rowsN.getD k 0)) := by
  simp only [triesN, List.mem_append, List.mem_cons, List.not_mem_nil, or_false, List.mem_flatMap, List.mem_range, or_assoc]
theorem tries_syn {g z : Nat} (hg : g < 4096) (h : z ∈ triesN g 12) : z < 16777216 ∧ syn z = g := by
  rcases tries_mem.mp h with rfl | rfl | ⟨k, hk, rfl | rfl⟩
  · refine ⟨by omega, ?_⟩
    have := syn_at (b := 0) hg
    simpa [tN_zero] using this
  · have := tN_lt g
    refine ⟨by omega, ?_⟩
    have := syn_at (a := 0) (b := tN g) (by decide)
    rw [Nat.zero_add, Nat.zero_xor, tN_inv hg] at this
    exact this
  · have h1 := two_lt hk
    have h2 : g ^^^ rowsN.getD k 0 < 4096 := by rw [← tN_two hk]; exact xor12 hg (tN_lt _)
    refine ⟨by omega, ?_⟩
    rw [syn_at h2, tN_two hk, Nat.xor_assoc, Nat.xor_self, Nat.xor_zero]
  · have h1 := two_lt hk
    have h2 : tN g ^^^ rowsN.getD k 0 < 4096 := by rw [← tN_two hk]; exact xor12 (tN_lt _) (tN_lt _)
    refine ⟨by omega, ?_⟩
    rw [syn_at h1, tN_xor, tN_inv hg, tN_row hk, Nat.xor_comm g, xor_back]
theorem tries_all {z : Nat} (hz : z < 16777216) (hw : cnt (List.range 24) z < 4) : z ∈ triesN (syn z) 12 := by
  have h1 : z % 4096 < 4096 := Nat.mod_lt _ (by decide)
  have h2 : z / 4096 < 4096 := by omega
  have e0 : z % 4096 + 4096 * (z / 4096) = z := Nat.mod_add_div z 4096
  rw [wt_split] at hw
  have es : syn z = z % 4096 ^^^ tN (z / 4096) := rfl
  have et : tN (syn z) = tN (z % 4096) ^^^ z / 4096 := by rw [es, tN_xor, tN_inv h2]
  refine tries_mem.mpr ?_
  by_cases hh : pc 12 (z / 4096) ≤ 1
  · rcases one_bit h2 hh with h | ⟨k, hk, h⟩
    · rw [es, h, tN_zero, Nat.xor_zero]; exact .inl (by omega)
    · refine .inr (.inr ⟨k, hk, .inl ?_⟩)
      rw [es, h, tN_two hk, Nat.xor_assoc, Nat.xor_self, Nat.xor_zero, ← h]; omega
  · rcases one_bit h1 (by omega) with h | ⟨k, hk, h⟩
    · rw [et, h, tN_zero, Nat.zero_xor]; exact .inr (.inl (by omega))
    · refine .inr (.inr ⟨k, hk, .inr ?_⟩)
      rw [et, h, tN_two hk, Nat.xor_comm, xor_back, ← h]; omega
/-- which of the 26 is taken -/
theorem tries_find {M : Nat} (hM : M < 16777216) (hw : cnt (List.range 24) M ≤ 4) : (triesN (syn M) 12).find? (fun z => decide (cnt (List.range 24) z < 4)) = if cnt (List.range 24) M < 4 then some M else none := by
  have hs : syn M < 4096 := xor12 (Nat.mod_lt _ (by decide)) (tN_lt _)
  have key : ∀ z ∈ triesN (syn M) 12, cnt (List.range 24) z < 4 → z = M := fun z hz h => by
    obtain ⟨h1, h2⟩ := tries_syn hs hz
    exact near h1 hM h2 h hw
  cases hf : (triesN (syn M) 12).find? (fun z => decide (cnt (List.range 24) z < 4)) with
  | none =>
    by_cases h4 : cnt (List.range 24) M < 4
    · have := List.find?_eq_none.mp hf M (tries_all hM h4)
      exact absurd (decide_eq_true h4) this
    · rw [if_neg h4]
  | some z =>
    have h1 := List.mem_of_find?_eq_some hf
    have h2 := List.find?_some hf
    rw [decide_eq_true_iff] at h2
    have e := key z h1 h2
    rw [e] at h2
    rw [if_pos h2, e]
/-- places as a number -/
def mkN : List Int → Nat
  | [] => 0
  | p :: ps => 2 ^ p.toNat ^^^ mkN ps
theorem mkN_bit : ∀ {ps : List Int}, ps.Nodup → (∀ p ∈ ps, 0 ≤ p) → ∀ k : Nat, (mkN ps).testBit k = true ↔ (k : Int) ∈ ps
  | [], _, _, k => by simp [mkN]
  | p :: ps, hn, h0, k => by
    have ih := mkN_bit (List.nodup_cons.mp hn).2 (fun q hq => h0 q (.tail _ hq)) k
    have hp := h0 p (.head _)
    have hnp := (List.nodup_cons.mp hn).1
    rw [mkN, Nat.testBit_xor, Nat.testBit_two_pow, List.mem_cons]
    by_cases h : p.toNat = k
    · have e : (k : Int) = p := by omega
      have : (mkN ps).testBit k = false := by
        cases hb : (mkN ps).testBit k with
        | false => rfl
        | true => rw [hb] at ih; rw [e] at ih; exact absurd (ih.mp rfl) hnp
      simp [h, e, this]
    · have e : ¬ (k : Int) = p := by omega
      simp only [h, e, decide_false, Bool.false_xor, false_or]
      exact ih
theorem mkN_off {p : Int} {ps : List Int} (hn : (p :: ps).Nodup) (h0 : ∀ q ∈ p :: ps, 0 ≤ q) : (mkN ps).testBit p.toNat = false := by
  cases hb : (mkN ps).testBit p.toNat with
  | false => rfl
  | true =>
    have := (mkN_bit (List.nodup_cons.mp hn).2 (fun q hq => h0 q (.tail _ hq)) _).mp hb
    rw [Int.toNat_of_nonneg (h0 p (.head _))] at this
    exact absurd this (List.nodup_cons.mp hn).1
theorem mkN_lt : ∀ {ps : List Int}, (∀ p ∈ ps, 0 ≤ p ∧ p < 24) → mkN ps < 16777216
  | [], _ => by decide
  | p :: ps, h => by
    have := h p (.head _)
    exact Nat.xor_lt_two_pow (n := 24) (two_lt (by omega)) (mkN_lt fun q hq => h q (.tail _ hq))
theorem mkN_cnt : ∀ {ps : List Int}, ps.Nodup → (∀ p ∈ ps, 0 ≤ p ∧ p < 24) → cnt (List.range 24) (mkN ps) = ps.length
  | [], _, _ => by decide
  | p :: ps, hn, h => by
    have hp := h p (.head _)
    have ih := mkN_cnt (List.nodup_cons.mp hn).2 (fun q hq => h q (.tail _ hq))
    have hc : (List.range 24).count p.toNat = 1 := by
      have : ∀ k : Fin 24, (List.range 24).count k.val = 1 := by decide
      exact this ⟨p.toNat, by omega⟩
    rw [mkN, cnt_set (mkN_off hn fun q hq => (h q hq).1), ih, hc, List.length_cons]
theorem two_add {p y : Nat} (h : y.testBit p = false) : 2 ^ p ^^^ y = 2 ^ p + y := by
  have z : 2 ^ p &&& y = 0 := by
    apply Nat.eq_of_testBit_eq; intro i
    rw [Nat.testBit_and, Nat.testBit_two_pow, Nat.zero_testBit]
    by_cases e : p = i
    · subst e; simp [h]
    · simp [e]
  have := nat_xor_and (2 ^ p) (2 ^ p) y (Nat.le_refl _)
  omega
theorem sumP_mk : ∀ {ps : List Int}, ps.Nodup → (∀ p ∈ ps, 0 ≤ p) → sumP ps = (mkN ps : Int)
  | [], _, _ => rfl
  | p :: ps, hn, h0 => by
    have ih := sumP_mk (List.nodup_cons.mp hn).2 (fun q hq => h0 q (.tail _ hq))
    unfold sumP at ih ⊢
    rw [List.map_cons, List.sum_cons, ih, mkN, two_add (mkN_off hn h0), two_int]
    simp
theorem maskW_nat : ∀ {ps : List Int} (n : Nat), maskW n ps = ((n ^^^ mkN ps : Nat) : Int)
  | [], n => by rw [mkN, Nat.xor_zero]; rfl
  | p :: ps, n => by
    have ih := maskW_nat (ps := ps) (n ^^^ 2 ^ p.toNat)
    rw [mkN, ← Nat.xor_assoc, ← ih, maskW, List.foldl_cons, two_int, xor_nat]; rfl
theorem turned_nodup (x : Int) : ∀ i, (turnedN x i).Nodup
  | 0 => List.nodup_nil
  | i + 1 => by
    rw [turnedN]
    split
    · rename_i h
      rw [List.nodup_append]
      refine ⟨turned_nodup x i, List.nodup_cons.mpr ⟨List.not_mem_nil, List.nodup_nil⟩, fun a ha b hb e => ?_⟩
      rw [List.mem_singleton.mp hb] at e
      exact h.2 (e ▸ ha)
    · exact turned_nodup x i
theorem gapF_nat (W : Nat) : gapF (W : Int) rowsL = (syn W : Int) := by
  unfold gapF
  rw [Int.fmod_eq_emod_of_nonneg _ (by decide), Int.fdiv_eq_ediv_of_nonneg _ (by decide)]
  have e1 : (W : Int) % 4096 = ((W % 4096 : Nat) : Int) := by simp
  have e2 : (W : Int) / 4096 = ((W / 4096 : Nat) : Int) := by simp
  rw [e1, e2, timesL_nat, xor_nat]; rfl
theorem triesI_nat (g : Nat) : triesI g (tN g) rowsL 12 = (triesN g 12).map fun z : Nat => (z : Int) := by
  have e : ∀ k, try2 g (tN g) rowsL k = [(g ^^^ rowsN.getD k 0) + 4096 * 2 ^ k, 2 ^ k + 4096 * (tN g ^^^ rowsN.getD k 0)].map fun z : Nat => (z : Int) := fun k => by
    rw [try2, rowsL_nat, xor_nat, xor_nat, two_int]
    simp
  rw [triesI, triesN, List.map_append, List.map_flatMap, ← funext e]
  congr 1
theorem bitsF_nat (z : Nat) : bitsF z = ((List.range 24).filter fun k => z.testBit k).map fun k : Nat => (k : Int) := by
  unfold bitsF
  rw [rangeKs_nat, List.filter_map]
  congr 1
  refine List.filter_congr fun k _ => ?_
  exact bitB_nat z k
theorem bitsF_cnt (z : Nat) : (bitsF z).length = cnt (List.range 24) z := by
  rw [bitsF_nat, List.length_map, cnt_len]
theorem toldF_nat (W : Nat) : toldF (W : Int) rowsL = ((triesN (syn W) 12).find? fun z => decide (cnt (List.range 24) z < 4)).map fun z : Nat => bitsF z := by
  unfold toldF
  rw [gapF_nat, timesL_nat, triesI_nat, List.find?_map, Option.map_map]
  have e : ((fun one => decide ((bitsF one).length < 4)) ∘ fun z : Nat => (z : Int)) = fun z => decide (cnt (List.range 24) z < 4) := funext fun z => by
    show decide ((bitsF (z : Int)).length < 4) = _
    rw [bitsF_cnt]
  rw [e]; rfl
theorem lt24 {z k : Nat} (hz : z < 16777216) (h : z.testBit k = true) : k < 24 := by
  rcases Nat.lt_or_ge k 24 with hk | hk
  · exact hk
  · have : z < 2 ^ k := Nat.lt_of_lt_of_le hz (Nat.pow_le_pow_right (n := 2) (by decide) hk)
    rw [Nat.testBit_lt_two_pow this] at h; cases h
theorem bitsF_mem {z : Nat} (hz : z < 16777216) (k : Nat) : (k : Int) ∈ bitsF z ↔ z.testBit k = true := by
  rw [bitsF_nat]
  simp only [List.mem_map, List.mem_filter, List.mem_range]
  constructor
  · rintro ⟨a, ⟨_, h⟩, e⟩
    have : a = k := by omega
    exact this ▸ h
  · exact fun h => ⟨k, ⟨lt24 hz h, h⟩, rfl⟩
theorem onesF_mem (z k : Nat) : (k : Int) ∈ onesF z ↔ z.testBit k = true := by
  have hb : z < 2 ^ Builtin.Int.intBits z := by
    have := nat_lt_bits (Int.natCast_nonneg z)
    rw [two_int] at this; omega
  unfold onesF
  generalize Builtin.Int.intBits z = nb at *
  have hbit : ((bitsL z nb).getD k 0 == 1) = (decide (k < nb) && z.testBit k) := by
    by_cases hk : k < nb
    · rw [List.getD_eq_getElem?_getD, bitsL, List.getElem?_map, List.getElem?_range hk]
      show (((z : Int) / 2 ^ k % 2) == 1) = _
      rw [two_int, Nat.testBit_eq_decide_div_mod_eq, decide_eq_true hk, Bool.true_and]
      have e : (z : Int) / ((2 ^ k : Nat) : Int) % 2 = ((z / 2 ^ k % 2 : Nat) : Int) := by simp
      rw [e]
      rcases Nat.mod_two_eq_zero_or_one (z / 2 ^ k) with h | h <;> rw [h] <;> rfl
    · rw [List.getD_eq_getElem?_getD, List.getElem?_eq_none (by rw [bitsL_length]; omega), decide_eq_false hk]; rfl
  rw [List.mem_filter, Int.toNat_natCast, hbit, rangeKs_nat]
  simp only [List.mem_map, List.mem_range, Bool.and_eq_true, decide_eq_true_iff]
  constructor
  · exact fun h => h.2.2
  · intro h
    have hk : k < nb := by
      rcases Nat.lt_or_ge k nb with hk | hk
      · exact hk
      · have := Nat.lt_of_lt_of_le hb (Nat.pow_le_pow_right (n := 2) (by decide) hk)
        rw [Nat.testBit_lt_two_pow this] at h; cases h
    exact ⟨⟨k, hk, rfl⟩, hk, h⟩
theorem ord_nodup {l : List Int} (h : l.Pairwise (· < ·)) : l.Nodup := h.imp fun h => Int.ne_of_lt h
theorem diff_sum {W M : Nat} (hM : M < 16777216) : sumP (diffI (onesF W) (bitsF M) ++ diffI (bitsF M) (onesF W)) = ((W ^^^ M : Nat) : Int) := by
  have h1 := ord_nodup (onesF_sorted (W : Int))
  have h2 := ord_nodup (bitsF_sorted (M : Int))
  have z1 : ∀ p ∈ onesF (W : Int), 0 ≤ p := fun p hp => (onesF_rng p hp).1
  have z2 : ∀ p ∈ bitsF (M : Int), 0 ≤ p := fun p hp => (bitsF_rng p hp).1
  have hm := fun k => onesF_mem W k
  have hn := fun k => bitsF_mem hM k
  generalize onesF (W : Int) = A at *
  generalize bitsF (M : Int) = B at *
  have hd : (diffI A B ++ diffI B A).Nodup := by
    rw [List.nodup_append]
    refine ⟨h1.filter _, h2.filter _, fun a ha b hb e => ?_⟩
    have q1 := (List.mem_filter.mp ha).2
    have q2 := (List.mem_filter.mp hb).1
    rw [e] at q1
    simp [q2] at q1
  have h0 : ∀ p ∈ diffI A B ++ diffI B A, 0 ≤ p := fun p hp => by
    rcases List.mem_append.mp hp with h | h
    · exact z1 p (List.mem_filter.mp h).1
    · exact z2 p (List.mem_filter.mp h).1
  rw [sumP_mk hd h0]
  congr 1
  apply Nat.eq_of_testBit_eq; intro k
  have e := mkN_bit hd h0 k
  have e9 : (k : Int) ∈ diffI A B ++ diffI B A ↔ _ := List.mem_append
  rw [e9, diffI, diffI, List.mem_filter, List.mem_filter, hm, hn] at e
  have c1 : B.contains (k : Int) = M.testBit k := by
    rw [Bool.eq_iff_iff, List.contains_iff_mem]; exact hn k
  have c2 : A.contains (k : Int) = W.testBit k := by
    rw [Bool.eq_iff_iff, List.contains_iff_mem]; exact hm k
  rw [c1, c2] at e
  rw [Nat.testBit_xor, Bool.eq_iff_iff]
  refine Iff.trans e ?_
  cases W.testBit k <;> cases M.testBit k <;> simp
theorem wordF_nat (x : Int) : ∃ m : Nat, m < 4096 ∧ wordF x = ((m + 4096 * tN m : Nat) : Int) := by
  have h := mod_rng x
  obtain ⟨m, e⟩ := Int.eq_ofNat_of_zero_le h.1
  refine ⟨m, by omega, ?_⟩
  unfold wordF
  rw [e, timesL_nat]; simp
/-- Golay: what is mended is what was sent, or nothing -/
theorem p_law (x : Int) : mendF (maskW (wordF x) (turnedN (x.fdiv 4096) 4)) rowsL = backF x := by
  obtain ⟨m, hm, e⟩ := wordF_nat x
  have hn := turned_nodup (x.fdiv 4096) 4
  have hr := p_turned (x.fdiv 4096)
  have hl := turnedN_length (x.fdiv 4096) 4
  unfold backF
  generalize turnedN (x.fdiv 4096) 4 = ps at *
  have hM := mkN_lt hr
  have hc := mkN_cnt hn hr
  have hs : syn ((m + 4096 * tN m) ^^^ mkN ps) = syn (mkN ps) := by
    rw [syn_xor, syn_at hm, tN_inv hm, Nat.xor_self, Nat.zero_xor]
  rw [e, maskW_nat, mendF, toldF_nat, hs, tries_find hM (by omega), hc]
  by_cases h : ps.length < 4
  · rw [if_pos h, if_pos h, Option.map_some, Option.map_some, diff_sum hM, Nat.xor_assoc, Nat.xor_self, Nat.xor_zero]
  · rw [if_neg h, if_neg h]; rfl
end
section
/-- for x in range(..): the ledger may grow from turn to turn -/
theorem for_rangeX {prog : Program} {w : World} {A : Around} {s : Shared} {env : Env} {h₀ : Heap} {target : Expr} {body : List Stmt} {Q : Flow → Shared → Prop} {σ : Type} {r : Addr} {a₀ b₀ : Int} {t₀ u₀ v₀ : Tok} {n : Nat} {m₀ : Str → Option Value} {R : Result → Shared → Prop} (Led : σ → List (Addr × Obj)) (ps : σ → List (Str × Value)) (J : Nat → σ → Prop) (c₀ : σ)
    (hh : A.handled = none) (hr : IsRange s.heap r a₀ b₀ 1 t₀ u₀ v₀) (hsmall : Builtin.Range.small a₀ b₀ 1 = true) (hn : Builtin.Range.rangeSize a₀ b₀ 1 = (n : Int)) (F : Fr h₀ env.locals s.heap m₀) (N : News h₀ env.locals s.heap (Led c₀)) (hk : Nam m₀ (ps c₀)) (hj : J 0 c₀)
    (turn : ∀ (c : σ) (i : Nat) t (u : Str → Option Value) h tk I oI, i < n → J i c → (∀ p ∈ Led c, p.1 ≠ I) → Fr h₀ env.locals h (kstB u (ps c)) → News h₀ env.locals h ((I, oI) :: Led c) → ∀ Q' : Flow → Shared → Prop,
      (∀ (c' : σ) h' tk' m', Fr h₀ env.locals h' m' → News h₀ env.locals h' ((I, oI) :: Led c') → (∀ p ∈ Led c', p.1 ≠ I) → Nam m' (ps c') → J (i + 1) c' → Q' .next { s with heap := h', toks := tk' }) →
      wpAny (model prog w) A (assign target env (.int (a₀ + (i : Int)) t)) (fun _ s₂ => wpAny (model prog w) A (execs body env) Q' (fun _ _ => False) s₂) (fun _ _ => False) { s with heap := h, toks := tk })
    (done : ∀ (c : σ) (u : Str → Option Value) h tk, J n c → Fr h₀ env.locals h (kstB u (ps c)) → News h₀ env.locals h (Led c) → Q .next { s with heap := h, toks := tk })
    (hR : ∀ f s', Q f s' → R (.ok f) s') (ht : ∀ I v, letOwnedTupleGo target (.ref I) v = pure ()) :
    wpAny (model prog w) A (pyIter (.ref r)) (fun it s₂ => codeAny (model prog w) A (.forLoop target it body [] env) R s₂) (fun _ _ => False) s := by
  refine wpAny_pyIter_range hr hsmall ?_
  have W : Walks prog w A s.heap.objs.size [s.heap.objs.size] [s.heap.objs.size] n (fun i v => ∃ t, v = .int (a₀ + i * 1) t)
      (fun i h => IsRangeIter h s.heap.objs.size (a₀ + (i : Nat) * 1) ((n : Int) - (i : Nat)) 1) := Walks.range hh _ a₀ 1 n
  have hex : ∀ i h, IsRangeIter h s.heap.objs.size (a₀ + (i : Nat) * 1) ((n : Int) - (i : Nat)) 1 → ∃ o, h.get? s.heap.objs.size = some o := fun i h x => by first | exact ⟨_, x⟩ | (obtain ⟨o, x⟩ := x; exact ⟨_, x⟩) | (obtain ⟨o, x, _⟩ := x; exact ⟨_, x⟩) | (obtain ⟨_, _, x⟩ := x; exact ⟨_, x⟩) | (obtain ⟨_, _, _, x⟩ := x; exact ⟨_, x⟩)
  have hI0 : h₀.get? s.heap.objs.size = none := next_is_new F
  have hLI : env.locals ≠ s.heap.objs.size := Nat.ne_of_lt F.ns.lt
  generalize hIe : s.heap.objs.size = I at *
  refine codeAny_forLoop (ht := ht _)
    (fun k s' => ∃ h' tk m' c i, s' = { s with heap := h', toks := tk } ∧ IsRangeIter h' I (a₀ + (i : Nat) * 1) ((n : Int) - (i : Nat)) 1 ∧ Fr h₀ env.locals h' m' ∧ News h₀ env.locals h' (Led c) ∧ (∀ p ∈ Led c, p.1 ≠ I) ∧ Nam m' (ps c) ∧ J i c ∧ i ≤ n ∧ k = n + 1 - i) ?_ (n + 1)
    ⟨_, s.toks, m₀, c₀, 0, rfl, by rw [hn, ← hIe]; simpa using Heap.get?_push_size _ rfl, F.push _, fun p hp => ⟨Heap.get?_push_of_some _ (N p hp).1, (N p hp).2⟩, fun p hp e => absurd (Heap.lt_size (N p hp).1) (by rw [e, ← hIe]; exact Nat.lt_irrefl _), hk, hj, Nat.zero_le _, rfl⟩
  rintro k s' ⟨h', tk, m', c, i, rfl, hst', F', N', hne, hNm, hJ, hi, rfl⟩
  have next : ∀ h₁ : Heap, (∀ b o, b ∉ [I] → h'.get? b = some o → h₁.get? b = some o) → Fr h₀ env.locals h₁ m' ∧ News h₀ env.locals h₁ (Led c) := fun h₁ hk₁ =>
    ⟨⟨F'.ns.at' fun o e => hk₁ _ o (by simpa using hLI) e, fun b o e => hk₁ b o (fun hb => by rw [List.mem_singleton.mp hb, hI0] at e; cases e) (F'.keep b o e), F'.above⟩, fun p hp => ⟨hk₁ _ _ (by simpa using hne p hp) (N' p hp).1, (N' p hp).2⟩⟩
  by_cases hlt : i < n
  · refine W.item i _ _ _ hlt hst' fun v h₁ tk₁ hP hst₁ hk₁ => ?_
    obtain ⟨t, rfl⟩ := hP
    obtain ⟨F₁, N₁⟩ := next h₁ hk₁
    obtain ⟨oI, hoI⟩ := hex _ _ hst₁
    have N₂ : News h₀ env.locals h₁ ((I, oI) :: Led c) := fun p hp => by
      rcases List.mem_cons.mp hp with rfl | hp
      · exact ⟨hoI, hLI.symm, hI0⟩
      · exact N₁ p hp
    have e1 : a₀ + (i : Int) * 1 = a₀ + (i : Int) := by omega
    rw [e1]
    refine wpAny_mono (turn c i t m' h₁ tk₁ I oI hlt hJ hne (by rw [kstB_self hNm]; exact F₁) N₂ (fun f s₃ => match f with
        | .ret v => Q (.ret v) s₃
        | .brk => Q .next s₃
        | _ => ∃ m, m < n + 1 - i ∧ ∃ h' tk m' c i, s₃ = { s with heap := h', toks := tk } ∧ IsRangeIter h' I (a₀ + (i : Nat) * 1) ((n : Int) - (i : Nat)) 1 ∧ Fr h₀ env.locals h' m' ∧ News h₀ env.locals h' (Led c) ∧ (∀ p ∈ Led c, p.1 ≠ I) ∧ Nam m' (ps c) ∧ J i c ∧ i ≤ n ∧ m = n + 1 - i)
      (fun c' h₃ tk₃ m₃ F₃ N₃ hne₃ hn₃ hJ₃ => ⟨n + 1 - (i + 1), by omega, h₃, tk₃, m₃, c', i + 1, rfl, ?_, F₃, fun p hp => N₃ p (.tail _ hp), hne₃, hn₃, hJ₃, hlt, rfl⟩)) (fun _ s₂ h₂ => ?_) fun _ _ e => e.elim
    · refine W.frame _ _ _ hst₁ fun b hb o e => ?_
      rw [List.mem_singleton.mp hb] at e ⊢
      rw [hoI] at e
      cases e
      exact (N₃ _ (.head _)).1
    · refine wpAny_mono h₂ (fun f s₃ h₃ => ?_) fun _ _ e => e.elim
      cases f with
      | ret v => exact hR _ _ h₃
      | brk => exact hR _ _ h₃
      | cont => exact h₃
      | next => exact h₃
  · have hin : i = n := by omega
    subst hin
    refine W.done _ _ _ hst' fun h₁ tk₁ hk₁ => wpAny_execs_nil ?_
    obtain ⟨F₁, N₁⟩ := next h₁ hk₁
    exact hR _ _ (done c m' h₁ tk₁ hJ (by rw [kstB_self hNm]; exact F₁) N₁)
end
section
local macro_rules | `(tactic| walk_at "eval Name") => `(tactic| ((with_reducible show wpAny _ _ (PySem.eval (PySem.Expr.Name _ _) (PySem.compEnvC _ _ _ _)) _ _ _); (refine nm_loc (by assumption) (by rfl) ?_)))
section
variable {prog : Program} {w : World} {A : Around} {env : Env} {elt iter : Expr} {x : Str} {px : Pos} {scope : Scope} {cl : List (Str × Addr)} {pos : Pos}
def CompL (prog : Program) (w : World) (A : Around) (env : Env) (scope : Scope) (cl : List (Str × Addr)) (x : Str) (elt : Expr) (g : Heap) (ks : List Int) (G : Int → List Int) : Prop :=
  ∀ C k t (s₃ : Shared) (m₃ : Str → Option Value), k ∈ ks → Fr g C s₃.heap (fun y => if y = x then some (.int k t) else m₃ y) →
    wpAny (model prog w) A (eval elt (compEnvC scope cl C env)) (fun y s₄ => (∃ T vs n, y = .ref T ∧ s₃.heap.get? T = none ∧ s₄.heap.get? T = some (listOf vs.toArray n) ∧ IntsAre vs (G k)) ∧ PySem.Keeps s₃ s₄) (fun _ _ => False) s₃
theorem lists_of {h₁ h' : Heap} {G : Int → List Int} : ∀ {ks : List Int} {vs ys : List Value}, IntsAre vs ks → Paired (PySem.LstIs h₁ (fun v its => ∃ k t us, v = .int k t ∧ its = us.toArray ∧ IntsAre us (G k)) h') vs ys →
    ∃ xs : List (Addr × Obj), (∀ p ∈ xs, h'.get? p.1 = some p.2 ∧ h₁.get? p.1 = none ∧ ∃ a b, p.2.data = .seq a b) ∧ ∀ h, (∀ p ∈ xs, h.get? p.1 = some p.2) → ListsAre h ys (ks.map G)
  | _, _, _, .nil, .nil => ⟨[], (fun _ h => nomatch h), fun _ _ => trivial⟩
  | _, _, _, .cons k t hi, .cons ha hr => by
    obtain ⟨T, its, rfl, hT, hl, k', t', us, e, rfl, hu⟩ := ha
    cases e
    obtain ⟨xs, h1, h2⟩ := lists_of hi hr
    obtain ⟨o, ho, hc⟩ := hl
    refine ⟨(T, o) :: xs, List.forall_mem_cons.mpr ⟨⟨ho, hT, by obtain ⟨_, n, hd⟩ := hc; exact ⟨_, _, hd⟩⟩, h1⟩, fun h hx => ⟨⟨us, ⟨o, hx _ (.head _), hc⟩, hu⟩, h2 h fun p hp => hx p (.tail _ hp)⟩⟩
/-- a comprehension over a list of ints, its elements new lists of ints -/
theorem comp_exprL {s : Shared} {ks : List Int} {Q : Value → Shared → Prop} (G : Int → List Int) (hA : A.handled = none)
    (hclos : closureFor scope env = pure cl) (hcell : ∀ y ∈ scope.names, y.2 ≠ .cell) (hkind : scope.kind = .function)
    (hnames : ∀ y ∈ scope.names, y.2 = .local → scope.names.lookup y.1 = some .local) (hx : scope.names.lookup x = some .local) (hsz : ks.length ≤ sizeLine)
    (h : wpAny (model prog w) A (eval iter env) (fun xv s₁ => ∃ l vs, xv = .ref l ∧ s₁.heap.IsList l vs.toArray ∧ IntsAre vs ks ∧ CompL prog w A env scope cl x elt s₁.heap ks G ∧
      (∀ D nn ys h' tk (xs : List (Addr × Obj)), Kp s₁.heap h' → s₁.heap.get? D = none → h'.get? D = some (listOf ys.toArray nn) → (∀ p ∈ xs, h'.get? p.1 = some p.2 ∧ s₁.heap.get? p.1 = none ∧ ∃ a b, p.2.data = .seq a b) → (∀ h, (∀ p ∈ xs, h.get? p.1 = some p.2) → ListsAre h ys (ks.map G)) → Q (.ref D) { s₁ with heap := h', toks := tk })) (fun _ _ => False) s)
    (hs : ∀ x, foldedSetIterable iter env x = pure x := by intro _; rfl) :
    wpAny (model prog w) A (eval (.ListComp elt [⟨.Name x px, iter, [], 0⟩] scope pos) env) Q (fun _ _ => False) s := by
  refine wpAny_ListComp_freeO (fun _ => true) (fun v its => ∃ k t us, v = .int k t ∧ its = us.toArray ∧ IntsAre us (G k)) hclos hcell hkind hnames hx (wpAny_mono h (fun xv s₁ h₁ => ?_) fun _ _ e => e) hs
  obtain ⟨l, vs, rfl, hl, hi, H, hQ⟩ := h₁
  refine wpAny_pyIter_list hl ?_
  have hlt : l < s₁.heap.objs.size := by obtain ⟨o, ho, _⟩ := id hl; exact Heap.lt_size ho
  have WW := Walks.list (prog := prog) (w := w) hA s₁.heap.objs.size l (Nat.ne_of_lt hlt) vs.toArray
  refine ⟨_, _, _, _, _, _, rfl, WW, ?_, ?_, ⟨⟨_, Heap.get?_push_size _ rfl, rfl, rfl⟩, hl.at fun o e => Heap.get?_push_of_some _ e⟩, ?_, ⟨?_, ?_⟩, ?_⟩
  · rw [List.size_toArray, hi.length]; exact hsz
  · rintro i h ⟨⟨o, ho, _⟩, _⟩ b hb
    rw [List.mem_singleton.mp hb]
    exact ⟨o, ho⟩
  · intro b hb
    rw [Heap.size_push]
    rcases List.mem_cons.mp hb with rfl | hb
    · exact Nat.lt_succ_self _
    · rw [List.mem_singleton.mp hb]; exact Nat.lt_succ_of_lt hlt
  · intro C i v s₃ m₃ E' hC hP hn hm hk _
    exact wpAny_mono (E := fun _ _ => False) (tests_nil ⟨rfl, _, _, rfl, fun _ _ e => e⟩) (fun _ _ h => h) fun _ _ e => e.elim
  · intro C i v s₃ m₃ E' hC hP _ hn hm hk _
    obtain ⟨k, t, rfl, hk'⟩ := hi.at i v (by simpa using hP)
    have hnew : s₁.heap.get? s₁.heap.objs.size = none := by
      cases q : s₁.heap.get? s₁.heap.objs.size with
      | none => rfl
      | some o => exact absurd (Heap.lt_size q) (Nat.lt_irrefl _)
    refine wpAny_mono (H C k t s₃ m₃ (List.mem_of_getElem? hk') (fr_at hm ⟨hn, fun b o e => hk b o (fun hb => by rw [List.mem_singleton.mp hb, hnew] at e; cases e) (Heap.get?_push_of_some _ e), Nat.le_trans (by rw [Heap.size_push]; exact Nat.le_succ _) hC⟩)) (fun y s₄ hy => ?_) fun _ _ e => e.elim
    obtain ⟨⟨T, us, n, rfl, hT, hg, hu⟩, hkp⟩ := hy
    exact ⟨⟨T, us.toArray, rfl, hT, PySem.IsL.isList hg, k, t, us, rfl, rfl, hu⟩, hkp⟩
  · intro D h' tk ys ws hD hlD hpl hlen hPv hF _ _ hk
    obtain ⟨nn, e⟩ := hpl
    have hnew : s₁.heap.get? s₁.heap.objs.size = none := by
      cases q : s₁.heap.get? s₁.heap.objs.size with
      | none => rfl
      | some o => exact absurd (Heap.lt_size q) (Nat.lt_irrefl _)
    rw [show ws.filter (fun _ => true) = ws from List.filter_eq_self.mpr fun _ _ => rfl] at hF
    have hI : IntsAre ws ks := ints_of (by rw [hlen, List.size_toArray, hi.length]) fun j v hv => by
      obtain ⟨k, t, e1, e2⟩ := hi.at j v (by simpa using hPv j v hv)
      exact ⟨k, t, e2, e1⟩
    have hold : ∀ (o₁ : Obj) b, (s₁.heap.push o₁).get? b = none → s₁.heap.get? b = none := fun o₁ b hb => by
      cases q : s₁.heap.get? b with
      | none => rfl
      | some o => rw [Heap.get?_push_of_some _ q] at hb; cases hb
    obtain ⟨xs, hx1, hx2⟩ := lists_of hI hF
    exact hQ D nn ys.toList h' tk xs (fun b o eb => hk b o (fun hb => by rw [List.mem_singleton.mp hb, hnew] at eb; cases eb) (Heap.get?_push_of_some _ eb)) (hold _ D hD) (by simpa [PySem.W.listOf] using e) (fun p hp => ⟨(hx1 p hp).1, hold _ _ (hx1 p hp).2.1, (hx1 p hp).2.2⟩) hx2
end
theorem allLt_mem {d : Nat} {l : List (Addr × Obj)} (h : AllLt d l) : ∀ p ∈ l, p.1 < d := by
  induction l with
  | nil => intro p hp; cases hp
  | cons a r ih =>
    intro p hp
    rcases List.mem_cons.mp hp with e | hp
    · rw [e]; exact h.1
    · exact ih h.2 p hp
theorem oct_at : ∀ (l : List Int) (i : Nat) (w : Int), l[i]? = some w → ((l.flatMap oct3).drop (3 * i)).take 3 = oct3 w
  | a :: l, 0, w, h => by
    have : a = w := by simpa using h
    subst this
    rw [List.flatMap_cons]
    rfl
  | a :: l, i + 1, w, h => by
    rw [List.flatMap_cons, show 3 * (i + 1) = (oct3 a).length + 3 * i from by simp [oct3]; omega, List.drop_append]
    simp only [List.drop_of_length_le (Nat.le_add_right _ _), List.nil_append, Nat.add_sub_cancel_left]
    exact oct_at l i w (by simpa using h)
/-- the table of a def's codes, the code in the ledger -/
def TabL (q : Str) (pos : Pos) (ps : Array Value) (ys : List (Addr × Obj)) : Prop := ps = #[] ∨ ∃ c' oc vs t, ps = #[rawInt pos.line, rawInt pos.col, .ref c'] ∧ (c', oc) ∈ ys ∧ oc.data = .fields vs ∧ vs[1]? = some (.str q t)
theorem TabL.mono {q : Str} {pos : Pos} {ps : Array Value} {ys zs : List (Addr × Obj)} (h : TabL q pos ps ys) (hs : ∀ p ∈ ys, p ∈ zs) : TabL q pos ps zs := h.imp (fun e => e) fun ⟨c', oc, vs, t, e, hm, r⟩ => ⟨c', oc, vs, t, e, hs _ hm, r⟩
theorem TabL.ok {q : Str} {pos : Pos} {ps : Array Value} {ys : List (Addr × Obj)} {h : Heap} (x : TabL q pos ps ys) (hy : ∀ p ∈ ys, h.get? p.1 = some p.2) : TabOk q pos ps h := x.imp (fun e => e) fun ⟨c', oc, vs, t, e, hm, hd, hv⟩ => ⟨c', e, c', oc, vs, t, rfl, hy _ hm, hd, hv⟩
theorem tab_step {q : Str} {pos : Pos} {ps : Array Value} {ys : List (Addr × Obj)} {h h' : Heap} {c' : Addr} (hT : TabL q pos ps ys) (hrec : h'.CodeRec (.ref c') q) (hnew : ps = #[rawInt pos.line, rawInt pos.col, .ref c'] ∨ h.get? c' = none) :
    ∃ zs : List (Addr × Obj), TabL q pos #[rawInt pos.line, rawInt pos.col, .ref c'] (zs ++ ys) ∧ ∀ p ∈ zs, h.get? p.1 = none ∧ h'.get? p.1 = some p.2 := by
  rcases hnew with e | hn
  · refine ⟨[], ?_, fun _ h => nomatch h⟩
    rcases hT with e2 | ⟨c₂, oc, vs, t, e2, r⟩
    · rw [e] at e2; exact absurd (congrArg Array.size e2) (by simp)
    · exact .inr ⟨c₂, oc, vs, t, by rw [← e, e2], r⟩
  · obtain ⟨c₃, o, vs, t, e3, ho, hd, hv⟩ := hrec
    cases e3
    exact ⟨[(c', o)], .inr ⟨c', o, vs, t, rfl, .head _, hd, hv⟩, fun p hp => by rw [List.mem_singleton.mp hp]; exact ⟨hn, ho⟩⟩
theorem news_tab {g h h' : Heap} {L D : Addr} {m : Str → Option Value} {o o' : Obj} {pre zs l : List (Addr × Obj)} {as : List Addr} (F : Fr g L h m) (N : News g L h pre) (hD : (D, o) ∈ pre) (hk : KpX as h h') (has : ∀ a ∈ as, a = D ∨ a = L) (e : h'.get? D = some o')
    (hz : ∀ p ∈ zs, h.get? p.1 = none ∧ h'.get? p.1 = some p.2) (hl : ∀ p ∈ l, (p ∈ pre ∧ p.1 ≠ D) ∨ p = (D, o') ∨ p ∈ zs) : News g L h' l := by
  intro p hp
  rcases hl p hp with ⟨h1, h2⟩ | h2 | h3
  · exact ⟨hk _ _ (fun hm => (has _ hm).elim h2 (N p h1).2.1) (N p h1).1, (N p h1).2⟩
  · rw [h2]; exact ⟨e, (N _ hD).2⟩
  · refine ⟨(hz p h3).2, fun e => ?_, TI.none_of F.keep (hz p h3).1⟩
    obtain ⟨oL, _, _, hL, _⟩ := F.ns
    rw [← show p.1 = L from e, (hz p h3).1] at hL; cases hL
theorem fr_tab {g h h' : Heap} {L D : Addr} {m : Str → Option Value} {o : Obj} {pre : List (Addr × Obj)} {as : List Addr} (F : Fr g L h m) (N : News g L h pre) (hD : (D, o) ∈ pre) (hk : KpX as h h') (has : ∀ a ∈ as, a = D ∨ a = L) (hns : h'.Ns L m) : Fr g L h' m :=
  ⟨hns, fun b o e => hk b o (fun hm => (has b hm).elim (fun e1 => by rw [e1, (N _ hD).2.2] at e; cases e) (fun e1 => by rw [e1] at e; exact absurd (Nat.lt_of_lt_of_le (Heap.lt_size e) F.above) (Nat.lt_irrefl _))) (F.keep b o e), F.above⟩
theorem zs_off {h : Heap} {zs : List (Addr × Obj)} {h' : Heap} (hz : ∀ p ∈ zs, h.get? p.1 = none ∧ h'.get? p.1 = some p.2) {a : Addr} {o : Obj} (ha : h.get? a = some o) : ∀ p ∈ zs, p.1 ≠ a := fun p hp e => by
  have := (hz p hp).1
  rw [e, ha] at this; cases this
/-- ints or None -/
inductive OptsAre : List Value → List (Option Int) → Prop
  | nil : OptsAre [] []
  | none {vs os} : OptsAre vs os → OptsAre (.none :: vs) (none :: os)
  | some {vs os} (v : Int) (t : Tok) : OptsAre vs os → OptsAre (.int v t :: vs) (some v :: os)
theorem OptsAre.length {vs : List Value} {os : List (Option Int)} (h : OptsAre vs os) : vs.length = os.length := by induction h <;> simp_all
theorem OptsAre.snoc {vs : List Value} {os : List (Option Int)} (h : OptsAre vs os) {r : Value} {o : Option Int} (hr : match o with | .none => r = .none | .some v => ∃ t, r = .int v t) : OptsAre (vs ++ [r]) (os ++ [o]) := by
  induction h with
  | nil =>
    cases o with
    | none => rw [show r = .none from hr]; exact .none .nil
    | some v => obtain ⟨t, e⟩ := (hr : ∃ t, r = .int v t); rw [e]; exact .some v t .nil
  | none _ ih => exact .none ih
  | some v t _ ih => exact .some v t ih
def OptV (o : Option Int) (y : Value) : Prop := match o with | .none => y = .none | .some v => ∃ t, y = .int v t
theorem paired_opts {g : Int → Option Int} : ∀ {ks : List Int} {ys : List Value}, Paired (fun k y => OptV (g k) y) ks ys → OptsAre ys (ks.map g)
  | _, _, .nil => .nil
  | k :: ks, _, .cons ha hr => by
    have ih := paired_opts hr
    rw [List.map_cons]
    cases hg : g k with
    | none =>
      rw [hg] at ha
      rw [show _ = Value.none from ha]; exact .none ih
    | some v =>
      rw [hg] at ha
      obtain ⟨t, e⟩ := (ha : ∃ t, _ = Value.int v t)
      rw [e]; exact .some v t ih
def datO : Option Int → Dat
  | .none => .none
  | .some v => .int v
theorem opts_dat {vs : List Value} {os : List (Option Int)} (h : OptsAre vs os) : DatAll [] vs (os.map datO) := by
  induction h with
  | nil => exact .nil
  | none _ ih => exact .cons .none ih
  | some v t _ ih => exact .cons (.int v t) ih
theorem dat_ok (os : List (Option Int)) : ∀ d ∈ os.map datO, kqdOk 8 d = true := fun d hd => by
  obtain ⟨o, _, rfl⟩ := List.mem_map.mp hd
  cases o <;> rfl
theorem back_all (nums : List Int) : (rangeKs 0 nums.length).map (fun k => backF (nums.getD k.toNat 0)) = nums.map backF := by
  rw [rangeKs_nat, List.map_map]
  refine List.ext_getElem (by simp) fun i h1 h2 => ?_
  have hi : i < nums.length := by simpa using h2
  simp [hi]
def numsF (ns : List Int) : List Int := if ns = [] then [1588341451] else ns.take 3
set_option maxRecDepth 100000 in
set_option maxHeartbeats 8000000 in
theorem law_holds : PySem.Challenge.rw_qh0050_01.Holds := hd (by
  k_go0
  (all_goals try k_fold)
  rename News _ _ _ _ => N0
  rename Fr _ _ _ _ => F0
  rename Frag.In _ _ => X9
  rename Top _ _ _ _ _ _ => T9
  rename Below _ _ _ _ => B9
  rename CodeHd _ _ _ => C9
  rename CodeHd _ (108, 104).fst _ => C8
  rename Heap.IsList _ _ _ => hl9
  rename IntsAre _ _ => hI9
  rename_i ww s0 s1 mg mb G9 Y9 fa ofa pm cd doc ho hcd hg Xm V9 T0 B0 TE TW ns hs hlay hLay1 hr1 hl2 as7 as6 sl vs as3 hL ra w1 r0 hr hc1 hc2 hD h1 tk1 o3 o2 o1 e3 e2 e1 X0 l0
  have hlen9 := hc1
  replace e3 : o3.data = .cell none := e3
  replace e2 : o2.data = .cell none := e2
  replace e1 : o1.data = .cell none := e1
  refine cut_post (P := fun Q' => ∀ (h' : Heap) (tk' : Nat) (m' : Str → Option Value) (ps8 ps9 : Array Value), Fr (ghostOf s1.heap [(108, 104), (115, 111)]) s1.heap.objs.size h' m' → News (ghostOf s1.heap [(108, 104), (115, 111)]) s1.heap.objs.size h' [(104, tabObj ps8), (111, tabObj ps9)] → Q' (.ret (.bool true)) { s1 with heap := h', toks := tk' }) ?endd fun Q9 hend => ?_
  case endd =>
    intro h' tk' m' ps8 ps9 F9 N9
    clear F0 N0
    (try dsimp only)
    refine ⟨?_, GrownAt.of N9 (.head _), GrownAt.of N9 (.tail _ (.head _)), trivial⟩
    k_steps
    all_goals (try k_data)
  clear hD hr r0 w1 ra hl2 hr1 hLay1 hlay hs TW TE B0 T0 V9 Xm hg hcd Y9 G9 hT8 hT9 X0 hL ho hc2 hc1
  generalize hgh : ghostOf s1.heap [(108, 104), (115, 111)] = gh at *
  generalize hLL : s1.heap.objs.size = L9 at *
  clear hgh hLL
  replace C8 : CodeHd gh 108 104 := C8
  replace C9 : CodeHd gh 115 111 := C9
  replace F0 : Fr gh L9 h1 (fun y => if y = "script" then some (.ref sl) else none) := F0
  change wpAny (model P0 ww) (callerA.deeper (envX "law" _ L9 fa cd [("turned", L9 + 1 + 1 + 1), ("words", L9 + 1 + 1), ("rows", L9 + 1)])) (execs _ (envX "law" _ L9 fa cd [("turned", L9 + 1 + 1 + 1), ("words", L9 + 1 + 1), ("rows", L9 + 1)])) Q9 _ _
  refine wpAny_mono (E := fun _ _ => False) ?_ (fun _ _ h => h) (fun _ _ h => h.elim)
  (try dsimp only)
  refine exec_then (P := fun X => ∀ (D : Addr) (nvs : List Value) (nn : Nat) (h' : Heap) (tk' : Nat) (m' : Str → Option Value), IntsAre nvs (numsF ns) → Nam m' [("numbers", .ref D)] → Fr gh L9 h' m' → News gh L9 h' [(D, listOf nvs.toArray nn), (L9 + 1 + 1 + 1, o3), (L9 + 1 + 1, o2), (L9 + 1, o1), (104, tabObj #[]), (111, tabObj #[])] → X { s1 with heap := h', toks := tk' }) ?st2 fun X hX => ?st1
  case st1 =>
    repeat' ((fail_if_success (with_reducible show wpAny _ _ (PySem.compareOp _ _ _) _ _ _)); (first | (k_unfold; (try dsimp only)) | ((first | (with_reducible show wpAny _ _ _ _ _ _) | (with_reducible show (ite _ _ _ : Prop)) | (with_reducible show InvPostN _ _ _ _ _ _ _ _ _)); (first | walk1 | (dsimp only; walk1)); (try dsimp only)) | ((with_reducible show (PySem.W.Frag.In _ _ ∧ _)); (refine And.intro (by k_in) ?_))))
    rename Fr _ _ _ _ => F1
    rename News _ _ _ _ => N1
    refine ne_intsK (ms := []) (us := []) (hl9.at fun o e => F1.keep _ o e) hI9 ⟨_, (N1 _ (.head _)).1, rfl, _, rfl⟩ .nil (by units_room) ?_
    (try dsimp only)
    repeat' (first | (k_unfold; (try dsimp only)) | ((first | (with_reducible show wpAny _ _ _ _ _ _) | (with_reducible show InvPostN _ _ _ _ _ _ _ _ _)); (first | walk1 | (dsimp only; walk1)); (try dsimp only)) | ((with_reducible show (PySem.W.Frag.In _ _ ∧ _)); (refine And.intro (by k_in) ?_)))
    by_cases hns : ns = []
    · rw [if_neg (by simp [hns])]
      repeat' ((fail_if_success (with_reducible show wpAny _ _ (PySem.storeName _ _ _) _ _ _)); (first | (k_unfold; (try dsimp only)) | ((first | (with_reducible show wpAny _ _ _ _ _ _) | (with_reducible show (ite _ _ _ : Prop)) | (with_reducible show InvPostN _ _ _ _ _ _ _ _ _)); (first | walk1 | (dsimp only; walk1)); (try dsimp only)) | ((with_reducible show (PySem.W.Frag.In _ _ ∧ _)); (refine And.intro (by k_in) ?_))))
      rename Fr _ _ _ _ => F2
      rename News _ _ _ _ => N2
      refine storeX_L F2 N2 fun h9 F9 N9 => ?_
      (try dsimp only)
      refine hX _ [_] _ _ _ _ (by rw [numsF, if_pos hns]; exact .cons _ _ .nil) (nam1 rfl) F9 (news_sub N9 (List.forall_mem_cons.mpr ⟨.head _, fun p hp => .tail _ (.tail _ hp)⟩))
    · rw [if_pos (by simp [hns])]
      repeat' ((fail_if_success (with_reducible show wpAny _ _ (PyProof.Rows.subscriptTail _ _ _ _) _ _ _)); (first | (k_unfold; (try dsimp only)) | ((first | (with_reducible show wpAny _ _ _ _ _ _) | (with_reducible show (ite _ _ _ : Prop)) | (with_reducible show InvPostN _ _ _ _ _ _ _ _ _)); (first | walk1 | (dsimp only; walk1)); (try dsimp only)) | ((with_reducible show (PySem.W.Frag.In _ _ ∧ _)); (refine And.intro (by k_in) ?_))))
      rename Fr _ _ _ _ => F2
      rename News _ _ _ _ => N2
      rename Heap => hz
      refine' kmk_slice_ints (s := { s1 with heap := hz, toks := _ }) ?sF ?sN ?sl ?sp ?sq ?si ?sm ?sc ?sk ?ss ?st ?sz
      case sF => exact F2
      case sN => exact N2
      case sl => exact hl9.at fun o e => F2.keep _ o e
      case sp => exact IsPart.none
      case sq => exact IsPart.int _ _
      case si => exact hI9
      case sm => exact slice_ints_uptoW hI9 (by decide)
      case sc => rfl
      case ss => with_unfolding_all rfl
      case st => intro _; with_unfolding_all rfl
      case sz => rw [List.size_toArray, hI9.length, PySem.sizeLine_eq]; omega
      intro D ws h8 F8 N8 _ hI8 _ _
      (try dsimp only)
      refine storeX_L F8 N8 fun h9 F9 N9 => ?_
      (try dsimp only)
      refine hX D ws 0 _ _ _ (by rw [numsF, if_neg hns]; exact hI8) (nam1 rfl) F9 (news_sub N9 (List.forall_mem_cons.mpr ⟨.head _, fun p hp => .tail _ (.tail _ hp)⟩))
  case st2 =>
    intro D nvs nn h2 tk2 m2 hI2 hN2 F2 N2
    have hnl : 1 ≤ (numsF ns).length ∧ (numsF ns).length ≤ 3 := by
      unfold numsF
      split
      · simp
      · rename_i h
        have : 1 ≤ ns.length := by cases ns with | nil => exact absurd rfl h | cons a b => simp
        rw [List.length_take]; omega
    generalize numsF ns = nums at *
    clear hl9 hI9 N0 F0 hlen9
    obtain ⟨m2', F2⟩ := fr_pick F2 hN2
    clear hN2
    repeat' ((fail_if_success (with_reducible show wpAny _ _ (PySem.call (PySem.Value.ref 128) _ _) _ _ _)); (first | (k_unfold; (try dsimp only)) | ((first | (with_reducible show wpAny _ _ _ _ _ _) | (with_reducible show (ite _ _ _ : Prop)) | (with_reducible show InvPostN _ _ _ _ _ _ _ _ _)); (first | walk1 | (dsimp only; walk1)); (try dsimp only)) | ((with_reducible show (PySem.W.Frag.In _ _ ∧ _)); (refine And.intro (by k_in) ?_))))
    rename Fr _ _ _ _ => F3
    rename News _ _ _ _ => N3
    refine c_rows ww B9 F3 X9 T9 rfl (by ktr_room) fun lr rvs rn h3 tk3 k3 hlr0 hlr hIr => ?_
    have F4 := kp_fr F3 k3
    have N4 := news_cons F3 (kp_news N3 k3) hlr hlr0
    clear F3 N3 k3 hlr0
    (try dsimp only)
    have c12 : L9 + 1 ≠ L9 + 1 + 1 := Nat.ne_of_lt (Nat.lt_succ_self _)
    have c23 : L9 + 1 + 1 ≠ L9 + 1 + 1 + 1 := Nat.ne_of_lt (Nat.lt_succ_self _)
    have c13 : L9 + 1 ≠ L9 + 1 + 1 + 1 := Nat.ne_of_lt (Nat.lt_add_of_pos_right (by decide : 0 < 2))
    have c104 : ∀ j, 104 ≠ L9 + j := fun j => Nat.ne_of_lt (Nat.lt_of_lt_of_le l0.1 (Nat.le_add_right L9 j))
    have c111 : ∀ j, 111 ≠ L9 + j := fun j => Nat.ne_of_lt (Nat.lt_of_lt_of_le l0.2 (Nat.le_add_right L9 j))
    have dc : ∀ {a b : Addr} {o : Obj} {vs : List Value} {n : Nat} {v : Option Value} {h : Heap} {l : List (Addr × Obj)}, News gh L9 h l → (a, listOf vs.toArray n) ∈ l → (b, o) ∈ l → o.data = .cell v → a ≠ b := fun N ha hb hd e => by
      have h1 := (N _ ha).1
      have h2 := (N _ hb).1
      (try dsimp only at h1 h2)
      rw [e, h2] at h1
      rw [Option.some.inj h1] at hd; cases hd
    refine storeC F4 (c := L9 + 1) (o := o1) (news := (L9 + 1, o1) :: (lr, listOf rvs.toArray rn) :: (D, listOf nvs.toArray nn) :: (L9 + 1 + 1 + 1, o3) :: (L9 + 1 + 1, o2) :: [(104, tabObj #[]), (111, tabObj #[])]) (news_sub N4 ?_) rfl (.head ?_) e1 fun h5 o1' F5 N5 e1' _ => ?_
    · intro p hp; simp only [List.mem_cons, List.not_mem_nil, or_false] at hp ⊢; rcases hp with h | h | h | h | h | h | h <;> simp [h]
    · exact List.forall_mem_cons.mpr ⟨dc N4 (.head _) (.tail _ (.tail _ (.tail _ (.tail _ (.head _))))) e1, List.forall_mem_cons.mpr ⟨dc N4 (.tail _ (.head _)) (.tail _ (.tail _ (.tail _ (.tail _ (.head _))))) e1, List.forall_mem_cons.mpr ⟨c13.symm, List.forall_mem_cons.mpr ⟨c12.symm, List.forall_mem_cons.mpr ⟨c104 1, List.forall_mem_cons.mpr ⟨c111 1, List.forall_mem_nil _⟩⟩⟩⟩⟩⟩
    clear F4 N4 e1 hlr
    (try dsimp only)
    repeat' ((fail_if_success (with_reducible show wpAny _ _ (PySem.eval (PySem.Expr.ListComp _ _ _ _) _) _ _ _)); (first | (k_unfold; (try dsimp only)) | ((first | (with_reducible show wpAny _ _ _ _ _ _) | (with_reducible show (ite _ _ _ : Prop)) | (with_reducible show InvPostN _ _ _ _ _ _ _ _ _)); (first | walk1 | (dsimp only; walk1)); (try dsimp only)) | ((with_reducible show (PySem.W.Frag.In _ _ ∧ _)); (refine And.intro (by k_in) ?_))))
    refine comp_expr (ks := nums) (fun _ => true) (fun k y => ∃ t, y = .int (wordF k) t) rfl (by decide) rfl (by decide) rfl (by rw [PySem.sizeLine_eq]; omega) ?_
    repeat' ((fail_if_success (with_reducible show wpAny _ _ (PySem.pyIter _) _ _ _)); (first | (k_unfold; (try dsimp only)) | ((first | (with_reducible show wpAny _ _ _ _ _ _) | (with_reducible show (ite _ _ _ : Prop)) | (with_reducible show InvPostN _ _ _ _ _ _ _ _ _)); (first | walk1 | (dsimp only; walk1)); (try dsimp only)) | ((with_reducible show (PySem.W.Frag.In _ _ ∧ _)); (refine And.intro (by k_in) ?_))))
    refine ⟨src_list rfl (PySem.IsL.isList (N5 _ (.tail _ (.tail _ (.head _)))).1) hI2, ⟨?tests, ?elt⟩, ?ret⟩
    case tests =>
      intro C k t3 s₃ m₃ hk FC
      exact tests_nil ⟨rfl, _, _, rfl, fun _ _ e => e⟩
    case elt =>
      rintro C k t3 ⟨hs, gs, ds, ts, os⟩ m₃ hk hp FC
      have FL := kp_fr F5 FC.keep
      have hc := FC.keep _ _ (N5 _ (.head _)).1
      have hlr := FC.keep _ _ (N5 _ (.tail _ (.head _))).1
      (try dsimp only at FC hc hlr FL)
      repeat' ((fail_if_success (with_reducible show wpAny _ _ (PySem.eval (PySem.Expr.Name _ _) _) _ _ _)); (first | (k_unfold; (try dsimp only)) | ((first | (with_reducible show wpAny _ _ _ _ _ _) | (with_reducible show (ite _ _ _ : Prop)) | (with_reducible show InvPostN _ _ _ _ _ _ _ _ _)); (first | walk1 | (dsimp only; walk1)); (try dsimp only)) | ((with_reducible show (PySem.W.Frag.In _ _ ∧ _)); (refine And.intro (by k_in) ?_))))
      refine nm_loc FC rfl ?_
      repeat' ((fail_if_success (with_reducible show wpAny _ _ (PySem.eval (PySem.Expr.Name _ _) _) _ _ _)); (first | (k_unfold; (try dsimp only)) | ((first | (with_reducible show wpAny _ _ _ _ _ _) | (with_reducible show (ite _ _ _ : Prop)) | (with_reducible show InvPostN _ _ _ _ _ _ _ _ _)); (first | walk1 | (dsimp only; walk1)); (try dsimp only)) | ((with_reducible show (PySem.W.Frag.In _ _ ∧ _)); (refine And.intro (by k_in) ?_))))
      refine nm_glb (v := .ref 135) (Kp.trans F5.keep FC.keep) X9 T9 (by k_is) ?_
      repeat' ((fail_if_success (with_reducible show wpAny _ _ (PySem.callWith _ _ _ _ _) _ _ _)); (first | (k_unfold; (try dsimp only)) | ((first | (with_reducible show wpAny _ _ _ _ _ _) | (with_reducible show (ite _ _ _ : Prop)) | (with_reducible show InvPostN _ _ _ _ _ _ _ _ _)); (first | walk1 | (dsimp only; walk1)); (try dsimp only)) | ((with_reducible show (PySem.W.Frag.In _ _ ∧ _)); (refine And.intro (by k_in) ?_))))
      refine callWith_K X9 (by k_is) ?_
      repeat' ((fail_if_success (with_reducible show wpAny _ _ (PySem.eval (PySem.Expr.Name _ _) _) _ _ _)); (first | (k_unfold; (try dsimp only)) | ((first | (with_reducible show wpAny _ _ _ _ _ _) | (with_reducible show (ite _ _ _ : Prop)) | (with_reducible show InvPostN _ _ _ _ _ _ _ _ _)); (first | walk1 | (dsimp only; walk1)); (try dsimp only)) | ((with_reducible show (PySem.W.Frag.In _ _ ∧ _)); (refine And.intro (by k_in) ?_))))
      refine nm_loc FC rfl ?_
      repeat' ((fail_if_success (with_reducible show wpAny _ _ (PySem.eval (PySem.Expr.Name _ _) _) _ _ _)); (first | (k_unfold; (try dsimp only)) | ((first | (with_reducible show wpAny _ _ _ _ _ _) | (with_reducible show (ite _ _ _ : Prop)) | (with_reducible show InvPostN _ _ _ _ _ _ _ _ _)); (first | walk1 | (dsimp only; walk1)); (try dsimp only)) | ((with_reducible show (PySem.W.Frag.In _ _ ∧ _)); (refine And.intro (by k_in) ?_))))
      refine nm_cell rfl hc e1' ?_
      repeat' ((fail_if_success (with_reducible show wpAny _ _ (PySem.call (PySem.Value.ref 135) _ _) _ _ _)); (first | (k_unfold; (try dsimp only)) | ((first | (with_reducible show wpAny _ _ _ _ _ _) | (with_reducible show (ite _ _ _ : Prop)) | (with_reducible show InvPostN _ _ _ _ _ _ _ _ _)); (first | walk1 | (dsimp only; walk1)); (try dsimp only)) | ((with_reducible show (PySem.W.Frag.In _ _ ∧ _)); (refine And.intro (by k_in) ?_))))
      have hkr := mod_rng k
      have htr := timesL_rng hkr.1
      refine c_times ww B9 FL X9 T9 (by rfl) (by ktr_room) (PySem.IsL.isList hlr) hIr (by rfl) fun t7 h7 tk7 k7 => ?_
      generalize hT : timesL (k.fmod 4096) rowsL (rangeKs 0 12) = TT at *
      (try dsimp only)
      repeat' (first | (k_unfold; (try dsimp only)) | ((first | (with_reducible show wpAny _ _ _ _ _ _) | (with_reducible show (ite _ _ _ : Prop)) | (with_reducible show InvPostN _ _ _ _ _ _ _ _ _)); (first | walk1 | (dsimp only; walk1)); (try dsimp only)) | ((with_reducible show (PySem.W.Frag.In _ _ ∧ _)); (refine And.intro (by k_in) ?_)))
      refine ⟨?_, _, _, rfl, k7⟩
      show ∃ t, _ = Value.int (wordF k) t
      rw [wordF, hT]
      exact ⟨_, rfl⟩
    case ret =>
      intro Dw nw wvs h6 tk6 kp6 hDw0 hDw hpair
      have I6 := paired_ints hpair
      rw [filter_all] at I6
      have F6 := kp_fr F5 kp6
      have N6 := news_cons F5 (kp_news N5 kp6) hDw hDw0
      (try dsimp only)
      refine storeC F6 (c := L9 + 1 + 1) (o := o2) (news := (L9 + 1 + 1, o2) :: (Dw, listOf wvs.toArray nw) :: (L9 + 1, o1') :: (lr, listOf rvs.toArray rn) :: (D, listOf nvs.toArray nn) :: (L9 + 1 + 1 + 1, o3) :: [(104, tabObj #[]), (111, tabObj #[])]) (news_sub N6 ?_) rfl (.head ?_) e2 fun h7 o2' F7 N7 e2' _ => ?_
      · intro p hp; simp only [List.mem_cons, List.not_mem_nil, or_false] at hp ⊢; rcases hp with h | h | h | h | h | h | h | h <;> simp [h]
      · exact List.forall_mem_cons.mpr ⟨dc N6 (.head _) (.tail _ (.tail _ (.tail _ (.tail _ (.tail _ (.head _)))))) e2, List.forall_mem_cons.mpr ⟨c12, List.forall_mem_cons.mpr ⟨dc N6 (.tail _ (.tail _ (.head _))) (.tail _ (.tail _ (.tail _ (.tail _ (.tail _ (.head _)))))) e2, List.forall_mem_cons.mpr ⟨dc N6 (.tail _ (.tail _ (.tail _ (.head _)))) (.tail _ (.tail _ (.tail _ (.tail _ (.tail _ (.head _)))))) e2, List.forall_mem_cons.mpr ⟨c23.symm, List.forall_mem_cons.mpr ⟨c104 2, List.forall_mem_cons.mpr ⟨c111 2, List.forall_mem_nil _⟩⟩⟩⟩⟩⟩⟩
      clear F5 N5 F6 N6 hpair e2 kp6 hDw0 hDw
      (try dsimp only)
      repeat' ((fail_if_success (with_reducible show wpAny _ _ (PySem.eval (PySem.Expr.ListComp _ _ _ _) _) _ _ _)); (first | (k_unfold; (try dsimp only)) | ((first | (with_reducible show wpAny _ _ _ _ _ _) | (with_reducible show (ite _ _ _ : Prop)) | (with_reducible show InvPostN _ _ _ _ _ _ _ _ _)); (first | walk1 | (dsimp only; walk1)); (try dsimp only)) | ((with_reducible show (PySem.W.Frag.In _ _ ∧ _)); (refine And.intro (by k_in) ?_))))
      refine comp_exprL (ks := nums) (fun k => turnedN (k.fdiv 4096) 4) rfl rfl (by decide) rfl (by decide) rfl (by rw [PySem.sizeLine_eq]; omega) ?_
      repeat' ((fail_if_success (with_reducible show wpAny _ _ (PySem.pyIter _) _ _ _)); (first | (k_unfold; (try dsimp only)) | ((first | (with_reducible show wpAny _ _ _ _ _ _) | (with_reducible show (ite _ _ _ : Prop)) | (with_reducible show InvPostN _ _ _ _ _ _ _ _ _)); (first | walk1 | (dsimp only; walk1)); (try dsimp only)) | ((with_reducible show (PySem.W.Frag.In _ _ ∧ _)); (refine And.intro (by k_in) ?_))))
      refine ⟨_, _, rfl, PySem.IsL.isList (N7 _ (.tail _ (.tail _ (.tail _ (.tail _ (.head _)))))).1, hI2, ?elt, ?ret⟩
      case elt =>
        rintro C k t3 ⟨hs, gs, ds, ts, os⟩ m₃ hk FC
        have FL := kp_fr F7 FC.keep
        (try dsimp only at FC FL)
        repeat' ((fail_if_success (with_reducible show wpAny _ _ (PySem.eval (PySem.Expr.Name _ _) _) _ _ _)); (first | (k_unfold; (try dsimp only)) | ((first | (with_reducible show wpAny _ _ _ _ _ _) | (with_reducible show (ite _ _ _ : Prop)) | (with_reducible show InvPostN _ _ _ _ _ _ _ _ _)); (first | walk1 | (dsimp only; walk1)); (try dsimp only)) | ((with_reducible show (PySem.W.Frag.In _ _ ∧ _)); (refine And.intro (by k_in) ?_))))
        refine nm_glb (v := .ref 142) (Kp.trans F7.keep FC.keep) X9 T9 (by k_is) ?_
        repeat' ((fail_if_success (with_reducible show wpAny _ _ (PySem.callWith _ _ _ _ _) _ _ _)); (first | (k_unfold; (try dsimp only)) | ((first | (with_reducible show wpAny _ _ _ _ _ _) | (with_reducible show (ite _ _ _ : Prop)) | (with_reducible show InvPostN _ _ _ _ _ _ _ _ _)); (first | walk1 | (dsimp only; walk1)); (try dsimp only)) | ((with_reducible show (PySem.W.Frag.In _ _ ∧ _)); (refine And.intro (by k_in) ?_))))
        refine callWith_K X9 (by k_is) ?_
        repeat' ((fail_if_success (with_reducible show wpAny _ _ (PySem.eval (PySem.Expr.Name _ _) _) _ _ _)); (first | (k_unfold; (try dsimp only)) | ((first | (with_reducible show wpAny _ _ _ _ _ _) | (with_reducible show (ite _ _ _ : Prop)) | (with_reducible show InvPostN _ _ _ _ _ _ _ _ _)); (first | walk1 | (dsimp only; walk1)); (try dsimp only)) | ((with_reducible show (PySem.W.Frag.In _ _ ∧ _)); (refine And.intro (by k_in) ?_))))
        refine nm_loc FC rfl ?_
        repeat' ((fail_if_success (with_reducible show wpAny _ _ (PySem.call (PySem.Value.ref 142) _ _) _ _ _)); (first | (k_unfold; (try dsimp only)) | ((first | (with_reducible show wpAny _ _ _ _ _ _) | (with_reducible show (ite _ _ _ : Prop)) | (with_reducible show InvPostN _ _ _ _ _ _ _ _ _)); (first | walk1 | (dsimp only; walk1)); (try dsimp only)) | ((with_reducible show (PySem.W.Frag.In _ _ ∧ _)); (refine And.intro (by k_in) ?_))))
        refine c_turned ww B9 FL X9 T9 rfl (by ktr_room) fun T tvs tn h9 tk9 k9 hT0 hT hIT => ?_
        exact ⟨⟨T, tvs, tn, rfl, hT0, hT, hIT⟩, _, _, rfl, k9⟩
      case ret =>
        intro Dt nt tvs h8 tk8 xs kp8 hDt0 hDt hxs hLT
        have F8 := kp_fr F7 kp8
        have N8 := news_cons F7 (kp_news N7 kp8) hDt hDt0
        have Nx : News gh L9 h8 xs := fun p hp => ⟨(hxs p hp).1, (fun e => by
          obtain ⟨oL, _, _, hL, _⟩ := F7.ns
          rw [← show p.1 = L9 from e, (hxs p hp).2.1] at hL; cases hL), TI.none_of F7.keep (hxs p hp).2.1⟩
        have hc3 : h7.get? (L9 + 1 + 1 + 1) = some o3 := (N7 _ (.tail _ (.tail _ (.tail _ (.tail _ (.tail _ (.head _))))))).1
        (try dsimp only)
        refine storeC F8 (c := L9 + 1 + 1 + 1) (o := o3) (news := (L9 + 1 + 1 + 1, o3) :: (Dt, listOf tvs.toArray nt) :: (L9 + 1 + 1, o2') :: (Dw, listOf wvs.toArray nw) :: (L9 + 1, o1') :: (lr, listOf rvs.toArray rn) :: (104, tabObj #[]) :: (111, tabObj #[]) :: xs) (fun p hp => ?_) rfl (.head ?_) e3 fun h9 o3' F9 N9 e3' _ => ?_
        · by_cases hx : p ∈ xs
          · exact Nx p hx
          · refine N8 p ?_
            simp only [List.mem_cons, List.not_mem_nil, or_false] at hp ⊢
            rcases hp with h | h | h | h | h | h | h | h | h
            all_goals first | exact absurd h hx | simp [h]
        · exact List.forall_mem_cons.mpr ⟨dc N8 (.head _) (.tail _ (.tail _ (.tail _ (.tail _ (.tail _ (.tail _ (.head _))))))) e3, List.forall_mem_cons.mpr ⟨c23, List.forall_mem_cons.mpr ⟨dc N8 (.tail _ (.tail _ (.head _))) (.tail _ (.tail _ (.tail _ (.tail _ (.tail _ (.tail _ (.head _))))))) e3, List.forall_mem_cons.mpr ⟨c13, List.forall_mem_cons.mpr ⟨dc N8 (.tail _ (.tail _ (.tail _ (.tail _ (.head _))))) (.tail _ (.tail _ (.tail _ (.tail _ (.tail _ (.tail _ (.head _))))))) e3, List.forall_mem_cons.mpr ⟨c104 3, List.forall_mem_cons.mpr ⟨c111 3, fun p hp e => by
            have := (hxs p hp).2.1
            rw [e, hc3] at this; cases this⟩⟩⟩⟩⟩⟩⟩
        have hxd : ∀ p ∈ xs, ∃ a b, p.2.data = .seq a b := fun p hp => (hxs p hp).2.2
        clear F7 N7 F8 N8 Nx e3 kp8 hDt0 hDt hxs hc3
        (try dsimp only)
        have hwsr : ∀ w ∈ nums.map wordF, 0 ≤ w ∧ w < 16777216 := fun w hw => by obtain ⟨x, _, rfl⟩ := List.mem_map.mp hw; exact wordF_rng x
        generalize hts : nums.map (fun k => turnedN (k.fdiv 4096) 4) = ts at *
        have htp : ∀ ps ∈ ts, ∀ p ∈ ps, 0 ≤ p ∧ p < 24 := fun ps hps => by
          rw [← hts] at hps
          obtain ⟨x, _, rfl⟩ := List.mem_map.mp hps
          exact p_turned _
        have htl : ts.length = (nums.map wordF).length := by rw [← hts]; simp
        have hwl : (nums.map wordF).length = nums.length := by simp
        obtain ⟨out, lc, hout, holen, homap⟩ := p_enc hwsr
        obtain ⟨hpage, hxr⟩ := p_page hwsr htl htp
        obtain ⟨hdec, hfr⟩ := p_dec hxr
        obtain ⟨hs1, hs2, hs3⟩ := p_str hfr
        have hzl : (List.zipWith maskW (nums.map wordF) ts).length = nums.length := by rw [List.length_zipWith, htl, hwl]; omega
        have hfl : ((List.zipWith maskW (nums.map wordF) ts).flatMap sext).length = 4 * nums.length := by
          rw [← hzl]
          generalize List.zipWith maskW (nums.map wordF) ts = l
          induction l with
          | nil => rfl
          | cons a r ih => rw [List.flatMap_cons, List.length_append, ih]; simp [sext]; omega
        repeat' ((fail_if_success (with_reducible show wpAny _ _ (PySem.exec (PySem.Stmt.Assign _ _ _) _) _ _ _)); (first | (k_unfold; (try dsimp only)) | ((first | (with_reducible show wpAny _ _ _ _ _ _) | (with_reducible show (ite _ _ _ : Prop)) | (with_reducible show InvPostN _ _ _ _ _ _ _ _ _)); (first | walk1 | (dsimp only; walk1)); (try dsimp only)) | ((with_reducible show (PySem.W.Frag.In _ _ ∧ _)); (refine And.intro (by k_in) ?_))))
        refine comp_assign (ks := (List.zipWith maskW (nums.map wordF) ts).flatMap oct3) F9 (fun _ => true) (fun k y => ∃ t, y = .int k t) rfl rfl (by decide) rfl (by decide) rfl rfl rfl (by rw [PySem.sizeLine_eq]; have := oct3_len (List.zipWith maskW (nums.map wordF) ts) nums.length; rw [List.take_of_length_le (by omega)] at this; omega) ?_
        repeat' ((fail_if_success (with_reducible show wpAny _ _ (PySem.call (PySem.Value.ref 147) _ _) _ _ _)); (first | (k_unfold; (try dsimp only)) | ((first | (with_reducible show wpAny _ _ _ _ _ _) | (with_reducible show (ite _ _ _ : Prop)) | (with_reducible show InvPostN _ _ _ _ _ _ _ _ _)); (first | walk1 | (dsimp only; walk1)); (try dsimp only)) | ((with_reducible show (PySem.W.Frag.In _ _ ∧ _)); (refine And.intro (by k_in) ?_))))
        refine c_page ww B9 F9 X9 T9 rfl (by ktr_room) (PySem.IsL.isList (N9 _ (.tail _ (.tail _ (.tail _ (.head _))))).1) I6 (PySem.IsL.isList (N9 _ (.tail _ (.head _))).1) (hLT _ fun p hp => (N9 p (.tail _ (.tail _ (.tail _ (.tail _ (.tail _ (.tail _ (.tail _ (.tail _ hp))))))))).1) (by omega) htl hout (by omega) hwsr htp holen fun x tx h10 tk10 k10 hx => ?_
        rw [homap, hpage] at hx
        subst hx
        have F10 := kp_fr F9 k10
        have N10 := kp_news N9 k10
        clear F9 N9 k10
        (try dsimp only)
        repeat' ((fail_if_success (with_reducible show wpAny _ _ (PySem.call (PySem.Value.ref 102) _ _) _ _ _)); (first | (k_unfold; (try dsimp only)) | ((first | (with_reducible show wpAny _ _ _ _ _ _) | (with_reducible show (ite _ _ _ : Prop)) | (with_reducible show InvPostN _ _ _ _ _ _ _ _ _)); (first | walk1 | (dsimp only; walk1)); (try dsimp only)) | ((with_reducible show (PySem.W.Frag.In _ _ ∧ _)); (refine And.intro (by k_in) ?_))))
        refine c_dec ww B9 F10 X9 T9 rfl (by ktr_room) hs2 (by rw [hs3, hfl]; omega) (by
          rw [hs1]
          intro k hk
          obtain ⟨f, hf, rfl⟩ := List.mem_map.mp hk
          have z := p_sgn (hfr f hf)
          rw [z.2]
          exact ⟨z.1, hfr f hf⟩) (by rw [hs1]; exact hdec) fun r tr h11 tk11 k11 hr => ?_
        have F11 := kp_fr F10 k11
        have N11 := kp_news N10 k11
        clear F10 N10 k11
        (try dsimp only)
        repeat' (first | (k_unfold; (try dsimp only)) | ((first | (with_reducible show wpAny _ _ _ _ _ _) | (with_reducible show (ite _ _ _ : Prop)) | (with_reducible show InvPostN _ _ _ _ _ _ _ _ _)); (first | walk1 | (dsimp only; walk1)); (try dsimp only)) | ((with_reducible show (PySem.W.Frag.In _ _ ∧ _)); (refine And.intro (by k_in) ?_)))
        refine ⟨_, by rw [← hr]; exact src_bytes rfl, F11, N11, ⟨?tests2, ?elt2⟩, ?ret2⟩
        case tests2 =>
          intro C k t3 s₃ m₃ hk FC
          exact tests_nil ⟨rfl, _, _, rfl, fun _ _ e => e⟩
        case elt2 =>
          intro C k t3 s₃ m₃ hk hp FC
          have NC := fr_nil FC
          (try dsimp only at FC NC)
          refine nm_loc FC rfl ?_
          exact ⟨⟨_, rfl⟩, _, _, rfl, fun _ _ e => e⟩
        case ret2 =>
          intro Dr nr rvs2 h12 tk12 F12 N12 hne12 hkeep12 hpair12
          have I12 := paired_ints (g := id) hpair12
          rw [List.map_id, filter_all] at I12
          clear F11 N11 hpair12 hkeep12
          (try dsimp only at F12 N12 ⊢)
          have hrl : rvs2.length = 3 * nums.length := by
            rw [I12.length, ← hzl]
            generalize List.zipWith maskW (nums.map wordF) ts = l
            induction l with
            | nil => rfl
            | cons a r ih => rw [List.flatMap_cons, List.length_append, ih]; simp [oct3]; omega
          repeat' ((fail_if_success (with_reducible show wpAny _ _ (PySem.exec (PySem.Stmt.For _ _ _ _ _) _) _ _ _)); (first | (k_unfold; (try dsimp only)) | ((first | (with_reducible show wpAny _ _ _ _ _ _) | (with_reducible show (ite _ _ _ : Prop)) | (with_reducible show InvPostN _ _ _ _ _ _ _ _ _)); (first | walk1 | (dsimp only; walk1)); (try dsimp only)) | ((with_reducible show (PySem.W.Frag.In _ _ ∧ _)); (refine And.intro (by k_in) ?_))))
          rename Fr _ _ _ _ => F13
          rename News _ _ _ _ => N13
          obtain ⟨lm, hlm⟩ := led_head N13
          subst hlm
          have l1 : Dr < lm ∧ _ := ‹Dr < lm ∧ _›
          have l2 : AllLt lm ([(Dr, listOf rvs2.toArray nr), (L9 + 1 + 1 + 1, o3'), (Dt, listOf tvs.toArray nt), (L9 + 1 + 1, o2'), (Dw, listOf wvs.toArray nw), (L9 + 1, o1'), (lr, listOf rvs.toArray rn), (104, tabObj #[]), (111, tabObj #[])] ++ xs) := l1
          have l3 := allLt_mem l2
          have nfl : ∀ {b : Addr} {o : Obj} {P : Addr} {ps : Array Value} {h : Heap} {l : List (Addr × Obj)}, News gh L9 h l → (b, o) ∈ l → (P, tabObj ps) ∈ l → (∃ x y, o.data = .seq x y) → b ≠ P := fun N hb hP ⟨x, y, hd⟩ e => by
            have h1 := (N _ hb).1
            have h2 := (N _ hP).1
            (try dsimp only at h1 h2)
            rw [e, h2] at h1
            rw [← Option.some.inj h1] at hd; cases hd
          have m104 : (104, tabObj #[]) ∈ ((lm, listOf #[] 0) :: (Dr, listOf rvs2.toArray nr) :: (L9 + 1 + 1 + 1, o3') :: (Dt, listOf tvs.toArray nt) :: (L9 + 1 + 1, o2') :: (Dw, listOf wvs.toArray nw) :: (L9 + 1, o1') :: (lr, listOf rvs.toArray rn) :: (104, tabObj #[]) :: (111, tabObj #[]) :: xs) := .tail _ (.tail _ (.tail _ (.tail _ (.tail _ (.tail _ (.tail _ (.tail _ (.head _))))))))
          have m111 : (111, tabObj #[]) ∈ ((lm, listOf #[] 0) :: (Dr, listOf rvs2.toArray nr) :: (L9 + 1 + 1 + 1, o3') :: (Dt, listOf tvs.toArray nt) :: (L9 + 1 + 1, o2') :: (Dw, listOf wvs.toArray nw) :: (L9 + 1, o1') :: (lr, listOf rvs.toArray rn) :: (104, tabObj #[]) :: (111, tabObj #[]) :: xs) := .tail _ (.tail _ (.tail _ (.tail _ (.tail _ (.tail _ (.tail _ (.tail _ (.tail _ (.head _)))))))))
          have hlm104 : lm ≠ 104 := nfl N13 (.head _) m104 ⟨_, _, rfl⟩
          have hlm111 : lm ≠ 111 := nfl N13 (.head _) m111 ⟨_, _, rfl⟩
          obtain ⟨SL, hSL⟩ : ∃ SL, SL = [(Dr, listOf rvs2.toArray nr), (L9 + 1 + 1 + 1, o3'), (Dt, listOf tvs.toArray nt), (L9 + 1 + 1, o2'), (Dw, listOf wvs.toArray nw), (L9 + 1, o1'), (lr, listOf rvs.toArray rn)] ++ xs := ⟨_, rfl⟩
          have hst : ∀ p ∈ SL, p.1 ≠ lm ∧ p.1 ≠ 104 ∧ p.1 ≠ 111 := fun p hp => by
            rw [hSL] at hp
            have hlt : p.1 < lm := l3 p (by
              rcases List.mem_append.mp hp with hp | hp
              · simp only [List.mem_cons, List.not_mem_nil, or_false, List.mem_append] at hp ⊢
                rcases hp with h | h | h | h | h | h | h <;> simp [h]
              · exact List.mem_append_right _ hp)
            refine ⟨Nat.ne_of_lt hlt, ?_⟩
            rcases List.mem_append.mp hp with hp | hp
            · simp only [List.mem_cons, List.not_mem_nil, or_false] at hp
              rcases hp with h | h | h | h | h | h | h <;> subst h
              · exact ⟨nfl N13 (.tail _ (.head _)) m104 ⟨_, _, rfl⟩, nfl N13 (.tail _ (.head _)) m111 ⟨_, _, rfl⟩⟩
              · exact ⟨(c104 3).symm, (c111 3).symm⟩
              · exact ⟨nfl N13 (.tail _ (.tail _ (.tail _ (.head _)))) m104 ⟨_, _, rfl⟩, nfl N13 (.tail _ (.tail _ (.tail _ (.head _)))) m111 ⟨_, _, rfl⟩⟩
              · exact ⟨(c104 2).symm, (c111 2).symm⟩
              · exact ⟨nfl N13 (.tail _ (.tail _ (.tail _ (.tail _ (.tail _ (.head _)))))) m104 ⟨_, _, rfl⟩, nfl N13 (.tail _ (.tail _ (.tail _ (.tail _ (.tail _ (.head _)))))) m111 ⟨_, _, rfl⟩⟩
              · exact ⟨(c104 1).symm, (c111 1).symm⟩
              · exact ⟨nfl N13 (.tail _ (.tail _ (.tail _ (.tail _ (.tail _ (.tail _ (.tail _ (.head _)))))))) m104 ⟨_, _, rfl⟩, nfl N13 (.tail _ (.tail _ (.tail _ (.tail _ (.tail _ (.tail _ (.tail _ (.head _)))))))) m111 ⟨_, _, rfl⟩⟩
            · have hm := List.mem_append_right [(lm, listOf #[] 0), (Dr, listOf rvs2.toArray nr), (L9 + 1 + 1 + 1, o3'), (Dt, listOf tvs.toArray nt), (L9 + 1 + 1, o2'), (Dw, listOf wvs.toArray nw), (L9 + 1, o1'), (lr, listOf rvs.toArray rn), (104, tabObj #[]), (111, tabObj #[])] hp
              exact ⟨nfl N13 hm m104 (hxd p hp), nfl N13 hm m111 (hxd p hp)⟩
          clear l1 l2 l3 nfl m104 m111
          have mDr : (Dr, listOf rvs2.toArray nr) ∈ SL := by rw [hSL]; exact .head _
          have mlr : (lr, listOf rvs.toArray rn) ∈ SL := by rw [hSL]; exact .tail _ (.tail _ (.tail _ (.tail _ (.tail _ (.tail _ (.head _))))))
          have mc1 : (L9 + 1, o1') ∈ SL := by rw [hSL]; exact .tail _ (.tail _ (.tail _ (.tail _ (.tail _ (.head _)))))
          refine for_exec ?_
          repeat' ((fail_if_success (with_reducible show wpAny _ _ (PySem.call (PySem.Value.builtin "len") _ _) _ _ _)); (first | (k_unfold; (try dsimp only)) | ((first | (with_reducible show wpAny _ _ _ _ _ _) | (with_reducible show (ite _ _ _ : Prop)) | (with_reducible show InvPostN _ _ _ _ _ _ _ _ _)); (first | walk1 | (dsimp only; walk1)); (try dsimp only)) | ((with_reducible show (PySem.W.Frag.In _ _ ∧ _)); (refine And.intro (by k_in) ?_))))
          refine call_len_list (PySem.IsL.isList (N13 _ (.tail _ (.tail _ (.tail _ (.tail _ (.tail _ (.head _))))))).1) (by rw [List.size_toArray, I6.length]; omega) ?_
          rw [List.size_toArray, I6.length, hwl]
          (try dsimp only)
          repeat' ((fail_if_success (with_reducible show wpAny _ _ (PySem.pyIter _) _ _ _)); (first | (k_unfold; (try dsimp only)) | ((first | (with_reducible show wpAny _ _ _ _ _ _) | (with_reducible show (ite _ _ _ : Prop)) | (with_reducible show InvPostN _ _ _ _ _ _ _ _ _)); (first | walk1 | (dsimp only; walk1)); (try dsimp only)) | ((with_reducible show (PySem.W.Frag.In _ _ ∧ _)); (refine And.intro (by k_in) ?_))))
          rename Fr _ _ _ _ => F14
          rename News _ _ _ _ => N14
          rename IsRange _ _ _ _ _ _ _ _ => R14
          have hts2 : ∀ i (hi : i < nums.length), (List.zipWith maskW (nums.map wordF) ts)[i]? = some (maskW (wordF nums[i]) (turnedN (nums[i].fdiv 4096) 4)) := fun i hi => by
            rw [← hts]; simp [hi]
          refine for_rangeX (σ := (List Value × Nat) × Array Value × Array Value × List (Addr × Obj)) (n := nums.length) (fun c => (lm, listOf c.1.1.toArray c.1.2) :: (104, tabObj c.2.1) :: (111, tabObj c.2.2.1) :: (SL ++ c.2.2.2)) (fun _ => [("mended", .ref lm), ("read", .ref Dr)])
            (fun i c => OptsAre c.1.1 ((nums.take i).map backF) ∧ TabL "_int2digits.<locals>.inner" ⟨151, 4, 160, 28⟩ c.2.1 c.2.2.2 ∧ TabL "_digits2int.<locals>.inner" ⟨166, 4, 171, 55⟩ c.2.2.1 c.2.2.2 ∧ ∀ p ∈ c.2.2.2, p.1 ≠ lm ∧ p.1 ≠ 104 ∧ p.1 ≠ 111) (([], 0), #[], #[], []) rfl R14 (small_one (by omega) (by omega) (by omega) (by omega)) (by rw [rangeSize_nat]; omega) F14 ?n14 ?k14 ⟨.nil, .inl rfl, .inl rfl, fun _ h => nomatch h⟩ ?turn ?done (fun _ _ h => h) (fun _ _ => rfl)
          case k14 => exact nam2 (by rfl) (by rfl)
          case n14 =>
            intro p hp
            refine N14 p ?_
            rw [hSL] at hp
            simp only [List.mem_cons, List.not_mem_nil, or_false, List.append_nil, List.mem_append] at hp ⊢
            rcases hp with h | h | h | (h | h | h | h | h | h | h) | h <;> simp [h]
          case turn =>
            rintro ⟨⟨mv, mn⟩, ps8, ps9, ys⟩ i t u h tk I oI hi ⟨hO, hT8, hT9, hyn⟩ hneI F' N' Q' hnext
            clear F14 N14 R14
            (try dsimp only at hO hT8 hT9 hyn hneI F' N' hnext)
            have hmS : ∀ p ∈ SL, p ∈ SL ++ ys := fun p hp => List.mem_append_left _ hp
            have hmY : ∀ p ∈ ys, p ∈ SL ++ ys := fun p hp => List.mem_append_right _ hp
            have nI : lm ≠ I ∧ 104 ≠ I ∧ 111 ≠ I := ⟨hneI _ (.head _), hneI _ (.tail _ (.head _)), hneI _ (.tail _ (.tail _ (.head _)))⟩
            have hneI2 : ∀ p ∈ SL ++ ys, p.1 ≠ I := fun p hp => hneI p (.tail _ (.tail _ (.tail _ hp)))
            obtain ⟨W, hW⟩ : ∃ W, W = maskW (wordF nums[i]) (turnedN (nums[i].fdiv 4096) 4) := ⟨_, rfl⟩
            have hWi := hts2 i hi
            rw [← hW] at hWi
            have hWr := hxr W (List.mem_of_getElem? hWi)
            have hflen : (List.flatMap oct3 (List.zipWith maskW (List.map wordF nums) ts)).length = 3 * nums.length := by rw [← I12.length]; exact hrl
            have hsm : ∀ a b : Int, a = 3 * (i : Int) → b = 3 * (i : Int) + 3 → IntsAre (slicePick rvs2.toArray (some a) (some b) none).toList (oct3 W) := fun a b ha hb => by
              have z := slice_ints I12 (x := a) (y := b) (by omega) (by omega) (by omega)
              rw [show a.toNat = 3 * i from by omega, show (b - a).toNat = 3 from by omega, oct_at _ i W hWi] at z
              exact z
            have hval : dval (oct3 W).reverse = W := by
              have z := (p_dval hWr).2
              show W.fmod 256 + 256 * ((W.fdiv 256).fmod 256 + 256 * (W.fdiv 65536 + 256 * 0)) = W
              rw [Int.fmod_eq_emod_of_nonneg _ (by decide), Int.fmod_eq_emod_of_nonneg _ (by decide), Int.fdiv_eq_ediv_of_nonneg _ (by decide), Int.fdiv_eq_ediv_of_nonneg _ (by decide)]
              omega
            refine wpAny_assign_Name ?_
            refine storeX_L F' N' fun h8 F8 N8 => ?_
            clear F' N'
            (try dsimp only)
            repeat' ((fail_if_success (with_reducible show wpAny _ _ (PyProof.Rows.subscriptTail _ _ _ _) _ _ _)); (first | (k_unfold; (try dsimp only)) | ((first | (with_reducible show wpAny _ _ _ _ _ _) | (with_reducible show (ite _ _ _ : Prop)) | (with_reducible show InvPostN _ _ _ _ _ _ _ _ _)); (first | walk1 | (dsimp only; walk1)); (try dsimp only)) | ((with_reducible show (PySem.W.Frag.In _ _ ∧ _)); (refine And.intro (by k_in) ?_))))
            refine' kmk_slice_ints (s := { s1 with heap := h8, toks := _ }) ?uaF ?uaN ?ual ?uap ?uaq ?uai ?uam ?uac ?uak ?uas ?uat ?uaz
            case uaF => exact F8
            case uaN => exact N8
            case ual => exact PySem.IsL.isList (N8 _ (.tail _ (.tail _ (.tail _ (.tail _ (hmS _ mDr)))))).1
            case uap => exact IsPart.int _ _
            case uaq => exact IsPart.int _ _
            case uai => exact I12
            case uam => exact hsm _ _ (by omega) (by omega)
            case uac => rfl
            case uas => with_unfolding_all rfl
            case uat => intro _; with_unfolding_all rfl
            case uaz => rw [List.size_toArray, hrl, PySem.sizeLine_eq]; omega
            intro D1 ws1 h9 F9 N9 _ I9 _ _
            clear F8 N8
            (try dsimp only)
            repeat' ((fail_if_success (with_reducible show wpAny _ _ (PyProof.Rows.subscriptTail _ _ _ _) _ _ _)); (first | (k_unfold; (try dsimp only)) | ((first | (with_reducible show wpAny _ _ _ _ _ _) | (with_reducible show (ite _ _ _ : Prop)) | (with_reducible show InvPostN _ _ _ _ _ _ _ _ _)); (first | walk1 | (dsimp only; walk1)); (try dsimp only)) | ((with_reducible show (PySem.W.Frag.In _ _ ∧ _)); (refine And.intro (by k_in) ?_))))
            refine kba_turn (value' := PySem.Expr.Name (PySem.Str.ofString "_") ⟨0, 0, 0, 0⟩) (fun _ => rfl) ?_
            refine' krv_ints (s := { s1 with heap := h9, toks := _ }) ?ubF ?ubN ?ubl ?ubp ?ubi ?ubk ?ubs ?ubt ?ubz
            case ubF => exact F9
            case ubN => exact N9
            case ubl => exact PySem.IsL.isList (N9 _ (.head _)).1
            case ubp => exact IsPart.int _ _
            case ubi => exact I9
            case ubs => with_unfolding_all rfl
            case ubt => intro _; with_unfolding_all rfl
            case ubz => rw [List.size_toArray, I9.length, PySem.sizeLine_eq]; exact (by decide : 3 ≤ 16777216)
            intro D2 ws2 h10 F10 N10 _ I10 _
            clear F9 N9
            (try dsimp only)
            repeat' ((fail_if_success (with_reducible show wpAny _ _ (PySem.call (PySem.Value.ref 116) _ _) _ _ _)); (first | (k_unfold; (try dsimp only)) | ((first | (with_reducible show wpAny _ _ _ _ _ _) | (with_reducible show (ite _ _ _ : Prop)) | (with_reducible show InvPostN _ _ _ _ _ _ _ _ _)); (first | walk1 | (dsimp only; walk1)); (try dsimp only)) | ((with_reducible show (PySem.W.Frag.In _ _ ∧ _)); (refine And.intro (by k_in) ?_))))
            refine c_d2i ww B9 F10 X9 T9 rfl (by ktr_room) (news_sub N10 (List.forall_mem_cons.mpr ⟨.tail _ (.tail _ (.tail _ (.tail _ (.tail _ (.head _))))), List.forall_mem_nil _⟩)) C9 (hT9.ok fun p hp => (N10 p (.tail _ (.tail _ (.tail _ (.tail _ (.tail _ (.tail _ (hmY p hp)))))))).1)
              (PySem.IsL.isList (N10 _ (.head _)).1) I10 rfl (p_dval hWr).1 fun t11 h11 tk11 c9 k11 e111 hrec9 hnew9 => ?_
            obtain ⟨zs9, hT9', hz9⟩ := tab_step (pos := ⟨166, 4, 171, 55⟩) hT9 hrec9 hnew9
            have F11 := kpx_fr F10 (news_sub N10 (List.forall_mem_cons.mpr ⟨.tail _ (.tail _ (.tail _ (.tail _ (.tail _ (.head _))))), List.forall_mem_nil _⟩)) k11
            have hzo9 : ∀ p ∈ zs9, p.1 ≠ lm ∧ p.1 ≠ 104 ∧ p.1 ≠ 111 ∧ p.1 ≠ I := fun p hp => ⟨zs_off hz9 (N10 _ (.tail _ (.tail _ (.tail _ (.head _))))).1 p hp, zs_off hz9 (N10 _ (.tail _ (.tail _ (.tail _ (.tail _ (.head _)))))).1 p hp, zs_off hz9 (N10 _ (.tail _ (.tail _ (.tail _ (.tail _ (.tail _ (.head _))))))).1 p hp, zs_off hz9 (N10 _ (.tail _ (.tail _ (.head _)))).1 p hp⟩
            have N11 : News gh L9 h11 ((I, oI) :: (lm, listOf mv.toArray mn) :: (104, tabObj ps8) :: (111, tabObj #[rawInt 166, rawInt 4, .ref c9]) :: (SL ++ (zs9 ++ ys))) := news_tab F10 N10 (.tail _ (.tail _ (.tail _ (.tail _ (.tail _ (.head _)))))) k11 (fun a ha => .inl (List.mem_singleton.mp ha)) e111 hz9 fun p hp => by
              simp only [List.mem_cons, List.mem_append] at hp ⊢
              rcases hp with h | h | h | h | h | h | h
              · exact .inl ⟨by simp [h], by rw [h]; exact nI.2.2.symm⟩
              · exact .inl ⟨by simp [h], by rw [h]; exact hlm111⟩
              · exact .inl ⟨by simp [h], by rw [h]; exact (by decide : (104 : Nat) ≠ 111)⟩
              · exact .inr (.inl h)
              · exact .inl ⟨by simp [h], (hst p h).2.2⟩
              · exact .inr (.inr h)
              · exact .inl ⟨by simp [h], (hyn p h).2.2⟩
            clear F10 N10 k11 e111 hz9 hrec9 hnew9 hT9
            rw [hval]
            have hyn9 : ∀ p ∈ zs9 ++ ys, p.1 ≠ lm ∧ p.1 ≠ 104 ∧ p.1 ≠ 111 ∧ p.1 ≠ I := fun p hp => by
              rcases List.mem_append.mp hp with hp | hp
              · exact hzo9 p hp
              · exact ⟨(hyn p hp).1, (hyn p hp).2.1, (hyn p hp).2.2, hneI2 p (hmY p hp)⟩
            replace hT8 := hT8.mono (zs := zs9 ++ ys) fun p hp => List.mem_append_right _ hp
            have hneS : ∀ p ∈ SL, p.1 ≠ I := fun p hp => hneI2 p (hmS p hp)
            clear hmS hmY hneI2 hneI hyn hzo9
            generalize zs9 ++ ys = ys9 at *
            have hc1 := (N11 _ (.tail _ (.tail _ (.tail _ (.tail _ (List.mem_append_left _ mc1)))))).1
            (try dsimp only at hc1)
            (try dsimp only)
            repeat' ((fail_if_success (with_reducible show wpAny _ _ (PySem.eval (PySem.Expr.Name (PySem.Str.ofString "rows") _) _) _ _ _)); (first | (k_unfold; (try dsimp only)) | ((first | (with_reducible show wpAny _ _ _ _ _ _) | (with_reducible show (ite _ _ _ : Prop)) | (with_reducible show InvPostN _ _ _ _ _ _ _ _ _)); (first | walk1 | (dsimp only; walk1)); (try dsimp only)) | ((with_reducible show (PySem.W.Frag.In _ _ ∧ _)); (refine And.intro (by k_in) ?_))))
            refine nm_cell rfl hc1 e1' ?_
            repeat' ((fail_if_success (with_reducible show wpAny _ _ (PySem.call (PySem.Value.ref 157) _ _) _ _ _)); (first | (k_unfold; (try dsimp only)) | ((first | (with_reducible show wpAny _ _ _ _ _ _) | (with_reducible show (ite _ _ _ : Prop)) | (with_reducible show InvPostN _ _ _ _ _ _ _ _ _)); (first | walk1 | (dsimp only; walk1)); (try dsimp only)) | ((with_reducible show (PySem.W.Frag.In _ _ ∧ _)); (refine And.intro (by k_in) ?_))))
            refine c_mend ww B9 F11 X9 T9 rfl (by ktr_room) (news_sub N11 (List.forall_mem_cons.mpr ⟨.tail _ (.tail _ (.head _)), List.forall_mem_nil _⟩)) C8 (hT8.ok fun p hp => (N11 p (.tail _ (.tail _ (.tail _ (.tail _ (List.mem_append_right _ hp)))))).1)
              (PySem.IsL.isList (N11 _ (.tail _ (.tail _ (.tail _ (.tail _ (List.mem_append_left _ mlr)))))).1) hIr rfl hWr.1 hWr.2 fun r12 h12 tk12 c8 k12 hns12 e104 hrec8 hnew8 hm => ?_
            obtain ⟨zs8, hT8', hz8⟩ := tab_step (pos := ⟨151, 4, 160, 28⟩) hT8 hrec8 hnew8
            have has8 : ∀ a ∈ [104, L9], a = 104 ∨ a = L9 := fun a ha => by simpa using ha
            have F12 := fr_tab F11 N11 (.tail _ (.tail _ (.head _))) k12 has8 hns12
            have hzo8 : ∀ p ∈ zs8, p.1 ≠ lm ∧ p.1 ≠ 104 ∧ p.1 ≠ 111 ∧ p.1 ≠ I := fun p hp => ⟨zs_off hz8 (N11 _ (.tail _ (.head _))).1 p hp, zs_off hz8 (N11 _ (.tail _ (.tail _ (.head _)))).1 p hp, zs_off hz8 (N11 _ (.tail _ (.tail _ (.tail _ (.head _))))).1 p hp, zs_off hz8 (N11 _ (.head _)).1 p hp⟩
            have N12 : News gh L9 h12 ((lm, listOf mv.toArray mn) :: (I, oI) :: (104, tabObj #[rawInt 151, rawInt 4, .ref c8]) :: (111, tabObj #[rawInt 166, rawInt 4, .ref c9]) :: (SL ++ (zs8 ++ ys9))) := news_tab F11 N11 (.tail _ (.tail _ (.head _))) k12 has8 e104 hz8 fun p hp => by
              simp only [List.mem_cons, List.mem_append] at hp ⊢
              rcases hp with h | h | h | h | h | h | h
              · exact .inl ⟨by simp [h], by rw [h]; exact hlm104⟩
              · exact .inl ⟨by simp [h], by rw [h]; exact nI.2.1.symm⟩
              · exact .inr (.inl h)
              · exact .inl ⟨by simp [h], by rw [h]; exact (by decide : (111 : Nat) ≠ 104)⟩
              · exact .inl ⟨by simp [h], (hst p h).2.1⟩
              · exact .inr (.inr h)
              · exact .inl ⟨by simp [h], (hyn9 p h).2.1⟩
            clear F11 N11 k12 e104 hz8 hrec8 hnew8 hT8 has8 hns12 hc1
            rw [hW, p_law] at hm
            have hyn8 : ∀ p ∈ zs8 ++ ys9, p.1 ≠ lm ∧ p.1 ≠ 104 ∧ p.1 ≠ 111 ∧ p.1 ≠ I := fun p hp => by
              rcases List.mem_append.mp hp with hp | hp
              · exact hzo8 p hp
              · exact hyn9 p hp
            replace hT9' := hT9'.mono (zs := zs8 ++ ys9) fun p hp => List.mem_append_right _ hp
            clear hyn9 hzo8
            generalize zs8 ++ ys9 = ys8 at *
            have hO' : OptsAre (mv ++ [r12]) ((nums.take (i + 1)).map backF) := by
              rw [take_at (List.getElem?_eq_getElem hi), List.map_append]
              exact hO.snoc hm
            have hmvl : mv.length ≤ 3 := by rw [hO.length, List.length_map, List.length_take]; omega
            (try dsimp only)
            repeat' ((fail_if_success (with_reducible show wpAny _ _ (PySem.call (PySem.Value.builtin "list.append") _ _) _ _ _)); (first | (k_unfold; (try dsimp only)) | ((first | (with_reducible show wpAny _ _ _ _ _ _) | (with_reducible show (ite _ _ _ : Prop)) | (with_reducible show InvPostN _ _ _ _ _ _ _ _ _)); (first | walk1 | (dsimp only; walk1)); (try dsimp only)) | ((with_reducible show (PySem.W.Frag.In _ _ ∧ _)); (refine And.intro (by k_in) ?_))))
            refine append_M (vs := mv) (n := mn) F12 N12 ?_ (by omega) fun h13 F13 N13 => ?_
            · intro p hp
              simp only [List.mem_cons, List.mem_append] at hp
              rcases hp with h | h | h | h | h
              · rw [h]; exact nI.1.symm
              · rw [h]; exact hlm104.symm
              · rw [h]; exact hlm111.symm
              · exact (hst p h).1
              · exact (hyn8 p h).1
            clear F12 N12
            (try dsimp only)
            repeat' (first | (k_unfold; (try dsimp only)) | ((first | (with_reducible show wpAny _ _ _ _ _ _) | (with_reducible show (ite _ _ _ : Prop)) | (with_reducible show InvPostN _ _ _ _ _ _ _ _ _)); (first | walk1 | (dsimp only; walk1)); (try dsimp only)) | ((with_reducible show (PySem.W.Frag.In _ _ ∧ _)); (refine And.intro (by k_in) ?_)))
            refine hnext ((mv ++ [r12], mn + 1), #[rawInt 151, rawInt 4, .ref c8], #[rawInt 166, rawInt 4, .ref c9], ys8) _ _ _ ‹Fr _ _ _ _› (fun p hp => N13 p ?_) (fun p hp => ?_) (nam2 rfl rfl) ⟨hO', hT8', hT9', fun p hp => ⟨(hyn8 p hp).1, (hyn8 p hp).2.1, (hyn8 p hp).2.2.1⟩⟩
            · simp only [List.mem_cons, List.mem_append] at hp ⊢
              rcases hp with h | h | h | h | h | h <;> simp [h]
            · simp only [List.mem_cons, List.mem_append] at hp
              rcases hp with h | h | h | h | h
              · rw [h]; exact nI.1
              · rw [h]; exact nI.2.1
              · rw [h]; exact nI.2.2
              · exact hneS p h
              · exact (hyn8 p h).2.2.2
          case done =>
            rintro ⟨⟨mv, mn⟩, ps8, ps9, ys⟩ u h tk ⟨hO, hT8, hT9, hyn⟩ F' N'
            clear F14 N14 R14
            (try dsimp only at hO hT8 hT9 hyn F' N' ⊢)
            rw [List.take_length] at hO
            have mDt : (Dt, listOf tvs.toArray nt) ∈ SL := by rw [hSL]; exact .tail _ (.tail _ (.head _))
            have mDw : (Dw, listOf wvs.toArray nw) ∈ SL := by rw [hSL]; exact .tail _ (.tail _ (.tail _ (.tail _ (.head _))))
            have mc2 : (L9 + 1 + 1, o2') ∈ SL := by rw [hSL]; exact .tail _ (.tail _ (.tail _ (.head _)))
            have mc3 : (L9 + 1 + 1 + 1, o3') ∈ SL := by rw [hSL]; exact .tail _ (.head _)
            have mxs : ∀ p ∈ xs, p ∈ SL := fun p hp => by rw [hSL]; exact List.mem_append_right _ hp
            have mS : ∀ p ∈ SL, p ∈ ((lm, listOf mv.toArray mn) :: (104, tabObj ps8) :: (111, tabObj ps9) :: (SL ++ ys)) := fun p hp => .tail _ (.tail _ (.tail _ (List.mem_append_left _ hp)))
            clear hT8 hT9 hyn hst hSL
            repeat' ((fail_if_success (with_reducible show wpAny _ _ (PySem.eval (PySem.Expr.ListComp _ _ _ _) _) _ _ _)); (first | (k_unfold; (try dsimp only)) | ((first | (with_reducible show wpAny _ _ _ _ _ _) | (with_reducible show (ite _ _ _ : Prop)) | (with_reducible show InvPostN _ _ _ _ _ _ _ _ _)); (first | walk1 | (dsimp only; walk1)); (try dsimp only)) | ((with_reducible show (PySem.W.Frag.In _ _ ∧ _)); (refine And.intro (by k_in) ?_))))
            refine comp_expr (ks := rangeKs 0 nums.length) (fun _ => true) (fun k y => OptV (backF (nums.getD k.toNat 0)) y) rfl (by decide) rfl (by decide) rfl (by rw [PySem.sizeLine_eq]; simp [rangeKs]; omega) ?_
            repeat' ((fail_if_success (with_reducible show wpAny _ _ (PySem.eval (PySem.Expr.Name (PySem.Str.ofString "words") _) _) _ _ _)); (first | (k_unfold; (try dsimp only)) | ((first | (with_reducible show wpAny _ _ _ _ _ _) | (with_reducible show (ite _ _ _ : Prop)) | (with_reducible show InvPostN _ _ _ _ _ _ _ _ _)); (first | walk1 | (dsimp only; walk1)); (try dsimp only)) | ((with_reducible show (PySem.W.Frag.In _ _ ∧ _)); (refine And.intro (by k_in) ?_))))
            have hcw := (N' _ (mS _ mc2)).1
            (try dsimp only at hcw)
            refine nm_cell rfl hcw e2' ?_
            repeat' ((fail_if_success (with_reducible show wpAny _ _ (PySem.call (PySem.Value.builtin "len") _ _) _ _ _)); (first | (k_unfold; (try dsimp only)) | ((first | (with_reducible show wpAny _ _ _ _ _ _) | (with_reducible show (ite _ _ _ : Prop)) | (with_reducible show InvPostN _ _ _ _ _ _ _ _ _)); (first | walk1 | (dsimp only; walk1)); (try dsimp only)) | ((with_reducible show (PySem.W.Frag.In _ _ ∧ _)); (refine And.intro (by k_in) ?_))))
            refine call_len_list (PySem.IsL.isList (N' _ (mS _ mDw)).1) (by rw [List.size_toArray, I6.length]; omega) ?_
            rw [List.size_toArray, I6.length, hwl]
            (try dsimp only)
            clear hcw
            repeat' (first | (k_unfold; (try dsimp only)) | ((first | (with_reducible show wpAny _ _ _ _ _ _) | (with_reducible show (ite _ _ _ : Prop)) | (with_reducible show InvPostN _ _ _ _ _ _ _ _ _)); (first | walk1 | (dsimp only; walk1)); (try dsimp only)) | ((with_reducible show (PySem.W.Frag.In _ _ ∧ _)); (refine And.intro (by k_in) ?_)))
            rename Fr _ _ _ _ => F15
            rename News _ _ _ _ => N15
            rename IsRange _ _ _ _ _ _ _ _ => R15
            refine ⟨src_range rfl R15 (small_one (by omega) (by omega) (by omega) (by omega)) (by rw [rangeSize_nat]; omega), ⟨?testsE, ?eltE⟩, ?retE⟩
            case testsE =>
              intro C k t3 s₃ m₃ hk FC
              exact tests_nil ⟨rfl, _, _, rfl, fun _ _ e => e⟩
            case eltE =>
              rintro C k t3 ⟨hs, gs, ds, tks, os⟩ m₃ hk hp FC
              have hkr := rangeKs_rng k hk
              have hct := FC.keep _ _ (N15 _ (mS _ mc3)).1
              have hcw := FC.keep _ _ (N15 _ (mS _ mc2)).1
              have hDt := FC.keep _ _ (N15 _ (mS _ mDt)).1
              have hDw := FC.keep _ _ (N15 _ (mS _ mDw)).1
              have hLs := hLT hs fun p hp => FC.keep _ _ (N15 _ (mS _ (mxs p hp))).1
              (try dsimp only at FC hct hcw hDt hDw)
              have hkn : k.toNat < nums.length := by omega
              have htk : ts[k.toNat]? = some (turnedN (nums[k.toNat].fdiv 4096) 4) := by rw [← hts]; simp [hkn]
              have hwk : (nums.map wordF)[k.toNat]? = some (wordF nums[k.toNat]) := by simp [hkn]
              have hgd : nums.getD k.toNat 0 = nums[k.toNat] := by rw [List.getD_eq_getElem?_getD, List.getElem?_eq_getElem hkn]; rfl
              obtain ⟨lt, us, hus, hlt, hiu⟩ := hLs.get htk
              obtain ⟨tw, hxw⟩ := I6.get k.toNat _ hwk
              have htl4 := turnedN_length (nums[k.toNat].fdiv 4096) 4
              repeat' ((fail_if_success (with_reducible show wpAny _ _ (PySem.eval (PySem.Expr.Name (PySem.Str.ofString "len") _) _) _ _ _)); (first | (k_unfold; (try dsimp only)) | ((first | (with_reducible show wpAny _ _ _ _ _ _) | (with_reducible show (ite _ _ _ : Prop)) | (with_reducible show InvPostN _ _ _ _ _ _ _ _ _)); (first | walk1 | (dsimp only; walk1)); (try dsimp only)) | ((with_reducible show (PySem.W.Frag.In _ _ ∧ _)); (refine And.intro (by k_in) ?_))))
              refine nm_blt (Kp.trans F15.keep FC.keep) X9 T9 (by k_is) boot_len (by decide) ?_
              repeat' ((fail_if_success (with_reducible show wpAny _ _ (PySem.eval (PySem.Expr.Name (PySem.Str.ofString "turned") _) _) _ _ _)); (first | (k_unfold; (try dsimp only)) | ((first | (with_reducible show wpAny _ _ _ _ _ _) | (with_reducible show (ite _ _ _ : Prop)) | (with_reducible show InvPostN _ _ _ _ _ _ _ _ _)); (first | walk1 | (dsimp only; walk1)); (try dsimp only)) | ((with_reducible show (PySem.W.Frag.In _ _ ∧ _)); (refine And.intro (by k_in) ?_))))
              refine nm_cell rfl hct e3' ?_
              repeat' ((fail_if_success (with_reducible show wpAny _ _ (PySem.eval (PySem.Expr.Name (PySem.Str.ofString "i") _) _) _ _ _)); (first | (k_unfold; (try dsimp only)) | ((first | (with_reducible show wpAny _ _ _ _ _ _) | (with_reducible show (ite _ _ _ : Prop)) | (with_reducible show InvPostN _ _ _ _ _ _ _ _ _)); (first | walk1 | (dsimp only; walk1)); (try dsimp only)) | ((with_reducible show (PySem.W.Frag.In _ _ ∧ _)); (refine And.intro (by k_in) ?_))))
              refine nm_loc FC rfl ?_
              repeat' ((fail_if_success (with_reducible show wpAny _ _ (PyProof.Rows.subscriptTail _ _ _ _) _ _ _)); (first | (k_unfold; (try dsimp only)) | ((first | (with_reducible show wpAny _ _ _ _ _ _) | (with_reducible show (ite _ _ _ : Prop)) | (with_reducible show InvPostN _ _ _ _ _ _ _ _ _)); (first | walk1 | (dsimp only; walk1)); (try dsimp only)) | ((with_reducible show (PySem.W.Frag.In _ _ ∧ _)); (refine And.intro (by k_in) ?_))))
              refine itemL (PySem.IsL.isList hDt) hkr.1 (by omega) hus ?_
              repeat' ((fail_if_success (with_reducible show wpAny _ _ (PySem.call (PySem.Value.builtin "len") _ _) _ _ _)); (first | (k_unfold; (try dsimp only)) | ((first | (with_reducible show wpAny _ _ _ _ _ _) | (with_reducible show (ite _ _ _ : Prop)) | (with_reducible show InvPostN _ _ _ _ _ _ _ _ _)); (first | walk1 | (dsimp only; walk1)); (try dsimp only)) | ((with_reducible show (PySem.W.Frag.In _ _ ∧ _)); (refine And.intro (by k_in) ?_))))
              refine call_len_list hlt (by rw [List.size_toArray, hiu.length]; omega) ?_
              rw [List.size_toArray, hiu.length]
              (try dsimp only)
              repeat' ((fail_if_success (with_reducible show wpAny _ _ (PySem.eval (PySem.Expr.Name (PySem.Str.ofString "words") _) _) _ _ _)); (first | (k_unfold; (try dsimp only)) | ((first | (with_reducible show wpAny _ _ _ _ _ _) | (with_reducible show (ite _ _ _ : Prop)) | (with_reducible show InvPostN _ _ _ _ _ _ _ _ _)); (first | walk1 | (dsimp only; walk1)); (try dsimp only)) | ((with_reducible show (PySem.W.Frag.In _ _ ∧ _)); (refine And.intro (by k_in) ?_))))
              · refine nm_cell rfl hcw e2' ?_
                repeat' ((fail_if_success (with_reducible show wpAny _ _ (PySem.eval (PySem.Expr.Name (PySem.Str.ofString "i") _) _) _ _ _)); (first | (k_unfold; (try dsimp only)) | ((first | (with_reducible show wpAny _ _ _ _ _ _) | (with_reducible show (ite _ _ _ : Prop)) | (with_reducible show InvPostN _ _ _ _ _ _ _ _ _)); (first | walk1 | (dsimp only; walk1)); (try dsimp only)) | ((with_reducible show (PySem.W.Frag.In _ _ ∧ _)); (refine And.intro (by k_in) ?_))))
                refine nm_loc FC rfl ?_
                repeat' ((fail_if_success (with_reducible show wpAny _ _ (PyProof.Rows.subscriptTail _ _ _ _) _ _ _)); (first | (k_unfold; (try dsimp only)) | ((first | (with_reducible show wpAny _ _ _ _ _ _) | (with_reducible show (ite _ _ _ : Prop)) | (with_reducible show InvPostN _ _ _ _ _ _ _ _ _)); (first | walk1 | (dsimp only; walk1)); (try dsimp only)) | ((with_reducible show (PySem.W.Frag.In _ _ ∧ _)); (refine And.intro (by k_in) ?_))))
                refine itemL (PySem.IsL.isList hDw) hkr.1 (by omega) hxw ?_
                refine ⟨?_, _, _, rfl, fun _ _ e => e⟩
                rw [hgd, backF, if_pos (by omega)]
                exact ⟨_, rfl⟩
              · refine ⟨?_, _, _, rfl, fun _ _ e => e⟩
                rw [hgd, backF, if_neg (by omega)]
                exact rfl
            case retE =>
              intro D6 n6 ys6 h16 tk16 kp16 hD6n hD6 hpair6
              have F16 := kp_fr F15 kp16
              have N16 := news_cons F15 (kp_news N15 kp16) hD6 hD6n
              clear F15 N15 R15
              (try dsimp only at F16 N16 ⊢)
              repeat' ((fail_if_success (with_reducible show wpAny _ _ (PySem.compareOp _ _ _) _ _ _)); (first | (k_unfold; (try dsimp only)) | ((first | (with_reducible show wpAny _ _ _ _ _ _) | (with_reducible show (ite _ _ _ : Prop)) | (with_reducible show InvPostN _ _ _ _ _ _ _ _ _)); (first | walk1 | (dsimp only; walk1)); (try dsimp only)) | ((with_reducible show (PySem.W.Frag.In _ _ ∧ _)); (refine And.intro (by k_in) ?_))))
              have O6 := paired_opts hpair6
              rw [filter_all, back_all] at O6
              refine kqd_eq N16 (.tail _ (.head _)) rfl rfl (opts_dat hO) (fun _ h => nomatch h) (.head _) rfl rfl (opts_dat O6) (fun _ h => nomatch h) (dat_ok _) (dat_ok _) (by units_room) ?_
              rw [show ∀ i : Decidable (List.map datO (List.map backF nums) = List.map datO (List.map backF nums)), @decide _ i = true from fun i => @decide_eq_true _ i rfl]
              (try dsimp only)
              repeat' (first | (k_unfold; (try dsimp only)) | ((first | (with_reducible show wpAny _ _ _ _ _ _) | (with_reducible show (ite _ _ _ : Prop)) | (with_reducible show InvPostN _ _ _ _ _ _ _ _ _)); (first | walk1 | (dsimp only; walk1)); (try dsimp only)) | ((with_reducible show (PySem.W.Frag.In _ _ ∧ _)); (refine And.intro (by k_in) ?_)))
              exact hend _ _ _ ps8 ps9 F16 (news_sub N16 (List.forall_mem_cons.mpr ⟨.tail _ (.tail _ (.head _)), List.forall_mem_cons.mpr ⟨.tail _ (.tail _ (.tail _ (.head _))), List.forall_mem_nil _⟩⟩)))
end
end Mine
theorem PySem.Challenge.cw_qh0050_01_holds : PySem.Challenge.rw_qh0050_01.Holds := by
  exact Mine.law_holds
