import PyProof.Rows.All
import Wide.All
import OpenK.AllK
import Wide.FinOn
import PySem.Challenge.RW_rw0076_01
open PySem PySem.W PyProof.Rows
set_option Elab.async false
set_option maxRecDepth 100000
set_option maxHeartbeats 8000000
local macro_rules | `(tactic| walk_at $s:str) => `(tactic| k_extra $s)
namespace Mine
-- the head: K stands as hd.heap_N; hd.1 is the walk's statement (delta hd; dsimp only), hd.2 : hd.1 -> Holds. The goals hl and hc lie ready under their names ahead of k_head, so that its refine takes them: hl is closed at once by one check (the library's pieces weigh 15.7 MB compiled, this 2.8)
theorem three {A B C : Prop} (a : A) (_ : B) (_ : C) : A := a
set_option maxRecDepth 100000 in
set_option maxHeartbeats 8000000 in
noncomputable def hd : {W : Prop // W → PySem.Challenge.rw_rw0076_01.Holds} := by
  refine' ⟨_, fun walk => ?main⟩
  case main =>
    w_on
    o_law
    refine' three ?mm ?hl ?hc
    case mm =>
      k_head
      all_goals w_witness2
    case hc => exact walk
    case hl => intro w; kernel_rfl
end Mine
namespace Mine
open PySem PySem.W PySem.Spec PySem.Calls PyProof.Rows

section
variable {h₀ h h' : Heap} {L : Addr} {m : Str → Option Value} {news : List (Addr × Obj)}
theorem fr_stays (F : Fr h₀ L h m) (st : h.StaysIn h') : Fr h₀ L h' m := by
  obtain ⟨oL, a1, a2, hL, a3⟩ := F.ns
  exact ⟨⟨oL, a1, a2, st _ _ hL, a3⟩, fun b o e => st _ _ (F.keep b o e), F.above⟩
theorem news_stays (N : News h₀ L h news) (st : h.StaysIn h') : News h₀ L h' news :=
  fun p hp => ⟨st _ _ (N p hp).1, (N p hp).2.1, (N p hp).2.2⟩
theorem stays_trans {a b c : Heap} (x : a.StaysIn b) (y : b.StaysIn c) : a.StaysIn c := fun p o e => y _ _ (x p o e)
end

/-- what a call of the def at f hands back: all that stands stays as it stands, nothing is raised -/
def Tel (prog : Program) (w : World) (K : Frag) (p : Program) (loose : List Str) (mean : ExcName → Option Value) (mg mb : Str → Option Value)
    (f : Addr) (dn un : Nat) (vs : List Value) (Pre : Heap → Prop) (Out : Heap → Heap → Value → Prop) : Prop :=
  ∀ (dp uu : Nat) (gd : Option (List Code)) (cn : Str) (cs : Scope) (a : Addr) (ccd : Value) (cl : List (Str × Addr)) (outer : List Env) (A₀ : Around) (base h₀ : Heap) (L : Addr) (m : Str → Option Value) (s : Shared) (Q E : Value → Shared → Prop),
    Below A₀ base outer h₀ → Fr h₀ L s.heap m → K.In h₀ → Top p loose mean mg mb h₀ → cs.kind = .function →
    dp + dn + 1 < recursionLimit → uu + un + 3 < cLine → Pre s.heap →
    (∀ r h' tk', s.heap.StaysIn h' → Out s.heap h' r → Q r { s with heap := h', toks := tk' }) →
    wpAny (model prog w) (ktrTop dp uu gd cn cs L a ccd cl outer) (call (.ref f) vs) Q E s

section
variable {prog : Program} {w : World} {K : Frag} {p : Program} {loose : List Str} {mean : ExcName → Option Value} {mg mb : Str → Option Value} {f : Addr} {dn un : Nat} {vs : List Value} {Pre : Heap → Prop} {Out : Heap → Heap → Value → Prop}

theorem tel_of {name qual : Str} {params : Arguments} {body : List Stmt} {scope : Scope} {dV kV doc pm cdv ct oc : Value} {an od : Option Addr} {osl : Array (Option Value)} {binds : List (Str × Value)}
    (ho : K.lookup f = some ⟨oc, od, .func (fnOf name qual params body scope dV kV doc pm an cdv ct), osl⟩) (hcd : codeIn K cdv qual = true)
    (hbind : ∀ s, BindsTo s (fnOf name qual params body scope dV kV doc pm an cdv ct) ⟨vs, []⟩ binds) (hloc : ∀ y ∈ binds, scope.names.lookup y.1 = some .local)
    (hcell : ∀ x ∈ scope.names, x.2 ≠ .cell) (hco : scope.isCoroutine = false) (hgen : scope.isGenerator = false) (hk : scope.kind = .function)
    (h : ∀ (dp uu : Nat) (gd : Option (List Code)) (outer : List Env) (A₀ : Around) (base g : Heap) (L' : Addr) (s : Shared) (Q : Value → Shared → Prop),
      Below A₀ base outer g → Fr g L' s.heap (fun y => binds.reverse.lookup y) → News g L' s.heap [] → K.In g → Top p loose mean mg mb g → dp + dn < recursionLimit → uu + un < cLine → Pre g →
      (∀ r h' tk', g.StaysIn h' → Out g h' r → Q r { s with heap := h', toks := tk' }) →
      wpAny (model prog w) (ktrTop dp uu gd qual scope L' f cdv [] outer) (execs body (envX qual scope L' f cdv [])) (fun fl s' => Q (match fl with | .ret v => v | _ => .none) s') (fun _ _ => False) s) :
    Tel prog w K p loose mean mg mb f dn un vs Pre Out := by
  intro dp uu gd cn cs a ccd cl outer A₀ base h₀ L m s Q E B F X T hcs hd hu hpre hret
  refine wpAny_call ?_
  have X' : K.In s.heap := X.keeps F.keep
  refine codeAny_call_def (fd := fnOf name qual params body scope dV kV doc pm an cdv ct) (body := body) (binds := binds) ?_ (X' _ _ ho) rfl (T.nolimit.keeps F.keep) (codeRec_of X' hcd) rfl (hbind s) hcell hloc (fun h₁ hns hk₁ => ?_) hco hgen hk
  · show dp < recursionLimit; omega
  have B₁ := pushX (env := envX cn cs L a ccd cl) B F rfl hcs
  have F₁ : Fr s.heap s.heap.objs.size h₁ (fun y => binds.reverse.lookup y) := ⟨hns, hk₁, Nat.le_refl _⟩
  have := h (dp + 1) (uu + 3) gd (envX cn cs L a ccd cl :: outer) _ base s.heap s.heap.objs.size { s with heap := h₁, toks := s.toks + binds.length } Q B₁ F₁ News.nil X' (T.keeps F.keep) (by omega) (by omega) hpre hret
  exact wpAny_mono this (fun fl s' hl => by cases fl <;> exact hl) fun _ _ y => y.elim

theorem tel_use {dp uu : Nat} {gd : Option (List Code)} {cn : Str} {cs : Scope} {a : Addr} {ccd : Value} {cl : List (Str × Addr)} {outer : List Env} {A₀ : Around} {base h₀ : Heap} {L : Addr} {m : Str → Option Value} {news : List (Addr × Obj)} {s : Shared}
    {Q E : Value → Shared → Prop} (C : Tel prog w K p loose mean mg mb f dn un vs Pre Out) (B : Below A₀ base outer h₀) (F : Fr h₀ L s.heap m) (X : K.In h₀) (N : News h₀ L s.heap news) (T : Top p loose mean mg mb h₀) (hk : cs.kind = .function)
    (hd : dp + dn + 1 < recursionLimit) (hu : uu + un + 3 < cLine) (hpre : Pre s.heap)
    (ret : ∀ r h' tk', Fr h₀ L h' m → News h₀ L h' news → s.heap.StaysIn h' → Out s.heap h' r → Q r { s with heap := h', toks := tk' }) :
    wpAny (model prog w) (ktrTop dp uu gd cn cs L a ccd cl outer) (call (.ref f) vs) Q E s :=
  C dp uu gd cn cs a ccd cl outer A₀ base h₀ L m s Q E B F X T hk hd hu hpre fun r h' tk' st o => ret r h' tk' (fr_stays F st) (news_stays N st) st o
/-- a made pair is handed back -/
def PairOut (a b : Value → Prop) (g h' : Heap) (r : Value) : Prop :=
  ∃ R x y, r = .ref R ∧ a x ∧ b y ∧ h'.get? R = some { cls := .type "tuple", data := .seq #[x, y] } ∧ g.get? R = none
def IsI (n : Int) (v : Value) : Prop := ∃ t, v = .int n t
def IsS (x : Str) (v : Value) : Prop := ∃ t, v = .str x t
theorem news_pair {h₀ h h' : Heap} {L R : Addr} {o : Obj} {m : Str → Option Value} {news : List (Addr × Obj)} (F : Fr h₀ L h m) (N : News h₀ L h' news) (h1 : h'.get? R = some o) (h2 : h.get? R = none) : News h₀ L h' ((R, o) :: news) := by
  intro p hp
  rcases List.mem_cons.mp hp with rfl | hp
  · refine ⟨h1, fun (q : R = L) => ?_, ?_⟩
    · obtain ⟨oL, _, _, hL, _⟩ := F.ns
      rw [q, hL] at h2; cases h2
    · cases e : h₀.get? R with
      | none => rfl
      | some o' => rw [F.keep _ _ e] at h2; cases h2
  · exact N p hp
/-- an own object of the walk at the end of a def, seen from outside -/
theorem pair_out {g h' : Heap} {L R : Addr} {x y : Value} {a b : Value → Prop} {news : List (Addr × Obj)} (N : News g L h' news) (hm : (R, ({ cls := .type "tuple", data := .seq #[x, y] } : Obj)) ∈ news) (ha : a x) (hb : b y) : PairOut a b g h' (.ref R) :=
  ⟨R, x, y, rfl, ha, hb, (N _ hm).1, (N _ hm).2.2⟩
end
end Mine
namespace Mine
open PySem PySem.W PySem.Spec PySem.Calls PyProof.Rows

/-- a halt for the walk -/
def Stop (p : Prop) : Prop := p
theorem stop_here {p : Prop} (h : Stop p) : p := h

/-! loops over any iterator -/
def MS {σ : Type} (Led : σ → List (Addr × Obj)) (ps : σ → List (Str × Value)) (x : Str) (stored : List Str) (m₀ : Str → Option Value) (P : σ → Prop) (m : Str → Option Value) (nx : List (Addr × Obj)) : Prop :=
  ∃ c : σ, nx = Led c ∧ (∀ p ∈ ps c, m p.1 = some p.2) ∧ (∀ z, z ≠ x → (∀ p ∈ ps c, z ≠ p.1) → stored.contains z = false → m z = m₀ z) ∧ P c

section
variable {prog : Program} {w : World} {A : Around} {E : Value → Shared → Prop} {s : Shared} {env : Env} {h₀ : Heap} {x : Str} {body : List Stmt} {Q : Flow → Shared → Prop}
theorem for_any {σ : Type} {I : Addr} {fp wr : List Addr} {n : Nat} {P : Nat → Value → Prop} {St : Nat → Heap → Prop} {m₀ : Str → Option Value} (fix : List (Addr × Obj)) (Led : σ → List (Addr × Obj)) (ps : σ → List (Str × Value)) (stored : List Str) (J : Nat → σ → Prop) (c₀ : σ)
    (W : Walks prog w A I fp wr n P St) (hLf : env.locals ∉ fp) (hwr : ∀ b ∈ wr, h₀.get? b = none) (hnw : ∀ p ∈ Led c₀ ++ fix, p.1 ∉ wr) (hfp : ∀ q ∈ Led c₀, q.1 ∉ fp) (hst : St 0 s.heap) (F : Fr h₀ env.locals s.heap m₀) (N : News h₀ env.locals s.heap (Led c₀ ++ fix))
    (hk : ∀ p ∈ ps c₀, m₀ p.1 = some p.2) (hj : J 0 c₀)
    (turn : ∀ i (c : σ) v (u : Str → Option Value) h tk own, i < n → P i v → OwnOff own ((Led c₀).map (·.1)) → J i c →
      Fr h₀ env.locals h (fun y => if y = x then some v else kstB (fun z => if stored.contains z then u z else m₀ z) (ps c) y) → News h₀ env.locals h (Led c ++ (fix ++ own)) →
      wpAny (model prog w) A (execs body env) (InvPostN h₀ env.locals (MS Led ps x stored m₀ (J (i + 1))) (fix ++ own) ((Led c₀).map (·.1)) { s with heap := h, toks := tk } Q) E { s with heap := h, toks := tk })
    (done : ∀ (c : σ) (u : Str → Option Value) h tk, J n c → Fr h₀ env.locals h (fun y => if y = x then u y else kstB (fun z => if stored.contains z then u z else m₀ z) (ps c) y) → News h₀ env.locals h (Led c ++ fix) → Q .next { s with heap := h, toks := tk }) :
    LoopAtV prog w A h₀ env x body Q E (.ref I) s := by
  let J' : Nat → (Str → Option Value) → List (Addr × Obj) → Prop := fun i m₁ nx => ∃ nx₀, nx = nx₀ ++ fix ∧ nx₀.map (·.1) = (Led c₀).map (·.1) ∧ MS Led ps x stored m₀ (J i) m₁ nx₀
  refine ⟨I, fp, wr, n, P, St, m₀, Led c₀ ++ fix, J', rfl, W, hLf, hwr, hnw, hst, F, N, ⟨Led c₀, rfl, rfl, c₀, rfl, hk, fun _ _ _ _ => rfl, hj⟩, ?_, ?_⟩
  · rintro i v m₁ news₁ s₁ own ⟨hh', tk', rfl⟩ hin hP ⟨nx₀, rfl, hadr, c, rfl, h1, h2, hJ⟩ hoff hown _ _ _ F₁ N₁
    have hsep : OwnOff own ((Led c₀).map (·.1)) := by
      intro p hp b hb e
      obtain ⟨q, hq, rfl⟩ := List.mem_map.mp hb
      exact hfp q hq (e ▸ hown p hp)
    have N₂ : News h₀ env.locals hh' (Led c ++ (fix ++ own)) := fun p hp => N₁ p (by
      simp only [List.mem_append] at hp ⊢
      rcases hp with h | h | h
      · exact .inr (.inl h)
      · exact .inr (.inr h)
      · exact .inl h)
    refine wpAny_mono (turn i c v m₁ hh' tk' own hin hP hsep hJ (kst_fr h1 h2 F₁) N₂) (fun f s₂ p => ?_) fun _ _ e => e
    have fin : InvEndN h₀ env.locals (MS Led ps x stored m₀ (J (i + 1))) (fix ++ own) ((Led c₀).map (·.1)) { s with heap := hh', toks := tk' } s₂ → LoopStepU h₀ env.locals wr own (J' (i + 1)) { s with heap := hh', toks := tk' } .next s₂ := by
      rintro ⟨h', tk, m', news', nx, e, F', N', hn, ho, ha, hm⟩
      refine ⟨rfl, h', tk, m', nx ++ fix, e, F', fun p hp => ?_, fun p hp hq => ?_, nx, rfl, ha, hm⟩
      · simp only [List.mem_append] at hp
        rcases hp with h | h | h
        · exact N' p (ho p (List.mem_append_right _ h))
        · exact N' p (hn p h)
        · exact N' p (ho p (List.mem_append_left _ h))
      · rcases List.mem_append.mp hp with h | h
        · have h1 : p.1 ∈ nx.map (·.1) := List.mem_map.mpr ⟨p, h, rfl⟩
          rw [ha] at h1
          obtain ⟨q, hq1, hq2⟩ := List.mem_map.mp h1
          exact hnw q (List.mem_append_left _ hq1) (by rw [hq2]; exact hq)
        · exact hnw p (List.mem_append_right _ h) hq
    cases f with
    | ret v => exact .ret p
    | brk => exact .brk p
    | next => exact .next (fin p)
    | cont => exact .cont (fin p)
  · rintro h' tk m' news' F' N' _ ⟨nx₀, rfl, _, c, rfl, h1, h2, hJ⟩
    exact done c m' h' tk hJ (kst_frOut h1 h2 F') N'

/-- over a list that no turn changes; it stays in hand -/
theorem for_list {σ : Type} {l : Addr} {vs : List Value} {m₀ : Str → Option Value} (fix : List (Addr × Obj)) (Led : σ → List (Addr × Obj)) (ps : σ → List (Str × Value)) (stored : List Str) (J : Nat → σ → Prop) (c₀ : σ)
    (hh : A.handled = none) (hls : s.heap.IsList l vs.toArray) (hlL : l ≠ env.locals) (hl : ∀ q ∈ Led c₀, q.1 ≠ l) (F : Fr h₀ env.locals s.heap m₀) (N : News h₀ env.locals s.heap (Led c₀ ++ fix))
    (hk : ∀ p ∈ ps c₀, m₀ p.1 = some p.2) (hj : J 0 c₀)
    (turn : ∀ i (c : σ) v (u : Str → Option Value) h tk own, vs[i]? = some v → OwnOff own ((Led c₀).map (·.1)) → J i c →
      Fr h₀ env.locals h (fun y => if y = x then some v else kstB (fun z => if stored.contains z then u z else m₀ z) (ps c) y) → News h₀ env.locals h (Led c ++ (fix ++ own)) →
      wpAny (model prog w) A (execs body env) (InvPostN h₀ env.locals (MS Led ps x stored m₀ (J (i + 1))) (fix ++ own) ((Led c₀).map (·.1)) { s with heap := h, toks := tk } Q) E { s with heap := h, toks := tk })
    (done : ∀ (c : σ) (u : Str → Option Value) h tk, J vs.length c → Fr h₀ env.locals h (fun y => if y = x then u y else kstB (fun z => if stored.contains z then u z else m₀ z) (ps c) y) → News h₀ env.locals h (Led c ++ fix) → Q .next { s with heap := h, toks := tk }) :
    wpAny (model prog w) A (pyIter (.ref l)) (fun it s₂ => LoopAtV prog w A h₀ env x body Q E it s₂) E s := by
  obtain ⟨ol, hol, _⟩ := id hls
  have hne : l ≠ s.heap.objs.size := Nat.ne_of_lt (Heap.lt_size hol)
  refine wpAny_pyIter_list hls ?_
  have W := Walks.list (prog := prog) (w := w) hh s.heap.objs.size l hne vs.toArray
  rw [List.size_toArray] at W
  refine for_any (s := { s with heap := s.heap.push _ }) fix Led ps stored J c₀ W ?_ ?_ ?_ ?_ ⟨⟨_, Heap.get?_push_size _ rfl, rfl, rfl⟩, hls.at fun o e => Heap.get?_push_of_some _ e⟩ (F.push _)
    (fun p hp => ⟨Heap.get?_push_of_some _ (N p hp).1, (N p hp).2⟩) hk hj ?_ done
  · intro hm
    rcases List.mem_cons.mp hm with e | hm
    · exact absurd F.ns.lt (e ▸ Nat.lt_irrefl _)
    · exact hlL (List.mem_singleton.mp hm).symm
  · intro b hb
    rw [List.mem_singleton.mp hb]
    exact next_is_new F
  · intro p hp hI
    exact absurd (Heap.lt_size (N p hp).1) ((List.mem_singleton.mp hI) ▸ Nat.lt_irrefl _)
  · intro q hq hm
    rcases List.mem_cons.mp hm with e | hm
    · exact absurd (Heap.lt_size (N q (List.mem_append_left _ hq)).1) (e ▸ Nat.lt_irrefl _)
    · exact hl q hq (List.mem_singleton.mp hm)
  · intro i c v u h tk own _ hP
    exact turn i c v u h tk own (by simpa using hP)
theorem for_listN {σ : Type} {l : Addr} {vs vs' : List Value} {nn : Nat} {m₀ : Str → Option Value} {news : List (Addr × Obj)} (fix : List (Addr × Obj)) (Led : σ → List (Addr × Obj)) (ps : σ → List (Str × Value)) (stored : List Str) (J : Nat → σ → Prop) (c₀ : σ)
    (hh : A.handled = none) (hm : (l, listOf vs'.toArray nn) ∈ news) (e : vs' = vs) (hl : ∀ q ∈ Led c₀, q.1 ≠ l) (F : Fr h₀ env.locals s.heap m₀) (N : News h₀ env.locals s.heap news) (hsub : ∀ p ∈ Led c₀ ++ fix, p ∈ news)
    (hk : ∀ p ∈ ps c₀, m₀ p.1 = some p.2) (hj : J 0 c₀)
    (turn : ∀ i (c : σ) v (u : Str → Option Value) h tk own, vs[i]? = some v → OwnOff own ((Led c₀).map (·.1)) → J i c →
      Fr h₀ env.locals h (fun y => if y = x then some v else kstB (fun z => if stored.contains z then u z else m₀ z) (ps c) y) → News h₀ env.locals h (Led c ++ (fix ++ own)) →
      wpAny (model prog w) A (execs body env) (InvPostN h₀ env.locals (MS Led ps x stored m₀ (J (i + 1))) (fix ++ own) ((Led c₀).map (·.1)) { s with heap := h, toks := tk } Q) E { s with heap := h, toks := tk })
    (done : ∀ (c : σ) (u : Str → Option Value) h tk, J vs.length c → Fr h₀ env.locals h (fun y => if y = x then u y else kstB (fun z => if stored.contains z then u z else m₀ z) (ps c) y) → News h₀ env.locals h (Led c ++ fix) → Q .next { s with heap := h, toks := tk }) :
    wpAny (model prog w) A (pyIter (.ref l)) (fun it s₂ => LoopAtV prog w A h₀ env x body Q E it s₂) E s := by
  subst e
  exact for_list fix Led ps stored J c₀ hh ⟨_, (N _ hm).1, rfl, nn, rfl⟩ (N _ hm).2.1 hl F (fun p hp => N p (hsub p hp)) hk hj turn done
/-- over a text's signs -/
theorem for_str {σ : Type} {xt : Str} {tx : Tok} {m₀ : Str → Option Value} (fix : List (Addr × Obj)) (Led : σ → List (Addr × Obj)) (ps : σ → List (Str × Value)) (stored : List Str) (J : Nat → σ → Prop) (c₀ : σ)
    (hh : A.handled = none) (F : Fr h₀ env.locals s.heap m₀) (N : News h₀ env.locals s.heap (Led c₀ ++ fix)) (hk : ∀ p ∈ ps c₀, m₀ p.1 = some p.2) (hj : J 0 c₀)
    (turn : ∀ i (c : σ) (n : Nat) (t : Tok) (u : Str → Option Value) h tk own, xt.cps[i]? = some n → OwnOff own ((Led c₀).map (·.1)) → J i c →
      Fr h₀ env.locals h (fun y => if y = x then some (.str ⟨#[n]⟩ t) else kstB (fun z => if stored.contains z then u z else m₀ z) (ps c) y) → News h₀ env.locals h (Led c ++ (fix ++ own)) →
      wpAny (model prog w) A (execs body env) (InvPostN h₀ env.locals (MS Led ps x stored m₀ (J (i + 1))) (fix ++ own) ((Led c₀).map (·.1)) { s with heap := h, toks := tk } Q) E { s with heap := h, toks := tk })
    (done : ∀ (c : σ) (u : Str → Option Value) h tk, J xt.cps.size c → Fr h₀ env.locals h (fun y => if y = x then u y else kstB (fun z => if stored.contains z then u z else m₀ z) (ps c) y) → News h₀ env.locals h (Led c ++ fix) → Q .next { s with heap := h, toks := tk }) :
    wpAny (model prog w) A (pyIter (.str xt tx)) (fun it s₂ => LoopAtV prog w A h₀ env x body Q E it s₂) E s := by
  refine wpAny_pyIter_str fun o St W hst => ?_
  refine for_any (s := { s with heap := s.heap.push o }) fix Led ps stored J c₀ (W A hh) ?_ ?_ ?_ ?_ hst (F.push _)
    (fun p hp => ⟨Heap.get?_push_of_some _ (N p hp).1, (N p hp).2⟩) hk hj ?_ done
  · intro hm
    exact absurd F.ns.lt ((List.mem_singleton.mp hm) ▸ Nat.lt_irrefl _)
  · intro b hb
    rw [List.mem_singleton.mp hb]
    exact next_is_new F
  · intro p hp hI
    exact absurd (Heap.lt_size (N p hp).1) ((List.mem_singleton.mp hI) ▸ Nat.lt_irrefl _)
  · intro q hq hm
    exact absurd (Heap.lt_size (N q (List.mem_append_left _ hq)).1) ((List.mem_singleton.mp hm) ▸ Nat.lt_irrefl _)
  · intro i c v u h tk own _ hP hoff hJ F1 N1
    obtain ⟨n, t, hn, rfl⟩ := hP
    exact turn i c n t u h tk own hn hoff hJ F1 N1

/-- over a range by ones -/
theorem for_range {σ : Type} {r : Addr} {a₀ b₀ : Int} {t₀ u₀ v₀ : Tok} {n : Nat} {m₀ : Str → Option Value} (fix : List (Addr × Obj)) (Led : σ → List (Addr × Obj)) (ps : σ → List (Str × Value)) (stored : List Str) (J : Nat → σ → Prop) (c₀ : σ)
    (hh : A.handled = none) (hr : IsRange s.heap r a₀ b₀ 1 t₀ u₀ v₀) (hsmall : Builtin.Range.small a₀ b₀ 1 = true) (hn : Builtin.Range.rangeSize a₀ b₀ 1 = (n : Int))
    (F : Fr h₀ env.locals s.heap m₀) (N : News h₀ env.locals s.heap (Led c₀ ++ fix)) (hk : ∀ p ∈ ps c₀, m₀ p.1 = some p.2) (hj : J 0 c₀)
    (turn : ∀ (i : Nat) (c : σ) (t : Tok) (u : Str → Option Value) h tk own, i < n → OwnOff own ((Led c₀).map (·.1)) → J i c →
      Fr h₀ env.locals h (fun y => if y = x then some (.int (a₀ + (i : Int)) t) else kstB (fun z => if stored.contains z then u z else m₀ z) (ps c) y) → News h₀ env.locals h (Led c ++ (fix ++ own)) →
      wpAny (model prog w) A (execs body env) (InvPostN h₀ env.locals (MS Led ps x stored m₀ (J (i + 1))) (fix ++ own) ((Led c₀).map (·.1)) { s with heap := h, toks := tk } Q) E { s with heap := h, toks := tk })
    (done : ∀ (c : σ) (u : Str → Option Value) h tk, J n c → Fr h₀ env.locals h (fun y => if y = x then u y else kstB (fun z => if stored.contains z then u z else m₀ z) (ps c) y) → News h₀ env.locals h (Led c ++ fix) → Q .next { s with heap := h, toks := tk }) :
    wpAny (model prog w) A (pyIter (.ref r)) (fun it s₂ => LoopAtV prog w A h₀ env x body Q E it s₂) E s := by
  refine wpAny_pyIter_range hr hsmall ?_
  have W := Walks.range (prog := prog) (w := w) hh s.heap.objs.size a₀ 1 n
  refine for_any (s := { s with heap := s.heap.push _ }) fix Led ps stored J c₀ W ?_ ?_ ?_ ?_ (by show IsRangeIter _ _ _ _ _; rw [hn]; simpa using Heap.get?_push_size _ rfl) (F.push _)
    (fun p hp => ⟨Heap.get?_push_of_some _ (N p hp).1, (N p hp).2⟩) hk hj ?_ done
  · intro hm
    exact absurd F.ns.lt ((List.mem_singleton.mp hm) ▸ Nat.lt_irrefl _)
  · intro b hb
    rw [List.mem_singleton.mp hb]
    exact next_is_new F
  · intro p hp hI
    exact absurd (Heap.lt_size (N p hp).1) ((List.mem_singleton.mp hI) ▸ Nat.lt_irrefl _)
  · intro q hq hm
    exact absurd (Heap.lt_size (N q (List.mem_append_left _ hq)).1) ((List.mem_singleton.mp hm) ▸ Nat.lt_irrefl _)
  · intro i c v u h tk own hi hP hoff hJ F1 N1
    obtain ⟨t, rfl⟩ := hP
    have e1 : a₀ + (i : Int) * 1 = a₀ + (i : Int) := by omega
    rw [e1] at F1
    exact turn i c t u h tk own hi hoff hJ F1 N1
end
end Mine
namespace Mine
open PySem PySem.W PySem.Spec PySem.Calls PyProof.Rows

def prime (c : Nat) : Int := if c = 34 then 2 else if c = 97 then 3 else if c = 98 then 5 else 7
def valL (l : List Nat) : Int := l.foldl (fun a c => a * prime c) 1
def OkSign (c : Nat) : Prop := c = 34 ∨ c = 97 ∨ c = 98 ∨ c = 99
theorem prime_range (c : Nat) : 2 ≤ prime c ∧ prime c ≤ 7 := by unfold prime; split <;> (try split) <;> (try split) <;> omega
theorem valL_snoc (l : List Nat) (c : Nat) : valL (l ++ [c]) = valL l * prime c := by simp [valL, List.foldl_append]
theorem valL_take {l : List Nat} {i c : Nat} (h : l[i]? = some c) : valL (l.take (i + 1)) = valL (l.take i) * prime c := by
  rw [List.take_add_one, h, Option.toList_some, valL_snoc]
theorem foldl_bound (l : List Nat) : ∀ a : Int, 1 ≤ a → 1 ≤ l.foldl (fun a c => a * prime c) a ∧ l.foldl (fun a c => a * prime c) a ≤ a * 7 ^ l.length := by
  induction l with
  | nil => intro a h; simpa using h
  | cons c l ih =>
    intro a h
    have hp := prime_range c
    have h1 : 1 ≤ a * prime c := by
      have := Int.mul_le_mul h hp.1 (by omega) (by omega)
      omega
    obtain ⟨i1, i2⟩ := ih (a * prime c) h1
    refine ⟨i1, Int.le_trans i2 ?_⟩
    rw [List.length_cons, Int.pow_succ', ← Int.mul_assoc]
    exact Int.mul_le_mul_of_nonneg_right (Int.mul_le_mul_of_nonneg_left hp.2 (by omega)) (Int.pow_nonneg (by decide))
theorem valL_bound (l : List Nat) : 1 ≤ valL l ∧ valL l ≤ 7 ^ l.length := by
  have := foldl_bound l 1 (by decide)
  simpa [valL] using this
theorem valL_le {l : List Nat} {n : Nat} (h : l.length ≤ n) : valL l ≤ 7 ^ n := by
  have h1 : ((7 ^ l.length : Nat) : Int) ≤ ((7 ^ n : Nat) : Int) := Int.ofNat_le.mpr (Nat.pow_le_pow_right (by decide) h)
  have h2 := (valL_bound l).2
  simp only [Int.natCast_pow] at h1
  exact Int.le_trans h2 h1
end Mine
namespace Mine
open PySem PySem.W PySem.Spec PySem.Calls PyProof.Rows
section
variable {prog : Program} {w : World} {p : Program} {loose : List Str} {mean : ExcName → Option Value} {mg mb : Str → Option Value}
theorem value_tel (x : Str) (t : Tok) : Tel prog w (hd.heap_39 w.params) p loose mean mg mb 133 10 100 [.str x t] (fun _ => x.length ≤ 30 ∧ ∀ c ∈ x.cps.toList, OkSign c) (fun _ _ r => ∃ t, r = .int (valL x.cps.toList) t) := by
  k_with_none
  k_with "exec For Name Name cons nil" => (k_here; (rename Fr _ _ _ _ => lF'); (with_unfolding_all refine' For_invVF lF' ?kw0k1 ?kw0k2 ?_; (case kw0k1 => exact rfl); (case kw0k2 => exact rfl); k_whole))
  k_with "exec For Name Call cons nil" => (k_here; (rename Fr _ _ _ _ => lF'); (with_unfolding_all refine' For_invVF lF' ?kw1k1 ?kw1k2 ?_; (case kw1k1 => exact rfl); (case kw1k2 => exact rfl); k_whole))
  k_with "pyIter str" => (k_here; refine stop_here ?_)
  k_with "pyIter ref" => (k_here; refine stop_here ?_)
  refine' tel_of (binds := [(Str.ofString "word", .str x t)]) ?ho ?hcd ?hb ?hl ?h1 ?h2 ?h3 ?h4 ?_
  (case ho => k_is)
  (case hcd => k_is)
  (case hb => intro s; exact BindsTo.of_eq rfl)
  (case hl => exact locs rfl)
  (case h1 => decide)
  (case h2 => exact rfl)
  (case h3 => exact rfl)
  (case h4 => exact rfl)
  intro dp uu gd outer A₀ base g L' s Q B F N X T hd hu hpre hret
  obtain ⟨hx, hok⟩ := hpre
  k_steps
  unfold Stop
  refine' for_str (σ := Int × Tok) [] (fun _ => []) (fun c => [(Str.ofString "number", Value.int c.1 c.2)]) [] (fun i c => c.1 = valL (x.cps.toList.take i)) (1, _) rfl ?F News.nil ?hk rfl ?turn ?done
  (case F => k_asm)
  (case hk => (intro p hp; cases List.mem_singleton.mp hp; exact rfl))
  (case turn =>
    intro i c n t' u h1 tk1 own hn hoff hJ F1 N1
    have hc : n ∈ x.cps.toList := Array.mem_toList_iff.mpr (Array.mem_of_getElem? hn)
    have hn' : x.cps.toList[i]? = some n := by simpa using hn
    have hb1 := valL_bound (x.cps.toList.take i)
    have hb2 : c.1 ≤ 7 ^ 30 := by
      rw [hJ]; exact valL_le (by rw [List.length_take]; exact Nat.le_trans (Nat.min_le_right _ _) hx)
    rw [← hJ] at hb1
    rcases hok n hc with rfl | rfl | rfl | rfl
    all_goals k_steps
    all_goals (try dsimp only [InvPostN])

    all_goals first
      | exact absurd (‹Txt.find _ _ = -1›) (by decide +kernel)
      | (refine' ⟨_, _, _, _, [], rfl, ?F, ?N, ?sub, ?own, rfl, (_, _), rfl, ?ps, ?rest, ?J⟩
         (case F => k_asm)
         (case N => k_asm)
         (case sub => simp)
         (case own => (intro p hp; simp at hp ⊢; simp [hp]))
         (case ps => (intro p hp; cases List.mem_singleton.mp hp; exact rfl))
         (case rest => (intro z h1 h2 h3; simp at h2; simp [kstB, h1, h2]))
         (case J => (dsimp only; rw [valL_take hn', ← hJ]; rfl))))
  (case done =>
    intro c u h1 tk1 hJ F1 N1
    k_steps
    all_goals (try dsimp only)
    refine hret _ _ _ (Fr.keep (by assumption)) ⟨c.2, ?_⟩
    rw [hJ, List.take_of_length_le (by simp)])
end
end Mine
namespace Mine
open PySem PySem.W PySem.Spec PySem.Calls PyProof.Rows
open Builtin Builtin.Str

/-- what parse257 reads behind the opening mark -/
def undblF : Nat → List Nat → List Nat
  | 0, _ => []
  | _ + 1, [] => []
  | k + 1, c :: r => if c = 34 then (match r with
      | [] => []
      | d :: r' => if d = 34 then 34 :: undblF k r' else []) else c :: undblF k r
def undbl (l : List Nat) : List Nat := undblF l.length l
theorem undblF_more : ∀ (k j : Nat) (l : List Nat), l.length ≤ k → l.length ≤ j → undblF k l = undblF j l
  | 0, j, l, h, _ => by
    have : l = [] := List.length_eq_zero_iff.mp (by omega)
    subst this
    cases j <;> rfl
  | k + 1, 0, l, _, h => by
    have : l = [] := List.length_eq_zero_iff.mp (by omega)
    subst this
    rfl
  | k + 1, j + 1, [], _, _ => rfl
  | k + 1, j + 1, c :: r, h1, h2 => by
    simp only [List.length_cons] at h1 h2
    unfold undblF
    split
    · cases r with
      | nil => rfl
      | cons d r' =>
        simp only [List.length_cons] at h1 h2
        dsimp only
        rw [undblF_more k j r' (by omega) (by omega)]
    · rw [undblF_more k j r (by omega) (by omega)]
theorem undbl_nil : undbl [] = [] := rfl
theorem undbl_cons {c : Nat} {r : List Nat} (h : c ≠ 34) : undbl (c :: r) = c :: undbl r := by
  show undblF (r.length + 1) (c :: r) = _
  unfold undblF
  rw [if_neg h]; rfl
theorem undbl_pair {r : List Nat} : undbl (34 :: 34 :: r) = 34 :: undbl r := by
  show undblF (r.length + 1 + 1) (34 :: 34 :: r) = _
  unfold undblF
  simp only [if_true]
  rw [undblF_more (r.length + 1) r.length r (by omega) (by omega)]; rfl
theorem undbl_shut {r : List Nat} (h : r.head? ≠ some 34) : undbl (34 :: r) = [] := by
  show undblF (r.length + 1) (34 :: r) = _
  unfold undblF
  cases r with
  | nil => rfl
  | cons d r' =>
    have : d ≠ 34 := fun q => h (by rw [q]; rfl)
    simp [this]
theorem undbl_plain {l : List Nat} {i c : Nat} (h : l[i]? = some c) (hc : c ≠ 34) : undbl (l.drop i) = c :: undbl (l.drop (i + 1)) := by
  obtain ⟨hi, e⟩ := List.getElem?_eq_some_iff.mp h
  rw [List.drop_eq_getElem_cons hi, e, undbl_cons hc]
theorem undbl_two {l : List Nat} {i : Nat} (h : l[i]? = some 34) (h2 : l[i + 1]? = some 34) : undbl (l.drop i) = 34 :: undbl (l.drop (i + 2)) := by
  obtain ⟨hi, e⟩ := List.getElem?_eq_some_iff.mp h
  obtain ⟨hi2, e2⟩ := List.getElem?_eq_some_iff.mp h2
  rw [List.drop_eq_getElem_cons hi, e, List.drop_eq_getElem_cons hi2, e2, undbl_pair]
theorem undbl_end {l : List Nat} {i : Nat} (h : l[i]? = some 34) (h2 : l[i + 1]? ≠ some 34) : undbl (l.drop i) = [] := by
  obtain ⟨hi, e⟩ := List.getElem?_eq_some_iff.mp h
  rw [List.drop_eq_getElem_cons hi, e]
  refine undbl_shut ?_
  rw [List.head?_drop]
  exact h2
theorem undbl_out {l : List Nat} {i : Nat} (h : l.length ≤ i) : undbl (l.drop i) = [] := by
  rw [List.drop_of_length_le h]; rfl

section
variable {prog : Program} {w : World} {A : Around} {E : Value → Shared → Prop} {s : Shared} {x : PySem.Str} {t u : Tok} {value slice : PySem.Expr}
theorem item_sign {i : Int} {Q : Value → Shared → Prop} (h0 : 0 ≤ i) (h1 : i < x.length) (hx : x.length ≤ 1000000) (h : ∀ n, x.cps.toList[i.toNat]? = some n → Q (.str ⟨#[n]⟩ s.toks) { s with toks := s.toks + 1 })
    (hs : subscripted slice false (.str x t) (.int i u) = operate [.str x t, .int i u] (getItem (.str x t) (.int i u)) := by with_unfolding_all rfl)
    (ht : ∀ r, letTemporaryGo value (.str x t) r = pure () := by intro _; with_unfolding_all rfl) :
    wpAny (model prog w) A (subscriptTail value slice (.str x t) (.int i u)) Q E s := by
  obtain ⟨n, hn⟩ := StrLaws.some_at h0 h1
  have e : Txt.item x i = ⟨#[n]⟩ := by
    unfold Txt.item Txt.charAt
    rw [StrLaws.at_nonneg h0 hn]; rfl
  refine item_str (fitsSsize_of (N := 9223372036854775808) (by omega) (by omega) (Int.le_refl _)) (by omega) h1 (fun _ => ?_) hs ht
  rw [e]
  exact h n (by simpa using hn)
theorem item_sign_as {i : Int} {c : Nat} {Q : Value → Shared → Prop} (h0 : 0 ≤ i) (h1 : i < x.length) (hx : x.length ≤ 1000000) (hc : x.cps.toList[i.toNat]? = some c) (h : Q (.str ⟨#[c]⟩ s.toks) { s with toks := s.toks + 1 })
    (hs : subscripted slice false (.str x t) (.int i u) = operate [.str x t, .int i u] (getItem (.str x t) (.int i u)) := by with_unfolding_all rfl)
    (ht : ∀ r, letTemporaryGo value (.str x t) r = pure () := by intro _; with_unfolding_all rfl) :
    wpAny (model prog w) A (subscriptTail value slice (.str x t) (.int i u)) Q E s :=
  item_sign h0 h1 hx (fun n hn => by rw [hc] at hn; cases hn; exact h) hs ht
end
/-- between two turns of parse257's loop -/
def PJ (x : PySem.Str) (c : (Int × Tok) × (PySem.Str × Tok)) : Prop :=
  5 ≤ c.1.1 ∧ (c.2.1.length : Int) ≤ c.1.1 ∧ c.2.1.cps.toList ++ undbl (x.cps.toList.drop c.1.1.toNat) = undbl (x.cps.toList.drop 5)
theorem str_of_list {x : PySem.Str} {l : List Nat} (h : x.cps.toList = l) : x = ⟨l.toArray⟩ := by subst h; simp
theorem PJ.out {x : PySem.Str} {c : (Int × Tok) × (PySem.Str × Tok)} (h : PJ x c) (hn : ¬ c.1.1 < x.length) : c.2.1 = ⟨(undbl (x.cps.toList.drop 5)).toArray⟩ := by
  obtain ⟨h1, h2, h3⟩ := h
  rw [undbl_out (by simp; have : x.length = x.cps.size := rfl; omega), List.append_nil] at h3
  exact str_of_list h3
theorem PJ.shut {x : PySem.Str} {c : (Int × Tok) × (PySem.Str × Tok)} {n : Nat} (h : PJ x c) (hn : x.cps.toList[c.1.1.toNat]? = some n) (hc : n = 34) (h2 : x.cps.toList[c.1.1.toNat + 1]? ≠ some 34) : c.2.1 = ⟨(undbl (x.cps.toList.drop 5)).toArray⟩ := by
  obtain ⟨h1, _, h3⟩ := h
  rw [undbl_end (hc ▸ hn) h2, List.append_nil] at h3
  exact str_of_list h3
theorem PJ.two {x : PySem.Str} {c : (Int × Tok) × (PySem.Str × Tok)} {n : Nat} {i : Int} {t t' : Tok} (h : PJ x c) (hn : x.cps.toList[c.1.1.toNat]? = some n) (hc : n = 34) (h2 : x.cps.toList[c.1.1.toNat + 1]? = some 34) (hi : i = c.1.1 + 1 + 1) : PJ x ((i, t), (c.2.1 ++ ⟨#[n]⟩, t')) := by
  obtain ⟨h1, h4, h3⟩ := h
  subst hc hi
  rw [undbl_two hn h2] at h3
  have e : (c.1.1 + 1 + 1).toNat = c.1.1.toNat + 2 := by omega
  refine ⟨by dsimp only; omega, ?_, ?_⟩
  · dsimp only; rw [PySem.Str.length_append]; show ((c.2.1.length + 1 : Nat) : Int) ≤ _; omega
  · dsimp only
    rw [PySem.Str.cps_append, Array.toList_append, e, ← h3]
    simp
theorem PJ.one {x : PySem.Str} {c : (Int × Tok) × (PySem.Str × Tok)} {n : Nat} {i : Int} {t t' : Tok} (h : PJ x c) (hn : x.cps.toList[c.1.1.toNat]? = some n) (hc : n ≠ 34) (hi : i = c.1.1 + 1) : PJ x ((i, t), (c.2.1 ++ ⟨#[n]⟩, t')) := by
  obtain ⟨h1, h4, h3⟩ := h
  subst hi
  rw [undbl_plain hn hc] at h3
  have e : (c.1.1 + 1).toNat = c.1.1.toNat + 1 := by omega
  refine ⟨by dsimp only; omega, ?_, ?_⟩
  · dsimp only; rw [PySem.Str.length_append]; show ((c.2.1.length + 1 : Nat) : Int) ≤ _; omega
  · dsimp only
    rw [PySem.Str.cps_append, Array.toList_append, e, ← h3]
    simp
theorem sign_eq (n : Nat) : ((⟨#[n]⟩ : PySem.Str) == Str.ofString "\"") = decide (n = 34) := by
  have : Str.ofString "\"" = ⟨#[34]⟩ := by decide +kernel
  rw [this]
  by_cases h : n = 34
  · subst h; simp
  · simp [h]
theorem sign_ne (n : Nat) : ((⟨#[n]⟩ : PySem.Str) != Str.ofString "\"") = !decide (n = 34) := by
  show (!((⟨#[n]⟩ : PySem.Str) == Str.ofString "\"")) = _
  rw [sign_eq]
section
variable {x : PySem.Str} {c : (Int × Tok) × (PySem.Str × Tok)} {n m : Nat} {i : Int} {t t' : Tok}
theorem PJ.start : PJ x ((5, t), (Str.ofString "", t')) := ⟨(by decide : (5 : Int) ≤ 5), (by decide +kernel : ((Str.ofString "").length : Int) ≤ 5), by
  have : (Str.ofString "").cps.toList = [] := by decide +kernel
  show (Str.ofString "").cps.toList ++ _ = _
  rw [this]; rfl⟩
theorem PJ.shut1 (h : PJ x c) (hn : x.cps.toList[c.1.1.toNat]? = some n) (hc : ((⟨#[n]⟩ : PySem.Str) == Str.ofString "\"") = true) (hl : (x.length : Int) ≤ c.1.1 + 1) : c.2.1 = ⟨(undbl (x.cps.toList.drop 5)).toArray⟩ := by
  rw [sign_eq, decide_eq_true_eq] at hc
  refine h.shut hn hc ?_
  have h1 := h.1
  have : x.cps.toList.length ≤ c.1.1.toNat + 1 := by simp; have : x.length = x.cps.size := rfl; omega
  rw [List.getElem?_eq_none this]; simp
theorem PJ.shut2 (h : PJ x c) (hn : x.cps.toList[c.1.1.toNat]? = some n) (hc : ((⟨#[n]⟩ : PySem.Str) == Str.ofString "\"") = true) (hm : x.cps.toList[(c.1.1 + 1).toNat]? = some m) (hd : ((⟨#[m]⟩ : PySem.Str) != Str.ofString "\"") = true) :
    c.2.1 = ⟨(undbl (x.cps.toList.drop 5)).toArray⟩ := by
  rw [sign_eq, decide_eq_true_eq] at hc
  rw [sign_ne] at hd
  have h1 := h.1
  have e : (c.1.1 + 1).toNat = c.1.1.toNat + 1 := by omega
  rw [e] at hm
  refine h.shut hn hc ?_
  rw [hm]; simpa using hd
theorem PJ.two' (h : PJ x c) (hn : x.cps.toList[c.1.1.toNat]? = some n) (hc : ((⟨#[n]⟩ : PySem.Str) == Str.ofString "\"") = true) (hm : x.cps.toList[(c.1.1 + 1).toNat]? = some m) (hd : ((⟨#[m]⟩ : PySem.Str) != Str.ofString "\"") = false) :
    PJ x ((c.1.1 + 1 + 1, t), (c.2.1 ++ ⟨#[n]⟩, t')) := by
  rw [sign_eq, decide_eq_true_eq] at hc
  rw [sign_ne] at hd
  have h1 := h.1
  have e : (c.1.1 + 1).toNat = c.1.1.toNat + 1 := by omega
  rw [e] at hm
  have hm' : m = 34 := by simpa using hd
  exact h.two hn hc (hm' ▸ hm) rfl
theorem PJ.one' (h : PJ x c) (hn : x.cps.toList[c.1.1.toNat]? = some n) (hc : ((⟨#[n]⟩ : PySem.Str) == Str.ofString "\"") = false) : PJ x ((c.1.1 + 1, t), (c.2.1 ++ ⟨#[n]⟩, t')) := by
  rw [sign_eq, decide_eq_false_iff_not] at hc
  exact h.one hn hc rfl
end
/-- a reply that parse229 reads -/
structure P229 (x : PySem.Str) (c : Nat) (L R : Int) (p0 p1 p2 d p4 : PySem.Str) (n : Int) : Prop where
  len : x.length ≤ 1000
  s3 : Txt.slice x none (some 3) = Str.ofString "229"
  l : Txt.find x (Str.ofString "(") = L
  r : Txt.find3 x (Str.ofString ")") (Txt.find x (Str.ofString "(") + 1) = R
  l0 : 0 ≤ L
  r0 : L + 1 ≤ R - 1
  r1 : R - 1 < x.length
  it1 : x.cps.toList[(L + 1).toNat]? = some c
  it2 : x.cps.toList[(R - 1).toNat]? = some c
  kind : c < 128
  sp : Txt.split (Txt.slice x (some (L + 1)) (some R)) ⟨#[c]⟩ = [p0, p1, p2, d, p4]
  dl : d.length ≤ 640
  int : PySem.intText? d = some n
end Mine
namespace Mine
open PySem PySem.W PySem.Spec PySem.Calls PyProof.Rows
section
variable {prog : Program} {w : World} {p : Program} {loose : List Str} {mean : ExcName → Option Value} {mg mb : Str → Option Value}
theorem p257_tel (x : Str) (t : Tok) : Tel prog w (hd.heap_39 w.params) p loose mean mg mb 114 10 100 [.str x t] (fun _ => x.length ≤ 1000 ∧ Txt.slice x none (some 3) = Str.ofString "257" ∧ Txt.slice x (some 3) (some 5) = Str.ofString " \"") (fun _ _ r => ∃ t, r = .str ⟨(undbl (x.cps.toList.drop 5)).toArray⟩ t) := by
  k_with_none
  k_with "exec For Name Name cons nil" => (k_here; (rename Fr _ _ _ _ => lF'); (with_unfolding_all refine' For_invVF lF' ?kw0k1 ?kw0k2 ?_; (case kw0k1 => exact rfl); (case kw0k2 => exact rfl); k_whole))
  k_with "exec For Name Call cons nil" => (k_here; (rename Fr _ _ _ _ => lF'); (with_unfolding_all refine' For_invVF lF' ?kw1k1 ?kw1k2 ?_; (case kw1k1 => exact rfl); (case kw1k2 => exact rfl); k_whole))
  k_with "pyIter str" => (k_here; refine stop_here ?_)
  k_with "pyIter ref" => (k_here; refine stop_here ?_)
  k_with "exec While Compare cons nil" => (k_here; refine stop_here ?_)
  k_with "subscriptTail Name Name str int" => (k_here; (refine item_sign ?kw5h0 ?kw5h1 ?kw5hx ?_); (case kw5h0 => omega); (case kw5h1 => omega); (case kw5hx => omega); intro n hn)
  refine' tel_of (binds := [(Str.ofString "resp", .str x t)]) ?ho ?hcd ?hb ?hl ?h1 ?h2 ?h3 ?h4 ?_
  (case ho => k_is)
  (case hcd => k_is)
  (case hb => intro s; exact BindsTo.of_eq rfl)
  (case hl => exact locs rfl)
  (case h1 => decide)
  (case h2 => exact rfl)
  (case h3 => exact rfl)
  (case h4 => exact rfl)
  intro dp uu gd outer A₀ base g L' s Q B F N X T hd hu hpre hret
  obtain ⟨hx, hs1, hs2⟩ := hpre
  k_steps
  all_goals (try dsimp only)
  · exact absurd hs2 (by simpa using ‹(Txt.slice x (some 3) (some 5) != Str.ofString " \"") = true›)
  · unfold Stop
    refine' ksw_while (σ := (Int × Tok) × (Str × Tok)) (fun _ => []) (fun c => [(Str.ofString "i", Value.int c.1.1 c.1.2), (Str.ofString "dirname", Value.str c.2.1 c.2.2)]) (fun _ => True) [Str.ofString "c"] (PJ x) (fun c => x.length - c.1.1.toNat) ((_, _), (_, _)) ?F News.nil trivial ?hk ?hp ?turn
    (case F => k_asm)
    (case hk => (intro p hp; simp only [List.mem_cons, List.not_mem_nil, or_false] at hp; rcases hp with rfl | rfl <;> exact rfl))
    (case hp => exact PJ.start)
    (case turn =>
      intro c u h1 tk1 _ hJ F1 N1
      have hJ1 := hJ.1
      have hJ2 := hJ.2.1
      k_steps
      all_goals (try dsimp only [KswPost])
      all_goals (try dsimp only)
      all_goals first
        | exact hret _ _ _ (Fr.keep (by assumption)) ⟨c.2.2, by rw [hJ.out (by assumption)]⟩
        | exact hret _ _ _ (Fr.keep (by assumption)) ⟨c.2.2, by rw [hJ.shut1 (by assumption) (by assumption) (by assumption)]⟩
        | exact hret _ _ _ (Fr.keep (by assumption)) ⟨c.2.2, by rw [hJ.shut2 (by assumption) (by assumption) (by assumption) (by assumption)]⟩
        | (refine' ksw_end ((_, _), (_, _)) ?Fj ?Nj ?nj ?fj ?kj ?rj ?pj ?mj
           (case Fj => k_asm)
           (case Nj => k_asm)
           (case nj => simp)
           (case fj => trivial)
           (case kj => (intro p hp; simp only [List.mem_cons, List.not_mem_nil, or_false] at hp; rcases hp with rfl | rfl <;> exact rfl))
           (case rj => (intro z h2 h3; simp at h2 h3; simp [kstB, h2, h3]))
           (case pj => first | exact hJ.two' (by assumption) (by assumption) (by assumption) (by assumption) | exact hJ.one' (by assumption) (by assumption))
           (case mj => (dsimp only; omega))))
end
end Mine
namespace Mine
open PySem PySem.W PySem.Spec PySem.Calls PyProof.Rows
section
variable {prog : Program} {w : World} {p : Program} {loose : List Str} {mean : ExcName → Option Value} {mg mb : Str → Option Value}
theorem p229_tel (x : Str) (t : Tok) (P : Addr) (u v : Tok) (c : Nat) (L R : Int) (p0 p1 p2 d p4 : Str) (pn : Int) : Tel prog w (hd.heap_39 w.params) p loose mean mg mb 107 10 100 [.str x t, .ref P] (fun h => IsTup h P #[.str (Str.ofString "here") u, .int 21 v] ∧ P229 x c L R p0 p1 p2 d p4 pn) (fun g h' r => PairOut (IsS (Str.ofString "here")) (IsI pn) g h' r) := by
  k_with_none
  k_with "exec For Name Name cons nil" => (k_here; (rename Fr _ _ _ _ => lF'); (with_unfolding_all refine' For_invVF lF' ?kw0k1 ?kw0k2 ?_; (case kw0k1 => exact rfl); (case kw0k2 => exact rfl); k_whole))
  k_with "exec For Name Call cons nil" => (k_here; (rename Fr _ _ _ _ => lF'); (with_unfolding_all refine' For_invVF lF' ?kw1k1 ?kw1k2 ?_; (case kw1k1 => exact rfl); (case kw1k2 => exact rfl); k_whole))
  k_with "pyIter str" => (k_here; refine stop_here ?_)
  k_with "pyIter ref" => (k_here; refine stop_here ?_)
  k_with "subscriptTail Name BinOp str int" => (k_here; (refine item_sign ?kw4h0 ?kw4h1 ?kw4hx ?_); (case kw4h0 => omega); (case kw4h1 => omega); (case kw4hx => omega); intro n hn)
  refine' tel_of (binds := [(Str.ofString "resp", .str x t), (Str.ofString "peer", .ref P)]) ?ho ?hcd ?hb ?hl ?h1 ?h2 ?h3 ?h4 ?_
  (case ho => k_is)
  (case hcd => k_is)
  (case hb => intro s; exact BindsTo.of_eq rfl)
  (case hl => exact locs rfl)
  (case h1 => decide)
  (case h2 => exact rfl)
  (case h3 => exact rfl)
  (case h4 => exact rfl)
  intro dp uu gd outer A₀ base g L' s Q B F N X T hd hu hpre hret
  obtain ⟨hP, hx⟩ := hpre
  obtain ⟨hlen, hs3, hl, hr, hl0, hr0, hr1, hi1, hi2, hkd, hsp, hdl, hint⟩ := hx
  k_steps
  all_goals (try dsimp only)
  all_goals (
    have hnc : n = c := by rw [hl] at hn; rw [hi1] at hn; exact (Option.some.inj hn).symm
    subst hnc
    have hsp' := ‹List.map (fun x : Str × Tok => x.fst) _ = Txt.split _ _›
    rw [hr, hl, hsp] at hsp')
  · have := congrArg List.length hsp'
    rw [List.length_map] at this
    simp at this
    omega
  · have hy := ‹(List.map (fun x : Str × Tok => x.fst) _)[Int.toNat 3]? = some _›
    rw [hsp'] at hy
    cases Option.some.inj hy
    refine KIN.call_text hint hdl ?_
    k_steps
    all_goals (try dsimp only)
    exact hret _ _ _ (Fr.keep (by assumption)) (pair_out (by assumption) (by k_mem) ⟨_, rfl⟩ ⟨_, rfl⟩)
end
end Mine
namespace Mine
open PySem PySem.W PySem.Spec PySem.Calls PyProof.Rows

abbrev hidT (h : Heap) (T : List (Addr × Obj)) : Heap := hideAll h (T.map (·.1))
section
variable {h₀ h h' : Heap} {L : Addr} {m : Str → Option Value} {T : List (Addr × Obj)}
theorem off_of_news (N : News h₀ L h T) {b : Addr} {o : Obj} (e : h₀.get? b = some o) : b ∉ T.map (·.1) := fun q => by
  obtain ⟨p, hp, rfl⟩ := List.mem_map.mp q
  rw [(N p hp).2.2] at e; cases e
theorem offL_of_news (N : News h₀ L h T) : L ∉ T.map (·.1) := fun q => by
  obtain ⟨p, hp, e⟩ := List.mem_map.mp q
  exact (N p hp).2.1 e
theorem hidT_get {b : Addr} {o : Obj} (e : h.get? b = some o) (hb : b ∉ T.map (·.1)) : (hidT h T).get? b = some o := hideAll_get _ e hb
theorem base_hidT (F : Fr h₀ L h m) (N : News h₀ L h T) : h₀.StaysIn (hidT h T) := fun _ _ e => hidT_get (F.keep _ _ e) (off_of_news N e)
theorem fr_hidT (F : Fr h₀ L h m) (N : News h₀ L h T) : Fr h₀ L (hidT h T) m := by
  obtain ⟨oL, a1, a2, hL, a3⟩ := F.ns
  exact ⟨⟨oL, a1, a2, hidT_get hL (offL_of_news N), a3⟩, base_hidT F N, F.above⟩
end

/-- a def whose call may lay a table of nested code -/
def TelT (TabF TabF' : List (Addr × Obj) → Prop) (prog : Program) (w : World) (K : Frag) (p : Program) (loose : List Str) (mean : ExcName → Option Value) (mg mb : Str → Option Value)
    (f : Addr) (dn un : Nat) (vs : List Value) (Pre : Heap → Prop) (Out : Heap → Heap → Value → Prop) : Prop :=
  ∀ (dp uu : Nat) (gd : Option (List Code)) (cn : Str) (cs : Scope) (a : Addr) (ccd : Value) (cl : List (Str × Addr)) (outer : List Env) (A₀ : Around) (base h₀ : Heap) (L : Addr) (m : Str → Option Value) (s : Shared) (Q E : Value → Shared → Prop) (T : List (Addr × Obj)),
    Below A₀ base outer h₀ → Fr h₀ L s.heap m → K.In h₀ → Top p loose mean mg mb h₀ → cs.kind = .function →
    dp + dn + 1 < recursionLimit → uu + un + 3 < cLine → TabF T → News h₀ L s.heap T → Pre (hidT s.heap T) →
    (∀ r h' tk' T', (hidT s.heap T).StaysIn h' → TabF' T' → (∀ p ∈ T', h'.get? p.1 = some p.2 ∧ (hidT s.heap T).get? p.1 = none) → Out (hidT s.heap T) h' r → Q r { s with heap := h', toks := tk' }) →
    wpAny (model prog w) (ktrTop dp uu gd cn cs L a ccd cl outer) (call (.ref f) vs) Q E s

section
variable {TabF TabF' : List (Addr × Obj) → Prop} {prog : Program} {w : World} {K : Frag} {p : Program} {loose : List Str} {mean : ExcName → Option Value} {mg mb : Str → Option Value} {f : Addr} {dn un : Nat} {vs : List Value} {Pre : Heap → Prop} {Out : Heap → Heap → Value → Prop}

/-- the ledger ends in T -/
inductive Cut (T : List (Addr × Obj)) : List (Addr × Obj) → List (Addr × Obj) → Prop
  | here : Cut T T []
  | cons {x r f} : Cut T r f → Cut T (x :: r) (x :: f)
  | app {o r f} : Cut T r f → Cut T (o ++ r) (o ++ f)
theorem Cut.eq {T : List (Addr × Obj)} : ∀ {l f : List (Addr × Obj)}, Cut T l f → l = f ++ T
  | _, _, .here => rfl
  | _, _, .cons c => by rw [c.eq]; rfl
  | _, _, .app c => by rw [c.eq, List.append_assoc]

theorem telT_use {dp uu : Nat} {gd : Option (List Code)} {cn : Str} {cs : Scope} {a : Addr} {ccd : Value} {cl : List (Str × Addr)} {outer : List Env} {A₀ : Around} {base h₀ : Heap} {L : Addr} {m : Str → Option Value} {news front T : List (Addr × Obj)} {s : Shared}
    {Q E : Value → Shared → Prop} (C : TelT TabF TabF' prog w K p loose mean mg mb f dn un vs Pre Out) (B : Below A₀ base outer h₀) (F : Fr h₀ L s.heap m) (X : K.In h₀) (N : News h₀ L s.heap news) (Tp : Top p loose mean mg mb h₀) (hk : cs.kind = .function)
    (hd : dp + dn + 1 < recursionLimit) (hu : uu + un + 3 < cLine) (hT : TabF T) (hcut : Cut T news front) (hoff : ∀ q ∈ front, q.1 ∉ T.map (·.1)) (hpre : Pre (hidT s.heap T))
    (ret : ∀ r h' tk' T', Fr h₀ L h' m → News h₀ L h' (front ++ T') → TabF' T' → (∀ q ∈ front, q.1 ∉ T'.map (·.1)) → (hidT s.heap T).StaysIn h' → (∀ q ∈ front, (hidT s.heap T).get? q.1 = some q.2) → Fr h₀ L (hidT s.heap T) m → Out (hidT s.heap T) h' r → Q r { s with heap := h', toks := tk' }) :
    wpAny (model prog w) (ktrTop dp uu gd cn cs L a ccd cl outer) (call (.ref f) vs) Q E s := by
  have e := hcut.eq
  subst e
  have NT : News h₀ L s.heap T := fun p hp => N p (List.mem_append_right _ hp)
  have hidF : ∀ q ∈ front, (hidT s.heap T).get? q.1 = some q.2 := fun q hq => hidT_get (N q (List.mem_append_left _ hq)).1 (hoff q hq)
  refine C dp uu gd cn cs a ccd cl outer A₀ base h₀ L m s Q E T B F X Tp hk hd hu hT NT hpre fun r h' tk' T' st hT' hN o => ?_
  have FH := fr_hidT F NT
  refine ret r h' tk' T' (fr_stays FH st) (fun q hq => ?_) hT' (fun q hq hm => ?_) st hidF FH o
  · rcases List.mem_append.mp hq with h1 | h1
    · exact ⟨st _ _ (hidF q h1), (N q (List.mem_append_left _ h1)).2⟩
    · refine ⟨(hN q h1).1, fun q2 => ?_, ?_⟩
      · obtain ⟨oL, _, _, hL, _⟩ := FH.ns
        rw [← q2, (hN q h1).2] at hL; cases hL
      · cases e : h₀.get? q.1 with
        | none => rfl
        | some o' => have := FH.keep _ _ e; rw [(hN q h1).2] at this; cases this
  · obtain ⟨q2, hq2, e⟩ := List.mem_map.mp hm
    have := hidF q hq
    rw [← e, (hN q2 hq2).2] at this; cases this

theorem telT_of {name qual : Str} {params : Arguments} {body : List Stmt} {scope : Scope} {dV kV doc pm cdv ct oc : Value} {an od : Option Addr} {osl : Array (Option Value)} {binds : List (Str × Value)}
    (ho : K.lookup f = some ⟨oc, od, .func (fnOf name qual params body scope dV kV doc pm an cdv ct), osl⟩) (hcd : codeIn K cdv qual = true)
    (hbind : ∀ s, BindsTo s (fnOf name qual params body scope dV kV doc pm an cdv ct) ⟨vs, []⟩ binds) (hloc : ∀ y ∈ binds, scope.names.lookup y.1 = some .local)
    (hcell : ∀ x ∈ scope.names, x.2 ≠ .cell) (hco : scope.isCoroutine = false) (hgen : scope.isGenerator = false) (hk : scope.kind = .function)
    (h : ∀ (dp uu : Nat) (gd : Option (List Code)) (outer : List Env) (A₀ : Around) (base g : Heap) (L' : Addr) (s : Shared) (Q : Value → Shared → Prop) (T : List (Addr × Obj)),
      Below A₀ base outer g → Fr g L' s.heap (fun y => binds.reverse.lookup y) → News g L' s.heap T → TabF T → K.In g → Top p loose mean mg mb g → dp + dn < recursionLimit → uu + un < cLine → Pre g →
      (∀ r h' tk' T', g.StaysIn h' → TabF' T' → News g L' h' T' → Out g h' r → Q r { s with heap := h', toks := tk' }) →
      wpAny (model prog w) (ktrTop dp uu gd qual scope L' f cdv [] outer) (execs body (envX qual scope L' f cdv [])) (fun fl s' => Q (match fl with | .ret v => v | _ => .none) s') (fun _ _ => False) s) :
    TelT TabF TabF' prog w K p loose mean mg mb f dn un vs Pre Out := by
  intro dp uu gd cn cs a ccd cl outer A₀ base h₀ L m s Q E T B F X Tp hcs hd hu hT NT hpre hret
  refine wpAny_call ?_
  have X' : K.In s.heap := X.keeps F.keep
  refine codeAny_call_def (fd := fnOf name qual params body scope dV kV doc pm an cdv ct) (body := body) (binds := binds) ?_ (X' _ _ ho) rfl (Tp.nolimit.keeps F.keep) (codeRec_of X' hcd) rfl (hbind s) hcell hloc (fun h₁ hns hk₁ => ?_) hco hgen hk
  · show dp < recursionLimit; omega
  obtain ⟨FG, BG, st, _⟩ := groundX (A := ktrTop dp uu gd cn cs L a ccd cl outer) (env := envX cn cs L a ccd cl) (R := fun _ _ => True) B F NT rfl rfl hcs
  have hsz : s.heap.objs.size = (hidT s.heap T).objs.size := (hideAll_size _ _).symm
  have F₁ : Fr (hidT s.heap T) s.heap.objs.size h₁ (fun y => binds.reverse.lookup y) := ⟨hns, fun b o e => hk₁ b o (of_hideAll _ e), Nat.le_of_eq hsz.symm⟩
  have N₁ : News (hidT s.heap T) s.heap.objs.size h₁ T := fun p hp => ⟨hk₁ _ _ (NT p hp).1, Nat.ne_of_lt (Heap.lt_size (NT p hp).1), hideAll_none _ (List.mem_map_of_mem hp)⟩
  have := h (dp + 1) (uu + 3) gd (envX cn cs L a ccd cl :: outer) _ base _ s.heap.objs.size { s with heap := h₁, toks := s.toks + binds.length } Q T BG F₁ N₁ hT (X.keeps st) (Tp.keeps st) (by omega) (by omega) hpre
    (fun r h' tk' T' st' hT' N' o => hret r h' tk' T' st' hT' (fun q hq => ⟨(N' q hq).1, (N' q hq).2.2⟩) o)
  exact wpAny_mono this (fun fl s' hl => by cases fl <;> exact hl) fun _ _ y => y.elim
theorem telT_ofC {name qual : Str} {params : Arguments} {body : List Stmt} {scope : Scope} {dV kV doc pm cdv ct oc : Value} {an od : Option Addr} {osl : Array (Option Value)} {binds : List (Str × Value)}
    (ho : K.lookup f = some ⟨oc, od, .func (fnOf name qual params body scope dV kV doc pm an cdv ct), osl⟩) (hcd : codeIn K cdv qual = true)
    (hbind : ∀ s, BindsTo s (fnOf name qual params body scope dV kV doc pm an cdv ct) ⟨vs, []⟩ binds) (hkind : (binds.all fun y => scope.names.lookup y.1 == some .local || scope.names.lookup y.1 == some .cell) = true)
    (hnd : ((cellsFrom 0 scope.names []).map (·.1)).Nodup) (hco : scope.isCoroutine = false) (hgen : scope.isGenerator = false) (hk : scope.kind = .function)
    (h : ∀ (dp uu : Nat) (gd : Option (List Code)) (outer : List Env) (A₀ : Around) (base g : Heap) (L' : Addr) (s : Shared) (Q : Value → Shared → Prop) (T cells : List (Addr × Obj)),
      Below A₀ base outer g → Fr g L' s.heap (bindL (envOfC qual scope L' f cdv).kindOf binds fun _ => none) → News g L' s.heap (cells ++ T) →
      CellsAre (bindC (envOfC qual scope L' f cdv).kindOf binds fun _ => none) (cellsFrom (L' + 1) scope.names []) cells → (∀ q ∈ T, q.1 < L') →
      TabF T → K.In g → Top p loose mean mg mb g → dp + dn < recursionLimit → uu + un < cLine → Pre g →
      (∀ r h' tk' T', g.StaysIn h' → TabF' T' → News g L' h' T' → Out g h' r → Q r { s with heap := h', toks := tk' }) →
      wpAny (model prog w) (ktrTop dp uu gd qual scope L' f cdv (cellsFrom (L' + 1) scope.names []) outer) (execs body (envX qual scope L' f cdv (cellsFrom (L' + 1) scope.names []))) (fun fl s' => Q (match fl with | .ret v => v | _ => .none) s') (fun _ _ => False) s) :
    TelT TabF TabF' prog w K p loose mean mg mb f dn un vs Pre Out := by
  intro dp uu gd cn cs a ccd cl outer A₀ base h₀ L m s Q E T B F X Tp hcs hd hu hT NT hpre hret
  refine wpAny_call ?_
  have X' : K.In s.heap := X.keeps F.keep
  refine codeAny_call_function (by show dp < recursionLimit; omega) (X' _ _ ho) rfl hco hgen rfl (codeRec_of X' hcd) (hbind s _ _ _ _ ?_)
  refine wpAny_newFunctionEnv_cells hk (kindsX hkind _) fun env' he s' x => ?_
  subst he
  refine ⟨(Tp.nolimit.keeps F.keep).keeps x.toInCall.keep, codeAny_func ?_⟩
  obtain ⟨h₁, tk, rfl, _⟩ := x.done
  have hk₁ := x.toInCall.keep
  obtain ⟨cells, NC, Y⟩ := Cl.news (h₀ := s.heap) (Nat.le_refl _) fun n c hm => ⟨x.cell n c (lookup_of_mem_nodup (cellsFrom_names scope.names 0 (s.heap.objs.size + 1) [] [] rfl ▸ hnd) hm), x.above n c hm⟩
  obtain ⟨FG, BG, st, _⟩ := groundX (A := ktrTop dp uu gd cn cs L a ccd cl outer) (env := envX cn cs L a ccd cl) (R := fun _ _ => True) B F NT rfl rfl hcs
  have hsz : s.heap.objs.size = (hidT s.heap T).objs.size := (hideAll_size _ _).symm
  have F₁ : Fr (hidT s.heap T) s.heap.objs.size h₁ (bindL (envOfC qual scope s.heap.objs.size f cdv).kindOf binds fun _ => none) := ⟨x.toInCall.ns, fun b o e => hk₁ b o (of_hideAll _ e), Nat.le_of_eq hsz.symm⟩
  have N₁ : News (hidT s.heap T) s.heap.objs.size h₁ (cells ++ T) := fun p hp => by
    rcases List.mem_append.mp hp with hp | hp
    · refine ⟨(NC p hp).1, (NC p hp).2.1, ?_⟩
      cases q : (hidT s.heap T).get? p.1 with
      | none => rfl
      | some o => have := of_hideAll _ q; rw [(NC p hp).2.2] at this; cases this
    · exact ⟨hk₁ _ _ (NT p hp).1, Nat.ne_of_lt (Heap.lt_size (NT p hp).1), hideAll_none _ (List.mem_map_of_mem hp)⟩
  have := h (dp + 1) (uu + 3) gd (envX cn cs L a ccd cl :: outer) _ base _ s.heap.objs.size { s with heap := h₁, toks := tk } Q T cells BG F₁ N₁ Y (fun q hq => Heap.lt_size (NT q hq).1) hT (X.keeps st) (Tp.keeps st) (by omega) (by omega) hpre
    (fun r h' tk' T' st' hT' N' o => hret r h' tk' T' st' hT' (fun q hq => ⟨(N' q hq).1, (N' q hq).2.2⟩) o)
  exact wpAny_mono this (fun fl s' hl => by cases fl <;> exact hl) fun _ _ y => y.elim

/-- a def with cells that lays no table -/
theorem tel_ofC {name qual : Str} {params : Arguments} {body : List Stmt} {scope : Scope} {dV kV doc pm cdv ct oc : Value} {an od : Option Addr} {osl : Array (Option Value)} {binds : List (Str × Value)}
    (ho : K.lookup f = some ⟨oc, od, .func (fnOf name qual params body scope dV kV doc pm an cdv ct), osl⟩) (hcd : codeIn K cdv qual = true)
    (hbind : ∀ s, BindsTo s (fnOf name qual params body scope dV kV doc pm an cdv ct) ⟨vs, []⟩ binds) (hkind : (binds.all fun y => scope.names.lookup y.1 == some .local || scope.names.lookup y.1 == some .cell) = true)
    (hnd : ((cellsFrom 0 scope.names []).map (·.1)).Nodup) (hco : scope.isCoroutine = false) (hgen : scope.isGenerator = false) (hk : scope.kind = .function)
    (h : ∀ (dp uu : Nat) (gd : Option (List Code)) (outer : List Env) (A₀ : Around) (base g : Heap) (L' : Addr) (s : Shared) (Q : Value → Shared → Prop) (cells : List (Addr × Obj)),
      Below A₀ base outer g → Fr g L' s.heap (bindL (envOfC qual scope L' f cdv).kindOf binds fun _ => none) → News g L' s.heap cells →
      CellsAre (bindC (envOfC qual scope L' f cdv).kindOf binds fun _ => none) (cellsFrom (L' + 1) scope.names []) cells →
      K.In g → Top p loose mean mg mb g → dp + dn < recursionLimit → uu + un < cLine → Pre g →
      (∀ r h' tk', g.StaysIn h' → Out g h' r → Q r { s with heap := h', toks := tk' }) →
      wpAny (model prog w) (ktrTop dp uu gd qual scope L' f cdv (cellsFrom (L' + 1) scope.names []) outer) (execs body (envX qual scope L' f cdv (cellsFrom (L' + 1) scope.names []))) (fun fl s' => Q (match fl with | .ret v => v | _ => .none) s') (fun _ _ => False) s) :
    Tel prog w K p loose mean mg mb f dn un vs Pre Out := by
  have C : TelT (fun T => T = []) (fun T => T = []) prog w K p loose mean mg mb f dn un vs Pre Out := by
    refine telT_ofC ho hcd hbind hkind hnd hco hgen hk ?_
    intro dp uu gd outer A₀ base g L' s Q T cells B F N Y _ hT X Tp hd hu hpre hret
    subst hT
    rw [List.append_nil] at N
    exact h dp uu gd outer A₀ base g L' s Q cells B F N Y X Tp hd hu hpre fun r h' tk' st o => hret r h' tk' [] st rfl News.nil o
  intro dp uu gd cn cs a ccd cl outer A₀ base h₀ L m s Q E B F X Tp hcs hd hu hpre hret
  exact C dp uu gd cn cs a ccd cl outer A₀ base h₀ L m s Q E [] B F X Tp hcs hd hu rfl News.nil hpre fun r h' tk' T' st _ _ o => hret r h' tk' st o
/-- a nested def, its function object lying in the heap -/
theorem telT_ofX {name qual : Str} {params : Arguments} {body : List Stmt} {scope : Scope} {cl₁ : List (Str × Addr)} {dV kV doc pm cdv ct : Value} {an : Option Addr} {fo : Obj} {binds : List (Str × Value)}
    (hfo : fo.data = .func (fnX name qual params body scope cl₁ dV kV doc pm an cdv ct)) (hpf : ∀ g, Pre g → g.get? f = some fo ∧ g.CodeRec cdv qual)
    (hbind : ∀ s, BindsTo s (fnX name qual params body scope cl₁ dV kV doc pm an cdv ct) ⟨vs, []⟩ binds) (hloc : ∀ y ∈ binds, scope.names.lookup y.1 = some .local)
    (hcell : ∀ x ∈ scope.names, x.2 ≠ .cell) (hco : scope.isCoroutine = false) (hgen : scope.isGenerator = false) (hk : scope.kind = .function)
    (h : ∀ (dp uu : Nat) (gd : Option (List Code)) (outer : List Env) (A₀ : Around) (base g : Heap) (L' : Addr) (s : Shared) (Q : Value → Shared → Prop) (T : List (Addr × Obj)),
      Below A₀ base outer g → Fr g L' s.heap (fun y => binds.reverse.lookup y) → News g L' s.heap T → (∀ q ∈ T, q.1 < L') → TabF T → K.In g → Top p loose mean mg mb g → dp + dn < recursionLimit → uu + un < cLine → Pre g →
      (∀ r h' tk' T', g.StaysIn h' → TabF' T' → News g L' h' T' → Out g h' r → Q r { s with heap := h', toks := tk' }) →
      wpAny (model prog w) (ktrTop dp uu gd qual scope L' f cdv cl₁ outer) (execs body (envX qual scope L' f cdv cl₁)) (fun fl s' => Q (match fl with | .ret v => v | _ => .none) s') (fun _ _ => False) s) :
    TelT TabF TabF' prog w K p loose mean mg mb f dn un vs Pre Out := by
  intro dp uu gd cn cs a ccd cl outer A₀ base h₀ L m s Q E T B F X Tp hcs hd hu hT NT hpre hret
  refine wpAny_call ?_
  obtain ⟨hf, hc⟩ := hpf _ hpre
  have up : (hidT s.heap T).StaysIn s.heap := fun b o e => of_hideAll _ e
  have hcd : s.heap.CodeRec cdv qual := hc.keeps up
  refine codeAny_call_def (fd := fnX name qual params body scope cl₁ dV kV doc pm an cdv ct) (body := body) (binds := binds) ?_ (up _ _ hf) hfo (Tp.nolimit.keeps F.keep) hcd rfl (hbind s) hcell hloc (fun h₁ hns hk₁ => ?_) hco hgen hk
  · show dp < recursionLimit; omega
  obtain ⟨FG, BG, st, _⟩ := groundX (A := ktrTop dp uu gd cn cs L a ccd cl outer) (env := envX cn cs L a ccd cl) (R := fun _ _ => True) B F NT rfl rfl hcs
  have hsz : s.heap.objs.size = (hidT s.heap T).objs.size := (hideAll_size _ _).symm
  have F₁ : Fr (hidT s.heap T) s.heap.objs.size h₁ (fun y => binds.reverse.lookup y) := ⟨hns, fun b o e => hk₁ b o (of_hideAll _ e), Nat.le_of_eq hsz.symm⟩
  have N₁ : News (hidT s.heap T) s.heap.objs.size h₁ T := fun p hp => ⟨hk₁ _ _ (NT p hp).1, Nat.ne_of_lt (Heap.lt_size (NT p hp).1), hideAll_none _ (List.mem_map_of_mem hp)⟩
  have := h (dp + 1) (uu + 3) gd (envX cn cs L a ccd cl :: outer) _ base _ s.heap.objs.size { s with heap := h₁, toks := s.toks + binds.length } Q T BG F₁ N₁ (fun q hq => Heap.lt_size (NT q hq).1) hT (X.keeps st) (Tp.keeps st) (by omega) (by omega) hpre
    (fun r h' tk' T' st' hT' N' o => hret r h' tk' T' st' hT' (fun q hq => ⟨(N' q hq).1, (N' q hq).2.2⟩) o)
  exact wpAny_mono this (fun fl s' hl => by cases fl <;> exact hl) fun _ _ y => y.elim
end

/-! a table of nested code -/
def TabP (ln cl : Nat) (qual : Str) (p : Array Value) (C : List (Addr × Obj)) : Prop :=
  (p = #[] ∧ C = []) ∨ ∃ c' o vs t, p = #[rawInt ln, rawInt cl, .ref c'] ∧ C = [(c', o)] ∧ o.data = .fields vs ∧ vs[1]? = some (.str qual t)
theorem updF_split {P : Addr} {o : Obj} : ∀ {own rest : List (Addr × Obj)} (_ : ∀ q ∈ own, q.1 ≠ P) (_ : ∀ q ∈ rest, q.1 ≠ P), UpdF P o (own ++ (P, o) :: rest) (fun o' => own ++ (P, o') :: rest)
  | [], _, _, h2 => .head h2
  | q :: own, rest, h1, h2 => .tail (h1 q (.head _)) (updF_split (fun r hr => h1 r (.tail _ hr)) h2)
section
variable {M : Model} {A : Around} {E : Value → Shared → Prop} {s : Shared} {h₀ : Heap} {L a c P : Addr} {m mg mb : Str → Option Value} {cn : Str} {cs : Scope} {ccd : Value} {cl : List (Str × Addr)} {own rest C : List (Addr × Obj)}
  {p : Program} {loose : List Str} {mean : ExcName → Option Value} {name qual : Str} {params : Arguments} {body : List Stmt} {scope : Scope} {ps : Array Value} {pos : Pos} {firstLine : Nat} {clos : List (Str × Addr)}
theorem nest_any {Q : Value → Shared → Prop} (F : Fr h₀ L s.heap m) (N : News h₀ L s.heap (own ++ (P, tabObj ps) :: rest)) (T : Top p loose mean mg mb h₀) (hC : CodeHd h₀ c P) (hcd : ccd = .ref c) (h1 : ∀ q ∈ own, q.1 ≠ P) (h2 : ∀ q ∈ rest, q.1 ≠ P)
    (hcl : closureFor scope (envX cn cs L a ccd cl) = pure clos) (ht : TabP pos.line pos.col qual ps C) (hsub : ∀ q ∈ C, q ∈ rest)
    (h : ∀ f c' oc vs t ctv doc h' tk ps' C', Fr h₀ L h' m → News h₀ L h' ((f, fnMade name qual params body scope clos doc ((mg "__name__").getD .none) c' ctv) :: (C' ++ (own ++ (P, tabObj ps') :: rest))) →
      TabP pos.line pos.col qual ps' C' → (c', oc) ∈ C' → oc.data = .fields vs → vs[1]? = some (.str qual t) → (∀ q ∈ C', q ∈ C ∨ ∀ r ∈ own ++ (P, tabObj ps) :: rest, r.1 < q.1) → (∀ q ∈ C ++ (own ++ (P, tabObj ps') :: rest), q.1 < f) → (∀ q ∈ C', q.1 < f) → Q (.ref f) { s with heap := h', toks := tk }) :
    wpAny M A (makeFunction name qual params (.stmts body) scope (envX cn cs L a ccd cl) [] [] [] pos firstLine) Q E s := by
  rcases ht with ⟨rfl, rfl⟩ | ⟨c', o, vs, t, rfl, rfl, hd, hv⟩
  · refine nest_K F N T hC hcd (updF_split h1 h2) True.intro rfl hcl ?_
    intro f c' oc vs t ctv doc h' tk F' N' hd hv l1 l2
    refine h f c' oc vs t ctv doc h' tk _ [(c', oc)] F' N' (.inr ⟨c', oc, vs, t, rfl, rfl, hd, hv⟩) (.head _) hd hv (fun q hq => .inr fun r hr => ?_) (fun q hq => ?_) (fun q hq => ?_)
    · cases List.mem_singleton.mp hq
      exact l1 r hr
    · simp only [List.nil_append, List.mem_append, List.mem_cons] at hq
      refine Nat.lt_trans ?_ l2
      rcases hq with hq | rfl | hq
      · exact l1 q (List.mem_append_left _ hq)
      · exact l1 (P, tabObj #[]) (by simp)
      · exact l1 q (by simp [hq])
    · cases List.mem_singleton.mp hq
      exact l2
  · refine nestHit_K (c' := c') F N T hC hcd (List.mem_append_right _ (.head _)) ?_ ?_ hcl ?_
    · simp [TriplesOk, rawInt]
    · simp [codeAmong, rawInt]
    intro f ctv doc h' tk F' N' l1
    refine h f c' o vs t ctv doc h' tk _ [(c', o)] F' ?_ (.inr ⟨c', o, vs, t, rfl, rfl, hd, hv⟩) (.head _) hd hv (fun q hq => .inl hq) (fun q hq => ?_) (fun q hq => l1 q (List.mem_append_right _ (.tail _ (hsub q hq))))
    · intro q hq
      simp only [List.mem_cons, List.mem_append, List.not_mem_nil, or_false] at hq
      rcases hq with rfl | rfl | hq | rfl | hq
      · exact N' _ (.head _)
      · exact N' _ (.tail _ (List.mem_append_right _ (.tail _ (hsub _ (.head _)))))
      · exact N' _ (.tail _ (List.mem_append_left _ hq))
      · exact N' _ (.tail _ (List.mem_append_right _ (.head _)))
      · exact N' _ (.tail _ (List.mem_append_right _ (.tail _ hq)))
    · simp only [List.mem_append, List.mem_cons, List.not_mem_nil, or_false] at hq
      rcases hq with rfl | hq | rfl | hq
      · exact l1 _ (List.mem_append_right _ (.tail _ (hsub _ (.head _))))
      · exact l1 q (List.mem_append_left _ hq)
      · exact l1 _ (by simp)
      · exact l1 q (by simp [hq])
end
end Mine
namespace Mine
open PySem PySem.W PySem.Spec PySem.Calls PyProof.Rows
open Builtin Builtin.Str

/-- one sign, n times -/
def rep (c : Nat) (n : Int) : PySem.Str := ⟨(List.replicate n.toNat c).toArray⟩
theorem fold_one (c : Nat) : ∀ (k : Nat) (a : Array Nat), (List.replicate k #[c]).foldl (· ++ ·) a = a ++ (List.replicate k c).toArray
  | 0, a => by simp
  | k + 1, a => by
    rw [List.replicate_succ, List.foldl_cons, fold_one c k]
    apply Array.toList_inj.mp
    simp [List.replicate_succ]
theorem mul_one_sign (c : Nat) (n : Int) : Txt.mul ⟨#[c]⟩ n = rep c n := by
  unfold Txt.mul rep
  by_cases h : n < 1
  · rw [if_pos h]
    have : n.toNat = 0 := by omega
    rw [this]; rfl
  · rw [if_neg h]
    by_cases h1 : n = 1
    · subst h1; rfl
    · have : (n == 1 || (⟨#[c]⟩ : PySem.Str).length == 0) = false := by
        have : (⟨#[c]⟩ : PySem.Str).length = 1 := rfl
        simp [h1, this]
      rw [if_neg (by rw [this]; decide), fold_one]
      simp
theorem rep_length (c : Nat) (n : Int) : (rep c n).length = n.toNat := by simp [rep, PySem.Str.length]
theorem rep_list (c : Nat) (n : Int) : (rep c n).cps.toList = List.replicate n.toNat c := rfl
section
variable {prog : Program} {w : World} {A : Around} {E : Value → Shared → Prop} {s : Shared} {x : PySem.Str} {t u : Tok} {n : Int} {c : Nat} {Q : Value → Shared → Prop}
theorem mul_sign (hx : x = ⟨#[c]⟩) (hn : n ≤ 1000) (hl : -1000 ≤ n) (h : ∀ t' k, Q (.str (rep c n) t') { s with toks := k }) : wpAny (model prog w) A (binaryOp .Mult (.str x t) (.int n u)) Q E s := by
  subst hx
  refine SB.mul (mulOk_of 1 1000 (Nat.le_refl _) (by omega) (by omega) (by decide) (by decide)) fun t' k => ?_
  rw [mul_one_sign]
  exact h t' k
end
/-- a made list is handed back -/
def ListOut (P : List Value → Prop) (g h' : Heap) (r : Value) : Prop := ∃ R vs n, r = .ref R ∧ P vs ∧ h'.get? R = some (listOf vs.toArray n) ∧ g.get? R = none
theorem list_out {g h' : Heap} {L R : Addr} {vs : List Value} {n : Nat} {P : List Value → Prop} {news : List (Addr × Obj)} (N : News g L h' news) (hm : (R, listOf vs.toArray n) ∈ news) (hp : P vs) : ListOut P g h' (.ref R) :=
  ⟨R, vs, n, rfl, hp, (N _ hm).1, (N _ hm).2.2⟩
/-- four rows of like signs -/
def Rows4 (a b c d : Int) (vs : List Value) : Prop := ∃ t1 t2 t3 t4, vs = [.str (rep 34 a) t1, .str (rep 97 b) t2, .str (rep 98 c) t3, .str (rep 99 d) t4]
theorem rows_out {g h' : Heap} {L R : Addr} {a b c d : Int} {t1 t2 t3 t4 : Tok} {news : List (Addr × Obj)}
    (N : News g L h' ((R, LCg.lst [.str (rep 34 a) t1, .str (rep 97 b) t2, .str (rep 98 c) t3, .str (rep 99 d) t4]) :: news)) : ListOut (Rows4 a b c d) g h' (.ref R) :=
  ⟨R, _, _, rfl, ⟨t1, t2, t3, t4, rfl⟩, (N _ (.head _)).1, (N _ (.head _)).2.2⟩
def cnt (a b k : Int) : Int := (([a, b].count k : Nat) : Int)
theorem cnt_range (a b k : Int) : 0 ≤ cnt a b k ∧ cnt a b k ≤ 2 := by
  unfold cnt
  have := List.count_le_length (a := k) (l := [a, b])
  simp only [List.length_cons, List.length_nil] at this
  omega
section
variable {prog : Program} {w : World} {A : Around} {E : Value → Shared → Prop} {s : Shared} {h₀ : Heap} {L D : Addr} {m : PySem.Str → Option Value} {news : List (Addr × Obj)} {x : PySem.Str} {t u : Tok} {Q : Value → Shared → Prop}
theorem count_two {a b k : Int} {ta tb : Tok} {n : Nat} (N : News h₀ L s.heap news) (hm : (D, listOf #[.int a ta, .int b tb] n) ∈ news) (h : Q (.int (cnt a b k) s.toks) { s with toks := s.toks + 1 }) :
    wpAny (model prog w) A (call (.builtin "list.count") [.ref D, .int k t]) Q E s :=
  count_list_ints (vs := [.int a ta, .int b tb]) (ns := [a, b]) ⟨_, (N _ hm).1, rfl, n, rfl⟩ (.cons _ _ (.cons _ _ .nil)) h
/-- the texts' lengths together -/
def lens (l : List PySem.Str) : Nat := (l.map (·.length)).sum
theorem join_call {vs : List Value} {l : List (PySem.Str × Tok)} {n : Nat} (N : News h₀ L s.heap news) (hm : (D, listOf vs.toArray n) ∈ news) (e : vs = strValues l) (hok : lens (l.map (·.1)) + l.length * x.length ≤ 16777216)
    (h : ∀ t' k, Q (.str (PySem.Str.join x (l.map (·.1))) t') { s with toks := k }) : wpAny (model prog w) A (call (.builtin "str.join") [.str x t, .ref D]) Q E s := by
  subst e
  refine SC.join (l := l) ⟨_, (N _ hm).1, rfl, n, rfl⟩ rfl (joinOk_of (by simpa [lens] using hok)) fun t' k => ?_
  have : Txt.join x (l.map (·.1)) = PySem.Str.join x (l.map (·.1)) := StrLaws.glued_eq_join _ _
  rw [this]
  exact h t' k
end
theorem cnt_ok (a b k : Int) : 0 ≤ cnt a b k ∧ cnt a b k ≤ 100 := by have := cnt_range a b k; omega
theorem new_at {h₀ h h' : Heap} {L R : Addr} {o : Obj} {m : PySem.Str → Option Value} {news : List (Addr × Obj)} (h1 : h'.get? R = some o) (h2 : h.get? R = none) (N : News h₀ L h' news) (F : Fr h₀ L h m) : News h₀ L h' ((R, o) :: news) := news_pair F N h1 h2
theorem four_at {h₀ h : Heap} {L D : Addr} {news : List (Addr × Obj)} {a b c d : Value} {n : Nat} (N : News h₀ L h news) (hm : (D, listOf #[a, b, c, d] n) ∈ news) : h.IsList D #[a, b, c, d] := ⟨_, (N _ hm).1, rfl, n, rfl⟩
theorem rows_fit {a b k0 k1 k2 k3 : Int} {t0 t1 t2 t3 : Tok} {x : PySem.Str} (hx : x.length ≤ 100) :
    lens (([(rep 34 (cnt a b k0), t0), (rep 97 (cnt a b k1), t1), (rep 98 (cnt a b k2), t2), (rep 99 (cnt a b k3), t3)] : List (PySem.Str × Tok)).map (·.1)) + ([(rep 34 (cnt a b k0), t0), (rep 97 (cnt a b k1), t1), (rep 98 (cnt a b k2), t2), (rep 99 (cnt a b k3), t3)] : List (PySem.Str × Tok)).length * x.length ≤ 16777216 := by
  have h0 := cnt_range a b k0
  have h1 := cnt_range a b k1
  have h2 := cnt_range a b k2
  have h3 := cnt_range a b k3
  simp only [lens, List.map_cons, List.map_nil, List.sum_cons, List.sum_nil, rep_length, List.length_cons, List.length_nil]
  omega
/-- what _law_rule hands back -/
def lowA (c : Int) : Int := c.fmod 4
def lowB (c : Int) : Int := (c.fdiv 4).fmod 5
def upA (c : Int) : Int := (c.fdiv 20).fmod 5
def upB (c : Int) : Int := (c.fdiv 100).fmod 5
def turnOf (c : Int) : Int := 1 - 2 * (c.fdiv 500).fmod 2
def putOf (c : Int) : PySem.Str := PySem.Str.join (Str.ofString "") [rep 34 (cnt (upA c) (upB c) 0), rep 97 (cnt (upA c) (upB c) 1), rep 98 (cnt (upA c) (upB c) 2), rep 99 (cnt (upA c) (upB c) 3)]
def RuleVal (c : Int) (h : Heap) (v : Value) (R Rr : Addr) (oR oRr : Obj) : Prop :=
  ∃ vs n tp tt, v = .ref R ∧ oR = { cls := .type "tuple", data := .seq #[.ref Rr, .str (putOf c) tp, .int (turnOf c) tt] } ∧ oRr = listOf vs.toArray n ∧
    Rows4 (cnt (lowA c) (lowB c) 0) (cnt (lowA c) (lowB c) 1) (cnt (lowA c) (lowB c) 2) (cnt (lowA c) (lowB c) 3) vs ∧ h.get? R = some oR ∧ h.get? Rr = some oRr
def RuleOut (c : Int) (g h' : Heap) (r : Value) : Prop := ∃ R Rr oR oRr, RuleVal c h' r R Rr oR oRr ∧ g.get? R = none ∧ g.get? Rr = none
theorem rule_out {g h' : Heap} {L D Rr : Addr} {c : Int} {news : List (Addr × Obj)} {p : PySem.Str} {q : Int} {tp tt : Tok} {vs : List Value} {n : Nat} (N : News g L h' news)
    (h1 : (D, ({ cls := .type "tuple", data := .seq #[.ref Rr, .str p tp, .int q tt] } : Obj)) ∈ news) (h2 : (Rr, listOf vs.toArray n) ∈ news) (e1 : p = putOf c) (e2 : q = turnOf c)
    (e3 : Rows4 (cnt (lowA c) (lowB c) 0) (cnt (lowA c) (lowB c) 1) (cnt (lowA c) (lowB c) 2) (cnt (lowA c) (lowB c) 3) vs) : RuleOut c g h' (.ref D) := by
  subst e1 e2
  exact ⟨D, Rr, _, _, ⟨vs, n, tp, tt, rfl, rfl, rfl, e3, (N _ h1).1, (N _ h2).1⟩, (N _ h1).2.2, (N _ h2).2.2⟩
end Mine
namespace Mine
open PySem PySem.W PySem.Spec PySem.Calls PyProof.Rows
section
variable {prog : Program} {w : World} {p : Program} {loose : List Str} {mean : ExcName → Option Value} {mg mb : Str → Option Value}
local macro_rules | `(tactic| lcg_off) => `(tactic| with_reducible assumption)
theorem rows_tel (l : Addr) (a b c d : Int) (t1 t2 t3 t4 : Tok) : Tel prog w (hd.heap_39 w.params) p loose mean mg mb 126 10 100 [.ref l] (fun h => h.IsList l #[.int a t1, .int b t2, .int c t3, .int d t4] ∧ (0 ≤ a ∧ a ≤ 100) ∧ (0 ≤ b ∧ b ≤ 100) ∧ (0 ≤ c ∧ c ≤ 100) ∧ (0 ≤ d ∧ d ≤ 100)) (fun g h' r => ListOut (Rows4 a b c d) g h' r) := by
  k_with_none
  k_with "CompSrc" => (k_here; k_dflt (refine LCg.CompSrc.range (by rfl) (by k_asm) (by k_asm) (by assumption) (by first | decide | rfl) (by first | rfl | decide) (by first | size_fits | exact Nat.le_of_ble_eq_true rfl) ?_; intro g'; lcg_lit))
  k_with "binaryOp Mult str int" => (k_here; k_dflt (first
  | ((show wpAny _ _ (binaryOp Operator.Mult _ (Value.int a _)) _ _ _); refine mul_sign (c := 34) (by decide +kernel) (by omega) (by omega) ?_)
  | ((show wpAny _ _ (binaryOp Operator.Mult _ (Value.int b _)) _ _ _); refine mul_sign (c := 97) (by decide +kernel) (by omega) (by omega) ?_)
  | ((show wpAny _ _ (binaryOp Operator.Mult _ (Value.int c _)) _ _ _); refine mul_sign (c := 98) (by decide +kernel) (by omega) (by omega) ?_)
  | ((show wpAny _ _ (binaryOp Operator.Mult _ (Value.int d _)) _ _ _); refine mul_sign (c := 99) (by decide +kernel) (by omega) (by omega) ?_)); intro _ _)
  k_with "CompRest" => (with_unfolding_all first
  | (refine LCg.CompRest.succ ?_; intro v' I' oI' C' oC' D' m' h' tk' E' hv' hC' hx' F' N' off' ne'; (first | lcg_open hv' | (obtain ⟨t9', hv9'⟩ := hv'; subst hv9')))
  | refine LCg.CompRest.zero ?_)
  refine' tel_ofC (binds := [(Str.ofString "counts", .ref l)]) ?ho ?hcd ?hb ?hl ?h1 ?h2 ?h3 ?h4 ?_
  (case ho => k_is)
  (case hcd => k_is)
  (case hb => intro s; exact BindsTo.of_eq rfl)
  (case hl => exact rfl)
  (case h1 => decide)
  (case h2 => exact rfl)
  (case h3 => exact rfl)
  (case h4 => exact rfl)
  intro dp uu gd outer A₀ base g L' s Q cells B F N Y X T hd hu hpre hret
  k_cells Y
  obtain ⟨hl, ⟨ha, ha'⟩, ⟨hb, hb'⟩, ⟨hc, hc'⟩, ⟨hd, hd'⟩⟩ := hpre
  k_steps
  all_goals (try dsimp only)
  exact hret _ _ _ (Fr.keep (by assumption)) (rows_out (by assumption))
end
end Mine
namespace Mine
open PySem PySem.W PySem.Spec PySem.Calls PyProof.Rows
section
variable {prog : Program} {w : World} {p : Program} {loose : List Str} {mean : ExcName → Option Value} {mg mb : Str → Option Value}

local macro_rules | `(tactic| lcg_off) => `(tactic| with_reducible assumption)
theorem rule_tel (c : Int) (t : Tok) : Tel prog w (hd.heap_39 w.params) p loose mean mg mb 138 20 120 [.int c t] (fun _ => 0 ≤ c) (fun g h' r => RuleOut c g h' r) := by
  k_with_none
  k_with "CompSrc" => (k_here; k_dflt (refine LCg.CompSrc.range (by rfl) (by k_asm) (by k_asm) (by assumption) (by first | decide | rfl) (by first | rfl | decide) (by first | size_fits | exact Nat.le_of_ble_eq_true rfl) ?_; intro g'; lcg_lit))
  k_with "my mem" => (first | exact List.mem_cons_self | (refine List.mem_cons_of_mem _ ?_; walk_at "my mem"))
  k_with "call builtin:str.join" => (k_here; k_dflt (refine' join_call (l := [(_, _), (_, _), (_, _), (_, _)]) ?kw2N ?kw2m ?kw2e ?kw2o ?_; (case kw2N => k_asm); (case kw2m => with_reducible walk_at "my mem"); (case kw2e => exact rfl); (case kw2o => exact rows_fit (by decide +kernel)); k_whole); intro _ _)
  k_with "call builtin:list.count" => (k_here; k_dflt (refine' count_two ?kw3N ?kw3m ?_; (case kw3N => k_asm); (case kw3m => k_mem); k_whole))
  k_with "call ref" => (k_here; (with_reducible show wpAny _ _ (call (Value.ref 126) _) _ _ _); k_dflt (
  refine' tel_use (rows_tel _ _ _ _ _ _ _ _ _) ?kw4B ?kw4F ?kw4X ?kw4N ?kw4T rfl ?kw4d ?kw4u ?kw4p ?_; (case kw4B => k_asm); (case kw4F => k_asm); (case kw4X => k_asm); (case kw4N => k_asm); (case kw4T => k_asm);
  (case kw4p => exact ⟨four_at (by k_asm) (by with_reducible walk_at "my mem"), cnt_ok _ _ _, cnt_ok _ _ _, cnt_ok _ _ _, cnt_ok _ _ _⟩); (case kw4d => omega); (case kw4u => omega)); intro r h' tk' F' N' st hO; obtain ⟨R, vs, n, e, ⟨t1, t2, t3, t4, ev⟩, hg, hn⟩ := hO; subst e; subst ev; replace N' := new_at hg hn N' (by assumption); clear st hg hn; (try k_sweep))
  k_with "CompRest" => (with_unfolding_all first
  | (refine LCg.CompRest.succ ?_; intro v' I' oI' C' oC' D' m' h' tk' E' hv' hC' hx' F' N' off' ne'; (first | lcg_open hv' | (obtain ⟨t9', hv9'⟩ := hv'; subst hv9')))
  | refine LCg.CompRest.zero ?_)
  refine' tel_ofC (binds := [(Str.ofString "cell", .int c t)]) ?ho ?hcd ?hb ?hl ?h1 ?h2 ?h3 ?h4 ?_
  (case ho => k_is)
  (case hcd => k_is)
  (case hb => intro s; exact BindsTo.of_eq rfl)
  (case hl => exact rfl)
  (case h1 => decide)
  (case h2 => exact rfl)
  (case h3 => exact rfl)
  (case h4 => exact rfl)
  intro dp uu gd outer A₀ base g L' s Q cells B F N Y X T hd hu hpre hret
  k_cells Y
  k_steps
  all_goals (try dsimp only)
  exact hret _ _ _ (Fr.keep (by assumption)) (rule_out (by assumption) (by with_reducible walk_at "my mem") (by with_reducible walk_at "my mem") (by exact rfl) (by exact rfl) (by exact ⟨_, _, _, _, rfl⟩))
end
end Mine
namespace Mine
open PySem PySem.W PySem.Spec PySem.Calls PyProof.Rows
open Builtin Builtin.Str

/-- str.find with two bounds -/
def find4 (x y : PySem.Str) (i j : Int) : Int := match occurrences x y (fromIndex x.length i) (min (fromIndex x.length j) x.length) 1 with | k :: _ => (k : Int) | [] => -1
def dots : PySem.Str := Str.ofString "..."
/-- the pieces between the ends, one behind the other -/
def ellLoop (got : PySem.Str) (ep : Int) : List PySem.Str → Int → Bool
  | [], _ => true
  | v :: vs, sp => if find4 got v sp ep < 0 then false else ellLoop got ep vs (find4 got v sp ep + v.length)
def ellEnd (got : PySem.Str) (sp ep : Int) (ws : List PySem.Str) : Bool := if sp > ep then false else ellLoop got ep ws sp
def ellLast (got : PySem.Str) (sp : Int) (ws : List PySem.Str) (z : PySem.Str) : Bool :=
  if z.length = 0 then ellEnd got sp got.length (ws ++ [z]) else if Txt.endswith got z = true then ellEnd got sp (got.length - z.length) ws else false
def ellDots (got a : PySem.Str) (mid : List PySem.Str) (z : PySem.Str) : Bool :=
  if a.length = 0 then ellLast got 0 (a :: mid) z else if Txt.startswith got a = true then ellLast got a.length mid z else false
def ellM (want got : PySem.Str) : Bool :=
  if (occurrences want dots 0 want.length 1).isEmpty = true then want == got
  else match Txt.split want dots with
    | a :: r => ellDots got a r.dropLast (r.getLastD PySem.Str.empty)
    | [] => false

theorem two_ends {α : Type} : ∀ {l : List α}, 2 ≤ l.length → ∃ a mid z, l = a :: (mid ++ [z])
  | a :: b :: r, _ => ⟨a, (b :: r).dropLast, (b :: r).getLast (by simp), by rw [List.dropLast_concat_getLast]⟩
theorem occ_none {x y : PySem.Str} {l k : Nat} (hl : 1 ≤ l) (hk : 1 ≤ k) : (occurrences x y 0 x.length l).isEmpty = (occurrences x y 0 x.length k).isEmpty := by
  rcases StrLaws.occ_head x y l hl with ⟨e, h⟩ | ⟨i, r, e, h, _⟩ <;> rcases StrLaws.occ_head x y k hk with ⟨e', h'⟩ | ⟨i', r', e', h', _⟩ <;> rw [e, e']
  · exact absurd h' (h _)
  · exact absurd h (h' _)
  · rfl
theorem strKind_pos (x : PySem.Str) : 1 ≤ Builtin.Str.strKind x := by unfold Builtin.Str.strKind; split <;> (try split) <;> decide
theorem split_cut {x y : PySem.Str} (hc : (occurrences x y 0 x.length 1).isEmpty = false) (hk : Builtin.Str.strKind y = 1) : Txt.split x y = partsBetween x (occurrences x y 0 x.length (x.length + 1)) y.length := by
  have h1 : (decide (x.length < y.length) || decide (Builtin.Str.strKind x < Builtin.Str.strKind y)) = false := by
    rcases StrLaws.occ_head x y 1 (Nat.le_refl _) with ⟨e, _⟩ | ⟨i, r, _, h, _⟩
    · rw [e] at hc; cases hc
    · have := strKind_pos x
      have := h.1
      rw [hk]; simp; omega
  have h2 : (occurrences x y 0 x.length (x.length + 1)).isEmpty = false := by rw [occ_none (k := 1) (by omega) (by omega)]; exact hc
  unfold Txt.split
  rw [h1, h2]
  simp
theorem split_short {x y : PySem.Str} (hc : (occurrences x y 0 x.length 1).isEmpty = false) (hk : Builtin.Str.strKind y = 1) : (Txt.split x y).length ≤ x.length + 2 := by
  rw [split_cut hc hk, length_partsBetween]
  have := StrLaws.occ_length_le_len x y 0 x.length (x.length + 1)
  omega
theorem split_two {x y : PySem.Str} (hc : (occurrences x y 0 x.length 1).isEmpty = false) (hk : Builtin.Str.strKind y = 1) : ∃ a mid z, Txt.split x y = a :: (mid ++ [z]) := by
  refine two_ends ?_
  rw [split_cut hc hk, length_partsBetween]
  have h2 : (occurrences x y 0 x.length (x.length + 1)).isEmpty = false := by rw [occ_none (k := 1) (by omega) (by omega)]; exact hc
  cases e : occurrences x y 0 x.length (x.length + 1) with
  | nil => rw [e] at h2; cases h2
  | cons a r => simp

theorem ellM_same {x y : PySem.Str} (hc : (occurrences x dots 0 x.length 1).isEmpty = true) : ellM x y = (x == y) := by unfold ellM; rw [if_pos hc]
theorem ellM_of {x y a z : PySem.Str} {mid : List PySem.Str} (hc : (occurrences x dots 0 x.length 1).isEmpty = false) (hs : Txt.split x dots = a :: (mid ++ [z])) : ellM x y = ellDots y a mid z := by
  unfold ellM
  rw [if_neg (by rw [hc]; decide), hs]
  simp
theorem strValues_get {ls : List (PySem.Str × Tok)} {i : Nat} {v : Value} (h : (strValues ls)[i]? = some v) : ∃ q, ls[i]? = some q ∧ v = .str q.1 q.2 := by
  unfold strValues at h
  rw [List.getElem?_map] at h
  cases e : ls[i]? with
  | none => rw [e] at h; cases h
  | some q => rw [e] at h; exact ⟨q, rfl, by simpa using h.symm⟩
theorem ellLoop_step {got : PySem.Str} {ep sp : Int} {ls : List (PySem.Str × Tok)} {i : Nat} {q : PySem.Str × Tok} (h : ls[i]? = some q) :
    ellLoop got ep ((ls.drop i).map (·.1)) sp = if find4 got q.1 sp ep < 0 then false else ellLoop got ep ((ls.drop (i + 1)).map (·.1)) (find4 got q.1 sp ep + q.1.length) := by
  have : ls.drop i = q :: ls.drop (i + 1) := by
    obtain ⟨hi, e⟩ := List.getElem?_eq_some_iff.mp h
    rw [← e]; exact List.drop_eq_getElem_cons hi
  rw [this]
  rfl
def EJ (x y : PySem.Str) (ep : Int) (ls : List (PySem.Str × Tok)) (i : Nat) (c : Int × Tok) : Prop := ellLoop y ep ((ls.drop i).map (·.1)) c.1 = ellM x y
theorem EJ.start {x y : PySem.Str} {ep sp : Int} {ls : List (PySem.Str × Tok)} {t : Tok} (h : ellM x y = ellLoop y ep (ls.map (·.1)) sp) : EJ x y ep ls 0 (sp, t) := h.symm
theorem EJ.stop {x y : PySem.Str} {ep : Int} {ls : List (PySem.Str × Tok)} {i : Nat} {c : Int × Tok} {q : PySem.Str × Tok} (h : EJ x y ep ls i c) (hq : ls[i]? = some q) (hn : find4 y q.1 c.1 ep < 0) : Value.bool false = Value.bool (ellM x y) := by
  rw [← h, ellLoop_step hq, if_pos hn]
theorem EJ.next {x y : PySem.Str} {ep : Int} {ls : List (PySem.Str × Tok)} {i : Nat} {c : Int × Tok} {q : PySem.Str × Tok} {t : Tok} (h : EJ x y ep ls i c) (hq : ls[i]? = some q) (hn : ¬ find4 y q.1 c.1 ep < 0) : EJ x y ep ls (i + 1) (find4 y q.1 c.1 ep + q.1.length, t) := by
  unfold EJ at h ⊢
  rw [← h, ellLoop_step hq, if_neg hn]
theorem EJ.done {x y : PySem.Str} {ep : Int} {ls : List (PySem.Str × Tok)} {c : Int × Tok} (h : EJ x y ep ls (strValues ls).length c) : Value.bool true = Value.bool (ellM x y) := by
  unfold EJ at h
  rw [← h]; simp [strValues, ellLoop]

section
variable {prog : Program} {w : World} {A : Around} {E : Value → Shared → Prop} {s : Shared} {h₀ : Heap} {L D : Addr} {m : PySem.Str → Option Value} {news news' : List (Addr × Obj)} {x y : PySem.Str} {t u : Tok}
theorem split_own {Q : Value → Shared → Prop} (F : Fr h₀ L s.heap m) (N : News h₀ L s.heap news) (hy : (y.length == 0) = false) (hk : Builtin.Str.strKind y = 1) (hc : (occurrences x y 0 x.length 1).isEmpty = false)
    (h : ∀ a ta mid z tz h' k, Txt.split x y = a :: (mid.map (·.1) ++ [z]) → a.length ≤ x.length → z.length ≤ x.length → mid.length ≤ x.length → (∀ p ∈ mid, p.1.length ≤ x.length) → Fr h₀ L h' m →
      News h₀ L h' ((s.heap.objs.size, listOf (.str a ta :: (strValues mid ++ [.str z tz])).toArray 0) :: news) → Q (.ref s.heap.objs.size) { s with heap := h', toks := k }) (hsz : x.length + 2 ≤ sizeLine) :
    wpAny (model prog w) A (call (.builtin "str.split") [.str x t, .str y u]) Q E s := by
  refine splitN1A F N hy (fun l h' k e1 e2 e3 e4 F' N' => ?_) hsz
  obtain ⟨a, mid, z, e⟩ := split_two hc hk
  rw [e] at e1
  obtain ⟨⟨a', ta⟩, l1, rfl, rfl, e5⟩ := List.map_eq_cons_iff.mp e1
  obtain ⟨l2, l3, rfl, rfl, e6⟩ := List.map_eq_append_iff.mp e5
  obtain ⟨⟨z', tz⟩, l4, rfl, rfl, e7⟩ := List.map_eq_cons_iff.mp e6
  have : l4 = [] := List.map_eq_nil_iff.mp e7
  subst this
  have hs := split_short hc hk
  rw [e] at hs
  refine h a' ta l2 z' tz h' k e (e3 _ (by simp)) (e3 _ (by simp)) (by simpa using hs) (fun p hp => e3 _ (by simp; exact .inr (.inl ⟨_, hp⟩))) F' ?_
  simpa [strValues] using N'

theorem find4_call {i j : Int} {v v' : Tok} {Q : Value → Shared → Prop} (hq : Q (.int (find4 x y i j) s.toks) { s with toks := s.toks + 1 }) : wpAny (model prog w) A (call (.builtin "str.find") [.str x t, .str y u, .int i v, .int j v']) Q E s := by
  refine call_gives F.slot_str_find (typeIs_str _ _ _) F.entry_str_find (F.args_str_find_4 _ _ _ _) (m := .int (find4 x y i j)) ?_ hq
  show Gives (match occurrences x y (fromIndex x.length i) (min (fromIndex x.length j) x.length) 1 with | k :: _ => retInt k | [] => (do rule "str.find.not-found"; retInt (-1))) _
  unfold find4
  cases occurrences x y (fromIndex x.length i) (min (fromIndex x.length j) x.length) 1 with
  | nil => exact .rule (.of_eq rfl)
  | cons k _ => exact .of_eq rfl

theorem truthy_own {Q : Bool → Shared → Prop} (hx : x.length ≤ 1000000) (h : ∀ k, (x.length = 0 → Q false { s with toks := k }) ∧ (x.length ≠ 0 → Q true { s with toks := k })) : wpAny (model prog w) A (truthy (.str x t)) Q E s := by
  refine P.truthy_str (by omega) ?_
  by_cases e : x.length = 0
  · have := (h (s.toks + 1 + 1)).1 e
    rw [e]; simpa using this
  · have := (h (s.toks + 1 + 1)).2 e
    have e' : ((x.length : Int) != 0) = true := by simp; omega
    rw [e']; exact this

theorem listIn {ls : List Value} {vs : List Value} {n : Nat} {h : Heap} (N : News h₀ L h news) (hm : (D, listOf vs.toArray n) ∈ news) (e : vs = ls) : h.IsList D ls.toArray ∧ D ≠ L := by
  subst e
  exact ⟨⟨_, (N _ hm).1, rfl, n, rfl⟩, (N _ hm).2.1⟩
theorem len_two {v z : Value} {vs : List Value} {n : Nat} {Q : Value → Shared → Prop} (N : News h₀ L s.heap news) (hm : (D, listOf (v :: (vs ++ [z])).toArray n) ∈ news) (hsz : vs.length < 1000000)
    (h : Q (.int ((vs.length : Int) + 2) (s.toks + 1)) { s with toks := s.toks + 1 + 1 }) : wpAny (model prog w) A (call (.builtin "len") [.ref D]) Q E s :=
  kst_len (k := vs.length + 2) N hm (by simp) (by omega) (by simpa using h)
theorem item_first {value slice : PySem.Expr} {v : Value} {vs : List Value} {n : Nat} {k : Tok} {Q : Value → Shared → Prop} (N : News h₀ L s.heap news) (hm : (D, listOf (v :: vs).toArray n) ∈ news) (h : Q v s)
    (hs : subscripted slice false (.ref D) (.int 0 k) = operate [.ref D, .int 0 k] (getItem (.ref D) (.int 0 k))) :
    wpAny (model prog w) A (subscriptTail value slice (.ref D) (.int 0 k)) Q E s := by
  have hl : s.heap.IsList D (v :: vs).toArray := ⟨_, (N _ hm).1, rfl, n, rfl⟩
  exact tail_any hl.typeIs F.slot_list_getitem.lookup (wpAny_getItem_list hl (by decide) (by decide) (by simp) h) hs
theorem item_last {value slice : PySem.Expr} {v : Value} {vs : List Value} {n : Nat} {k : Tok} {Q : Value → Shared → Prop} (N : News h₀ L s.heap news) (hm : (D, listOf (vs ++ [v]).toArray n) ∈ news) (hsz : vs.length < 1000000) (h : Q v s)
    (hs : subscripted slice false (.ref D) (.int (-1) k) = operate [.ref D, .int (-1) k] (getItem (.ref D) (.int (-1) k))) :
    wpAny (model prog w) A (subscriptTail value slice (.ref D) (.int (-1) k)) Q E s := by
  have hl : s.heap.IsList D (vs ++ [v]).toArray := ⟨_, (N _ hm).1, rfl, n, rfl⟩
  refine tail_any hl.typeIs F.slot_list_getitem.lookup (wpAny_getItem_list_neg hl (by decide) (by simp; omega) (by decide) ?_ h) hs
  simp
  have : (-1 + ((vs.length : Int) + 1)).toNat = vs.length := by omega
  rw [this]; simp
theorem del_first {v : Value} {vs : List Value} {n : Nat} {k : Tok} {Q : Unit → Shared → Prop} (F : Fr h₀ L s.heap m) (N : News h₀ L s.heap news) (U : Upd D (listOf (v :: vs).toArray n) (listOf vs.toArray (n + 1)) news news') (hsz : vs.length < 1000000)
    (h : ∀ h', Fr h₀ L h' m → News h₀ L h' news' → Q () { s with heap := h' }) : wpAny (model prog w) A (delItem (.ref D) (.int 0 k)) Q E s := by
  obtain ⟨pre, post, rfl, rfl, a, b⟩ := U.split
  have z := N (D, listOf (v :: vs).toArray n) (by simp)
  refine delItem_at (its := (v :: vs).toArray) (n := n) (k := 0) z.1 (by decide) (by simp [seqIndex?]) (fun h' hs ho' => h h' (F.change hs z.2.1 z.2.2) (N.setAt a b hs (by simpa using ho'))) (by simp [sizeLine]; omega)
theorem del_last {v : Value} {vs : List Value} {n : Nat} {k : Tok} {Q : Unit → Shared → Prop} (F : Fr h₀ L s.heap m) (N : News h₀ L s.heap news) (U : Upd D (listOf (vs ++ [v]).toArray n) (listOf vs.toArray (n + 1)) news news') (hsz : vs.length < 1000000)
    (h : ∀ h', Fr h₀ L h' m → News h₀ L h' news' → Q () { s with heap := h' }) : wpAny (model prog w) A (delItem (.ref D) (.int (-1) k)) Q E s := by
  obtain ⟨pre, post, rfl, rfl, a, b⟩ := U.split
  have z := N (D, listOf (vs ++ [v]).toArray n) (by simp)
  refine delItem_at (its := (vs ++ [v]).toArray) (n := n) (k := vs.length) z.1 (by decide) ?_ (fun h' hs ho' => h h' (F.change hs z.2.1 z.2.2) (N.setAt a b hs ?_)) (by simp [sizeLine]; omega)
  · have e1 : (vs ++ [v]).toArray.size = vs.length + 1 := by simp
    unfold seqIndex?
    rw [e1]
    have e2 : (if (-1 : Int) < 0 then -1 + ((vs.length + 1 : Nat) : Int) else -1) = (vs.length : Int) := by rw [if_pos (by decide)]; omega
    simp only [e2]
    rw [if_pos (by simp; omega)]
    simp
  · have e : (vs ++ [v]).eraseIdx vs.length = vs := by
      rw [List.eraseIdx_append_of_length_le (by omega)]; simp
    rw [← e]; simpa using ho'
theorem item_lastC {value slice : PySem.Expr} {a v : Value} {vs : List Value} {n : Nat} {k : Tok} {Q : Value → Shared → Prop} (N : News h₀ L s.heap news) (hm : (D, listOf (a :: (vs ++ [v])).toArray n) ∈ news) (hsz : vs.length < 1000000 - 1) (h : Q v s)
    (hs : subscripted slice false (.ref D) (.int (-1) k) = operate [.ref D, .int (-1) k] (getItem (.ref D) (.int (-1) k))) :
    wpAny (model prog w) A (subscriptTail value slice (.ref D) (.int (-1) k)) Q E s :=
  item_last (vs := a :: vs) N hm (by simp; omega) h hs
theorem del_lastC {a v : Value} {vs : List Value} {n : Nat} {k : Tok} {Q : Unit → Shared → Prop} (F : Fr h₀ L s.heap m) (N : News h₀ L s.heap news) (U : Upd D (listOf (a :: (vs ++ [v])).toArray n) (listOf (a :: vs).toArray (n + 1)) news news') (hsz : vs.length < 1000000 - 1)
    (h : ∀ h', Fr h₀ L h' m → News h₀ L h' news' → Q () { s with heap := h' }) : wpAny (model prog w) A (delItem (.ref D) (.int (-1) k)) Q E s :=
  del_last (vs := a :: vs) F N U (by simp; omega) h
theorem for_ell {env : Env} {xn : PySem.Str} {body : List Stmt} {Q : Flow → Shared → Prop} {want got : PySem.Str} {ep sp : Int} {ls : List (PySem.Str × Tok)} {vs' : List Value} {nn : Nat} {m₀ : PySem.Str → Option Value} {tk : Tok}
    (hG : ellM want got = ellLoop got ep (ls.map (·.1)) sp) (hh : A.handled = none) (hm : (D, listOf vs'.toArray nn) ∈ news) (e : vs' = strValues ls) (F : Fr h₀ env.locals s.heap m₀) (N : News h₀ env.locals s.heap news)
    (hk : ∀ p ∈ [(Str.ofString "startpos", Value.int sp tk)], m₀ p.1 = some p.2)
    (turn : ∀ i (c : Int × Tok) (q : PySem.Str × Tok) (u : PySem.Str → Option Value) h tk own, ls[i]? = some q → EJ want got ep ls i c →
      Fr h₀ env.locals h (fun y => if y = xn then some (.str q.1 q.2) else kstB (fun z => if ([] : List PySem.Str).contains z then u z else m₀ z) [(Str.ofString "startpos", Value.int c.1 c.2)] y) → News h₀ env.locals h ([] ++ ([] ++ own)) →
      wpAny (model prog w) A (execs body env) (InvPostN h₀ env.locals (MS (fun _ => []) (fun c => [(Str.ofString "startpos", Value.int c.1 c.2)]) xn [] m₀ (EJ want got ep ls (i + 1))) ([] ++ own) (([] : List (Addr × Obj)).map (·.1)) { s with heap := h, toks := tk } Q) E { s with heap := h, toks := tk })
    (done : ∀ (c : Int × Tok) (u : PySem.Str → Option Value) h tk, Value.bool true = Value.bool (ellM want got) → Fr h₀ env.locals h (fun y => if y = xn then u y else kstB (fun z => if ([] : List PySem.Str).contains z then u z else m₀ z) [(Str.ofString "startpos", Value.int c.1 c.2)] y) → News h₀ env.locals h [] → Q .next { s with heap := h, toks := tk }) :
    wpAny (model prog w) A (pyIter (.ref D)) (fun it s₂ => LoopAtV prog w A h₀ env xn body Q E it s₂) E s :=
  for_listN (σ := Int × Tok) (vs := strValues ls) [] (fun _ => []) (fun c => [(Str.ofString "startpos", Value.int c.1 c.2)]) [] (EJ want got ep ls) (sp, tk) hh hm e (by simp) F N (by simp) hk (EJ.start hG)
    (fun i c v u h tk own hv _ hJ F1 N1 => by
      obtain ⟨q, hq, rfl⟩ := strValues_get hv
      exact turn i c q u h tk own hq hJ F1 N1)
    (fun c u h tk hJ F1 N1 => done c u h tk hJ.done F1 N1)
end
/-- what _law_alone asks of a word -/
structure Alone (x : PySem.Str) (k : Int) : Prop where
  e1 : ellM x x = true
  e2 : x = Str.ofString "" → ellM (Str.ofString "...") x = true
  e3 : x ≠ Str.ofString "" → ellM (Txt.slice x none (some (k.fmod x.length)) ++ Str.ofString "..." ++ Txt.slice x (some (k.fmod x.length)) none) x = true
  e4 : x ≠ Str.ofString "" → ellM (Txt.slice x none (some (k.fmod x.length + 1)) ++ Str.ofString "..." ++ Txt.slice x (some (k.fmod x.length)) none) x = false
  e5 : x ≠ Str.ofString "" → ellM (Txt.slice x none (some (k.fmod x.length)) ++ Str.ofString "..." ++ Txt.item x (k.fmod x.length) ++ Str.ofString "..." ++ Txt.slice x (some (k.fmod x.length)) none) x = false
  e6 : x ≠ Str.ofString "" → ellM (Txt.slice x (some 1) none ++ Str.ofString "...") x = (Txt.count x (Txt.item x 0) == (x.length : Int))
  e7 : x ≠ Str.ofString "" → ellM (Str.ofString "..." ++ Txt.slice x none (some (-1))) x = (Txt.count x (Txt.item x 0) == (x.length : Int))
end Mine
namespace Mine
open PySem PySem.W PySem.Spec PySem.Calls PyProof.Rows
section
variable {prog : Program} {w : World} {p : Program} {loose : List Str} {mean : ExcName → Option Value} {mg mb : Str → Option Value}

theorem ell_tel (x y : Str) (t u : Tok) : Tel prog w (hd.heap_39 w.params) p loose mean mg mb 21 10 100 [.str x t, .str y u] (fun _ => x.length ≤ 1000 ∧ y.length ≤ 1000) (fun _ _ r => r = .bool (ellM x y)) := by
  k_with_none
  k_with "call builtin:str.split" => (k_here; k_dflt (refine' split_own ?kw0F ?kw0N ?kw0y ?kw0k ?kw0c ?_ ?kw0z; (case kw0F => k_asm); (case kw0N => k_asm); (case kw0y => decide); (case kw0k => decide +kernel); (case kw0c => assumption); (case kw0z => (rw [sizeLine_eq]; omega)); k_whole); intro a ta mid z tz h' k hsp la lz lm ln F' N'; (try k_sweep))
  k_with "my mem" => (first | exact List.mem_cons_self | (refine List.mem_cons_of_mem _ ?_; walk_at "my mem"))
  k_with "ell size" => (simp only [strValues, List.length_append, List.length_cons, List.length_nil, List.length_map]; omega)
  k_with "call builtin:len" => (k_here; k_dflt (refine' len_two ?kw3N ?kw3m ?kw3z ?_; (case kw3N => k_asm); (case kw3m => k_mem); (case kw3z => walk_at "ell size"); k_whole))
  k_with "subscriptTail Name Constant ref int" => (k_here; k_dflt (refine' item_first ?kw4N ?kw4m ?_ ?kw4s; (case kw4N => k_asm); (case kw4m => k_mem); (case kw4s => with_unfolding_all rfl); k_whole))
  k_with "subscriptTail Name UnaryOp ref int" => (k_here; k_dflt (first
  | (refine' item_lastC ?kw5N ?kw5m ?kw5z ?_ ?kw5s; (case kw5N => k_asm); (case kw5m => with_reducible walk_at "my mem"); (case kw5z => walk_at "ell size"); (case kw5s => with_unfolding_all rfl); k_whole)
  | (refine' item_last ?kw5N ?kw5m ?kw5z ?_ ?kw5s; (case kw5N => k_asm); (case kw5m => with_reducible walk_at "my mem"); (case kw5z => walk_at "ell size"); (case kw5s => with_unfolding_all rfl); k_whole)))
  k_with "truthy str" => (k_here; k_dflt (refine' truthy_own ?kw6x ?_; (case kw6x => omega); k_whole); intro tk; refine ⟨?_, ?_⟩ <;> intro hz)
  k_with "delItem ref int" => (k_here; (with_reducible show wpAny _ _ (delItem (Value.ref _) (Value.int 0 _)) _ _ _); k_dflt (refine' del_first ?kw7F ?kw7N ?kw7U ?kw7z ?_; (case kw7F => k_asm); (case kw7N => k_asm); (case kw7U => with_reducible k_upd); (case kw7z => walk_at "ell size"); k_whole); intro h' F' N'; (try k_sweep))
  k_with "delItem ref int" => (k_here; (with_reducible show wpAny _ _ (delItem (Value.ref _) (Value.int (-1) _)) _ _ _); k_dflt (first
  | (refine' del_lastC ?kw8F ?kw8N ?kw8U ?kw8z ?_; (case kw8F => k_asm); (case kw8N => k_asm); (case kw8U => with_reducible k_upd); (case kw8z => walk_at "ell size"); k_whole)
  | (refine' del_last ?kw8F ?kw8N ?kw8U ?kw8z ?_; (case kw8F => k_asm); (case kw8N => k_asm); (case kw8U => with_reducible k_upd); (case kw8z => walk_at "ell size"); k_whole)); intro h' F' N'; (try k_sweep))
  k_with "call builtin:str.find" => (k_here; k_dflt (refine' find4_call ?_; k_whole))
  k_with "pyIter ref" => (k_here; refine stop_here ?_)
  k_with "ell end" => (first
  | (rw [ellM_same (by assumption)])
  | ((have hE := ellM_of (y := y) (by assumption) hsp); rw [hE]; (try unfold ellDots); (try unfold ellLast); (try unfold ellEnd); simp_all; done))
  k_with "ell turn" => (
  refine' for_ell hG rfl ?kw12hm ?kw12he ?kw12F ?kw12N ?kw12hk ?kw12turn ?kw12done
  (case kw12F => k_asm)
  (case kw12N => k_asm)
  (case kw12hm => with_reducible walk_at "my mem")
  (case kw12he => simp [strValues])
  (case kw12hk => (intro p hp; cases List.mem_singleton.mp hp; exact rfl))
  (case kw12turn =>
    intro i c q u h1 tk1 own hq hJ F1 N1
    have hq1 : q.1.length ≤ 1000 := hall q (by
      have hm9 := List.mem_of_getElem? hq
      simp only [List.mem_cons, List.mem_append, List.not_mem_nil, or_false] at hm9 ⊢
      grind)
    k_steps
    all_goals (try dsimp only [InvPostN])
    all_goals first
      | exact hret _ _ _ (Fr.keep (by assumption)) (hJ.stop hq (by assumption))
      | (refine' ⟨_, _, _, _, [], rfl, ?kw12F, ?kw12N, ?kw12sub, ?kw12own, rfl, (_, _), rfl, ?kw12ps, ?kw12rest, ?kw12J⟩
         (case kw12F => k_asm)
         (case kw12N => k_asm)
         (case kw12sub => simp)
         (case kw12own => (intro p hp; simpa using hp))
         (case kw12ps => (intro p hp; cases List.mem_singleton.mp hp; exact rfl))
         (case kw12rest => (intro z h1 h2 h3; simp at h2; simp [kstB, h1, h2]))
         (case kw12J => exact hJ.next hq (by assumption))))
  (case kw12done =>
    intro c u h1 tk1 hJ F1 N1
    k_steps
    all_goals (try dsimp only)
    exact hret _ _ _ (Fr.keep (by assumption)) hJ))
  k_with "ell loop" => (
  unfold Stop
  have hE := ellM_of (y := y) (by assumption) hsp
  have hall : ∀ q : Str × Tok, q ∈ (a, ta) :: (mid ++ [(z, tz)]) → q.1.length ≤ 1000 := by
    intro q hq
    simp only [List.mem_cons, List.mem_append, List.not_mem_nil, or_false] at hq
    rcases hq with rfl | hq | rfl
    · exact Nat.le_trans la hx
    · exact Nat.le_trans (ln q hq) hx
    · exact Nat.le_trans lz hx
  first
  | (have hG : ellM x y = ellLoop y y.length (((a, ta) :: (mid ++ [(z, tz)])).map (·.1)) 0 := by rw [hE]; unfold ellDots ellLast ellEnd; simp_all; done)
  | (have hG : ellM x y = ellLoop y (y.length - z.length) (((a, ta) :: mid).map (·.1)) 0 := by rw [hE]; unfold ellDots ellLast ellEnd; simp_all; done)
  | (have hG : ellM x y = ellLoop y y.length ((mid ++ [(z, tz)]).map (·.1)) a.length := by rw [hE]; unfold ellDots ellLast ellEnd; simp_all; done)
  | (have hG : ellM x y = ellLoop y (y.length - z.length) (mid.map (·.1)) a.length := by rw [hE]; unfold ellDots ellLast ellEnd; simp_all; done)
  walk_at "ell turn")
  refine' tel_of (binds := [(Str.ofString "want", .str x t), (Str.ofString "got", .str y u)]) ?ho ?hcd ?hb ?hl ?h1 ?h2 ?h3 ?h4 ?_
  (case ho => k_is)
  (case hcd => k_is)
  (case hb => intro s; exact BindsTo.of_eq rfl)
  (case hl => exact locs rfl)
  (case h1 => decide)
  (case h2 => exact rfl)
  (case h3 => exact rfl)
  (case h4 => exact rfl)
  intro dp uu gd outer A₀ base g L' s Q B F N X T hd hu hpre hret
  obtain ⟨hx, hy⟩ := hpre
  k_steps
  all_goals (try dsimp only)
  all_goals first
    | (refine hret _ _ _ (Fr.keep (by assumption)) ?_; walk_at "ell end")
    | skip
  all_goals walk_at "ell loop"
end
end Mine
namespace Mine
open PySem PySem.W PySem.Spec PySem.Calls PyProof.Rows
section
variable {prog : Program} {w : World} {p : Program} {loose : List Str} {mean : ExcName → Option Value} {mg mb : Str → Option Value}
theorem alone_tel (x : Str) (t u : Tok) (k : Int) : Tel prog w (hd.heap_39 w.params) p loose mean mg mb 145 20 120 [.str x t, .int k u] (fun _ => x.length ≤ 100 ∧ (0 ≤ k ∧ k ≤ 100) ∧ Alone x k) (fun g h' r => r = .bool true) := by
  k_with_none
  k_with "ell pre" => ((try simp only [PySem.Str.length_append]); (first | exact ⟨by omega, by omega⟩ | (constructor <;> omega)))
  k_with "ell post" => (try dsimp only)
  k_with "call ref" => (k_here; (with_reducible show wpAny _ _ (call (Value.ref 21) _) _ _ _); k_dflt (
  refine' tel_use (ell_tel _ _ _ _) ?kw2B ?kw2F ?kw2X ?kw2N ?kw2T rfl ?kw2d ?kw2u ?kw2p ?_; (case kw2B => k_asm); (case kw2F => k_asm); (case kw2X => k_asm); (case kw2N => k_asm); (case kw2T => k_asm);
  (case kw2p => walk_at "ell pre"); (case kw2d => omega); (case kw2u => omega)); intro r h' tk' F' N' st hO; subst hO; clear st; (try k_sweep); (walk_at "ell post"))
  refine' tel_of (binds := [(Str.ofString "name", .str x t), (Str.ofString "step", .int k u)]) ?ho ?hcd ?hb ?hl ?h1 ?h2 ?h3 ?h4 ?_
  (case ho => k_is)
  (case hcd => k_is)
  (case hb => intro s; exact BindsTo.of_eq rfl)
  (case hl => exact locs rfl)
  (case h1 => decide)
  (case h2 => exact rfl)
  (case h3 => exact rfl)
  (case h4 => exact rfl)
  intro dp uu gd outer A₀ base g L' s Q B F N X T hd hu hpre hret
  obtain ⟨hx, hk, hA⟩ := hpre
  have e1 := hA.e1
  have h3 : (Str.ofString "...").length = 3 := by decide +kernel
  by_cases h0 : x = Str.ofString ""
  · have e2 := hA.e2 h0
    subst h0
    k_steps
    all_goals (try dsimp only)
    all_goals try first
      | (exfalso; simp_all; done)
      | (refine hret _ _ _ (Fr.keep (by assumption)) ?_; simp_all; done)
  · have e3 := hA.e3 h0
    have e4 := hA.e4 h0
    have e5 := hA.e5 h0
    have e6 := hA.e6 h0
    have e7 := hA.e7 h0
    have h1 : 1 ≤ x.length := by
      rcases Nat.eq_zero_or_pos x.length with h | h
      · exfalso; apply h0
        have : x.cps = #[] := Array.size_eq_zero_iff.mp h
        have e9 : Str.ofString "" = ⟨#[]⟩ := by decide +kernel
        rw [e9]; cases x; simp_all
      · exact h
    have h5 : 0 ≤ k.fmod x.length ∧ k.fmod x.length < x.length := by
      rw [Int.fmod_eq_emod_of_nonneg _ (by omega)]
      exact ⟨Int.emod_nonneg _ (by omega), Int.emod_lt_of_pos _ (by omega)⟩
    k_steps
    all_goals (try dsimp only)
    all_goals try first
      | (exfalso; simp_all; done)
      | (refine hret _ _ _ (Fr.keep (by assumption)) ?_; simp_all; done)
end
end Mine
namespace Mine
open PySem PySem.W PySem.Spec PySem.Calls PyProof.Rows
structure C4 where
  a : Int
  b : Int
  c : Int
  d : Int
  ta : Tok
  tb : Tok
  tc : Tok
  td : Tok
  n : Nat
def C4.led (D : Addr) (c : C4) : List (Addr × Obj) := [(D, listOf #[.int c.a c.ta, .int c.b c.tb, .int c.c c.tc, .int c.d c.td] c.n)]
def C4.ok (i : Nat) (c : C4) : Prop := (0 ≤ c.a ∧ c.a ≤ 1000 + 1000000 * i) ∧ (0 ≤ c.b ∧ c.b ≤ 1000 + 1000000 * i) ∧ (0 ≤ c.c ∧ c.c ≤ 1000 + 1000000 * i) ∧ (0 ≤ c.d ∧ c.d ≤ 1000 + 1000000 * i)
/-- four counts -/
def Four (vs : List Value) : Prop := ∃ a b c d ta tb tc td, vs = [.int a ta, .int b tb, .int c tc, .int d td] ∧ (0 ≤ a ∧ a ≤ 100000000) ∧ (0 ≤ b ∧ b ≤ 100000000) ∧ (0 ≤ c ∧ c ≤ 100000000) ∧ (0 ≤ d ∧ d ≤ 100000000)
section
variable {prog : Program} {w : World} {A : Around} {E : Value → Shared → Prop} {s : Shared} {Q : Value → Shared → Prop}
theorem mod_rng {a b : Int} {t u : Tok} (b' : Int) (e : b = b') (hb : 0 < b') (h : ∀ r t k, 0 ≤ r → r < b' → Q (.int r t) { s with toks := k }) : wpAny (model prog w) A (binaryOp .Mod (.int a t) (.int b u)) Q E s := by
  subst e
  exact mod_int' (by omega) (h _ _ _ (by rw [Int.fmod_eq_emod_of_nonneg _ (by omega)]; exact Int.emod_nonneg _ (by omega)) (by rw [Int.fmod_eq_emod_of_nonneg _ (by omega)]; exact Int.emod_lt_of_pos _ hb))
theorem mod_as {a b r : Int} {t u : Tok} (e : a.fmod b = r) (hb : 0 < b) (h : ∀ t k, Q (.int r t) { s with toks := k }) : wpAny (model prog w) A (binaryOp .Mod (.int a t) (.int b u)) Q E s := by
  subst e
  exact mod_int' (by omega) (h _ _)
end
theorem small_range {n : Nat} (h : n ≤ 1000) : Builtin.Range.small 0 (n : Int) 1 = true ∧ Builtin.Range.rangeSize 0 (n : Int) 1 = (n : Int) := by
  have e : Builtin.Range.rangeSize 0 (n : Int) 1 = (n : Int) := by
    unfold Builtin.Range.rangeSize
    rw [if_pos (by decide)]
    split
    · simp
    · omega
  refine ⟨?_, e⟩
  unfold Builtin.Range.small
  rw [e]
  unfold Builtin.Range.rangeFitsLong
  simp
  omega
theorem four_cases (i : Nat) : ((0 : Int) + (i : Int)).fmod 4 = 0 ∨ ((0 : Int) + (i : Int)).fmod 4 = 1 ∨ ((0 : Int) + (i : Int)).fmod 4 = 2 ∨ ((0 : Int) + (i : Int)).fmod 4 = 3 := by
  rw [Int.fmod_eq_emod_of_nonneg _ (by decide)]; omega
theorem C4.start {ta tb tc td : Tok} {n : Nat} : C4.ok 0 ⟨95, 205, 632, 478, ta, tb, tc, td, n⟩ := by
  refine ⟨⟨?_, ?_⟩, ⟨?_, ?_⟩, ⟨?_, ?_⟩, ⟨?_, ?_⟩⟩ <;> dsimp only <;> omega
theorem c4_end {g h' : Heap} {L D : Addr} {m' m₀ : Str → Option Value} {news' own : List (Addr × Obj)} {a b c d : Int} {ta tb tc td : Tok} {n i tk : Nat} {x : Str} {c₀ : C4} {s₁ : Shared}
    (F : Fr g L h' m') (N : News g L h' news') (hm : (D, listOf #[.int a ta, .int b tb, .int c tc, .int d td] n) ∈ news') (ho : ∀ p ∈ own, p ∈ news') (hr : ∀ z, z ≠ x → m' z = m₀ z)
    (ok : (0 ≤ a ∧ a ≤ 1000 + 1000000 * (i + 1)) ∧ (0 ≤ b ∧ b ≤ 1000 + 1000000 * (i + 1)) ∧ (0 ≤ c ∧ c ≤ 1000 + 1000000 * (i + 1)) ∧ (0 ≤ d ∧ d ≤ 1000 + 1000000 * ((i : Int) + 1))) :
    InvEndN g L (MS (C4.led D) (fun _ => []) x [] m₀ (C4.ok (i + 1))) ([] ++ own) ((C4.led D c₀).map (·.1)) s₁ { s₁ with heap := h', toks := tk } := by
  refine ⟨h', tk, m', news', C4.led D ⟨a, b, c, d, ta, tb, tc, td, n⟩, rfl, F, N, ?_, fun p hp => ho p (by simpa using hp), rfl, ⟨a, b, c, d, ta, tb, tc, td, n⟩, rfl, by simp, fun z h1 _ _ => hr z h1, ?_⟩
  · intro p hp
    cases List.mem_singleton.mp hp
    exact hm
  · obtain ⟨h1, h2, h3, h4⟩ := ok
    refine ⟨⟨?_, ?_⟩, ⟨?_, ?_⟩, ⟨?_, ?_⟩, ⟨?_, ?_⟩⟩ <;> dsimp only <;> omega
end Mine
namespace Mine
open PySem PySem.W PySem.Spec PySem.Calls PyProof.Rows
section
variable {prog : Program} {w : World} {p : Program} {loose : List Str} {mean : ExcName → Option Value} {mg mb : Str → Option Value}
theorem cells_tel (l : Addr) (vs : List Value) (ns : List Int) (hI : IntsAre vs ns) (hn : ns.length ≤ 63) : Tel prog w (hd.heap_39 w.params) p loose mean mg mb 121 10 100 [.ref l] (fun h => h.IsList l vs.toArray) (fun g h' r => ListOut Four g h' r) := by
  k_with_none
  k_with "exec For Name Name cons nil" => (k_here; (rename Fr _ _ _ _ => lF'); (with_unfolding_all refine' For_invVF lF' ?kw0k1 ?kw0k2 ?_; (case kw0k1 => exact rfl); (case kw0k2 => exact rfl); k_whole))
  k_with "exec For Name Call cons nil" => (k_here; (rename Fr _ _ _ _ => lF'); (with_unfolding_all refine' For_invVF lF' ?kw1k1 ?kw1k2 ?_; (case kw1k1 => exact rfl); (case kw1k2 => exact rfl); k_whole))
  k_with "pyIter str" => (k_here; refine stop_here ?_)
  k_with "pyIter ref" => (k_here; refine stop_here ?_)
  k_with "binaryOp Mod int int" => (k_here; first | ((refine mod_as (by assumption) (by decide) ?_); intro _ _) | ((refine mod_rng 1000000 (by decide) (by decide) ?_); intro _ _ _ _ _))
  refine' tel_of (binds := [(Str.ofString "script", .ref l)]) ?ho ?hcd ?hb ?hl ?h1 ?h2 ?h3 ?h4 ?_
  (case ho => k_is)
  (case hcd => k_is)
  (case hb => intro s; exact BindsTo.of_eq rfl)
  (case hl => exact locs rfl)
  (case h1 => decide)
  (case h2 => exact rfl)
  (case h3 => exact rfl)
  (case h4 => exact rfl)
  intro dp uu gd outer A₀ base g L' s Q B F N X T hd hu hpre hret
  have hl := hpre
  have hlen := hI.length
  k_steps
  all_goals (try dsimp only)
  unfold Stop
  have e63 : (if 63 < (ns.length : Int) then 63 else (ns.length : Int)) = (ns.length : Int) := by split <;> omega
  simp only [e63] at *
  have hrng := ‹IsRange _ _ 0 (ns.length : Int) 1 _ _ _›
  obtain ⟨hsm, hsz⟩ := small_range (n := ns.length) (by omega)
  refine' for_range (σ := C4) (n := ns.length) [] (C4.led _) (fun _ => []) [] C4.ok ⟨95, 205, 632, 478, _, _, _, _, 0⟩ rfl hrng hsm hsz ?F ?N (by simp) ?hj ?turn ?done
  (case F => k_asm)
  (case N => (show News _ _ _ [_]; k_asm))
  (case hj => exact C4.start)
  (case turn =>
    intro i c t u h1 tk1 own hi hoff hJ F1 N1
    obtain ⟨⟨ha, ha'⟩, ⟨hb, hb'⟩, ⟨hc, hc'⟩, ⟨hd', hd''⟩⟩ := hJ
    simp only [C4.led, List.cons_append, List.nil_append] at N1
    rcases four_cases i with hr | hr | hr | hr
    all_goals k_steps
    all_goals (try dsimp only [InvPostN])
    all_goals (
      refine c4_end (by k_asm) (by k_asm) (by k_mem) (by intro p hp; simp [hp]) (by intro z hz; simp [kstB, hz]) ⟨⟨?_, ?_⟩, ⟨?_, ?_⟩, ⟨?_, ?_⟩, ⟨?_, ?_⟩⟩ <;> first | omega | (simp; omega)))
  (case done =>
    intro c u h1 tk1 hJ F1 N1
    k_steps
    all_goals (try dsimp only)
    obtain ⟨⟨ha, ha'⟩, ⟨hb, hb'⟩, ⟨hc, hc'⟩, ⟨hd', hd''⟩⟩ := hJ
    exact hret _ _ _ (Fr.keep (by assumption)) (list_out (n := c.n) (by assumption) (.head _) ⟨_, _, _, _, _, _, _, _, rfl, ⟨by omega, by omega⟩, ⟨by omega, by omega⟩, ⟨by omega, by omega⟩, ⟨by omega, by omega⟩⟩))
end
end Mine
namespace Mine
open PySem PySem.W PySem.Spec PySem.Calls PyProof.Rows

/-! digits, the least first -/
def digs (B : Nat) : Nat → Nat → List Nat
  | 0, _ => []
  | k + 1, x => x % B :: digs B k (x / B)
def valB (B : Nat) (l : List Nat) : Nat := l.foldr (fun d acc => d + B * acc) 0
theorem digs_length (B : Nat) : ∀ k x, (digs B k x).length = k
  | 0, _ => rfl
  | k + 1, x => by simp [digs, digs_length B k]
theorem digs_lt {B : Nat} (hB : 0 < B) : ∀ k x, ∀ d ∈ digs B k x, d < B
  | 0, _, d, h => by cases h
  | k + 1, x, d, h => by
    rcases List.mem_cons.mp h with rfl | h
    · exact Nat.mod_lt _ hB
    · exact digs_lt hB k _ d h
theorem digs_val {B : Nat} : ∀ k x, x < B ^ k → valB B (digs B k x) = x
  | 0, x, h => by
    have : x = 0 := by simpa using h
    subst this; rfl
  | k + 1, x, h => by
    show x % B + B * valB B (digs B k (x / B)) = x
    rw [digs_val k (x / B) (Nat.div_lt_of_lt_mul (by rw [Nat.pow_succ, Nat.mul_comm] at h; exact h))]
    exact Nat.mod_add_div x B
theorem digs_split (B : Nat) : ∀ j k x, digs B (j + k) x = digs B j (x % B ^ j) ++ digs B k (x / B ^ j)
  | 0, k, x => by simp [digs]
  | j + 1, k, x => by
    have e : j + 1 + k = (j + k) + 1 := by omega
    rw [e]
    show x % B :: digs B (j + k) (x / B) = (x % B ^ (j + 1) % B :: digs B j (x % B ^ (j + 1) / B)) ++ _
    rw [digs_split B j k (x / B), List.cons_append]
    have e1 : x % B ^ (j + 1) % B = x % B := Nat.mod_mod_of_dvd _ ⟨B ^ j, by rw [Nat.pow_succ, Nat.mul_comm]⟩
    have e2 : x / B / B ^ j = x / B ^ (j + 1) := by rw [Nat.div_div_eq_div_mul, Nat.pow_succ, Nat.mul_comm]
    have e3 : x % B ^ (j + 1) / B = x / B % B ^ j := by
      rw [Nat.pow_succ, Nat.mul_comm, Nat.mod_mul_right_div_self]
    rw [e1, e2, e3]
def put (ds : List Nat) (L : Nat) (l : List Nat) : List Nat := ds.take L ++ l ++ ds.drop (L + l.length)
theorem put_length {ds l : List Nat} {L : Nat} (h : L + l.length ≤ ds.length) : (put ds L l).length = ds.length := by
  simp [put]; omega
theorem put_put {ds a b : List Nat} {L : Nat} (h : L + a.length + b.length ≤ ds.length) : put (put ds L a) (L + a.length) b = put ds L (a ++ b) := by
  have h1 : (ds.take L).length = L := by simp; omega
  unfold put
  have e1 : (ds.take L ++ a ++ ds.drop (L + a.length)).take (L + a.length) = ds.take L ++ a := by
    rw [List.take_append_of_le_length (by simp; omega)]
    exact List.take_of_length_le (by simp; omega)
  have e2 : (ds.take L ++ a ++ ds.drop (L + a.length)).drop (L + a.length + b.length) = ds.drop (L + (a ++ b).length) := by
    rw [List.drop_append]
    have : (ds.take L ++ a).length = L + a.length := by simp; omega
    rw [List.drop_of_length_le (by omega), this, List.drop_drop]
    simp
    congr 1
    omega
  rw [e1, e2]
  simp
theorem put_one {ds : List Nat} {L d : Nat} (h : L < ds.length) : put ds L [d] = ds.set L d := by
  unfold put
  rw [List.set_eq_take_append_cons_drop, if_pos h]
  simp
/-! bits -/
theorem xor_low (x s : Nat) : Builtin.bitXor (x : Int) ((x / 2 ^ s * 2 ^ s : Nat) : Int) = ((x % 2 ^ s : Nat) : Int) := by
  have h1 : (x &&& (x / 2 ^ s * 2 ^ s)) = x / 2 ^ s * 2 ^ s := by
    have : x / 2 ^ s * 2 ^ s = (x >>> s) <<< s := by rw [Nat.shiftRight_eq_div_pow, Nat.shiftLeft_eq]
    rw [this]
    apply Nat.eq_of_testBit_eq
    intro i
    simp only [Nat.testBit_and, Nat.testBit_shiftLeft, Nat.testBit_shiftRight]
    by_cases h : i ≥ s
    · have : s + (i - s) = i := by omega
      simp [h, this]
    · simp [h]
  have h2 : (x ||| (x / 2 ^ s * 2 ^ s)) = x := by
    have : x / 2 ^ s * 2 ^ s = (x >>> s) <<< s := by rw [Nat.shiftRight_eq_div_pow, Nat.shiftLeft_eq]
    rw [this]
    apply Nat.eq_of_testBit_eq
    intro i
    simp only [Nat.testBit_or, Nat.testBit_shiftLeft, Nat.testBit_shiftRight]
    by_cases h : i ≥ s
    · have : s + (i - s) = i := by omega
      simp [h, this]
    · simp [h]
  unfold Builtin.bitXor Builtin.bitOr
  have e1 : Builtin.bitAnd (x : Int) ((x / 2 ^ s * 2 ^ s : Nat) : Int) = ((x &&& (x / 2 ^ s * 2 ^ s) : Nat) : Int) := by
    unfold Builtin.bitAnd
    rw [decide_eq_true (Int.natCast_nonneg _), decide_eq_true (Int.natCast_nonneg _)]
    rfl
  have n1 : ∀ y : Nat, decide (0 ≤ Builtin.bitNot (y : Int)) = false := fun y => by unfold Builtin.bitNot; simp; omega
  have n2 : ∀ y : Nat, (Builtin.bitNot (Builtin.bitNot (y : Int))).toNat = y := fun y => by unfold Builtin.bitNot; omega
  have n3 : ∀ z : Int, Builtin.bitNot (Builtin.bitNot z) = z := fun z => by unfold Builtin.bitNot; omega
  have e2 : Builtin.bitAnd (Builtin.bitNot (x : Int)) (Builtin.bitNot ((x / 2 ^ s * 2 ^ s : Nat) : Int)) = Builtin.bitNot ((x ||| (x / 2 ^ s * 2 ^ s) : Nat) : Int) := by
    unfold Builtin.bitAnd
    rw [n1, n1]
    show Builtin.bitNot _ = _
    rw [n2, n2]
  rw [e1, e2, n3, h1, h2]
  have := Nat.div_add_mod x (2 ^ s)
  rw [Nat.mul_comm] at this
  omega
/-! the two tables -/
def TabF (P1 : Addr) (l1 c1 : Nat) (q1 : Str) (P2 : Addr) (l2 c2 : Nat) (q2 : Str) (T : List (Addr × Obj)) : Prop :=
  ∃ p1 C1 p2 C2, T = (P1, tabObj p1) :: (P2, tabObj p2) :: (C1 ++ C2) ∧ TabP l1 c1 q1 p1 C1 ∧ TabP l2 c2 q2 p2 C2 ∧ ∀ q ∈ C1 ++ C2, q.1 ≠ P1 ∧ q.1 ≠ P2
theorem TabF.start {P1 P2 : Addr} {l1 c1 l2 c2 : Nat} {q1 q2 : Str} : TabF P1 l1 c1 q1 P2 l2 c2 q2 [(P1, tabObj #[]), (P2, tabObj #[])] :=
  ⟨#[], [], #[], [], rfl, .inl ⟨rfl, rfl⟩, .inl ⟨rfl, rfl⟩, by simp⟩
def ListIs (D : Addr) (ds : List Nat) (T : List (Addr × Obj)) : Prop := ∃ vs nn, T = [(D, listOf vs.toArray nn)] ∧ IntsAre vs (ds.map (fun d : Nat => (d : Int)))
/-- an entry within a ledger -/
inductive MidAt (P : Addr) (o : Obj) (rest : List (Addr × Obj)) : List (Addr × Obj) → List (Addr × Obj) → Prop
  | here : MidAt P o rest ((P, o) :: rest) []
  | cons {x r own} : MidAt P o rest r own → MidAt P o rest (x :: r) (x :: own)
  | app {y r own} : MidAt P o rest r own → MidAt P o rest (y ++ r) (y ++ own)
theorem MidAt.eq {P : Addr} {o : Obj} {rest : List (Addr × Obj)} : ∀ {l own : List (Addr × Obj)}, MidAt P o rest l own → l = own ++ (P, o) :: rest
  | _, _, .here => rfl
  | _, _, .cons c => by rw [c.eq]; rfl
  | _, _, .app c => by rw [c.eq, List.append_assoc]
section
variable {TabF TabF' : List (Addr × Obj) → Prop} {prog : Program} {w : World} {K : Frag} {p : Program} {loose : List Str} {mean : ExcName → Option Value} {mg mb : Str → Option Value} {f : Addr} {dn un : Nat} {vs : List Value} {Pre : Heap → Prop} {Out : Heap → Heap → Value → Prop}
theorem telT_useM {dp uu : Nat} {gd : Option (List Code)} {cn : Str} {cs : Scope} {a : Addr} {ccd : Value} {cl : List (Str × Addr)} {outer : List Env} {A₀ : Around} {base h₀ : Heap} {L D : Addr} {o : Obj} {m : Str → Option Value} {news own rest : List (Addr × Obj)} {s : Shared}
    {Q E : Value → Shared → Prop} (C : TelT TabF TabF' prog w K p loose mean mg mb f dn un vs Pre Out) (B : Below A₀ base outer h₀) (F : Fr h₀ L s.heap m) (X : K.In h₀) (N : News h₀ L s.heap news) (Tp : Top p loose mean mg mb h₀) (hk : cs.kind = .function)
    (hd : dp + dn + 1 < recursionLimit) (hu : uu + un + 3 < cLine) (hmid : MidAt D o rest news own) (hT : TabF [(D, o)]) (hoff : ∀ q ∈ own ++ rest, q.1 ≠ D) (hpre : (∀ q ∈ own ++ rest, (hidT s.heap [(D, o)]).get? q.1 = some q.2) → h₀.StaysIn (hidT s.heap [(D, o)]) → Pre (hidT s.heap [(D, o)]))
    (ret : ∀ r h' tk' T', Fr h₀ L h' m → News h₀ L h' (T' ++ (own ++ rest)) → TabF' T' → Out (hidT s.heap [(D, o)]) h' r → Q r { s with heap := h', toks := tk' }) :
    wpAny (model prog w) (ktrTop dp uu gd cn cs L a ccd cl outer) (call (.ref f) vs) Q E s := by
  have e := hmid.eq
  have N' : News h₀ L s.heap ((own ++ rest) ++ [(D, o)]) := fun q hq => N q (by
    rw [e]
    simp only [List.mem_append, List.mem_cons, List.not_mem_nil, or_false] at hq ⊢
    rcases hq with (h | h) | h
    · exact .inl h
    · exact .inr (.inr h)
    · exact .inr (.inl h))
  have NT : News h₀ L s.heap [(D, o)] := fun q hq => N' q (List.mem_append_right _ hq)
  have hoff' : ∀ q ∈ own ++ rest, q.1 ∉ ([(D, o)] : List (Addr × Obj)).map (·.1) := fun q hq hm => by
    simp only [List.map_cons, List.map_nil, List.mem_cons, List.not_mem_nil, or_false] at hm
    exact hoff q hq hm
  refine telT_use (news := (own ++ rest) ++ [(D, o)]) C B F X N' Tp hk hd hu hT (.app .here) ?_ (hpre (fun q hq => hidT_get (N' q (List.mem_append_left _ hq)).1 (hoff' q hq)) (base_hidT F NT)) ?_
  · intro q hq
    rw [List.append_nil] at hq
    exact hoff' q hq
  · intro r h' tk' T' F' N2 hT' _ _ _ _ ho
    rw [List.append_nil] at N2
    refine ret r h' tk' T' F' (fun q hq => N2 q ?_) hT' ho
    rcases List.mem_append.mp hq with h | h
    · exact List.mem_append_right _ h
    · exact List.mem_append_left _ h
end
section
variable {M : Model} {A : Around} {E : Value → Shared → Prop} {s : Shared} {h₀ : Heap} {L a c P D : Addr} {m mg mb : Str → Option Value} {cn : Str} {cs : Scope} {ccd : Value} {cl : List (Str × Addr)} {news own rest C : List (Addr × Obj)}
  {p : Program} {loose : List Str} {mean : ExcName → Option Value} {name qual : Str} {params : Arguments} {body : List Stmt} {scope : Scope} {ps : Array Value} {pos : Pos} {firstLine : Nat} {clos : List (Str × Addr)}
theorem nest_mid {Q : Value → Shared → Prop} (hmid : MidAt P (tabObj ps) rest news own) (F : Fr h₀ L s.heap m) (N : News h₀ L s.heap news) (T : Top p loose mean mg mb h₀) (hC : CodeHd h₀ c P) (hcd : ccd = .ref c) (h1 : ∀ q ∈ own, q.1 ≠ P) (h2 : ∀ q ∈ rest, q.1 ≠ P)
    (hcl : closureFor scope (envX cn cs L a ccd cl) = pure clos) (ht : TabP pos.line pos.col qual ps C) (hsub : ∀ q ∈ C, q ∈ rest)
    (h : ∀ f c' oc vs t ctv doc h' tk ps' C', Fr h₀ L h' m → News h₀ L h' ((f, fnMade name qual params body scope clos doc ((mg "__name__").getD .none) c' ctv) :: (own ++ (P, tabObj ps') :: (rest ++ C'))) →
      TabP pos.line pos.col qual ps' C' → (c', oc) ∈ C' → oc.data = .fields vs → vs[1]? = some (.str qual t) → (∀ q ∈ C', q ∈ C ∨ ∀ r ∈ news, r.1 < q.1) → (∀ q ∈ news, q.1 < f) → (∀ q ∈ C', q.1 < f) → Q (.ref f) { s with heap := h', toks := tk }) :
    wpAny M A (makeFunction name qual params (.stmts body) scope (envX cn cs L a ccd cl) [] [] [] pos firstLine) Q E s := by
  have e := hmid.eq
  subst e
  refine nest_any F N T hC hcd h1 h2 hcl ht hsub fun f c' oc vs t ctv doc h' tk ps' C' F' N' ht' hm hd hv h3 h4 h5 => h f c' oc vs t ctv doc h' tk ps' C' F' (fun q hq => N' q (by
    simp only [List.mem_cons, List.mem_append] at hq ⊢
    rcases hq with h | h | h | h | h
    · exact .inl h
    · exact .inr (.inr (.inl h))
    · exact .inr (.inr (.inr (.inl h)))
    · exact .inr (.inr (.inr (.inr h)))
    · exact .inr (.inl h))) ht' hm hd hv h3 (fun q hq => ?_) h5
  rcases List.mem_append.mp hq with h6 | h6
  · exact h4 q (List.mem_append_right _ (List.mem_append_left _ h6))
  · rcases List.mem_cons.mp h6 with rfl | h7
    · exact h4 (P, tabObj ps') (List.mem_append_right _ (List.mem_append_right _ (.head _)))
    · exact h4 q (List.mem_append_right _ (List.mem_append_right _ (.tail _ h7)))
end
section
variable {prog : Program} {w : World} {A : Around} {E : Value → Shared → Prop} {s : Shared} {h₀ : Heap} {L D : Addr} {m : Str → Option Value} {news news' : List (Addr × Obj)} {Q : Value → Shared → Prop}
theorem zeros_call {v : Value} {n : Nat} {x : Int} {u : Tok} (k : Nat) (F : Fr h₀ L s.heap m) (N : News h₀ L s.heap news) (hm : (D, listOf #[v] n) ∈ news) (hx : x = k) (hk : k ≤ 1000000)
    (h : ∀ D' h', Fr h₀ L h' m → News h₀ L h' ((D', listOf (List.replicate k v).toArray 0) :: news) → (∀ q ∈ news, q.1 < D') → Q (.ref D') { s with heap := h' }) :
    wpAny (model prog w) A (binaryOp .Mult (.ref D) (.int x u)) Q E s := by
  subst hx
  have e : List.foldl (fun x1 x2 => x1 ++ x2) (#[] : Array Value) (List.replicate (if (#[v] : Array Value).isEmpty = true then 0 else ((k : Int)).toNat) #[v]) = (List.replicate k v).toArray := by
    have : ∀ (k : Nat) (a : Array Value), List.foldl (fun x1 x2 => x1 ++ x2) a (List.replicate k #[v]) = a ++ (List.replicate k v).toArray := by
      intro k
      induction k with
      | zero => intro a; simp
      | succ k ih =>
        intro a
        rw [List.replicate_succ, List.foldl_cons, ih]
        apply Array.toList_inj.mp
        simp [List.replicate_succ]
    rw [this]
    simp
  refine mul_list F N (N _ hm).1 (by omega) (by omega) (by simp; omega) fun h' F' N' => ?_
  rw [e] at N'
  exact h _ h' F' N' fun q hq => Heap.lt_size (N q hq).1
theorem fdiv_as {a b : Int} {t u : Tok} (an bn : Nat) (ea : a = an) (eb : b = bn) (hb : 0 < bn) (hb2 : bn < 1073741824) (h : ∀ t k, Q (.int ((an / bn : Nat) : Int) t) { s with toks := k }) : wpAny (model prog w) A (binaryOp .FloorDiv (.int a t) (.int b u)) Q E s := by
  subst ea eb
  refine floordiv_int (by omega) ?_
  have : (an : Int).fdiv bn = ((an / bn : Nat) : Int) := by rw [Int.fdiv_eq_ediv_of_nonneg _ (by omega)]; simp
  rw [this]
  exact h _ _
theorem shr_as {a n : Int} {t u : Tok} (an sn : Nat) (ea : a = an) (es : n = sn) (h : ∀ t k, Q (.int ((an / 2 ^ sn : Nat) : Int) t) { s with toks := k }) : wpAny (model prog w) A (binaryOp .RShift (.int a t) (.int n u)) Q E s := by
  subst ea es
  refine rshift_int (by omega) ?_
  have : (an : Int).fdiv (2 ^ (sn : Int).toNat) = ((an / 2 ^ sn : Nat) : Int) := by
    rw [Int.fdiv_eq_ediv_of_nonneg _ (Int.pow_nonneg (by decide))]
    simp
  rw [this]
  exact h _ _
theorem shl_as {a n : Int} {t u : Tok} (an sn : Nat) (ea : a = an) (es : n = sn) (hb : Builtin.Int.intBits a ≤ 1000000) (hs : sn ≤ 1000000) (h : ∀ t k, Q (.int ((an * 2 ^ sn : Nat) : Int) t) { s with toks := k }) : wpAny (model prog w) A (binaryOp .LShift (.int a t) (.int n u)) Q E s := by
  subst ea es
  refine lshift_int (by omega) (by omega) ?_
  have : (an : Int) * 2 ^ (sn : Int).toNat = ((an * 2 ^ sn : Nat) : Int) := by simp
  rw [this]
  exact h _ _
end
theorem kall_lt {C : List (Addr × Obj)} {d a : Addr} (h : ∀ q ∈ C, q.1 < d) (e : @LE.le Nat _ d a) : ∀ q ∈ C, q.1 ≠ a := fun q hq e2 => by
  have := h q hq
  rw [e2] at this
  exact absurd this (Nat.not_lt.mpr e)
theorem off_cells {C1 C2 C' news : List (Addr × Obj)} {d a : Addr} {o : Obj} (hC : ∀ q ∈ C1 ++ C2, q.1 < d) (h3 : ∀ q ∈ C', q ∈ C2 ∨ ∀ r ∈ news, r.1 < q.1) (ha : (a, o) ∈ news) (hd : @LE.le Nat _ d a) : ∀ q ∈ (C1 ++ C2) ++ C', q.1 ≠ a := by
  intro q hq e
  rcases List.mem_append.mp hq with h | h
  · exact kall_lt hC hd q h e
  · rcases h3 q h with h | h
    · exact kall_lt hC hd q (List.mem_append_right _ h) e
    · exact absurd (h _ ha) (by rw [e]; exact Nat.lt_irrefl _)
theorem all_lt3 {C1 C2 C' : List (Addr × Obj)} {d f : Addr} (hC : ∀ q ∈ C1 ++ C2, q.1 < d) (h5 : ∀ q ∈ C', q.1 < f) (hd : @LT.lt Nat _ d f) : ∀ q ∈ (C1 ++ C2) ++ C', q.1 < f := by
  intro q hq
  rcases List.mem_append.mp hq with h | h
  · exact Nat.lt_trans (hC q h) hd
  · exact h5 q h
theorem bits_le {m b : Nat} (h : m < 2 ^ b) : Builtin.Int.intBits (m : Int) ≤ b := by
  unfold Builtin.Int.intBits
  split
  · exact Nat.zero_le _
  · rename_i h0
    have hm : m ≠ 0 := fun e => h0 (by rw [e]; rfl)
    have : (m : Int).natAbs = m := rfl
    rw [this]
    exact Nat.succ_le_of_lt ((Nat.log2_lt hm).mpr h)
theorem lt_bits (m : Nat) : m < 2 ^ Builtin.Int.intBits (m : Int) := by
  unfold Builtin.Int.intBits
  split
  · rename_i h0
    have : m = 0 := by simpa using h0
    rw [this]; decide
  · rename_i h0
    have hm : m ≠ 0 := fun e => h0 (by rw [e]; rfl)
    have : (m : Int).natAbs = m := rfl
    rw [this]
    exact (Nat.log2_lt hm).mp (Nat.lt_succ_self _)
section
variable {prog : Program} {w : World} {A : Around} {E : Value → Shared → Prop} {s : Shared} {Q : Value → Shared → Prop}
theorem shr_to {a n : Int} {t u : Tok} (an sn r : Nat) (ea : a = an) (es : n = sn) (er : an / 2 ^ sn = r) (h : ∀ t k, Q (.int (r : Int) t) { s with toks := k }) : wpAny (model prog w) A (binaryOp .RShift (.int a t) (.int n u)) Q E s :=
  shr_as an sn ea es (er ▸ h)
theorem shl_to {a n : Int} {t u : Tok} (an sn r b : Nat) (ea : a = an) (es : n = sn) (er : an * 2 ^ sn = r) (hb : an < 2 ^ b) (hb2 : b ≤ 1000000) (hs : sn ≤ 1000000) (h : ∀ t k, Q (.int (r : Int) t) { s with toks := k }) : wpAny (model prog w) A (binaryOp .LShift (.int a t) (.int n u)) Q E s :=
  shl_as an sn ea es (ea ▸ Nat.le_trans (bits_le hb) hb2) hs (er ▸ h)
theorem mul_to {a b : Int} {t u : Tok} (r : Nat) (e : a * b = r) (h1 : -(2 ^ 64) < a) (h2 : a < 2 ^ 64) (h : ∀ t k, Q (.int (r : Int) t) { s with toks := k }) : wpAny (model prog w) A (binaryOp .Mult (.int a t) (.int b u)) Q E s := by
  refine mul_int ?_ (IntMulOk.of_left (intBits_le_64 h1 h2))
  rw [e]
  exact h _ _
theorem xor_to {a b : Int} {t u : Tok} (x sn r : Nat) (ea : a = x) (eb : b = (x / 2 ^ sn * 2 ^ sn : Nat)) (er : x % 2 ^ sn = r) (h : ∀ t k, Q (.int (r : Int) t) { s with toks := k }) : wpAny (model prog w) A (binaryOp .BitXor (.int a t) (.int b u)) Q E s := by
  subst ea eb er
  refine xor_int ?_
  rw [xor_low]
  exact h _ _
end
section
variable {M : Model} {A : Around} {E : Value → Shared → Prop} {s : Shared} {h₀ : Heap} {L a : Addr} {m : Str → Option Value} {cn : Str} {cs : Scope} {ccd : Value} {cl : List (Str × Addr)} {x : Str} {pos : Pos} {v : Value} {Q : Value → Shared → Prop} {c : Addr} {o : Obj}
theorem nameX_FG (F : Fr h₀ L s.heap m) (hc : cl.lookup x = some c) (hg : h₀.get? c = some o) (hd : o.data = .cell (some v)) (h : Q v s)
    (hk : cs.kind = .function := by rfl) (hx : (envX cn cs L a ccd cl).kindOf x = some .free := by rfl) (hb : (x == ("__debug__" : Str)) = false := by decide) (hn : (x == ("__classdict__" : Str)) = false := by decide) :
    wpAny M A (eval (.Name x pos) (envX cn cs L a ccd cl)) Q E s := wpAny_Name (wpAny_loadName_free hk hx hc ⟨o, F.keep _ _ hg, hd⟩ h hn) hb
theorem fnAt_base {fo : Obj} {f : Addr} {fd : FuncData} {h : Heap} (F : Fr h₀ L h m) (hg : h₀.get? f = some fo) (hd : fo.data = .func fd) : FnAt f h := ⟨fo.cls, fo.dict, fd, fo.slots, by rw [F.keep _ _ hg, ← hd]⟩
end
/-- int2digits' inner def -/
def I2 (prog : Program) (w : World) (K : Frag) (p : Program) (loose : List Str) (mean : ExcName → Option Value) (mg mb : Str → Option Value) (f D : Addr) (fo : Obj) (c' : Value) (qual : Str) (cn ca ci : Addr) (on oa oi : Obj) (n k : Nat) : Prop :=
  ∀ (L R x : Nat) (ds : List Nat) (t1 t2 t3 : Tok), R = L + k → 1 ≤ k → R ≤ ds.length → ds.length ≤ 1000 → x < (2 ^ n) ^ k →
    TelT (ListIs D ds) (ListIs D (put ds L (digs (2 ^ n) k x))) prog w K p loose mean mg mb f (10 + k) (100 + 3 * k) [.int (x : Int) t1, .int (L : Int) t2, .int (R : Int) t3]
      (fun g => (g.get? f = some fo ∧ g.CodeRec c' qual) ∧ g.get? cn = some on ∧ g.get? ca = some oa ∧ g.get? ci = some oi) (fun _ _ r => r = .none)
section
variable {prog : Program} {w : World} {K : Frag} {p : Program} {loose : List Str} {mean : ExcName → Option Value} {mg mb : Str → Option Value}
theorem i2_use {dp uu : Nat} {gd : Option (List Code)} {cn' : Str} {cs : Scope} {a : Addr} {ccd : Value} {cl : List (Str × Addr)} {outer : List Env} {A₀ : Around} {base h₀ : Heap} {L : Addr} {m : Str → Option Value} {news own rest : List (Addr × Obj)} {s : Shared}
    {Q E : Value → Shared → Prop} {f D cn ca ci c' : Addr} {fo on oa oi oc : Obj} {qual : Str} {n kk x : Nat} {vs : List Value} {nn : Nat} {vsc : Array Value} {tq t1 t2 t3 : Tok}
    (hind : ∀ k, (∀ j, j < k → I2 prog w K p loose mean mg mb f D fo (.ref c') qual cn ca ci on oa oi n j) → I2 prog w K p loose mean mg mb f D fo (.ref c') qual cn ca ci on oa oi n k)
    (B : Below A₀ base outer h₀) (F : Fr h₀ L s.heap m) (X : K.In h₀) (N : News h₀ L s.heap news) (Tp : Top p loose mean mg mb h₀) (hk : cs.kind = .function)
    (hd : dp + (10 + kk) + 1 < recursionLimit) (hu : uu + (100 + 3 * kk) + 3 < cLine) (hmid : MidAt D (listOf vs.toArray nn) rest news own) (hoff : ∀ q ∈ own ++ rest, q.1 ≠ D)
    (hmf : (f, fo) ∈ news) (hfD : f ≠ D) (hmn : (cn, on) ∈ news) (hnD : cn ≠ D) (hma : (ca, oa) ∈ news) (haD : ca ≠ D) (hmi : (ci, oi) ∈ news) (hiD : ci ≠ D) (hmc : (c', oc) ∈ news) (hcD : c' ≠ D)
    (hoc : oc.data = .fields vsc) (hvc : vsc[1]? = some (.str qual tq)) (hI : IntsAre vs ((List.replicate kk 0).map (fun d : Nat => (d : Int)))) (hk1 : 1 ≤ kk) (hk2 : kk ≤ 1000) (hx : x < (2 ^ n) ^ kk)
    (ret : ∀ h' tk' vs' nn', Fr h₀ L h' m → News h₀ L h' ((D, listOf vs'.toArray nn') :: (own ++ rest)) → IntsAre vs' ((digs (2 ^ n) kk x).map (fun d : Nat => (d : Int))) → Q .none { s with heap := h', toks := tk' }) :
    wpAny (model prog w) (ktrTop dp uu gd cn' cs L a ccd cl outer) (call (.ref f) [.int (x : Int) t1, .int 0 t2, .int (kk : Int) t3]) Q E s := by
  have IN : ∀ k, I2 prog w K p loose mean mg mb f D fo (.ref c') qual cn ca ci on oa oi n k := fun k => Nat.strongRecOn k hind
  have e := hmid.eq
  have mem : ∀ {b : Addr} {o : Obj}, (b, o) ∈ news → b ≠ D → (b, o) ∈ own ++ rest := fun {b o} h hb => by
    rw [e] at h
    rcases List.mem_append.mp h with h | h
    · exact List.mem_append_left _ h
    · rcases List.mem_cons.mp h with h | h
      · exact absurd (congrArg Prod.fst h) hb
      · exact List.mem_append_right _ h
  have C := IN kk 0 kk x (List.replicate kk 0) t1 t2 t3 (by omega) hk1 (by simp) (by simpa using hk2) hx
  refine telT_useM C B F X N Tp hk hd hu hmid ⟨vs, nn, rfl, hI⟩ hoff (fun hg _ => ⟨⟨hg _ (mem hmf hfD), ?_⟩, hg _ (mem hmn hnD), hg _ (mem hma haD), hg _ (mem hmi hiD)⟩) ?_
  · exact ⟨c', oc, vsc, tq, rfl, hg _ (mem hmc hcD), hoc, hvc⟩
  · intro r h' tk' T' F' N' hT' hr
    obtain ⟨vs', nn', rfl, hI'⟩ := hT'
    subst hr
    have e2 : put (List.replicate kk 0) 0 (digs (2 ^ n) kk x) = digs (2 ^ n) kk x := by
      unfold put
      rw [digs_length]
      simp
    rw [e2] at hI'
    exact ret h' tk' vs' nn' F' N' hI'
end
theorem ints_rep (k : Nat) (t : Tok) : IntsAre (List.replicate k (Value.int 0 t)) ((List.replicate k 0).map (fun d : Nat => (d : Int))) := by
  induction k with
  | zero => exact .nil
  | succ k ih => exact .cons _ _ ih
theorem tab_ne {C1 C2 C' news : List (Addr × Obj)} {P1 P2 : Addr} {o1 o2 : Obj} (hne : ∀ q ∈ C1 ++ C2, q.1 ≠ P1 ∧ q.1 ≠ P2) (h3 : ∀ q ∈ C', q ∈ C2 ∨ ∀ r ∈ news, r.1 < q.1) (h1 : (P1, o1) ∈ news) (h2 : (P2, o2) ∈ news) : ∀ q ∈ C1 ++ C', q.1 ≠ P1 ∧ q.1 ≠ P2 := by
  intro q hq
  rcases List.mem_append.mp hq with h | h
  · exact hne q (List.mem_append_left _ h)
  · rcases h3 q h with h | h
    · exact hne q (List.mem_append_right _ h)
    · exact ⟨Ne.symm (Nat.ne_of_lt (h _ h1)), Ne.symm (Nat.ne_of_lt (h _ h2))⟩
theorem tab_ne1 {C1 C2 C' news : List (Addr × Obj)} {P1 P2 : Addr} {o1 o2 : Obj} (hne : ∀ q ∈ C1 ++ C2, q.1 ≠ P1 ∧ q.1 ≠ P2) (h3 : ∀ q ∈ C', q ∈ C1 ∨ ∀ r ∈ news, r.1 < q.1) (h1 : (P1, o1) ∈ news) (h2 : (P2, o2) ∈ news) : ∀ q ∈ C' ++ C2, q.1 ≠ P1 ∧ q.1 ≠ P2 := by
  intro q hq
  rcases List.mem_append.mp hq with h | h
  · rcases h3 q h with h | h
    · exact hne q (List.mem_append_left _ h)
    · exact ⟨Ne.symm (Nat.ne_of_lt (h _ h1)), Ne.symm (Nat.ne_of_lt (h _ h2))⟩
  · exact hne q (List.mem_append_right _ h)
/-- how many digits -/
def nd (a n : Nat) : Nat := (Builtin.Int.intBits (a : Int) + n - 1) / n
theorem nd_le {a n : Nat} (hn : 0 < n) : nd a n ≤ Builtin.Int.intBits (a : Int) := by
  unfold nd
  generalize Builtin.Int.intBits (a : Int) = b
  cases b with
  | zero => exact Nat.le_of_eq (Nat.div_eq_of_lt (by omega))
  | succ b =>
    refine Nat.div_le_of_le_mul ?_
    have : (b + 1) * 1 ≤ (b + 1) * n := Nat.mul_le_mul_left _ hn
    have e : n * (b + 1) = b * n + n := by rw [Nat.mul_comm, Nat.succ_mul]
    have e2 : (b + 1) * n = b * n + n := Nat.succ_mul _ _
    have : b ≤ b * n := Nat.le_mul_of_pos_right _ hn
    omega
theorem nd_fits {a n : Nat} (hn : 0 < n) : a < (2 ^ n) ^ nd a n := by
  refine Nat.lt_of_lt_of_le (lt_bits a) ?_
  rw [← Nat.pow_mul]
  refine Nat.pow_le_pow_right (by decide) ?_
  unfold nd
  generalize Builtin.Int.intBits (a : Int) = b
  have := Nat.div_add_mod (b + n - 1) n
  have := Nat.mod_lt (b + n - 1) hn
  omega
theorem nd_pos {a n : Nat} (hn : 0 < n) (ha : a ≠ 0) : 1 ≤ nd a n := by
  rcases Nat.eq_zero_or_pos (nd a n) with h | h
  · have := nd_fits (a := a) hn
    rw [h] at this
    simp at this
    exact absurd this ha
  · exact h
theorem nd_zero {n : Nat} (hn : 0 < n) : nd 0 n = 0 := by
  have := nd_le (a := 0) hn
  have e : Builtin.Int.intBits ((0 : Nat) : Int) = 0 := rfl
  omega
/-- the digits that int2digits hands back -/
def DigsOut (a n : Nat) (vs : List Value) : Prop := ∃ ds : List Nat, IntsAre vs (ds.map (fun d : Nat => (d : Int))) ∧ ds.length ≤ 64 ∧ (∀ d ∈ ds, d < 2 ^ n) ∧ valB (2 ^ n) ds = a
theorem setL_of : ∀ {l : List Value} {k : Nat} {v : Value}, k < l.length → ki_setL l k v = some (l.set k v)
  | [], _, _, h => absurd h (Nat.not_lt_zero _)
  | x :: r, 0, v, _ => rfl
  | x :: r, k + 1, v, h => by
    show (match ki_setL r k v with | some q => some (x :: q) | none => none) = _
    rw [setL_of (by simpa using h)]
    rfl
theorem ints_set {vs : List Value} {ns : List Int} (h : IntsAre vs ns) : ∀ {k : Nat} {x : Int} {t : Tok}, IntsAre (vs.set k (.int x t)) (ns.set k x) := by
  induction h with
  | nil => intro k x t; exact .nil
  | cons i u r ih =>
    intro k x t
    cases k with
    | zero => exact .cons _ _ r
    | succ k => exact .cons _ _ ih
section
variable {prog : Program} {w : World} {A : Around} {E : Value → Shared → Prop} {s : Shared} {h₀ : Heap} {L D : Addr} {m : Str → Option Value} {news news' : List (Addr × Obj)}
theorem set_at {vs : List Value} {nn : Nat} {i : Nat} {v : Value} {u : Tok} {Q : Unit → Shared → Prop} (F : Fr h₀ L s.heap m) (N : News h₀ L s.heap news) (U : Upd D (listOf vs.toArray nn) (listOf (vs.set i v).toArray nn) news news') (hi : i < vs.length) (hi2 : i < 1000000)
    (h : ∀ h', Fr h₀ L h' m → News h₀ L h' news' → Q () { s with heap := h' }) : wpAny (model prog w) A (setItem (.ref D) (.int (i : Int) u) v) Q E s :=
  ki_set F N (by omega) (by omega) (setL_of (by simpa using hi)) U h
end
theorem listIs_one {D : Addr} {vs : List Value} {ds : List Nat} {n L x nn : Nat} {t : Tok} (hI : IntsAre vs (ds.map (fun d : Nat => (d : Int)))) (hL : L < ds.length) (hx : x < (2 ^ n) ^ 1) : ListIs D (put ds L (digs (2 ^ n) 1 x)) [(D, listOf (vs.set L (.int (x : Int) t)).toArray nn)] := by
  refine ⟨_, _, rfl, ?_⟩
  have e : digs (2 ^ n) 1 x = [x] := by
    show [x % 2 ^ n] = [x]
    rw [Nat.mod_eq_of_lt (by simpa using hx)]
  rw [e, put_one hL, List.map_set]
  exact ints_set hI
theorem put_two {ds : List Nat} {n L M R j k x : Nat} (hM : M = L + j) (hR : R = L + k) (hj : j < k) (hRl : R ≤ ds.length) :
    put (put ds L (digs (2 ^ n) j (x % 2 ^ (j * n)))) M (digs (2 ^ n) (k - j) (x / 2 ^ (j * n))) = put ds L (digs (2 ^ n) k x) := by
  have e : (2 : Nat) ^ (j * n) = (2 ^ n) ^ j := by rw [Nat.mul_comm, Nat.pow_mul]
  have hk : k = j + (k - j) := by omega
  rw [e]
  conv => rhs; rw [hk, digs_split]
  have hl : (digs (2 ^ n) j (x % (2 ^ n) ^ j)).length = j := digs_length _ _ _
  subst hM
  have := put_put (ds := ds) (L := L) (a := digs (2 ^ n) j (x % (2 ^ n) ^ j)) (b := digs (2 ^ n) (k - j) (x / (2 ^ n) ^ j)) (by rw [digs_length, digs_length]; omega)
  rw [hl] at this
  exact this
theorem low_lt {n j x : Nat} : x % 2 ^ (j * n) < (2 ^ n) ^ j := by
  rw [← Nat.pow_mul, Nat.mul_comm n j]
  exact Nat.mod_lt _ (Nat.pow_pos (by decide))
theorem up_lt {n j k x : Nat} (hj : j ≤ k) (hx : x < (2 ^ n) ^ k) : x / 2 ^ (j * n) < (2 ^ n) ^ (k - j) := by
  refine Nat.div_lt_of_lt_mul ?_
  have e : (2 : Nat) ^ (j * n) = (2 ^ n) ^ j := by rw [Nat.mul_comm, Nat.pow_mul]
  rw [e, ← Nat.pow_add]
  have : j + (k - j) = k := by omega
  rw [this]
  exact hx
end Mine
namespace Mine
open PySem PySem.W PySem.Spec PySem.Calls PyProof.Rows
section
variable {prog : Program} {w : World} {K : Frag} {p : Program} {loose : List Str} {mean : ExcName → Option Value} {mg mb : Str → Option Value} {f : Addr} {dn un : Nat} {vs : List Value} {Pre : Heap → Prop} {Out : Heap → Heap → Value → Prop}
theorem tel_ofX {name qual : Str} {params : Arguments} {body : List Stmt} {scope : Scope} {cl₁ : List (Str × Addr)} {dV kV doc pm cdv ct : Value} {an : Option Addr} {fo : Obj} {binds : List (Str × Value)}
    (hfo : fo.data = .func (fnX name qual params body scope cl₁ dV kV doc pm an cdv ct)) (hpf : ∀ g, Pre g → g.get? f = some fo ∧ g.CodeRec cdv qual)
    (hbind : ∀ s, BindsTo s (fnX name qual params body scope cl₁ dV kV doc pm an cdv ct) ⟨vs, []⟩ binds) (hloc : ∀ y ∈ binds, scope.names.lookup y.1 = some .local)
    (hcell : ∀ x ∈ scope.names, x.2 ≠ .cell) (hco : scope.isCoroutine = false) (hgen : scope.isGenerator = false) (hk : scope.kind = .function)
    (h : ∀ (dp uu : Nat) (gd : Option (List Code)) (outer : List Env) (A₀ : Around) (base g : Heap) (L' : Addr) (s : Shared) (Q : Value → Shared → Prop),
      Below A₀ base outer g → Fr g L' s.heap (fun y => binds.reverse.lookup y) → News g L' s.heap [] → K.In g → Top p loose mean mg mb g → dp + dn < recursionLimit → uu + un < cLine → Pre g →
      (∀ r h' tk', g.StaysIn h' → Out g h' r → Q r { s with heap := h', toks := tk' }) →
      wpAny (model prog w) (ktrTop dp uu gd qual scope L' f cdv cl₁ outer) (execs body (envX qual scope L' f cdv cl₁)) (fun fl s' => Q (match fl with | .ret v => v | _ => .none) s') (fun _ _ => False) s) :
    Tel prog w K p loose mean mg mb f dn un vs Pre Out := by
  have C : TelT (fun T => T = []) (fun T => T = []) prog w K p loose mean mg mb f dn un vs Pre Out := by
    refine telT_ofX hfo hpf hbind hloc hcell hco hgen hk ?_
    intro dp uu gd outer A₀ base g L' s Q T B F N _ hT X Tp hd hu hpre hret
    subst hT
    exact h dp uu gd outer A₀ base g L' s Q B F N X Tp hd hu hpre fun r h' tk' st o => hret r h' tk' [] st rfl News.nil o
  intro dp uu gd cn cs a ccd cl outer A₀ base h₀ L m s Q E B F X Tp hcs hd hu hpre hret
  exact C dp uu gd cn cs a ccd cl outer A₀ base h₀ L m s Q E [] B F X Tp hcs hd hu rfl News.nil hpre fun r h' tk' T' st _ _ o => hret r h' tk' st o
end
/-! slices of digits -/
def seg (ds : List Nat) (L k : Nat) : List Nat := (ds.drop L).take k
theorem valB_append (B : Nat) : ∀ a b : List Nat, valB B (a ++ b) = valB B a + B ^ a.length * valB B b
  | [], b => by simp [valB]
  | x :: a, b => by
    show x + B * valB B (a ++ b) = (x + B * valB B a) + B ^ (a.length + 1) * valB B b
    rw [valB_append B a b, Nat.mul_add, Nat.pow_succ, ← Nat.mul_assoc, Nat.mul_comm B (B ^ a.length), Nat.add_assoc]
theorem valB_lt {B : Nat} : ∀ {l : List Nat}, (∀ d ∈ l, d < B) → valB B l < B ^ l.length
  | [], _ => by simp [valB]
  | x :: l, h => by
    have h1 := h x (.head _)
    have h2 := valB_lt (fun d hd => h d (.tail _ hd))
    show x + B * valB B l < B ^ (l.length + 1)
    have h3 : B * (valB B l + 1) ≤ B * B ^ l.length := Nat.mul_le_mul_left _ h2
    rw [Nat.pow_succ, Nat.mul_comm (B ^ l.length) B]
    rw [Nat.mul_add] at h3
    omega
theorem seg_length {ds : List Nat} {L k : Nat} (h : L + k ≤ ds.length) : (seg ds L k).length = k := by simp [seg]; omega
theorem seg_mem {ds : List Nat} {L k d : Nat} (h : d ∈ seg ds L k) : d ∈ ds := List.mem_of_mem_drop (List.mem_of_mem_take h)
theorem seg_split {ds : List Nat} {L j k : Nat} (hj : j ≤ k) : seg ds L k = seg ds L j ++ seg ds (L + j) (k - j) := by
  unfold seg
  have e : k = j + (k - j) := by omega
  conv => lhs; rw [e]
  rw [List.take_add, List.drop_drop]
theorem seg_all (ds : List Nat) : seg ds 0 ds.length = ds := by simp [seg]
theorem seg_val {ds : List Nat} {n L j k : Nat} (hj : j ≤ k) (hl : L + k ≤ ds.length) : valB (2 ^ n) (seg ds (L + j) (k - j)) * 2 ^ (j * n) + valB (2 ^ n) (seg ds L j) = valB (2 ^ n) (seg ds L k) := by
  rw [seg_split (ds := ds) (L := L) hj, valB_append, seg_length (by omega)]
  have e : (2 : Nat) ^ (j * n) = (2 ^ n) ^ j := by rw [Nat.mul_comm, Nat.pow_mul]
  rw [e, Nat.mul_comm, Nat.add_comm]
theorem seg_lt {ds : List Nat} {n L k : Nat} (h : ∀ d ∈ ds, d < 2 ^ n) (hl : L + k ≤ ds.length) : valB (2 ^ n) (seg ds L k) < 2 ^ (n * k) := by
  have := valB_lt (B := 2 ^ n) (l := seg ds L k) (fun d hd => h d (seg_mem hd))
  rw [seg_length hl] at this
  rw [Nat.pow_mul]
  exact this
theorem seg_one {B : Nat} {ds : List Nat} {L : Nat} (h : L < ds.length) : ∃ d, ds[L]? = some d ∧ valB B (seg ds L 1) = d := by
  refine ⟨ds[L], List.getElem?_eq_getElem h, ?_⟩
  have e : seg ds L 1 = [ds[L]] := by
    unfold seg
    rw [List.drop_eq_getElem_cons h]
    rfl
  rw [e]
  simp [valB]
theorem ints_at {vs : List Value} {ns : List Int} (h : IntsAre vs ns) : ∀ {k : Nat} {x : Int}, ns[k]? = some x → ∃ t, vs[k]? = some (.int x t) := by
  induction h with
  | nil => intro k x e; simp at e
  | cons i u r ih =>
    intro k x e
    cases k with
    | zero => exact ⟨u, by simp at e; simp [e]⟩
    | succ k => simpa using ih (by simpa using e)
theorem seg_getD {B : Nat} {ds : List Nat} {L : Nat} (h : L < ds.length) : (ds.map (fun d : Nat => (d : Int))).getD ((L : Int)).toNat 0 = ((valB B (seg ds L 1) : Nat) : Int) := by
  obtain ⟨d, h1, h2⟩ := seg_one (B := B) h
  rw [h2, Int.toNat_natCast, List.getD_eq_getElem?_getD, List.getElem?_map, h1]
  rfl
theorem seg_sum {ds : List Nat} {n L M SH j k : Nat} (hM : M = L + j) (hS : SH = j * n) (hj : j ≤ k) (hl : L + k ≤ ds.length) : ((valB (2 ^ n) (seg ds M (k - j)) * 2 ^ SH : Nat) : Int) + ((valB (2 ^ n) (seg ds L j) : Nat) : Int) = ((valB (2 ^ n) (seg ds L k) : Nat) : Int) := by
  subst hM hS
  rw [← seg_val hj hl, Int.natCast_add]
section
variable {prog : Program} {w : World} {A : Around} {E : Value → Shared → Prop} {s : Shared} {Q : Value → Shared → Prop}
theorem item_ints {l : Addr} {vs : List Value} {ds : List Nat} {i : Nat} {k : Int} {u : Tok} {B : Nat} (hl : s.heap.IsList l vs.toArray) (hI : IntsAre vs (ds.map (fun d : Nat => (d : Int)))) (ek : k = i) (hi : i < ds.length) (hlen : ds.length ≤ 1000)
    (h : ∀ t, Q (.int (valB B (seg ds i 1) : Nat) t) s) : wpAny (model prog w) A (getItem (.ref l) (.int k u)) Q E s := by
  subst ek
  obtain ⟨d, h1, h2⟩ := seg_one (B := B) hi
  obtain ⟨t, h3⟩ := ints_at hI (k := i) (x := (d : Int)) (by simp [h1])
  refine getItem_listL (l := vs) (x := .int d t) hl (by omega) (by omega) (by simpa using h3) ?_
  have := h t
  rw [h2] at this
  exact this
theorem add_to {a b : Int} {t u : Tok} (r : Nat) (e : a + b = r) (h : ∀ t k, Q (.int (r : Int) t) { s with toks := k }) : wpAny (model prog w) A (binaryOp .Add (.int a t) (.int b u)) Q E s := by
  refine add_int ?_
  rw [e]
  exact h _ _
end
theorem off_cells1 {C1 C2 C' news : List (Addr × Obj)} {d a : Addr} {o : Obj} (hC : ∀ q ∈ C1 ++ C2, q.1 < d) (h3 : ∀ q ∈ C', q ∈ C1 ∨ ∀ r ∈ news, r.1 < q.1) (ha : (a, o) ∈ news) (hd : @LE.le Nat _ d a) : ∀ q ∈ (C1 ++ C2) ++ C', q.1 ≠ a := by
  intro q hq e
  rcases List.mem_append.mp hq with h | h
  · exact kall_lt hC hd q h e
  · rcases h3 q h with h | h
    · exact kall_lt hC hd q (List.mem_append_left _ h) e
    · exact absurd (h _ ha) (by rw [e]; exact Nat.lt_irrefl _)
/-- digits2int's inner def -/
def D2 (prog : Program) (w : World) (K : Frag) (p : Program) (loose : List Str) (mean : ExcName → Option Value) (mg mb : Str → Option Value) (f l : Addr) (fo : Obj) (c' : Value) (qual : Str) (cn ca ci : Addr) (on oa oi : Obj) (vs : List Value) (ds : List Nat) (n k : Nat) : Prop :=
  ∀ (L R : Nat) (t2 t3 : Tok), R = L + k → 1 ≤ k → R ≤ ds.length →
    Tel prog w K p loose mean mg mb f (10 + k) (100 + 3 * k) [.int (L : Int) t2, .int (R : Int) t3]
      (fun g => (g.get? f = some fo ∧ g.CodeRec c' qual) ∧ g.get? cn = some on ∧ g.get? ca = some oa ∧ g.get? ci = some oi ∧ g.IsList l vs.toArray) (fun _ _ r => IsI (valB (2 ^ n) (seg ds L k) : Nat) r)
section
variable {prog : Program} {w : World} {K : Frag} {p : Program} {loose : List Str} {mean : ExcName → Option Value} {mg mb : Str → Option Value}
theorem d2_use {dp uu : Nat} {gd : Option (List Code)} {cn' : Str} {cs : Scope} {a : Addr} {ccd : Value} {cl : List (Str × Addr)} {outer : List Env} {A₀ : Around} {base h₀ : Heap} {L : Addr} {m : Str → Option Value} {news : List (Addr × Obj)} {s : Shared}
    {Q E : Value → Shared → Prop} {f l cn ca ci c' : Addr} {fo on oa oi oc : Obj} {qual : Str} {n kk : Nat} {vs : List Value} {ds : List Nat} {vsc : Array Value} {tq t2 t3 : Tok}
    (hind : ∀ k, (∀ j, j < k → D2 prog w K p loose mean mg mb f l fo (.ref c') qual cn ca ci on oa oi vs ds n j) → D2 prog w K p loose mean mg mb f l fo (.ref c') qual cn ca ci on oa oi vs ds n k)
    (B : Below A₀ base outer h₀) (F : Fr h₀ L s.heap m) (X : K.In h₀) (N : News h₀ L s.heap news) (Tp : Top p loose mean mg mb h₀) (hk : cs.kind = .function)
    (hd : dp + (10 + kk) + 1 < recursionLimit) (hu : uu + (100 + 3 * kk) + 3 < cLine)
    (hmf : (f, fo) ∈ news) (hmn : (cn, on) ∈ news) (hma : (ca, oa) ∈ news) (hmi : (ci, oi) ∈ news) (hmc : (c', oc) ∈ news)
    (hoc : oc.data = .fields vsc) (hvc : vsc[1]? = some (.str qual tq)) (hl : h₀.IsList l vs.toArray) (hkk : kk = ds.length) (hk1 : 1 ≤ kk)
    (ret : ∀ r h' tk', Fr h₀ L h' m → News h₀ L h' news → IsI (valB (2 ^ n) ds : Nat) r → Q r { s with heap := h', toks := tk' }) :
    wpAny (model prog w) (ktrTop dp uu gd cn' cs L a ccd cl outer) (call (.ref f) [.int 0 t2, .int (kk : Int) t3]) Q E s := by
  have IN : ∀ k, D2 prog w K p loose mean mg mb f l fo (.ref c') qual cn ca ci on oa oi vs ds n k := fun k => Nat.strongRecOn k hind
  have C := IN kk 0 kk t2 t3 (by omega) hk1 (by omega)
  refine tel_use C B F X N Tp hk hd hu ⟨⟨(N _ hmf).1, ⟨c', oc, vsc, tq, rfl, (N _ hmc).1, hoc, hvc⟩⟩, (N _ hmn).1, (N _ hma).1, (N _ hmi).1, Heap.IsList.at hl fun o e => F.keep _ _ e⟩ ?_
  intro r h' tk' F' N' _ hr
  rw [hkk, seg_all] at hr
  exact ret r h' tk' F' N' hr
end
end Mine
namespace Mine
open PySem PySem.W PySem.Spec PySem.Calls PyProof.Rows
section
variable {TabF TabF' : List (Addr × Obj) → Prop} {prog : Program} {w : World} {K : Frag} {p : Program} {loose : List Str} {mean : ExcName → Option Value} {mg mb : Str → Option Value} {f : Addr} {dn un : Nat} {vs : List Value} {Pre : Heap → Prop} {Out : Heap → Heap → Value → Prop}
theorem telT_ofL {name qual : Str} {params : Arguments} {body : List Stmt} {scope : Scope} {dV kV doc pm cdv ct oc : Value} {an od : Option Addr} {osl : Array (Option Value)} {binds : List (Str × Value)}
    (ho : K.lookup f = some ⟨oc, od, .func (fnOf name qual params body scope dV kV doc pm an cdv ct), osl⟩) (hcd : codeIn K cdv qual = true)
    (hbind : ∀ s, BindsTo s (fnOf name qual params body scope dV kV doc pm an cdv ct) ⟨vs, []⟩ binds) (hloc : ∀ y ∈ binds, scope.names.lookup y.1 = some .local)
    (hcell : ∀ x ∈ scope.names, x.2 ≠ .cell) (hco : scope.isCoroutine = false) (hgen : scope.isGenerator = false) (hk : scope.kind = .function)
    (h : ∀ (dp uu : Nat) (gd : Option (List Code)) (outer : List Env) (A₀ : Around) (base g : Heap) (L' : Addr) (s : Shared) (Q : Value → Shared → Prop) (T : List (Addr × Obj)),
      Below A₀ base outer g → Fr g L' s.heap (fun y => binds.reverse.lookup y) → News g L' s.heap T → (∀ q ∈ T, q.1 < L') → TabF T → K.In g → Top p loose mean mg mb g → dp + dn < recursionLimit → uu + un < cLine → Pre g →
      (∀ r h' tk' T', g.StaysIn h' → TabF' T' → News g L' h' T' → Out g h' r → Q r { s with heap := h', toks := tk' }) →
      wpAny (model prog w) (ktrTop dp uu gd qual scope L' f cdv [] outer) (execs body (envX qual scope L' f cdv [])) (fun fl s' => Q (match fl with | .ret v => v | _ => .none) s') (fun _ _ => False) s) :
    TelT TabF TabF' prog w K p loose mean mg mb f dn un vs Pre Out := by
  intro dp uu gd cn cs a ccd cl outer A₀ base h₀ L m s Q E T B F X Tp hcs hd hu hT NT hpre hret
  refine wpAny_call ?_
  have X' : K.In s.heap := X.keeps F.keep
  refine codeAny_call_def (fd := fnOf name qual params body scope dV kV doc pm an cdv ct) (body := body) (binds := binds) ?_ (X' _ _ ho) rfl (Tp.nolimit.keeps F.keep) (codeRec_of X' hcd) rfl (hbind s) hcell hloc (fun h₁ hns hk₁ => ?_) hco hgen hk
  · show dp < recursionLimit; omega
  obtain ⟨FG, BG, st, _⟩ := groundX (A := ktrTop dp uu gd cn cs L a ccd cl outer) (env := envX cn cs L a ccd cl) (R := fun _ _ => True) B F NT rfl rfl hcs
  have hsz : s.heap.objs.size = (hidT s.heap T).objs.size := (hideAll_size _ _).symm
  have F₁ : Fr (hidT s.heap T) s.heap.objs.size h₁ (fun y => binds.reverse.lookup y) := ⟨hns, fun b o e => hk₁ b o (of_hideAll _ e), Nat.le_of_eq hsz.symm⟩
  have N₁ : News (hidT s.heap T) s.heap.objs.size h₁ T := fun p hp => ⟨hk₁ _ _ (NT p hp).1, Nat.ne_of_lt (Heap.lt_size (NT p hp).1), hideAll_none _ (List.mem_map_of_mem hp)⟩
  have := h (dp + 1) (uu + 3) gd (envX cn cs L a ccd cl :: outer) _ base _ s.heap.objs.size { s with heap := h₁, toks := s.toks + binds.length } Q T BG F₁ N₁ (fun q hq => Heap.lt_size (NT q hq).1) hT (X.keeps st) (Tp.keeps st) (by omega) (by omega) hpre
    (fun r h' tk' T' st' hT' N' o => hret r h' tk' T' st' hT' (fun q hq => ⟨(N' q hq).1, (N' q hq).2.2⟩) o)
  exact wpAny_mono this (fun fl s' hl => by cases fl <;> exact hl) fun _ _ y => y.elim
/-- at a call: what stands ahead of the table stays; each of its entries is off the new table -/
theorem telT_call {dp uu : Nat} {gd : Option (List Code)} {cn : Str} {cs : Scope} {a : Addr} {ccd : Value} {cl : List (Str × Addr)} {outer : List Env} {A₀ : Around} {base h₀ : Heap} {L : Addr} {m : Str → Option Value} {news front T : List (Addr × Obj)} {s : Shared}
    {Q E : Value → Shared → Prop} (C : TelT TabF TabF' prog w K p loose mean mg mb f dn un vs Pre Out) (B : Below A₀ base outer h₀) (F : Fr h₀ L s.heap m) (X : K.In h₀) (N : News h₀ L s.heap news) (Tp : Top p loose mean mg mb h₀) (hk : cs.kind = .function)
    (hd : dp + dn + 1 < recursionLimit) (hu : uu + un + 3 < cLine) (hT : TabF T) (hcut : Cut T news front) (hoff : ∀ q ∈ front, ∀ r ∈ T, r.1 ≠ q.1) (hpre : (∀ q ∈ front, (hidT s.heap T).get? q.1 = some q.2) → h₀.StaysIn (hidT s.heap T) → Pre (hidT s.heap T))
    (ret : ∀ r h' tk' T', Fr h₀ L h' m → News h₀ L h' (front ++ T') → TabF' T' → (∀ q ∈ front, ∀ r ∈ T', r.1 ≠ q.1) → (hidT s.heap T).StaysIn h' → Out (hidT s.heap T) h' r → (∀ R o, h'.get? R = some o → (hidT s.heap T).get? R = none → News h₀ L h' ((R, o) :: (front ++ T')) ∧ ∀ q ∈ front, q.1 ≠ R) → Q r { s with heap := h', toks := tk' }) :
    wpAny (model prog w) (ktrTop dp uu gd cn cs L a ccd cl outer) (call (.ref f) vs) Q E s := by
  have e := hcut.eq
  have hoff' : ∀ q ∈ front, q.1 ∉ T.map (·.1) := fun q hq hm => by
    obtain ⟨r, hr, e⟩ := List.mem_map.mp hm
    exact hoff q hq r hr e
  have NT : News h₀ L s.heap T := fun p hp => N p (e ▸ List.mem_append_right _ hp)
  refine telT_use C B F X N Tp hk hd hu hT hcut hoff' (hpre (fun q hq => hidT_get (N q (e ▸ List.mem_append_left _ hq)).1 (hoff' q hq)) (base_hidT F NT)) ?_
  intro r h' tk' T' F' N' hT' ho st hf FH o
  refine ret r h' tk' T' F' N' hT' (fun q hq r hr e => ho q hq (List.mem_map.mpr ⟨r, hr, e⟩)) st o ?_
  intro R o hR hn
  exact ⟨news_pair FH N' hR hn, fun q hq e => by have := hf q hq; rw [e, hn] at this; cases this⟩
end
section
variable {prog : Program} {w : World} {A : Around} {E : Value → Shared → Prop} {s : Shared} {env : Env} {h₀ : Heap} {x : Str} {body : List Stmt} {Q : Flow → Shared → Prop}
/-- over a list from its end -/
theorem for_rev {σ : Type} {l I : Addr} {vs : List Value} {nn : Nat} {m₀ : Str → Option Value} {news : List (Addr × Obj)} (fix : List (Addr × Obj)) (Led : σ → List (Addr × Obj)) (ps : σ → List (Str × Value)) (stored : List Str) (J : Nat → σ → Prop) (c₀ : σ)
    (hh : A.handled = none) (hI : (I, revObj l ((vs.length : Int) - 1)) ∈ news) (hm : (l, listOf vs.toArray nn) ∈ news) (hne : l ≠ I) (hlI : ∀ q ∈ Led c₀ ++ fix, q.1 ≠ I) (hl : ∀ q ∈ Led c₀, q.1 ≠ l) (F : Fr h₀ env.locals s.heap m₀) (N : News h₀ env.locals s.heap news) (hsub : ∀ p ∈ Led c₀ ++ fix, p ∈ news)
    (hk : ∀ p ∈ ps c₀, m₀ p.1 = some p.2) (hj : J 0 c₀)
    (turn : ∀ i (c : σ) v (u : Str → Option Value) h tk own, vs.reverse[i]? = some v → OwnOff own ((Led c₀).map (·.1)) → J i c →
      Fr h₀ env.locals h (fun y => if y = x then some v else kstB (fun z => if stored.contains z then u z else m₀ z) (ps c) y) → News h₀ env.locals h (Led c ++ (fix ++ own)) →
      wpAny (model prog w) A (execs body env) (InvPostN h₀ env.locals (MS Led ps x stored m₀ (J (i + 1))) (fix ++ own) ((Led c₀).map (·.1)) { s with heap := h, toks := tk } Q) E { s with heap := h, toks := tk })
    (done : ∀ (c : σ) (u : Str → Option Value) h tk, J vs.length c → Fr h₀ env.locals h (fun y => if y = x then u y else kstB (fun z => if stored.contains z then u z else m₀ z) (ps c) y) → News h₀ env.locals h (Led c ++ fix) → Q .next { s with heap := h, toks := tk }) :
    wpAny (model prog w) A (pyIter (.ref I)) (fun it s₂ => LoopAtV prog w A h₀ env x body Q E it s₂) E s := by
  have hit : s.heap.IsRevIter I l ((vs.length : Int) - 1) := ⟨_, (N _ hI).1, rfl, rfl⟩
  have hls : s.heap.IsList l vs.toArray := ⟨_, (N _ hm).1, rfl, nn, rfl⟩
  refine wpAny_pyIter_revIter hit ?_
  have W := Walks.listRev (prog := prog) (w := w) hh I l hne vs.toArray
  rw [List.size_toArray] at W
  refine for_any (s := s) fix Led ps stored J c₀ W ?_ ?_ ?_ ?_ ⟨Nat.zero_le _, by simpa using hit, hls⟩ F (fun p hp => N p (hsub p hp)) hk hj ?_ done
  · intro hmm
    rcases List.mem_cons.mp hmm with e | hmm
    · exact (N _ hI).2.1 e.symm
    · exact (N _ hm).2.1 (List.mem_singleton.mp hmm).symm
  · intro b hb
    rw [List.mem_singleton.mp hb]
    exact (N _ hI).2.2
  · intro p hp hpI
    exact hlI p hp (List.mem_singleton.mp hpI)
  · intro q hq hmm
    rcases List.mem_cons.mp hmm with e | hmm
    · exact hlI q (List.mem_append_left _ hq) e
    · exact hl q hq (List.mem_singleton.mp hmm)
  · intro i c v u h tk own hi hP
    refine turn i c v u h tk own ?_
    rw [List.getElem?_reverse hi]
    simpa using hP
end
theorem TabF.fields {P1 P2 : Addr} {l1 c1 l2 c2 : Nat} {q1 q2 : Str} {T : List (Addr × Obj)} (h : TabF P1 l1 c1 q1 P2 l2 c2 q2 T) : ∀ q ∈ T, ∃ vs, q.2.data = .fields vs := by
  obtain ⟨p1, C1, p2, C2, rfl, h1, h2, _⟩ := h
  have key : ∀ {l c : Nat} {q : Str} {p : Array Value} {C : List (Addr × Obj)}, TabP l c q p C → ∀ q ∈ C, ∃ vs, q.2.data = .fields vs := by
    intro l c q p C h r hr
    rcases h with ⟨_, rfl⟩ | ⟨c', o, vs, t, _, rfl, hd, _⟩
    · cases hr
    · cases List.mem_singleton.mp hr
      exact ⟨vs, hd⟩
  intro q hq
  rcases List.mem_cons.mp hq with rfl | hq
  · exact ⟨p1, rfl⟩
  rcases List.mem_cons.mp hq with rfl | hq
  · exact ⟨p2, rfl⟩
  rcases List.mem_append.mp hq with hq | hq
  · exact key h1 q hq
  · exact key h2 q hq
theorem TabF.off {P1 P2 : Addr} {l1 c1 l2 c2 : Nat} {q1 q2 : Str} {T front : List (Addr × Obj)} {h₀ h' : Heap} {L R : Addr} {o : Obj} {its : Array Value} {n : Nat} (h : TabF P1 l1 c1 q1 P2 l2 c2 q2 T) (N : News h₀ L h' (front ++ T)) (hR : h'.get? R = some o) (hd : o.data = .seq its n) : ∀ q ∈ T, q.1 ≠ R := by
  intro q hq e
  have h1 := (N q (List.mem_append_right _ hq)).1
  rw [e, hR] at h1
  obtain ⟨vs, hv⟩ := h.fields q hq
  rw [← Option.some.inj h1, hd] at hv
  cases hv
theorem allLt_at {d : Addr} : ∀ {l : List (Addr × Obj)}, AllLt d l → ∀ q ∈ l, q.1 < d
  | [], _, _, h => by cases h
  | p :: r, h, q, hq => by
    rcases List.mem_cons.mp hq with rfl | hq
    · exact h.1
    · exact allLt_at h.2 q hq
theorem allLt_off {d : Addr} {l : List (Addr × Obj)} (h : AllLt d l) : ∀ q ∈ l, q.1 ≠ d := fun q hq => Nat.ne_of_lt (allLt_at h q hq)
theorem rev_at {vs : List Value} {ds : List Nat} {i : Nat} {v : Value} (hI : IntsAre vs (ds.map (fun d : Nat => (d : Int)))) (h : vs.reverse[i]? = some v) : ∃ (d : Nat) (t : Tok), v = .int (d : Int) t ∧ i < ds.length ∧ ds[ds.length - 1 - i]? = some d := by
  have hl : vs.length = ds.length := by have := hI.length; simpa using this
  have hi : i < vs.length := by
    rcases Nat.lt_or_ge i vs.length with h1 | h1
    · exact h1
    · rw [List.getElem?_eq_none (by simpa using h1)] at h; cases h
  rw [List.getElem?_reverse hi, hl] at h
  have h2 : ds.length - 1 - i < ds.length := by omega
  obtain ⟨t, ht⟩ := ints_at hI (k := ds.length - 1 - i) (x := ((ds[ds.length - 1 - i]'h2 : Nat) : Int)) (by simp [List.getElem?_eq_getElem h2])
  rw [ht] at h
  exact ⟨_, t, (Option.some.inj h).symm, by omega, List.getElem?_eq_getElem h2⟩
theorem fdiv_nat (x b : Nat) : ((x : Int)).fdiv (b : Int) = ((x / b : Nat) : Int) := by
  rw [Int.fdiv_eq_ediv_of_nonneg _ (by omega)]; simp
theorem fmod_nat (x b : Nat) : ((x : Int)).fmod (b : Int) = ((x % b : Nat) : Int) := by
  rw [Int.fmod_eq_emod_of_nonneg _ (by omega)]; simp
theorem ints_snoc {vs : List Value} {ns : List Int} (h : IntsAre vs ns) (x : Int) (t : Tok) : IntsAre (vs ++ [.int x t]) (ns ++ [x]) := by
  induction h with
  | nil => exact .cons _ _ .nil
  | cons i u r ih => exact .cons _ _ ih
theorem ints_rev {vs : List Value} {ns : List Int} (h : IntsAre vs ns) : IntsAre vs.reverse ns.reverse := by
  induction h with
  | nil => exact .nil
  | cons i u r ih => rw [List.reverse_cons, List.reverse_cons]; exact ints_snoc ih _ _
theorem dv_small {r d b n : Nat} (h1 : r < b) (h2 : d < 2 ^ n) (h3 : b < 1073741824) (h4 : n ≤ 30) : r * 2 ^ n + d < 2 ^ 60 := by
  have e : (2 : Nat) ^ n ≤ 2 ^ 30 := Nat.pow_le_pow_right (by decide) h4
  have h5 : (r + 1) * 2 ^ n ≤ 1073741824 * 2 ^ 30 := Nat.mul_le_mul (by omega) e
  rw [Nat.succ_mul] at h5
  have : (1073741824 * 2 ^ 30 : Nat) = 2 ^ 60 := by decide
  omega
/-! the long division -/

structure DV where
  qs : List Nat
  vs : List Value
  nn : Nat
  r : Nat
  t : Tok
def DV.led (D : Addr) (c : DV) : List (Addr × Obj) := [(D, listOf c.vs.toArray c.nn)]
/-- after i digits from the top -/
def DV.ok (ds : List Nat) (n b : Nat) (i : Nat) (c : DV) : Prop :=
  IntsAre c.vs (c.qs.map (fun d : Nat => (d : Int))) ∧ c.qs.length = i ∧ (∀ d ∈ c.qs, d < 2 ^ n) ∧ c.r < b ∧ valB (2 ^ n) (ds.drop (ds.length - i)) = valB (2 ^ n) c.qs.reverse * b + c.r
theorem DV.start {ds : List Nat} {n b nn : Nat} {t : Tok} (hb : 0 < b) : DV.ok ds n b 0 ⟨[], [], nn, 0, t⟩ := by
  refine ⟨.nil, rfl, by simp, hb, ?_⟩
  simp [valB]
theorem DV.step {ds : List Nat} {n b i d : Nat} {c : DV} {t1 t2 : Tok} {nn : Nat} (hb2 : b < 2 ^ n) (h : DV.ok ds n b i c) (hi : i < ds.length) (hd : ds[ds.length - 1 - i]? = some d) (hd2 : d < 2 ^ n) :
    DV.ok ds n b (i + 1) ⟨c.qs ++ [(c.r * 2 ^ n + d) / b], c.vs ++ [.int (((c.r * 2 ^ n + d) / b : Nat) : Int) t1], nn, (c.r * 2 ^ n + d) % b, t2⟩ := by
  obtain ⟨h1, h2, h3, h4, h5⟩ := h
  have hb0 : 0 < b := Nat.lt_of_le_of_lt (Nat.zero_le _) h4
  refine ⟨?_, by simp [h2], ?_, Nat.mod_lt _ hb0, ?_⟩
  · show IntsAre _ (List.map _ (c.qs ++ [_]))
    rw [List.map_append]
    exact ints_snoc h1 _ _
  · intro q hq
    rcases List.mem_append.mp hq with h | h
    · exact h3 q h
    · rw [List.mem_singleton.mp h]
      refine Nat.div_lt_of_lt_mul ?_
      have : (c.r + 1) * 2 ^ n ≤ b * 2 ^ n := Nat.mul_le_mul_right _ h4
      rw [Nat.succ_mul] at this
      omega
  · have e1 : ds.drop (ds.length - (i + 1)) = d :: ds.drop (ds.length - i) := by
      have h6 : ds.length - (i + 1) < ds.length := by omega
      rw [List.drop_eq_getElem_cons h6]
      have e2 : ds.length - (i + 1) + 1 = ds.length - i := by omega
      have e3 : ds.length - 1 - i = ds.length - (i + 1) := by omega
      rw [e2]
      rw [e3, List.getElem?_eq_getElem h6] at hd
      rw [Option.some.inj hd]
    rw [e1]
    show d + 2 ^ n * valB (2 ^ n) (ds.drop (ds.length - i)) = valB (2 ^ n) (c.qs ++ [(c.r * 2 ^ n + d) / b]).reverse * b + (c.r * 2 ^ n + d) % b
    rw [h5, List.reverse_append]
    show _ = ((c.r * 2 ^ n + d) / b + 2 ^ n * valB (2 ^ n) c.qs.reverse) * b + (c.r * 2 ^ n + d) % b
    have h7 := Nat.div_add_mod (c.r * 2 ^ n + d) b
    generalize valB (2 ^ n) c.qs.reverse = V at *
    generalize (c.r * 2 ^ n + d) / b = q at *
    generalize (c.r * 2 ^ n + d) % b = m at *
    rw [Nat.add_mul, Nat.mul_add, ← Nat.mul_assoc]
    have h8 : q * b = b * q := Nat.mul_comm _ _
    have h9 : 2 ^ n * c.r = c.r * 2 ^ n := Nat.mul_comm _ _
    omega
theorem DV.fin {ds : List Nat} {n b a : Nat} {c : DV} (h : DV.ok ds n b ds.length c) (hv : valB (2 ^ n) ds = a) : valB (2 ^ n) c.qs.reverse = a / b ∧ c.r = a % b := by
  obtain ⟨_, _, _, h4, h5⟩ := h
  rw [Nat.sub_self, List.drop_zero, hv] at h5
  have hb0 : 0 < b := Nat.lt_of_le_of_lt (Nat.zero_le _) h4
  constructor
  · rw [h5, Nat.add_comm, Nat.add_mul_div_right _ _ hb0, Nat.div_eq_of_lt h4, Nat.zero_add]
  · rw [h5, Nat.add_comm, Nat.add_mul_mod_self_right, Nat.mod_eq_of_lt h4]
end Mine
namespace Mine
open PySem PySem.W PySem.Spec PySem.Calls PyProof.Rows
section
variable {prog : Program} {w : World} {p : Program} {loose : List Str} {mean : ExcName → Option Value} {mg mb : Str → Option Value}
abbrev TF : List (Addr × Obj) → Prop := TabF 44 77 4 (Str.ofString "_digits2int.<locals>.inner") 37 62 4 (Str.ofString "_int2digits.<locals>.inner")
local macro_rules | `(tactic| k_all) => `(tactic| with_reducible assumption)
local macro_rules | `(tactic| k_all) => `(tactic| exact kall_lt (by assumption) (by omega))
theorem i2d_tel (a n : Nat) (t u : Tok) : TelT TF TF prog w (hd.heap_39 w.params) p loose mean mg mb 42 80 400 [.int a t, .int n u] (fun _ => 0 < n ∧ n ≤ 100 ∧ Builtin.Int.intBits (a : Int) ≤ 64) (fun g h' r => ListOut (DigsOut a n) g h' r) := by
  k_with_none
  k_with "my mem" => (first | exact List.mem_cons_self | (refine List.mem_cons_of_mem _ ?_; walk_at "my mem"))
  k_with "my mid" => (first | apply MidAt.here | (apply MidAt.cons; walk_at "my mid"))
  k_with "binaryOp FloorDiv int int" => (k_here; (refine fdiv_as (Builtin.Int.intBits (a : Int) + n - 1) n (by omega) rfl (by omega) (by omega) ?_); intro _ _)
  k_with "binaryOp Mult ref int" => (k_here; k_dflt (refine' zeros_call (nd a n) ?kw3F ?kw3N ?kw3m rfl ?kw3k ?_; (case kw3F => k_asm); (case kw3N => k_asm); (case kw3m => with_reducible walk_at "my mem"); (case kw3k => omega)); intro D h' F' N' l1; (try k_lt l1); (try k_sweep))
  k_with "exec FunctionDef" => (k_here; refine stop_here ?_)
  k_with "eval Name" => (k_here; k_dflt (refine' nameX_FG ?kw5fF ?kw5fc ?kw5fg ?kw5fd ?_ ?kw5fa ?kw5fb; (case kw5fa => rfl); (case kw5fb => rfl); (case kw5fF => k_asm); (case kw5fc => rfl); (case kw5fg => assumption); (case kw5fd => assumption); k_whole))
  k_with "setItem ref int" => (k_here; k_dflt (refine' set_at (i := Ln) ?kw6sF ?kw6sN ?kw6sU ?kw6si ?kw6sj ?_; (case kw6sF => k_asm); (case kw6sN => k_asm); (case kw6sU => k_upd); (case kw6si => omega); (case kw6sj => omega); k_whole); intro h' F' N'; (try k_sweep))
  k_with "binaryOp RShift int int" => (k_here; (first | refine shr_to (Ln + Rn) 1 M (by omega) rfl hMm ?_ | refine shr_to x SH (x / 2 ^ SH) rfl rfl rfl ?_); intro _ _)
  k_with "binaryOp Mult int int" => (k_here; (refine mul_to SH hmul (by omega) (by omega) ?_); intro _ _)
  k_with "binaryOp LShift int int" => (k_here; (refine shl_to (x / 2 ^ SH) SH _ (n * k) rfl rfl rfl hup hnk hSHb ?_); intro _ _)
  k_with "binaryOp BitXor int int" => (k_here; (refine xor_to x SH _ rfl rfl rfl ?_); intro _ _)
  k_with "callWith ref" => (k_here; k_dflt (refine' callWith_F ?kw11k1 ?_; (case kw11k1 => exact fnAt_base (by k_asm) (by assumption) rfl); k_whole))
  k_with "FnAt" => (k_dflt (exact fnAt_base (by k_asm) (by assumption) rfl))
  k_with "And" => ((with_reducible show FnAt _ _ ∧ _); refine ⟨fnAt_base (by k_asm) (by assumption) rfl, ?_⟩; try dsimp only [List.nil_append, List.cons_append])
  k_with "callWith ref" => (k_here; k_dflt (refine' callWith_F ?kw14k1 ?_; (case kw14k1 => exact FnAt.of (by k_asm) (by k_mem)); k_whole))
  k_with "And" => ((with_reducible show FnAt _ _ ∧ _); refine ⟨FnAt.of (by k_asm) (by k_mem), ?_⟩; try dsimp only [List.nil_append, List.cons_append])
  k_with "call builtin:len" => (k_here; k_dflt (refine' kst_len ?kw16kN ?kw16km ?kw16ke ?kw16kf ?_; (case kw16kN => k_asm); (case kw16km => with_reducible walk_at "my mem"); (case kw16ke => exact List.length_replicate); (case kw16kf => omega); k_whole))
  k_with "call ref" => (k_here; refine stop_here ?_)
  refine' telT_ofC (binds := [(Str.ofString "a", .int a t), (Str.ofString "n", .int n u)]) ?ho ?hcd ?hb ?hl ?h1 ?h2 ?h3 ?h4 ?_
  (case ho => k_is)
  (case hcd => k_is)
  (case hb => intro s; exact BindsTo.of_eq rfl)
  (case hl => exact rfl)
  (case h1 => decide)
  (case h2 => exact rfl)
  (case h3 => exact rfl)
  (case h4 => exact rfl)
  intro dp uu gd outer A₀ base g L' s Q TT cells B F N Y hTL hT X T hd hu hpre hret
  k_cells Y
  obtain ⟨hn0, hn1, hbits⟩ := hpre
  have hkk : nd a n ≤ 64 := Nat.le_trans (nd_le hn0) hbits
  obtain ⟨p1, C1, p2, C2, rfl, hp1, hp2, hne⟩ := hT
  have h44 : @LT.lt Nat _ 44 L' := hTL (44, tabObj p1) (by simp)
  have h37 : @LT.lt Nat _ 37 L' := hTL (37, tabObj p2) (by simp)
  have hC : ∀ q ∈ C1 ++ C2, q.1 < L' := fun q hq => hTL q (.tail _ (.tail _ hq))
  simp only [List.cons_append, List.nil_append] at N
  k_steps
  unfold Stop
  refine' nestDef_K rfl rfl rfl ?_
  rename News _ _ _ _ => N1
  refine' nest_mid (c := 41) (P := 37) (C := C2) ?xm ?xF N1 T (codeHd_of_K X (by with_unfolding_all rfl)) rfl ?x1 ?x2 rfl hp2 ?xs ?_
  (case xm => walk_at "my mid")
  (case xF => k_asm)
  (case x1 => (intro q hq; simp only [List.mem_cons, List.not_mem_nil, or_false] at hq; rcases hq with rfl | rfl | rfl | rfl | rfl | rfl <;> (refine neN ?_; dsimp only; omega)))
  (case x2 => exact fun q hq => (hne q hq).2)
  (case xs => exact fun q hq => List.mem_append_right _ hq)
  intro f c' oc vs t' ctv doc h2 tk2 ps' C' F2 N2 ht' hm hd' hv h3 h4 h5
  have hk3 := off_cells (a := L' + 1 + 1 + 1) hC h3 (by with_reducible walk_at "my mem") (by omega)
  have hk2 := off_cells (a := L' + 1 + 1) hC h3 (by with_reducible walk_at "my mem") (by omega)
  have hk1 := off_cells (a := L' + 1) hC h3 (by with_reducible walk_at "my mem") (by omega)
  have hkD := off_cells (a := D) hC h3 (by with_reducible walk_at "my mem") (by omega)
  have hTn := tab_ne (P1 := 44) (P2 := 37) hne h3 (by with_reducible walk_at "my mem") (by with_reducible walk_at "my mem")
  replace h4 := allLt_of h4
  simp only [AllLt, and_true] at h4
  simp only [List.cons_append, List.nil_append] at N2
  k_steps
  · unfold Stop
    rename News _ _ _ _ => N3
    rename (a : Int) ≠ 0 => ha0
    refine' i2_use (kk := nd a n) (x := a) (D := D) (n := n) (cn := L' + 1) (ca := L' + 1 + 1) (ci := L' + 1 + 1 + 1) (c' := c') ?zi ?zB ?zF X N3 T rfl ?zd ?zu ?zm ?zo ?z1 ?z2 ?z3 ?z4 ?z5 ?z6 ?z7 ?z8 ?z9 ?z10 hd' hv ?z11 ?z12 ?z13 ?z14 ?zr
    (case zB => k_asm)
    (case zF => k_asm)
    (case zd => omega)
    (case zu => omega)
    (case zm => walk_at "my mid")
    (case z1 => with_reducible walk_at "my mem")
    (case z2 => (refine neN ?_; omega))
    (case z3 => with_reducible walk_at "my mem")
    (case z4 => (refine neN ?_; omega))
    (case z5 => with_reducible walk_at "my mem")
    (case z6 => (refine neN ?_; omega))
    (case z7 => with_reducible walk_at "my mem")
    (case z8 => (refine neN ?_; omega))
    (case z9 => (repeat (first | exact List.mem_append_right _ hm | refine List.mem_cons_of_mem _ ?_)))
    (case zo => (intro q hq; simp only [List.cons_append, List.nil_append, List.mem_cons] at hq; rcases hq with rfl | rfl | rfl | rfl | rfl | rfl | rfl | hq; all_goals first | exact hkD q hq | (refine neN ?_; dsimp only; omega)))
    (case z10 => exact hkD _ (List.mem_append_right _ hm))
    (case z11 => exact ints_rep _ _)
    (case z12 => exact nd_pos hn0 (by omega))
    (case z13 => omega)
    (case z14 => exact nd_fits hn0)
    (case zi =>
      intro k IH Ln Rn x ds t1 t2 t3 hR hk1 hRl hds hx
      refine' telT_ofX (binds := [(Str.ofString "x", .int x t1), (Str.ofString "L", .int Ln t2), (Str.ofString "R", .int Rn t3)]) ?y0 (fun g h => h.1) ?y1 ?y2 ?y3 ?y4 ?y5 ?y6 ?_
      (case y0 => exact rfl)
      (case y1 => intro s; exact BindsTo.of_eq rfl)
      (case y2 => exact locs rfl)
      (case y3 => decide)
      (case y4 => exact rfl)
      (case y5 => exact rfl)
      (case y6 => exact rfl)
      (try clear B); (try clear F2); (try clear N2); (try clear N3); (try clear hret); (try clear hTL); (try clear hC); (try clear hne); (try clear hp1); (try clear hp2); (try clear ht'); (try clear hd'); (try clear hv); (try clear h3); (try clear h4); (try clear h5); (try clear hk2); (try clear hk3); (try clear hkD); (try clear hTn); (try clear h44); (try clear h37); (try clear hd); (try clear hu); (try clear X); (try clear T); (try clear N); (try clear F)
      intro dp uu gd outer A₀ base g L2 s Q TT B F N hTL hT X T hd hu hpre hret
      obtain ⟨vsx, nnx, rfl, hIx⟩ := hT
      obtain ⟨⟨hgf, hgc⟩, hgn, hga, hgi⟩ := hpre
      have hlx : vsx.length = ds.length := by have := hIx.length; simpa using this
      by_cases h1 : k = 1
      · subst h1
        k_steps
        all_goals (try dsimp only)
        · exact hret .none _ _ _ (Fr.keep (by assumption)) (listIs_one (by assumption) (by omega) hx) (by assumption) rfl
        · exfalso; omega
      · obtain ⟨j, hj⟩ : ∃ j, j = k / 2 := ⟨_, rfl⟩
        obtain ⟨M, hM⟩ : ∃ M, M = Ln + j := ⟨_, rfl⟩
        obtain ⟨SH, hSH⟩ : ∃ SH, SH = j * n := ⟨_, rfl⟩
        have hjk : j < k := by omega
        have hj1 : 1 ≤ j := by omega
        have hMm : (Ln + Rn) / 2 ^ 1 = M := by omega
        have hmul : ((M : Int) - (Ln : Int)) * (n : Int) = (SH : Int) := by
          rw [hSH]
          have : (M : Int) - (Ln : Int) = (j : Int) := by omega
          rw [this]; simp
        have hxb : x < 2 ^ (n * k) := by rw [Nat.pow_mul]; exact hx
        have hnk : n * k ≤ 1000000 := Nat.le_trans (Nat.mul_le_mul hn1 (show k ≤ 1000 by omega)) (by decide)
        have hSHb : SH ≤ 1000000 := by rw [hSH, Nat.mul_comm]; exact Nat.le_trans (Nat.mul_le_mul_left n (Nat.le_of_lt hjk)) hnk
        have hup : x / 2 ^ SH < 2 ^ (n * k) := Nat.lt_of_le_of_lt (Nat.div_le_self _ _) hxb
        k_steps
        · exfalso; omega
        · unfold Stop
          refine' telT_useM (D := D) (IH j hjk Ln M (x % 2 ^ SH) ds _ _ _ hM hj1 (by omega) hds (by rw [hSH]; exact low_lt)) ?vB ?vF X ?vN T rfl ?vd ?vu ?vm ?vt ?vo ?vp ?vr
          (case vB => k_asm)
          (case vF => k_asm)
          (case vN => k_asm)
          (case vd => omega)
          (case vu => omega)
          (case vm => exact MidAt.here)
          (case vt => exact ⟨_, _, rfl, hIx⟩)
          (case vo => simp)
          (case vp => exact fun _ hst => ⟨⟨hst _ _ hgf, hgc.keeps hst⟩, hst _ _ hgn, hst _ _ hga, hst _ _ hgi⟩)
          (case vr =>
            intro r6 h6 tk6 T6 F6 N6 hT6 hr6
            obtain ⟨vs6, nn6, rfl, hI6⟩ := hT6
            subst hr6
            simp only [List.append_nil] at N6
            k_steps
            unfold Stop
            refine' telT_useM (D := D) (IH (k - j) (by omega) M Rn (x / 2 ^ SH) (put ds Ln (digs (2 ^ n) j (x % 2 ^ SH))) _ _ _ (by omega) (by omega) ?w1 ?w2 (by rw [hSH]; exact up_lt (Nat.le_of_lt hjk) hx)) ?wB ?wF X ?wN T rfl ?wd ?wu ?wm ?wt ?wo ?wp ?wr
            (case w1 => (rw [put_length (by rw [digs_length]; omega)]; exact hRl))
            (case w2 => (rw [put_length (by rw [digs_length]; omega)]; exact hds))
            (case wB => k_asm)
            (case wF => k_asm)
            (case wN => k_asm)
            (case wd => omega)
            (case wu => omega)
            (case wm => exact MidAt.here)
            (case wt => exact ⟨_, _, rfl, hI6⟩)
            (case wo => simp)
            (case wp => exact fun _ hst => ⟨⟨hst _ _ hgf, hgc.keeps hst⟩, hst _ _ hgn, hst _ _ hga, hst _ _ hgi⟩)
            (case wr =>
              intro r7 h7 tk7 T7 F7 N7 hT7 hr7
              obtain ⟨vs7, nn7, rfl, hI7⟩ := hT7
              subst hr7
              simp only [List.append_nil] at N7
              k_steps
              all_goals (try dsimp only)
              rw [hSH, put_two hM hR hjk hRl] at hI7
              exact hret .none _ _ _ (Fr.keep (by assumption)) ⟨_, _, rfl, hI7⟩ (by assumption) rfl)))
    (case zr =>
      intro h5' tk5 vs5 nn5 F5 N5 hI5
      simp only [List.cons_append, List.nil_append] at N5
      k_steps
      all_goals (try dsimp only)
      refine hret _ _ _ ((44, tabObj p1) :: (37, tabObj ps') :: (C1 ++ C')) (Fr.keep (by assumption)) ⟨p1, C1, ps', C', rfl, hp1, ht', hTn⟩ (fun q hq => N5 q ?_) (list_out N5 (.head _) ⟨_, hI5, by rw [digs_length]; exact hkk, digs_lt (Nat.pow_pos (by decide)) _ _, digs_val _ _ (nd_fits hn0)⟩)
      simp only [List.mem_cons, List.mem_append] at hq ⊢
      rcases hq with h | h | h | h <;> simp [h])
  · rename News _ _ _ _ => N3
    have ha0 : a = 0 := by omega
    refine hret _ _ _ ((44, tabObj p1) :: (37, tabObj ps') :: (C1 ++ C')) (Fr.keep (by assumption)) ⟨p1, C1, ps', C', rfl, hp1, ht', hTn⟩ (fun q hq => N3 q ?_) (list_out N3 (by with_reducible walk_at "my mem") ⟨[], ?_, by simp, by simp, ha0.symm⟩)
    · simp only [List.mem_cons, List.mem_append] at hq ⊢
      rcases hq with h | h | h | h <;> simp [h]
    · subst ha0
      rw [nd_zero hn0]
      exact .nil
end
end Mine
namespace Mine
open PySem PySem.W PySem.Spec PySem.Calls PyProof.Rows
section
variable {prog : Program} {w : World} {p : Program} {loose : List Str} {mean : ExcName → Option Value} {mg mb : Str → Option Value}
local macro_rules | `(tactic| k_all) => `(tactic| with_reducible assumption)
local macro_rules | `(tactic| k_all) => `(tactic| exact kall_lt (by assumption) (by omega))

theorem d2i_tel (l : Addr) (vs : List Value) (ds : List Nat) (n : Nat) (u : Tok) (hI : IntsAre vs (ds.map (fun d : Nat => (d : Int)))) (hlen : ds.length ≤ 64) (hlt : ∀ d ∈ ds, d < 2 ^ n) : TelT TF TF prog w (hd.heap_39 w.params) p loose mean mg mb 49 80 400 [.ref l, .int n u] (fun g => (0 < n ∧ n ≤ 100) ∧ g.IsList l vs.toArray) (fun _ _ r => IsI (valB (2 ^ n) ds : Nat) r) := by
  k_with_none
  k_with "my mem" => (first | exact List.mem_cons_self | (refine List.mem_cons_of_mem _ ?_; walk_at "my mem"))
  k_with "my mid" => (first | apply MidAt.here | (apply MidAt.cons; walk_at "my mid"))
  k_with "exec FunctionDef" => (k_here; refine stop_here ?_)
  k_with "eval Name" => (k_here; k_dflt (refine' nameX_FG ?kw3fF ?kw3fc ?kw3fg ?kw3fd ?_ ?kw3fa ?kw3fb; (case kw3fa => rfl); (case kw3fb => rfl); (case kw3fF => k_asm); (case kw3fc => rfl); (case kw3fg => assumption); (case kw3fd => first | assumption | exact rfl); k_whole))
  k_with "binaryOp RShift int int" => (k_here; (first | refine shr_to (Ln + Rn) 1 M (by omega) rfl hMm ?_ | fail); intro _ _)
  k_with "binaryOp Mult int int" => (k_here; (refine mul_to SH hmul (by omega) (by omega) ?_); intro _ _)
  k_with "binaryOp LShift int int" => (k_here; (refine shl_to (valB (2 ^ n) (seg ds M (k - j))) SH _ (n * (k - j)) rfl rfl rfl hup hnk hSHb ?_); intro _ _)
  k_with "callWith ref" => (k_here; k_dflt (refine' callWith_F ?kw7k1 ?_; (case kw7k1 => exact fnAt_base (by k_asm) (by assumption) rfl); k_whole))
  k_with "FnAt" => (k_dflt (exact fnAt_base (by k_asm) (by assumption) rfl))
  k_with "And" => ((with_reducible show FnAt _ _ ∧ _); refine ⟨fnAt_base (by k_asm) (by assumption) rfl, ?_⟩; try dsimp only [List.nil_append, List.cons_append])
  k_with "callWith ref" => (k_here; k_dflt (refine' callWith_F ?kw10k1 ?_; (case kw10k1 => exact FnAt.of (by k_asm) (by k_mem)); k_whole))
  k_with "And" => ((with_reducible show FnAt _ _ ∧ _); refine ⟨FnAt.of (by k_asm) (by k_mem), ?_⟩; try dsimp only [List.nil_append, List.cons_append])
  k_with "call ref" => (k_here; refine stop_here ?_)
  k_with "getItem ref int" => (k_here; k_dflt (refine' item_ints (B := 2 ^ n) (i := Ln) ?kw13gl hI ?kw13ge ?kw13gi ?kw13gn ?_; (case kw13gl => exact Heap.IsList.at hgl fun o e => Fr.keep (by assumption) _ _ e); (case kw13ge => omega); (case kw13gi => omega); (case kw13gn => omega); k_whole); intro _)
  refine' telT_ofC (binds := [(Str.ofString "digits", .ref l), (Str.ofString "n", .int n u)]) ?ho ?hcd ?hb ?hl ?h1 ?h2 ?h3 ?h4 ?_
  (case ho => k_is)
  (case hcd => k_is)
  (case hb => intro s; exact BindsTo.of_eq rfl)
  (case hl => exact rfl)
  (case h1 => decide)
  (case h2 => exact rfl)
  (case h3 => exact rfl)
  (case h4 => exact rfl)
  intro dp uu gd outer A₀ base g L' s Q TT cells B F N Y hTL hT X T hd hu hpre hret
  k_cells Y
  obtain ⟨⟨hn0, hn1⟩, hl⟩ := hpre
  obtain ⟨p1, C1, p2, C2, rfl, hp1, hp2, hne⟩ := hT
  have h44 : @LT.lt Nat _ 44 L' := hTL (44, tabObj p1) (by simp)
  have h37 : @LT.lt Nat _ 37 L' := hTL (37, tabObj p2) (by simp)
  have hC : ∀ q ∈ C1 ++ C2, q.1 < L' := fun q hq => hTL q (.tail _ (.tail _ hq))
  simp only [List.cons_append, List.nil_append] at N
  k_steps
  unfold Stop
  refine' nestDef_K rfl rfl rfl ?_
  rename News _ _ _ _ => N1
  refine' nest_mid (c := 48) (P := 44) (C := C1) ?xm ?xF N1 T (codeHd_of_K X (by with_unfolding_all rfl)) rfl ?x1 ?x2 rfl hp1 ?xs ?_
  (case xm => walk_at "my mid")
  (case xF => k_asm)
  (case x1 => (intro q hq; simp only [List.mem_cons, List.not_mem_nil, or_false] at hq; rcases hq with rfl | rfl | rfl <;> (refine neN ?_; dsimp only; omega)))
  (case x2 => (intro q hq; rcases List.mem_cons.mp hq with rfl | hq; exact neN (by dsimp only; omega); exact (hne q hq).1))
  (case xs => exact fun q hq => List.mem_cons_of_mem _ (List.mem_append_left _ hq))
  intro f c' oc vsf t' ctv doc h2 tk2 ps' C' F2 N2 ht' hm hd' hv h3 h4 h5
  have hk3 := off_cells1 (a := L' + 1 + 1 + 1) hC h3 (by with_reducible walk_at "my mem") (by omega)
  have hk2 := off_cells1 (a := L' + 1 + 1) hC h3 (by with_reducible walk_at "my mem") (by omega)
  have hk1 := off_cells1 (a := L' + 1) hC h3 (by with_reducible walk_at "my mem") (by omega)
  have hTn := tab_ne1 (P1 := 44) (P2 := 37) hne h3 (by with_reducible walk_at "my mem") (by with_reducible walk_at "my mem")
  replace h4 := allLt_of h4
  simp only [AllLt, and_true] at h4
  simp only [List.cons_append, List.nil_append] at N2
  k_steps
  · unfold Stop
    rename News _ _ _ _ => N3
    have hkk : (ds.map (fun d : Nat => (d : Int))).length = ds.length := by simp
    have hkp : 1 ≤ (ds.map (fun d : Nat => (d : Int))).length := by omega
    refine' d2_use (kk := (ds.map (fun d : Nat => (d : Int))).length) (l := l) (vs := vs) (ds := ds) (n := n) (cn := L' + 1) (ca := L' + 1 + 1) (ci := L' + 1 + 1 + 1) (c' := c') ?zi ?zB ?zF X N3 T rfl ?zd ?zu ?z1 ?z3 ?z5 ?z7 ?z9 hd' hv hl hkk hkp ?zr
    (case zB => k_asm)
    (case zF => k_asm)
    (case zd => omega)
    (case zu => omega)
    (case z1 => with_reducible walk_at "my mem")
    (case z3 => with_reducible walk_at "my mem")
    (case z5 => with_reducible walk_at "my mem")
    (case z7 => with_reducible walk_at "my mem")
    (case z9 => (repeat (first | exact List.mem_append_right _ hm | refine List.mem_cons_of_mem _ ?_)))
    (case zi =>
      intro k IH Ln Rn t2 t3 hR hk1 hRl
      refine' tel_ofX (binds := [(Str.ofString "L", .int Ln t2), (Str.ofString "R", .int Rn t3)]) ?y0 (fun g h => h.1) ?y1 ?y2 ?y3 ?y4 ?y5 ?y6 ?_
      (case y0 => exact rfl)
      (case y1 => intro s; exact BindsTo.of_eq rfl)
      (case y2 => exact locs rfl)
      (case y3 => decide)
      (case y4 => exact rfl)
      (case y5 => exact rfl)
      (case y6 => exact rfl)
      (try clear B); (try clear F2); (try clear N2); (try clear N3); (try clear hret); (try clear hTL); (try clear hC); (try clear hne); (try clear hp1); (try clear hp2); (try clear ht'); (try clear hd'); (try clear hv); (try clear h3); (try clear h4); (try clear h5); (try clear hk2); (try clear hk3); (try clear hTn); (try clear h44); (try clear h37); (try clear hd); (try clear hu); (try clear X); (try clear T); (try clear N); (try clear F); (try clear hl)
      intro dp uu gd outer A₀ base g L2 s Q B F N X T hd hu hpre hret
      obtain ⟨⟨hgf, hgc⟩, hgn, hga, hgi, hgl⟩ := hpre
      by_cases h1 : k = 1
      · subst h1
        k_steps
        all_goals (try dsimp only)
        · exact hret _ _ _ (Fr.keep (by assumption)) ⟨_, congrArg (Value.int · _) (seg_getD (B := 2 ^ n) (show Ln < ds.length by omega))⟩
        · exfalso; omega
      · obtain ⟨j, hj⟩ : ∃ j, j = k / 2 := ⟨_, rfl⟩
        obtain ⟨M, hM⟩ : ∃ M, M = Ln + j := ⟨_, rfl⟩
        obtain ⟨SH, hSH⟩ : ∃ SH, SH = j * n := ⟨_, rfl⟩
        have hjk : j < k := by omega
        have hj1 : 1 ≤ j := by omega
        have hMm : (Ln + Rn) / 2 ^ 1 = M := by omega
        have hmul : ((M : Int) - (Ln : Int)) * (n : Int) = (SH : Int) := by
          rw [hSH]
          have : (M : Int) - (Ln : Int) = (j : Int) := by omega
          rw [this]; simp
        have hnk : n * (k - j) ≤ 1000000 := Nat.le_trans (Nat.mul_le_mul hn1 (show k - j ≤ 1000 by omega)) (by decide)
        have hSHb : SH ≤ 1000000 := by rw [hSH, Nat.mul_comm]; exact Nat.le_trans (Nat.mul_le_mul hn1 (show j ≤ 1000 by omega)) (by decide)
        have hup : valB (2 ^ n) (seg ds M (k - j)) < 2 ^ (n * (k - j)) := seg_lt hlt (by omega)
        k_steps
        · exfalso; omega
        · unfold Stop
          refine' tel_use (IH (k - j) (by omega) M Rn _ _ (by omega) (by omega) (by omega)) ?vB ?vF X ?vN T rfl ?vd ?vu ?vp ?vr
          (case vB => k_asm)
          (case vF => k_asm)
          (case vN => k_asm)
          (case vd => omega)
          (case vu => omega)
          (case vp => (rename Fr _ _ _ _ => F5; exact ⟨⟨F5.keep _ _ hgf, hgc.keeps F5.keep⟩, F5.keep _ _ hgn, F5.keep _ _ hga, F5.keep _ _ hgi, Heap.IsList.at hgl fun o e => F5.keep _ _ e⟩))
          (case vr =>
            intro r6 h6 tk6 F6 N6 _ hr6
            obtain ⟨t6, rfl⟩ := hr6
            k_steps
            unfold Stop
            refine' tel_use (IH j hjk Ln M _ _ hM hj1 (by omega)) ?wB ?wF X ?wN T rfl ?wd ?wu ?wp ?wr
            (case wB => k_asm)
            (case wF => k_asm)
            (case wN => k_asm)
            (case wd => omega)
            (case wu => omega)
            (case wp => (rename Fr _ _ _ _ => F5; exact ⟨⟨F5.keep _ _ hgf, hgc.keeps F5.keep⟩, F5.keep _ _ hgn, F5.keep _ _ hga, F5.keep _ _ hgi, Heap.IsList.at hgl fun o e => F5.keep _ _ e⟩))
            (case wr =>
              intro r7 h7 tk7 F7 N7 _ hr7
              obtain ⟨t7, rfl⟩ := hr7
              k_steps
              all_goals (try dsimp only)
              exact hret _ _ _ (Fr.keep (by assumption)) ⟨_, congrArg (Value.int · _) (seg_sum hM hSH (Nat.le_of_lt hjk) (show Ln + k ≤ ds.length by omega))⟩)))
    (case zr =>
      intro r h5' tk5 F5 N5 hr5
      obtain ⟨t5, rfl⟩ := hr5
      k_steps
      all_goals (try dsimp only)
      refine hret _ _ _ ((44, tabObj ps') :: (37, tabObj p2) :: (C' ++ C2)) (Fr.keep (by assumption)) ⟨ps', C', p2, C2, rfl, ht', hp2, hTn⟩ (fun q hq => N5 q ?_) ⟨_, rfl⟩
      simp only [List.mem_cons, List.mem_append] at hq ⊢
      rcases hq with h | h | h | h <;> simp [h])
  · rename News _ _ _ _ => N3
    have hd0 : ds = [] := by
      apply List.length_eq_zero_iff.mp
      have hkk : (ds.map (fun d : Nat => (d : Int))).length = ds.length := by simp
      omega
    refine hret _ _ _ ((44, tabObj ps') :: (37, tabObj p2) :: (C' ++ C2)) (Fr.keep (by assumption)) ⟨ps', C', p2, C2, rfl, ht', hp2, hTn⟩ (fun q hq => N3 q ?_) ⟨_, congrArg (Value.int · _) ?_⟩
    · simp only [List.mem_cons, List.mem_append] at hq ⊢
      rcases hq with h | h | h | h <;> simp [h]
    · subst hd0
      rfl
end
end Mine
namespace Mine
open PySem PySem.W PySem.Spec PySem.Calls PyProof.Rows
section
variable {prog : Program} {w : World} {p : Program} {loose : List Str} {mean : ExcName → Option Value} {mg mb : Str → Option Value}
theorem div2n1n_tel (a b n : Int) (t u v : Tok) : Tel prog w (hd.heap_39 w.params) p loose mean mg mb 28 10 100 [.int a t, .int b u, .int n v] (fun _ => (0 < b ∧ b < 1073741824) ∧ ((Builtin.Int.intBits a : Nat) : Int) - n ≤ 4000) (fun g h' r => PairOut (IsI (a.fdiv b)) (IsI (a.fmod b)) g h' r) := by
  refine' tel_of (binds := [(Str.ofString "a", .int a t), (Str.ofString "b", .int b u), (Str.ofString "n", .int n v)]) ?ho ?hcd ?hb ?hl ?h1 ?h2 ?h3 ?h4 ?_
  (case ho => k_is)
  (case hcd => k_is)
  (case hb => intro s; exact BindsTo.of_eq rfl)
  (case hl => exact locs rfl)
  (case h1 => decide)
  (case h2 => exact rfl)
  (case h3 => exact rfl)
  (case h4 => exact rfl)
  intro dp uu gd outer A₀ base g L' s Q B F N X T hd hu hpre hret
  obtain ⟨hb, hbits⟩ := hpre
  k_steps
  all_goals (try dsimp only)
  exact hret _ _ _ (Fr.keep (by assumption)) (pair_out (by assumption) (by k_mem) ⟨_, rfl⟩ ⟨_, rfl⟩)
end
end Mine
namespace Mine
open PySem PySem.W PySem.Spec PySem.Calls PyProof.Rows
section
variable {prog : Program} {w : World} {p : Program} {loose : List Str} {mean : ExcName → Option Value} {mg mb : Str → Option Value}
local macro_rules | `(tactic| k_all) => `(tactic| with_reducible assumption)
local macro_rules | `(tactic| k_all) => `(tactic| exact kall_lt (by assumption) (by omega))
theorem dpos_tel (a b : Nat) (t u : Tok) : TelT TF TF prog w (hd.heap_39 w.params) p loose mean mg mb 56 90 500 [.int a t, .int b u] (fun _ => (0 < b ∧ b < 1073741824) ∧ Builtin.Int.intBits (a : Int) ≤ 64) (fun g h' r => PairOut (IsI (a / b : Nat)) (IsI (a % b : Nat)) g h' r) := by
  k_with_none
  k_with "exec For Name Name cons nil" => (k_here; (rename Fr _ _ _ _ => lF'); (with_unfolding_all refine' For_invVF lF' ?kw0k1 ?kw0k2 ?_; (case kw0k1 => exact rfl); (case kw0k2 => exact rfl); k_whole))
  k_with "exec For Name Call cons nil" => (k_here; (rename Fr _ _ _ _ => lF'); (with_unfolding_all refine' For_invVF lF' ?kw1k1 ?kw1k2 ?_; (case kw1k1 => exact rfl); (case kw1k2 => exact rfl); k_whole))
  k_with "pyIter str" => (k_here; refine stop_here ?_)
  k_with "pyIter ref" => (k_here; refine stop_here ?_)
  k_with "my mem" => (first | exact List.mem_cons_self | (refine List.mem_cons_of_mem _ ?_; walk_at "my mem"))
  k_with "my cut" => (first | apply Cut.here | (apply Cut.cons; walk_at "my cut"))
  k_with "call ref" => (k_here; refine stop_here ?_)
  k_with "binaryOp LShift int int" => (k_here; (refine shl_to c.r n _ 30 rfl rfl rfl (by omega) (by omega) (by omega) ?_); intro _ _)
  k_with "binaryOp Add int int" => (k_here; (refine add_to (c.r * 2 ^ n + dd) (Int.natCast_add _ _).symm ?_); intro _ _)
  k_with "call builtin:list.reverse" => (k_here; refine stop_here ?_)
  k_with "call builtin:list.append" => (k_here; k_dflt (refine' append_K ?kw10k1 ?kw10k2 ?kw10k3 ?_ ?kw10z; (case kw10k1 => k_asm); (case kw10k2 => k_asm); (case kw10k3 => k_upd); (case kw10z => (simp only [List.size_toArray, sizeLine_eq]; omega)); k_whole); intro h' F' N'; (try k_sweep))
  refine' telT_ofL (binds := [(Str.ofString "a", .int a t), (Str.ofString "b", .int b u)]) ?ho ?hcd ?hb ?hl ?h1 ?h2 ?h3 ?h4 ?_
  (case ho => k_is)
  (case hcd => k_is)
  (case hb => intro s; exact BindsTo.of_eq rfl)
  (case hl => exact locs rfl)
  (case h1 => decide)
  (case h2 => exact rfl)
  (case h3 => exact rfl)
  (case h4 => exact rfl)
  intro dp uu gd outer A₀ base g L' s Q TT B F N hTL hT X T hd hu hpre hret
  obtain ⟨⟨hb0, hb1⟩, hbits⟩ := hpre
  obtain ⟨n, hn⟩ : ∃ n, n = Builtin.Int.intBits (b : Int) := ⟨_, rfl⟩
  have hn0 : 0 < n := by
    rw [hn]
    rcases Nat.eq_zero_or_pos (Builtin.Int.intBits (b : Int)) with h | h
    · have := lt_bits b
      rw [h] at this
      simp at this
      omega
    · exact h
  have hn1 : n ≤ 30 := by rw [hn]; exact bits_le hb1
  have hbn : b < 2 ^ n := by rw [hn]; exact lt_bits b
  k_steps
  unfold Stop
  have hn' := hn.symm
  clear hn
  simp only [hn'] at *
  refine' telT_call (i2d_tel a n _ _) ?vB ?vF X ?vN T rfl ?vd ?vu hT ?vc ?vo ?vp ?vr
  (case vB => k_asm)
  (case vF => k_asm)
  (case vN => k_asm)
  (case vd => omega)
  (case vu => omega)
  (case vc => exact .here)
  (case vo => simp)
  (case vp => exact fun _ _ => ⟨hn0, by omega, hbits⟩)
  (case vr =>
    intro r1 h1 tk1 T1 F1 N1 hT1 ho1 st1 hO1 hN1
    obtain ⟨R1, vs1, nn1, rfl, ⟨ds, hI, hlen, hlt, hval⟩, hR1, hn1'⟩ := hO1
    have hT1R := hT1.off N1 hR1 rfl
    replace N1 := (hN1 R1 _ hR1 hn1').1
    clear hN1 ho1 st1 hR1 hn1'
    (try clear N); (try clear F)
    simp only [List.nil_append] at N1
    k_steps
    unfold Stop
    rename_i Dq hq1 lq1 hq2 Dr hq3 Fq Nq lq2
    have hTq := allLt_off lq1.2
    have hlen1 : vs1.length = ds.length := by have := hI.length; simpa using this
    refine' for_rev (σ := DV) (l := R1) (I := Dr) (vs := vs1) ((R1, listOf vs1.toArray nn1) :: T1) (DV.led Dq) (fun c => [(Str.ofString "r", .int c.r c.t)]) [Str.ofString "q_digit"] (DV.ok ds n b) ⟨[], [], 0, 0, _⟩ rfl ?_i ?_l ?_ne ?_lI ?_ll Fq Nq ?_sub ?_k ?_j ?turn ?done
    (case _i => exact List.mem_cons_self)
    (case _l => walk_at "my mem")
    (case _ne => (refine neN ?_; omega))
    (case _lI => exact fun q hq => Nat.ne_of_lt (allLt_at (l := (Dq, listOf #[] 0) :: (R1, listOf vs1.toArray nn1) :: T1) lq2 q hq))
    (case _ll => (intro q hq; cases List.mem_singleton.mp hq; refine neN ?_; dsimp only; omega))
    (case _sub => (intro q hq; exact List.mem_cons_of_mem _ hq))
    (case _k => (intro q hq; cases List.mem_singleton.mp hq; rfl))
    (case _j => exact DV.start hb0)
    (case turn =>
      intro i c v u2 h3 tk3 own hv hoff hJ F3 N3
      obtain ⟨dd, td, rfl, hi, hdd⟩ := rev_at hI hv
      obtain ⟨hj1, hj2, hj3, hj4, hj5⟩ := id hJ
      have hdlt : dd < 2 ^ n := hlt dd (List.mem_of_getElem? hdd)
      have hbig := dv_small hj4 hdlt hb1 hn1
      simp only [DV.led, List.cons_append, List.nil_append] at N3
      have hlc : c.vs.length ≤ 64 := by have := hj1.length; simp at this; omega
      have hTo : ∀ q ∈ T1 ++ own, q.1 ≠ Dq := fun q hq => (List.mem_append.mp hq).elim (hTq q) fun h => hoff q h Dq (by simp [DV.led])
      have hRD : @LT.lt Nat _ R1 Dq := lq1.1
      k_steps
      unfold Stop
      refine' tel_use (div2n1n_tel _ _ _ _ _ _) ?wB ?wF X ?wN T rfl ?wd ?wu ?wp ?wr
      (case wB => k_asm)
      (case wF => k_asm)
      (case wN => k_asm)
      (case wd => omega)
      (case wu => omega)
      (case wp => (refine ⟨⟨by omega, by omega⟩, ?_⟩; have := bits_le hbig; omega))
      (case wr =>
        intro r4 h4 tk4 F4 N4 st4 hO4
        obtain ⟨R4, x4, y4, rfl, ⟨t5, rfl⟩, ⟨t6, rfl⟩, hg4, hn4⟩ := hO4
        rw [fdiv_nat, fmod_nat] at hg4
        replace N4 := new_at hg4 hn4 N4 (by assumption)
        have hRq : @Ne Nat R4 Dq := fun e => by
          have := (N3 _ List.mem_cons_self).1
          rw [← e, hn4] at this
          cases this
        clear st4 hg4 hn4
        k_steps
        rename News _ _ _ _ => N5
        rename Fr _ _ _ _ => F5
        (try dsimp only [InvPostN])
        refine' ⟨_, _, _, _, _, rfl, F5, N5, ?zs, ?zo, ?za, ⟨c.qs ++ [(c.r * 2 ^ n + dd) / b], c.vs ++ [.int (((c.r * 2 ^ n + dd) / b : Nat) : Int) t5], c.nn + 1, (c.r * 2 ^ n + dd) % b, t6⟩, rfl, ?zp, ?zr, ?zj⟩
        (case zj => exact DV.step hbn hJ hi hdd hdlt)
        (case za => rfl)
        (case zs => (intro q hq; cases List.mem_singleton.mp hq; simp only [List.push_toArray]; walk_at "my mem"))
        (case zp => (intro q hq; cases List.mem_singleton.mp hq; rfl))
        (case zo => (intro q hq; simp only [List.mem_cons, List.mem_append] at hq ⊢; rcases hq with h | h | h <;> simp [h]))
        (case zr =>
          intro z hz1 hz2 hz3
          have hr : z ≠ Str.ofString "r" := hz2 _ List.mem_cons_self
          have hq : z ≠ Str.ofString "q_digit" := fun e => by rw [e] at hz3; exact absurd hz3 (by decide)
          simp [kstB, hz1, hr, hq])))
    (case done =>
      intro c u2 h3 tk3 hJ F3 N3
      have hJ1 : DV.ok ds n b ds.length c := hlen1 ▸ hJ
      obtain ⟨hj1, hj2, hj3, hj4, hj5⟩ := id hJ
      simp only [DV.led, List.cons_append, List.nil_append] at N3
      have hlc : c.vs.length ≤ 64 := by have := hj1.length; simp at this; omega
      have hRD : @LT.lt Nat _ R1 Dq := lq1.1
      k_steps
      unfold Stop
      show wpAny _ _ (call (Value.builtin "list.reverse") [Value.ref Dq]) _ _ _
      refine' kl_reverse (l := c.vs.reverse) ?F ?N ?e ?U ?z ?_
      (case F => k_asm)
      (case N => k_asm)
      (case U => (refine Upd.head ?_; refine List.forall_mem_cons.mpr ⟨?_, ?_⟩; (refine neN ?_; dsimp only; omega); exact hTq))
      (case e => simp)
      (case z => (show c.vs.length ≤ _; rw [sizeLine_eq]; omega))
      intro h5 F5 N5
      k_steps
      unfold Stop
      refine' telT_call (d2i_tel Dq c.vs.reverse c.qs.reverse n _ (by rw [List.map_reverse]; exact ints_rev hj1) (by rw [List.length_reverse, hj2]; omega) (fun d hd => hj3 d (List.mem_reverse.mp hd))) ?xB ?xF X ?xN T rfl ?xd ?xu hT1 ?xc ?xo ?xp ?xr
      (case xB => k_asm)
      (case xF => k_asm)
      (case xN => k_asm)
      (case xd => omega)
      (case xu => omega)
      (case xc => walk_at "my cut")
      (case xo => (intro q hq; simp only [List.mem_cons, List.not_mem_nil, or_false] at hq; rcases hq with rfl | rfl; exact hTq; exact hT1R))
      (case xp => exact fun hst _ => ⟨⟨hn0, by omega⟩, ⟨_, hst _ List.mem_cons_self, rfl, _, rfl⟩⟩)
      (case xr =>
        intro r6 h6 tk6 T6 F6 N6 hT6 ho6 st6 hO6 hN6
        obtain ⟨t6, rfl⟩ := hO6
        clear hN6 st6
        k_steps
        rename News _ _ _ _ => N7
        obtain ⟨e1, e2⟩ := DV.fin hJ1 hval
        refine hret _ _ _ T6 (Fr.keep (by assumption)) hT6 (fun q hq => N7 q (by simp [hq])) (pair_out N7 List.mem_cons_self ⟨_, congrArg (Value.int · _) (congrArg (fun z : Nat => (z : Int)) e1)⟩ ⟨_, congrArg (Value.int · _) (congrArg (fun z : Nat => (z : Int)) e2)⟩))))
end
end Mine
namespace Mine
open PySem PySem.W PySem.Spec PySem.Calls PyProof.Rows
section
variable {prog : Program} {w : World} {p : Program} {loose : List Str} {mean : ExcName → Option Value} {mg mb : Str → Option Value}
local macro_rules | `(tactic| k_all) => `(tactic| with_reducible assumption)
theorem idp_tel (a b : Nat) (t u : Tok) : TelT TF TF prog w (hd.heap_39 w.params) p loose mean mg mb 63 100 600 [.int (a : Int) t, .int (b : Int) u] (fun _ => (0 < b ∧ b < 1073741824) ∧ Builtin.Int.intBits (a : Int) ≤ 64) (fun g h' r => PairOut (IsI (a / b : Nat)) (IsI (a % b : Nat)) g h' r) := by
  k_with_none
  k_with "my mem" => (first | exact List.mem_cons_self | (refine List.mem_cons_of_mem _ ?_; walk_at "my mem"))
  k_with "my cut" => (first | apply Cut.here | (apply Cut.cons; walk_at "my cut"))
  k_with "call ref" => (k_here; refine stop_here ?_)
  refine' telT_ofL (binds := [(Str.ofString "a", .int a t), (Str.ofString "b", .int b u)]) ?ho ?hcd ?hb ?hl ?h1 ?h2 ?h3 ?h4 ?_
  (case ho => k_is)
  (case hcd => k_is)
  (case hb => intro s; exact BindsTo.of_eq rfl)
  (case hl => exact locs rfl)
  (case h1 => decide)
  (case h2 => exact rfl)
  (case h3 => exact rfl)
  (case h4 => exact rfl)
  intro dp uu gd outer A₀ base g L' s Q TT B F N hTL hT X T hd hu hpre hret
  have F0 := F
  have N0 := N
  obtain ⟨⟨hb0, hb1⟩, hbits⟩ := hpre
  k_steps
  all_goals (try (exfalso; omega))
  unfold Stop
  refine' telT_call (dpos_tel a b _ _) ?vB ?vF X ?vN T rfl ?vd ?vu hT ?vc ?vo ?vp ?vr
  (case vB => k_asm)
  (case vF => k_asm)
  (case vN => k_asm)
  (case vd => omega)
  (case vu => omega)
  (case vc => exact .here)
  (case vo => simp)
  (case vp => exact fun _ _ => ⟨⟨hb0, hb1⟩, hbits⟩)
  (case vr =>
    intro r1 h1 tk1 T1 F1 N1 hT1 ho1 st1 hO1 hN1
    obtain ⟨R1, x1, y1, rfl, ⟨t1, rfl⟩, ⟨t2, rfl⟩, hR1, hn1'⟩ := hO1
    have hT1R := hT1.off N1 hR1 rfl
    replace N1 := (hN1 R1 _ hR1 hn1').1
    clear hN1 ho1 st1 hR1 hn1'
    simp only [List.nil_append] at N1
    k_steps
    all_goals (try dsimp only)
    rename News _ _ _ _ => N7
    exact hret _ _ _ T1 (Fr.keep (by assumption)) hT1 (fun q hq => N7 q (by simp [hq])) (pair_out N7 (by walk_at "my mem") ⟨_, rfl⟩ ⟨_, rfl⟩))
theorem idn_tel (a b : Nat) (t u : Tok) : TelT TF TF prog w (hd.heap_39 w.params) p loose mean mg mb 63 110 610 [.int (-(a : Int) - 1) t, .int (b : Int) u] (fun _ => (0 < b ∧ b < 1073741824) ∧ Builtin.Int.intBits (a : Int) ≤ 64) (fun g h' r => PairOut (IsI (-((a / b : Nat) : Int) - 1)) (IsI ((b : Int) - ((a % b : Nat) : Int) - 1)) g h' r) := by
  k_with_none
  k_with "my mem" => (first | exact List.mem_cons_self | (refine List.mem_cons_of_mem _ ?_; walk_at "my mem"))
  k_with "my cut" => (first | apply Cut.here | (apply Cut.cons; walk_at "my cut"))
  k_with "call ref" => (k_here; refine stop_here ?_)
  refine' telT_ofL (binds := [(Str.ofString "a", .int (-(a : Int) - 1) t), (Str.ofString "b", .int b u)]) ?ho ?hcd ?hb ?hl ?h1 ?h2 ?h3 ?h4 ?_
  (case ho => k_is)
  (case hcd => k_is)
  (case hb => intro s; exact BindsTo.of_eq rfl)
  (case hl => exact locs rfl)
  (case h1 => decide)
  (case h2 => exact rfl)
  (case h3 => exact rfl)
  (case h4 => exact rfl)
  intro dp uu gd outer A₀ base g L' s Q TT B F N hTL hT X T hd hu hpre hret
  have F0 := F
  have N0 := N
  obtain ⟨⟨hb0, hb1⟩, hbits⟩ := hpre
  k_steps
  all_goals (try (exfalso; omega))
  unfold Stop
  have eb : Builtin.bitNot (-(a : Int) - 1) = (a : Int) := by unfold Builtin.bitNot; omega
  rw [eb]
  refine' telT_call (idp_tel a b _ _) ?vB ?vF X ?vN T rfl ?vd ?vu hT ?vc ?vo ?vp ?vr
  (case vB => k_asm)
  (case vF => k_asm)
  (case vN => k_asm)
  (case vd => omega)
  (case vu => omega)
  (case vc => exact .here)
  (case vo => simp)
  (case vp => exact fun _ _ => ⟨⟨hb0, hb1⟩, hbits⟩)
  (case vr =>
    intro r1 h1 tk1 T1 F1 N1 hT1 ho1 st1 hO1 hN1
    obtain ⟨R1, x1, y1, rfl, ⟨t1, rfl⟩, ⟨t2, rfl⟩, hR1, hn1'⟩ := hO1
    have hT1R := hT1.off N1 hR1 rfl
    replace N1 := (hN1 R1 _ hR1 hn1').1
    clear hN1 ho1 st1 hR1 hn1'
    simp only [List.nil_append] at N1
    k_steps
    all_goals (try dsimp only)
    rename News _ _ _ _ => N7
    exact hret _ _ _ T1 (Fr.keep (by assumption)) hT1 (fun q hq => N7 q (by simp [hq])) (pair_out N7 (by walk_at "my mem") ⟨_, congrArg (Value.int · _) (by unfold Builtin.bitNot; omega)⟩ ⟨_, congrArg (Value.int · _) (by unfold Builtin.bitNot; omega)⟩))
theorem telT_out {TabF TabF' : List (Addr × Obj) → Prop} {K : Frag} {f : Addr} {dn un dn' un' : Nat} {vs vs' : List Value} {Pre Pre' : Heap → Prop} {Out Out' : Heap → Heap → Value → Prop} (C : TelT TabF TabF' prog w K p loose mean mg mb f dn un vs Pre Out) (e : vs' = vs) (h1 : dn ≤ dn') (h2 : un ≤ un') (h3 : ∀ g, Pre' g → Pre g) (h4 : ∀ g h r, Out g h r → Out' g h r) : TelT TabF TabF' prog w K p loose mean mg mb f dn' un' vs' Pre' Out' := by
  subst e
  intro dp uu gd cn cs a ccd cl outer A₀ base h₀ L m s Q E T B F X Tp hcs hd hu hT NT hpre hret
  exact C dp uu gd cn cs a ccd cl outer A₀ base h₀ L m s Q E T B F X Tp hcs (by omega) (by omega) hT NT (h3 _ hpre) fun r h' tk' T' st hT' hN o => hret r h' tk' T' st hT' hN (h4 _ _ _ o)
theorem pair_as {a b c d : Int} {g h1 : Heap} {r : Value} (e1 : a = c) (e2 : b = d) (h : PairOut (IsI a) (IsI b) g h1 r) : PairOut (IsI c) (IsI d) g h1 r := e1 ▸ e2 ▸ h
theorem bits_of {a : Nat} (h : a < 2 ^ 62) : Builtin.Int.intBits (a : Int) ≤ 64 := Nat.le_trans (bits_le h) (by decide)
theorem fdm_nat (a b : Nat) : (a : Int).fdiv b = ((a / b : Nat) : Int) ∧ (a : Int).fmod b = ((a % b : Nat) : Int) := ⟨fdiv_nat a b, fmod_nat a b⟩
theorem fdm_neg (a b : Nat) (hb : 0 < b) : (-(a : Int) - 1).fdiv b = -((a / b : Nat) : Int) - 1 ∧ (-(a : Int) - 1).fmod b = (b : Int) - ((a % b : Nat) : Int) - 1 := by
  have h1 := Nat.div_add_mod a b
  have h2 := Nat.mod_lt a hb
  have h5 : ((b * (a / b) + a % b : Nat) : Int) = (a : Int) := congrArg _ h1
  rw [Int.natCast_add, Int.natCast_mul] at h5
  rw [Int.fdiv_eq_ediv_of_nonneg _ (by omega), Int.fmod_eq_emod_of_nonneg _ (by omega)]
  have e : (-(a : Int) - 1) = ((b : Int) - ((a % b : Nat) : Int) - 1) + (b : Int) * (-((a / b : Nat) : Int) - 1) := by
    rw [Int.mul_sub, Int.mul_neg]; omega
  constructor
  · rw [e, Int.add_mul_ediv_left _ _ (by omega), Int.ediv_eq_zero_of_lt (by omega) (by omega)]; omega
  · rw [e, Int.add_mul_emod_self_left, Int.emod_eq_of_lt (by omega) (by omega)]
theorem idb_tel (a : Int) (b : Nat) (t u : Tok) : TelT TF TF prog w (hd.heap_39 w.params) p loose mean mg mb 63 110 610 [.int a t, .int (b : Int) u] (fun _ => (0 < b ∧ b < 1073741824) ∧ -(2 ^ 62) ≤ a ∧ a < 2 ^ 62) (fun g h' r => PairOut (IsI (a.fdiv b)) (IsI (a.fmod b)) g h' r) := by
  rcases Int.lt_or_le a 0 with h | h
  · obtain ⟨n, rfl⟩ : ∃ n : Nat, a = -(n : Int) - 1 := ⟨(-a - 1).toNat, by omega⟩
    by_cases hb : 0 < b
    · obtain ⟨e1, e2⟩ := fdm_neg n b hb
      exact telT_out (idn_tel n b t u) rfl (by omega) (by omega) (fun g hp => ⟨hp.1, bits_of (by omega)⟩) fun g h r => pair_as e1.symm e2.symm
    · intro dp uu gd cn cs a ccd cl outer A₀ base h₀ L m s Q E T B F X Tp hcs hd hu hT NT hpre hret
      exact absurd hpre.1.1 hb
  · obtain ⟨n, rfl⟩ : ∃ n : Nat, a = (n : Int) := ⟨a.toNat, by omega⟩
    obtain ⟨e1, e2⟩ := fdm_nat n b
    exact telT_out (idp_tel n b t u) rfl (by omega) (by omega) (fun g hp => ⟨hp.1, bits_of (by omega)⟩) fun g h r => pair_as e1.symm e2.symm
theorem idm_tel (a : Int) (b : Nat) (t u : Tok) : TelT TF TF prog w (hd.heap_39 w.params) p loose mean mg mb 63 120 620 [.int a t, .int (-(b : Int)) u] (fun _ => (0 < b ∧ b < 1073741824) ∧ -(2 ^ 62) < a ∧ a < 2 ^ 62) (fun g h' r => PairOut (IsI ((-a).fdiv b)) (IsI (-((-a).fmod b))) g h' r) := by
  k_with_none
  k_with "my mem" => (first | exact List.mem_cons_self | (refine List.mem_cons_of_mem _ ?_; walk_at "my mem"))
  k_with "my cut" => (first | apply Cut.here | (apply Cut.cons; walk_at "my cut"))
  k_with "call ref" => (k_here; refine stop_here ?_)
  refine' telT_ofL (binds := [(Str.ofString "a", .int a t), (Str.ofString "b", .int (-(b : Int)) u)]) ?ho ?hcd ?hb ?hl ?h1 ?h2 ?h3 ?h4 ?_
  (case ho => k_is)
  (case hcd => k_is)
  (case hb => intro s; exact BindsTo.of_eq rfl)
  (case hl => exact locs rfl)
  (case h1 => decide)
  (case h2 => exact rfl)
  (case h3 => exact rfl)
  (case h4 => exact rfl)
  intro dp uu gd outer A₀ base g L' s Q TT B F N hTL hT X T hd hu hpre hret
  obtain ⟨⟨hb0, hb1⟩, ha0, ha1⟩ := hpre
  k_steps
  all_goals (try (exfalso; omega))
  unfold Stop
  have eb : -(-(b : Int)) = (b : Int) := by omega
  rw [eb]
  refine' telT_call (idb_tel (-a) b _ _) ?vB ?vF X ?vN T rfl ?vd ?vu hT ?vc ?vo ?vp ?vr
  (case vB => k_asm)
  (case vF => k_asm)
  (case vN => k_asm)
  (case vd => omega)
  (case vu => omega)
  (case vc => exact .here)
  (case vo => simp)
  (case vp => exact fun _ _ => ⟨⟨hb0, hb1⟩, by omega, by omega⟩)
  (case vr =>
    intro r1 h1 tk1 T1 F1 N1 hT1 ho1 st1 hO1 hN1
    obtain ⟨R1, x1, y1, rfl, ⟨t1, rfl⟩, ⟨t2, rfl⟩, hR1, hn1'⟩ := hO1
    have hT1R := hT1.off N1 hR1 rfl
    replace N1 := (hN1 R1 _ hR1 hn1').1
    clear hN1 ho1 st1 hR1 hn1'
    simp only [List.nil_append] at N1
    k_steps
    all_goals (try dsimp only)
    rename News _ _ _ _ => N7
    exact hret _ _ _ T1 (Fr.keep (by assumption)) hT1 (fun q hq => N7 q (by simp [hq])) (pair_out N7 (by walk_at "my mem") ⟨_, rfl⟩ ⟨_, rfl⟩))
theorem int_divmod_tel (a b : Int) (t u : Tok) : TelT TF TF prog w (hd.heap_39 w.params) p loose mean mg mb 63 120 620 [.int a t, .int b u] (fun _ => (b ≠ 0 ∧ -1073741824 < b ∧ b < 1073741824) ∧ -(2 ^ 62) < a ∧ a < 2 ^ 62) (fun g h' r => PairOut (IsI (a.fdiv b)) (IsI (a.fmod b)) g h' r) := by
  rcases Int.lt_or_le b 0 with h | h
  · obtain ⟨n, rfl⟩ : ∃ n : Nat, b = -(n : Int) := ⟨(-b).toNat, by omega⟩
    have e1 : a.fdiv (-(n : Int)) = (-a).fdiv n := by rw [← Int.neg_fdiv_neg, Int.neg_neg]
    have e2 : a.fmod (-(n : Int)) = -((-a).fmod n) := by rw [← Int.neg_fmod_neg, Int.neg_neg]
    exact telT_out (idm_tel a n t u) rfl (by omega) (by omega) (fun g hp => ⟨⟨by omega, by omega⟩, hp.2⟩) fun g h r => pair_as e1.symm e2.symm
  · obtain ⟨n, rfl⟩ : ∃ n : Nat, b = (n : Int) := ⟨b.toNat, by omega⟩
    exact telT_out (idb_tel a n t u) rfl (by omega) (by omega) (fun g hp => ⟨⟨by omega, by omega⟩, by omega, by omega⟩) fun g h r h => h
end
end Mine
namespace Mine
open PySem PySem.W PySem.Spec PySem.Calls PyProof.Rows
open Builtin Builtin.Str StrLaws

def ofL (l : List Nat) : PySem.Str := ⟨l.toArray⟩
theorem ofL_list (l : List Nat) : (ofL l).cps.toList = l := rfl
theorem ofL_of (x : PySem.Str) : ofL x.cps.toList = x := by cases x; simp [ofL]
theorem str_inj {x y : PySem.Str} (h : x.cps.toList = y.cps.toList) : x = y := by rw [← ofL_of x, ← ofL_of y, h]
theorem len_list (x : PySem.Str) : x.cps.toList.length = x.length := by simp [PySem.Str.length]
theorem chainG_same {s sub : PySem.Str} {hi : Nat} : ∀ {a : Nat} {l l' : List Nat} {f f' : Nat}, ChainG s sub hi a l f → (∀ k, f ≤ k → ¬ At s sub hi k) → ChainG s sub hi a l' f' → (∀ k, f' ≤ k → ¬ At s sub hi k) → l = l'
  | a, [], [], f, f', _, _, _, _ => rfl
  | a, [], c :: r, f, f', h, hn, h', _ => by
    have e : f = a := h
    subst e
    exact absurd h'.2.1 (hn c h'.1)
  | a, c :: r, [], f, f', h, _, h', hn' => by
    have e : f' = a := h'
    subst e
    exact absurd h.2.1 (hn' c h.1)
  | a, c :: r, c' :: r', f, f', h, hn, h', hn' => by
    have e : c = c' := by
      rcases Nat.lt_trichotomy c c' with q | q | q
      · exact absurd h.2.1 (h'.2.2.1 c h.1 q)
      · exact q
      · exact absurd h'.2.1 (h.2.2.1 c' h'.1 q)
    subst e
    rw [chainG_same h.2.2.2 hn h'.2.2.2 hn']
/-- pieces, a mark between them -/
def flat (y : List Nat) : List (List Nat) → List Nat
  | [] => []
  | [p] => p
  | p :: q :: r => p ++ y ++ flat y (q :: r)
def cutsOf (w : Nat) : Nat → List (List Nat) → List Nat
  | _, [] => []
  | _, [_] => []
  | a, p :: q :: r => (a + p.length) :: cutsOf w (a + p.length + w) (q :: r)
def lastOf (w : Nat) : Nat → List (List Nat) → Nat
  | a, [] => a
  | a, [_] => a
  | a, p :: q :: r => lastOf w (a + p.length + w) (q :: r)
theorem at_iff {x y : PySem.Str} {k : Nat} : At x y x.length k ↔ (x.cps.toList.drop k).take y.length = y.cps.toList ∧ k + y.length ≤ x.length := by
  unfold At
  rw [subAt_eq]
  simp [and_comm]
theorem not_at {x y : PySem.Str} {k c : Nat} {y' : List Nat} (hy : y.cps.toList = c :: y') (h : x.cps.toList[k]? ≠ some c) : ¬ At x y x.length k := by
  rw [at_iff, hy]
  rintro ⟨h1, _⟩
  have hl : y.length = y'.length + 1 := by rw [← len_list, hy]; simp
  rw [hl] at h1
  cases e : x.cps.toList.drop k with
  | nil => rw [e] at h1; cases h1
  | cons d r =>
    rw [e] at h1
    simp only [List.take_succ_cons, List.cons.injEq] at h1
    apply h
    have := congrArg List.head? e
    rw [List.head?_drop] at this
    rw [this, List.head?_cons, h1.1]
theorem chain_flat {x y : PySem.Str} {c : Nat} {y' : List Nat} (hy : y.cps.toList = c :: y') : ∀ (ps : List (List Nat)) (a : Nat), (∀ p ∈ ps, c ∉ p) → ps ≠ [] → x.cps.toList.drop a = flat y.cps.toList ps →
    ChainG x y x.length a (cutsOf y.length a ps) (lastOf y.length a ps) ∧ (∀ k, lastOf y.length a ps ≤ k → ¬ At x y x.length k) ∧ (a ≤ x.length → partsFrom x y.length a (cutsOf y.length a ps) = ps.map ofL)
  | [], a, _, h, _ => absurd rfl h
  | [p], a, hf, _, hd => by
    have hd' : x.cps.toList.drop a = p := hd
    refine ⟨rfl, fun k hk => not_at hy ?_, fun ha => ?_⟩
    · intro h
      have hk' : a ≤ k := hk
      have : (x.cps.toList.drop a)[k - a]? = some c := by rw [List.getElem?_drop]; have : a + (k - a) = k := by omega
                                                          rw [this]; exact h
      rw [hd'] at this
      exact hf p (by simp) (List.mem_of_getElem? this)
    · show [strSub x a x.length] = [ofL p]
      congr 1
      apply str_inj
      rw [strSub_toList, ofL_list, hd']
      have := congrArg List.length hd'
      rw [List.length_drop, len_list] at this
      exact List.take_of_length_le (by omega)
  | p :: q :: r, a, hf, _, hd => by
    have hd' : x.cps.toList.drop a = p ++ (y.cps.toList ++ flat y.cps.toList (q :: r)) := by rw [hd]; show p ++ y.cps.toList ++ _ = _; rw [List.append_assoc]
    have hlen : x.length - a = p.length + (y.length + (flat y.cps.toList (q :: r)).length) := by
      have := congrArg List.length hd'
      rw [List.length_drop, len_list, List.length_append, List.length_append, len_list] at this
      exact this
    have hyl : y.length = y'.length + 1 := by rw [← len_list, hy]; simp
    have h1 : x.cps.toList.drop (a + p.length) = y.cps.toList ++ flat y.cps.toList (q :: r) := by
      rw [← List.drop_drop, hd', List.drop_left]
    have h2 : x.cps.toList.drop (a + p.length + y.length) = flat y.cps.toList (q :: r) := by
      rw [← List.drop_drop, h1, ← len_list y, List.drop_left]
    obtain ⟨i1, i2, i3⟩ := chain_flat hy (q :: r) (a + p.length + y.length) (fun z hz => hf z (List.mem_cons_of_mem _ hz)) (by simp) h2
    refine ⟨⟨by omega, ?_, ?_, i1⟩, i2, fun ha => ?_⟩
    · rw [at_iff, h1, ← len_list y, List.take_left]
      exact ⟨rfl, by rw [len_list]; omega⟩
    · intro k hk1 hk2
      refine not_at hy fun h => ?_
      have : (x.cps.toList.drop a)[k - a]? = some c := by rw [List.getElem?_drop]; have : a + (k - a) = k := by omega
                                                          rw [this]; exact h
      rw [hd', List.getElem?_append_left (by omega)] at this
      exact hf p (by simp) (List.mem_of_getElem? this)
    · show strSub x a (a + p.length) :: partsFrom x y.length (a + p.length + y.length) _ = ofL p :: (q :: r).map ofL
      rw [i3 (by omega)]
      congr 1
      apply str_inj
      rw [strSub_toList, ofL_list, hd']
      have : a + p.length - a = p.length := by omega
      rw [this, List.take_left]
theorem kind_small {x : PySem.Str} (h : ∀ c ∈ x.cps.toList, c < 256) : Builtin.Str.strKind x = 1 := by
  unfold Builtin.Str.strKind
  rw [if_pos]
  rw [← Array.all_toList, List.all_eq_true]
  exact fun c hc => decide_eq_true (h c hc)
/-- a text that is cut at its marks -/
theorem split_flat {x y : PySem.Str} {c : Nat} {y' : List Nat} {p q : List Nat} {r : List (List Nat)} (hy : y.cps.toList = c :: y') (hk : Builtin.Str.strKind y = 1) (hf : ∀ z ∈ p :: q :: r, c ∉ z) (hx : x.cps.toList = flat y.cps.toList (p :: q :: r)) :
    Txt.split x y = (p :: q :: r).map ofL ∧ (occurrences x y 0 x.length 1).isEmpty = false := by
  have hyl : y.length = y'.length + 1 := by rw [← len_list, hy]; simp
  obtain ⟨f, hG, hn⟩ := occ_tight x y (by omega)
  obtain ⟨i1, i2, i3⟩ := chain_flat hy (p :: q :: r) 0 hf (by simp) (by rw [List.drop_zero]; exact hx)
  have e := chainG_same hG hn i1 i2
  have h1 : (occurrences x y 0 x.length 1).isEmpty = false := by
    rw [← Mine.occ_none (l := x.length + 1) (by omega) (by omega), e]
    rfl
  refine ⟨?_, h1⟩
  rw [split_cut h1 hk, partsBetween_eq, e]
  exact i3 (Nat.zero_le _)
end Mine
namespace Mine
open PySem PySem.W PySem.Spec PySem.Calls PyProof.Rows
open Builtin Builtin.Str StrLaws

/-- the pieces stand in l, one behind the other -/
inductive Has : List (List Nat) → List Nat → Prop
  | nil {l : List Nat} : Has [] l
  | cons {u v r : List Nat} {vs : List (List Nat)} : Has vs r → Has (v :: vs) (u ++ (v ++ r))
theorem Has.weak {vs : List (List Nat)} {r : List Nat} (h : Has vs r) (u : List Nat) : Has vs (u ++ r) := by
  cases h with
  | nil => exact .nil
  | @cons u' v r' vs' h' =>
    rw [← List.append_assoc]
    exact .cons h'
theorem Has.inv {v : List Nat} {vs : List (List Nat)} {l : List Nat} (h : Has (v :: vs) l) : ∃ u r, l = u ++ (v ++ r) ∧ Has vs r := by
  cases h with
  | cons h' => exact ⟨_, _, rfl, h'⟩
theorem Has.empty {vs : List (List Nat)} {l : List Nat} : Has ([] :: vs) l ↔ Has vs l := by
  constructor
  · intro h
    obtain ⟨u, r, rfl, h2⟩ := h.inv
    exact h2.weak u
  · intro h
    exact Has.cons (u := []) (v := []) h
theorem Has.last {l : List Nat} : ∀ {vs : List (List Nat)}, Has (vs ++ [[]]) l ↔ Has vs l := by
  intro vs
  induction vs generalizing l with
  | nil => exact Has.empty
  | cons v vs ih =>
    constructor
    · intro h
      obtain ⟨u, r, rfl, h2⟩ := Has.inv h
      exact .cons (ih.mp h2)
    · intro h
      obtain ⟨u, r, rfl, h2⟩ := Has.inv h
      exact .cons (ih.mpr h2)
theorem occ_head_hi (x y : PySem.Str) (lo hi limit : Nat) (hl : 1 ≤ limit) :
    (occurrences x y lo hi limit = [] ∧ ∀ i, lo ≤ i → ¬ At x y hi i) ∨
    ∃ i r, occurrences x y lo hi limit = i :: r ∧ lo ≤ i ∧ At x y hi i ∧ ∀ k, lo ≤ k → k < i → ¬ At x y hi k := by
  rw [occ_eq]
  rcases occ_first x y hi limit hl (List.range' lo (hi + 1 - lo)) lo (fun i hi => by have := List.mem_range'_1.mp hi; omega) with ⟨h0, hn⟩ | ⟨pre, a, post, e, h0, ha, hn⟩
  · refine .inl ⟨by rw [h0], fun i hlo hi => ?_⟩
    exact hn i (by have := hi.1; rw [List.mem_range'_1]; omega) hi
  · have hs := range'_split_from e
    refine .inr ⟨a, ((forIn (List.range' lo (hi + 1 - lo)) ((#[] : Array Nat), lo) (occBody x y hi limit)).run.fst.toList).tail, ?_, hs.1, ha, fun k hk0 hk => hn k (hs.2 k hk0 hk)⟩
    generalize (forIn (List.range' lo (hi + 1 - lo)) ((#[] : Array Nat), lo) (occBody x y hi limit)).run.fst = arr at h0
    have h1 : arr.toList[0]? = some a := by simpa using h0
    cases hL : arr.toList with
    | nil => rw [hL] at h1; cases h1
    | cons b t => rw [hL] at h1; simp at h1; rw [h1]; rfl
theorem fromIndex_nat (n k : Nat) : fromIndex n (k : Int) = k := by
  unfold fromIndex
  rw [if_neg (by omega)]
  omega
theorem find4_spec (x y : PySem.Str) (sp ep : Nat) (hep : ep ≤ x.length) :
    (find4 x y sp ep = -1 ∧ ∀ k, sp ≤ k → ¬ At x y ep k) ∨ ∃ k : Nat, find4 x y sp ep = k ∧ sp ≤ k ∧ At x y ep k ∧ ∀ j, sp ≤ j → j < k → ¬ At x y ep j := by
  unfold find4
  rw [fromIndex_nat, fromIndex_nat, Nat.min_eq_left hep]
  rcases occ_head_hi x y sp ep 1 (Nat.le_refl _) with ⟨e, h⟩ | ⟨i, r, e, h1, h2, h3⟩
  · rw [e]; exact .inl ⟨rfl, h⟩
  · rw [e]; exact .inr ⟨i, rfl, h1, h2, h3⟩
theorem at_win {x y : PySem.Str} {ep k : Nat} (hep : ep ≤ x.length) : At x y ep k ↔ k ≤ ep ∧ ∃ r, (x.cps.toList.take ep).drop k = y.cps.toList ++ r := by
  unfold At
  rw [subAt_eq]
  have hl : x.cps.toList.length = x.length := len_list x
  have hy : y.cps.toList.length = y.length := len_list y
  constructor
  · rintro ⟨h1, h2⟩
    refine ⟨by omega, (x.cps.toList.take ep).drop (k + y.length), ?_⟩
    have h3 := eq_of_beq h2
    rw [List.drop_take]
    have e1 : (x.cps.toList.drop k).take (ep - k) = ((x.cps.toList.drop k).take y.length) ++ ((x.cps.toList.drop k).drop y.length).take (ep - k - y.length) := by
      have : ep - k = y.length + (ep - k - y.length) := by omega
      conv => lhs; rw [this]
      rw [List.take_add]
    rw [e1, h3, List.drop_take, List.drop_drop]
    congr 2
    omega
  · rintro ⟨h1, r, h2⟩
    have h3 := congrArg List.length h2
    rw [List.length_drop, List.length_take, List.length_append, hl, hy] at h3
    refine ⟨by omega, ?_⟩
    rw [beq_iff_eq]
    have e2 : (x.cps.toList.drop k).take y.length = ((x.cps.toList.take ep).drop k).take y.length := by
      rw [List.drop_take, List.take_take]
      congr 1
      omega
    rw [e2, h2, ← hy, List.take_left]
theorem ellLoop_iff {x : PySem.Str} {ep : Nat} (hep : ep ≤ x.length) : ∀ (vs : List PySem.Str) (sp : Nat), sp ≤ ep → (ellLoop x (ep : Int) vs (sp : Int) = true ↔ Has (vs.map fun v => v.cps.toList) ((x.cps.toList.take ep).drop sp))
  | [], sp, _ => ⟨fun _ => .nil, fun _ => rfl⟩
  | v :: vs, sp, hs => by
    have hx : x.cps.toList.length = x.length := len_list x
    have hv : v.cps.toList.length = v.length := len_list v
    show (if find4 x v sp ep < 0 then false else ellLoop x ep vs (find4 x v sp ep + v.length)) = true ↔ Has (v.cps.toList :: vs.map fun v => v.cps.toList) _
    rcases find4_spec x v sp ep hep with ⟨e, h⟩ | ⟨k, e, h1, h2, h3⟩
    · rw [e, if_pos (by decide)]
      constructor
      · intro q; cases q
      · intro q
        obtain ⟨u, r, e1, _⟩ := q.inv
        refine absurd ((at_win hep).mpr ⟨?_, r, ?_⟩) (h (sp + u.length) (by omega))
        · have := congrArg List.length e1
          simp only [List.length_drop, List.length_take, List.length_append] at this
          omega
        · rw [← List.drop_drop, e1, List.drop_left]
    · rw [e, if_neg (by omega)]
      obtain ⟨h4, r, h5⟩ := (at_win hep).mp h2
      have h6 : k + v.length ≤ ep := h2.1
      have e2 : (k : Int) + (v.length : Int) = ((k + v.length : Nat) : Int) := by omega
      rw [e2, ellLoop_iff hep vs (k + v.length) h6]
      have e3 : (x.cps.toList.take ep).drop (k + v.length) = r := by rw [← List.drop_drop, h5, ← hv, List.drop_left]
      rw [e3]
      have e4 : (x.cps.toList.take ep).drop sp = ((x.cps.toList.take ep).drop sp).take (k - sp) ++ (v.cps.toList ++ r) := by
        have : (x.cps.toList.take ep).drop k = ((x.cps.toList.take ep).drop sp).drop (k - sp) := by rw [List.drop_drop]; congr 1; omega
        rw [← h5, this, List.take_append_drop]
      constructor
      · intro q
        rw [e4]
        exact .cons q
      · intro q
        obtain ⟨u, r', e5, q'⟩ := q.inv
        have h7 : k ≤ sp + u.length := by
          rcases Nat.lt_or_ge (sp + u.length) k with c | c
          · refine absurd ((at_win hep).mpr ⟨by omega, r', ?_⟩) (h3 (sp + u.length) (by omega) c)
            rw [← List.drop_drop, e5, List.drop_left]
          · exact c
        have e6 : r = (r.take (sp + u.length - k)) ++ r' := by
          have e7 : r' = r.drop (sp + u.length - k) := by
            have a1 : ((x.cps.toList.take ep).drop sp).drop (u.length + v.length) = r' := by rw [e5, ← List.append_assoc, ← hv, ← List.length_append, List.drop_left]
            rw [← a1, ← e3, List.drop_drop, List.drop_drop]
            congr 1
            omega
          rw [e7, List.take_append_drop]
        rw [e6]
        exact q'.weak _
theorem starts_iff {x y : PySem.Str} : Txt.startswith x y = true ↔ ∃ r, x.cps.toList = y.cps.toList ++ r := by
  unfold Txt.startswith
  rw [Bool.and_eq_true, decide_eq_true_eq, subAt_eq, beq_iff_eq, List.drop_zero]
  have hx := len_list x
  have hy := len_list y
  constructor
  · rintro ⟨_, h⟩
    exact ⟨x.cps.toList.drop y.length, by rw [← h]; exact (List.take_append_drop _ _).symm⟩
  · rintro ⟨r, h⟩
    refine ⟨?_, by rw [h, ← hy, List.take_left]⟩
    have := congrArg List.length h
    rw [List.length_append] at this
    omega
theorem ends_iff {x y : PySem.Str} : Txt.endswith x y = true ↔ ∃ r, x.cps.toList = r ++ y.cps.toList := by
  unfold Txt.endswith
  rw [Bool.and_eq_true, decide_eq_true_eq, subAt_eq, beq_iff_eq]
  have hx := len_list x
  have hy := len_list y
  constructor
  · rintro ⟨h0, h⟩
    refine ⟨x.cps.toList.take (x.length - y.length), ?_⟩
    rw [List.take_of_length_le (by rw [List.length_drop]; omega)] at h
    rw [← h]
    exact (List.take_append_drop _ _).symm
  · rintro ⟨r, h⟩
    have h1 := congrArg List.length h
    rw [List.length_append] at h1
    refine ⟨by omega, ?_⟩
    have : x.length - y.length = r.length := by omega
    rw [this, h, List.drop_left]
    exact List.take_of_length_le (by omega)
theorem ellEnd_iff {x : PySem.Str} {sp ep : Nat} {ws : List PySem.Str} (hep : ep ≤ x.length) : ellEnd x sp ep ws = true ↔ sp ≤ ep ∧ Has (ws.map fun v => v.cps.toList) ((x.cps.toList.take ep).drop sp) := by
  unfold ellEnd
  by_cases h : sp ≤ ep
  · rw [if_neg (by omega), ellLoop_iff hep ws sp h]
    simp [h]
  · rw [if_pos (by omega)]
    simp [h]
theorem nil_of_len {y : PySem.Str} (h : y.length = 0) : y.cps.toList = [] := List.length_eq_zero_iff.mp (by rw [len_list]; exact h)
theorem ellLast_iff {x z : PySem.Str} {sp : Nat} {ws : List PySem.Str} (hsp : sp ≤ x.length) : ellLast x sp ws z = true ↔ ∃ m, x.cps.toList.drop sp = m ++ z.cps.toList ∧ Has (ws.map fun v => v.cps.toList) m := by
  have hx := len_list x
  have hz := len_list z
  unfold ellLast
  by_cases h : z.length = 0
  · rw [if_pos h, ellEnd_iff (Nat.le_refl _), List.map_append, List.map_cons, List.map_nil, nil_of_len h, Has.last, ← hx, List.take_length]
    simp only [List.append_nil]
    constructor
    · rintro ⟨_, h2⟩
      exact ⟨_, rfl, h2⟩
    · rintro ⟨m, e, h2⟩
      exact ⟨by omega, e ▸ h2⟩
  · rw [if_neg h]
    by_cases he : Txt.endswith x z = true
    · rw [if_pos he]
      obtain ⟨r, hr⟩ := ends_iff.mp he
      have h1 := congrArg List.length hr
      rw [List.length_append] at h1
      have e1 : (x.length : Int) - (z.length : Int) = ((r.length : Nat) : Int) := by omega
      rw [e1, ellEnd_iff (by omega)]
      have e2 : x.cps.toList.take r.length = r := by rw [hr, List.take_left]
      rw [e2]
      constructor
      · rintro ⟨h2, h3⟩
        refine ⟨_, ?_, h3⟩
        rw [hr, List.drop_append_of_le_length h2]
      · rintro ⟨m, e, h3⟩
        have h4 := congrArg List.length e
        rw [List.length_append, List.length_drop] at h4
        have h2 : sp ≤ r.length := by omega
        refine ⟨h2, ?_⟩
        rw [hr, List.drop_append_of_le_length h2] at e
        rw [(List.append_inj_left' e rfl)]
        exact h3
    · rw [if_neg he]
      constructor
      · intro q; cases q
      · rintro ⟨m, e, _⟩
        refine absurd (ends_iff.mpr ⟨x.cps.toList.take sp ++ m, ?_⟩) he
        rw [List.append_assoc, ← e, List.take_append_drop]
theorem ellDots_iff {x a z : PySem.Str} {mid : List PySem.Str} : ellDots x a mid z = true ↔ ∃ m, x.cps.toList = a.cps.toList ++ (m ++ z.cps.toList) ∧ Has (mid.map fun v => v.cps.toList) m := by
  have hx := len_list x
  have ha := len_list a
  unfold ellDots
  by_cases h : a.length = 0
  · rw [if_pos h]
    have := ellLast_iff (x := x) (z := z) (sp := 0) (ws := a :: mid) (Nat.zero_le _)
    rw [show ((0 : Nat) : Int) = 0 from rfl] at this
    rw [this, List.map_cons, nil_of_len h, List.drop_zero]
    simp only [List.nil_append, Has.empty]
  · rw [if_neg h]
    by_cases hs : Txt.startswith x a = true
    · rw [if_pos hs]
      obtain ⟨r, hr⟩ := starts_iff.mp hs
      have h1 := congrArg List.length hr
      rw [List.length_append] at h1
      rw [ellLast_iff (by omega)]
      have e : x.cps.toList.drop a.length = r := by rw [hr, ← ha, List.drop_left]
      rw [e]
      constructor
      · rintro ⟨m, e1, h2⟩
        exact ⟨m, by rw [hr, e1], h2⟩
      · rintro ⟨m, e1, h2⟩
        rw [hr] at e1
        exact ⟨m, List.append_cancel_left e1, h2⟩
    · rw [if_neg hs]
      constructor
      · intro q; cases q
      · rintro ⟨m, e, _⟩
        exact absurd (starts_iff.mpr ⟨_, e⟩) hs
theorem dots_list : dots.cps.toList = 46 :: [46, 46] := by decide +kernel
/-- the match of a text with marks -/
theorem ell_iff {x y : PySem.Str} {a z : List Nat} {mid : List (List Nat)} (hx : x.cps.toList = flat [46, 46, 46] (a :: (mid ++ [z]))) (hf : ∀ p ∈ a :: (mid ++ [z]), 46 ∉ p) :
    ellM x y = true ↔ ∃ m, y.cps.toList = a ++ (m ++ z) ∧ Has mid m := by
  have hk : Builtin.Str.strKind dots = 1 := by decide +kernel
  obtain ⟨p, q, r, e⟩ : ∃ p q r, a :: (mid ++ [z]) = p :: q :: r := by
    cases mid with
    | nil => exact ⟨_, _, _, rfl⟩
    | cons b c => exact ⟨_, _, _, rfl⟩
  rw [e] at hx hf
  obtain ⟨h1, h2⟩ := split_flat (x := x) (y := dots) dots_list hk hf (by rw [dots_list]; exact hx)
  rw [← e, List.map_cons, List.map_append, List.map_cons, List.map_nil] at h1
  rw [ellM_of h2 h1, ellDots_iff, List.map_map]
  have : ((fun v : PySem.Str => v.cps.toList) ∘ ofL) = _root_.id := by funext l; rfl
  rw [this, List.map_id]
  exact Iff.rfl
theorem occ_free {x : PySem.Str} (h : 46 ∉ x.cps.toList) : (occurrences x dots 0 x.length 1).isEmpty = true := by
  rcases occ_head x dots 1 (Nat.le_refl _) with ⟨e, _⟩ | ⟨i, r, _, h1, _⟩
  · rw [e]; rfl
  · exact absurd h1 (not_at dots_list fun q => h (List.mem_of_getElem? q))
theorem ell_plain {x y : PySem.Str} (h : 46 ∉ x.cps.toList) : ellM x y = (x == y) := ellM_same (occ_free h)
end Mine
namespace Mine
open PySem PySem.W PySem.Spec PySem.Calls PyProof.Rows
open Builtin Builtin.Str StrLaws

theorem slice_to {x : PySem.Str} {k : Int} (h0 : 0 ≤ k) (h1 : k ≤ x.length) : (Txt.slice x none (some k)).cps.toList = x.cps.toList.take k.toNat := by
  have := sliceText_to (x := x) (j := k) ⟨h0, by rw [len_list]; exact h1⟩
  show (sliceText x none (some k)).cps.toList = _
  rw [this]
  simp
theorem slice_from {x : PySem.Str} {k : Int} (h0 : 0 ≤ k) (h1 : k ≤ x.length) : (Txt.slice x (some k) none).cps.toList = x.cps.toList.drop k.toNat := by
  have := sliceText_from (x := x) (i := k) ⟨h0, by rw [len_list]; exact h1⟩
  show (sliceText x (some k) none).cps.toList = _
  rw [this]
  show (x.cps.toList.drop k.toNat).take _ = _
  exact List.take_of_length_le (by rw [List.length_drop]; omega)
theorem slice_mid {x : PySem.Str} {i j : Int} (h0 : 0 ≤ i) (h1 : i ≤ j) (h2 : j ≤ x.length) : (Txt.slice x (some i) (some j)).cps.toList = (x.cps.toList.drop i.toNat).take (j - i).toNat := by
  have := sliceText_plain (x := x) (i := i) (j := j) ⟨h0, h1, by rw [len_list]; exact h2⟩
  show (sliceText x (some i) (some j)).cps.toList = _
  rw [this]
theorem slice_init {x : PySem.Str} (h : 1 ≤ x.length) : (Txt.slice x none (some (-1))).cps.toList = x.cps.toList.take (x.length - 1) := by
  have := sliceText_to_neg (x := x) (j := -1) (by omega) (by omega)
  show (sliceText x none (some (-1))).cps.toList = _
  rw [this]
  show (x.cps.toList.drop 0).take _ = _
  rw [List.drop_zero]
  congr 1
  omega
theorem item_at {x : PySem.Str} {k : Int} {c : Nat} (h0 : 0 ≤ k) (h : x.cps.toList[k.toNat]? = some c) : Txt.item x k = ⟨#[c]⟩ := by
  obtain ⟨j, rfl⟩ := Int.eq_ofNat_of_zero_le h0
  have hj : j < x.length := by
    have := (List.getElem?_eq_some_iff.mp h).1
    rw [len_list] at this
    omega
  unfold Txt.item Txt.charAt
  have e : seqIndex? (j : Int) x.length = some j := by
    unfold seqIndex?
    simp
    omega
  rw [e]
  show (⟨#[(x.cps[j]?).getD 0]⟩ : PySem.Str) = _
  have h2 : x.cps[j]? = some c := by simpa using h
  rw [h2]
  rfl
theorem chain_count {x : PySem.Str} {c : Nat} : ∀ (l : List Nat) (a f : Nat), ChainG x ⟨#[c]⟩ x.length a l f → (∀ k, f ≤ k → ¬ At x ⟨#[c]⟩ x.length k) → l.length = (x.cps.toList.drop a).count c
  | [], a, f, h, hn => by
    have e : f = a := h
    subst e
    symm
    rw [List.length_nil, List.count_eq_zero]
    intro hm
    obtain ⟨j, hj⟩ := List.getElem?_of_mem hm
    rw [List.getElem?_drop] at hj
    exact hn (f + j) (by omega) ((subAt_one x c (f + j)).mpr hj)
  | d :: r, a, f, h, hn => by
    have ih := chain_count r _ f h.2.2.2 hn
    have hd := (subAt_one x c d).mp h.2.1
    have h1 : d < x.cps.toList.length := (List.getElem?_eq_some_iff.mp hd).1
    have e1 : x.cps.toList.drop a = (x.cps.toList.drop a).take (d - a) ++ x.cps.toList.drop d := by
      conv => lhs; rw [← List.take_append_drop (d - a) (x.cps.toList.drop a)]
      rw [List.drop_drop]
      congr 2
      have := h.1
      omega
    have e2 : x.cps.toList.drop d = c :: x.cps.toList.drop (d + 1) := by
      rw [List.drop_eq_getElem_cons h1]
      rw [List.getElem?_eq_getElem h1] at hd
      rw [Option.some.inj hd]
    rw [List.length_cons, ih, e1, e2, List.count_append, List.count_cons_self]
    have e3 : ((x.cps.toList.drop a).take (d - a)).count c = 0 := by
      rw [List.count_eq_zero]
      intro hm
      obtain ⟨j, hj⟩ := List.getElem?_of_mem hm
      have hlt : j < d - a := by
        have h1 := (List.getElem?_eq_some_iff.mp hj).1
        rw [List.length_take] at h1
        omega
      rw [List.getElem?_take_of_lt hlt, List.getElem?_drop] at hj
      exact h.2.2.1 (a + j) (by omega) (by omega) ((subAt_one x c (a + j)).mpr hj)
    rw [e3, Nat.zero_add]
    rfl
theorem count_char (x : PySem.Str) (c : Nat) : Txt.count x ⟨#[c]⟩ = ((x.cps.toList.count c : Nat) : Int) := by
  obtain ⟨f, hG, hn⟩ := occ_tight x ⟨#[c]⟩ (Nat.le_refl 1)
  unfold Txt.count
  rw [chain_count _ 0 f hG hn, List.drop_zero]
theorem dots_s : (Str.ofString "...").cps.toList = [46, 46, 46] := by decide +kernel
theorem bool_iff {a b : Bool} (h : a = true ↔ b = true) : a = b := by cases a <;> cases b <;> simp_all
theorem all_of_shift {c : Nat} : ∀ {l : List Nat} {m : List Nat}, c :: l = l ++ m → (c :: l).count c = (c :: l).length
  | [], m, _ => by simp
  | d :: l, m, h => by
    rw [List.cons_append, List.cons.injEq] at h
    obtain ⟨rfl, h⟩ := h
    have := all_of_shift (l := l) h
    rw [List.count_cons_self, this, List.length_cons]
    rfl
theorem rep_of_count {c : Nat} {l : List Nat} (h : l.count c = l.length) : l = List.replicate l.length c := by
  rw [List.eq_replicate_iff]
  exact ⟨rfl, fun b hb => (List.count_eq_length.mp h b hb).symm⟩
theorem alone_free {x : PySem.Str} {k : Int} (h46 : 46 ∉ x.cps.toList) : Alone x k := by
  have hl := len_list x
  have hpos : x ≠ Str.ofString "" → 1 ≤ x.length := fun h => by
    rcases Nat.eq_zero_or_pos x.length with e | e
    · exact absurd (str_inj (by rw [nil_of_len e]; decide +kernel)) h
    · exact e
  have hk : x ≠ Str.ofString "" → 0 ≤ k.fmod x.length ∧ k.fmod x.length < x.length := fun h => by
    have := hpos h
    rw [Int.fmod_eq_emod_of_nonneg _ (by omega)]
    exact ⟨Int.emod_nonneg _ (by omega), Int.emod_lt_of_pos _ (by omega)⟩
  have ht : ∀ j, 46 ∉ x.cps.toList.take j := fun j h => h46 (List.mem_of_mem_take h)
  have hd : ∀ j, 46 ∉ x.cps.toList.drop j := fun j h => h46 (List.mem_of_mem_drop h)
  refine ⟨?_, ?_, ?_, ?_, ?_, ?_, ?_⟩
  · rw [ell_plain h46]; simp
  · intro e
    refine (ell_iff (a := []) (mid := []) (z := []) (by rw [dots_s]; rfl) (by simp)).mpr ⟨x.cps.toList, by simp, .nil⟩
  · intro e
    obtain ⟨h0, h1⟩ := hk e
    generalize k.fmod x.length = q at *
    refine (ell_iff (a := x.cps.toList.take q.toNat) (mid := []) (z := x.cps.toList.drop q.toNat) ?_ ?_).mpr ⟨[], by simp, .nil⟩
    · simp only [Str.cps_append, Array.toList_append, slice_to h0 (Int.le_of_lt h1), slice_from h0 (Int.le_of_lt h1), dots_s]; rfl
    · intro p hp
      simp only [List.nil_append, List.mem_cons, List.not_mem_nil, or_false] at hp
      rcases hp with rfl | rfl
      · exact ht _
      · exact hd _
  · intro e
    obtain ⟨h0, h1⟩ := hk e
    generalize k.fmod x.length = q at *
    refine Bool.eq_false_iff.mpr fun c => ?_
    have hxx : (Txt.slice x none (some (q + 1)) ++ Str.ofString "..." ++ Txt.slice x (some q) none).cps.toList = flat [46, 46, 46] (x.cps.toList.take (q + 1).toNat :: ([] ++ [x.cps.toList.drop q.toNat])) := by
      simp only [Str.cps_append, Array.toList_append, slice_to (show 0 ≤ q + 1 by omega) (show q + 1 ≤ x.length by omega), slice_from h0 (Int.le_of_lt h1), dots_s]; rfl
    have hff : ∀ p ∈ x.cps.toList.take (q + 1).toNat :: ([] ++ [x.cps.toList.drop q.toNat]), 46 ∉ p := by
      intro p hp
      simp only [List.nil_append, List.mem_cons, List.not_mem_nil, or_false] at hp
      rcases hp with rfl | rfl
      · exact ht _
      · exact hd _
    obtain ⟨m, h2, _⟩ := (ell_iff hxx hff).mp c
    have h3 := congrArg List.length h2
    simp only [List.length_append, List.length_take, List.length_drop] at h3
    omega
  · intro e
    obtain ⟨h0, h1⟩ := hk e
    generalize k.fmod x.length = q at *
    refine Bool.eq_false_iff.mpr fun c => ?_
    have h5 : q.toNat < x.cps.toList.length := by omega
    have hc : x.cps.toList[q.toNat]? = some (x.cps.toList[q.toNat]'h5) := List.getElem?_eq_getElem h5
    have hxx : (Txt.slice x none (some q) ++ Str.ofString "..." ++ Txt.item x q ++ Str.ofString "..." ++ Txt.slice x (some q) none).cps.toList = flat [46, 46, 46] (x.cps.toList.take q.toNat :: ([[x.cps.toList[q.toNat]'h5]] ++ [x.cps.toList.drop q.toNat])) := by
      simp only [Str.cps_append, Array.toList_append, slice_to h0 (Int.le_of_lt h1), slice_from h0 (Int.le_of_lt h1), dots_s, item_at h0 hc]
      simp [flat]
    have hff : ∀ p ∈ x.cps.toList.take q.toNat :: ([[x.cps.toList[q.toNat]'h5]] ++ [x.cps.toList.drop q.toNat]), 46 ∉ p := by
      intro p hp
      simp only [List.cons_append, List.nil_append, List.mem_cons, List.not_mem_nil, or_false] at hp
      rcases hp with rfl | rfl | rfl
      · exact ht _
      · intro hm
        rw [List.mem_singleton] at hm
        exact h46 (hm ▸ List.getElem_mem h5)
      · exact hd _
    obtain ⟨m, h2, h3⟩ := (ell_iff hxx hff).mp c
    obtain ⟨u, r, rfl, _⟩ := h3.inv
    have h3 := congrArg List.length h2
    simp only [List.length_append, List.length_take, List.length_drop, List.length_cons, List.length_nil] at h3
    omega
  · intro e
    have h1 := hpos e
    obtain ⟨c, l, hx⟩ : ∃ c l, x.cps.toList = c :: l := by
      cases hx : x.cps.toList with
      | nil => rw [hx] at hl; simp at hl; omega
      | cons c l => exact ⟨c, l, rfl⟩
    rw [item_at (c := c) (by decide) (by rw [hx]; rfl), count_char]
    apply bool_iff
    rw [ell_iff (a := x.cps.toList.drop 1) (mid := []) (z := []) (by simp only [Str.cps_append, Array.toList_append, slice_from (show (0 : Int) ≤ 1 by decide) (show (1 : Int) ≤ x.length by omega), dots_s]; simp [flat]) (by intro p hp; simp only [List.nil_append, List.mem_cons, List.not_mem_nil, or_false] at hp; rcases hp with rfl | rfl; exact hd _; simp)]
    rw [beq_iff_eq, ← hl, hx, List.drop_succ_cons, List.drop_zero]
    constructor
    · rintro ⟨m, h2, _⟩
      rw [List.append_nil] at h2
      exact congrArg _ (all_of_shift h2)
    · intro h2
      have h3 : (c :: l).count c = (c :: l).length := by omega
      rw [List.count_cons_self, List.length_cons] at h3
      have h4 := rep_of_count (l := l) (c := c) (by omega)
      refine ⟨[c], ?_, .nil⟩
      rw [List.append_nil]
      generalize l.length = j at h4
      subst h4
      rw [← List.replicate_succ, List.replicate_succ']
  · intro e
    have h1 := hpos e
    obtain ⟨c, l, hx⟩ : ∃ c l, x.cps.toList = c :: l := by
      cases hx : x.cps.toList with
      | nil => rw [hx] at hl; simp at hl; omega
      | cons c l => exact ⟨c, l, rfl⟩
    rw [item_at (c := c) (by decide) (by rw [hx]; rfl), count_char]
    apply bool_iff
    rw [ell_iff (a := []) (mid := []) (z := x.cps.toList.take (x.length - 1)) (by simp only [Str.cps_append, Array.toList_append, slice_init h1, dots_s]; simp [flat]) (by intro p hp; simp only [List.nil_append, List.mem_cons, List.not_mem_nil, or_false] at hp; rcases hp with rfl | rfl; simp; exact ht _)]
    have hl2 : x.length = l.length + 1 := by rw [← hl, hx]; rfl
    rw [beq_iff_eq, ← hl, hx, List.length_cons, Nat.add_sub_cancel]
    constructor
    · rintro ⟨m, h2, _⟩
      rw [List.nil_append] at h2
      have h3 : m.length = 1 := by
        have := congrArg List.length h2
        simp only [List.length_append, List.length_take, List.length_cons] at this
        omega
      obtain ⟨d, rfl⟩ := List.length_eq_one_iff.mp h3
      have h4 : c = d := by
        have := congrArg List.head? h2
        simpa using this
      subst h4
      have h5 : l = (c :: l).take l.length := by
        have := h2
        rw [List.singleton_append, List.cons.injEq] at this
        exact this.2
      have h6 : c :: l = l ++ (c :: l).drop l.length := by
        conv => lhs; rw [← List.take_append_drop l.length (c :: l)]
        rw [← h5]
      exact congrArg _ (all_of_shift h6)
    · intro h2
      have h3 : (c :: l).count c = (c :: l).length := by rw [List.length_cons]; omega
      rw [List.count_cons_self, List.length_cons] at h3
      have h4 := rep_of_count (l := l) (c := c) (by omega)
      refine ⟨[c], ?_, .nil⟩
      rw [List.nil_append]
      generalize l.length = j at h4
      subst h4
      rw [← List.replicate_succ, List.take_replicate, Nat.min_eq_left (by omega)]
      rfl
end Mine
namespace Mine
open PySem PySem.W PySem.Spec PySem.Calls PyProof.Rows

/-- four counts -/
structure C where
  a : Nat
  b : Nat
  c : Nat
  d : Nat
abbrev C.le (l e : C) : Prop := l.a ≤ e.a ∧ l.b ≤ e.b ∧ l.c ≤ e.c ∧ l.d ≤ e.d
def C.sub (e l : C) : C := ⟨e.a - l.a, e.b - l.b, e.c - l.c, e.d - l.d⟩
def C.add (e l : C) : C := ⟨e.a + l.a, e.b + l.b, e.c + l.c, e.d + l.d⟩
def C.n (e : C) : Nat := e.a + e.b + e.c + e.d
/-- the sorted word -/
def wd (e : C) : List Nat := List.replicate e.a 34 ++ (List.replicate e.b 97 ++ (List.replicate e.c 98 ++ List.replicate e.d 99))
/-- its value -/
def pv (e : C) : Nat := 2 ^ e.a * (3 ^ e.b * (5 ^ e.c * 7 ^ e.d))
theorem wd_length (e : C) : (wd e).length = e.n := by simp [wd, C.n]; omega
theorem wd_count (e : C) : (wd e).count 34 = e.a ∧ (wd e).count 97 = e.b ∧ (wd e).count 98 = e.c ∧ (wd e).count 99 = e.d := by
  refine ⟨?_, ?_, ?_, ?_⟩ <;> simp [wd, List.count_replicate]
theorem wd_mem {e : C} {x : Nat} (h : x ∈ wd e) : OkSign x := by
  simp only [wd, List.mem_append, List.mem_replicate] at h
  unfold OkSign
  omega
theorem wd_free {e : C} : 46 ∉ wd e := fun h => by rcases wd_mem h with h | h | h | h <;> cases h
theorem wd_sub {l e : C} : (wd l).Sublist (wd e) ↔ C.le l e := by
  constructor
  · intro h
    obtain ⟨h1, h2, h3, h4⟩ := wd_count l
    obtain ⟨g1, g2, g3, g4⟩ := wd_count e
    exact ⟨by rw [← h1, ← g1]; exact h.count_le _, by rw [← h2, ← g2]; exact h.count_le _, by rw [← h3, ← g3]; exact h.count_le _, by rw [← h4, ← g4]; exact h.count_le _⟩
  · rintro ⟨h1, h2, h3, h4⟩
    have r : ∀ {m n x : Nat}, m ≤ n → (List.replicate m x).Sublist (List.replicate n x) := fun h => (List.replicate_sublist_replicate _).mpr h
    exact (r h1).append ((r h2).append ((r h3).append (r h4)))
theorem has_flat : ∀ {vs : List (List Nat)} {g : List Nat}, Has vs g → vs.flatten.Sublist g := by
  intro vs g h
  induction h with
  | nil => exact List.nil_sublist _
  | cons _ ih => exact (List.Sublist.append (List.Sublist.refl _) ih).trans (List.sublist_append_right _ _)
theorem flat_ones : ∀ l : List Nat, (l.map fun c => [c]).flatten = l
  | [] => rfl
  | c :: l => by rw [List.map_cons, List.flatten_cons, flat_ones l]; rfl
theorem has_ones {l g : List Nat} : Has (l.map fun c => [c]) g ↔ l.Sublist g := by
  constructor
  · intro h
    have := has_flat h
    rw [flat_ones] at this
    exact this
  · intro h
    induction h with
    | slnil => exact .nil
    | cons a _ ih => exact ih.weak [a]
    | cons_cons a _ ih => exact Has.cons (u := []) ih
/-- the match of the four rows -/
theorem rows_iff {l e : C} : (∃ m, wd e = List.replicate l.a 34 ++ (m ++ List.replicate l.d 99) ∧ Has [List.replicate l.b 97, List.replicate l.c 98] m) ↔ C.le l e := by
  constructor
  · rintro ⟨m, h1, h2⟩
    rw [← wd_sub, h1]
    have h3 := has_flat h2
    simp only [List.flatten_cons, List.flatten_nil, List.append_nil] at h3
    unfold wd
    refine (List.Sublist.refl _).append ?_
    rw [← List.append_assoc]
    exact h3.append (List.Sublist.refl _)
  · rintro ⟨h1, h2, h3, h4⟩
    have r : ∀ {m n x : Nat}, m ≤ n → List.replicate n x = List.replicate m x ++ List.replicate (n - m) x := fun {m n x} h => by
      rw [List.replicate_append_replicate]; congr 1; omega
    have r' : ∀ {m n x : Nat}, m ≤ n → List.replicate n x = List.replicate (n - m) x ++ List.replicate m x := fun {m n x} h => by
      rw [List.replicate_append_replicate]; congr 1; omega
    refine ⟨List.replicate (e.a - l.a) 34 ++ (List.replicate l.b 97 ++ (List.replicate (e.b - l.b) 97 ++ (List.replicate l.c 98 ++ (List.replicate (e.c - l.c) 98 ++ List.replicate (e.d - l.d) 99)))), ?_, ?_⟩
    · unfold wd
      rw [r h1, r h2, r h3, r' h4]
      simp only [List.append_assoc]
    · exact .cons (.cons .nil)
theorem pv_pos (e : C) : 0 < pv e := Nat.mul_pos (Nat.pow_pos (by decide)) (Nat.mul_pos (Nat.pow_pos (by decide)) (Nat.mul_pos (Nat.pow_pos (by decide)) (Nat.pow_pos (by decide))))
theorem pv_dvd {l e : C} : pv l ∣ pv e ↔ C.le l e := by
  constructor
  · intro h
    have c : ∀ {p q m n : Nat}, Nat.Coprime p q → Nat.Coprime (p ^ m) (q ^ n) := fun h => Nat.Coprime.pow _ _ h
    have k : ∀ {p m n : Nat}, 1 < p → p ^ m ∣ p ^ n → m ≤ n := fun h q => (Nat.pow_dvd_pow_iff_le_right h).mp q
    refine ⟨?_, ?_, ?_, ?_⟩
    · refine k (p := 2) (by decide) ?_
      refine Nat.Coprime.dvd_of_dvd_mul_right (n := 3 ^ e.b * (5 ^ e.c * 7 ^ e.d)) ?_ (Nat.dvd_trans (Nat.dvd_mul_right _ _) h)
      exact Nat.Coprime.mul_right (c (by decide)) (Nat.Coprime.mul_right (c (by decide)) (c (by decide)))
    · refine k (p := 3) (by decide) ?_
      refine Nat.Coprime.dvd_of_dvd_mul_right (n := 5 ^ e.c * 7 ^ e.d) (Nat.Coprime.mul_right (c (by decide)) (c (by decide))) ?_
      refine Nat.Coprime.dvd_of_dvd_mul_left (m := 2 ^ e.a) (c (by decide)) ?_
      exact Nat.dvd_trans ⟨2 ^ l.a * (5 ^ l.c * 7 ^ l.d), by unfold pv; rw [Nat.mul_left_comm]⟩ h
    · refine k (p := 5) (by decide) ?_
      refine Nat.Coprime.dvd_of_dvd_mul_right (n := 7 ^ e.d) (c (by decide)) ?_
      refine Nat.Coprime.dvd_of_dvd_mul_left (m := 3 ^ e.b) (c (by decide)) ?_
      refine Nat.Coprime.dvd_of_dvd_mul_left (m := 2 ^ e.a) (c (by decide)) ?_
      exact Nat.dvd_trans ⟨2 ^ l.a * (3 ^ l.b * 7 ^ l.d), by unfold pv; ac_rfl⟩ h
    · refine k (p := 7) (by decide) ?_
      refine Nat.Coprime.dvd_of_dvd_mul_left (m := 5 ^ e.c) (c (by decide)) ?_
      refine Nat.Coprime.dvd_of_dvd_mul_left (m := 3 ^ e.b) (c (by decide)) ?_
      refine Nat.Coprime.dvd_of_dvd_mul_left (m := 2 ^ e.a) (c (by decide)) ?_
      exact Nat.dvd_trans ⟨2 ^ l.a * (3 ^ l.b * 5 ^ l.c), by unfold pv; ac_rfl⟩ h
  · rintro ⟨h1, h2, h3, h4⟩
    exact Nat.mul_dvd_mul (Nat.pow_dvd_pow _ h1) (Nat.mul_dvd_mul (Nat.pow_dvd_pow _ h2) (Nat.mul_dvd_mul (Nat.pow_dvd_pow _ h3) (Nat.pow_dvd_pow _ h4)))
theorem pv_add (e l : C) : pv (e.add l) = pv e * pv l := by
  unfold pv C.add
  simp only [Nat.pow_add]
  ac_rfl
theorem pv_sub {e l : C} (h : C.le l e) : pv (e.sub l) * pv l = pv e := by
  rw [← pv_add]
  obtain ⟨h1, h2, h3, h4⟩ := h
  unfold C.add C.sub pv
  dsimp only
  rw [Nat.sub_add_cancel h1, Nat.sub_add_cancel h2, Nat.sub_add_cancel h3, Nat.sub_add_cancel h4]
theorem valL_append (a b : List Nat) : valL (a ++ b) = valL a * valL b := by
  have key : ∀ (b : List Nat) (z : Int), b.foldl (fun a c => a * prime c) z = z * b.foldl (fun a c => a * prime c) 1 := by
    intro b
    induction b with
    | nil => intro z; simp
    | cons c b ih => intro z; rw [List.foldl_cons, List.foldl_cons, ih, ih (1 * prime c), Int.one_mul, Int.mul_assoc]
  unfold valL
  rw [List.foldl_append, key b]
theorem valL_rep (c n : Nat) : valL (List.replicate n c) = prime c ^ n := by
  induction n with
  | zero => simp [valL]
  | succ n ih => rw [List.replicate_succ', valL_snoc, ih, Int.pow_succ]
theorem valL_wd (e : C) : valL (wd e) = (pv e : Nat) := by
  unfold wd pv
  rw [valL_append, valL_append, valL_append, valL_rep, valL_rep, valL_rep, valL_rep]
  simp only [Int.natCast_mul, Int.natCast_pow]
  rfl
theorem pv_le (e : C) {k : Nat} (h : e.n ≤ k) : pv e ≤ 7 ^ k := by
  have := valL_le (l := wd e) (n := k) (by rw [wd_length]; exact h)
  rw [valL_wd] at this
  have e2 : ((7 : Int) ^ k) = ((7 ^ k : Nat) : Int) := by simp
  rw [e2] at this
  exact Int.ofNat_le.mp this
end Mine
namespace Mine
open PySem PySem.W PySem.Spec PySem.Calls PyProof.Rows
open Builtin Builtin.Str StrLaws KIN PySem.NumText

/-! the doubled word -/
theorem undbl_dbl : ∀ (w t : List Nat), t.head? ≠ some 34 → undbl (dbl 34 w ++ 34 :: t) = w
  | [], t, h => undbl_shut h
  | c :: w, t, h => by
    unfold dbl
    by_cases e : c = 34
    · subst e
      rw [if_pos rfl]
      show undbl (34 :: 34 :: (dbl 34 w ++ 34 :: t)) = _
      rw [undbl_pair, undbl_dbl w t h]
    · rw [if_neg e]
      show undbl (c :: (dbl 34 w ++ 34 :: t)) = _
      rw [undbl_cons e, undbl_dbl w t h]
/-! texts of numbers -/
theorem num_text {n : Int} (h0 : -(10 ^ 10) < n) (h1 : n < 10 ^ 10) : PySem.intText? (Str.ofString (toString n)) = some n ∧ (∀ c ∈ (Str.ofString (toString n)).cps.toList, c = 45 ∨ (48 ≤ c ∧ c ≤ 57)) ∧ (Str.ofString (toString n)).length ≤ 20 := by
  have hd : ∀ m : Nat, AllDigits (Str.ofString (toString ((m : Nat) : Int))).cps.toList := by
    intro m c hc
    rw [KIN.signs_num] at hc
    obtain ⟨ch, hch, e⟩ := List.mem_map.mp hc
    have r := digit_range (Nat.isDigit_of_mem_toDigits (by decide) (by decide) hch)
    rw [← e]
    exact r
  rcases Int.lt_or_le n 0 with h | h
  · obtain ⟨m, rfl⟩ : ∃ m : Nat, n = Int.negSucc m := ⟨(-n - 1).toNat, by rw [Int.negSucc_eq]; omega⟩
    have e : (Str.ofString (toString (Int.negSucc m))).cps.toList = 45 :: (Str.ofString (toString ((m + 1 : Nat) : Int))).cps.toList := by
      rw [signs_ofString, signs_ofString]
      show ("-" ++ toString (Nat.succ m)).toList.map Char.toNat = 45 :: (toString (Nat.succ m)).toList.map Char.toNat
      rw [String.toList_append, List.map_append]
      rfl
    have hl := KT.len_num (n := ((m + 1 : Nat) : Int)) (by omega) (by rw [Int.negSucc_eq] at h0; omega)
    have hl' : (Str.ofString (toString (Int.negSucc m))).length = (Str.ofString (toString ((m + 1 : Nat) : Int))).length + 1 := by rw [← len_list, e, List.length_cons, len_list]
    have hv := KIN.num_reads (n := ((m + 1 : Nat) : Int)) (by omega) (by rw [Int.negSucc_eq] at h0; omega)
    have hne : (Str.ofString (toString ((m + 1 : Nat) : Int))).cps.toList ≠ [] := by
      rw [KIN.signs_num]
      intro e
      have h := toDigits_len_ge 10 (m + 1)
      rw [List.map_eq_nil_iff.mp e] at h
      exact absurd h (by decide)
    have e2 := intText_digits (hd (m + 1)) hne (by omega)
    rw [hv] at e2
    have e3 := Option.some.inj e2
    refine ⟨?_, ?_, by omega⟩
    · rw [intText_neg e (hd (m + 1)) hne (by omega), ← e3, Int.negSucc_eq]
      rfl
    · intro c hc
      rw [e] at hc
      rcases List.mem_cons.mp hc with rfl | hc
      · exact .inl rfl
      · exact .inr (hd _ c hc)
  · have hl := KT.len_num h (by omega : n < 10 ^ 10)
    refine ⟨KIN.num_reads h (by omega), ?_, by omega⟩
    obtain ⟨m, rfl⟩ := Int.eq_ofNat_of_zero_le h
    exact fun c hc => .inr (hd m c hc)
/-! the first place of a sign -/
theorem find_first {x : PySem.Str} {c : Nat} {u r : List Nat} {lo : Nat} (hx : x.cps.toList.drop lo = u ++ c :: r) (hu : c ∉ u) : ∃ q, occurrences x ⟨#[c]⟩ lo x.length 1 = (lo + u.length) :: q := by
  have hat : x.cps.toList[lo + u.length]? = some c := by
    rw [← List.getElem?_drop, hx, List.getElem?_append_right (Nat.le_refl _)]
    simp
  rcases occ_head_from x ⟨#[c]⟩ lo 1 (Nat.le_refl _) with ⟨_, h⟩ | ⟨i, q, e, h1, h2, h3⟩
  · exact absurd ((subAt_one x c _).mpr hat) (h (lo + u.length) (by omega))
  · refine ⟨q, ?_⟩
    rw [e]
    congr 1
    have h4 := (subAt_one x c i).mp h2
    rcases Nat.lt_trichotomy i (lo + u.length) with g | g | g
    · refine absurd ?_ hu
      have : (x.cps.toList.drop lo)[i - lo]? = some c := by rw [List.getElem?_drop]; have : lo + (i - lo) = i := by omega
                                                            rw [this]; exact h4
      rw [hx, List.getElem?_append_left (by omega)] at this
      exact List.mem_of_getElem? this
    · exact g
    · exact absurd ((subAt_one x c _).mpr hat) (h3 (lo + u.length) (by omega) g)
/-- "229 Entering (" -/
def pre229 : List Nat := [50, 50, 57, 32, 69, 110, 116, 101, 114, 105, 110, 103, 32, 40]
theorem p229_of {x : PySem.Str} {c : Nat} {D : PySem.Str} {n : Int} (hx : x.cps.toList = pre229 ++ ([c, c, c] ++ (D.cps.toList ++ [c, 41]))) (hc : c < 128) (h41 : c ≠ 41) (hD : c ∉ D.cps.toList) (hD41 : 41 ∉ D.cps.toList) (hl : D.length ≤ 20) (hn : PySem.intText? D = some n) :
    ∃ L R p0 p1 p2 p4, P229 x c L R p0 p1 p2 D p4 n := by
  have hxl : x.length = 19 + D.length := by
    rw [← len_list, hx]
    simp only [List.length_append, List.length_cons, List.length_nil, len_list, pre229]
    omega
  have hDl := len_list D
  have e1 : Txt.find x (Str.ofString "(") = 13 := by
    have e : Str.ofString "(" = ⟨#[40]⟩ := by decide +kernel
    obtain ⟨q, h⟩ := find_first (x := x) (c := 40) (lo := 0) (u := [50, 50, 57, 32, 69, 110, 116, 101, 114, 105, 110, 103, 32]) (r := [c, c, c] ++ (D.cps.toList ++ [c, 41])) (by rw [hx]; rfl) (by decide)
    unfold Txt.find
    rw [e, h]
    rfl
  have e2 : Txt.find3 x (Str.ofString ")") 14 = ((18 + D.length : Nat) : Int) := by
    have e : Str.ofString ")" = ⟨#[41]⟩ := by decide +kernel
    obtain ⟨q, h⟩ := find_first (x := x) (c := 41) (lo := 14) (u := [c, c, c] ++ (D.cps.toList ++ [c])) (r := []) (by rw [hx]; simp [pre229]) (by simp [hD41]; omega)
    unfold Txt.find3
    rw [show fromIndex x.length 14 = 14 from fromIndex_nat _ 14, e, h]
    simp only [List.length_append, List.length_cons, List.length_nil, hDl]
    show ((14 + _ : Nat) : Int) = _
    omega
  refine ⟨13, ((18 + D.length : Nat) : Int), ofL [], ofL [], ofL [], ofL [], ?_⟩
  refine ⟨by omega, ?_, e1, by rw [e1]; exact e2, by decide, by omega, by omega, ?_, ?_, hc, ?_, by omega, hn⟩
  · apply str_inj
    rw [slice_to (by decide) (by omega), hx]
    show [50, 50, 57] = _
    decide +kernel
  · rw [hx]; rfl
  · have : (((18 + D.length : Nat) : Int) - 1).toNat = 17 + D.length := by omega
    rw [this, hx, ← List.append_assoc, ← List.append_assoc, List.getElem?_append_right (by simp [pre229, hDl]; omega)]
    simp [pre229, hDl]
    have : 17 + D.length - (D.length + 3 + 14) = 0 := by omega
    simp [this]
  · have hs : (Txt.slice x (some (13 + 1)) (some ((18 + D.length : Nat) : Int))).cps.toList = [c, c, c] ++ (D.cps.toList ++ [c]) := by
      rw [slice_mid (by decide) (by omega) (by omega), hx]
      show List.take _ ([c, c, c] ++ (D.cps.toList ++ [c, 41])) = _
      have : (((18 + D.length : Nat) : Int) - (13 + 1)).toNat = ([c, c, c] ++ (D.cps.toList ++ [c])).length := by simp [hDl]; omega
      rw [this]
      have : [c, c, c] ++ (D.cps.toList ++ [c, 41]) = ([c, c, c] ++ (D.cps.toList ++ [c])) ++ [41] := by simp
      rw [this, List.take_left]
    have hk : Builtin.Str.strKind (⟨#[c]⟩ : PySem.Str) = 1 := kind_small (by intro d hd; rw [List.mem_singleton.mp hd]; omega)
    obtain ⟨h1, _⟩ := split_flat (x := Txt.slice x (some (13 + 1)) (some ((18 + D.length : Nat) : Int))) (y := ⟨#[c]⟩) (c := c) (y' := []) (p := []) (q := []) (r := [[], D.cps.toList, []]) rfl hk (by intro z hz; simp only [List.mem_cons, List.not_mem_nil, or_false] at hz; rcases hz with h | h | h | h | h <;> simp [h, hD]) (by rw [hs]; simp [flat])
    rw [h1]
    simp [ofL_of]
end Mine
namespace Mine
open PySem PySem.W PySem.Spec PySem.Calls PyProof.Rows PyProof.Rows.LCg

/-- a tuple in the ledger -/
def TupIn (ax : Addr) (its : Array Value) (news : List (Addr × Obj)) : Prop := ∃ o, (ax, o) ∈ news ∧ o.cls = .type "tuple" ∧ ∃ n, o.data = .seq its n
theorem TupIn.at {h₀ h : Heap} {L ax : Addr} {its : Array Value} {news : List (Addr × Obj)} (x : TupIn ax its news) (N : News h₀ L h news) : h.IsTuple ax its :=
  let ⟨o, hm, hc, n, hd⟩ := x; ⟨o, (N _ hm).1, hc, n, hd⟩
/-- what a comprehension over a tuple leaves to show -/
def SrcTup (prog : Program) (w : World) (A : Around) (h₀ : Heap) (L : Addr) (m : Str → Option Value) (env : Env) (elt : PySem.Expr) (x : Str) (scope : Scope) (cl : List (Str × Addr)) (Fin : Shared → List Value → List (Addr × Obj) → Prop) (xv : Value) (s₁ : Shared) : Prop :=
  ∃ ax its news, xv = .ref ax ∧ A.handled = none ∧ Fr h₀ L s₁.heap m ∧ News h₀ L s₁.heap news ∧ TupIn ax its news ∧ its.size ≤ sizeLine ∧
    ∀ g, CompRest prog w A h₀ L m env elt x scope cl { s₁ with heap := g } (TupIn ax its) (fun i v => its[i]? = some v) (Fin { s₁ with heap := g }) its.size 0 [] news
section
variable {prog : Program} {w : World} {A : Around} {E : Value → Shared → Prop} {s : Shared} {h₀ : Heap} {L : Addr} {m : Str → Option Value} {env : Env}
theorem tup_st {ax I : Addr} {its : Array Value} : ∀ i (h h' : Heap) (o : Obj) (nw : List (Addr × Obj)), (h.IsTupleIter I ax i ∧ h.IsTuple ax its) → h.get? I = some o → h'.get? I = some o → (∀ b o, h₀.get? b = some o → h'.get? b = some o) → News h₀ L h' nw → TupIn ax its nw → (h'.IsTupleIter I ax i ∧ h'.IsTuple ax its) :=
  fun i h h' o nw st e e' _ N S => ⟨st.1.at fun o' q => by rw [e] at q; rw [e', q], S.at N⟩
theorem Assign_comp_tup {elt iter : PySem.Expr} {x y : Str} {px py : Pos} {scope : Scope} {cl : List (Str × Addr)} {pos spos : Pos} {Q : Flow → Shared → Prop} (F₀ : Fr h₀ L s.heap m) (hLe : env.locals = L)
    (hsw : swapsWith (.ListComp elt [⟨.Name x px, iter, [], 0⟩] scope pos) (some (.Name y py)) spos.line env = pure true)
    (hclos : closureFor scope env = pure cl) (hcell : ∀ z ∈ scope.names, z.2 ≠ .cell) (hkind : scope.kind = .function)
    (hnames : ∀ z ∈ scope.names, z.2 = .local → scope.names.lookup z.1 = some .local) (hx : scope.names.lookup x = some .local)
    (hy : env.kindOf y = some .local) (hp : (env.scope.kind == .class || (env.scope.kind == .module && env.locals != env.globals)) = false)
    (h : wpAny (model prog w) A (eval iter env) (SrcTup prog w A h₀ L m env elt x scope cl (fun s₂ => FinA h₀ L m s₂ y Q)) E s)
    (hs : ∀ x, foldedSetIterable iter env x = pure x := by intro _; rfl) :
    wpAny (model prog w) A (exec (.Assign [.Name y py] (.ListComp elt [⟨.Name x px, iter, [], 0⟩] scope pos) spos) env) Q E s := by
  subst hLe
  rw [exec_Assign_Name_used _ _ _ _ hsw]
  refine wpAny_bind (wpAny_standAt (wpAny_bind ?_))
  show wpAny _ A (do let _ ← comprehension (.ListComp elt [⟨.Name x px, iter, [], 0⟩] scope pos) scope env _ (newList []) false (eval iter env) (some (assign (.Name y py) env))) _ _ s
  refine wpAny_bind (wpAny_mono (wpAny_comprehension_free (use := some (assign (.Name y py) env)) (Q := fun _ s' => Q .next s') rfl hs hclos hkind hnames
    (wpAny_mono h (fun xv s₁ h₁ => ?_) fun _ _ e => e)) (fun _ s' hq => wpAny_pure (wpAny_pure hq)) fun _ _ e => e)
  obtain ⟨ax, its, news, rfl, hh, F, N, S, hsz, R⟩ := h₁
  have hl := S.at N
  have hlt : ax < s₁.heap.objs.size := by obtain ⟨_, e, _⟩ := hl; exact Heap.lt_size e
  refine wpAny_pyIter_tuple hl ?_
  refine block_U (Walks.tuple hh s₁.heap.objs.size ax (Nat.ne_of_lt hlt) its) hsz (fun i h st => by obtain ⟨o, e, _⟩ := st.1; exact ⟨o, e⟩) tup_st hcell hkind hx ⟨⟨_, Heap.get?_push_size _ rfl, rfl, rfl⟩, hl.push _⟩ (fun b hb => ?_)
    (F.push _) (fun p hp => ⟨Heap.get?_push_of_some _ (N p hp).1, (N p hp).2⟩) (Nat.ne_of_lt F.ns.lt) (next_is_new F) (fun p hp => Nat.ne_of_lt (Heap.lt_size (N p hp).1)) S (R _) ?_
  · show b < (s₁.heap.push _).objs.size
    rw [Heap.size_push]
    rcases List.mem_cons.mp hb with rfl | hb
    · exact Nat.lt_succ_self _
    · rw [List.mem_singleton.mp hb]; exact Nat.lt_succ_of_lt hlt
  · intro D C h' tk m' ys news' F' N' o1 hn hC₀ hD₀ hCL hDL hCD offC fin
    show wpAny _ A (assign (.Name y py) env (.ref D)) _ _ _
    refine wpAny_assign_Name (wpAny_storeName_local hy F'.ns (fun h₂ hn₂ hs₂ => ?_) hp)
    have hL₀ : h₀.get? env.locals = none := Heap.get?_none_of_le F'.above
    have F₂ : Fr h₀ env.locals h₂ (fun z => if z = y then some (.ref D) else m z) := ⟨hn₂, fun b o e => hs₂.extBut b o (fun q => by rw [q, hL₀] at e; cases e) (F'.keep b o e), F'.above⟩
    refine ⟨m', hn.sameBut hs₂ hCL, fun h'' hs'' => fin D h'' _ (F₂.change hs'' hCL hC₀) (fun p hp => ?_) o1⟩
    have z : h₂.get? p.1 = some p.2 := hs₂.extBut _ _ (N' p hp).2.1 (N' p hp).1
    refine ⟨hs''.extBut _ _ ?_ z, (N' p hp).2⟩
    rcases List.mem_cons.mp hp with rfl | hp
    · exact Ne.symm hCD
    · exact offC p hp
end
end Mine
namespace Mine
open PySem PySem.W PySem.Spec PySem.Calls PyProof.Rows

/-! loops by an invariant over the map and the ledger -/
section
variable {prog : Program} {w : World} {A : Around} {E : Value → Shared → Prop} {s : Shared} {env : Env} {h₀ : Heap} {x : Str} {body : List Stmt} {Q : Flow → Shared → Prop}
theorem unr_mono {L I : Addr} {s₁ s₂ : Shared} {it : Obj} {R R' : (Str → Option Value) → List (Addr × Obj) → Prop} {f : Flow} (hR : ∀ m n, R m n → R' m n) (h : UnrPost h₀ L s₁ I it R Q f s₂) : UnrPost h₀ L s₁ I it R' Q f s₂ := by
  have go : UnrEnd h₀ L s₁ I it R s₂ → UnrEnd h₀ L s₁ I it R' s₂ := fun ⟨h', tk, m', n', e, F, N, o, r⟩ => ⟨h', tk, m', n', e, F, N, o, hR _ _ r⟩
  cases f with
  | ret v => exact h
  | brk => exact h
  | next => exact go h
  | cont => exact go h
theorem unrW_mono {L : Addr} {s₁ s₂ : Shared} {its : List (Addr × Obj)} {R R' : (Str → Option Value) → List (Addr × Obj) → Prop} {f : Flow} (hR : ∀ m n, R m n → R' m n) (h : UnrPostW h₀ L s₁ its R Q f s₂) : UnrPostW h₀ L s₁ its R' Q f s₂ := by
  have go : UnrEndW h₀ L s₁ its R s₂ → UnrEndW h₀ L s₁ its R' s₂ := fun ⟨h', tk, m', n', e, F, N, o, r⟩ => ⟨h', tk, m', n', e, F, N, o, hR _ _ r⟩
  cases f with
  | ret v => exact h
  | brk => exact h
  | next => exact go h
  | cont => exact go h
theorem range_inv {I : Addr} {a : Int} {n : Nat} (Inv : Nat → (Str → Option Value) → List (Addr × Obj) → Prop)
    (turn : ∀ i m news t h tk, i < n → Inv i m news → Fr h₀ env.locals h (fun y => if y = x then some (.int (a + (i : Int)) t) else m y) →
      News h₀ env.locals h ((I, itR (a + ((i + 1 : Nat) : Int)) ((n : Int) - ((i + 1 : Nat) : Int))) :: news) →
      wpAny (model prog w) A (execs body env) (UnrPost h₀ env.locals { s with heap := h, toks := tk } I (itR (a + ((i + 1 : Nat) : Int)) ((n : Int) - ((i + 1 : Nat) : Int))) (Inv (i + 1)) Q) E { s with heap := h, toks := tk })
    (done : ∀ m news h tk, Inv n m news → Fr h₀ env.locals h m → News h₀ env.locals h news → Q .next { s with heap := h, toks := tk }) :
    ∀ (k i : Nat) m news, k + i = n → Inv i m news → RangeRest prog w A E h₀ env x body Q s I a n k i m news
  | 0, i, m, news, e, hI => fun h tk F N => done m news h tk (by rw [Nat.zero_add] at e; exact e ▸ hI) F N
  | k + 1, i, m, news, e, hI => fun t h tk F N => wpAny_mono (turn i m news t h tk (by omega) hI F N) (fun _ _ q => unr_mono (fun m' n' r => range_inv Inv turn done k (i + 1) m' n' (by omega) r) q) fun _ _ q => q
theorem items_inv {target : PySem.Expr} {I : Addr} {cn : String} {keep : List (Addr × Obj)} (Inv : List Value → (Str → Option Value) → List (Addr × Obj) → Prop)
    (turn : ∀ v r m news h tk o, Inv (v :: r) m news → o.cls = .type cn → Fr h₀ env.locals h m → News h₀ env.locals h ((I, o) :: news) →
      wpAny (model prog w) A (assign target env v) (fun _ s₂ => wpAny (model prog w) A (execs body env) (UnrPostW h₀ env.locals { s with heap := h, toks := tk } [(I, o)] (fun m' n' => SubL keep n' ∧ Inv r m' n') Q) E s₂) E { s with heap := h, toks := tk })
    (done : ∀ m news h tk, Inv [] m news → Fr h₀ env.locals h m → News h₀ env.locals h news → Q .next { s with heap := h, toks := tk }) :
    ∀ (l : List Value) m news, Inv l m news → ItemsRest prog w A E h₀ env target body Q s [(I, cn)] keep (l.map .val) m news
  | [], m, news, hI => fun h tk F N => done m news h tk hI F N
  | v :: r, m, news, hI => by
    refine ItemsRest.val fun h tk F => AllObj.cons fun o hc => AllObj.nil fun N => ?_
    refine wpAny_mono (turn v r m news h tk o hI hc F N) (fun _ _ q => wpAny_mono q (fun _ _ q => unrW_mono (fun m' n' r' => ⟨r'.1, items_inv Inv turn done r m' n' r'.2⟩) q) fun _ _ q => q) fun _ _ q => q
theorem str_inv {I : Addr} (Inv : List Str → (Str → Option Value) → List (Addr × Obj) → Prop)
    (turn : ∀ c r m news u it h tk, Inv (c :: r) m news → Fr h₀ env.locals h (fun y => if y = x then some (.str c u) else m y) → News h₀ env.locals h ((I, it) :: news) →
      wpAny (model prog w) A (execs body env) (UnrPost h₀ env.locals { s with heap := h, toks := tk } I it (Inv r) Q) E { s with heap := h, toks := tk })
    (done : ∀ m news h tk, Inv [] m news → Fr h₀ env.locals h m → News h₀ env.locals h news → Q .next { s with heap := h, toks := tk }) :
    ∀ (l : List Str) m news, Inv l m news → StrRest prog w A E h₀ env x body Q s I l m news
  | [], m, news, hI => fun h tk F N => done m news h tk hI F N
  | c :: r, m, news, hI => fun u it h tk F N => wpAny_mono (turn c r m news u it h tk hI F N) (fun _ _ q => unr_mono (fun m' n' r' => str_inv Inv turn done r m' n' r') q) fun _ _ q => q
end
theorem kst_as {h₀ h : Heap} {L : Addr} {m : Str → Option Value} {ps : List (Str × Value)} (hk : ∀ p ∈ ps, m p.1 = some p.2) (F : Fr h₀ L h m) : Fr h₀ L h (kstB m ps) := by
  have e : kstB m ps = m := funext fun z => kstB_eq hk fun _ => rfl
  rw [e]; exact F
end Mine
namespace Mine
open PySem PySem.W PySem.Spec PySem.Calls PyProof.Rows
theorem fm_rng {a b : Int} (h0 : 0 < b) (h1 : b ≤ 101) : 0 ≤ a.fmod b ∧ a.fmod b ≤ 100 := by
  rw [Int.fmod_eq_emod_of_nonneg _ (by omega)]
  have := Int.emod_nonneg a (show b ≠ 0 by omega)
  have := Int.emod_lt_of_pos a h0
  omega
theorem fm_lt {a : Int} (b : Int) (h0 : 0 < b) : 0 ≤ a.fmod b ∧ a.fmod b < b := by
  rw [Int.fmod_eq_emod_of_nonneg _ (by omega)]
  exact ⟨Int.emod_nonneg a (show b ≠ 0 by omega), Int.emod_lt_of_pos a h0⟩
/-- the counts of a row -/
def cOf (a b c d : Int) : C := ⟨a.toNat, b.toNat, c.toNat, d.toNat⟩
theorem join_rows (a b c d : Int) : PySem.Str.join (Str.ofString "") [rep 34 a, rep 97 b, rep 98 c, rep 99 d] = ofL (wd (cOf a b c d)) := by
  apply str_inj
  show (rep 34 a ++ Str.ofString "" ++ (rep 97 b ++ Str.ofString "" ++ (rep 98 c ++ Str.ofString "" ++ rep 99 d))).cps.toList = wd _
  simp only [Str.cps_append, Array.toList_append, rep_list, show (Str.ofString "").cps.toList = [] from by decide +kernel, List.append_nil]
  rfl
section
variable {prog : Program} {w : World} {A : Around} {E : Value → Shared → Prop} {s : Shared} {h₀ : Heap} {L D : Addr} {m : PySem.Str → Option Value} {news : List (Addr × Obj)} {t : Tok} {Q : Value → Shared → Prop}
theorem join_rows_call {a b c d : Int} {t1 t2 t3 t4 : Tok} {n : Nat} (N : News h₀ L s.heap news) (hm : (D, listOf [.str (rep 34 a) t1, .str (rep 97 b) t2, .str (rep 98 c) t3, .str (rep 99 d) t4].toArray n) ∈ news) (ha : a ≤ 100) (hb : b ≤ 100) (hc : c ≤ 100) (hd : d ≤ 100)
    (h : ∀ t' k, Q (.str (ofL (wd (cOf a b c d))) t') { s with toks := k }) : wpAny (model prog w) A (call (.builtin "str.join") [.str (Str.ofString "") t, .ref D]) Q E s := by
  refine join_call (l := [(rep 34 a, t1), (rep 97 b, t2), (rep 98 c, t3), (rep 99 d, t4)]) N hm rfl ?_ ?_
  · have e0 : (Str.ofString "").length = 0 := by decide +kernel
    simp only [lens, List.map_cons, List.map_nil, List.sum_cons, List.sum_nil, rep_length, List.length_cons, List.length_nil, e0]
    omega
  · intro t' k
    have := h t' k
    rw [← join_rows] at this
    exact this
end
theorem ofL_len (l : List Nat) : (ofL l).length = l.length := by rw [← len_list, ofL_list]
theorem start_short {a b c d : Int} : (cOf (a.fmod 3) (b.fmod 3) (c.fmod 3) (d.fmod 2)).n ≤ 30 := by
  have h1 := fm_lt (a := a) 3 (by decide)
  have h2 := fm_lt (a := b) 3 (by decide)
  have h3 := fm_lt (a := c) 3 (by decide)
  have h4 := fm_lt (a := d) 2 (by decide)
  simp only [C.n, cOf]
  omega
end Mine
namespace Mine
open PySem PySem.W PySem.Spec PySem.Calls PyProof.Rows

/-! calls of the law's own frame -/
/-- a text's signs, each a text -/
def signsOf (l : List Nat) : List PySem.Str := l.map fun c => ⟨#[c]⟩
def Signs (l : List Nat) (vs : List Value) : Prop := ∃ ps : List (PySem.Str × Tok), vs = strValues ps ∧ ps.map (·.1) = signsOf l
theorem signs_of_items {x : PySem.Str} : ∀ (vs : List Value) (k : Nat), (∀ j v, vs[j]? = some v → SignAt x (k + j) v) → vs.length + k = x.cps.size → Signs (x.cps.toList.drop k) vs
  | [], k, _, e => ⟨[], rfl, by rw [List.drop_of_length_le (by simp at e ⊢; omega)]; rfl⟩
  | v :: vs, k, h, e => by
    obtain ⟨c, t, hc, rfl⟩ := h 0 v rfl
    obtain ⟨ps, rfl, hp⟩ := signs_of_items vs (k + 1) (fun j v hv => by have := h (j + 1) v hv; rwa [show k + (j + 1) = k + 1 + j from by omega] at this) (by simp at e; omega)
    refine ⟨(⟨#[c]⟩, t) :: ps, rfl, ?_⟩
    have hk : k < x.cps.toList.length := by simp at e ⊢; omega
    rw [List.drop_eq_getElem_cons hk, List.map_cons, hp]
    have : x.cps.toList[k] = c := by
      rw [Nat.add_zero] at hc
      have := Array.getElem?_toList (xs := x.cps) (i := k)
      rw [hc, List.getElem?_eq_getElem hk] at this
      exact Option.some.inj this
    rw [this]; rfl
section
variable {prog : Program} {w : World} {A : Around} {E : Value → Shared → Prop} {s : Shared} {h₀ : Heap} {L D : Addr} {m : PySem.Str → Option Value} {news : List (Addr × Obj)} {x : PySem.Str} {t : Tok} {Q : Value → Shared → Prop}
theorem list_chars (hh : A.handled = none) (F : Fr h₀ L s.heap m) (N : News h₀ L s.heap news) (hx : x.length ≤ 1000000)
    (h : ∀ D' vs c h' tk, Fr h₀ L h' m → News h₀ L h' ((D', listOf vs.toArray c) :: news) → (∀ q ∈ news, q.1 < D') → Signs x.cps.toList vs → Q (.ref D') { s with heap := h', toks := tk }) :
    wpAny (model prog w) A (call (.type "list") [.str x t]) Q E s := by
  have hz : x.cps.size ≤ sizeLine := by have := hx; rw [sizeLine_eq]; unfold PySem.Str.length at this; omega
  refine call_list_str hh x t (hn := hz) fun h' tk acc' c' hk hS' hacc => ?_
  · refine h _ acc'.toList c' h' tk (F.keeps hk) (fun p hp => ?_) (fun p hp => Heap.lt_size (N p hp).1) ?_
    · rcases List.mem_cons.mp hp with rfl | hp
      · refine ⟨?_, (Nat.ne_of_lt F.ns.lt).symm, next_is_new F⟩
        simpa using hS'
      · exact ⟨hk _ _ (N p hp).1, (N p hp).2⟩
    · have := signs_of_items (x := x) acc'.toList 0 (fun j v hv => by rw [Nat.zero_add]; exact hacc.2 j v (by simpa using hv)) (by simpa using hacc.1)
      simpa using this
theorem lens_signs (l : List Nat) : lens (signsOf l) = l.length := by
  unfold lens signsOf
  rw [List.map_map]
  induction l with
  | nil => rfl
  | cons c r ih => rw [List.map_cons, List.sum_cons, ih]; simp [PySem.Str.length]; omega
theorem join_chars {vs : List Value} {l : List Nat} {n : Nat} (N : News h₀ L s.heap news) (hm : (D, listOf vs.toArray n) ∈ news) (hs : Signs l vs) (hl : l.length ≤ 100000) (hx : x.length ≤ 100)
    (h : ∀ t' k, Q (.str (PySem.Str.join x (signsOf l)) t') { s with toks := k }) : wpAny (model prog w) A (call (.builtin "str.join") [.str x t, .ref D]) Q E s := by
  obtain ⟨ps, rfl, hp⟩ := hs
  have hlen : ps.length = l.length := by have := congrArg List.length hp; simpa [signsOf] using this
  refine join_call (l := ps) N hm rfl ?_ fun t' k => ?_
  · rw [hp, lens_signs, hlen]
    have : l.length * x.length ≤ 100000 * 100 := Nat.mul_le_mul hl hx
    omega
  · rw [hp]; exact h t' k
theorem mul_as {a b r : Int} {t u : Tok} (e : a * b = r) (h1 : -(2 ^ 64) < a) (h2 : a < 2 ^ 64) (h : ∀ t k, Q (.int r t) { s with toks := k }) : wpAny (model prog w) A (binaryOp .Mult (.int a t) (.int b u)) Q E s := by
  refine mul_int ?_ (IntMulOk.of_left (intBits_le_64 h1 h2))
  rw [e]
  exact h _ _
end
/-! joined with dots -/
theorem join_cons (x a : PySem.Str) (r : List PySem.Str) (hr : r ≠ []) : (PySem.Str.join x (a :: r)).cps.toList = a.cps.toList ++ (x.cps.toList ++ (PySem.Str.join x r).cps.toList) := by
  cases r with
  | nil => exact absurd rfl hr
  | cons b r =>
    show (a ++ x ++ PySem.Str.join x (b :: r)).cps.toList = _
    simp only [Str.cps_append, Array.toList_append, List.append_assoc]
theorem join_flat (x : PySem.Str) : ∀ (l : List PySem.Str), (PySem.Str.join x l).cps.toList = flat x.cps.toList (l.map fun v => v.cps.toList)
  | [] => rfl
  | [a] => by show a.cps.toList = _; simp [flat]
  | a :: b :: r => by
    rw [join_cons x a (b :: r) (by simp), join_flat x (b :: r)]
    simp only [List.map_cons, flat, List.append_assoc]
end Mine
namespace Mine
open PySem PySem.W PySem.Spec PySem.Calls PyProof.Rows

def Side (n : Int) : Prop := n = 1 ∨ n = -1
theorem fdm_split (a b : Int) (hb : b ≠ 0) : a.fdiv b * b + a.fmod b = a ∧ ((0 ≤ a.fmod b ∧ a.fmod b < b) ∨ (b < a.fmod b ∧ a.fmod b ≤ 0)) ∧ (a.fmod b = 0 ↔ b ∣ a) := by
  have h1 : a.fdiv b * b + a.fmod b = a := by have := Int.mul_fdiv_add_fmod a b; rw [Int.mul_comm] at this; exact this
  refine ⟨h1, ?_, ?_⟩
  · rcases Int.lt_or_gt_of_ne hb with h | h
    · right
      have h2 := Int.fmod_nonneg_of_pos (-a) (b := -b) (by omega)
      have h3 := Int.fmod_lt_of_pos (-a) (b := -b) (by omega)
      rw [Int.neg_fmod_neg] at h2 h3
      omega
    · left
      exact ⟨Int.fmod_nonneg_of_pos a h, Int.fmod_lt_of_pos a h⟩
  · constructor
    · intro h; rw [h, Int.add_zero] at h1; exact ⟨a.fdiv b, by rw [Int.mul_comm]; exact h1.symm⟩
    · exact Int.fmod_eq_zero_of_dvd
theorem side_dvd {l e : C} {sd tn : Int} (h1 : Side sd) (h2 : Side tn) : tn * (pv l : Nat) ∣ sd * (pv e : Nat) ↔ C.le l e := by
  rw [← pv_dvd, ← Int.natCast_dvd_natCast]
  rcases h1 with rfl | rfl <;> rcases h2 with rfl | rfl <;> simp only [Int.one_mul, Int.neg_one_mul, Int.neg_dvd, Int.dvd_neg]
theorem side_rng {e : C} {sd : Int} {k : Nat} (z : Nat) (hz : 7 ^ k = z) (h1 : Side sd) (h2 : e.n ≤ k) : sd * (pv e : Nat) ≠ 0 ∧ -(z : Int) ≤ sd * (pv e : Nat) ∧ sd * (pv e : Nat) ≤ (z : Int) := by
  have h3 := pv_pos e
  have h4 := pv_le e h2
  rw [hz] at h4
  rcases h1 with rfl | rfl <;> omega
/-- what int_divmod tells of the number and what stands below the line -/
theorem inner_math {l e : C} {sd tn : Int} (h1 : Side sd) (h2 : Side tn) : ∃ q rs, (sd * (pv e : Nat)).fdiv (tn * (pv l : Nat)) = q ∧ (sd * (pv e : Nat)).fmod (tn * (pv l : Nat)) = rs ∧
    q * (tn * (pv l : Nat)) = sd * (pv e : Nat) - rs ∧ ((0 ≤ rs ∧ rs < tn * (pv l : Nat)) ∨ (tn * (pv l : Nat) < rs ∧ rs ≤ 0)) ∧ (rs = 0 ↔ C.le l e) := by
  obtain ⟨a, b, c⟩ := fdm_split (sd * (pv e : Nat)) (tn * (pv l : Nat)) (side_rng _ rfl h2 (Nat.le_refl _)).1
  exact ⟨_, _, rfl, rfl, by omega, b, c.trans (side_dvd h1 h2)⟩
theorem q_small {q D P rs : Int} (h : q * D = P - rs) (hD : D ≠ 0) (hr : (0 ≤ rs ∧ rs < D) ∨ (D < rs ∧ rs ≤ 0)) (hP : -(2 ^ 62) < P ∧ P < 2 ^ 62) (hD2 : -(2 ^ 30) < D ∧ D < 2 ^ 30) : -(2 ^ 64) < q ∧ q < 2 ^ 64 := by
  have h1 : q.natAbs ≤ (q * D).natAbs := by
    rw [Int.natAbs_mul]
    exact Nat.le_mul_of_pos_right _ (by omega)
  rw [h] at h1
  omega
/-! the three matches -/
theorem signs_lists (l : List Nat) : (signsOf l).map (fun v => v.cps.toList) = l.map fun c => [c] := by simp [signsOf]
theorem flat_snoc (y : List Nat) (l : List (List Nat)) (hl : l ≠ []) : flat y (l ++ [[]]) = flat y l ++ y := by
  induction l with
  | nil => exact absurd rfl hl
  | cons a r ih =>
    cases r with
    | nil => simp [flat]
    | cons b r => 
      have := ih (by simp)
      simp only [List.cons_append, flat, List.append_assoc] at this ⊢
      rw [this]
theorem ell_dots (l e : C) (hl : 1 ≤ l.n) : ellM (Str.ofString "..." ++ PySem.Str.join (Str.ofString "...") (signsOf (wd l)) ++ Str.ofString "...") (ofL (wd e)) = true ↔ C.le l e := by
  have hne : (wd l).map (fun c => [c]) ≠ [] := by
    intro h
    have := congrArg List.length h
    simp only [List.length_map, List.length_nil, wd_length] at this
    omega
  rw [ell_iff (a := []) (mid := (wd l).map fun c => [c]) (z := []) ?_ ?_]
  · rw [ofL_list, ← wd_sub, ← has_ones]
    constructor
    · rintro ⟨m, h1, h2⟩; rw [List.nil_append, List.append_nil] at h1; rw [h1]; exact h2
    · intro h; exact ⟨_, by simp, h⟩
  · simp only [Str.cps_append, Array.toList_append, join_flat, signs_lists, dots_s]
    rw [show ([] : List Nat) :: ((wd l).map (fun c => [c]) ++ [[]]) = ([[]] ++ (wd l).map (fun c => [c])) ++ [[]] from by simp, flat_snoc _ _ (by simp)]
    cases h : (wd l).map (fun c => [c]) with
    | nil => exact absurd h hne
    | cons a r => simp [flat]
  · intro p hp
    simp only [List.mem_cons, List.mem_append, List.mem_map, List.not_mem_nil, or_false] at hp
    rcases hp with rfl | ⟨c, hc, rfl⟩ | rfl
    · simp
    · intro hm; rw [List.mem_singleton] at hm; exact wd_free (hm ▸ hc)
    · simp
theorem ell_rows (a b c d : Int) (e : C) : ellM (PySem.Str.join (Str.ofString "...") [rep 34 a, rep 97 b, rep 98 c, rep 99 d]) (ofL (wd e)) = true ↔ C.le (cOf a b c d) e := by
  rw [ell_iff (a := List.replicate a.toNat 34) (mid := [List.replicate b.toNat 97, List.replicate c.toNat 98]) (z := List.replicate d.toNat 99) ?_ ?_]
  · rw [ofL_list]; exact rows_iff (l := cOf a b c d)
  · rw [join_flat, dots_s]; rfl
  · intro p hp
    simp only [List.mem_cons, List.mem_append, List.cons_append, List.nil_append, List.not_mem_nil, or_false] at hp
    rcases hp with rfl | rfl | rfl | rfl <;> (intro hm; have := (List.mem_replicate.mp hm).2; omega)
theorem ell_self (l e : C) : ellM (ofL (wd l)) (ofL (wd e)) = (ofL (wd l) == ofL (wd e)) := ell_plain (by rw [ofL_list]; exact wd_free)
theorem dots_len (l : C) : (Str.ofString "..." ++ PySem.Str.join (Str.ofString "...") (signsOf (wd l)) ++ Str.ofString "...").length ≤ 6 + 4 * l.n := by
  have key : ∀ l : List Nat, (flat [46, 46, 46] (l.map fun c => [c])).length ≤ 4 * l.length := by
    intro l
    induction l with
    | nil => simp [flat]
    | cons a r ih =>
      cases r with
      | nil => simp [flat]
      | cons b r => simp only [List.map_cons, flat, List.length_append, List.length_cons, List.length_nil] at ih ⊢; omega
  rw [← len_list]
  simp only [Str.cps_append, Array.toList_append, join_flat, signs_lists, dots_s, List.length_append, List.length_cons, List.length_nil]
  have := key (wd l)
  rw [wd_length] at this
  omega
section
variable {prog : Program} {w : World} {A : Around} {E : Value → Shared → Prop} {s : Shared} {h₀ : Heap} {L D : Addr} {m : PySem.Str → Option Value} {news : List (Addr × Obj)} {t : Tok} {Q : Value → Shared → Prop}
theorem join_rows_dots {x : PySem.Str} (hx : x.length ≤ 100) {a b c d : Int} {t1 t2 t3 t4 : Tok} {n : Nat} (N : News h₀ L s.heap news) (hm : (D, listOf #[.str (rep 34 a) t1, .str (rep 97 b) t2, .str (rep 98 c) t3, .str (rep 99 d) t4] n) ∈ news) (ha : a ≤ 100) (hb : b ≤ 100) (hc : c ≤ 100) (hd : d ≤ 100)
    (h : ∀ t' k, Q (.str (PySem.Str.join x [rep 34 a, rep 97 b, rep 98 c, rep 99 d]) t') { s with toks := k }) : wpAny (model prog w) A (call (.builtin "str.join") [.str x t, .ref D]) Q E s := by
  refine join_call (l := [(rep 34 a, t1), (rep 97 b, t2), (rep 98 c, t3), (rep 99 d, t4)]) N hm rfl ?_ fun t' k => h t' k
  simp only [lens, List.map_cons, List.map_nil, List.sum_cons, List.sum_nil, rep_length, List.length_cons, List.length_nil]
  omega
end
theorem rows_len {x : PySem.Str} {a b c d : Int} (ha : a ≤ 100) (hb : b ≤ 100) (hc : c ≤ 100) (hd : d ≤ 100) (hx : x.length ≤ 3) : (PySem.Str.join x [rep 34 a, rep 97 b, rep 98 c, rep 99 d]).length ≤ 409 := by
  show (rep 34 a ++ x ++ (rep 97 b ++ x ++ (rep 98 c ++ x ++ rep 99 d))).length ≤ 409
  simp only [PySem.Str.length_append, rep_length]
  omega
theorem TabF.offs {P1 P2 : Addr} {l1 c1 l2 c2 : Nat} {q1 q2 : Str} {T front : List (Addr × Obj)} {h₀ h' : Heap} {L : Addr} (h : TabF P1 l1 c1 q1 P2 l2 c2 q2 T) (N : News h₀ L h' (front ++ T)) (hf : ∀ q ∈ front, (∃ its n, q.2.data = .seq its n) ∨ ∀ r ∈ T, r.1 ≠ q.1) : ∀ q ∈ front, ∀ r ∈ T, r.1 ≠ q.1 := by
  intro q hq
  rcases hf q hq with ⟨its, n, hd⟩ | h1
  · exact h.off N (N q (List.mem_append_left _ hq)).1 hd
  · exact h1
def Seqs (l : List (Addr × Obj)) : Prop := ∀ q ∈ l, ∃ its n, q.2.data = .seq its n
section
variable {prog : Program} {w : World} {A : Around} {E : Value → Shared → Prop} {s : Shared} {x y : PySem.Str} {t u : Tok} {Q : Value → Shared → Prop}
theorem add_txt (hl : x.length + y.length ≤ 1000000) (h : ∀ t' k, Q (.str (x ++ y) t') { s with toks := k }) : wpAny (model prog w) A (binaryOp .Add (.str x t) (.str y u)) Q E s :=
  PyProof.Rows.add_str (hsz := by rw [sizeLine_eq]; omega) h
end
/-- a turn's plain end -/
def TurnEnd (R : Shared → Prop) (f : Flow) (s : Shared) : Prop := f = .next ∧ R s
theorem rs_cases {rs D : Int} (h : (0 ≤ rs ∧ rs < D) ∨ (D < rs ∧ rs ≤ 0)) : (rs = 0 ∧ 0 < D) ∨ (rs = 0 ∧ D < 0) ∨ (0 < rs ∧ rs < D) ∨ (D < rs ∧ rs < 0) := by omega
section
variable {prog : Program} {w : World} {A : Around} {E : Value → Shared → Prop} {s : Shared} {h₀ : Heap} {L D : Addr} {m : PySem.Str → Option Value} {news : List (Addr × Obj)} {t : Tok} {Q : Value → Shared → Prop}
theorem join_rows_as {a b c d : Int} {l : C} (e : cOf a b c d = l) {t1 t2 t3 t4 : Tok} {n : Nat} (N : News h₀ L s.heap news) (hm : (D, listOf [.str (rep 34 a) t1, .str (rep 97 b) t2, .str (rep 98 c) t3, .str (rep 99 d) t4].toArray n) ∈ news) (ha : a ≤ 100) (hb : b ≤ 100) (hc : c ≤ 100) (hd : d ≤ 100)
    (h : ∀ t' k, Q (.str (ofL (wd l)) t') { s with toks := k }) : wpAny (model prog w) A (call (.builtin "str.join") [.str (Str.ofString "") t, .ref D]) Q E s := by
  subst e
  exact join_rows_call N hm ha hb hc hd h
end
/-- nothing but tokens drawn -/
def Same (s : Shared) (f : Flow) (s' : Shared) : Prop := f = .next ∧ ∃ k, s' = { s with toks := k }
theorem Same.here {s : Shared} {k : Nat} : Same s .next { s with toks := k } := ⟨rfl, k, rfl⟩
theorem cut_same {prog : Program} {w : World} {A : Around} {E : Value → Shared → Prop} {s : Shared} {t : PySem.Sem Flow} {Q : Flow → Shared → Prop} (h1 : wpAny (model prog w) A t (Same s) (fun _ _ => False) s) (h2 : ∀ k, Q .next { s with toks := k }) : wpAny (model prog w) A t Q E s :=
  wpAny_mono h1 (fun f s' ⟨e, k, e2⟩ => by subst e; subst e2; exact h2 k) fun _ _ h => h.elim
/-- the fits so far: none, or a first one -/
def fitObj (l u : C) (tn q : Int) (t1 t2 t3 t4 : Tok) : Obj := { cls := .type "tuple", data := .seq #[.str (ofL (wd l)) t1, .str (ofL (wd u)) t2, .int tn t3, .int q t4] }
def FitOk (e : C) (sd : Int) (vs : List Value) (opt : List (Addr × Obj)) : Prop :=
  (vs = [] ∧ opt = []) ∨ ∃ Ft l u tn q t1 t2 t3 t4 rest, vs = .ref Ft :: rest ∧ opt = [(Ft, fitObj l u tn q t1 t2 t3 t4)] ∧
    C.le l e ∧ 1 ≤ l.n ∧ u.n ≤ 2 ∧ Side tn ∧ q * (tn * (pv l : Nat)) = sd * (pv e : Nat)
theorem FitOk.seqs {e : C} {sd : Int} {vs : List Value} {opt : List (Addr × Obj)} (h : FitOk e sd vs opt) : Seqs opt := by
  rcases h with ⟨_, rfl⟩ | ⟨Ft, l, u, tn, q, t1, t2, t3, t4, rest, _, rfl, _⟩
  · intro q hq; cases hq
  · intro q hq; rw [List.mem_singleton.mp hq]; exact ⟨_, _, rfl⟩
theorem FitOk.step {e l u : C} {sd tn q : Int} {t1 t2 t3 t4 : Tok} {vs : List Value} {opt : List (Addr × Obj)} {D : Addr} {hp : Heap} (h : FitOk e sd vs opt) (_hD : hp.get? D = some (fitObj l u tn q t1 t2 t3 t4)) (h1 : C.le l e) (h2 : 1 ≤ l.n) (h3 : u.n ≤ 2) (h4 : Side tn) (h5 : q * (tn * (pv l : Nat)) = sd * (pv e : Nat)) :
    ∃ opt', FitOk e sd (vs ++ [.ref D]) opt' ∧ (opt' = opt ∨ opt' = [(D, fitObj l u tn q t1 t2 t3 t4)]) := by
  rcases h with ⟨rfl, rfl⟩ | ⟨Ft, l', u', tn', q', a1, a2, a3, a4, rest, rfl, rfl, hh⟩
  · exact ⟨_, .inr ⟨D, l, u, tn, q, t1, t2, t3, t4, [], rfl, rfl, h1, h2, h3, h4, h5⟩, .inr rfl⟩
  · exact ⟨_, .inr ⟨Ft, l', u', tn', q', a1, a2, a3, a4, rest ++ [.ref D], rfl, rfl, hh⟩, .inl rfl⟩
theorem ite_no {c P Q : Prop} [Decidable c] (hc : ¬ c) (h : Q) : if c then P else Q := by rw [if_neg hc]; exact h
theorem bne_self_no {α : Type} [BEq α] {a b : α} : ¬ (((a == b) != (a == b)) = true) := by simp
theorem bne_ff {b : Bool} (h : b = false) : ¬ ((false != b) = true) := by simp [h]
theorem bool_no {b : Bool} (h : b = false) : ¬ (b = true) := by simp [h]
end Mine
namespace Mine
open PySem PySem.W PySem.Spec PySem.Calls PyProof.Rows
/-! parts of the law's own text, picked out of the row -/
def nthS : List Stmt → Nat → Stmt
  | [], _ => .Pass ⟨0, 0, 0, 0⟩
  | x :: _, 0 => x
  | _ :: r, n + 1 => nthS r n
def bodyOf : Stmt → List Stmt
  | .FunctionDef _ _ b _ _ _ _ _ _ _ => b
  | .For _ _ b _ _ => b
  | _ => []
def targetOf : Stmt → PySem.Expr
  | .For t _ _ _ _ => t
  | _ => .Constant .none 0 ⟨0, 0, 0, 0⟩
def scOf : Stmt → Scope
  | .FunctionDef _ _ _ _ _ _ sc _ _ _ => sc
  | _ => PySem.Challenge.pw_rw0076_01.main.scope
def lawDef : Stmt := nthS PySem.Challenge.pw_rw0076_01.main.body 23
def lawSc : Scope := scOf lawDef
def loopO : List Stmt := bodyOf (nthS (bodyOf lawDef) 8)
def loopI : List Stmt := bodyOf (nthS loopO 6)
def tgI : PySem.Expr := targetOf (nthS loopO 6)
def loopS : List Stmt := bodyOf (nthS loopO 10)
end Mine
namespace Mine
open PySem PySem.W PySem.Spec PySem.Calls PyProof.Rows
section
variable {prog : Program} {w : World} {p : Program} {loose : List Str} {mean : ExcName → Option Value} {mg mb : Str → Option Value}
theorem turnI {b : List Stmt} {sc : Scope} {tg : PySem.Expr} (hb : loopI = b) (hsc : lawSc = sc) (htg : tgI = tg) {dp uu : Nat} {gd : Option (List Code)} {fa : Addr} {cd : Value} {cl : List (Str × Addr)} {outer : List Env} {A₀ : Around} {base g : Heap} {L : Addr} {s : Shared}
    {um : Str → Option Value} {e u : C} {sd tn a1 a2 a3 a4 : Int} {I Fa A Bd : Addr} {it : Obj} {vs : List Value} {nn nb : Nat} {fixed opt TT : List (Addr × Obj)} {tN tP tp tt t1 t2 t3 t4 : Tok} {vS vD vM vT vR : Value} {R : Shared → Prop}
    (B : Below A₀ base outer g) (X : (hd.heap_39 w.params).In g) (T : Top p loose mean mg mb g) (hd : dp + 200 < recursionLimit) (hu : uu + 1000 < cLine)
    (he : e.n ≤ 15) (hsd : Side sd) (h1 : 0 ≤ a1 ∧ a1 ≤ 100) (h2 : 0 ≤ a2 ∧ a2 ≤ 100) (h3 : 0 ≤ a3 ∧ a3 ≤ 100) (h4 : 0 ≤ a4 ∧ a4 ≤ 100) (hn1 : 1 ≤ (cOf a1 a2 a3 a4).n) (hn2 : (cOf a1 a2 a3 a4).n ≤ 2) (hun : u.n ≤ 2) (htn : Side tn) (hit : it.cls = .type "list_iterator") (hvs : vs.length ≤ 10)
    (F : Fr g L s.heap (kstB um [(Str.ofString "name", .str (ofL (wd e)) tN), (Str.ofString "port", .int (sd * (pv e : Nat)) tP), (Str.ofString "fits", .ref Fa), (Str.ofString "step", vS), (Str.ofString "side", vD), (Str.ofString "mark", vM), (Str.ofString "tail", vT), (Str.ofString "rules", vR)]))
    (N : News g L s.heap ((I, it) :: (Fa, listOf vs.toArray nn) :: (A, ({ cls := .type "tuple", data := .seq #[.ref Bd, .str (ofL (wd u)) tp, .int tn tt] } : Obj)) :: (Bd, listOf #[.str (rep 34 a1) t1, .str (rep 97 a2) t2, .str (rep 98 a3) t3, .str (rep 99 a4) t4] nb) :: (fixed ++ (opt ++ TT))))
    (hT : TF TT) (hfit : FitOk e sd vs opt) (hfx : ∀ q ∈ fixed, ∀ r ∈ TT, r.1 ≠ q.1) (hAB : A ≠ Fa ∧ Bd ≠ Fa ∧ I ≠ Fa) (hoff : ∀ q ∈ fixed ++ (opt ++ TT), q.1 ≠ Fa ∧ q.1 ≠ I)
    (hend : ∀ h' tk' m' vs' nn' opt' T', Fr g L h' m' → (∀ q ∈ ([(Str.ofString "name", .str (ofL (wd e)) tN), (Str.ofString "port", .int (sd * (pv e : Nat)) tP), (Str.ofString "fits", .ref Fa), (Str.ofString "step", vS), (Str.ofString "side", vD), (Str.ofString "mark", vM), (Str.ofString "tail", vT), (Str.ofString "rules", vR)] : List (Str × Value)), m' q.1 = some q.2) →
      News g L h' ((I, it) :: (Fa, listOf vs'.toArray nn') :: (fixed ++ (opt' ++ T'))) → TF T' → FitOk e sd vs' opt' → vs'.length ≤ vs.length + 1 → (∀ q ∈ fixed ++ (opt' ++ T'), q.1 ≠ Fa ∧ q.1 ≠ I) → (∀ q ∈ fixed, ∀ r ∈ T', r.1 ≠ q.1) → R { s with heap := h', toks := tk' }) :
    wpAny (model prog w) (ktrTop dp uu gd (Str.ofString "law") sc L fa cd cl outer) (assign tg (envX (Str.ofString "law") sc L fa cd cl) (.ref A)) (fun _ s₂ => wpAny (model prog w) (ktrTop dp uu gd (Str.ofString "law") sc L fa cd cl outer) (execs b (envX (Str.ofString "law") sc L fa cd cl)) (TurnEnd R) (fun _ _ => False) s₂) (fun _ _ => False) s := by
  k_with_none
  k_with "my mem" => (first | exact List.mem_cons_self | (refine List.mem_cons_of_mem _ ?_; walk_at "my mem"))
  k_with "my cut" => (first | apply Cut.here | (apply Cut.cons; walk_at "my cut") | (apply Cut.app; walk_at "my cut"))
  k_with "call ref" => (k_here; refine stop_here ?_)
  k_with "call builtin:str.join" => (k_here; k_dflt (first
  | (refine' join_rows_as hl ?kw3jN ?kw3jm ?kw3ja ?kw3jb ?kw3jc ?kw3jd ?_; (case kw3jN => k_asm); (case kw3jm => with_reducible walk_at "my mem"); (case kw3ja => exact h1.2); (case kw3jb => exact h2.2); (case kw3jc => exact h3.2); (case kw3jd => exact h4.2); k_whole)
  | (refine' join_rows_dots ?kw3jx ?kw3jN ?kw3jm ?kw3ja ?kw3jb ?kw3jc ?kw3jd ?_; (case kw3jx => decide +kernel); (case kw3jN => k_asm); (case kw3jm => with_reducible walk_at "my mem"); (case kw3ja => exact h1.2); (case kw3jb => exact h2.2); (case kw3jc => exact h3.2); (case kw3jd => exact h4.2); k_whole)
  | (refine' join_chars ?kw3jN ?kw3jm ?kw3js ?kw3jl ?kw3jx ?_; (case kw3jN => k_asm); (case kw3jm => with_reducible walk_at "my mem"); (case kw3js => assumption); (case kw3jl => (rw [wd_length]; omega)); (case kw3jx => decide +kernel); k_whole)); intro _ _)
  k_with "call type:list" => (k_here; (with_reducible show wpAny _ _ (call (Value.type _) [Value.str _ _]) _ _ _); k_dflt (refine' list_chars ?kw4lh ?kw4lF ?kw4lN ?kw4lx ?_; (case kw4lh => exact rfl); (case kw4lF => k_asm); (case kw4lN => k_asm); (case kw4lx => (rw [ofL_len, wd_length]; omega)); k_whole); intro _ _ _ _ _ _ _ l1 hSg; (rw [ofL_list] at hSg); (try k_lt l1); (try k_sweep))
  k_with "call ref" => (k_here; (with_reducible show wpAny _ _ (call (Value.ref 133) _) _ _ _); k_dflt (
  refine' tel_use (value_tel _ _) ?kw5y7B ?kw5y7F ?kw5y7X ?kw5y7N ?kw5y7T rfl ?kw5y7d ?kw5y7u ?kw5y7p ?_; (case kw5y7B => k_asm); (case kw5y7F => k_asm); (case kw5y7X => k_asm); (case kw5y7N => k_asm); (case kw5y7T => k_asm);
  (case kw5y7p => exact ⟨by rw [ofL_len, wd_length]; omega, fun c hc => wd_mem hc⟩); (case kw5y7d => omega); (case kw5y7u => omega)); intro r h' tk' F' N' st hO; obtain ⟨tv, hO⟩ := hO; rw [ofL_list, valL_wd] at hO; subst hO; clear st; (try k_sweep))
  k_with "binaryOp Mult int int" => (k_here; (first | (refine mul_as hDe hn8 hn9 ?_) | (refine mul_as hq9 hq7 hq8 ?_)); intro _ _)
  k_with "call ref" => (k_here; (with_reducible show wpAny _ _ (call (Value.ref 21) _) _ _ _); k_dflt (
  refine' tel_use (ell_tel _ _ _ _) ?kw7y7B ?kw7y7F ?kw7y7X ?kw7y7N ?kw7y7T rfl ?kw7y7d ?kw7y7u ?kw7y7p ?_; (case kw7y7B => k_asm); (case kw7y7F => k_asm); (case kw7y7X => k_asm); (case kw7y7N => k_asm); (case kw7y7T => k_asm);
  (case kw7y7p => (first | exact ⟨hle3, hle1⟩ | exact ⟨hle2, hle1⟩ | exact ⟨by rw [ofL_len, wd_length]; omega, hle1⟩)); (case kw7y7d => omega); (case kw7y7u => omega)); intro r h' tk' F' N' st hO; (first | rw [hE1] at hO | rw [hE2] at hO | rw [hE3] at hO); subst hO; clear st; (try k_sweep))
  k_with "binaryOp Add str str" => (k_here; (refine add_txt (by first | (simp only [PySem.Str.length_append]; omega)) ?_); intro _ _)
  k_with "exec If" => (k_here; (have _ := hb0); (with_reducible show wpAny _ _ (exec (Stmt.If (PySem.Expr.BoolOp _ _ _) _ _ _) _) _ _ _); refine stop_here ?_)
  k_with "call builtin:list.append" => (k_here; refine stop_here ?_)
  k_with "ite" => (k_here; (first | (with_reducible refine ite_no bne_self_no ?_) | (with_reducible refine ite_no (bne_ff hz9) ?_) | (with_reducible refine ite_no (bool_no hz9) ?_)))
  conv at hb => lhs; whnf
  conv at hsc => lhs; whnf
  conv at htg => lhs; whnf
  dsimp only at hsc
  subst hb
  subst hsc
  subst htg
  have hE2 := ell_rows a1 a2 a3 a4 e
  have hE1 := ell_dots (cOf a1 a2 a3 a4) e hn1
  have hE3 := ell_self (cOf a1 a2 a3 a4) e
  obtain ⟨l, hl⟩ : ∃ l, cOf a1 a2 a3 a4 = l := ⟨_, rfl⟩
  have hl1 : 1 ≤ l.n := hl ▸ hn1
  have hl2 : l.n ≤ 2 := hl ▸ hn2
  have hle1 : (ofL (wd e)).length ≤ 1000 := by rw [ofL_len, wd_length]; omega
  have hle2 : (PySem.Str.join (Str.ofString "...") [rep 34 a1, rep 97 a2, rep 98 a3, rep 99 a4]).length ≤ 1000 := Nat.le_trans (rows_len h1.2 h2.2 h3.2 h4.2 (by decide +kernel)) (by decide)
  have hle3 : (Str.ofString "..." ++ PySem.Str.join (Str.ofString "...") (signsOf (wd l)) ++ Str.ofString "...").length ≤ 1000 := Nat.le_trans (dots_len _) (by omega)
  rw [hl] at hE1 hE2 hE3
  obtain ⟨q, rs, e1, e2, hq9, hrs, hz⟩ := inner_math (l := l) (e := e) hsd htn
  have hD := side_rng 49 rfl htn hl2
  have hP := side_rng 4747561509943 rfl hsd he
  obtain ⟨D, hDe⟩ : ∃ D, tn * (pv l : Nat) = D := ⟨_, rfl⟩
  obtain ⟨Pn, hPe⟩ : ∃ Pn, sd * (pv e : Nat) = Pn := ⟨_, rfl⟩
  rw [hDe] at e1 e2 hq9 hrs hD
  rw [hPe] at e1 e2 hq9 hP
  have hn8 : -(2 ^ 64) < tn := by rcases htn with h | h <;> omega
  have hn9 : tn < 2 ^ 64 := by rcases htn with h | h <;> omega
  obtain ⟨hq7, hq8⟩ := q_small hq9 hD.1 hrs (by omega) (by omega)
  simp only [hPe] at F hend
  have hJ := hle3
  simp only [PySem.Str.length_append] at hJ
  k_steps
  unfold Stop
  refine' telT_call (int_divmod_tel _ _ _ _) ?vB ?vF X ?vN T rfl ?vd ?vu hT ?vc ?vo ?vp ?vr
  (case vB => k_asm)
  (case vF => k_asm)
  (case vN => k_asm)
  (case vd => omega)
  (case vu => omega)
  (case vc => walk_at "my cut")
  (case vo =>
    rename News _ _ _ _ => NN
    refine hT.offs (fun q hq => NN q (by simpa using hq)) ?_
    intro q hq
    simp only [List.mem_cons, List.mem_append, List.append_nil, List.not_mem_nil, or_false] at hq
    rcases hq with rfl | rfl | rfl | rfl | hq | hq
    · exact .inr fun r hr => (hoff r (by simp [hr])).2
    · exact .inr fun r hr => (hoff r (by simp [hr])).1
    · exact .inl ⟨_, _, rfl⟩
    · exact .inl ⟨_, _, rfl⟩
    · exact .inr (hfx q hq)
    · exact .inl (hfit.seqs q hq))
  (case vp => exact fun _ _ => ⟨⟨hD.1, by omega, by omega⟩, by omega, by omega⟩)
  (case vr =>
    intro r1 g1 tk1 T1 F1 N1 hT1 ho1 st1 hO1 hN1
    obtain ⟨R1, x1, y1, rfl, ⟨t5, rfl⟩, ⟨t6, rfl⟩, hR1, hn1'⟩ := hO1
    rw [e1, e2] at hR1
    have hRf := (hN1 R1 _ hR1 hn1').2
    replace N1 := (hN1 R1 _ hR1 hn1').1
    clear hN1 st1 hR1 hn1' hP
    simp only [List.cons_append, List.append_nil, List.append_assoc] at N1
    have hb0 : (rs = 0 ∧ C.le l e) ∨ (rs ≠ 0 ∧ ¬ C.le l e) := by
      rcases Decidable.em (rs = 0) with h0 | h0
      · exact .inl ⟨h0, hz.mp h0⟩
      · exact .inr ⟨h0, fun h => h0 (hz.mpr h)⟩
    clear hz
    k_steps
    unfold Stop
    refine cut_same ?cutA ?cutB
    (case cutA =>
      clear hb0 hE1 hE2 hE3 hle1 hle2 hle3 hJ hend ho1 hRf hoff hT hT1 hfit hfx
      rcases rs_cases hrs with ⟨h0, hD0⟩ | ⟨h0, hD0⟩ | ⟨h0, hD0⟩ | ⟨h0, hD0⟩
      all_goals clear hrs
      all_goals (try subst h0)
      all_goals k_steps
      all_goals first | exact ⟨rfl, _, rfl⟩ | (exfalso; omega))
    (case cutB =>
      intro tkc
      clear hrs
      have hoT : ∀ r ∈ T1, r.1 ≠ Fa ∧ r.1 ≠ I := fun r hr => ⟨ho1 (Fa, listOf vs.toArray nn) (by simp) r hr, ho1 (I, it) (by simp) r hr⟩
      have hxT : ∀ q ∈ fixed, ∀ r ∈ T1, r.1 ≠ q.1 := fun q hq r hr => ho1 q (by simp [hq]) r hr
      clear ho1 hRf
      rcases hb0 with ⟨h0, hle⟩ | ⟨h0, hle⟩
      · replace hE1 := hE1.mpr hle
        replace hE2 := hE2.mpr hle
        subst h0
        k_steps
        unfold Stop
        rename Fr _ _ _ _ => F9
        rename News _ _ _ _ => N9
        rename (_ ∧ _ ∧ _ ∧ _ ∧ _ ∧ _ ∧ AllLt _ _) => l9
        rename_i D9 h9
        obtain ⟨tL, hD9⟩ : ∃ t1, h9.get? D9 = some (fitObj l u tn q t1 tp tt t5) ∧ D9 ≠ L ∧ g.get? D9 = none := ⟨_, N9 _ List.mem_cons_self⟩
        have N8 : News g L h9 ((Fa, listOf vs.toArray nn) :: (D9, fitObj l u tn q tL tp tt t5) :: (I, it) :: (fixed ++ (opt ++ T1))) := by
          intro q hq
          simp only [List.mem_cons, List.mem_append] at hq
          rcases hq with h | rfl | h | h | h | h
          · exact N9 q (by simp [h])
          · exact hD9
          · exact N9 q (by simp [h])
          · exact N9 q (by simp [h])
          · exact N9 q (by simp [h])
          · exact N9 q (by simp [h])
        obtain ⟨opt', hf', ho'⟩ := hfit.step hD9.1 hle hl1 hun htn (by rw [hDe, hPe, hq9, Int.sub_zero])
        have hFo : ∀ q ∈ fixed ++ (opt ++ T1), q.1 ≠ Fa ∧ q.1 ≠ I := by
          intro q hq
          simp only [List.mem_append] at hq
          rcases hq with h | h | h
          · exact hoff q (by simp [h])
          · exact hoff q (by simp [h])
          · exact hoT q h
        have hDF : @Ne Nat D9 Fa ∧ @Ne Nat D9 I := ⟨Nat.ne_of_gt l9.2.2.2.1, Nat.ne_of_gt l9.2.2.1⟩
        refine append_K (D := Fa) F9 N8 (Upd.head ?upd) ?nxt ?siz
        (case siz => (rw [List.size_toArray, sizeLine_eq]; omega))
        (case upd =>
          intro q hq
          rcases List.mem_cons.mp hq with rfl | hq
          · exact hDF.1
          rcases List.mem_cons.mp hq with rfl | hq
          · exact hAB.2.2
          · exact (hFo q hq).1)
        (case nxt =>
          intro h7 F7 N7
          clear N9 F9 N8
          simp only [List.push_toArray] at N7
          k_steps
          rename Fr _ _ _ _ => F9
          rename News _ _ _ _ => N9
          refine ⟨rfl, hend _ _ _ (vs ++ [.ref D9]) (nn + 1) opt' T1 F9 ?ps (fun q hq => N9 q ?suc) hT1 hf' (by simp) ?offc hxT⟩
          (case ps => (intro q hq; simp only [List.mem_cons, List.not_mem_nil, or_false] at hq; rcases hq with rfl | rfl | rfl | rfl | rfl | rfl | rfl | rfl <;> exact rfl))
          (case suc =>
            rcases ho' with rfl | rfl
            · simp only [List.mem_cons, List.mem_append] at hq ⊢
              rcases hq with h | h | h | h | h <;> simp [h]
            · simp only [List.mem_cons, List.mem_append, List.not_mem_nil, or_false] at hq ⊢
              rcases hq with h | h | h | h | h <;> simp [h])
          (case offc =>
            intro q hq
            rcases ho' with rfl | rfl
            · exact hFo q hq
            · simp only [List.mem_append, List.mem_cons, List.not_mem_nil, or_false] at hq
              rcases hq with h | rfl | h
              · exact hFo q (by simp [h])
              · exact hDF
              · exact hoT q h))
      · have hz9 : (rs == 0) = false := by simpa using h0
        replace hE1 := Bool.eq_false_iff.mpr fun h => hle (hE1.mp h)
        replace hE2 := Bool.eq_false_iff.mpr fun h => hle (hE2.mp h)
        k_steps
        rename Fr _ _ _ _ => F9
        rename News _ _ _ _ => N9
        refine ⟨rfl, hend _ _ _ vs nn opt T1 F9 ?ps (fun q hq => N9 q ?sub) hT1 hfit (Nat.le_succ _) ?off hxT⟩
        (case ps => (intro q hq; simp only [List.mem_cons, List.not_mem_nil, or_false] at hq; rcases hq with rfl | rfl | rfl | rfl | rfl | rfl | rfl | rfl <;> exact rfl))
        (case sub => (simp only [List.mem_cons, List.mem_append] at hq ⊢; rcases hq with h | h | h | h | h <;> simp [h]))
        (case off => (intro q hq; simp only [List.mem_append] at hq; rcases hq with h | h | h; exact hoff q (by simp [h]); exact hoff q (by simp [h]); exact hoT q h))))
end
end Mine
namespace Mine
open PySem PySem.W PySem.Spec PySem.Calls PyProof.Rows

theorem Signs.length {l : List Nat} {vs : List Value} (h : Signs l vs) : vs.length = l.length := by
  obtain ⟨ps, rfl, hp⟩ := h
  have := congrArg List.length hp
  simpa [strValues, signsOf] using this
theorem Signs.at {l : List Nat} {vs : List Value} (h : Signs l vs) {i : Nat} (hi : i < vs.length) : ∃ (hi' : i < l.length) (t : Tok), vs[i] = .str ⟨#[l[i]]⟩ t := by
  have hl := h.length
  obtain ⟨ps, rfl, hp⟩ := h
  have hi' : i < l.length := hl ▸ hi
  have hi2 : i < ps.length := by simpa [strValues] using hi
  refine ⟨hi', ps[i].2, ?_⟩
  have h1 : (ps.map (·.1))[i]'(by simpa using hi2) = (signsOf l)[i]'(by simpa [signsOf] using hi') := by simp only [hp]
  rw [List.getElem_map] at h1
  simp only [signsOf, List.getElem_map] at h1
  simp only [strValues, List.getElem_map, h1]
theorem eraseIdx_of_map {α β : Type} (f : α → β) : ∀ (l : List α) (j : Nat), (l.map f).eraseIdx j = (l.eraseIdx j).map f
  | [], _ => by simp
  | _ :: _, 0 => by simp
  | a :: r, j + 1 => by simp [eraseIdx_of_map f r j]
theorem Signs.eraseIdx {l : List Nat} {vs : List Value} (h : Signs l vs) (j : Nat) : Signs (l.eraseIdx j) (vs.eraseIdx j) := by
  obtain ⟨ps, rfl, hp⟩ := h
  refine ⟨ps.eraseIdx j, ?_, ?_⟩
  · unfold strValues; rw [eraseIdx_of_map]
  · rw [← eraseIdx_of_map, hp]; unfold signsOf; rw [eraseIdx_of_map]
theorem Signs.append {l l' : List Nat} {vs vs' : List Value} (h : Signs l vs) (h' : Signs l' vs') : Signs (l ++ l') (vs ++ vs') := by
  obtain ⟨ps, rfl, hp⟩ := h
  obtain ⟨ps', rfl, hp'⟩ := h'
  exact ⟨ps ++ ps', by simp [strValues], by simp [signsOf, hp, hp']⟩
def isSign (c : Nat) : Value → Bool
  | .str x _ => x.cps.toList == [c]
  | _ => false
section
variable {prog : Program} {w : World} {A : Around} {E : Value → Shared → Prop} {s : Shared} {h₀ : Heap} {L D : Addr} {m : PySem.Str → Option Value} {news rest : List (Addr × Obj)} {x : PySem.Str} {t : Tok} {Q : Value → Shared → Prop}
theorem remove_sign {vs : List Value} {l : List Nat} {n c : Nat} (F : Fr h₀ L s.heap m) (N : News h₀ L s.heap ((D, listOf vs.toArray n) :: rest)) (off : ∀ q ∈ rest, q.1 ≠ D) (hs : Signs l vs) (hc : c ∈ l) (hl : l.length ≤ 1000000)
    (h : ∀ h' vs', Fr h₀ L h' m → News h₀ L h' ((D, listOf vs'.toArray (n + 1)) :: rest) → Signs (l.erase c) vs' → Q .none { s with heap := h' }) :
    wpAny (model prog w) A (call (.builtin "list.remove") [.ref D, .str ⟨#[c]⟩ t]) Q E s := by
  have z := N _ List.mem_cons_self
  have hlen := hs.length
  have hj : l.idxOf c < l.length := List.idxOf_lt_length_of_mem hc
  have hjv : l.idxOf c < vs.length := by omega
  have hz' : vs.toArray.size ≤ sizeLine := by rw [List.size_toArray, sizeLine_eq]; omega
  have isv : ∀ i (hi : i < vs.length), isSign c vs[i] = ((l[i]'(by omega)) == c) := by
    intro i hi
    obtain ⟨h1, t', e⟩ := hs.at hi
    rw [e]
    show ([l[i]] == [c]) = _
    simp
  refine call_meets PySem.F.slot_list_remove ⟨_, z.1, rfl⟩ PySem.F.entry_list_remove (PySem.F.args_list_remove_2 _ _)
    (MeetsSeq.list_remove D vs.toArray n (.str ⟨#[c]⟩ t) (isSign c) ?_ (l.idxOf c) (by simpa using hjv) ?_ ?_ hz')
    ⟨z.1, h _ (vs.eraseIdx (l.idxOf c)) (F.change (Heap.SameBut.update ..) z.2.1 z.2.2) ?_ ?_⟩
  · intro y hy
    obtain ⟨i, hi, e⟩ := List.getElem_of_mem (by simpa using hy : y ∈ vs)
    obtain ⟨h1, t', e2⟩ := hs.at hi
    rw [← e, e2]
    exact SeqRoads2.EqGives.str _ _ _ _
  · have := isv _ hjv
    simp only [List.getElem_toArray]
    rw [this, List.getElem_idxOf]
    simp
  · intro i hi hlt
    have hi' : i < vs.length := by simpa using hi
    simp only [List.getElem_toArray]
    rw [isv i hi']
    have := List.not_of_lt_findIdx (p := (· == c)) (xs := l) hlt
    simpa using this
  · have U : Upd D (listOf vs.toArray n) (listOf (vs.eraseIdx (l.idxOf c)).toArray (n + 1)) ((D, listOf vs.toArray n) :: rest) ((D, listOf (vs.eraseIdx (l.idxOf c)).toArray (n + 1)) :: rest) := .head off
    refine ki_turn (pre := []) (post := rest) _ N (fun _ h => by cases h) off ?_ ?_
    · show vs.toArray.eraseIdxIfInBounds _ = _
      apply Array.toList_inj.mp
      simp [Array.toList_eraseIdxIfInBounds]
    · have hq : (vs.eraseIdx (l.idxOf c)).toArray.size ≠ vs.toArray.size := by rw [List.size_toArray, List.size_toArray, List.length_eraseIdx]; split <;> omega
      rw [if_neg (by simpa using hq)]
  · have := hs.eraseIdx (l.idxOf c)
    rwa [← List.erase_eq_eraseIdx_of_idxOf (i := l.idxOf c) rfl] at this
end
/-- a turn's end, or a break -/
def TurnEnd2 (R Rb : Shared → Prop) : Flow → Shared → Prop
  | .next, s => R s
  | .brk, s => Rb s
  | _, _ => False
section
variable {prog : Program} {w : World} {A : Around} {E : Value → Shared → Prop} {s : Shared} {h₀ : Heap} {L a b : Addr} {m : PySem.Str → Option Value} {news rest : List (Addr × Obj)} {Q : Value → Shared → Prop}
theorem empty_eq {vs : List Value} {n n2 : Nat} (N : News h₀ L s.heap news) (h1 : (a, listOf vs.toArray n) ∈ news) (h2 : (b, listOf #[] n2) ∈ news) (hu : A.units < cLine) (h : Q (.bool vs.isEmpty) s) : wpAny (model prog w) A (compareOp .Eq (.ref a) (.ref b)) Q E s := by
  have l1 : s.heap.IsList a vs.toArray := ⟨_, (N _ h1).1, rfl, n, rfl⟩
  have l2 : s.heap.IsList b #[] := ⟨_, (N _ h2).1, rfl, n2, rfl⟩
  cases vs with
  | nil => exact PySem.SeqAt.eq_listAt (e := fun _ => true) l1 l2 rfl hu (fun j h _ => absurd h (Nat.not_lt_zero _)) h
  | cons x r => exact PySem.SeqAt.eq_list_lengthsAt l1 l2 (by simp) hu h
end
end Mine
namespace Mine
open PySem PySem.W PySem.Spec PySem.Calls PyProof.Rows
open Builtin Builtin.Str StrLaws

/-! the reply 257 -/
theorem quote1 : Str.ofString "\"" = ⟨#[34]⟩ := by decide +kernel
theorem quote2 : Str.ofString "\"\"" = ⟨#[34, 34]⟩ := by decide +kernel
def dbled (e : C) : PySem.Str := Txt.replace (ofL (wd e)) (Str.ofString "\"") (Str.ofString "\"\"")
theorem dbled_list (e : C) : (dbled e).cps.toList = dbl 34 (wd e) := by
  unfold dbled
  rw [quote1, quote2, replace_double]
  rfl
theorem dbl_len (c : Nat) : ∀ l : List Nat, (dbl c l).length ≤ 2 * l.length
  | [] => Nat.le_refl _
  | a :: l => by
    have := dbl_len c l
    unfold dbl
    split <;> simp only [List.length_cons, List.length_append, List.length_nil] at * <;> omega
theorem dbled_len (e : C) : (dbled e).length ≤ 2 * e.n := by
  rw [← len_list, dbled_list]
  have := dbl_len 34 (wd e)
  rwa [wd_length] at this
def text257 (e : C) (tl : PySem.Str) : PySem.Str := Str.ofString "257 \"" ++ dbled e ++ Str.ofString "\"" ++ tl
theorem text257_list (e : C) (tl : PySem.Str) : (text257 e tl).cps.toList = [50, 53, 55, 32, 34] ++ (dbl 34 (wd e) ++ 34 :: tl.cps.toList) := by
  unfold text257
  simp only [Str.cps_append, Array.toList_append, dbled_list]
  rw [show (Str.ofString "257 \"").cps.toList = [50, 53, 55, 32, 34] from by decide +kernel, show (Str.ofString "\"").cps.toList = [34] from by decide +kernel]
  simp
theorem text257_ok {e : C} {tl : PySem.Str} (he : e.n ≤ 11) (h1 : tl.cps.toList.head? ≠ some 34) (h2 : tl.length ≤ 20) :
    ((text257 e tl).length ≤ 1000 ∧ Txt.slice (text257 e tl) none (some 3) = Str.ofString "257" ∧ Txt.slice (text257 e tl) (some 3) (some 5) = Str.ofString " \"") ∧ (⟨(undbl ((text257 e tl).cps.toList.drop 5)).toArray⟩ : PySem.Str) = ofL (wd e) := by
  have hL := text257_list e tl
  have hn : (text257 e tl).length = 6 + (dbl 34 (wd e)).length + tl.length := by
    rw [← len_list, hL]
    simp only [List.length_append, List.length_cons, List.length_nil, len_list]
    omega
  have hd := dbl_len 34 (wd e)
  rw [wd_length] at hd
  refine ⟨⟨by omega, ?_, ?_⟩, ?_⟩
  · apply str_inj
    rw [slice_to (by decide) (by omega), hL]
    show [50, 53, 55] = _
    decide +kernel
  · apply str_inj
    rw [slice_mid (by decide) (by decide) (by omega), hL]
    show [32, 34] = _
    decide +kernel
  · rw [hL]
    show (⟨(undbl (dbl 34 (wd e) ++ 34 :: tl.cps.toList)).toArray⟩ : PySem.Str) = _
    rw [undbl_dbl _ _ h1]
    rfl
/-! the reply 229 -/
def text229 (c : Nat) (n : Int) : PySem.Str := Str.ofString "229 Entering (" ++ rep c 3 ++ Str.ofString (toString n) ++ ⟨#[c]⟩ ++ Str.ofString ")"
theorem text229_ok {c : Nat} {n : Int} (hc : c = 124 ∨ c = 33 ∨ c = 120 ∨ c = 47) (h0 : -(10 ^ 10) < n) (h1 : n < 10 ^ 10) : (Str.ofString (toString n)).length ≤ 20 ∧ ∃ L R p0 p1 p2 p4, P229 (text229 c n) c L R p0 p1 p2 (Str.ofString (toString n)) p4 n := by
  obtain ⟨a, b, d⟩ := num_text h0 h1
  refine ⟨d, ?_⟩
  have hx : (text229 c n).cps.toList = pre229 ++ ([c, c, c] ++ ((Str.ofString (toString n)).cps.toList ++ [c, 41])) := by
    unfold text229
    simp only [Str.cps_append, Array.toList_append, rep_list]
    rw [show (Str.ofString "229 Entering (").cps.toList = pre229 from by decide +kernel, show (Str.ofString ")").cps.toList = [41] from by decide +kernel]
    simp [List.replicate]
  exact p229_of hx (by omega) (by omega) (fun h => by have := b c h; omega) (fun h => by have := b 41 h; omega) d a
/-! words as lists of signs -/
theorem wd_cnt (e : C) (c : Nat) : (wd e).count c = if c = 34 then e.a else if c = 97 then e.b else if c = 98 then e.c else if c = 99 then e.d else 0 := by
  obtain ⟨h1, h2, h3, h4⟩ := wd_count e
  split
  · next h => rw [h]; exact h1
  split
  · next h => rw [h]; exact h2
  split
  · next h => rw [h]; exact h3
  split
  · next h => rw [h]; exact h4
  next n1 n2 n3 n4 =>
    apply List.count_eq_zero_of_not_mem
    intro hm
    rcases wd_mem hm with h | h | h | h <;> contradiction
theorem wd_split {l e : C} (h : C.le l e) : (wd e).Perm (wd l ++ wd (e.sub l)) := by
  rw [List.perm_iff_count]
  intro c
  obtain ⟨h1, h2, h3, h4⟩ := h
  rw [List.count_append, wd_cnt, wd_cnt, wd_cnt]
  simp only [C.sub]
  split
  · omega
  split
  · omega
  split
  · omega
  split <;> omega
theorem wd_join (e u : C) : (wd e ++ wd u).Perm (wd (e.add u)) := by
  rw [List.perm_iff_count]
  intro c
  rw [List.count_append, wd_cnt, wd_cnt, wd_cnt]
  simp only [C.add]
  split
  · omega
  split
  · omega
  split
  · omega
  split <;> omega
theorem sorted_eq : ∀ {l l' : List Nat}, l.Pairwise (· ≤ ·) → l'.Pairwise (· ≤ ·) → l.Perm l' → l = l'
  | [], l', _, _, h => (List.Perm.nil_eq h)
  | a :: l, [], _, _, h => by have := h.length_eq; simp at this
  | a :: l, b :: l', h1, h2, h => by
    obtain ⟨x1, y1⟩ := List.pairwise_cons.mp h1
    obtain ⟨x2, y2⟩ := List.pairwise_cons.mp h2
    have e1 : a = b := by
      have m1 : a ∈ b :: l' := h.mem_iff.mp List.mem_cons_self
      have m2 : b ∈ a :: l := h.mem_iff.mpr List.mem_cons_self
      rcases List.mem_cons.mp m1 with h | h
      · exact h
      · rcases List.mem_cons.mp m2 with h' | h'
        · exact h'.symm
        · exact Nat.le_antisymm (x1 _ h') (x2 _ h)
    subst e1
    rw [sorted_eq y1 y2 (List.perm_cons a |>.mp h)]
theorem rep_sorted (c n : Nat) : (List.replicate n c).Pairwise (· ≤ ·) := List.pairwise_replicate.mpr (.inr (Nat.le_refl _))
theorem wd_sorted (e : C) : (wd e).Pairwise (· ≤ ·) := by
  unfold wd
  refine List.pairwise_append.mpr ⟨rep_sorted _ _, List.pairwise_append.mpr ⟨rep_sorted _ _, List.pairwise_append.mpr ⟨rep_sorted _ _, rep_sorted _ _, ?_⟩, ?_⟩, ?_⟩ <;>
  · intro a ha b hb
    simp only [List.mem_append, List.mem_replicate] at ha hb
    omega
theorem rising_le : ∀ (l : List Nat) (c : Nat), risingS ⟨#[c]⟩ (signsOf l) = true → (c :: l).Pairwise (· ≤ ·)
  | [], c, _ => by simp
  | a :: l, c, h => by
    have h' : (!(ltCps [a] [c]) && risingS ⟨#[a]⟩ (signsOf l)) = true := h
    rw [Bool.and_eq_true] at h'
    have h2 := rising_le l a h'.2
    have h3 : c ≤ a := by
      have := h'.1
      simp [ltCps] at this
      omega
    refine List.pairwise_cons.mpr ⟨fun x hx => ?_, h2⟩
    rcases List.mem_cons.mp hx with rfl | hx
    · exact h3
    · exact Nat.le_trans h3 ((List.pairwise_cons.mp h2).1 x hx)
theorem sortedS_le : ∀ {l : List Nat}, sortedS (signsOf l) = true → l.Pairwise (· ≤ ·)
  | [], _ => .nil
  | a :: l, h => rising_le l a h
theorem signsOf_perm {ss : List PySem.Str} {l : List Nat} (h : ss.Perm (signsOf l)) : ∃ l', ss = signsOf l' ∧ l'.Perm l := by
  refine ⟨ss.map fun x => x.cps.toList.headD 0, ?_, ?_⟩
  · unfold signsOf
    rw [List.map_map]
    conv => lhs; rw [← List.map_id ss]
    apply List.map_congr_left
    intro x hx
    obtain ⟨c, _, rfl⟩ := List.mem_map.mp (h.mem_iff.mp hx)
    rfl
  · have := h.map fun x : PySem.Str => x.cps.toList.headD 0
    unfold signsOf at this
    rw [List.map_map] at this
    simpa [Function.comp_def] using this
theorem Signs.strs {l : List Nat} {vs : List Value} (h : Signs l vs) : StrsAre vs (signsOf l) := by
  obtain ⟨ps, rfl, hp⟩ := h
  rw [← hp]
  clear hp
  induction ps with
  | nil => exact .nil
  | cons a r ih => exact .cons _ _ ih
theorem strs_signs : ∀ {vs : List Value} {ss : List PySem.Str}, StrsAre vs ss → ∀ {l : List Nat}, ss = signsOf l → Signs l vs := by
  intro vs ss h
  induction h with
  | nil => intro l e; exact ⟨[], rfl, e⟩
  | cons y t h ih =>
    intro l e
    cases l with
    | nil => cases e
    | cons a r =>
      rw [signsOf, List.map_cons, List.cons.injEq] at e
      obtain ⟨ps, rfl, hp⟩ := ih e.2
      exact ⟨(y, t) :: ps, rfl, by rw [List.map_cons, hp, e.1]; rfl⟩
theorem sorted_word {vs : List Value} {ss : List PySem.Str} {l : List Nat} {f : C} (h1 : StrsAre vs ss) (h2 : ss.Perm (signsOf l)) (h3 : sortedS ss = true) (h4 : l.Perm (wd f)) : Signs (wd f) vs := by
  obtain ⟨l', rfl, h5⟩ := signsOf_perm h2
  rw [sorted_eq (wd_sorted f) (sortedS_le h3) (h5.trans h4).symm]
  exact strs_signs h1 rfl
theorem join_word (l : List Nat) : PySem.Str.join (Str.ofString "") (signsOf l) = ofL l := by
  apply str_inj
  rw [join_flat, signs_lists, show (Str.ofString "").cps.toList = [] from by decide +kernel, ofL_list]
  induction l with
  | nil => rfl
  | cons a r ih =>
    cases r with
    | nil => rfl
    | cons b r => simp only [List.map_cons, flat, List.append_nil] at ih ⊢; rw [ih]; rfl
/-! the number behind a step -/
theorem next_num {e l u : C} {sd tn q : Int} (hle : C.le l e) (ht : Side tn) (h : q * (tn * (pv l : Nat)) = sd * (pv e : Nat)) : q * (pv u : Nat) = sd * tn * (pv ((e.sub l).add u) : Nat) := by
  have h1 := pv_sub hle
  have h2 := pv_pos l
  have h3 : q = sd * tn * (pv (e.sub l) : Nat) := by
    have hp : (pv l : Int) ≠ 0 := by omega
    apply Int.eq_of_mul_eq_mul_right hp
    have : (pv e : Int) = (pv (e.sub l) : Nat) * (pv l : Nat) := by rw [← h1]; exact Int.natCast_mul _ _
    rw [this] at h
    rcases ht with rfl | rfl
    · rw [Int.one_mul] at h; rw [h]; simp [Int.mul_assoc]
    · have h' : q * (pv l : Nat) = -(sd * ((pv (e.sub l) : Nat) * (pv l : Nat))) := by
        have : q * (-1 * (pv l : Nat)) = -(q * (pv l : Nat)) := by rw [Int.neg_one_mul, Int.mul_neg]
        omega
      rw [h']
      simp [Int.mul_assoc, Int.neg_mul]
  rw [h3, pv_add, Int.natCast_mul, Int.mul_assoc]
theorem next_size {e l u : C} {k : Nat} (hle : C.le l e) (h1 : 1 ≤ l.n) (h2 : u.n ≤ 2) (h3 : e.n ≤ k) : ((e.sub l).add u).n ≤ k + 1 := by
  obtain ⟨a, b, c, d⟩ := hle
  simp only [C.n, C.add, C.sub] at *
  omega
theorem side_mul {a b : Int} (h1 : Side a) (h2 : Side b) : Side (a * b) := by
  rcases h1 with rfl | rfl <;> rcases h2 with rfl | rfl <;> first | exact .inl rfl | exact .inr rfl
theorem int_nn1 {a : Int} : ¬ ((a != a) = true) := by simp
theorem int_nn2 {a : Int} : ¬ (decide (a ≠ a) = true) := by simp
theorem int_nn3 {a : Int} : ¬ (a ≠ a) := by simp
section
variable {prog : Program} {w : World} {A : Around} {E : Value → Shared → Prop} {s : Shared} {h₀ : Heap} {L a b : Addr} {m : PySem.Str → Option Value} {news : List (Addr × Obj)} {t : Tok} {Q : Value → Shared → Prop}
theorem add_signs {vs vs' : List Value} {l l' : List Nat} {n n' : Nat} (F : Fr h₀ L s.heap m) (N : News h₀ L s.heap news) (h1 : (a, listOf vs.toArray n) ∈ news) (h2 : (b, listOf vs'.toArray n') ∈ news) (hs : Signs l vs) (hs' : Signs l' vs') (hz : l.length + l'.length ≤ 100000)
    (h : ∀ D h', Fr h₀ L h' m → News h₀ L h' ((D, listOf (vs ++ vs').toArray 0) :: news) → (∀ q ∈ news, q.1 < D) → Signs (l ++ l') (vs ++ vs') → Q (.ref D) { s with heap := h' }) :
    wpAny (model prog w) A (binaryOp .Add (.ref a) (.ref b)) Q E s := by
  refine add_arrays (its := vs.toArray) (its2 := vs'.toArray) (hsz := by have := hs.length; have := hs'.length; rw [sizeLine_eq, List.size_toArray, List.size_toArray]; omega) F N ⟨_, (N _ h1).1, rfl, n, rfl⟩ ⟨_, (N _ h2).1, rfl, n', rfl⟩ fun h' F' N' => ?_
  exact h _ h' F' N' (fun q hq => Heap.lt_size (N q hq).1) (hs.append hs')
theorem sort_signs {vs : List Value} {l : List Nat} {n : Nat} {f : C} (hp : l.Perm (wd f)) (F : Fr h₀ L s.heap m) (N : News h₀ L s.heap news) (h1 : (a, listOf vs.toArray n) ∈ news) (hs : Signs l vs) (hz : l.length < 64)
    (h : ∀ D vs' c h', Fr h₀ L h' m → News h₀ L h' ((D, listOf vs'.toArray c) :: news) → (∀ q ∈ news, q.1 < D) → Signs (wd f) vs' → Q (.ref D) { s with heap := h' }) :
    wpAny (model prog w) A (call (.builtin "sorted") [.ref a]) Q E s := by
  refine sorted_N_str F N ⟨_, (N _ h1).1, rfl, n, rfl⟩ hs.strs (by rw [hs.length]; exact hz) fun h' vs' ss' c F' N' a1 a2 a3 => ?_
  exact h _ vs' c h' F' N' (fun q hq => Nat.lt_succ_of_lt (Heap.lt_size (N q hq).1)) (sorted_word a1 a2 a3 hp)
theorem join_signs {vs : List Value} {l : List Nat} {n : Nat} (N : News h₀ L s.heap news) (hm : (a, listOf vs.toArray n) ∈ news) (hs : Signs l vs) (hl : l.length ≤ 100000)
    (h : ∀ t' k, Q (.str (ofL l) t') { s with toks := k }) : wpAny (model prog w) A (call (.builtin "str.join") [.str (Str.ofString "") t, .ref a]) Q E s :=
  join_chars N hm hs hl (by decide +kernel) fun t' k => by rw [join_word]; exact h t' k
end
theorem q_bound {q D P : Int} (h : q * D = P) (hD : D ≠ 0) (hP : -(2 ^ 62) < P ∧ P < 2 ^ 62) : -(2 ^ 64) < q ∧ q < 2 ^ 64 := by
  have h1 : q.natAbs ≤ (q * D).natAbs := by
    rw [Int.natAbs_mul]
    exact Nat.le_mul_of_pos_right _ (by omega)
  rw [h] at h1
  omega
end Mine
namespace Mine
open PySem PySem.W PySem.Spec PySem.Calls PyProof.Rows
/-! what the head of the law makes -/
theorem item_mark {k : Int} (h0 : 0 ≤ k) (h1 : k < 4) : ∃ c, (c = 124 ∨ c = 33 ∨ c = 120 ∨ c = 47) ∧ Txt.item (Str.ofString "|!x/") k = ⟨#[c]⟩ := by
  have : k = 0 ∨ k = 1 ∨ k = 2 ∨ k = 3 := by omega
  rcases this with rfl | rfl | rfl | rfl
  · exact ⟨124, .inl rfl, by decide +kernel⟩
  · exact ⟨33, .inr (.inl rfl), by decide +kernel⟩
  · exact ⟨120, .inr (.inr (.inl rfl)), by decide +kernel⟩
  · exact ⟨47, .inr (.inr (.inr rfl)), by decide +kernel⟩
theorem side_of (x : Int) : Side (1 - 2 * x.fmod 2) := by
  have := fm_lt (a := x) 2 (by decide)
  unfold Side
  omega
def TailOk (x : PySem.Str) : Prop := x.cps.toList.head? ≠ some 34 ∧ x.length ≤ 20
theorem tail_ok {x : PySem.Str} (h : x = Str.ofString "" ∨ x = Str.ofString " is there" ∨ x = Str.ofString " \"now\"") : TailOk x := by
  rcases h with rfl | rfl | rfl
  · exact ⟨by decide +kernel, by decide +kernel⟩
  · exact ⟨by decide +kernel, by decide +kernel⟩
  · exact ⟨by decide +kernel, by decide +kernel⟩
section
variable {prog : Program} {w : World} {A : Around} {E : Value → Shared → Prop} {s : Shared} {h₀ : Heap} {L D : Addr} {m : PySem.Str → Option Value} {news : List (Addr × Obj)} {Q : Value → Shared → Prop}
theorem pick3 {value slice : PySem.Expr} {x0 x1 x2 : PySem.Str} {t0 t1 t2 : Tok} {n : Nat} {k : Int} {u : Tok} (N : News h₀ L s.heap news) (hm : (D, listOf #[.str x0 t0, .str x1 t1, .str x2 t2] n) ∈ news) (h0 : 0 ≤ k) (h3 : k < 3)
    (h : ∀ x t, (x = x0 ∨ x = x1 ∨ x = x2) → Q (.str x t) s)
    (hs : subscripted slice false (.ref D) (.int k u) = operate [.ref D, .int k u] (getItem (.ref D) (.int k u))) :
    wpAny (model prog w) A (subscriptTail value slice (.ref D) (.int k u)) Q E s := by
  have hl : s.heap.IsList D #[.str x0 t0, .str x1 t1, .str x2 t2] := ⟨_, (N _ hm).1, rfl, n, rfl⟩
  have : k = 0 ∨ k = 1 ∨ k = 2 := by omega
  rcases this with rfl | rfl | rfl
  · exact tail_any hl.typeIs F.slot_list_getitem.lookup (wpAny_getItem_list hl (by decide) (by decide) rfl (h _ t0 (.inl rfl))) hs
  · exact tail_any hl.typeIs F.slot_list_getitem.lookup (wpAny_getItem_list hl (by decide) (by decide) rfl (h _ t1 (.inr (.inl rfl)))) hs
  · exact tail_any hl.typeIs F.slot_list_getitem.lookup (wpAny_getItem_list hl (by decide) (by decide) rfl (h _ t2 (.inr (.inr rfl)))) hs
end
/-! a rule's counts -/
theorem low_cnt {a b : Int} (ha : 0 ≤ a) (ha' : a < 4) (hb : 0 ≤ b) (hb' : b < 5) : 1 ≤ (cOf (cnt a b 0) (cnt a b 1) (cnt a b 2) (cnt a b 3)).n ∧ (cOf (cnt a b 0) (cnt a b 1) (cnt a b 2) (cnt a b 3)).n ≤ 2 := by
  have h1 : a = 0 ∨ a = 1 ∨ a = 2 ∨ a = 3 := by omega
  have h2 : b = 0 ∨ b = 1 ∨ b = 2 ∨ b = 3 ∨ b = 4 := by omega
  rcases h1 with rfl | rfl | rfl | rfl <;> rcases h2 with rfl | rfl | rfl | rfl | rfl <;> decide
theorem up_cnt {a b : Int} (ha : 0 ≤ a) (ha' : a < 5) (hb : 0 ≤ b) (hb' : b < 5) : (cOf (cnt a b 0) (cnt a b 1) (cnt a b 2) (cnt a b 3)).n ≤ 2 := by
  have h1 : a = 0 ∨ a = 1 ∨ a = 2 ∨ a = 3 ∨ a = 4 := by omega
  have h2 : b = 0 ∨ b = 1 ∨ b = 2 ∨ b = 3 ∨ b = 4 := by omega
  rcases h1 with rfl | rfl | rfl | rfl | rfl <;> rcases h2 with rfl | rfl | rfl | rfl | rfl <;> decide
def upC (c : Int) : C := cOf (cnt (upA c) (upB c) 0) (cnt (upA c) (upB c) 1) (cnt (upA c) (upB c) 2) (cnt (upA c) (upB c) 3)
theorem put_is (c : Int) : putOf c = ofL (wd (upC c)) := join_rows _ _ _ _
theorem rule_facts (c : Int) : (1 ≤ (cOf (cnt (lowA c) (lowB c) 0) (cnt (lowA c) (lowB c) 1) (cnt (lowA c) (lowB c) 2) (cnt (lowA c) (lowB c) 3)).n ∧ (cOf (cnt (lowA c) (lowB c) 0) (cnt (lowA c) (lowB c) 1) (cnt (lowA c) (lowB c) 2) (cnt (lowA c) (lowB c) 3)).n ≤ 2) ∧ (upC c).n ≤ 2 ∧ Side (turnOf c) := by
  have h1 := fm_lt (a := c) 4 (by decide)
  have h2 := fm_lt (a := c.fdiv 4) 5 (by decide)
  have h3 := fm_lt (a := c.fdiv 20) 5 (by decide)
  have h4 := fm_lt (a := c.fdiv 100) 5 (by decide)
  exact ⟨low_cnt h1.1 h1.2 h2.1 h2.2, up_cnt h3.1 h3.2 h4.1 h4.2, side_of _⟩
theorem frame_five {g h : Heap} {L : Addr} {m : Str → Option Value} {wv mk tl : Str} {sv nv : Int} (F : Fr g L h m) (h1 : ∃ t, m (Str.ofString "word") = some (.str wv t)) (h2 : ∃ t, m (Str.ofString "side") = some (.int sv t)) (h3 : ∃ t, m (Str.ofString "number") = some (.int nv t))
    (h4 : ∃ t, m (Str.ofString "mark") = some (.str mk t)) (h5 : ∃ t, m (Str.ofString "tail") = some (.str tl t)) :
    ∃ um t1 t2 t3 t4 t5, Fr g L h (kstB um [(Str.ofString "word", .str wv t1), (Str.ofString "side", .int sv t2), (Str.ofString "number", .int nv t3), (Str.ofString "mark", .str mk t4), (Str.ofString "tail", .str tl t5)]) := by
  obtain ⟨t1, h1⟩ := h1
  obtain ⟨t2, h2⟩ := h2
  obtain ⟨t3, h3⟩ := h3
  obtain ⟨t4, h4⟩ := h4
  obtain ⟨t5, h5⟩ := h5
  refine ⟨m, t1, t2, t3, t4, t5, kst_as ?_ F⟩
  intro q hq
  simp only [List.mem_cons, List.not_mem_nil, or_false] at hq
  rcases hq with rfl | rfl | rfl | rfl | rfl <;> assumption
theorem start_n {a b c d : Int} : (cOf (a.fmod 3) (b.fmod 3) (c.fmod 3) (d.fmod 2)).n ≤ 7 := by
  have h1 := fm_lt (a := a) 3 (by decide)
  have h2 := fm_lt (a := b) 3 (by decide)
  have h3 := fm_lt (a := c) 3 (by decide)
  have h4 := fm_lt (a := d) 2 (by decide)
  simp only [C.n, cOf]
  omega
theorem start_num (x : Int) (e : C) (t : Tok) : some (Value.int (x * valL (ofL (wd e)).cps.toList) t) = some (Value.int (x * (pv e : Nat)) t) := by rw [ofL_list, valL_wd]
theorem off_new {h₀ h : Heap} {L R : Addr} {news : List (Addr × Obj)} (N : News h₀ L h news) (hn : h.get? R = none) : ∀ q ∈ news, q.1 ≠ R := fun q hq e => by
  have := (N q hq).1
  rw [e, hn] at this; cases this
end Mine
namespace Mine
open PySem PySem.W PySem.Spec PySem.Calls PyProof.Rows
structure RD where
  A : Addr
  B : Addr
  a : Int
  b : Int
  c : Int
  d : Int
  t1 : Tok
  t2 : Tok
  t3 : Tok
  t4 : Tok
  nn : Nat
  u : C
  tp : Tok
  tn : Int
  tt : Tok
def RD.led (r : RD) : List (Addr × Obj) := [(r.A, ({ cls := .type "tuple", data := .seq #[.ref r.B, .str (ofL (wd r.u)) r.tp, .int r.tn r.tt] } : Obj)), (r.B, listOf #[.str (rep 34 r.a) r.t1, .str (rep 97 r.b) r.t2, .str (rep 98 r.c) r.t3, .str (rep 99 r.d) r.t4] r.nn)]
def RD.ok (r : RD) : Prop := (0 ≤ r.a ∧ r.a ≤ 100) ∧ (0 ≤ r.b ∧ r.b ≤ 100) ∧ (0 ≤ r.c ∧ r.c ≤ 100) ∧ (0 ≤ r.d ∧ r.d ≤ 100) ∧ 1 ≤ (cOf r.a r.b r.c r.d).n ∧ (cOf r.a r.b r.c r.d).n ≤ 2 ∧ r.u.n ≤ 2 ∧ Side r.tn
theorem RD.seqs (r : RD) : Seqs r.led := by
  intro q hq
  simp only [RD.led, List.mem_cons, List.not_mem_nil, or_false] at hq
  rcases hq with rfl | rfl <;> exact ⟨_, _, rfl⟩
theorem rule_rd {c : Int} {g h' : Heap} {r : Value} (h : RuleOut c g h' r) : ∃ rd : RD, r = .ref rd.A ∧ rd.ok ∧ ∀ q ∈ rd.led, h'.get? q.1 = some q.2 ∧ g.get? q.1 = none := by
  obtain ⟨R, Rr, oR, oRr, ⟨vs, n, tp, tt, rfl, rfl, rfl, ⟨t1, t2, t3, t4, rfl⟩, hg1, hg2⟩, hn1, hn2⟩ := h
  obtain ⟨⟨x1, x2⟩, x3, x4⟩ := rule_facts c
  refine ⟨⟨R, Rr, cnt (lowA c) (lowB c) 0, cnt (lowA c) (lowB c) 1, cnt (lowA c) (lowB c) 2, cnt (lowA c) (lowB c) 3, t1, t2, t3, t4, n, upC c, tp, turnOf c, tt⟩, rfl, ⟨cnt_ok _ _ _, cnt_ok _ _ _, cnt_ok _ _ _, cnt_ok _ _ _, x1, x2, x3, x4⟩, ?_⟩
  intro q hq
  simp only [RD.led, List.mem_cons, List.not_mem_nil, or_false] at hq
  rcases hq with rfl | rfl
  · refine ⟨?_, hn1⟩
    show h'.get? R = some _
    rw [hg1, put_is]
  · exact ⟨hg2, hn2⟩
theorem news_rd {rd : RD} {h₀ h h' : Heap} {L : Addr} {m : Str → Option Value} {news : List (Addr × Obj)} (hr : ∀ q ∈ rd.led, h'.get? q.1 = some q.2 ∧ h.get? q.1 = none) (N : News h₀ L h' news) (F : Fr h₀ L h m) : News h₀ L h' (news ++ rd.led) := by
  intro q hq
  rcases List.mem_append.mp hq with hq | hq
  · exact N q hq
  · exact new_at (hr q hq).1 (hr q hq).2 N F q List.mem_cons_self
theorem off3_of {I C D : Addr} : ∀ {l : List (Addr × Obj)}, (∀ q ∈ l, q.1 ≠ I ∧ q.1 ≠ C ∧ q.1 ≠ D) → LCg.Off3 I C D l
  | [], _ => True.intro
  | _ :: _, h => ⟨h _ List.mem_cons_self, off3_of fun q hq => h q (List.mem_cons_of_mem _ hq)⟩
theorem off3_at {I C D : Addr} : ∀ {l : List (Addr × Obj)}, LCg.Off3 I C D l → ∀ q ∈ l, q.1 ≠ I ∧ q.1 ≠ C ∧ q.1 ≠ D
  | [], _, q, hq => by cases hq
  | _ :: _, h, q, hq => by
    rcases List.mem_cons.mp hq with rfl | hq
    · exact h.1
    · exact off3_at h.2 q hq
theorem off3_app {I C D : Addr} {a b : List (Addr × Obj)} (h1 : LCg.Off3 I C D a) (h2 : ∀ q ∈ b, q.1 ≠ I ∧ q.1 ≠ C ∧ q.1 ≠ D) : LCg.Off3 I C D (a ++ b) :=
  off3_of fun q hq => (List.mem_append.mp hq).elim (off3_at h1 q) (h2 q)
theorem off3_new {h₀ h h' : Heap} {L I C D : Addr} {oI oC oD : Obj} {news : List (Addr × Obj)} {rd : RD} (N : News h₀ L h ((I, oI) :: (C, oC) :: (D, oD) :: news)) (hr : ∀ q ∈ rd.led, h'.get? q.1 = some q.2 ∧ h.get? q.1 = none) : ∀ q ∈ rd.led, q.1 ≠ I ∧ q.1 ≠ C ∧ q.1 ≠ D := by
  intro q hq
  have hn := (hr q hq).2
  refine ⟨fun e => ?_, fun e => ?_, fun e => ?_⟩
  · rw [e, (N _ List.mem_cons_self).1] at hn; cases hn
  · rw [e, (N _ (List.mem_cons_of_mem _ List.mem_cons_self)).1] at hn; cases hn
  · rw [e, (N _ (List.mem_cons_of_mem _ (List.mem_cons_of_mem _ List.mem_cons_self))).1] at hn; cases hn
end Mine
namespace Mine
open PySem PySem.W PySem.Spec PySem.Calls PyProof.Rows
section
variable {prog : Program} {w : World} {p : Program} {loose : List Str} {mean : ExcName → Option Value} {mg mb : Str → Option Value}
theorem turnS {b : List Stmt} {sc : Scope} (hb : loopS = b) (hsc : lawSc = sc) {dp uu : Nat} {gd : Option (List Code)} {fa : Addr} {cd : Value} {cl : List (Str × Addr)} {outer : List Env} {A₀ : Around} {base g : Heap} {L : Addr} {s : Shared}
    {um : Str → Option Value} {c n : Nat} {lst : List Nat} {I Sg : Addr} {it : Obj} {vs : List Value} {keep : List (Addr × Obj)} {uk : Tok} {R : Shared → Prop}
    (B : Below A₀ base outer g) (X : (hd.heap_39 w.params).In g) (T : Top p loose mean mg mb g) (hd : dp + 300 < recursionLimit) (hu : uu + 1300 < cLine)
    (F : Fr g L s.heap (fun y => if y = Str.ofString "sign" then some (.str ⟨#[c]⟩ uk) else if y = Str.ofString "signs" then some (.ref Sg) else um y))
    (N : News g L s.heap ((I, it) :: (Sg, listOf vs.toArray n) :: keep)) (hs : Signs lst vs) (hc : c ∈ lst) (hl : lst.length ≤ 1000) (hoff : ∀ q ∈ keep, q.1 ≠ Sg) (hI : I ≠ Sg)
    (hend : ∀ h' tk' vs', Fr g L h' (fun y => if y = Str.ofString "sign" then some (.str ⟨#[c]⟩ uk) else if y = Str.ofString "signs" then some (.ref Sg) else um y) → News g L h' ((I, it) :: (Sg, listOf vs'.toArray (n + 1)) :: keep) → Signs (lst.erase c) vs' → R { s with heap := h', toks := tk' }) :
    wpAny (model prog w) (ktrTop dp uu gd (Str.ofString "law") sc L fa cd cl outer) (execs b (envX (Str.ofString "law") sc L fa cd cl)) (TurnEnd R) (fun _ _ => False) s := by
  k_with_none
  k_with "call builtin:list.remove" => (k_here; refine stop_here ?_)
  conv at hb => lhs; whnf
  conv at hsc => lhs; whnf
  dsimp only at hsc
  subst hb
  subst hsc
  k_steps
  unfold Stop
  rename Fr _ _ _ _ => F9
  rename News _ _ _ _ => N9
  have N8 : News g L s.heap ((Sg, listOf vs.toArray n) :: (I, it) :: keep) := fun q hq => N9 q (by simp only [List.mem_cons] at hq ⊢; rcases hq with h | h | h <;> simp [h])
  refine remove_sign F9 N8 (by intro q hq; rcases List.mem_cons.mp hq with rfl | hq; exact hI; exact hoff q hq) hs hc (by omega) ?_
  intro h7 vs7 F7 N7 hs7
  clear N9 F9 N8
  k_steps
  rename Fr _ _ _ _ => F9
  rename News _ _ _ _ => N9
  exact ⟨rfl, hend _ _ vs7 F9 (fun q hq => N9 q (by simp only [List.mem_cons] at hq ⊢; rcases hq with h | h | h <;> simp [h])) hs7⟩
end
end Mine
namespace Mine
open PySem PySem.W PySem.Spec PySem.Calls PyProof.Rows
section
variable {prog : Program} {w : World} {p : Program} {loose : List Str} {mean : ExcName → Option Value} {mg mb : Str → Option Value}
theorem p229_telE (x : Str) (t : Tok) (P : Addr) (c : Nat) (L R : Int) (p0 p1 p2 d p4 : Str) (pn : Int) : Tel prog w (hd.heap_39 w.params) p loose mean mg mb 107 10 100 [.str x t, .ref P] (fun h => (∃ u v, IsTup h P #[.str (Str.ofString "here") u, .int 21 v]) ∧ P229 x c L R p0 p1 p2 d p4 pn) (fun g h' r => PairOut (IsS (Str.ofString "here")) (IsI pn) g h' r) := by
  intro dp uu gd cn cs a ccd cl outer A₀ base h₀ L' m s Q E B F X T hk hd hu hpre hret
  obtain ⟨⟨u, v, h1⟩, h2⟩ := hpre
  exact p229_tel x t P u v c L R p0 p1 p2 d p4 pn dp uu gd cn cs a ccd cl outer A₀ base h₀ L' m s Q E B F X T hk hd hu ⟨h1, h2⟩ hret
def InvI (g : Heap) (e : C) (sd : Int) (ps : List (Str × Value)) (Fa J : Addr) (fixed fixedI : List (Addr × Obj)) (xs : List Value) (m : Str → Option Value) (n : List (Addr × Obj)) : Prop :=
  ∃ vs nn opt T', (∀ q ∈ ps, m q.1 = some q.2) ∧ n = (Fa, listOf vs.toArray nn) :: (fixedI ++ (opt ++ T')) ∧ TF T' ∧ FitOk e sd vs opt ∧ vs.length + xs.length ≤ 3 ∧ (∀ q ∈ fixedI ++ (opt ++ T'), q.1 ≠ Fa ∧ q.1 ≠ J) ∧ (∀ q ∈ fixedI, ∀ r ∈ T', r.1 ≠ q.1) ∧
    (∀ v ∈ xs, ∃ r : RD, r.ok ∧ v = .ref r.A ∧ ∀ q ∈ r.led, q ∈ fixed)
theorem frame_six {g h : Heap} {L : Addr} {m : Str → Option Value} {wv : Str} {sv nv : Int} {mv tv rv : Value} (_F : Fr g L h m) (h1 : ∃ t, m (Str.ofString "word") = some (.str wv t)) (h2 : ∃ t, m (Str.ofString "side") = some (.int sv t)) (h3 : ∃ t, m (Str.ofString "number") = some (.int nv t))
    (h4 : m (Str.ofString "mark") = some mv) (h5 : m (Str.ofString "tail") = some tv) (h6 : m (Str.ofString "rules") = some rv) :
    ∃ t1 t2 t3, ∀ q ∈ ([(Str.ofString "word", .str wv t1), (Str.ofString "side", .int sv t2), (Str.ofString "number", .int nv t3), (Str.ofString "mark", mv), (Str.ofString "tail", tv), (Str.ofString "rules", rv)] : List (Str × Value)), m q.1 = some q.2 := by
  obtain ⟨t1, h1⟩ := h1
  obtain ⟨t2, h2⟩ := h2
  obtain ⟨t3, h3⟩ := h3
  refine ⟨t1, t2, t3, ?_⟩
  intro q hq
  simp only [List.mem_cons, List.not_mem_nil, or_false] at hq
  rcases hq with rfl | rfl | rfl | rfl | rfl | rfl <;> assumption
theorem turnO {b : List Stmt} {sc : Scope} (hb : loopO = b) (hsc : lawSc = sc) {dp uu : Nat} {gd : Option (List Code)} {fa : Addr} {cd : Value} {cl : List (Str × Addr)} {outer : List Env} {A₀ : Around} {base g : Heap} {L : Addr} {s : Shared}
    {um : Str → Option Value} {e : C} {sd : Int} {i c : Nat} {I Rl : Addr} {it : Obj} {tl : Str} {nr : Nat} {fixed TT : List (Addr × Obj)} {r1 r2 r3 : RD} {tS tw tD tn tm tt : Tok} {R Rb : Shared → Prop}
    (B : Below A₀ base outer g) (X : (hd.heap_39 w.params).In g) (T : Top p loose mean mg mb g) (hd : dp + 300 < recursionLimit) (hu : uu + 1300 < cLine)
    (hi : i < 5) (he : e.n ≤ 7 + i) (hsd : Side sd) (hc : c = 124 ∨ c = 33 ∨ c = 120 ∨ c = 47) (htl : tl.cps.toList.head? ≠ some 34) (htl2 : tl.length ≤ 20) (hr1 : r1.ok) (hr2 : r2.ok) (hr3 : r3.ok) (hf1 : ∀ q ∈ r1.led, q ∈ fixed) (hf2 : ∀ q ∈ r2.led, q ∈ fixed) (hf3 : ∀ q ∈ r3.led, q ∈ fixed)
    (hRl : (Rl, listOf #[.ref r1.A, .ref r2.A, .ref r3.A] nr) ∈ fixed) (hfx : Seqs fixed) (hit : it.cls = .type "range_iterator")
    (F : Fr g L s.heap (fun y => if y = Str.ofString "step" then some (.int (0 + (i : Int)) tS) else kstB um [(Str.ofString "word", .str (ofL (wd e)) tw), (Str.ofString "side", .int sd tD), (Str.ofString "number", .int (sd * (pv e : Nat)) tn), (Str.ofString "mark", .str ⟨#[c]⟩ tm), (Str.ofString "tail", .str tl tt), (Str.ofString "rules", .ref Rl)] y))
    (N : News g L s.heap ((I, it) :: (fixed ++ TT))) (hT : TF TT) (hoff : ∀ q ∈ fixed ++ TT, q.1 ≠ I)
    (hend : ∀ h' tk' m' e' sd' tw' tD' tn' T', Fr g L h' m' → (∀ q ∈ ([(Str.ofString "word", .str (ofL (wd e')) tw'), (Str.ofString "side", .int sd' tD'), (Str.ofString "number", .int (sd' * (pv e' : Nat)) tn'), (Str.ofString "mark", .str ⟨#[c]⟩ tm), (Str.ofString "tail", .str tl tt), (Str.ofString "rules", .ref Rl)] : List (Str × Value)), m' q.1 = some q.2) →
      News g L h' ((I, it) :: (fixed ++ T')) → TF T' → e'.n ≤ 7 + (i + 1) → Side sd' → (∀ q ∈ fixed ++ T', q.1 ≠ I) → R { s with heap := h', toks := tk' })
    (hbrk : ∀ h' tk' m' T', Fr g L h' m' → News g L h' (fixed ++ T') → TF T' → Rb { s with heap := h', toks := tk' }) :
    wpAny (model prog w) (ktrTop dp uu gd (Str.ofString "law") sc L fa cd cl outer) (execs b (envX (Str.ofString "law") sc L fa cd cl)) (TurnEnd2 R Rb) (fun _ _ => False) s := by
  k_with_none
  k_with "my mem" => (first | exact List.mem_cons_self | (refine List.mem_cons_of_mem _ ?_; walk_at "my mem"))
  k_with "my cut" => (first | apply Cut.here | (apply Cut.cons; walk_at "my cut") | (apply Cut.app; walk_at "my cut"))
  k_with "call ref" => (k_here; refine stop_here ?_)
  k_with "pyIter ref" => (k_here; refine stop_here ?_)
  k_with "binaryOp Add str str" => (k_here; (refine add_txt (by first | (simp only [PySem.Str.length_append, rep_length]; omega) | (simp only [PySem.Str.length_append]; omega)) ?_); intro _ _)
  k_with "binaryOp Mult str int" => (k_here; k_dflt (refine mul_sign (c := _) rfl (by decide) (by decide) ?_); intro _ _)
  k_with "binaryOp Mult int int" => (k_here; (first | refine mul_as hPe hs8 hs9 ?_ | refine mul_as hnum hq8 hq9 ?_ | refine mul_as (rfl : sd * tq = sd * tq) hs8 hs9 ?_); intro _ _)
  k_with "call ref" => (k_here; (with_reducible show wpAny _ _ (call (Value.ref 133) _) _ _ _); k_dflt (
  refine' tel_use (value_tel _ _) ?kw7y7B ?kw7y7F ?kw7y7X ?kw7y7N ?kw7y7T rfl ?kw7y7d ?kw7y7u ?kw7y7p ?_; (case kw7y7B => k_asm); (case kw7y7F => k_asm); (case kw7y7X => k_asm); (case kw7y7N => k_asm); (case kw7y7T => k_asm);
  (case kw7y7p => exact ⟨by rw [ofL_len, wd_length]; omega, fun c hc => wd_mem hc⟩); (case kw7y7d => omega); (case kw7y7u => omega)); intro r h' tk' F' N' st hO; obtain ⟨tv, hO⟩ := hO; rw [ofL_list, valL_wd] at hO; subst hO; clear st; (try k_sweep))
  k_with "ite" => (k_here; (first | (with_reducible refine ite_no int_nn1 ?_) | (with_reducible refine ite_no int_nn2 ?_) | (with_reducible refine ite_no int_nn3 ?_)))
  k_with "call ref" => (k_here; (with_reducible show wpAny _ _ (call (Value.ref 145) _) _ _ _); k_dflt (
  refine' tel_use (alone_tel _ _ _ _) ?kw9y8B ?kw9y8F ?kw9y8X ?kw9y8N ?kw9y8T rfl ?kw9y8d ?kw9y8u ?kw9y8p ?_; (case kw9y8B => k_asm); (case kw9y8F => k_asm); (case kw9y8X => k_asm); (case kw9y8N => k_asm); (case kw9y8T => k_asm);
  (case kw9y8p => exact ⟨by rw [ofL_len, wd_length]; omega, ⟨by omega, by omega⟩, alone_free (by rw [ofL_list]; exact wd_free)⟩); (case kw9y8d => omega); (case kw9y8u => omega)); intro r h' tk' F' N' st hO; subst hO; clear st; (try k_sweep))
  k_with "subscriptTail Name Constant ref int" => (k_here; k_dflt (refine' item_first ?kw10N ?kw10m ?_ ?kw10s; (case kw10N => k_asm); (case kw10m => with_reducible walk_at "my mem"); (case kw10s => with_unfolding_all rfl); k_whole))
  k_with "call type:list" => (k_here; (with_reducible show wpAny _ _ (call (Value.type _) [Value.str _ _]) _ _ _); k_dflt (refine' list_chars ?kw11lh ?kw11lF ?kw11lN ?kw11lx ?_; (case kw11lh => exact rfl); (case kw11lF => k_asm); (case kw11lN => k_asm); (case kw11lx => (rw [ofL_len, wd_length]; omega)); k_whole); intro _ _ _ _ _ _ _ l1 hSg; (rw [ofL_list] at hSg); (try k_lt l1); (try k_sweep))
  k_with "binaryOp Add ref ref" => (k_here; refine stop_here ?_)
  k_with "call builtin:sorted" => (k_here; refine stop_here ?_)
  k_with "binaryOp Add ref ref" => (k_here; k_dflt (refine' add_signs ?kw14F ?kw14N ?kw14a ?kw14b ?kw14i ?kw14j ?kw14z ?_; (case kw14F => k_asm); (case kw14N => k_asm); (case kw14a => with_reducible walk_at "my mem"); (case kw14b => with_reducible walk_at "my mem"); (case kw14i => assumption); (case kw14j => assumption); (case kw14z => (rw [wd_length]; omega)); k_whole); intro _ _ _ _ l1 _; (try k_lt l1); (try k_sweep))
  k_with "call builtin:sorted" => (k_here; k_dflt (refine' sort_signs hperm ?kw15soF ?kw15soN ?kw15soa ?kw15soi ?kw15soz ?_; (case kw15soF => k_asm); (case kw15soN => k_asm); (case kw15soa => with_reducible walk_at "my mem"); (case kw15soi => assumption); (case kw15soz => (rw [List.length_append, wd_length]; omega)); k_whole); intro _ _ _ _ _ _ l1 _; (try k_lt l1); (try k_sweep))
  k_with "call builtin:str.join" => (k_here; k_dflt (refine' join_signs ?kw16N ?kw16a ?kw16i ?kw16z ?_; (case kw16N => k_asm); (case kw16a => with_reducible walk_at "my mem"); (case kw16i => assumption); (case kw16z => (rw [wd_length]; omega)); k_whole); intro _ _)
  k_with "exec For Name Name cons nil" => (k_here; (rename Fr _ _ _ _ => lF'); (with_unfolding_all refine' For_invVF lF' ?kw17k1 ?kw17k2 ?_; (case kw17k1 => exact rfl); (case kw17k2 => exact rfl); k_whole))
  k_with "pyIter str" => (k_here; refine stop_here ?_)
  k_with "exec For Tuple Name cons nil" => (k_here; (rename Fr _ _ _ _ => lF'); (with_unfolding_all refine' For_turns lF' ?_; k_whole))
  k_with "compareOp Eq ref ref" => (k_here; refine stop_here ?_)
  k_with "compareOp Eq ref ref" => (k_here; k_dflt (refine' empty_eq ?kw21N ?kw21m1 ?kw21m2 ?kw21hu ?_; (case kw21N => k_asm); (case kw21m1 => with_reducible walk_at "my mem"); (case kw21m2 => with_reducible walk_at "my mem"); (case kw21hu => (show uu < cLine; omega))); (try dsimp only [List.isEmpty_nil, List.isEmpty_cons]))
  conv at hb => lhs; whnf
  conv at hsc => lhs; whnf
  dsimp only at hsc
  subst hb
  subst hsc
  have hlw : (ofL (wd e)).length ≤ 11 := by rw [ofL_len, wd_length]; omega
  have ka : (Str.ofString "257 \"").length = 5 := by decide +kernel
  have kb : (Str.ofString "\"").length = 1 := by decide +kernel
  have kc : (Str.ofString "229 Entering (").length = 14 := by decide +kernel
  have kd : (Str.ofString ")").length = 1 := by decide +kernel
  have hw2 : (Txt.replace (ofL (wd e)) (Str.ofString "\"") (Str.ofString "\"\"")).length ≤ 30 := by have := dbled_len e; unfold dbled at this; omega
  have hP := side_rng 1977326743 rfl hsd (show e.n ≤ 11 by omega)
  have hP1 : -(10 ^ 10) < sd * (pv e : Nat) := by omega
  have hP2 : sd * (pv e : Nat) < 10 ^ 10 := by omega
  obtain ⟨hx1, hx2⟩ := text257_ok (e := e) (tl := tl) (by omega) htl htl2
  obtain ⟨hy1, Lq, Rq, p0, p1, p2, p4, hy2⟩ := text229_ok (c := c) hc hP1 hP2
  k_steps
  unfold Stop
  refine' tel_use (p257_tel (text257 e tl) _) ?yaB ?yaF ?yaX ?yaN ?yaT rfl ?yad ?yau hx1 ?_
  (case yaB => k_asm)
  (case yaF => k_asm)
  (case yaX => k_asm)
  (case yaN => k_asm)
  (case yaT => k_asm)
  (case yad => omega)
  (case yau => omega)
  intro r h1 tk1 F1 N1 st1 hO
  obtain ⟨ta, hO⟩ := hO
  rw [hx2] at hO
  subst hO
  clear st1 hx1 hx2
  obtain ⟨Pn, hPe⟩ : ∃ Pn, sd * (pv e : Nat) = Pn := ⟨_, rfl⟩
  have hs8 : -(2 ^ 64) < sd := by rcases hsd with h | h <;> omega
  have hs9 : sd < 2 ^ 64 := by rcases hsd with h | h <;> omega
  k_steps
  unfold Stop
  refine' tel_use (p229_telE (text229 c (sd * (pv e : Nat))) _ _ c Lq Rq p0 p1 p2 (Str.ofString (toString (sd * (pv e : Nat)))) p4 (sd * (pv e : Nat))) ?ybB ?ybF ?ybX ?ybN ?ybT rfl ?ybd ?ybu ?ybp ?_
  (case ybB => k_asm)
  (case ybF => k_asm)
  (case ybX => k_asm)
  (case ybN => k_asm)
  (case ybT => k_asm)
  (case ybd => omega)
  (case ybu => omega)
  (case ybp => (rename News _ _ _ _ => NN; exact ⟨⟨_, _, NN.isTup List.mem_cons_self⟩, hy2⟩))
  intro r h1 tk1 F1 N1 st1 hO
  obtain ⟨R1, x1, y1, rfl, ⟨t5, rfl⟩, ⟨t6, rfl⟩, hR1, hn1⟩ := hO
  replace N1 := new_at hR1 hn1 N1 (by assumption)
  clear st1 hR1 hn1 hy1 hy2
  rw [hPe] at N1 hP1 hP2
  k_steps
  (case' _ =>
    rename Fr _ _ _ _ => F9
    rename News _ _ _ _ => N9
    exact hbrk _ _ _ TT F9 (fun q hq => N9 q (by simp only [List.mem_cons, List.mem_append] at hq ⊢; rcases hq with h | h <;> simp [h])) hT)
  unfold Stop
  rename Fr _ _ _ _ => F9
  rename News _ _ _ _ => N9
  rename_i Fa hA lF hB
  subst hPe
  have hFo : ∀ q ∈ (I, it) :: (fixed ++ TT), q.1 ≠ Fa := by
    intro q hq
    rcases List.mem_cons.mp hq with rfl | hq
    · exact Nat.ne_of_lt lF.2.2.1
    · exact allLt_off lF.2.2.2 q hq
  have N8 : News g L hB ((Fa, listOf #[] 0) :: (I, it) :: (fixed ++ TT)) := fun q hq => N9 q (by simp only [List.mem_cons, List.mem_append] at hq ⊢; rcases hq with h | h | h | h <;> simp [h])
  have hRl8 : (Rl, listOf #[.ref r1.A, .ref r2.A, .ref r3.A] nr) ∈ (Fa, listOf #[] 0) :: (I, it) :: (fixed ++ TT) := List.mem_cons_of_mem _ (List.mem_cons_of_mem _ (List.mem_append_left _ hRl))
  have hTx : ∀ q ∈ (I, it) :: fixed, ∀ r ∈ TT, r.1 ≠ q.1 := by
    intro q hq
    rcases List.mem_cons.mp hq with rfl | hq
    · exact fun r hr => hoff r (by simp [hr])
    · exact hT.offs (front := (Fa, listOf #[] 0) :: (I, it) :: fixed) (by simpa using N8) (by
        intro q hq
        rcases List.mem_cons.mp hq with rfl | hq
        · exact .inl ⟨_, _, rfl⟩
        rcases List.mem_cons.mp hq with rfl | hq
        · exact .inr fun r hr => hoff r (by simp [hr])
        · exact .inl (hfx q hq)) q (by simp [hq])
  clear N9 lF
  show wpAny _ _ (pyIter (.ref Rl)) _ _ _
  refine iter_listTurns (vs := [.ref r1.A, .ref r2.A, .ref r3.A]) rfl F9 N8 hRl8 rfl rfl ?_
  intro J lJ
  refine items_inv (InvI g e sd [(Str.ofString "name", .str (ofL (wd e)) ta), (Str.ofString "port", .int (sd * (pv e : Nat)) t6), (Str.ofString "fits", .ref Fa), (Str.ofString "step", .int (0 + (i : Int)) tS), (Str.ofString "side", .int sd tD), (Str.ofString "mark", .str ⟨#[c]⟩ tm), (Str.ofString "tail", .str tl tt), (Str.ofString "rules", .ref Rl)] Fa J fixed ((I, it) :: fixed)) ?turn ?done _ _ _ ?start
  (case start =>
    refine ⟨[], 0, [], TT, ?_, rfl, hT, .inl ⟨rfl, rfl⟩, by simp, ?_, hTx, ?_⟩
    · intro q hq; simp only [List.mem_cons, List.not_mem_nil, or_false] at hq; rcases hq with rfl | rfl | rfl | rfl | rfl | rfl | rfl | rfl <;> exact rfl
    · intro q hq
      exact ⟨hFo q (by simpa using hq), Nat.ne_of_lt (lJ q (by simp only [List.mem_cons, List.mem_append, List.nil_append, List.cons_append] at hq ⊢; exact .inr hq))⟩
    · intro v hv
      simp only [List.mem_cons, List.not_mem_nil, or_false] at hv
      rcases hv with rfl | rfl | rfl
      · exact ⟨r1, hr1, rfl, hf1⟩
      · exact ⟨r2, hr2, rfl, hf2⟩
      · exact ⟨r3, hr3, rfl, hf3⟩)
  (case turn =>
    intro v xs m9 news9 h9 tk9 o9 hI ho Fh Nh
    obtain ⟨vs, nn, opt, T9, hps, rfl, hT9, hfit, hlen, hoff9, hfx9, hxs⟩ := hI
    obtain ⟨rd, ⟨q1, q2, q3, q4, q5, q6, q7, q8⟩, rfl, hled⟩ := hxs v List.mem_cons_self
    have hFJ : Fa ≠ J := Nat.ne_of_lt (lJ _ List.mem_cons_self)
    have Nw : News g L h9 ((J, o9) :: (Fa, listOf vs.toArray nn) :: (rd.A, ({ cls := .type "tuple", data := .seq #[.ref rd.B, .str (ofL (wd rd.u)) rd.tp, .int rd.tn rd.tt] } : Obj)) :: (rd.B, listOf #[.str (rep 34 rd.a) rd.t1, .str (rep 97 rd.b) rd.t2, .str (rep 98 rd.c) rd.t3, .str (rep 99 rd.d) rd.t4] rd.nn) :: (((I, it) :: fixed) ++ (opt ++ T9))) := by
      intro q hq
      simp only [List.mem_cons, List.mem_append] at hq
      rcases hq with h | h | h | h | h | h | h
      · exact Nh q (by simp [h])
      · exact Nh q (by simp [h])
      · exact Nh q (by have := hled (rd.A, _) List.mem_cons_self; rw [h]; simp [this])
      · exact Nh q (by have := hled (rd.B, _) (List.mem_cons_of_mem _ List.mem_cons_self); rw [h]; simp [this])
      · exact Nh q (by simp only [List.mem_cons, List.mem_append]; simp [h])
      · exact Nh q (by simp only [List.mem_cons, List.mem_append]; simp [h])
      · exact Nh q (by simp only [List.mem_cons, List.mem_append]; simp [h])
    refine wpAny_mono (turnI rfl rfl rfl (fixed := (I, it) :: fixed) (R := fun s' => UnrEndW g L { s with heap := h9, toks := tk9 } [(J, o9)] (fun m' n' => SubL [(Rl, listOf #[.ref r1.A, .ref r2.A, .ref r3.A] nr)] n' ∧ InvI g e sd [(Str.ofString "name", .str (ofL (wd e)) ta), (Str.ofString "port", .int (sd * (pv e : Nat)) t6), (Str.ofString "fits", .ref Fa), (Str.ofString "step", .int (0 + (i : Int)) tS), (Str.ofString "side", .int sd tD), (Str.ofString "mark", .str ⟨#[c]⟩ tm), (Str.ofString "tail", .str tl tt), (Str.ofString "rules", .ref Rl)] Fa J fixed ((I, it) :: fixed) xs m' n') s')
      B X T (by omega) (by omega) (by omega) hsd q1 q2 q3 q4 q5 q6 q7 q8 ho (by omega) (kst_as hps Fh) Nw hT9 hfit hfx9 ?hab hoff9 ?hen) (fun _ _ q => wpAny_mono q (fun f s' q => by obtain ⟨rfl, h⟩ := q; exact h) fun _ _ q => q.elim) fun _ _ q => q.elim
    (case hab =>
      exact ⟨(hoff9 _ (List.mem_append_left _ (List.mem_cons_of_mem _ (hled _ List.mem_cons_self)))).1, (hoff9 _ (List.mem_append_left _ (List.mem_cons_of_mem _ (hled _ (List.mem_cons_of_mem _ List.mem_cons_self))))).1, Ne.symm hFJ⟩)
    (case hen =>
      intro h7 tk7 m7 vs7 nn7 opt7 T7 F7 hps7 N7 hT7 hfit7 hlen7 hoff7 hfx7
      refine ⟨h7, tk7, m7, _, rfl, F7, N7, ?_, ⟨?_, True.intro⟩, vs7, nn7, opt7, T7, hps7, rfl, hT7, hfit7, by simp only [List.length_cons] at hlen; omega, hoff7, hfx7, fun v hv => hxs v (List.mem_cons_of_mem _ hv)⟩
      · intro q hq z hz
        rw [List.mem_singleton.mp hz]
        rcases List.mem_cons.mp hq with rfl | hq
        · exact hFJ
        · exact (hoff7 q hq).2
      · exact List.mem_cons_of_mem _ (List.mem_append_left _ (List.mem_cons_of_mem _ hRl))))
  (case done =>
    intro m9 news9 h9 tk9 hI Fh Nh
    obtain ⟨vs, nn, opt, T9, hps, rfl, hT9, hfit, hlen, hoff9, hfx9, hxs⟩ := hI
    replace Fh := kst_as hps Fh
    change Fr g L h9 _ at Fh
    change News g L h9 _ at Nh
    clear hxs F9 N8 hFo hTx hRl8
    rcases hfit with ⟨rfl, rfl⟩ | ⟨Ft, l, u, tq, qt, z1, z2, z3, z4, rest, rfl, rfl, hle, hl1, hu2, htn, hq⟩
    · simp only [List.cons_append, List.nil_append] at Nh hoff9
      k_steps
      rename Fr _ _ _ _ => F9
      rename News _ _ _ _ => N9
      exact hbrk _ _ _ T9 F9 (fun q hq => N9 q (by simp only [List.mem_cons, List.mem_append] at hq ⊢; rcases hq with h | h <;> simp [h])) hT9
    · have Nx : News g L h9 ((Fa, listOf (Value.ref Ft :: rest).toArray nn) :: (Ft, ({ cls := .type "tuple", data := .seq #[.str (ofL (wd l)) z1, .str (ofL (wd u)) z2, .int tq z3, .int qt z4] } : Obj)) :: (I, it) :: (fixed ++ T9)) := by
        intro q hq
        refine Nh q ?_
        simp only [List.mem_cons, List.mem_append, fitObj] at hq ⊢
        rcases hq with h | h | h | h | h <;> simp [h]
      clear Nh
      k_steps
      unfold Stop
      rename Fr _ _ _ _ => F9
      rename News _ _ _ _ => N9
      rename_i Sg vs9 c9 hA tk8 hB
      have lS := l1
      clear l1
      obtain ⟨keep, hkeep⟩ : ∃ keep, keep = (I, it) :: (fixed ++ T9) := ⟨_, rfl⟩
      have hSk : ∀ q ∈ keep, q.1 ≠ Sg := by
        intro q hq
        rw [hkeep] at hq
        rcases List.mem_cons.mp hq with rfl | hq
        · exact Nat.ne_of_lt lS.2.2.2.1
        · exact allLt_off lS.2.2.2.2 q hq
      have N8 : News g L hB ((Sg, listOf vs9.toArray c9) :: keep) := fun q hq => N9 q (by rw [hkeep] at hq; simp only [List.mem_cons, List.mem_append] at hq ⊢; rcases hq with h | h | h | h <;> simp [h])
      clear N9 lS
      refine iter_strUnr (l := signsOf (wd l)) rfl F9 N8 rfl ?_
      intro J2 lJ2
      have hJS : J2 ≠ Sg := Nat.ne_of_gt (lJ2 _ List.mem_cons_self)
      refine str_inv (fun rest m n => ∃ r lst vs n0, rest = signsOf r ∧ lst.Perm (r ++ wd (e.sub l)) ∧ lst.length ≤ 1000 ∧ Signs lst vs ∧ n = (Sg, listOf vs.toArray n0) :: keep ∧ (∀ q ∈ ([(Str.ofString "signs", .ref Sg), (Str.ofString "quotient", .int qt z4), (Str.ofString "turn", .int tq z3), (Str.ofString "put", .str (ofL (wd u)) z2), (Str.ofString "step", .int (0 + (i : Int)) tS), (Str.ofString "side", .int sd tD), (Str.ofString "mark", .str ⟨#[c]⟩ tm), (Str.ofString "tail", .str tl tt), (Str.ofString "rules", .ref Rl)] : List (Str × Value)), m q.1 = some q.2)) ?turn2 ?done2 _ _ _ ?start2
      (case start2 =>
        refine ⟨wd l, wd e, vs9, c9, rfl, wd_split hle, by rw [wd_length]; omega, hSg, rfl, ?_⟩
        intro q hq; simp only [List.mem_cons, List.not_mem_nil, or_false] at hq; rcases hq with rfl | rfl | rfl | rfl | rfl | rfl | rfl | rfl | rfl <;> exact rfl)
      (case turn2 =>
        intro c2 r2' m2 news2 uk it2 h2 tk2 hI2 Fh2 Nh2
        obtain ⟨r2, lst2, vs2, n2, hr2', hp2, hlen2, hs2, rfl, hps2⟩ := hI2
        cases r2 with
        | nil => cases hr2'
        | cons c3 r3' =>
          rw [signsOf, List.map_cons, List.cons.injEq] at hr2'
          obtain ⟨rfl, rfl⟩ := hr2'
          have hm2 : m2 = fun y => if y = Str.ofString "signs" then some (.ref Sg) else m2 y := by
            funext y
            split
            · next h => rw [h]; exact hps2 _ List.mem_cons_self
            · rfl
          rw [hm2] at Fh2
          refine wpAny_mono (turnS rfl rfl B X T (by omega) (by omega) Fh2 Nh2 hs2 (hp2.mem_iff.mpr List.mem_cons_self) hlen2 hSk hJS ?hen2 (R := fun s' => UnrEnd g L { s with heap := h2, toks := tk2 } J2 it2 (fun m n => ∃ r lst vs n0, signsOf r3' = signsOf r ∧ lst.Perm (r ++ wd (e.sub l)) ∧ lst.length ≤ 1000 ∧ Signs lst vs ∧ n = (Sg, listOf vs.toArray n0) :: keep ∧ (∀ q ∈ ([(Str.ofString "signs", .ref Sg), (Str.ofString "quotient", .int qt z4), (Str.ofString "turn", .int tq z3), (Str.ofString "put", .str (ofL (wd u)) z2), (Str.ofString "step", .int (0 + (i : Int)) tS), (Str.ofString "side", .int sd tD), (Str.ofString "mark", .str ⟨#[c]⟩ tm), (Str.ofString "tail", .str tl tt), (Str.ofString "rules", .ref Rl)] : List (Str × Value)), m q.1 = some q.2)) s')) (fun f s' q => by obtain ⟨rfl, h⟩ := q; exact h) fun _ _ q => q.elim
          (case hen2 =>
            intro h7 tk7 vs7 F7 N7 hs7
            refine ⟨h7, tk7, _, _, rfl, F7, N7, ?_, r3', lst2.erase c3, vs7, n2 + 1, rfl, ?_, Nat.le_trans (List.length_erase_le) hlen2, hs7, rfl, ?_⟩
            · intro q hq
              rcases List.mem_cons.mp hq with rfl | hq
              · exact Ne.symm hJS
              · exact Nat.ne_of_lt (lJ2 q (List.mem_cons_of_mem _ hq))
            · have := hp2.erase c3
              rwa [List.cons_append, List.erase_cons_head] at this
            · intro q hq
              have h1 := hps2 q hq
              simp only [List.mem_cons, List.not_mem_nil, or_false] at hq
              rcases hq with rfl | rfl | rfl | rfl | rfl | rfl | rfl | rfl | rfl <;> first | exact rfl | exact h1))
      (case done2 =>
        intro m2 news2 h2 tk2 hI2 Fh2 Nh2
        obtain ⟨r2, lst2, vs2, n2, hr2', hp2, hlen2, hs2, rfl, hps2⟩ := hI2
        cases r2 with
        | cons c3 r3' => cases hr2'
        | nil =>
        rw [List.nil_append] at hp2
        replace Fh2 := kst_as hps2 Fh2
        change Fr g L h2 _ at Fh2
        change News g L h2 _ at Nh2
        clear N8 F9 hSk
        subst hkeep
        have hperm : (lst2 ++ wd u).Perm (wd ((e.sub l).add u)) := (hp2.append_right _).trans (wd_join _ _)
        have hnum := next_num (u := u) hle htn hq
        have hsz := next_size hle hl1 hu2 he
        have hsd' := side_mul hsd htn
        have hln : lst2.length ≤ 11 := by have := hp2.length_eq; rw [wd_length] at this; simp only [C.n, C.sub] at this he; omega
        obtain ⟨hq8, hq9⟩ := q_bound hq (side_rng _ rfl htn (Nat.le_refl _)).1 (by omega)
        obtain ⟨e', he'⟩ : ∃ e', (e.sub l).add u = e' := ⟨_, rfl⟩
        rw [he'] at hperm hnum hsz
        clear hle hl1 hq hp2 hps2 lJ2
        k_steps
        rename Fr _ _ _ _ => F9
        rename News _ _ _ _ => N9
        obtain ⟨tw', tD', tn', hps9⟩ := frame_six (wv := ofL (wd e')) (sv := sd * tq) (nv := sd * tq * (pv e' : Nat)) (mv := .str ⟨#[c]⟩ tm) (tv := .str tl tt) (rv := .ref Rl) F9 ⟨_, rfl⟩ ⟨_, rfl⟩ ⟨_, rfl⟩ rfl rfl rfl
        refine hend _ _ _ e' (sd * tq) tw' tD' tn' T9 F9 hps9 (fun q hq => N9 q ?suq) hT9 (by omega) hsd' ?ofq
        (case suq => (simp only [List.mem_cons, List.mem_append] at hq ⊢; rcases hq with h | h | h <;> simp [h]))
        (case ofq =>
          intro q hq
          rcases List.mem_append.mp hq with hq | hq
          · exact hoff q (List.mem_append_left _ hq)
          · exact hfx9 (I, it) List.mem_cons_self q hq)))
end
end Mine
namespace Mine
open PySem PySem.W PySem.Spec PySem.Calls PyProof.Rows
def InvO (J Rl : Addr) (fx : List (Addr × Obj)) (c : Nat) (tl : Str) (tm tt : Tok) (i : Nat) (m : Str → Option Value) (n : List (Addr × Obj)) : Prop :=
  ∃ (e : C) (sd : Int) (tw tD tn : Tok) (T' : List (Addr × Obj)), (∀ q ∈ ([(Str.ofString "word", .str (ofL (wd e)) tw), (Str.ofString "side", .int sd tD), (Str.ofString "number", .int (sd * (pv e : Nat)) tn), (Str.ofString "mark", .str ⟨#[c]⟩ tm), (Str.ofString "tail", .str tl tt), (Str.ofString "rules", .ref Rl)] : List (Str × Value)), m q.1 = some q.2) ∧
    n = fx ++ T' ∧ TF T' ∧ e.n ≤ 7 + i ∧ Side sd ∧ (∀ q ∈ fx ++ T', q.1 ≠ J)
theorem kst_same {m : Str → Option Value} {ps : List (Str × Value)} (hk : ∀ p ∈ ps, m p.1 = some p.2) : kstB m ps = m := funext fun z => kstB_eq hk fun _ => rfl
section
variable {prog : Program} {w : World} {p : Program} {loose : List Str} {mean : ExcName → Option Value} {mg mb : Str → Option Value}
theorem loopAll {b : List Stmt} {sc : Scope} (hb : loopO = b) (hsc : lawSc = sc) {dp uu : Nat} {gd : Option (List Code)} {fa : Addr} {cd : Value} {cl : List (Str × Addr)} {outer : List Env} {A₀ : Around} {base g : Heap} {L : Addr} {s : Shared}
    {c : Nat} {J Rl : Addr} {tl : Str} {nr : Nat} {fx news : List (Addr × Obj)} {r1 r2 r3 : RD} {tm tt : Tok} {m : Str → Option Value} {Q : Flow → Shared → Prop} {E : Value → Shared → Prop}
    (B : Below A₀ base outer g) (X : (hd.heap_39 w.params).In g) (T : Top p loose mean mg mb g) (hd : dp + 300 < recursionLimit) (hu : uu + 1300 < cLine)
    (hc : c = 124 ∨ c = 33 ∨ c = 120 ∨ c = 47) (htl : TailOk tl) (hr1 : r1.ok) (hr2 : r2.ok) (hr3 : r3.ok) (hf1 : ∀ q ∈ r1.led, q ∈ fx) (hf2 : ∀ q ∈ r2.led, q ∈ fx) (hf3 : ∀ q ∈ r3.led, q ∈ fx)
    (hRl : (Rl, listOf #[.ref r1.A, .ref r2.A, .ref r3.A] nr) ∈ fx) (hfx : Seqs fx) (hI : InvO J Rl fx c tl tm tt 0 m news)
    (hdone : ∀ h tk m' p1 p2, Fr g L h m' → News g L h [(44, tabObj p1), (37, tabObj p2)] → Q .next { s with heap := h, toks := tk }) :
    RangeRest prog w (ktrTop dp uu gd (Str.ofString "law") sc L fa cd cl outer) E g (envX (Str.ofString "law") sc L fa cd cl) (Str.ofString "step") b Q s J 0 5 5 0 m news := by
  refine range_inv (InvO J Rl fx c tl tm tt) ?turn ?done 5 0 m news rfl hI
  · intro i m1 news1 t h tk hi hI1 F1 N1
    obtain ⟨e, sd, tw, tD, tn, T1, hps, rfl, hT1, he, hsd, hoff⟩ := hI1
    have hm := kst_same hps
    change Fr g L h _ at F1
    change News g L h _ at N1
    have F2 : Fr g L h (fun y => if y = Str.ofString "step" then some (.int (0 + (i : Int)) t) else kstB m1 [(Str.ofString "word", .str (ofL (wd e)) tw), (Str.ofString "side", .int sd tD), (Str.ofString "number", .int (sd * (pv e : Nat)) tn), (Str.ofString "mark", .str ⟨#[c]⟩ tm), (Str.ofString "tail", .str tl tt), (Str.ofString "rules", .ref Rl)] y) := by rw [hm]; exact F1
    refine wpAny_mono (turnO hb hsc B X T hd hu hi he hsd hc htl.1 htl.2 hr1 hr2 hr3 hf1 hf2 hf3 hRl hfx rfl F2 N1 hT1 hoff ?hen ?hbr (R := fun s' => UnrEnd g L { s with heap := h, toks := tk } J (itR (0 + ((i + 1 : Nat) : Int)) (((5 : Nat) : Int) - ((i + 1 : Nat) : Int))) (InvO J Rl fx c tl tm tt (i + 1)) s') (Rb := fun s' => Q .next s')) (fun f s' q => ?_) fun _ _ q => q.elim
    · intro h' tk' m' e' sd' tw' tD' tn' T' F' hps' N' hT' he' hsd' hoff'
      exact ⟨h', tk', m', _, rfl, F', N', hoff', e', sd', tw', tD', tn', T', hps', rfl, hT', he', hsd', hoff'⟩
    · intro h' tk' m' T' F' N' hT'
      obtain ⟨p1, C1, p2, C2, rfl, _⟩ := hT'
      exact hdone h' tk' m' p1 p2 F' (fun q hq => N' q (by simp only [List.mem_cons, List.mem_append, List.not_mem_nil, or_false] at hq ⊢; rcases hq with h | h <;> simp [h]))
    · cases f with
      | ret v => exact q.elim
      | brk => exact q
      | next => exact q
      | cont => exact q.elim
  · intro m1 news1 h tk hI1 F1 N1
    obtain ⟨e, sd, tw, tD, tn, T1, hps, rfl, hT1, he, hsd, hoff⟩ := hI1
    obtain ⟨p1, C1, p2, C2, rfl, _⟩ := hT1
    exact hdone h tk m1 p1 p2 F1 (fun q hq => N1 q (by simp only [List.mem_cons, List.mem_append, List.not_mem_nil, or_false] at hq ⊢; rcases hq with h | h <;> simp [h]))
end
end Mine
namespace Mine
open PySem PySem.W PySem.Spec PySem.Calls PyProof.Rows
theorem law01 : PySem.Challenge.rw_rw0076_01.Holds := Mine.hd.2 (by
  k_with_none
  k_with "call ref" => (k_here; refine stop_here ?_)
  k_with "exec Assign cons ListComp" => (k_here; refine stop_here ?_)
  k_with "exec For Name Call cons nil" => (k_here; (rename Fr _ _ _ _ => lF'); (with_unfolding_all refine' For_invVF lF' ?kw2k1 ?kw2k2 ?_; (case kw2k1 => exact rfl); (case kw2k2 => exact rfl); k_whole))
  k_with "pyIter ref" => (k_here; refine stop_here ?_)
  k_with "SrcTup" => (k_here; refine stop_here ?_)
  k_with "CompEnd" => (k_here; refine stop_here ?_)
  k_with "subscriptTail List" => (k_here; k_dflt (refine' pick3 ?kw6pN ?kw6pm ?kw6p0 ?kw6p3 ?_ ?kw6ps; (case kw6pN => k_asm); (case kw6pm => with_reducible walk_at "my mem"); (case kw6p0 => exact (fm_lt 3 (by decide)).1); (case kw6p3 => exact (fm_lt 3 (by decide)).2); (case kw6ps => with_unfolding_all rfl); k_whole); intro _ _ hTl)
  k_with "my mem" => (first | exact List.mem_cons_self | (refine List.mem_cons_of_mem _ ?_; walk_at "my mem"))
  k_with "my cut" => (first | apply Cut.here | (apply Cut.cons; walk_at "my cut"))
  k_with "law dep" => (first | decide | omega)
  k_with "rows ref" => (k_here; (with_reducible show wpAny _ _ (call (Value.ref 126) _) _ _ _); k_dflt (
  refine' tel_use (rows_tel _ _ _ _ _ _ _ _ _) ?kw10y7B ?kw10y7F ?kw10y7X ?kw10y7N ?kw10y7T rfl ?kw10y7d ?kw10y7u ?kw10y7p ?_; (case kw10y7B => k_asm); (case kw10y7F => k_asm); (case kw10y7X => k_asm); (case kw10y7N => k_asm); (case kw10y7T => k_asm);
  (case kw10y7p => (refine ⟨four_at (by k_asm) (by with_reducible walk_at "my mem"), ?_, ?_, ?_, ?_⟩ <;> exact fm_rng (by decide) (by decide))); (case kw10y7d => decide); (case kw10y7u => decide)); intro r h' tk' F' N' st hO; obtain ⟨R, vs, n, e, ⟨t1, t2, t3, t4, ev⟩, hg, hn⟩ := hO; subst e; subst ev; replace N' := new_at hg hn N' (by assumption); clear st hg hn; (try k_sweep))
  k_with "value ref" => (k_here; (with_reducible show wpAny _ _ (call (Value.ref 133) _) _ _ _); k_dflt (
  refine' tel_use (value_tel _ _) ?kw11y7B ?kw11y7F ?kw11y7X ?kw11y7N ?kw11y7T rfl ?kw11y7d ?kw11y7u ?kw11y7p ?_; (case kw11y7B => k_asm); (case kw11y7F => k_asm); (case kw11y7X => k_asm); (case kw11y7N => k_asm); (case kw11y7T => k_asm);
  (case kw11y7p => walk_at "val pre"); (case kw11y7d => decide); (case kw11y7u => decide)); intro r h' tk' F' N' st hO; obtain ⟨tv, hO⟩ := hO; subst hO; clear st; (try k_sweep))
  k_with "val pre2" => (refine ⟨?_, fun c hc => wd_mem hc⟩; rw [ofL_len, wd_length]; exact start_short)
  k_with "val pre" => (walk_at "val pre2")
  k_with "rule ref" => (k_here; (with_reducible show wpAny _ _ (call (Value.ref 138) _) _ _ _); k_dflt (
  refine' tel_use (rule_tel _ _) ?kw14y7B ?kw14y7F ?kw14y7X ?kw14y7N ?kw14y7T rfl ?kw14y7d ?kw14y7u ?kw14y7p ?_; (case kw14y7B => k_asm); (case kw14y7F => k_asm); (case kw14y7X => k_asm); (case kw14y7N => k_asm); (case kw14y7T => k_asm);
  (case kw14y7p => assumption); (case kw14y7d => decide); (case kw14y7u => decide)); intro r h' tk' F' N' st hO; obtain ⟨R, Rr, oR, oRr, ⟨vs, n, tp, tt, e, e2, e3, ⟨t1, t2, t3, t4, ev⟩, hg1, hg2⟩, hn1, hn2⟩ := hO; subst e; subst e2; subst e3; subst ev; have N9 := new_at hg2 hn2 (new_at hg1 hn1 N' (by assumption)) (by assumption); clear N'; clear st hg1 hn1 hg2 hn2; (try k_sweep))
  k_with "call builtin:str.join" => (k_here; k_dflt (refine' join_rows_call ?kw15jN ?kw15jm ?kw15ja ?kw15jb ?kw15jc ?kw15jd ?_; (case kw15jN => k_asm); (case kw15jm => with_reducible walk_at "my mem"); (case kw15ja => exact (fm_rng (by decide) (by decide)).2); (case kw15jb => exact (fm_rng (by decide) (by decide)).2); (case kw15jc => exact (fm_rng (by decide) (by decide)).2); (case kw15jd => exact (fm_rng (by decide) (by decide)).2); k_whole); intro _ _)
  delta Mine.hd
  dsimp only
  k_go0
  all_goals (try k_fold)
  k_steps
  unfold Stop
  rename Top topProg _ _ _ _ _ => TT
  rename Below callerA _ _ _ => BB
  rename Frag.In _ (ghostOf _ _) => XX
  rename IntsAre _ _ => hIs
  refine' tel_use (cells_tel _ _ _ hIs ?zn) BB ?zF XX ?zN TT rfl ?zd ?zu ?zp ?_
  (case zn => omega)
  (case zF => k_asm)
  (case zN => k_asm)
  (case zd => decide)
  (case zu => decide)
  (case zp => exact Heap.IsList.at (by assumption) fun o e => Fr.keep (by assumption) _ _ e)
  intro r1 h1 tk1 F1 N1 st1 hO1
  obtain ⟨R1, vs1, nn1, rfl, hFour, hg1, hn1⟩ := hO1
  obtain ⟨c0, c1, c2, c3, u0, u1, u2, u3, rfl, ⟨c00, c01⟩, ⟨c10, c11⟩, ⟨c20, c21⟩, ⟨c30, c31⟩⟩ := hFour
  replace N1 := new_at hg1 hn1 N1 (by assumption)
  clear st1 hg1 hn1
  k_steps
  unfold Stop
  walk_at "rows ref"
  k_steps
  unfold Stop
  walk_at "value ref"
  k_steps
  unfold Stop
  rename Fr _ _ _ _ => F5
  rename News _ _ _ _ => N5
  rename (_ = Str.ofString "" ∨ _) => hTl
  replace hTl := tail_ok hTl
  rename PySem.Str => xt
  rename Shared => s1
  rename Obj => oc
  obtain ⟨mc, hmc, hmk⟩ := item_mark (k := (([c0, c1, c2, c3].getD (Int.toNat 0) 0).fdiv 108).fmod 4) (fm_lt 4 (by decide)).1 (fm_lt 4 (by decide)).2
  obtain ⟨um, tw, tD, tn, tm, tt, F6⟩ := frame_five (wv := ofL (wd (cOf (c0.fmod 3) ((c0.fdiv 3).fmod 3) ((c0.fdiv 9).fmod 3) ((c0.fdiv 27).fmod 2)))) (sv := 1 - 2 * (c0.fdiv 54).fmod 2) (nv := (1 - 2 * (c0.fdiv 54).fmod 2) * (pv (cOf (c0.fmod 3) ((c0.fdiv 3).fmod 3) ((c0.fdiv 9).fmod 3) ((c0.fdiv 27).fmod 2)) : Nat)) (mk := ⟨#[mc]⟩) F5 ⟨_, rfl⟩ ⟨_, rfl⟩ ⟨_, start_num _ _ _⟩ ⟨_, by rw [← hmk]; rfl⟩ ⟨_, rfl⟩
  obtain ⟨e, he⟩ : ∃ e, cOf (c0.fmod 3) ((c0.fdiv 3).fmod 3) ((c0.fdiv 9).fmod 3) ((c0.fdiv 27).fmod 2) = e := ⟨_, rfl⟩
  have hen : e.n ≤ 7 := he ▸ start_n
  have hsd := side_of (c0.fdiv 54)
  rw [he] at F6
  obtain ⟨sd, hsde⟩ : ∃ sd, 1 - 2 * (c0.fdiv 54).fmod 2 = sd := ⟨_, rfl⟩
  rw [hsde] at F6 hsd
  have N6 : News (ghostOf s1.heap [(48, 44), (41, 37)]) s1.heap.objs.size _ ((R1, listOf #[.int c0 u0, .int c1 u1, .int c2 u2, .int c3 u3] nn1) :: (s1.heap.objs.size + 1, oc) :: [(44, tabObj #[]), (37, tabObj #[])]) := fun q hq => N5 q (by simp only [List.mem_cons, List.mem_append, List.not_mem_nil, or_false] at hq ⊢; rcases hq with h | h | h | h <;> simp [h])
  clear F5 N5 he hsde hmk
  refine Assign_comp_tup F6 (by rfl) (by with_unfolding_all rfl) (by with_unfolding_all rfl) (by decide) (by rfl) (by decide) (by rfl) (by rfl) (by rfl) ?_
  k_steps
  unfold Stop
  rename Fr _ _ _ _ => F7
  rename News _ _ _ _ => N7
  refine ⟨_, _, _, rfl, rfl, F7, N7, ⟨_, List.mem_cons_self, rfl, _, rfl⟩, by show 3 ≤ sizeLine; rw [sizeLine_eq]; omega, fun gh => ?_⟩
  show LCg.CompRest _ _ _ _ _ _ _ _ _ _ _ _ _ _ _ 3 0 [] _
  refine LCg.CompRest.succ ?_
  intro v1 I1 oI1 C1 oC1 D1 mm1 hh1 tkk1 EE1 hv1 hns1 hmx1 FF1 NN1 hoff1 hne1
  obtain ⟨tv1, hv1'⟩ : ∃ t, v1 = Value.int 1 t := ⟨_, (Option.some.inj hv1).symm⟩
  subst hv1'
  clear hv1
  k_steps
  unfold Stop
  refine' tel_use (rule_tel c1 _) BB ?rF1 XX ?rN1 TT rfl ?rd1 ?ru1 ?rp1 ?_
  (case rF1 => exact FF1)
  (case rN1 => exact NN1)
  (case rd1 => decide)
  (case ru1 => decide)
  (case rp1 => exact c10)
  intro rv1 gx1 tx1 FX1 NX1 st1 hO1
  obtain ⟨rd1, hrv1, hok1, hrd1⟩ := rule_rd hO1
  subst hrv1
  have NY1 := news_rd hrd1 NX1 FF1
  have oN1 := off3_new NN1 hrd1
  clear st1 hO1 hrd1 NX1
  obtain ⟨l1, hl1⟩ : ∃ l, rd1.led = l := ⟨_, rfl⟩
  rw [hl1] at NY1 oN1
  simp only [List.cons_append, List.nil_append] at NY1
  refine LCg.CompEnd.intro FX1 NY1 _ (fun q hq => hq) (off3_app hoff1 oN1) ⟨_, List.mem_cons_self, rfl, _, rfl⟩ ?_
  (try clear ek); (try clear qk)
  clear NN1 FF1 hoff1 oN1 NY1 FX1 hns1 hmx1 hne1
  refine LCg.CompRest.succ ?_
  intro v2 I2 oI2 C2 oC2 D2 mm2 hh2 tkk2 EE2 hv2 hns2 hmx2 FF2 NN2 hoff2 hne2
  obtain ⟨tv2, hv2'⟩ : ∃ t, v2 = Value.int 2 t := ⟨_, (Option.some.inj hv2).symm⟩
  subst hv2'
  clear hv2
  k_steps
  unfold Stop
  refine' tel_use (rule_tel c2 _) BB ?rF2 XX ?rN2 TT rfl ?rd2 ?ru2 ?rp2 ?_
  (case rF2 => exact FF2)
  (case rN2 => exact NN2)
  (case rd2 => decide)
  (case ru2 => decide)
  (case rp2 => exact c20)
  intro rv2 gx2 tx2 FX2 NX2 st2 hO2
  obtain ⟨rd2, hrv2, hok2, hrd2⟩ := rule_rd hO2
  subst hrv2
  have NY2 := news_rd hrd2 NX2 FF2
  have oN2 := off3_new NN2 hrd2
  clear st2 hO2 hrd2 NX2
  obtain ⟨l2, hl2⟩ : ∃ l, rd2.led = l := ⟨_, rfl⟩
  rw [hl2] at NY2 oN2
  simp only [List.cons_append, List.nil_append] at NY2
  refine LCg.CompEnd.intro FX2 NY2 _ (fun q hq => hq) (off3_app hoff2 oN2) ⟨_, List.mem_cons_self, rfl, _, rfl⟩ ?_
  (try clear ek); (try clear qk)
  clear NN2 FF2 hoff2 oN2 NY2 FX2 hns2 hmx2 hne2
  refine LCg.CompRest.succ ?_
  intro v3 I3 oI3 C3 oC3 D3 mm3 hh3 tkk3 EE3 hv3 hns3 hmx3 FF3 NN3 hoff3 hne3
  obtain ⟨tv3, hv3'⟩ : ∃ t, v3 = Value.int 3 t := ⟨_, (Option.some.inj hv3).symm⟩
  subst hv3'
  clear hv3
  k_steps
  unfold Stop
  refine' tel_use (rule_tel c3 _) BB ?rF3 XX ?rN3 TT rfl ?rd3 ?ru3 ?rp3 ?_
  (case rF3 => exact FF3)
  (case rN3 => exact NN3)
  (case rd3 => decide)
  (case ru3 => decide)
  (case rp3 => exact c30)
  intro rv3 gx3 tx3 FX3 NX3 st3 hO3
  obtain ⟨rd3, hrv3, hok3, hrd3⟩ := rule_rd hO3
  subst hrv3
  have NY3 := news_rd hrd3 NX3 FF3
  have oN3 := off3_new NN3 hrd3
  clear st3 hO3 hrd3 NX3
  obtain ⟨l3, hl3⟩ : ∃ l, rd3.led = l := ⟨_, rfl⟩
  rw [hl3] at NY3 oN3
  simp only [List.cons_append, List.nil_append] at NY3
  refine LCg.CompEnd.intro FX3 NY3 _ (fun q hq => hq) (off3_app hoff3 oN3) ⟨_, List.mem_cons_self, rfl, _, rfl⟩ ?_
  (try clear ek); (try clear qk)
  clear NN3 FF3 hoff3 oN3 NY3 FX3 hns3 hmx3 hne3
  refine LCg.CompRest.zero ?_
  intro Dr hr tkr Fr9 Nr9 hoffr
  obtain ⟨nr, hlst⟩ : ∃ nr, LCg.lst ([] ++ [Value.ref rd1.A] ++ [Value.ref rd2.A] ++ [Value.ref rd3.A]) = listOf #[.ref rd1.A, .ref rd2.A, .ref rd3.A] nr := ⟨_, rfl⟩
  rw [hlst] at Nr9
  clear hlst hoffr
  k_steps
  unfold Stop
  rename Fr _ _ _ _ => F8
  rename News _ _ _ _ => N8
  rename IsRange _ _ _ _ _ _ _ _ => hrg
  obtain ⟨fx, hfx⟩ : ∃ fx, fx = (Dr, listOf #[.ref rd1.A, .ref rd2.A, .ref rd3.A] nr) :: ((l1 ++ l2) ++ l3) := ⟨_, rfl⟩
  have N9 : News (ghostOf s1.heap [(48, 44), (41, 37)]) s1.heap.objs.size _ (fx ++ [(44, tabObj #[]), (37, tabObj #[])]) := fun q hq => N8 q (by rw [hfx] at hq; simp only [List.mem_cons, List.mem_append, List.not_mem_nil, or_false] at hq ⊢; rcases hq with (h | (h | h) | h) | h | h <;> simp [h])
  clear N8
  refine iter_rangeUnr (n := 5) rfl hrg ?sm ?rs F8 N9 ?_
  (case sm => exact (small_range (n := 5) (by decide)).1)
  (case rs => exact (small_range (n := 5) (by decide)).2)
  intro J lJ
  refine loopAll rfl rfl BB XX TT (by decide) (by decide) hmc hTl hok1 hok2 hok3 (fun q hq => ?_) (fun q hq => ?_) (fun q hq => ?_) (Rl := Dr) (nr := nr) (fx := fx) (tm := tm) (tt := tt) ?hrl ?hsq ?hinv ?hdn
  · rw [hl1] at hq; rw [hfx]; simp [hq]
  · rw [hl2] at hq; rw [hfx]; simp [hq]
  · rw [hl3] at hq; rw [hfx]; simp [hq]
  (case hrl => rw [hfx]; exact List.mem_cons_self)
  (case hsq =>
    intro q hq
    rw [hfx] at hq
    simp only [List.mem_cons, List.mem_append] at hq
    rcases hq with rfl | (h | h) | h
    · exact ⟨_, _, rfl⟩
    · exact rd1.seqs q (hl1 ▸ h)
    · exact rd2.seqs q (hl2 ▸ h)
    · exact rd3.seqs q (hl3 ▸ h))
  (case hinv =>
    refine ⟨e, sd, tw, tD, tn, _, ?_, rfl, TabF.start, hen, hsd, fun q hq => Nat.ne_of_lt (lJ q hq)⟩
    intro q hq
    simp only [List.mem_cons, List.not_mem_nil, or_false] at hq
    rcases hq with rfl | rfl | rfl | rfl | rfl | rfl <;> exact rfl)
  (case hdn =>
    intro hz tkz mz p1z p2z Fz Nz
    clear F8 N9 hrg lJ hfx hl1 hl2 hl3 hok1 hok2 hok3
    dsimp only
    k_steps))
end Mine
theorem PySem.Challenge.cw_rw0076_01_holds : PySem.Challenge.rw_rw0076_01.Holds := by
  exact Mine.law01
