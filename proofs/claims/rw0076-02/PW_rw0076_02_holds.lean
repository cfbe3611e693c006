import PyProof.Rows.All
import Wide.All
import OpenK.AllK
import Wide.FinOn
import PySem.Challenge.RW_rw0076_02
open PySem PySem.W PyProof.Rows
set_option Elab.async false
set_option maxRecDepth 100000
set_option maxHeartbeats 8000000
local macro_rules | `(tactic| walk_at $s:str) => `(tactic| k_extra $s)
namespace Mine
theorem three {A B C : Prop} (a : A) (_ : B) (_ : C) : A := a
set_option maxRecDepth 100000 in
set_option maxHeartbeats 8000000 in
noncomputable def hd : {W : Prop // W → PySem.Challenge.rw_rw0076_02.Holds} := by
  refine' ⟨_, fun walk => ?main⟩
  case main =>
    w_on
    o_law
    refine' three ?mm ?hl ?hc
    case mm =>
      k_head
      all_goals w_witness2
    case hc => exact walk
    case hl => intro w; kernel_rfl
end Mine
namespace Mine
open PySem PySem.W PySem.Spec PySem.Calls PyProof.Rows

section
variable {h₀ h h' : Heap} {L : Addr} {m : Str → Option Value} {news : List (Addr × Obj)}
theorem fr_stays (F : Fr h₀ L h m) (st : h.StaysIn h') : Fr h₀ L h' m := by
  obtain ⟨oL, a1, a2, hL, a3⟩ := F.ns
  exact ⟨⟨oL, a1, a2, st _ _ hL, a3⟩, fun b o e => st _ _ (F.keep b o e), F.above⟩
theorem news_stays (N : News h₀ L h news) (st : h.StaysIn h') : News h₀ L h' news :=
  fun p hp => ⟨st _ _ (N p hp).1, (N p hp).2.1, (N p hp).2.2⟩
end

/-- what a call of the def at f hands back: all that stands stays as it stands, nothing is raised -/
def Tel (prog : Program) (w : World) (K : Frag) (p : Program) (loose : List Str) (mean : ExcName → Option Value) (mg mb : Str → Option Value)
    (f : Addr) (dn un : Nat) (vs : List Value) (Pre : Heap → Prop) (Out : Heap → Heap → Value → Prop) : Prop :=
  ∀ (dp uu : Nat) (gd : Option (List Code)) (cn : Str) (cs : Scope) (a : Addr) (ccd : Value) (cl : List (Str × Addr)) (outer : List Env) (A₀ : Around) (base h₀ : Heap) (L : Addr) (m : Str → Option Value) (s : Shared) (Q E : Value → Shared → Prop),
    Below A₀ base outer h₀ → Fr h₀ L s.heap m → K.In h₀ → Top p loose mean mg mb h₀ → cs.kind = .function →
    dp + dn + 1 < recursionLimit → uu + un + 3 < cLine → Pre s.heap →
    (∀ r h' tk', s.heap.StaysIn h' → Out s.heap h' r → Q r { s with heap := h', toks := tk' }) →
    wpAny (model prog w) (ktrTop dp uu gd cn cs L a ccd cl outer) (call (.ref f) vs) Q E s

section
variable {prog : Program} {w : World} {K : Frag} {p : Program} {loose : List Str} {mean : ExcName → Option Value} {mg mb : Str → Option Value} {f : Addr} {dn un : Nat} {vs : List Value} {Pre : Heap → Prop} {Out : Heap → Heap → Value → Prop}

theorem tel_of {name qual : Str} {params : Arguments} {body : List Stmt} {scope : Scope} {dV kV doc pm cdv ct oc : Value} {an od : Option Addr} {osl : Array (Option Value)} {binds : List (Str × Value)}
    (ho : K.lookup f = some ⟨oc, od, .func (fnOf name qual params body scope dV kV doc pm an cdv ct), osl⟩) (hcd : codeIn K cdv qual = true)
    (hbind : ∀ s, BindsTo s (fnOf name qual params body scope dV kV doc pm an cdv ct) ⟨vs, []⟩ binds) (hloc : ∀ y ∈ binds, scope.names.lookup y.1 = some .local)
    (hcell : ∀ x ∈ scope.names, x.2 ≠ .cell) (hco : scope.isCoroutine = false) (hgen : scope.isGenerator = false) (hk : scope.kind = .function)
    (h : ∀ (dp uu : Nat) (gd : Option (List Code)) (outer : List Env) (A₀ : Around) (base g : Heap) (L' : Addr) (s : Shared) (Q : Value → Shared → Prop),
      Below A₀ base outer g → Fr g L' s.heap (fun y => binds.reverse.lookup y) → News g L' s.heap [] → K.In g → Top p loose mean mg mb g → dp + dn < recursionLimit → uu + un < cLine → Pre g →
      (∀ r h' tk', g.StaysIn h' → Out g h' r → Q r { s with heap := h', toks := tk' }) →
      wpAny (model prog w) (ktrTop dp uu gd qual scope L' f cdv [] outer) (execs body (envX qual scope L' f cdv [])) (fun fl s' => Q (match fl with | .ret v => v | _ => .none) s') (fun _ _ => False) s) :
    Tel prog w K p loose mean mg mb f dn un vs Pre Out := by
  intro dp uu gd cn cs a ccd cl outer A₀ base h₀ L m s Q E B F X T hcs hd hu hpre hret
  refine wpAny_call ?_
  have X' : K.In s.heap := X.keeps F.keep
  refine codeAny_call_def (fd := fnOf name qual params body scope dV kV doc pm an cdv ct) (body := body) (binds := binds) ?_ (X' _ _ ho) rfl (T.nolimit.keeps F.keep) (codeRec_of X' hcd) rfl (hbind s) hcell hloc (fun h₁ hns hk₁ => ?_) hco hgen hk
  · show dp < recursionLimit; omega
  have B₁ := pushX (env := envX cn cs L a ccd cl) B F rfl hcs
  have F₁ : Fr s.heap s.heap.objs.size h₁ (fun y => binds.reverse.lookup y) := ⟨hns, hk₁, Nat.le_refl _⟩
  have := h (dp + 1) (uu + 3) gd (envX cn cs L a ccd cl :: outer) _ base s.heap s.heap.objs.size { s with heap := h₁, toks := s.toks + binds.length } Q B₁ F₁ News.nil X' (T.keeps F.keep) (by omega) (by omega) hpre hret
  exact wpAny_mono this (fun fl s' hl => by cases fl <;> exact hl) fun _ _ y => y.elim

theorem tel_use {dp uu : Nat} {gd : Option (List Code)} {cn : Str} {cs : Scope} {a : Addr} {ccd : Value} {cl : List (Str × Addr)} {outer : List Env} {A₀ : Around} {base h₀ : Heap} {L : Addr} {m : Str → Option Value} {news : List (Addr × Obj)} {s : Shared}
    {Q E : Value → Shared → Prop} (C : Tel prog w K p loose mean mg mb f dn un vs Pre Out) (B : Below A₀ base outer h₀) (F : Fr h₀ L s.heap m) (X : K.In h₀) (N : News h₀ L s.heap news) (T : Top p loose mean mg mb h₀) (hk : cs.kind = .function)
    (hd : dp + dn + 1 < recursionLimit) (hu : uu + un + 3 < cLine) (hpre : Pre s.heap)
    (ret : ∀ r h' tk', Fr h₀ L h' m → News h₀ L h' news → s.heap.StaysIn h' → Out s.heap h' r → Q r { s with heap := h', toks := tk' }) :
    wpAny (model prog w) (ktrTop dp uu gd cn cs L a ccd cl outer) (call (.ref f) vs) Q E s :=
  C dp uu gd cn cs a ccd cl outer A₀ base h₀ L m s Q E B F X T hk hd hu hpre fun r h' tk' st o => ret r h' tk' (fr_stays F st) (news_stays N st) st o
/-- a made pair is handed back -/
def PairOut (a b : Value → Prop) (g h' : Heap) (r : Value) : Prop :=
  ∃ R x y, r = .ref R ∧ a x ∧ b y ∧ h'.get? R = some { cls := .type "tuple", data := .seq #[x, y] } ∧ g.get? R = none
def IsI (n : Int) (v : Value) : Prop := ∃ t, v = .int n t
def IsS (x : Str) (v : Value) : Prop := ∃ t, v = .str x t
theorem news_pair {h₀ h h' : Heap} {L R : Addr} {o : Obj} {m : Str → Option Value} {news : List (Addr × Obj)} (F : Fr h₀ L h m) (N : News h₀ L h' news) (h1 : h'.get? R = some o) (h2 : h.get? R = none) : News h₀ L h' ((R, o) :: news) := by
  intro p hp
  rcases List.mem_cons.mp hp with rfl | hp
  · refine ⟨h1, fun (q : R = L) => ?_, ?_⟩
    · obtain ⟨oL, _, _, hL, _⟩ := F.ns
      rw [q, hL] at h2; cases h2
    · cases e : h₀.get? R with
      | none => rfl
      | some o' => rw [F.keep _ _ e] at h2; cases h2
  · exact N p hp
/-- an own object of the walk at the end of a def, seen from outside -/
theorem pair_out {g h' : Heap} {L R : Addr} {x y : Value} {a b : Value → Prop} {news : List (Addr × Obj)} (N : News g L h' news) (hm : (R, ({ cls := .type "tuple", data := .seq #[x, y] } : Obj)) ∈ news) (ha : a x) (hb : b y) : PairOut a b g h' (.ref R) :=
  ⟨R, x, y, rfl, ha, hb, (N _ hm).1, (N _ hm).2.2⟩
end
end Mine
namespace Mine
open PySem PySem.W PySem.Spec PySem.Calls PyProof.Rows

/-- a halt for the walk -/
def Stop (p : Prop) : Prop := p
theorem stop_here {p : Prop} (h : Stop p) : p := h

def MS {σ : Type} (Led : σ → List (Addr × Obj)) (ps : σ → List (Str × Value)) (x : Str) (stored : List Str) (m₀ : Str → Option Value) (P : σ → Prop) (m : Str → Option Value) (nx : List (Addr × Obj)) : Prop :=
  ∃ c : σ, nx = Led c ∧ (∀ p ∈ ps c, m p.1 = some p.2) ∧ (∀ z, z ≠ x → (∀ p ∈ ps c, z ≠ p.1) → stored.contains z = false → m z = m₀ z) ∧ P c

section
variable {prog : Program} {w : World} {A : Around} {E : Value → Shared → Prop} {s : Shared} {env : Env} {h₀ : Heap} {x : Str} {body : List Stmt} {Q : Flow → Shared → Prop}
theorem for_any {σ : Type} {I : Addr} {fp wr : List Addr} {n : Nat} {P : Nat → Value → Prop} {St : Nat → Heap → Prop} {m₀ : Str → Option Value} (fix : List (Addr × Obj)) (Led : σ → List (Addr × Obj)) (ps : σ → List (Str × Value)) (stored : List Str) (J : Nat → σ → Prop) (c₀ : σ)
    (W : Walks prog w A I fp wr n P St) (hLf : env.locals ∉ fp) (hwr : ∀ b ∈ wr, h₀.get? b = none) (hnw : ∀ p ∈ Led c₀ ++ fix, p.1 ∉ wr) (hfp : ∀ q ∈ Led c₀, q.1 ∉ fp) (hst : St 0 s.heap) (F : Fr h₀ env.locals s.heap m₀) (N : News h₀ env.locals s.heap (Led c₀ ++ fix))
    (hk : ∀ p ∈ ps c₀, m₀ p.1 = some p.2) (hj : J 0 c₀)
    (turn : ∀ i (c : σ) v (u : Str → Option Value) h tk own, i < n → P i v → OwnOff own ((Led c₀).map (·.1)) → J i c →
      Fr h₀ env.locals h (fun y => if y = x then some v else kstB (fun z => if stored.contains z then u z else m₀ z) (ps c) y) → News h₀ env.locals h (Led c ++ (fix ++ own)) →
      wpAny (model prog w) A (execs body env) (InvPostN h₀ env.locals (MS Led ps x stored m₀ (J (i + 1))) (fix ++ own) ((Led c₀).map (·.1)) { s with heap := h, toks := tk } Q) E { s with heap := h, toks := tk })
    (done : ∀ (c : σ) (u : Str → Option Value) h tk, J n c → Fr h₀ env.locals h (fun y => if y = x then u y else kstB (fun z => if stored.contains z then u z else m₀ z) (ps c) y) → News h₀ env.locals h (Led c ++ fix) → Q .next { s with heap := h, toks := tk }) :
    LoopAtV prog w A h₀ env x body Q E (.ref I) s := by
  let J' : Nat → (Str → Option Value) → List (Addr × Obj) → Prop := fun i m₁ nx => ∃ nx₀, nx = nx₀ ++ fix ∧ nx₀.map (·.1) = (Led c₀).map (·.1) ∧ MS Led ps x stored m₀ (J i) m₁ nx₀
  refine ⟨I, fp, wr, n, P, St, m₀, Led c₀ ++ fix, J', rfl, W, hLf, hwr, hnw, hst, F, N, ⟨Led c₀, rfl, rfl, c₀, rfl, hk, fun _ _ _ _ => rfl, hj⟩, ?_, ?_⟩
  · rintro i v m₁ news₁ s₁ own ⟨hh', tk', rfl⟩ hin hP ⟨nx₀, rfl, hadr, c, rfl, h1, h2, hJ⟩ hoff hown _ _ _ F₁ N₁
    have hsep : OwnOff own ((Led c₀).map (·.1)) := by
      intro p hp b hb e
      obtain ⟨q, hq, rfl⟩ := List.mem_map.mp hb
      exact hfp q hq (e ▸ hown p hp)
    have N₂ : News h₀ env.locals hh' (Led c ++ (fix ++ own)) := fun p hp => N₁ p (by
      simp only [List.mem_append] at hp ⊢
      rcases hp with h | h | h
      · exact .inr (.inl h)
      · exact .inr (.inr h)
      · exact .inl h)
    refine wpAny_mono (turn i c v m₁ hh' tk' own hin hP hsep hJ (kst_fr h1 h2 F₁) N₂) (fun f s₂ p => ?_) fun _ _ e => e
    have fin : InvEndN h₀ env.locals (MS Led ps x stored m₀ (J (i + 1))) (fix ++ own) ((Led c₀).map (·.1)) { s with heap := hh', toks := tk' } s₂ → LoopStepU h₀ env.locals wr own (J' (i + 1)) { s with heap := hh', toks := tk' } .next s₂ := by
      rintro ⟨h', tk, m', news', nx, e, F', N', hn, ho, ha, hm⟩
      refine ⟨rfl, h', tk, m', nx ++ fix, e, F', fun p hp => ?_, fun p hp hq => ?_, nx, rfl, ha, hm⟩
      · simp only [List.mem_append] at hp
        rcases hp with h | h | h
        · exact N' p (ho p (List.mem_append_right _ h))
        · exact N' p (hn p h)
        · exact N' p (ho p (List.mem_append_left _ h))
      · rcases List.mem_append.mp hp with h | h
        · have h1 : p.1 ∈ nx.map (·.1) := List.mem_map.mpr ⟨p, h, rfl⟩
          rw [ha] at h1
          obtain ⟨q, hq1, hq2⟩ := List.mem_map.mp h1
          exact hnw q (List.mem_append_left _ hq1) (by rw [hq2]; exact hq)
        · exact hnw p (List.mem_append_right _ h) hq
    cases f with
    | ret v => exact .ret p
    | brk => exact .brk p
    | next => exact .next (fin p)
    | cont => exact .cont (fin p)
  · rintro h' tk m' news' F' N' _ ⟨nx₀, rfl, _, c, rfl, h1, h2, hJ⟩
    exact done c m' h' tk hJ (kst_frOut h1 h2 F') N'

/-- over a list that no turn changes; it stays in hand -/
theorem for_list {σ : Type} {l : Addr} {vs : List Value} {m₀ : Str → Option Value} (fix : List (Addr × Obj)) (Led : σ → List (Addr × Obj)) (ps : σ → List (Str × Value)) (stored : List Str) (J : Nat → σ → Prop) (c₀ : σ)
    (hh : A.handled = none) (hls : s.heap.IsList l vs.toArray) (hlL : l ≠ env.locals) (hl : ∀ q ∈ Led c₀, q.1 ≠ l) (F : Fr h₀ env.locals s.heap m₀) (N : News h₀ env.locals s.heap (Led c₀ ++ fix))
    (hk : ∀ p ∈ ps c₀, m₀ p.1 = some p.2) (hj : J 0 c₀)
    (turn : ∀ i (c : σ) v (u : Str → Option Value) h tk own, vs[i]? = some v → OwnOff own ((Led c₀).map (·.1)) → J i c →
      Fr h₀ env.locals h (fun y => if y = x then some v else kstB (fun z => if stored.contains z then u z else m₀ z) (ps c) y) → News h₀ env.locals h (Led c ++ (fix ++ own)) →
      wpAny (model prog w) A (execs body env) (InvPostN h₀ env.locals (MS Led ps x stored m₀ (J (i + 1))) (fix ++ own) ((Led c₀).map (·.1)) { s with heap := h, toks := tk } Q) E { s with heap := h, toks := tk })
    (done : ∀ (c : σ) (u : Str → Option Value) h tk, J vs.length c → Fr h₀ env.locals h (fun y => if y = x then u y else kstB (fun z => if stored.contains z then u z else m₀ z) (ps c) y) → News h₀ env.locals h (Led c ++ fix) → Q .next { s with heap := h, toks := tk }) :
    wpAny (model prog w) A (pyIter (.ref l)) (fun it s₂ => LoopAtV prog w A h₀ env x body Q E it s₂) E s := by
  obtain ⟨ol, hol, _⟩ := id hls
  have hne : l ≠ s.heap.objs.size := Nat.ne_of_lt (Heap.lt_size hol)
  refine wpAny_pyIter_list hls ?_
  have W := Walks.list (prog := prog) (w := w) hh s.heap.objs.size l hne vs.toArray
  rw [List.size_toArray] at W
  refine for_any (s := { s with heap := s.heap.push _ }) fix Led ps stored J c₀ W ?_ ?_ ?_ ?_ ⟨⟨_, Heap.get?_push_size _ rfl, rfl, rfl⟩, hls.at fun o e => Heap.get?_push_of_some _ e⟩ (F.push _)
    (fun p hp => ⟨Heap.get?_push_of_some _ (N p hp).1, (N p hp).2⟩) hk hj ?_ done
  · intro hm
    rcases List.mem_cons.mp hm with e | hm
    · exact absurd F.ns.lt (e ▸ Nat.lt_irrefl _)
    · exact hlL (List.mem_singleton.mp hm).symm
  · intro b hb
    rw [List.mem_singleton.mp hb]
    exact next_is_new F
  · intro p hp hI
    exact absurd (Heap.lt_size (N p hp).1) ((List.mem_singleton.mp hI) ▸ Nat.lt_irrefl _)
  · intro q hq hm
    rcases List.mem_cons.mp hm with e | hm
    · exact absurd (Heap.lt_size (N q (List.mem_append_left _ hq)).1) (e ▸ Nat.lt_irrefl _)
    · exact hl q hq (List.mem_singleton.mp hm)
  · intro i c v u h tk own _ hP
    exact turn i c v u h tk own (by simpa using hP)
theorem for_listN {σ : Type} {l : Addr} {vs vs' : List Value} {nn : Nat} {m₀ : Str → Option Value} {news : List (Addr × Obj)} (fix : List (Addr × Obj)) (Led : σ → List (Addr × Obj)) (ps : σ → List (Str × Value)) (stored : List Str) (J : Nat → σ → Prop) (c₀ : σ)
    (hh : A.handled = none) (hm : (l, listOf vs'.toArray nn) ∈ news) (e : vs' = vs) (hl : ∀ q ∈ Led c₀, q.1 ≠ l) (F : Fr h₀ env.locals s.heap m₀) (N : News h₀ env.locals s.heap news) (hsub : ∀ p ∈ Led c₀ ++ fix, p ∈ news)
    (hk : ∀ p ∈ ps c₀, m₀ p.1 = some p.2) (hj : J 0 c₀)
    (turn : ∀ i (c : σ) v (u : Str → Option Value) h tk own, vs[i]? = some v → OwnOff own ((Led c₀).map (·.1)) → J i c →
      Fr h₀ env.locals h (fun y => if y = x then some v else kstB (fun z => if stored.contains z then u z else m₀ z) (ps c) y) → News h₀ env.locals h (Led c ++ (fix ++ own)) →
      wpAny (model prog w) A (execs body env) (InvPostN h₀ env.locals (MS Led ps x stored m₀ (J (i + 1))) (fix ++ own) ((Led c₀).map (·.1)) { s with heap := h, toks := tk } Q) E { s with heap := h, toks := tk })
    (done : ∀ (c : σ) (u : Str → Option Value) h tk, J vs.length c → Fr h₀ env.locals h (fun y => if y = x then u y else kstB (fun z => if stored.contains z then u z else m₀ z) (ps c) y) → News h₀ env.locals h (Led c ++ fix) → Q .next { s with heap := h, toks := tk }) :
    wpAny (model prog w) A (pyIter (.ref l)) (fun it s₂ => LoopAtV prog w A h₀ env x body Q E it s₂) E s := by
  subst e
  exact for_list fix Led ps stored J c₀ hh ⟨_, (N _ hm).1, rfl, nn, rfl⟩ (N _ hm).2.1 hl F (fun p hp => N p (hsub p hp)) hk hj turn done
/-- over a range by ones -/
theorem for_range {σ : Type} {r : Addr} {a₀ b₀ : Int} {t₀ u₀ v₀ : Tok} {n : Nat} {m₀ : Str → Option Value} (fix : List (Addr × Obj)) (Led : σ → List (Addr × Obj)) (ps : σ → List (Str × Value)) (stored : List Str) (J : Nat → σ → Prop) (c₀ : σ)
    (hh : A.handled = none) (hr : IsRange s.heap r a₀ b₀ 1 t₀ u₀ v₀) (hsmall : Builtin.Range.small a₀ b₀ 1 = true) (hn : Builtin.Range.rangeSize a₀ b₀ 1 = (n : Int))
    (F : Fr h₀ env.locals s.heap m₀) (N : News h₀ env.locals s.heap (Led c₀ ++ fix)) (hk : ∀ p ∈ ps c₀, m₀ p.1 = some p.2) (hj : J 0 c₀)
    (turn : ∀ (i : Nat) (c : σ) (t : Tok) (u : Str → Option Value) h tk own, i < n → OwnOff own ((Led c₀).map (·.1)) → J i c →
      Fr h₀ env.locals h (fun y => if y = x then some (.int (a₀ + (i : Int)) t) else kstB (fun z => if stored.contains z then u z else m₀ z) (ps c) y) → News h₀ env.locals h (Led c ++ (fix ++ own)) →
      wpAny (model prog w) A (execs body env) (InvPostN h₀ env.locals (MS Led ps x stored m₀ (J (i + 1))) (fix ++ own) ((Led c₀).map (·.1)) { s with heap := h, toks := tk } Q) E { s with heap := h, toks := tk })
    (done : ∀ (c : σ) (u : Str → Option Value) h tk, J n c → Fr h₀ env.locals h (fun y => if y = x then u y else kstB (fun z => if stored.contains z then u z else m₀ z) (ps c) y) → News h₀ env.locals h (Led c ++ fix) → Q .next { s with heap := h, toks := tk }) :
    wpAny (model prog w) A (pyIter (.ref r)) (fun it s₂ => LoopAtV prog w A h₀ env x body Q E it s₂) E s := by
  refine wpAny_pyIter_range hr hsmall ?_
  have W := Walks.range (prog := prog) (w := w) hh s.heap.objs.size a₀ 1 n
  refine for_any (s := { s with heap := s.heap.push _ }) fix Led ps stored J c₀ W ?_ ?_ ?_ ?_ (by show IsRangeIter _ _ _ _ _; rw [hn]; simpa using Heap.get?_push_size _ rfl) (F.push _)
    (fun p hp => ⟨Heap.get?_push_of_some _ (N p hp).1, (N p hp).2⟩) hk hj ?_ done
  · intro hm
    exact absurd F.ns.lt ((List.mem_singleton.mp hm) ▸ Nat.lt_irrefl _)
  · intro b hb
    rw [List.mem_singleton.mp hb]
    exact next_is_new F
  · intro p hp hI
    exact absurd (Heap.lt_size (N p hp).1) ((List.mem_singleton.mp hI) ▸ Nat.lt_irrefl _)
  · intro q hq hm
    exact absurd (Heap.lt_size (N q (List.mem_append_left _ hq)).1) ((List.mem_singleton.mp hm) ▸ Nat.lt_irrefl _)
  · intro i c v u h tk own hi hP hoff hJ F1 N1
    obtain ⟨t, rfl⟩ := hP
    have e1 : a₀ + (i : Int) * 1 = a₀ + (i : Int) := by omega
    rw [e1] at F1
    exact turn i c t u h tk own hi hoff hJ F1 N1
end
end Mine
namespace Mine
open PySem PySem.W PySem.Spec PySem.Calls PyProof.Rows

abbrev hidT (h : Heap) (T : List (Addr × Obj)) : Heap := hideAll h (T.map (·.1))
section
variable {h₀ h h' : Heap} {L : Addr} {m : Str → Option Value} {T : List (Addr × Obj)}
theorem off_of_news (N : News h₀ L h T) {b : Addr} {o : Obj} (e : h₀.get? b = some o) : b ∉ T.map (·.1) := fun q => by
  obtain ⟨p, hp, rfl⟩ := List.mem_map.mp q
  rw [(N p hp).2.2] at e; cases e
theorem offL_of_news (N : News h₀ L h T) : L ∉ T.map (·.1) := fun q => by
  obtain ⟨p, hp, e⟩ := List.mem_map.mp q
  exact (N p hp).2.1 e
theorem hidT_get {b : Addr} {o : Obj} (e : h.get? b = some o) (hb : b ∉ T.map (·.1)) : (hidT h T).get? b = some o := hideAll_get _ e hb
theorem base_hidT (F : Fr h₀ L h m) (N : News h₀ L h T) : h₀.StaysIn (hidT h T) := fun _ _ e => hidT_get (F.keep _ _ e) (off_of_news N e)
theorem fr_hidT (F : Fr h₀ L h m) (N : News h₀ L h T) : Fr h₀ L (hidT h T) m := by
  obtain ⟨oL, a1, a2, hL, a3⟩ := F.ns
  exact ⟨⟨oL, a1, a2, hidT_get hL (offL_of_news N), a3⟩, base_hidT F N, F.above⟩
end

/-- a def whose call may lay a table of nested code -/
def TelT (TabF TabF' : List (Addr × Obj) → Prop) (prog : Program) (w : World) (K : Frag) (p : Program) (loose : List Str) (mean : ExcName → Option Value) (mg mb : Str → Option Value)
    (f : Addr) (dn un : Nat) (vs : List Value) (Pre : Heap → Prop) (Out : Heap → Heap → Value → Prop) : Prop :=
  ∀ (dp uu : Nat) (gd : Option (List Code)) (cn : Str) (cs : Scope) (a : Addr) (ccd : Value) (cl : List (Str × Addr)) (outer : List Env) (A₀ : Around) (base h₀ : Heap) (L : Addr) (m : Str → Option Value) (s : Shared) (Q E : Value → Shared → Prop) (T : List (Addr × Obj)),
    Below A₀ base outer h₀ → Fr h₀ L s.heap m → K.In h₀ → Top p loose mean mg mb h₀ → cs.kind = .function →
    dp + dn + 1 < recursionLimit → uu + un + 3 < cLine → TabF T → News h₀ L s.heap T → Pre (hidT s.heap T) →
    (∀ r h' tk' T', (hidT s.heap T).StaysIn h' → TabF' T' → (∀ p ∈ T', h'.get? p.1 = some p.2 ∧ (hidT s.heap T).get? p.1 = none) → Out (hidT s.heap T) h' r → Q r { s with heap := h', toks := tk' }) →
    wpAny (model prog w) (ktrTop dp uu gd cn cs L a ccd cl outer) (call (.ref f) vs) Q E s

section
variable {TabF TabF' : List (Addr × Obj) → Prop} {prog : Program} {w : World} {K : Frag} {p : Program} {loose : List Str} {mean : ExcName → Option Value} {mg mb : Str → Option Value} {f : Addr} {dn un : Nat} {vs : List Value} {Pre : Heap → Prop} {Out : Heap → Heap → Value → Prop}

/-- the ledger ends in T -/
inductive Cut (T : List (Addr × Obj)) : List (Addr × Obj) → List (Addr × Obj) → Prop
  | here : Cut T T []
  | cons {x r f} : Cut T r f → Cut T (x :: r) (x :: f)
  | app {o r f} : Cut T r f → Cut T (o ++ r) (o ++ f)
theorem Cut.eq {T : List (Addr × Obj)} : ∀ {l f : List (Addr × Obj)}, Cut T l f → l = f ++ T
  | _, _, .here => rfl
  | _, _, .cons c => by rw [c.eq]; rfl
  | _, _, .app c => by rw [c.eq, List.append_assoc]

theorem telT_use {dp uu : Nat} {gd : Option (List Code)} {cn : Str} {cs : Scope} {a : Addr} {ccd : Value} {cl : List (Str × Addr)} {outer : List Env} {A₀ : Around} {base h₀ : Heap} {L : Addr} {m : Str → Option Value} {news front T : List (Addr × Obj)} {s : Shared}
    {Q E : Value → Shared → Prop} (C : TelT TabF TabF' prog w K p loose mean mg mb f dn un vs Pre Out) (B : Below A₀ base outer h₀) (F : Fr h₀ L s.heap m) (X : K.In h₀) (N : News h₀ L s.heap news) (Tp : Top p loose mean mg mb h₀) (hk : cs.kind = .function)
    (hd : dp + dn + 1 < recursionLimit) (hu : uu + un + 3 < cLine) (hT : TabF T) (hcut : Cut T news front) (hoff : ∀ q ∈ front, q.1 ∉ T.map (·.1)) (hpre : Pre (hidT s.heap T))
    (ret : ∀ r h' tk' T', Fr h₀ L h' m → News h₀ L h' (front ++ T') → TabF' T' → (∀ q ∈ front, q.1 ∉ T'.map (·.1)) → (hidT s.heap T).StaysIn h' → (∀ q ∈ front, (hidT s.heap T).get? q.1 = some q.2) → Fr h₀ L (hidT s.heap T) m → Out (hidT s.heap T) h' r → Q r { s with heap := h', toks := tk' }) :
    wpAny (model prog w) (ktrTop dp uu gd cn cs L a ccd cl outer) (call (.ref f) vs) Q E s := by
  have e := hcut.eq
  subst e
  have NT : News h₀ L s.heap T := fun p hp => N p (List.mem_append_right _ hp)
  have hidF : ∀ q ∈ front, (hidT s.heap T).get? q.1 = some q.2 := fun q hq => hidT_get (N q (List.mem_append_left _ hq)).1 (hoff q hq)
  refine C dp uu gd cn cs a ccd cl outer A₀ base h₀ L m s Q E T B F X Tp hk hd hu hT NT hpre fun r h' tk' T' st hT' hN o => ?_
  have FH := fr_hidT F NT
  refine ret r h' tk' T' (fr_stays FH st) (fun q hq => ?_) hT' (fun q hq hm => ?_) st hidF FH o
  · rcases List.mem_append.mp hq with h1 | h1
    · exact ⟨st _ _ (hidF q h1), (N q (List.mem_append_left _ h1)).2⟩
    · refine ⟨(hN q h1).1, fun q2 => ?_, ?_⟩
      · obtain ⟨oL, _, _, hL, _⟩ := FH.ns
        rw [← q2, (hN q h1).2] at hL; cases hL
      · cases e : h₀.get? q.1 with
        | none => rfl
        | some o' => have := FH.keep _ _ e; rw [(hN q h1).2] at this; cases this
  · obtain ⟨q2, hq2, e⟩ := List.mem_map.mp hm
    have := hidF q hq
    rw [← e, (hN q2 hq2).2] at this; cases this

theorem telT_of {name qual : Str} {params : Arguments} {body : List Stmt} {scope : Scope} {dV kV doc pm cdv ct oc : Value} {an od : Option Addr} {osl : Array (Option Value)} {binds : List (Str × Value)}
    (ho : K.lookup f = some ⟨oc, od, .func (fnOf name qual params body scope dV kV doc pm an cdv ct), osl⟩) (hcd : codeIn K cdv qual = true)
    (hbind : ∀ s, BindsTo s (fnOf name qual params body scope dV kV doc pm an cdv ct) ⟨vs, []⟩ binds) (hloc : ∀ y ∈ binds, scope.names.lookup y.1 = some .local)
    (hcell : ∀ x ∈ scope.names, x.2 ≠ .cell) (hco : scope.isCoroutine = false) (hgen : scope.isGenerator = false) (hk : scope.kind = .function)
    (h : ∀ (dp uu : Nat) (gd : Option (List Code)) (outer : List Env) (A₀ : Around) (base g : Heap) (L' : Addr) (s : Shared) (Q : Value → Shared → Prop) (T : List (Addr × Obj)),
      Below A₀ base outer g → Fr g L' s.heap (fun y => binds.reverse.lookup y) → News g L' s.heap T → TabF T → K.In g → Top p loose mean mg mb g → dp + dn < recursionLimit → uu + un < cLine → Pre g →
      (∀ r h' tk' T', g.StaysIn h' → TabF' T' → News g L' h' T' → Out g h' r → Q r { s with heap := h', toks := tk' }) →
      wpAny (model prog w) (ktrTop dp uu gd qual scope L' f cdv [] outer) (execs body (envX qual scope L' f cdv [])) (fun fl s' => Q (match fl with | .ret v => v | _ => .none) s') (fun _ _ => False) s) :
    TelT TabF TabF' prog w K p loose mean mg mb f dn un vs Pre Out := by
  intro dp uu gd cn cs a ccd cl outer A₀ base h₀ L m s Q E T B F X Tp hcs hd hu hT NT hpre hret
  refine wpAny_call ?_
  have X' : K.In s.heap := X.keeps F.keep
  refine codeAny_call_def (fd := fnOf name qual params body scope dV kV doc pm an cdv ct) (body := body) (binds := binds) ?_ (X' _ _ ho) rfl (Tp.nolimit.keeps F.keep) (codeRec_of X' hcd) rfl (hbind s) hcell hloc (fun h₁ hns hk₁ => ?_) hco hgen hk
  · show dp < recursionLimit; omega
  obtain ⟨FG, BG, st, _⟩ := groundX (A := ktrTop dp uu gd cn cs L a ccd cl outer) (env := envX cn cs L a ccd cl) (R := fun _ _ => True) B F NT rfl rfl hcs
  have hsz : s.heap.objs.size = (hidT s.heap T).objs.size := (hideAll_size _ _).symm
  have F₁ : Fr (hidT s.heap T) s.heap.objs.size h₁ (fun y => binds.reverse.lookup y) := ⟨hns, fun b o e => hk₁ b o (of_hideAll _ e), Nat.le_of_eq hsz.symm⟩
  have N₁ : News (hidT s.heap T) s.heap.objs.size h₁ T := fun p hp => ⟨hk₁ _ _ (NT p hp).1, Nat.ne_of_lt (Heap.lt_size (NT p hp).1), hideAll_none _ (List.mem_map_of_mem hp)⟩
  have := h (dp + 1) (uu + 3) gd (envX cn cs L a ccd cl :: outer) _ base _ s.heap.objs.size { s with heap := h₁, toks := s.toks + binds.length } Q T BG F₁ N₁ hT (X.keeps st) (Tp.keeps st) (by omega) (by omega) hpre
    (fun r h' tk' T' st' hT' N' o => hret r h' tk' T' st' hT' (fun q hq => ⟨(N' q hq).1, (N' q hq).2.2⟩) o)
  exact wpAny_mono this (fun fl s' hl => by cases fl <;> exact hl) fun _ _ y => y.elim
theorem telT_ofC {name qual : Str} {params : Arguments} {body : List Stmt} {scope : Scope} {dV kV doc pm cdv ct oc : Value} {an od : Option Addr} {osl : Array (Option Value)} {binds : List (Str × Value)}
    (ho : K.lookup f = some ⟨oc, od, .func (fnOf name qual params body scope dV kV doc pm an cdv ct), osl⟩) (hcd : codeIn K cdv qual = true)
    (hbind : ∀ s, BindsTo s (fnOf name qual params body scope dV kV doc pm an cdv ct) ⟨vs, []⟩ binds) (hkind : (binds.all fun y => scope.names.lookup y.1 == some .local || scope.names.lookup y.1 == some .cell) = true)
    (hnd : ((cellsFrom 0 scope.names []).map (·.1)).Nodup) (hco : scope.isCoroutine = false) (hgen : scope.isGenerator = false) (hk : scope.kind = .function)
    (h : ∀ (dp uu : Nat) (gd : Option (List Code)) (outer : List Env) (A₀ : Around) (base g : Heap) (L' : Addr) (s : Shared) (Q : Value → Shared → Prop) (T cells : List (Addr × Obj)),
      Below A₀ base outer g → Fr g L' s.heap (bindL (envOfC qual scope L' f cdv).kindOf binds fun _ => none) → News g L' s.heap (cells ++ T) →
      CellsAre (bindC (envOfC qual scope L' f cdv).kindOf binds fun _ => none) (cellsFrom (L' + 1) scope.names []) cells → (∀ q ∈ T, q.1 < L') →
      TabF T → K.In g → Top p loose mean mg mb g → dp + dn < recursionLimit → uu + un < cLine → Pre g →
      (∀ r h' tk' T', g.StaysIn h' → TabF' T' → News g L' h' T' → Out g h' r → Q r { s with heap := h', toks := tk' }) →
      wpAny (model prog w) (ktrTop dp uu gd qual scope L' f cdv (cellsFrom (L' + 1) scope.names []) outer) (execs body (envX qual scope L' f cdv (cellsFrom (L' + 1) scope.names []))) (fun fl s' => Q (match fl with | .ret v => v | _ => .none) s') (fun _ _ => False) s) :
    TelT TabF TabF' prog w K p loose mean mg mb f dn un vs Pre Out := by
  intro dp uu gd cn cs a ccd cl outer A₀ base h₀ L m s Q E T B F X Tp hcs hd hu hT NT hpre hret
  refine wpAny_call ?_
  have X' : K.In s.heap := X.keeps F.keep
  refine codeAny_call_function (by show dp < recursionLimit; omega) (X' _ _ ho) rfl hco hgen rfl (codeRec_of X' hcd) (hbind s _ _ _ _ ?_)
  refine wpAny_newFunctionEnv_cells hk (kindsX hkind _) fun env' he s' x => ?_
  subst he
  refine ⟨(Tp.nolimit.keeps F.keep).keeps x.toInCall.keep, codeAny_func ?_⟩
  obtain ⟨h₁, tk, rfl, _⟩ := x.done
  have hk₁ := x.toInCall.keep
  obtain ⟨cells, NC, Y⟩ := Cl.news (h₀ := s.heap) (Nat.le_refl _) fun n c hm => ⟨x.cell n c (lookup_of_mem_nodup (cellsFrom_names scope.names 0 (s.heap.objs.size + 1) [] [] rfl ▸ hnd) hm), x.above n c hm⟩
  obtain ⟨FG, BG, st, _⟩ := groundX (A := ktrTop dp uu gd cn cs L a ccd cl outer) (env := envX cn cs L a ccd cl) (R := fun _ _ => True) B F NT rfl rfl hcs
  have hsz : s.heap.objs.size = (hidT s.heap T).objs.size := (hideAll_size _ _).symm
  have F₁ : Fr (hidT s.heap T) s.heap.objs.size h₁ (bindL (envOfC qual scope s.heap.objs.size f cdv).kindOf binds fun _ => none) := ⟨x.toInCall.ns, fun b o e => hk₁ b o (of_hideAll _ e), Nat.le_of_eq hsz.symm⟩
  have N₁ : News (hidT s.heap T) s.heap.objs.size h₁ (cells ++ T) := fun p hp => by
    rcases List.mem_append.mp hp with hp | hp
    · refine ⟨(NC p hp).1, (NC p hp).2.1, ?_⟩
      cases q : (hidT s.heap T).get? p.1 with
      | none => rfl
      | some o => have := of_hideAll _ q; rw [(NC p hp).2.2] at this; cases this
    · exact ⟨hk₁ _ _ (NT p hp).1, Nat.ne_of_lt (Heap.lt_size (NT p hp).1), hideAll_none _ (List.mem_map_of_mem hp)⟩
  have := h (dp + 1) (uu + 3) gd (envX cn cs L a ccd cl :: outer) _ base _ s.heap.objs.size { s with heap := h₁, toks := tk } Q T cells BG F₁ N₁ Y (fun q hq => Heap.lt_size (NT q hq).1) hT (X.keeps st) (Tp.keeps st) (by omega) (by omega) hpre
    (fun r h' tk' T' st' hT' N' o => hret r h' tk' T' st' hT' (fun q hq => ⟨(N' q hq).1, (N' q hq).2.2⟩) o)
  exact wpAny_mono this (fun fl s' hl => by cases fl <;> exact hl) fun _ _ y => y.elim

/-- a nested def, its function object lying in the heap -/
theorem telT_ofX {name qual : Str} {params : Arguments} {body : List Stmt} {scope : Scope} {cl₁ : List (Str × Addr)} {dV kV doc pm cdv ct : Value} {an : Option Addr} {fo : Obj} {binds : List (Str × Value)}
    (hfo : fo.data = .func (fnX name qual params body scope cl₁ dV kV doc pm an cdv ct)) (hpf : ∀ g, Pre g → g.get? f = some fo ∧ g.CodeRec cdv qual)
    (hbind : ∀ s, BindsTo s (fnX name qual params body scope cl₁ dV kV doc pm an cdv ct) ⟨vs, []⟩ binds) (hloc : ∀ y ∈ binds, scope.names.lookup y.1 = some .local)
    (hcell : ∀ x ∈ scope.names, x.2 ≠ .cell) (hco : scope.isCoroutine = false) (hgen : scope.isGenerator = false) (hk : scope.kind = .function)
    (h : ∀ (dp uu : Nat) (gd : Option (List Code)) (outer : List Env) (A₀ : Around) (base g : Heap) (L' : Addr) (s : Shared) (Q : Value → Shared → Prop) (T : List (Addr × Obj)),
      Below A₀ base outer g → Fr g L' s.heap (fun y => binds.reverse.lookup y) → News g L' s.heap T → (∀ q ∈ T, q.1 < L') → TabF T → K.In g → Top p loose mean mg mb g → dp + dn < recursionLimit → uu + un < cLine → Pre g →
      (∀ r h' tk' T', g.StaysIn h' → TabF' T' → News g L' h' T' → Out g h' r → Q r { s with heap := h', toks := tk' }) →
      wpAny (model prog w) (ktrTop dp uu gd qual scope L' f cdv cl₁ outer) (execs body (envX qual scope L' f cdv cl₁)) (fun fl s' => Q (match fl with | .ret v => v | _ => .none) s') (fun _ _ => False) s) :
    TelT TabF TabF' prog w K p loose mean mg mb f dn un vs Pre Out := by
  intro dp uu gd cn cs a ccd cl outer A₀ base h₀ L m s Q E T B F X Tp hcs hd hu hT NT hpre hret
  refine wpAny_call ?_
  obtain ⟨hf, hc⟩ := hpf _ hpre
  have up : (hidT s.heap T).StaysIn s.heap := fun b o e => of_hideAll _ e
  have hcd : s.heap.CodeRec cdv qual := hc.keeps up
  refine codeAny_call_def (fd := fnX name qual params body scope cl₁ dV kV doc pm an cdv ct) (body := body) (binds := binds) ?_ (up _ _ hf) hfo (Tp.nolimit.keeps F.keep) hcd rfl (hbind s) hcell hloc (fun h₁ hns hk₁ => ?_) hco hgen hk
  · show dp < recursionLimit; omega
  obtain ⟨FG, BG, st, _⟩ := groundX (A := ktrTop dp uu gd cn cs L a ccd cl outer) (env := envX cn cs L a ccd cl) (R := fun _ _ => True) B F NT rfl rfl hcs
  have hsz : s.heap.objs.size = (hidT s.heap T).objs.size := (hideAll_size _ _).symm
  have F₁ : Fr (hidT s.heap T) s.heap.objs.size h₁ (fun y => binds.reverse.lookup y) := ⟨hns, fun b o e => hk₁ b o (of_hideAll _ e), Nat.le_of_eq hsz.symm⟩
  have N₁ : News (hidT s.heap T) s.heap.objs.size h₁ T := fun p hp => ⟨hk₁ _ _ (NT p hp).1, Nat.ne_of_lt (Heap.lt_size (NT p hp).1), hideAll_none _ (List.mem_map_of_mem hp)⟩
  have := h (dp + 1) (uu + 3) gd (envX cn cs L a ccd cl :: outer) _ base _ s.heap.objs.size { s with heap := h₁, toks := s.toks + binds.length } Q T BG F₁ N₁ (fun q hq => Heap.lt_size (NT q hq).1) hT (X.keeps st) (Tp.keeps st) (by omega) (by omega) hpre
    (fun r h' tk' T' st' hT' N' o => hret r h' tk' T' st' hT' (fun q hq => ⟨(N' q hq).1, (N' q hq).2.2⟩) o)
  exact wpAny_mono this (fun fl s' hl => by cases fl <;> exact hl) fun _ _ y => y.elim
end

def TabP (ln cl : Nat) (qual : Str) (p : Array Value) (C : List (Addr × Obj)) : Prop :=
  (p = #[] ∧ C = []) ∨ ∃ c' o vs t, p = #[rawInt ln, rawInt cl, .ref c'] ∧ C = [(c', o)] ∧ o.data = .fields vs ∧ vs[1]? = some (.str qual t)
theorem updF_split {P : Addr} {o : Obj} : ∀ {own rest : List (Addr × Obj)} (_ : ∀ q ∈ own, q.1 ≠ P) (_ : ∀ q ∈ rest, q.1 ≠ P), UpdF P o (own ++ (P, o) :: rest) (fun o' => own ++ (P, o') :: rest)
  | [], _, _, h2 => .head h2
  | q :: own, rest, h1, h2 => .tail (h1 q (.head _)) (updF_split (fun r hr => h1 r (.tail _ hr)) h2)
section
variable {M : Model} {A : Around} {E : Value → Shared → Prop} {s : Shared} {h₀ : Heap} {L a c P : Addr} {m mg mb : Str → Option Value} {cn : Str} {cs : Scope} {ccd : Value} {cl : List (Str × Addr)} {own rest C : List (Addr × Obj)}
  {p : Program} {loose : List Str} {mean : ExcName → Option Value} {name qual : Str} {params : Arguments} {body : List Stmt} {scope : Scope} {ps : Array Value} {pos : Pos} {firstLine : Nat} {clos : List (Str × Addr)}
theorem nest_any {Q : Value → Shared → Prop} (F : Fr h₀ L s.heap m) (N : News h₀ L s.heap (own ++ (P, tabObj ps) :: rest)) (T : Top p loose mean mg mb h₀) (hC : CodeHd h₀ c P) (hcd : ccd = .ref c) (h1 : ∀ q ∈ own, q.1 ≠ P) (h2 : ∀ q ∈ rest, q.1 ≠ P)
    (hcl : closureFor scope (envX cn cs L a ccd cl) = pure clos) (ht : TabP pos.line pos.col qual ps C) (hsub : ∀ q ∈ C, q ∈ rest)
    (h : ∀ f c' oc vs t ctv doc h' tk ps' C', Fr h₀ L h' m → News h₀ L h' ((f, fnMade name qual params body scope clos doc ((mg "__name__").getD .none) c' ctv) :: (C' ++ (own ++ (P, tabObj ps') :: rest))) →
      TabP pos.line pos.col qual ps' C' → (c', oc) ∈ C' → oc.data = .fields vs → vs[1]? = some (.str qual t) → (∀ q ∈ C', q ∈ C ∨ ∀ r ∈ own ++ (P, tabObj ps) :: rest, r.1 < q.1) → (∀ q ∈ C ++ (own ++ (P, tabObj ps') :: rest), q.1 < f) → (∀ q ∈ C', q.1 < f) → Q (.ref f) { s with heap := h', toks := tk }) :
    wpAny M A (makeFunction name qual params (.stmts body) scope (envX cn cs L a ccd cl) [] [] [] pos firstLine) Q E s := by
  rcases ht with ⟨rfl, rfl⟩ | ⟨c', o, vs, t, rfl, rfl, hd, hv⟩
  · refine nest_K F N T hC hcd (updF_split h1 h2) True.intro rfl hcl ?_
    intro f c' oc vs t ctv doc h' tk F' N' hd hv l1 l2
    refine h f c' oc vs t ctv doc h' tk _ [(c', oc)] F' N' (.inr ⟨c', oc, vs, t, rfl, rfl, hd, hv⟩) (.head _) hd hv (fun q hq => .inr fun r hr => ?_) (fun q hq => ?_) (fun q hq => ?_)
    · cases List.mem_singleton.mp hq
      exact l1 r hr
    · simp only [List.nil_append, List.mem_append, List.mem_cons] at hq
      refine Nat.lt_trans ?_ l2
      rcases hq with hq | rfl | hq
      · exact l1 q (List.mem_append_left _ hq)
      · exact l1 (P, tabObj #[]) (by simp)
      · exact l1 q (by simp [hq])
    · cases List.mem_singleton.mp hq
      exact l2
  · refine nestHit_K (c' := c') F N T hC hcd (List.mem_append_right _ (.head _)) ?_ ?_ hcl ?_
    · simp [TriplesOk, rawInt]
    · simp [codeAmong, rawInt]
    intro f ctv doc h' tk F' N' l1
    refine h f c' o vs t ctv doc h' tk _ [(c', o)] F' ?_ (.inr ⟨c', o, vs, t, rfl, rfl, hd, hv⟩) (.head _) hd hv (fun q hq => .inl hq) (fun q hq => ?_) (fun q hq => l1 q (List.mem_append_right _ (.tail _ (hsub q hq))))
    · intro q hq
      simp only [List.mem_cons, List.mem_append, List.not_mem_nil, or_false] at hq
      rcases hq with rfl | rfl | hq | rfl | hq
      · exact N' _ (.head _)
      · exact N' _ (.tail _ (List.mem_append_right _ (.tail _ (hsub _ (.head _)))))
      · exact N' _ (.tail _ (List.mem_append_left _ hq))
      · exact N' _ (.tail _ (List.mem_append_right _ (.head _)))
      · exact N' _ (.tail _ (List.mem_append_right _ (.tail _ hq)))
    · simp only [List.mem_append, List.mem_cons, List.not_mem_nil, or_false] at hq
      rcases hq with rfl | hq | rfl | hq
      · exact l1 _ (List.mem_append_right _ (.tail _ (hsub _ (.head _))))
      · exact l1 q (List.mem_append_left _ hq)
      · exact l1 _ (by simp)
      · exact l1 q (by simp [hq])
end
end Mine
namespace Mine
open PySem PySem.W PySem.Spec PySem.Calls PyProof.Rows
open Builtin Builtin.Str

/-- one sign, n times -/
def rep (c : Nat) (n : Int) : PySem.Str := ⟨(List.replicate n.toNat c).toArray⟩
theorem fold_one (c : Nat) : ∀ (k : Nat) (a : Array Nat), (List.replicate k #[c]).foldl (· ++ ·) a = a ++ (List.replicate k c).toArray
  | 0, a => by simp
  | k + 1, a => by
    rw [List.replicate_succ, List.foldl_cons, fold_one c k]
    apply Array.toList_inj.mp
    simp [List.replicate_succ]
theorem mul_one_sign (c : Nat) (n : Int) : Txt.mul ⟨#[c]⟩ n = rep c n := by
  unfold Txt.mul rep
  by_cases h : n < 1
  · rw [if_pos h]
    have : n.toNat = 0 := by omega
    rw [this]; rfl
  · rw [if_neg h]
    by_cases h1 : n = 1
    · subst h1; rfl
    · have : (n == 1 || (⟨#[c]⟩ : PySem.Str).length == 0) = false := by
        have : (⟨#[c]⟩ : PySem.Str).length = 1 := rfl
        simp [h1, this]
      rw [if_neg (by rw [this]; decide), fold_one]
      simp
theorem rep_length (c : Nat) (n : Int) : (rep c n).length = n.toNat := by simp [rep, PySem.Str.length]
theorem rep_list (c : Nat) (n : Int) : (rep c n).cps.toList = List.replicate n.toNat c := rfl
section
variable {prog : Program} {w : World} {A : Around} {E : Value → Shared → Prop} {s : Shared} {x : PySem.Str} {t u : Tok} {n : Int} {c : Nat} {Q : Value → Shared → Prop}
theorem mul_sign (hx : x = ⟨#[c]⟩) (hn : n ≤ 1000) (hl : -1000 ≤ n) (h : ∀ t' k, Q (.str (rep c n) t') { s with toks := k }) : wpAny (model prog w) A (binaryOp .Mult (.str x t) (.int n u)) Q E s := by
  subst hx
  refine SB.mul (mulOk_of 1 1000 (Nat.le_refl _) (by omega) (by omega) (by decide) (by decide)) fun t' k => ?_
  rw [mul_one_sign]
  exact h t' k
end
/-- a made list is handed back -/
def ListOut (P : List Value → Prop) (g h' : Heap) (r : Value) : Prop := ∃ R vs n, r = .ref R ∧ P vs ∧ h'.get? R = some (listOf vs.toArray n) ∧ g.get? R = none
theorem list_out {g h' : Heap} {L R : Addr} {vs : List Value} {n : Nat} {P : List Value → Prop} {news : List (Addr × Obj)} (N : News g L h' news) (hm : (R, listOf vs.toArray n) ∈ news) (hp : P vs) : ListOut P g h' (.ref R) :=
  ⟨R, vs, n, rfl, hp, (N _ hm).1, (N _ hm).2.2⟩
section
variable {prog : Program} {w : World} {A : Around} {E : Value → Shared → Prop} {s : Shared} {h₀ : Heap} {L D : Addr} {m : PySem.Str → Option Value} {news : List (Addr × Obj)} {x : PySem.Str} {t u : Tok} {Q : Value → Shared → Prop}
/-- the texts' lengths together -/
def lens (l : List PySem.Str) : Nat := (l.map (·.length)).sum
theorem join_call {vs : List Value} {l : List (PySem.Str × Tok)} {n : Nat} (N : News h₀ L s.heap news) (hm : (D, listOf vs.toArray n) ∈ news) (e : vs = strValues l) (hok : lens (l.map (·.1)) + l.length * x.length ≤ 16777216)
    (h : ∀ t' k, Q (.str (PySem.Str.join x (l.map (·.1))) t') { s with toks := k }) : wpAny (model prog w) A (call (.builtin "str.join") [.str x t, .ref D]) Q E s := by
  subst e
  refine SC.join (l := l) ⟨_, (N _ hm).1, rfl, n, rfl⟩ rfl (joinOk_of (by simpa [lens] using hok)) fun t' k => ?_
  have : Txt.join x (l.map (·.1)) = PySem.Str.join x (l.map (·.1)) := StrLaws.glued_eq_join _ _
  rw [this]
  exact h t' k
end
theorem new_at {h₀ h h' : Heap} {L R : Addr} {o : Obj} {m : PySem.Str → Option Value} {news : List (Addr × Obj)} (h1 : h'.get? R = some o) (h2 : h.get? R = none) (N : News h₀ L h' news) (F : Fr h₀ L h m) : News h₀ L h' ((R, o) :: news) := news_pair F N h1 h2
end Mine
namespace Mine
open PySem PySem.W PySem.Spec PySem.Calls PyProof.Rows
section
variable {prog : Program} {w : World} {A : Around} {E : Value → Shared → Prop} {s : Shared} {Q : Value → Shared → Prop}
theorem mod_rng {a b : Int} {t u : Tok} (b' : Int) (e : b = b') (hb : 0 < b') (h : ∀ r t k, 0 ≤ r → r < b' → Q (.int r t) { s with toks := k }) : wpAny (model prog w) A (binaryOp .Mod (.int a t) (.int b u)) Q E s := by
  subst e
  exact mod_int' (by omega) (h _ _ _ (by rw [Int.fmod_eq_emod_of_nonneg _ (by omega)]; exact Int.emod_nonneg _ (by omega)) (by rw [Int.fmod_eq_emod_of_nonneg _ (by omega)]; exact Int.emod_lt_of_pos _ hb))
theorem mod_as {a b r : Int} {t u : Tok} (e : a.fmod b = r) (hb : 0 < b) (h : ∀ t k, Q (.int r t) { s with toks := k }) : wpAny (model prog w) A (binaryOp .Mod (.int a t) (.int b u)) Q E s := by
  subst e
  exact mod_int' (by omega) (h _ _)
end
theorem small_range {n : Nat} (h : n ≤ 1000) : Builtin.Range.small 0 (n : Int) 1 = true ∧ Builtin.Range.rangeSize 0 (n : Int) 1 = (n : Int) := by
  have e : Builtin.Range.rangeSize 0 (n : Int) 1 = (n : Int) := by
    unfold Builtin.Range.rangeSize
    rw [if_pos (by decide)]
    split
    · simp
    · omega
  refine ⟨?_, e⟩
  unfold Builtin.Range.small
  rw [e]
  unfold Builtin.Range.rangeFitsLong
  simp
  omega
end Mine
namespace Mine
open PySem PySem.W PySem.Spec PySem.Calls PyProof.Rows

def digs (B : Nat) : Nat → Nat → List Nat
  | 0, _ => []
  | k + 1, x => x % B :: digs B k (x / B)
def valB (B : Nat) (l : List Nat) : Nat := l.foldr (fun d acc => d + B * acc) 0
theorem digs_length (B : Nat) : ∀ k x, (digs B k x).length = k
  | 0, _ => rfl
  | k + 1, x => by simp [digs, digs_length B k]
theorem digs_lt {B : Nat} (hB : 0 < B) : ∀ k x, ∀ d ∈ digs B k x, d < B
  | 0, _, d, h => by cases h
  | k + 1, x, d, h => by
    rcases List.mem_cons.mp h with rfl | h
    · exact Nat.mod_lt _ hB
    · exact digs_lt hB k _ d h
theorem digs_val {B : Nat} : ∀ k x, x < B ^ k → valB B (digs B k x) = x
  | 0, x, h => by
    have : x = 0 := by simpa using h
    subst this; rfl
  | k + 1, x, h => by
    show x % B + B * valB B (digs B k (x / B)) = x
    rw [digs_val k (x / B) (Nat.div_lt_of_lt_mul (by rw [Nat.pow_succ, Nat.mul_comm] at h; exact h))]
    exact Nat.mod_add_div x B
theorem digs_split (B : Nat) : ∀ j k x, digs B (j + k) x = digs B j (x % B ^ j) ++ digs B k (x / B ^ j)
  | 0, k, x => by simp [digs]
  | j + 1, k, x => by
    have e : j + 1 + k = (j + k) + 1 := by omega
    rw [e]
    show x % B :: digs B (j + k) (x / B) = (x % B ^ (j + 1) % B :: digs B j (x % B ^ (j + 1) / B)) ++ _
    rw [digs_split B j k (x / B), List.cons_append]
    have e1 : x % B ^ (j + 1) % B = x % B := Nat.mod_mod_of_dvd _ ⟨B ^ j, by rw [Nat.pow_succ, Nat.mul_comm]⟩
    have e2 : x / B / B ^ j = x / B ^ (j + 1) := by rw [Nat.div_div_eq_div_mul, Nat.pow_succ, Nat.mul_comm]
    have e3 : x % B ^ (j + 1) / B = x / B % B ^ j := by
      rw [Nat.pow_succ, Nat.mul_comm, Nat.mod_mul_right_div_self]
    rw [e1, e2, e3]
def put (ds : List Nat) (L : Nat) (l : List Nat) : List Nat := ds.take L ++ l ++ ds.drop (L + l.length)
theorem put_length {ds l : List Nat} {L : Nat} (h : L + l.length ≤ ds.length) : (put ds L l).length = ds.length := by
  simp [put]; omega
theorem put_put {ds a b : List Nat} {L : Nat} (h : L + a.length + b.length ≤ ds.length) : put (put ds L a) (L + a.length) b = put ds L (a ++ b) := by
  have h1 : (ds.take L).length = L := by simp; omega
  unfold put
  have e1 : (ds.take L ++ a ++ ds.drop (L + a.length)).take (L + a.length) = ds.take L ++ a := by
    rw [List.take_append_of_le_length (by simp; omega)]
    exact List.take_of_length_le (by simp; omega)
  have e2 : (ds.take L ++ a ++ ds.drop (L + a.length)).drop (L + a.length + b.length) = ds.drop (L + (a ++ b).length) := by
    rw [List.drop_append]
    have : (ds.take L ++ a).length = L + a.length := by simp; omega
    rw [List.drop_of_length_le (by omega), this, List.drop_drop]
    simp
    congr 1
    omega
  rw [e1, e2]
  simp
theorem put_one {ds : List Nat} {L d : Nat} (h : L < ds.length) : put ds L [d] = ds.set L d := by
  unfold put
  rw [List.set_eq_take_append_cons_drop, if_pos h]
  simp
theorem xor_low (x s : Nat) : Builtin.bitXor (x : Int) ((x / 2 ^ s * 2 ^ s : Nat) : Int) = ((x % 2 ^ s : Nat) : Int) := by
  have h1 : (x &&& (x / 2 ^ s * 2 ^ s)) = x / 2 ^ s * 2 ^ s := by
    have : x / 2 ^ s * 2 ^ s = (x >>> s) <<< s := by rw [Nat.shiftRight_eq_div_pow, Nat.shiftLeft_eq]
    rw [this]
    apply Nat.eq_of_testBit_eq
    intro i
    simp only [Nat.testBit_and, Nat.testBit_shiftLeft, Nat.testBit_shiftRight]
    by_cases h : i ≥ s
    · have : s + (i - s) = i := by omega
      simp [h, this]
    · simp [h]
  have h2 : (x ||| (x / 2 ^ s * 2 ^ s)) = x := by
    have : x / 2 ^ s * 2 ^ s = (x >>> s) <<< s := by rw [Nat.shiftRight_eq_div_pow, Nat.shiftLeft_eq]
    rw [this]
    apply Nat.eq_of_testBit_eq
    intro i
    simp only [Nat.testBit_or, Nat.testBit_shiftLeft, Nat.testBit_shiftRight]
    by_cases h : i ≥ s
    · have : s + (i - s) = i := by omega
      simp [h, this]
    · simp [h]
  unfold Builtin.bitXor Builtin.bitOr
  have e1 : Builtin.bitAnd (x : Int) ((x / 2 ^ s * 2 ^ s : Nat) : Int) = ((x &&& (x / 2 ^ s * 2 ^ s) : Nat) : Int) := by
    unfold Builtin.bitAnd
    rw [decide_eq_true (Int.natCast_nonneg _), decide_eq_true (Int.natCast_nonneg _)]
    rfl
  have n1 : ∀ y : Nat, decide (0 ≤ Builtin.bitNot (y : Int)) = false := fun y => by unfold Builtin.bitNot; simp; omega
  have n2 : ∀ y : Nat, (Builtin.bitNot (Builtin.bitNot (y : Int))).toNat = y := fun y => by unfold Builtin.bitNot; omega
  have n3 : ∀ z : Int, Builtin.bitNot (Builtin.bitNot z) = z := fun z => by unfold Builtin.bitNot; omega
  have e2 : Builtin.bitAnd (Builtin.bitNot (x : Int)) (Builtin.bitNot ((x / 2 ^ s * 2 ^ s : Nat) : Int)) = Builtin.bitNot ((x ||| (x / 2 ^ s * 2 ^ s) : Nat) : Int) := by
    unfold Builtin.bitAnd
    rw [n1, n1]
    show Builtin.bitNot _ = _
    rw [n2, n2]
  rw [e1, e2, n3, h1, h2]
  have := Nat.div_add_mod x (2 ^ s)
  rw [Nat.mul_comm] at this
  omega
def TabF (P1 : Addr) (l1 c1 : Nat) (q1 : Str) (P2 : Addr) (l2 c2 : Nat) (q2 : Str) (T : List (Addr × Obj)) : Prop :=
  ∃ p1 C1 p2 C2, T = (P1, tabObj p1) :: (P2, tabObj p2) :: (C1 ++ C2) ∧ TabP l1 c1 q1 p1 C1 ∧ TabP l2 c2 q2 p2 C2 ∧ ∀ q ∈ C1 ++ C2, q.1 ≠ P1 ∧ q.1 ≠ P2
theorem TabF.start {P1 P2 : Addr} {l1 c1 l2 c2 : Nat} {q1 q2 : Str} : TabF P1 l1 c1 q1 P2 l2 c2 q2 [(P1, tabObj #[]), (P2, tabObj #[])] :=
  ⟨#[], [], #[], [], rfl, .inl ⟨rfl, rfl⟩, .inl ⟨rfl, rfl⟩, by simp⟩
def ListIs (D : Addr) (ds : List Nat) (T : List (Addr × Obj)) : Prop := ∃ vs nn, T = [(D, listOf vs.toArray nn)] ∧ IntsAre vs (ds.map (fun d : Nat => (d : Int)))
/-- an entry within a ledger -/
inductive MidAt (P : Addr) (o : Obj) (rest : List (Addr × Obj)) : List (Addr × Obj) → List (Addr × Obj) → Prop
  | here : MidAt P o rest ((P, o) :: rest) []
  | cons {x r own} : MidAt P o rest r own → MidAt P o rest (x :: r) (x :: own)
  | app {y r own} : MidAt P o rest r own → MidAt P o rest (y ++ r) (y ++ own)
theorem MidAt.eq {P : Addr} {o : Obj} {rest : List (Addr × Obj)} : ∀ {l own : List (Addr × Obj)}, MidAt P o rest l own → l = own ++ (P, o) :: rest
  | _, _, .here => rfl
  | _, _, .cons c => by rw [c.eq]; rfl
  | _, _, .app c => by rw [c.eq, List.append_assoc]
section
variable {TabF TabF' : List (Addr × Obj) → Prop} {prog : Program} {w : World} {K : Frag} {p : Program} {loose : List Str} {mean : ExcName → Option Value} {mg mb : Str → Option Value} {f : Addr} {dn un : Nat} {vs : List Value} {Pre : Heap → Prop} {Out : Heap → Heap → Value → Prop}
theorem telT_useM {dp uu : Nat} {gd : Option (List Code)} {cn : Str} {cs : Scope} {a : Addr} {ccd : Value} {cl : List (Str × Addr)} {outer : List Env} {A₀ : Around} {base h₀ : Heap} {L D : Addr} {o : Obj} {m : Str → Option Value} {news own rest : List (Addr × Obj)} {s : Shared}
    {Q E : Value → Shared → Prop} (C : TelT TabF TabF' prog w K p loose mean mg mb f dn un vs Pre Out) (B : Below A₀ base outer h₀) (F : Fr h₀ L s.heap m) (X : K.In h₀) (N : News h₀ L s.heap news) (Tp : Top p loose mean mg mb h₀) (hk : cs.kind = .function)
    (hd : dp + dn + 1 < recursionLimit) (hu : uu + un + 3 < cLine) (hmid : MidAt D o rest news own) (hT : TabF [(D, o)]) (hoff : ∀ q ∈ own ++ rest, q.1 ≠ D) (hpre : (∀ q ∈ own ++ rest, (hidT s.heap [(D, o)]).get? q.1 = some q.2) → h₀.StaysIn (hidT s.heap [(D, o)]) → Pre (hidT s.heap [(D, o)]))
    (ret : ∀ r h' tk' T', Fr h₀ L h' m → News h₀ L h' (T' ++ (own ++ rest)) → TabF' T' → Out (hidT s.heap [(D, o)]) h' r → Q r { s with heap := h', toks := tk' }) :
    wpAny (model prog w) (ktrTop dp uu gd cn cs L a ccd cl outer) (call (.ref f) vs) Q E s := by
  have e := hmid.eq
  have N' : News h₀ L s.heap ((own ++ rest) ++ [(D, o)]) := fun q hq => N q (by
    rw [e]
    simp only [List.mem_append, List.mem_cons, List.not_mem_nil, or_false] at hq ⊢
    rcases hq with (h | h) | h
    · exact .inl h
    · exact .inr (.inr h)
    · exact .inr (.inl h))
  have NT : News h₀ L s.heap [(D, o)] := fun q hq => N' q (List.mem_append_right _ hq)
  have hoff' : ∀ q ∈ own ++ rest, q.1 ∉ ([(D, o)] : List (Addr × Obj)).map (·.1) := fun q hq hm => by
    simp only [List.map_cons, List.map_nil, List.mem_cons, List.not_mem_nil, or_false] at hm
    exact hoff q hq hm
  refine telT_use (news := (own ++ rest) ++ [(D, o)]) C B F X N' Tp hk hd hu hT (.app .here) ?_ (hpre (fun q hq => hidT_get (N' q (List.mem_append_left _ hq)).1 (hoff' q hq)) (base_hidT F NT)) ?_
  · intro q hq
    rw [List.append_nil] at hq
    exact hoff' q hq
  · intro r h' tk' T' F' N2 hT' _ _ _ _ ho
    rw [List.append_nil] at N2
    refine ret r h' tk' T' F' (fun q hq => N2 q ?_) hT' ho
    rcases List.mem_append.mp hq with h | h
    · exact List.mem_append_right _ h
    · exact List.mem_append_left _ h
end
section
variable {M : Model} {A : Around} {E : Value → Shared → Prop} {s : Shared} {h₀ : Heap} {L a c P D : Addr} {m mg mb : Str → Option Value} {cn : Str} {cs : Scope} {ccd : Value} {cl : List (Str × Addr)} {news own rest C : List (Addr × Obj)}
  {p : Program} {loose : List Str} {mean : ExcName → Option Value} {name qual : Str} {params : Arguments} {body : List Stmt} {scope : Scope} {ps : Array Value} {pos : Pos} {firstLine : Nat} {clos : List (Str × Addr)}
theorem nest_mid {Q : Value → Shared → Prop} (hmid : MidAt P (tabObj ps) rest news own) (F : Fr h₀ L s.heap m) (N : News h₀ L s.heap news) (T : Top p loose mean mg mb h₀) (hC : CodeHd h₀ c P) (hcd : ccd = .ref c) (h1 : ∀ q ∈ own, q.1 ≠ P) (h2 : ∀ q ∈ rest, q.1 ≠ P)
    (hcl : closureFor scope (envX cn cs L a ccd cl) = pure clos) (ht : TabP pos.line pos.col qual ps C) (hsub : ∀ q ∈ C, q ∈ rest)
    (h : ∀ f c' oc vs t ctv doc h' tk ps' C', Fr h₀ L h' m → News h₀ L h' ((f, fnMade name qual params body scope clos doc ((mg "__name__").getD .none) c' ctv) :: (own ++ (P, tabObj ps') :: (rest ++ C'))) →
      TabP pos.line pos.col qual ps' C' → (c', oc) ∈ C' → oc.data = .fields vs → vs[1]? = some (.str qual t) → (∀ q ∈ C', q ∈ C ∨ ∀ r ∈ news, r.1 < q.1) → (∀ q ∈ news, q.1 < f) → (∀ q ∈ C', q.1 < f) → Q (.ref f) { s with heap := h', toks := tk }) :
    wpAny M A (makeFunction name qual params (.stmts body) scope (envX cn cs L a ccd cl) [] [] [] pos firstLine) Q E s := by
  have e := hmid.eq
  subst e
  refine nest_any F N T hC hcd h1 h2 hcl ht hsub fun f c' oc vs t ctv doc h' tk ps' C' F' N' ht' hm hd hv h3 h4 h5 => h f c' oc vs t ctv doc h' tk ps' C' F' (fun q hq => N' q (by
    simp only [List.mem_cons, List.mem_append] at hq ⊢
    rcases hq with h | h | h | h | h
    · exact .inl h
    · exact .inr (.inr (.inl h))
    · exact .inr (.inr (.inr (.inl h)))
    · exact .inr (.inr (.inr (.inr h)))
    · exact .inr (.inl h))) ht' hm hd hv h3 (fun q hq => ?_) h5
  rcases List.mem_append.mp hq with h6 | h6
  · exact h4 q (List.mem_append_right _ (List.mem_append_left _ h6))
  · rcases List.mem_cons.mp h6 with rfl | h7
    · exact h4 (P, tabObj ps') (List.mem_append_right _ (List.mem_append_right _ (.head _)))
    · exact h4 q (List.mem_append_right _ (List.mem_append_right _ (.tail _ h7)))
end
section
variable {prog : Program} {w : World} {A : Around} {E : Value → Shared → Prop} {s : Shared} {h₀ : Heap} {L D : Addr} {m : Str → Option Value} {news news' : List (Addr × Obj)} {Q : Value → Shared → Prop}
theorem zeros_call {v : Value} {n : Nat} {x : Int} {u : Tok} (k : Nat) (F : Fr h₀ L s.heap m) (N : News h₀ L s.heap news) (hm : (D, listOf #[v] n) ∈ news) (hx : x = k) (hk : k ≤ 1000000)
    (h : ∀ D' h', Fr h₀ L h' m → News h₀ L h' ((D', listOf (List.replicate k v).toArray 0) :: news) → (∀ q ∈ news, q.1 < D') → Q (.ref D') { s with heap := h' }) :
    wpAny (model prog w) A (binaryOp .Mult (.ref D) (.int x u)) Q E s := by
  subst hx
  have e : List.foldl (fun x1 x2 => x1 ++ x2) (#[] : Array Value) (List.replicate (if (#[v] : Array Value).isEmpty = true then 0 else ((k : Int)).toNat) #[v]) = (List.replicate k v).toArray := by
    have : ∀ (k : Nat) (a : Array Value), List.foldl (fun x1 x2 => x1 ++ x2) a (List.replicate k #[v]) = a ++ (List.replicate k v).toArray := by
      intro k
      induction k with
      | zero => intro a; simp
      | succ k ih =>
        intro a
        rw [List.replicate_succ, List.foldl_cons, ih]
        apply Array.toList_inj.mp
        simp [List.replicate_succ]
    rw [this]
    simp
  refine mul_list F N (N _ hm).1 (by omega) (by omega) (by simp; omega) fun h' F' N' => ?_
  rw [e] at N'
  exact h _ h' F' N' fun q hq => Heap.lt_size (N q hq).1
theorem fdiv_as {a b : Int} {t u : Tok} (an bn : Nat) (ea : a = an) (eb : b = bn) (hb : 0 < bn) (hb2 : bn < 1073741824) (h : ∀ t k, Q (.int ((an / bn : Nat) : Int) t) { s with toks := k }) : wpAny (model prog w) A (binaryOp .FloorDiv (.int a t) (.int b u)) Q E s := by
  subst ea eb
  refine floordiv_int (by omega) ?_
  have : (an : Int).fdiv bn = ((an / bn : Nat) : Int) := by rw [Int.fdiv_eq_ediv_of_nonneg _ (by omega)]; simp
  rw [this]
  exact h _ _
theorem shr_as {a n : Int} {t u : Tok} (an sn : Nat) (ea : a = an) (es : n = sn) (h : ∀ t k, Q (.int ((an / 2 ^ sn : Nat) : Int) t) { s with toks := k }) : wpAny (model prog w) A (binaryOp .RShift (.int a t) (.int n u)) Q E s := by
  subst ea es
  refine rshift_int (by omega) ?_
  have : (an : Int).fdiv (2 ^ (sn : Int).toNat) = ((an / 2 ^ sn : Nat) : Int) := by
    rw [Int.fdiv_eq_ediv_of_nonneg _ (Int.pow_nonneg (by decide))]
    simp
  rw [this]
  exact h _ _
theorem shl_as {a n : Int} {t u : Tok} (an sn : Nat) (ea : a = an) (es : n = sn) (hb : Builtin.Int.intBits a ≤ 1000000) (hs : sn ≤ 1000000) (h : ∀ t k, Q (.int ((an * 2 ^ sn : Nat) : Int) t) { s with toks := k }) : wpAny (model prog w) A (binaryOp .LShift (.int a t) (.int n u)) Q E s := by
  subst ea es
  refine lshift_int (by omega) (by omega) ?_
  have : (an : Int) * 2 ^ (sn : Int).toNat = ((an * 2 ^ sn : Nat) : Int) := by simp
  rw [this]
  exact h _ _
end
theorem kall_lt {C : List (Addr × Obj)} {d a : Addr} (h : ∀ q ∈ C, q.1 < d) (e : @LE.le Nat _ d a) : ∀ q ∈ C, q.1 ≠ a := fun q hq e2 => by
  have := h q hq
  rw [e2] at this
  exact absurd this (Nat.not_lt.mpr e)
theorem off_cells {C1 C2 C' news : List (Addr × Obj)} {d a : Addr} {o : Obj} (hC : ∀ q ∈ C1 ++ C2, q.1 < d) (h3 : ∀ q ∈ C', q ∈ C2 ∨ ∀ r ∈ news, r.1 < q.1) (ha : (a, o) ∈ news) (hd : @LE.le Nat _ d a) : ∀ q ∈ (C1 ++ C2) ++ C', q.1 ≠ a := by
  intro q hq e
  rcases List.mem_append.mp hq with h | h
  · exact kall_lt hC hd q h e
  · rcases h3 q h with h | h
    · exact kall_lt hC hd q (List.mem_append_right _ h) e
    · exact absurd (h _ ha) (by rw [e]; exact Nat.lt_irrefl _)
theorem bits_le {m b : Nat} (h : m < 2 ^ b) : Builtin.Int.intBits (m : Int) ≤ b := by
  unfold Builtin.Int.intBits
  split
  · exact Nat.zero_le _
  · rename_i h0
    have hm : m ≠ 0 := fun e => h0 (by rw [e]; rfl)
    have : (m : Int).natAbs = m := rfl
    rw [this]
    exact Nat.succ_le_of_lt ((Nat.log2_lt hm).mpr h)
theorem lt_bits (m : Nat) : m < 2 ^ Builtin.Int.intBits (m : Int) := by
  unfold Builtin.Int.intBits
  split
  · rename_i h0
    have : m = 0 := by simpa using h0
    rw [this]; decide
  · rename_i h0
    have hm : m ≠ 0 := fun e => h0 (by rw [e]; rfl)
    have : (m : Int).natAbs = m := rfl
    rw [this]
    exact (Nat.log2_lt hm).mp (Nat.lt_succ_self _)
section
variable {prog : Program} {w : World} {A : Around} {E : Value → Shared → Prop} {s : Shared} {Q : Value → Shared → Prop}
theorem shr_to {a n : Int} {t u : Tok} (an sn r : Nat) (ea : a = an) (es : n = sn) (er : an / 2 ^ sn = r) (h : ∀ t k, Q (.int (r : Int) t) { s with toks := k }) : wpAny (model prog w) A (binaryOp .RShift (.int a t) (.int n u)) Q E s :=
  shr_as an sn ea es (er ▸ h)
theorem shl_to {a n : Int} {t u : Tok} (an sn r b : Nat) (ea : a = an) (es : n = sn) (er : an * 2 ^ sn = r) (hb : an < 2 ^ b) (hb2 : b ≤ 1000000) (hs : sn ≤ 1000000) (h : ∀ t k, Q (.int (r : Int) t) { s with toks := k }) : wpAny (model prog w) A (binaryOp .LShift (.int a t) (.int n u)) Q E s :=
  shl_as an sn ea es (ea ▸ Nat.le_trans (bits_le hb) hb2) hs (er ▸ h)
theorem mul_to {a b : Int} {t u : Tok} (r : Nat) (e : a * b = r) (h1 : -(2 ^ 64) < a) (h2 : a < 2 ^ 64) (h : ∀ t k, Q (.int (r : Int) t) { s with toks := k }) : wpAny (model prog w) A (binaryOp .Mult (.int a t) (.int b u)) Q E s := by
  refine mul_int ?_ (IntMulOk.of_left (intBits_le_64 h1 h2))
  rw [e]
  exact h _ _
theorem xor_to {a b : Int} {t u : Tok} (x sn r : Nat) (ea : a = x) (eb : b = (x / 2 ^ sn * 2 ^ sn : Nat)) (er : x % 2 ^ sn = r) (h : ∀ t k, Q (.int (r : Int) t) { s with toks := k }) : wpAny (model prog w) A (binaryOp .BitXor (.int a t) (.int b u)) Q E s := by
  subst ea eb er
  refine xor_int ?_
  rw [xor_low]
  exact h _ _
end
section
variable {M : Model} {A : Around} {E : Value → Shared → Prop} {s : Shared} {h₀ : Heap} {L a : Addr} {m : Str → Option Value} {cn : Str} {cs : Scope} {ccd : Value} {cl : List (Str × Addr)} {x : Str} {pos : Pos} {v : Value} {Q : Value → Shared → Prop} {c : Addr} {o : Obj}
theorem nameX_FG (F : Fr h₀ L s.heap m) (hc : cl.lookup x = some c) (hg : h₀.get? c = some o) (hd : o.data = .cell (some v)) (h : Q v s)
    (hk : cs.kind = .function := by rfl) (hx : (envX cn cs L a ccd cl).kindOf x = some .free := by rfl) (hb : (x == ("__debug__" : Str)) = false := by decide) (hn : (x == ("__classdict__" : Str)) = false := by decide) :
    wpAny M A (eval (.Name x pos) (envX cn cs L a ccd cl)) Q E s := wpAny_Name (wpAny_loadName_free hk hx hc ⟨o, F.keep _ _ hg, hd⟩ h hn) hb
theorem fnAt_base {fo : Obj} {f : Addr} {fd : FuncData} {h : Heap} (F : Fr h₀ L h m) (hg : h₀.get? f = some fo) (hd : fo.data = .func fd) : FnAt f h := ⟨fo.cls, fo.dict, fd, fo.slots, by rw [F.keep _ _ hg, ← hd]⟩
end
/-- int2digits' inner def -/
def I2 (prog : Program) (w : World) (K : Frag) (p : Program) (loose : List Str) (mean : ExcName → Option Value) (mg mb : Str → Option Value) (f D : Addr) (fo : Obj) (c' : Value) (qual : Str) (cn ca ci : Addr) (on oa oi : Obj) (n k : Nat) : Prop :=
  ∀ (L R x : Nat) (ds : List Nat) (t1 t2 t3 : Tok), R = L + k → 1 ≤ k → R ≤ ds.length → ds.length ≤ 1000 → x < (2 ^ n) ^ k →
    TelT (ListIs D ds) (ListIs D (put ds L (digs (2 ^ n) k x))) prog w K p loose mean mg mb f (10 + k) (100 + 3 * k) [.int (x : Int) t1, .int (L : Int) t2, .int (R : Int) t3]
      (fun g => (g.get? f = some fo ∧ g.CodeRec c' qual) ∧ g.get? cn = some on ∧ g.get? ca = some oa ∧ g.get? ci = some oi) (fun _ _ r => r = .none)
section
variable {prog : Program} {w : World} {K : Frag} {p : Program} {loose : List Str} {mean : ExcName → Option Value} {mg mb : Str → Option Value}
theorem i2_use {dp uu : Nat} {gd : Option (List Code)} {cn' : Str} {cs : Scope} {a : Addr} {ccd : Value} {cl : List (Str × Addr)} {outer : List Env} {A₀ : Around} {base h₀ : Heap} {L : Addr} {m : Str → Option Value} {news own rest : List (Addr × Obj)} {s : Shared}
    {Q E : Value → Shared → Prop} {f D cn ca ci c' : Addr} {fo on oa oi oc : Obj} {qual : Str} {n kk x : Nat} {vs : List Value} {nn : Nat} {vsc : Array Value} {tq t1 t2 t3 : Tok}
    (hind : ∀ k, (∀ j, j < k → I2 prog w K p loose mean mg mb f D fo (.ref c') qual cn ca ci on oa oi n j) → I2 prog w K p loose mean mg mb f D fo (.ref c') qual cn ca ci on oa oi n k)
    (B : Below A₀ base outer h₀) (F : Fr h₀ L s.heap m) (X : K.In h₀) (N : News h₀ L s.heap news) (Tp : Top p loose mean mg mb h₀) (hk : cs.kind = .function)
    (hd : dp + (10 + kk) + 1 < recursionLimit) (hu : uu + (100 + 3 * kk) + 3 < cLine) (hmid : MidAt D (listOf vs.toArray nn) rest news own) (hoff : ∀ q ∈ own ++ rest, q.1 ≠ D)
    (hmf : (f, fo) ∈ news) (hfD : f ≠ D) (hmn : (cn, on) ∈ news) (hnD : cn ≠ D) (hma : (ca, oa) ∈ news) (haD : ca ≠ D) (hmi : (ci, oi) ∈ news) (hiD : ci ≠ D) (hmc : (c', oc) ∈ news) (hcD : c' ≠ D)
    (hoc : oc.data = .fields vsc) (hvc : vsc[1]? = some (.str qual tq)) (hI : IntsAre vs ((List.replicate kk 0).map (fun d : Nat => (d : Int)))) (hk1 : 1 ≤ kk) (hk2 : kk ≤ 1000) (hx : x < (2 ^ n) ^ kk)
    (ret : ∀ h' tk' vs' nn', Fr h₀ L h' m → News h₀ L h' ((D, listOf vs'.toArray nn') :: (own ++ rest)) → IntsAre vs' ((digs (2 ^ n) kk x).map (fun d : Nat => (d : Int))) → Q .none { s with heap := h', toks := tk' }) :
    wpAny (model prog w) (ktrTop dp uu gd cn' cs L a ccd cl outer) (call (.ref f) [.int (x : Int) t1, .int 0 t2, .int (kk : Int) t3]) Q E s := by
  have IN : ∀ k, I2 prog w K p loose mean mg mb f D fo (.ref c') qual cn ca ci on oa oi n k := fun k => Nat.strongRecOn k hind
  have e := hmid.eq
  have mem : ∀ {b : Addr} {o : Obj}, (b, o) ∈ news → b ≠ D → (b, o) ∈ own ++ rest := fun {b o} h hb => by
    rw [e] at h
    rcases List.mem_append.mp h with h | h
    · exact List.mem_append_left _ h
    · rcases List.mem_cons.mp h with h | h
      · exact absurd (congrArg Prod.fst h) hb
      · exact List.mem_append_right _ h
  have C := IN kk 0 kk x (List.replicate kk 0) t1 t2 t3 (by omega) hk1 (by simp) (by simpa using hk2) hx
  refine telT_useM C B F X N Tp hk hd hu hmid ⟨vs, nn, rfl, hI⟩ hoff (fun hg _ => ⟨⟨hg _ (mem hmf hfD), ?_⟩, hg _ (mem hmn hnD), hg _ (mem hma haD), hg _ (mem hmi hiD)⟩) ?_
  · exact ⟨c', oc, vsc, tq, rfl, hg _ (mem hmc hcD), hoc, hvc⟩
  · intro r h' tk' T' F' N' hT' hr
    obtain ⟨vs', nn', rfl, hI'⟩ := hT'
    subst hr
    have e2 : put (List.replicate kk 0) 0 (digs (2 ^ n) kk x) = digs (2 ^ n) kk x := by
      unfold put
      rw [digs_length]
      simp
    rw [e2] at hI'
    exact ret h' tk' vs' nn' F' N' hI'
end
theorem ints_rep (k : Nat) (t : Tok) : IntsAre (List.replicate k (Value.int 0 t)) ((List.replicate k 0).map (fun d : Nat => (d : Int))) := by
  induction k with
  | zero => exact .nil
  | succ k ih => exact .cons _ _ ih
theorem tab_ne {C1 C2 C' news : List (Addr × Obj)} {P1 P2 : Addr} {o1 o2 : Obj} (hne : ∀ q ∈ C1 ++ C2, q.1 ≠ P1 ∧ q.1 ≠ P2) (h3 : ∀ q ∈ C', q ∈ C2 ∨ ∀ r ∈ news, r.1 < q.1) (h1 : (P1, o1) ∈ news) (h2 : (P2, o2) ∈ news) : ∀ q ∈ C1 ++ C', q.1 ≠ P1 ∧ q.1 ≠ P2 := by
  intro q hq
  rcases List.mem_append.mp hq with h | h
  · exact hne q (List.mem_append_left _ h)
  · rcases h3 q h with h | h
    · exact hne q (List.mem_append_right _ h)
    · exact ⟨Ne.symm (Nat.ne_of_lt (h _ h1)), Ne.symm (Nat.ne_of_lt (h _ h2))⟩
theorem tab_ne1 {C1 C2 C' news : List (Addr × Obj)} {P1 P2 : Addr} {o1 o2 : Obj} (hne : ∀ q ∈ C1 ++ C2, q.1 ≠ P1 ∧ q.1 ≠ P2) (h3 : ∀ q ∈ C', q ∈ C1 ∨ ∀ r ∈ news, r.1 < q.1) (h1 : (P1, o1) ∈ news) (h2 : (P2, o2) ∈ news) : ∀ q ∈ C' ++ C2, q.1 ≠ P1 ∧ q.1 ≠ P2 := by
  intro q hq
  rcases List.mem_append.mp hq with h | h
  · rcases h3 q h with h | h
    · exact hne q (List.mem_append_left _ h)
    · exact ⟨Ne.symm (Nat.ne_of_lt (h _ h1)), Ne.symm (Nat.ne_of_lt (h _ h2))⟩
  · exact hne q (List.mem_append_right _ h)
/-- how many digits -/
def nd (a n : Nat) : Nat := (Builtin.Int.intBits (a : Int) + n - 1) / n
theorem nd_le {a n : Nat} (hn : 0 < n) : nd a n ≤ Builtin.Int.intBits (a : Int) := by
  unfold nd
  generalize Builtin.Int.intBits (a : Int) = b
  cases b with
  | zero => exact Nat.le_of_eq (Nat.div_eq_of_lt (by omega))
  | succ b =>
    refine Nat.div_le_of_le_mul ?_
    have : (b + 1) * 1 ≤ (b + 1) * n := Nat.mul_le_mul_left _ hn
    have e : n * (b + 1) = b * n + n := by rw [Nat.mul_comm, Nat.succ_mul]
    have e2 : (b + 1) * n = b * n + n := Nat.succ_mul _ _
    have : b ≤ b * n := Nat.le_mul_of_pos_right _ hn
    omega
theorem nd_fits {a n : Nat} (hn : 0 < n) : a < (2 ^ n) ^ nd a n := by
  refine Nat.lt_of_lt_of_le (lt_bits a) ?_
  rw [← Nat.pow_mul]
  refine Nat.pow_le_pow_right (by decide) ?_
  unfold nd
  generalize Builtin.Int.intBits (a : Int) = b
  have := Nat.div_add_mod (b + n - 1) n
  have := Nat.mod_lt (b + n - 1) hn
  omega
theorem nd_pos {a n : Nat} (hn : 0 < n) (ha : a ≠ 0) : 1 ≤ nd a n := by
  rcases Nat.eq_zero_or_pos (nd a n) with h | h
  · have := nd_fits (a := a) hn
    rw [h] at this
    simp at this
    exact absurd this ha
  · exact h
theorem nd_zero {n : Nat} (hn : 0 < n) : nd 0 n = 0 := by
  have := nd_le (a := 0) hn
  have e : Builtin.Int.intBits ((0 : Nat) : Int) = 0 := rfl
  omega
/-- the digits that int2digits hands back -/
def DigsOut (a n : Nat) (vs : List Value) : Prop := ∃ ds : List Nat, IntsAre vs (ds.map (fun d : Nat => (d : Int))) ∧ ds.length ≤ 64 ∧ (∀ d ∈ ds, d < 2 ^ n) ∧ valB (2 ^ n) ds = a
theorem setL_of : ∀ {l : List Value} {k : Nat} {v : Value}, k < l.length → ki_setL l k v = some (l.set k v)
  | [], _, _, h => absurd h (Nat.not_lt_zero _)
  | x :: r, 0, v, _ => rfl
  | x :: r, k + 1, v, h => by
    show (match ki_setL r k v with | some q => some (x :: q) | none => none) = _
    rw [setL_of (by simpa using h)]
    rfl
theorem ints_set {vs : List Value} {ns : List Int} (h : IntsAre vs ns) : ∀ {k : Nat} {x : Int} {t : Tok}, IntsAre (vs.set k (.int x t)) (ns.set k x) := by
  induction h with
  | nil => intro k x t; exact .nil
  | cons i u r ih =>
    intro k x t
    cases k with
    | zero => exact .cons _ _ r
    | succ k => exact .cons _ _ ih
section
variable {prog : Program} {w : World} {A : Around} {E : Value → Shared → Prop} {s : Shared} {h₀ : Heap} {L D : Addr} {m : Str → Option Value} {news news' : List (Addr × Obj)}
theorem set_at {vs : List Value} {nn : Nat} {i : Nat} {v : Value} {u : Tok} {Q : Unit → Shared → Prop} (F : Fr h₀ L s.heap m) (N : News h₀ L s.heap news) (U : Upd D (listOf vs.toArray nn) (listOf (vs.set i v).toArray nn) news news') (hi : i < vs.length) (hi2 : i < 1000000)
    (h : ∀ h', Fr h₀ L h' m → News h₀ L h' news' → Q () { s with heap := h' }) : wpAny (model prog w) A (setItem (.ref D) (.int (i : Int) u) v) Q E s :=
  ki_set F N (by omega) (by omega) (setL_of (by simpa using hi)) U h
end
theorem listIs_one {D : Addr} {vs : List Value} {ds : List Nat} {n L x nn : Nat} {t : Tok} (hI : IntsAre vs (ds.map (fun d : Nat => (d : Int)))) (hL : L < ds.length) (hx : x < (2 ^ n) ^ 1) : ListIs D (put ds L (digs (2 ^ n) 1 x)) [(D, listOf (vs.set L (.int (x : Int) t)).toArray nn)] := by
  refine ⟨_, _, rfl, ?_⟩
  have e : digs (2 ^ n) 1 x = [x] := by
    show [x % 2 ^ n] = [x]
    rw [Nat.mod_eq_of_lt (by simpa using hx)]
  rw [e, put_one hL, List.map_set]
  exact ints_set hI
theorem put_two {ds : List Nat} {n L M R j k x : Nat} (hM : M = L + j) (hR : R = L + k) (hj : j < k) (hRl : R ≤ ds.length) :
    put (put ds L (digs (2 ^ n) j (x % 2 ^ (j * n)))) M (digs (2 ^ n) (k - j) (x / 2 ^ (j * n))) = put ds L (digs (2 ^ n) k x) := by
  have e : (2 : Nat) ^ (j * n) = (2 ^ n) ^ j := by rw [Nat.mul_comm, Nat.pow_mul]
  have hk : k = j + (k - j) := by omega
  rw [e]
  conv => rhs; rw [hk, digs_split]
  have hl : (digs (2 ^ n) j (x % (2 ^ n) ^ j)).length = j := digs_length _ _ _
  subst hM
  have := put_put (ds := ds) (L := L) (a := digs (2 ^ n) j (x % (2 ^ n) ^ j)) (b := digs (2 ^ n) (k - j) (x / (2 ^ n) ^ j)) (by rw [digs_length, digs_length]; omega)
  rw [hl] at this
  exact this
theorem low_lt {n j x : Nat} : x % 2 ^ (j * n) < (2 ^ n) ^ j := by
  rw [← Nat.pow_mul, Nat.mul_comm n j]
  exact Nat.mod_lt _ (Nat.pow_pos (by decide))
theorem up_lt {n j k x : Nat} (hj : j ≤ k) (hx : x < (2 ^ n) ^ k) : x / 2 ^ (j * n) < (2 ^ n) ^ (k - j) := by
  refine Nat.div_lt_of_lt_mul ?_
  have e : (2 : Nat) ^ (j * n) = (2 ^ n) ^ j := by rw [Nat.mul_comm, Nat.pow_mul]
  rw [e, ← Nat.pow_add]
  have : j + (k - j) = k := by omega
  rw [this]
  exact hx
end Mine
namespace Mine
open PySem PySem.W PySem.Spec PySem.Calls PyProof.Rows
section
variable {prog : Program} {w : World} {K : Frag} {p : Program} {loose : List Str} {mean : ExcName → Option Value} {mg mb : Str → Option Value} {f : Addr} {dn un : Nat} {vs : List Value} {Pre : Heap → Prop} {Out : Heap → Heap → Value → Prop}
theorem tel_ofX {name qual : Str} {params : Arguments} {body : List Stmt} {scope : Scope} {cl₁ : List (Str × Addr)} {dV kV doc pm cdv ct : Value} {an : Option Addr} {fo : Obj} {binds : List (Str × Value)}
    (hfo : fo.data = .func (fnX name qual params body scope cl₁ dV kV doc pm an cdv ct)) (hpf : ∀ g, Pre g → g.get? f = some fo ∧ g.CodeRec cdv qual)
    (hbind : ∀ s, BindsTo s (fnX name qual params body scope cl₁ dV kV doc pm an cdv ct) ⟨vs, []⟩ binds) (hloc : ∀ y ∈ binds, scope.names.lookup y.1 = some .local)
    (hcell : ∀ x ∈ scope.names, x.2 ≠ .cell) (hco : scope.isCoroutine = false) (hgen : scope.isGenerator = false) (hk : scope.kind = .function)
    (h : ∀ (dp uu : Nat) (gd : Option (List Code)) (outer : List Env) (A₀ : Around) (base g : Heap) (L' : Addr) (s : Shared) (Q : Value → Shared → Prop),
      Below A₀ base outer g → Fr g L' s.heap (fun y => binds.reverse.lookup y) → News g L' s.heap [] → K.In g → Top p loose mean mg mb g → dp + dn < recursionLimit → uu + un < cLine → Pre g →
      (∀ r h' tk', g.StaysIn h' → Out g h' r → Q r { s with heap := h', toks := tk' }) →
      wpAny (model prog w) (ktrTop dp uu gd qual scope L' f cdv cl₁ outer) (execs body (envX qual scope L' f cdv cl₁)) (fun fl s' => Q (match fl with | .ret v => v | _ => .none) s') (fun _ _ => False) s) :
    Tel prog w K p loose mean mg mb f dn un vs Pre Out := by
  have C : TelT (fun T => T = []) (fun T => T = []) prog w K p loose mean mg mb f dn un vs Pre Out := by
    refine telT_ofX hfo hpf hbind hloc hcell hco hgen hk ?_
    intro dp uu gd outer A₀ base g L' s Q T B F N _ hT X Tp hd hu hpre hret
    subst hT
    exact h dp uu gd outer A₀ base g L' s Q B F N X Tp hd hu hpre fun r h' tk' st o => hret r h' tk' [] st rfl News.nil o
  intro dp uu gd cn cs a ccd cl outer A₀ base h₀ L m s Q E B F X Tp hcs hd hu hpre hret
  exact C dp uu gd cn cs a ccd cl outer A₀ base h₀ L m s Q E [] B F X Tp hcs hd hu rfl News.nil hpre fun r h' tk' T' st _ _ o => hret r h' tk' st o
end
def seg (ds : List Nat) (L k : Nat) : List Nat := (ds.drop L).take k
theorem valB_append (B : Nat) : ∀ a b : List Nat, valB B (a ++ b) = valB B a + B ^ a.length * valB B b
  | [], b => by simp [valB]
  | x :: a, b => by
    show x + B * valB B (a ++ b) = (x + B * valB B a) + B ^ (a.length + 1) * valB B b
    rw [valB_append B a b, Nat.mul_add, Nat.pow_succ, ← Nat.mul_assoc, Nat.mul_comm B (B ^ a.length), Nat.add_assoc]
theorem valB_lt {B : Nat} : ∀ {l : List Nat}, (∀ d ∈ l, d < B) → valB B l < B ^ l.length
  | [], _ => by simp [valB]
  | x :: l, h => by
    have h1 := h x (.head _)
    have h2 := valB_lt (fun d hd => h d (.tail _ hd))
    show x + B * valB B l < B ^ (l.length + 1)
    have h3 : B * (valB B l + 1) ≤ B * B ^ l.length := Nat.mul_le_mul_left _ h2
    rw [Nat.pow_succ, Nat.mul_comm (B ^ l.length) B]
    rw [Nat.mul_add] at h3
    omega
theorem seg_length {ds : List Nat} {L k : Nat} (h : L + k ≤ ds.length) : (seg ds L k).length = k := by simp [seg]; omega
theorem seg_mem {ds : List Nat} {L k d : Nat} (h : d ∈ seg ds L k) : d ∈ ds := List.mem_of_mem_drop (List.mem_of_mem_take h)
theorem seg_split {ds : List Nat} {L j k : Nat} (hj : j ≤ k) : seg ds L k = seg ds L j ++ seg ds (L + j) (k - j) := by
  unfold seg
  have e : k = j + (k - j) := by omega
  conv => lhs; rw [e]
  rw [List.take_add, List.drop_drop]
theorem seg_all (ds : List Nat) : seg ds 0 ds.length = ds := by simp [seg]
theorem seg_val {ds : List Nat} {n L j k : Nat} (hj : j ≤ k) (hl : L + k ≤ ds.length) : valB (2 ^ n) (seg ds (L + j) (k - j)) * 2 ^ (j * n) + valB (2 ^ n) (seg ds L j) = valB (2 ^ n) (seg ds L k) := by
  rw [seg_split (ds := ds) (L := L) hj, valB_append, seg_length (by omega)]
  have e : (2 : Nat) ^ (j * n) = (2 ^ n) ^ j := by rw [Nat.mul_comm, Nat.pow_mul]
  rw [e, Nat.mul_comm, Nat.add_comm]
theorem seg_lt {ds : List Nat} {n L k : Nat} (h : ∀ d ∈ ds, d < 2 ^ n) (hl : L + k ≤ ds.length) : valB (2 ^ n) (seg ds L k) < 2 ^ (n * k) := by
  have := valB_lt (B := 2 ^ n) (l := seg ds L k) (fun d hd => h d (seg_mem hd))
  rw [seg_length hl] at this
  rw [Nat.pow_mul]
  exact this
theorem seg_one {B : Nat} {ds : List Nat} {L : Nat} (h : L < ds.length) : ∃ d, ds[L]? = some d ∧ valB B (seg ds L 1) = d := by
  refine ⟨ds[L], List.getElem?_eq_getElem h, ?_⟩
  have e : seg ds L 1 = [ds[L]] := by
    unfold seg
    rw [List.drop_eq_getElem_cons h]
    rfl
  rw [e]
  simp [valB]
theorem ints_at {vs : List Value} {ns : List Int} (h : IntsAre vs ns) : ∀ {k : Nat} {x : Int}, ns[k]? = some x → ∃ t, vs[k]? = some (.int x t) := by
  induction h with
  | nil => intro k x e; simp at e
  | cons i u r ih =>
    intro k x e
    cases k with
    | zero => exact ⟨u, by simp at e; simp [e]⟩
    | succ k => simpa using ih (by simpa using e)
theorem seg_getD {B : Nat} {ds : List Nat} {L : Nat} (h : L < ds.length) : (ds.map (fun d : Nat => (d : Int))).getD ((L : Int)).toNat 0 = ((valB B (seg ds L 1) : Nat) : Int) := by
  obtain ⟨d, h1, h2⟩ := seg_one (B := B) h
  rw [h2, Int.toNat_natCast, List.getD_eq_getElem?_getD, List.getElem?_map, h1]
  rfl
theorem seg_sum {ds : List Nat} {n L M SH j k : Nat} (hM : M = L + j) (hS : SH = j * n) (hj : j ≤ k) (hl : L + k ≤ ds.length) : ((valB (2 ^ n) (seg ds M (k - j)) * 2 ^ SH : Nat) : Int) + ((valB (2 ^ n) (seg ds L j) : Nat) : Int) = ((valB (2 ^ n) (seg ds L k) : Nat) : Int) := by
  subst hM hS
  rw [← seg_val hj hl, Int.natCast_add]
section
variable {prog : Program} {w : World} {A : Around} {E : Value → Shared → Prop} {s : Shared} {Q : Value → Shared → Prop}
theorem item_ints {l : Addr} {vs : List Value} {ds : List Nat} {i : Nat} {k : Int} {u : Tok} {B : Nat} (hl : s.heap.IsList l vs.toArray) (hI : IntsAre vs (ds.map (fun d : Nat => (d : Int)))) (ek : k = i) (hi : i < ds.length) (hlen : ds.length ≤ 1000)
    (h : ∀ t, Q (.int (valB B (seg ds i 1) : Nat) t) s) : wpAny (model prog w) A (getItem (.ref l) (.int k u)) Q E s := by
  subst ek
  obtain ⟨d, h1, h2⟩ := seg_one (B := B) hi
  obtain ⟨t, h3⟩ := ints_at hI (k := i) (x := (d : Int)) (by simp [h1])
  refine getItem_listL (l := vs) (x := .int d t) hl (by omega) (by omega) (by simpa using h3) ?_
  have := h t
  rw [h2] at this
  exact this
theorem add_to {a b : Int} {t u : Tok} (r : Nat) (e : a + b = r) (h : ∀ t k, Q (.int (r : Int) t) { s with toks := k }) : wpAny (model prog w) A (binaryOp .Add (.int a t) (.int b u)) Q E s := by
  refine add_int ?_
  rw [e]
  exact h _ _
end
theorem off_cells1 {C1 C2 C' news : List (Addr × Obj)} {d a : Addr} {o : Obj} (hC : ∀ q ∈ C1 ++ C2, q.1 < d) (h3 : ∀ q ∈ C', q ∈ C1 ∨ ∀ r ∈ news, r.1 < q.1) (ha : (a, o) ∈ news) (hd : @LE.le Nat _ d a) : ∀ q ∈ (C1 ++ C2) ++ C', q.1 ≠ a := by
  intro q hq e
  rcases List.mem_append.mp hq with h | h
  · exact kall_lt hC hd q h e
  · rcases h3 q h with h | h
    · exact kall_lt hC hd q (List.mem_append_left _ h) e
    · exact absurd (h _ ha) (by rw [e]; exact Nat.lt_irrefl _)
/-- digits2int's inner def -/
def D2 (prog : Program) (w : World) (K : Frag) (p : Program) (loose : List Str) (mean : ExcName → Option Value) (mg mb : Str → Option Value) (f l : Addr) (fo : Obj) (c' : Value) (qual : Str) (cn ca ci : Addr) (on oa oi : Obj) (vs : List Value) (ds : List Nat) (n k : Nat) : Prop :=
  ∀ (L R : Nat) (t2 t3 : Tok), R = L + k → 1 ≤ k → R ≤ ds.length →
    Tel prog w K p loose mean mg mb f (10 + k) (100 + 3 * k) [.int (L : Int) t2, .int (R : Int) t3]
      (fun g => (g.get? f = some fo ∧ g.CodeRec c' qual) ∧ g.get? cn = some on ∧ g.get? ca = some oa ∧ g.get? ci = some oi ∧ g.IsList l vs.toArray) (fun _ _ r => IsI (valB (2 ^ n) (seg ds L k) : Nat) r)
section
variable {prog : Program} {w : World} {K : Frag} {p : Program} {loose : List Str} {mean : ExcName → Option Value} {mg mb : Str → Option Value}
theorem d2_use {dp uu : Nat} {gd : Option (List Code)} {cn' : Str} {cs : Scope} {a : Addr} {ccd : Value} {cl : List (Str × Addr)} {outer : List Env} {A₀ : Around} {base h₀ : Heap} {L : Addr} {m : Str → Option Value} {news : List (Addr × Obj)} {s : Shared}
    {Q E : Value → Shared → Prop} {f l cn ca ci c' : Addr} {fo on oa oi oc : Obj} {qual : Str} {n kk : Nat} {vs : List Value} {ds : List Nat} {vsc : Array Value} {tq t2 t3 : Tok}
    (hind : ∀ k, (∀ j, j < k → D2 prog w K p loose mean mg mb f l fo (.ref c') qual cn ca ci on oa oi vs ds n j) → D2 prog w K p loose mean mg mb f l fo (.ref c') qual cn ca ci on oa oi vs ds n k)
    (B : Below A₀ base outer h₀) (F : Fr h₀ L s.heap m) (X : K.In h₀) (N : News h₀ L s.heap news) (Tp : Top p loose mean mg mb h₀) (hk : cs.kind = .function)
    (hd : dp + (10 + kk) + 1 < recursionLimit) (hu : uu + (100 + 3 * kk) + 3 < cLine)
    (hmf : (f, fo) ∈ news) (hmn : (cn, on) ∈ news) (hma : (ca, oa) ∈ news) (hmi : (ci, oi) ∈ news) (hmc : (c', oc) ∈ news)
    (hoc : oc.data = .fields vsc) (hvc : vsc[1]? = some (.str qual tq)) (hl : h₀.IsList l vs.toArray) (hkk : kk = ds.length) (hk1 : 1 ≤ kk)
    (ret : ∀ r h' tk', Fr h₀ L h' m → News h₀ L h' news → IsI (valB (2 ^ n) ds : Nat) r → Q r { s with heap := h', toks := tk' }) :
    wpAny (model prog w) (ktrTop dp uu gd cn' cs L a ccd cl outer) (call (.ref f) [.int 0 t2, .int (kk : Int) t3]) Q E s := by
  have IN : ∀ k, D2 prog w K p loose mean mg mb f l fo (.ref c') qual cn ca ci on oa oi vs ds n k := fun k => Nat.strongRecOn k hind
  have C := IN kk 0 kk t2 t3 (by omega) hk1 (by omega)
  refine tel_use C B F X N Tp hk hd hu ⟨⟨(N _ hmf).1, ⟨c', oc, vsc, tq, rfl, (N _ hmc).1, hoc, hvc⟩⟩, (N _ hmn).1, (N _ hma).1, (N _ hmi).1, Heap.IsList.at hl fun o e => F.keep _ _ e⟩ ?_
  intro r h' tk' F' N' _ hr
  rw [hkk, seg_all] at hr
  exact ret r h' tk' F' N' hr
end
end Mine
namespace Mine
open PySem PySem.W PySem.Spec PySem.Calls PyProof.Rows
/-- eight counts -/
structure C8 where
  ns : List Int
  vs : List Value
  n : Nat
def C8.led (D : Addr) (c : C8) : List (Addr × Obj) := [(D, listOf c.vs.toArray c.n)]
def C8.ok (i : Nat) (c : C8) : Prop := IntsAre c.vs c.ns ∧ c.ns.length = 8 ∧ ∀ x ∈ c.ns, 0 ≤ x ∧ x ≤ 1000 + 1000000 * (i : Int)
def Eight (vs : List Value) : Prop := ∃ ns : List Int, IntsAre vs ns ∧ ns.length = 8 ∧ ∀ x ∈ ns, 0 ≤ x ∧ x ≤ 100000000
theorem ints_set8 {vs : List Value} {ns : List Int} (h : IntsAre vs ns) (x : Int) (t : Tok) : ∀ i, IntsAre (vs.set i (.int x t)) (ns.set i x) := by
  induction h with
  | nil => intro i; exact .nil
  | cons y u h ih =>
    intro i
    cases i with
    | zero => exact .cons _ _ h
    | succ i => exact .cons _ _ (ih i)
theorem C8.step {i k : Nat} {c : C8} {x y : Int} {t : Tok} {m : Nat} (h : C8.ok i c) (hk : c.ns[k]? = some x) (hy : 0 ≤ y ∧ y < 1000000) : C8.ok (i + 1) ⟨c.ns.set k (x + y), c.vs.set k (.int (x + y) t), m⟩ := by
  obtain ⟨h1, h2, h3⟩ := h
  refine ⟨ints_set8 h1 _ _ _, by simpa using h2, ?_⟩
  intro z hz
  have hx := h3 x (List.mem_of_getElem? hk)
  rcases List.mem_or_eq_of_mem_set hz with h | h
  · have := h3 z h; omega
  · subst h; omega
theorem eight_at (i : Nat) : ∃ k : Nat, k < 8 ∧ ((0 : Int) + (i : Int)).fmod 8 = (k : Int) := by
  refine ⟨i % 8, Nat.mod_lt _ (by decide), ?_⟩
  rw [Int.fmod_eq_emod_of_nonneg _ (by decide)]; omega
section
variable {prog : Program} {w : World} {A : Around} {E : Value → Shared → Prop} {s : Shared} {h₀ : Heap} {L D : Addr} {m : PySem.Str → Option Value} {news : List (Addr × Obj)} {Q : Value → Shared → Prop}
theorem get_int {vs : List Value} {ns : List Int} {n k : Nat} {x kk : Int} {u : Tok} (ek : kk = (k : Int)) (hI : IntsAre vs ns) (N : News h₀ L s.heap news) (hm : (D, listOf vs.toArray n) ∈ news) (hx : ns[k]? = some x) (hk : k < 1000000)
    (h : ∀ t, Q (.int x t) s) : wpAny (model prog w) A (getItem (.ref D) (.int kk u)) Q E s := by
  subst ek
  have hl : s.heap.IsList D vs.toArray := ⟨_, (N _ hm).1, rfl, n, rfl⟩
  obtain ⟨t, h3⟩ := ints_at hI hx
  exact getItem_listL (l := vs) (x := .int x t) hl (by omega) (by omega) (by simpa using h3) (h t)
end
end Mine
namespace Mine
open PySem PySem.W PySem.Spec PySem.Calls PyProof.Rows
section
variable {prog : Program} {w : World} {p : Program} {loose : List Str} {mean : ExcName → Option Value} {mg mb : Str → Option Value}
theorem cells_tel (l : Addr) (vs : List Value) (ns : List Int) (hI : IntsAre vs ns) (hn : ns.length ≤ 63) : Tel prog w (hd.heap_39 w.params) p loose mean mg mb 121 10 100 [.ref l] (fun h => h.IsList l vs.toArray) (fun g h' r => ListOut Eight g h' r) := by
  k_with_none
  k_with "exec For Name Call cons nil" => (k_here; (rename Fr _ _ _ _ => lF'); (with_unfolding_all refine' For_invVF lF' ?kw0k1 ?kw0k2 ?_; (case kw0k1 => exact rfl); (case kw0k2 => exact rfl); k_whole))
  k_with "pyIter ref" => (k_here; refine stop_here ?_)
  k_with "binaryOp Mod int int" => (k_here; first | ((refine mod_as (by assumption) (by decide) ?_); intro _ _) | ((refine mod_rng 1000000 (by decide) (by decide) ?_); intro _ _ _ _ _))
  k_with "getItem ref int" => (k_here; refine stop_here ?_)
  k_with "setItem ref int" => (k_here; refine stop_here ?_)
  refine' tel_of (binds := [(Str.ofString "script", .ref l)]) ?ho ?hcd ?hb ?hl ?h1 ?h2 ?h3 ?h4 ?_
  (case ho => k_is)
  (case hcd => k_is)
  (case hb => intro s; exact BindsTo.of_eq rfl)
  (case hl => exact locs rfl)
  (case h1 => decide)
  (case h2 => exact rfl)
  (case h3 => exact rfl)
  (case h4 => exact rfl)
  intro dp uu gd outer A₀ base g L' s Q B F N X T hd hu hpre hret
  have hl := hpre
  have hlen := hI.length
  k_steps
  all_goals (try dsimp only)
  unfold Stop
  have e63 : (if 63 < (ns.length : Int) then 63 else (ns.length : Int)) = (ns.length : Int) := by split <;> omega
  simp only [e63] at *
  have hrng := ‹IsRange _ _ 0 (ns.length : Int) 1 _ _ _›
  obtain ⟨hsm, hsz⟩ := small_range (n := ns.length) (by omega)
  refine' for_range (σ := C8) (n := ns.length) [] (C8.led _) (fun _ => []) [] C8.ok ⟨[10, 5, 512, 497, 499, 117, 6, 0], [.int 10 _, .int 5 _, .int 512 _, .int 497 _, .int 499 _, .int 117 _, .int 6 _, .int 0 _], 0⟩ rfl hrng hsm hsz ?F ?N (by simp) ?hj ?turn ?done
  (case F => k_asm)
  (case N => (show News _ _ _ [_]; k_asm))
  (case hj => exact ⟨.cons _ _ (.cons _ _ (.cons _ _ (.cons _ _ (.cons _ _ (.cons _ _ (.cons _ _ (.cons _ _ .nil))))))), rfl, by intro x hx; simp only [List.mem_cons, List.not_mem_nil, or_false] at hx; rcases hx with rfl | rfl | rfl | rfl | rfl | rfl | rfl | rfl <;> decide⟩)
  (case turn =>
    intro i c t u h1 tk1 own hi hoff hJ F1 N1
    obtain ⟨hj1, hj2, hj3⟩ := id hJ
    simp only [C8.led, List.cons_append, List.nil_append] at N1
    obtain ⟨k, hk, hr⟩ := eight_at i
    obtain ⟨x, hx⟩ : ∃ x, c.ns[k]? = some x := ⟨c.ns[k]'(by omega), List.getElem?_eq_getElem _⟩
    have hlv : c.vs.length = 8 := by have := hj1.length; omega
    k_steps
    unfold Stop
    rename Fr _ _ _ _ => F9
    rename News _ _ _ _ => N9
    refine get_int rfl hj1 N9 List.mem_cons_self hx (by omega) ?_
    intro tx
    k_steps
    unfold Stop
    rename Fr _ _ _ _ => F9
    rename News _ _ _ _ => N9
    refine set_at (i := k) F9 N9 (Upd.head ?upd) (by omega) (by omega) ?nxt
    (case upd => intro q hq; (try simp only [List.nil_append] at hq); exact hoff q hq _ (by simp [C8.led]))
    (case nxt =>
      intro h5 F5 N5
      k_steps
      rename Fr _ _ _ _ => F9
      rename News _ _ _ _ => N9
      (try dsimp only [InvPostN])
      refine' ⟨_, _, _, _, _, rfl, F9, N9, ?zs, ?zo, ?za, ⟨_, _, _⟩, rfl, ?zp, ?zr, C8.step hJ hx ?rng⟩
      (case zs => (intro q hq; cases List.mem_singleton.mp hq; exact List.mem_cons_self))
      (case zo => (intro q hq; simp only [List.nil_append] at hq; exact List.mem_cons_of_mem _ hq))
      (case za => rfl)
      (case zp => (intro q hq; cases hq))
      (case zr => (intro z hz _ _; simp [kstB, hz]))
      (case rng => exact ⟨by assumption, by assumption⟩)))
  (case done =>
    intro c u h1 tk1 hJ F1 N1
    k_steps
    all_goals (try dsimp only)
    obtain ⟨hj1, hj2, hj3⟩ := hJ
    exact hret _ _ _ (Fr.keep (by assumption)) (list_out (n := c.n) (by assumption) (.head _) ⟨c.ns, hj1, hj2, fun x hx => by have := hj3 x hx; omega⟩))
end
end Mine
namespace Mine
open PySem PySem.W PySem.Spec PySem.Calls PyProof.Rows PyProof.Rows.LCg

/-- a tuple in the ledger -/
def TupIn (ax : Addr) (its : Array Value) (news : List (Addr × Obj)) : Prop := ∃ o, (ax, o) ∈ news ∧ o.cls = .type "tuple" ∧ ∃ n, o.data = .seq its n
theorem TupIn.at {h₀ h : Heap} {L ax : Addr} {its : Array Value} {news : List (Addr × Obj)} (x : TupIn ax its news) (N : News h₀ L h news) : h.IsTuple ax its :=
  let ⟨o, hm, hc, n, hd⟩ := x; ⟨o, (N _ hm).1, hc, n, hd⟩
/-- what a comprehension over a tuple leaves to show -/
def SrcTup (prog : Program) (w : World) (A : Around) (h₀ : Heap) (L : Addr) (m : Str → Option Value) (env : Env) (elt : PySem.Expr) (x : Str) (scope : Scope) (cl : List (Str × Addr)) (Fin : Shared → List Value → List (Addr × Obj) → Prop) (xv : Value) (s₁ : Shared) : Prop :=
  ∃ ax its news, xv = .ref ax ∧ A.handled = none ∧ Fr h₀ L s₁.heap m ∧ News h₀ L s₁.heap news ∧ TupIn ax its news ∧ its.size ≤ sizeLine ∧
    ∀ g, CompRest prog w A h₀ L m env elt x scope cl { s₁ with heap := g } (TupIn ax its) (fun i v => its[i]? = some v) (Fin { s₁ with heap := g }) its.size 0 [] news
section
variable {prog : Program} {w : World} {A : Around} {E : Value → Shared → Prop} {s : Shared} {h₀ : Heap} {L : Addr} {m : Str → Option Value} {env : Env}
theorem tup_st {ax I : Addr} {its : Array Value} : ∀ i (h h' : Heap) (o : Obj) (nw : List (Addr × Obj)), (h.IsTupleIter I ax i ∧ h.IsTuple ax its) → h.get? I = some o → h'.get? I = some o → (∀ b o, h₀.get? b = some o → h'.get? b = some o) → News h₀ L h' nw → TupIn ax its nw → (h'.IsTupleIter I ax i ∧ h'.IsTuple ax its) :=
  fun i h h' o nw st e e' _ N S => ⟨st.1.at fun o' q => by rw [e] at q; rw [e', q], S.at N⟩
end
end Mine
namespace Mine
open PySem PySem.W PySem.Spec PySem.Calls PyProof.Rows
section
variable {TabF TabF' : List (Addr × Obj) → Prop} {prog : Program} {w : World} {K : Frag} {p : Program} {loose : List Str} {mean : ExcName → Option Value} {mg mb : Str → Option Value} {f : Addr} {dn un : Nat} {vs : List Value} {Pre : Heap → Prop} {Out : Heap → Heap → Value → Prop}
theorem telT_ofL {name qual : Str} {params : Arguments} {body : List Stmt} {scope : Scope} {dV kV doc pm cdv ct oc : Value} {an od : Option Addr} {osl : Array (Option Value)} {binds : List (Str × Value)}
    (ho : K.lookup f = some ⟨oc, od, .func (fnOf name qual params body scope dV kV doc pm an cdv ct), osl⟩) (hcd : codeIn K cdv qual = true)
    (hbind : ∀ s, BindsTo s (fnOf name qual params body scope dV kV doc pm an cdv ct) ⟨vs, []⟩ binds) (hloc : ∀ y ∈ binds, scope.names.lookup y.1 = some .local)
    (hcell : ∀ x ∈ scope.names, x.2 ≠ .cell) (hco : scope.isCoroutine = false) (hgen : scope.isGenerator = false) (hk : scope.kind = .function)
    (h : ∀ (dp uu : Nat) (gd : Option (List Code)) (outer : List Env) (A₀ : Around) (base g : Heap) (L' : Addr) (s : Shared) (Q : Value → Shared → Prop) (T : List (Addr × Obj)),
      Below A₀ base outer g → Fr g L' s.heap (fun y => binds.reverse.lookup y) → News g L' s.heap T → (∀ q ∈ T, q.1 < L') → TabF T → K.In g → Top p loose mean mg mb g → dp + dn < recursionLimit → uu + un < cLine → Pre g →
      (∀ r h' tk' T', g.StaysIn h' → TabF' T' → News g L' h' T' → Out g h' r → Q r { s with heap := h', toks := tk' }) →
      wpAny (model prog w) (ktrTop dp uu gd qual scope L' f cdv [] outer) (execs body (envX qual scope L' f cdv [])) (fun fl s' => Q (match fl with | .ret v => v | _ => .none) s') (fun _ _ => False) s) :
    TelT TabF TabF' prog w K p loose mean mg mb f dn un vs Pre Out := by
  intro dp uu gd cn cs a ccd cl outer A₀ base h₀ L m s Q E T B F X Tp hcs hd hu hT NT hpre hret
  refine wpAny_call ?_
  have X' : K.In s.heap := X.keeps F.keep
  refine codeAny_call_def (fd := fnOf name qual params body scope dV kV doc pm an cdv ct) (body := body) (binds := binds) ?_ (X' _ _ ho) rfl (Tp.nolimit.keeps F.keep) (codeRec_of X' hcd) rfl (hbind s) hcell hloc (fun h₁ hns hk₁ => ?_) hco hgen hk
  · show dp < recursionLimit; omega
  obtain ⟨FG, BG, st, _⟩ := groundX (A := ktrTop dp uu gd cn cs L a ccd cl outer) (env := envX cn cs L a ccd cl) (R := fun _ _ => True) B F NT rfl rfl hcs
  have hsz : s.heap.objs.size = (hidT s.heap T).objs.size := (hideAll_size _ _).symm
  have F₁ : Fr (hidT s.heap T) s.heap.objs.size h₁ (fun y => binds.reverse.lookup y) := ⟨hns, fun b o e => hk₁ b o (of_hideAll _ e), Nat.le_of_eq hsz.symm⟩
  have N₁ : News (hidT s.heap T) s.heap.objs.size h₁ T := fun p hp => ⟨hk₁ _ _ (NT p hp).1, Nat.ne_of_lt (Heap.lt_size (NT p hp).1), hideAll_none _ (List.mem_map_of_mem hp)⟩
  have := h (dp + 1) (uu + 3) gd (envX cn cs L a ccd cl :: outer) _ base _ s.heap.objs.size { s with heap := h₁, toks := s.toks + binds.length } Q T BG F₁ N₁ (fun q hq => Heap.lt_size (NT q hq).1) hT (X.keeps st) (Tp.keeps st) (by omega) (by omega) hpre
    (fun r h' tk' T' st' hT' N' o => hret r h' tk' T' st' hT' (fun q hq => ⟨(N' q hq).1, (N' q hq).2.2⟩) o)
  exact wpAny_mono this (fun fl s' hl => by cases fl <;> exact hl) fun _ _ y => y.elim
/-- at a call: what stands ahead of the table stays; each of its entries is off the new table -/
theorem telT_call {dp uu : Nat} {gd : Option (List Code)} {cn : Str} {cs : Scope} {a : Addr} {ccd : Value} {cl : List (Str × Addr)} {outer : List Env} {A₀ : Around} {base h₀ : Heap} {L : Addr} {m : Str → Option Value} {news front T : List (Addr × Obj)} {s : Shared}
    {Q E : Value → Shared → Prop} (C : TelT TabF TabF' prog w K p loose mean mg mb f dn un vs Pre Out) (B : Below A₀ base outer h₀) (F : Fr h₀ L s.heap m) (X : K.In h₀) (N : News h₀ L s.heap news) (Tp : Top p loose mean mg mb h₀) (hk : cs.kind = .function)
    (hd : dp + dn + 1 < recursionLimit) (hu : uu + un + 3 < cLine) (hT : TabF T) (hcut : Cut T news front) (hoff : ∀ q ∈ front, ∀ r ∈ T, r.1 ≠ q.1) (hpre : (∀ q ∈ front, (hidT s.heap T).get? q.1 = some q.2) → h₀.StaysIn (hidT s.heap T) → Pre (hidT s.heap T))
    (ret : ∀ r h' tk' T', Fr h₀ L h' m → News h₀ L h' (front ++ T') → TabF' T' → (∀ q ∈ front, ∀ r ∈ T', r.1 ≠ q.1) → (hidT s.heap T).StaysIn h' → Out (hidT s.heap T) h' r → (∀ R o, h'.get? R = some o → (hidT s.heap T).get? R = none → News h₀ L h' ((R, o) :: (front ++ T')) ∧ ∀ q ∈ front, q.1 ≠ R) → Q r { s with heap := h', toks := tk' }) :
    wpAny (model prog w) (ktrTop dp uu gd cn cs L a ccd cl outer) (call (.ref f) vs) Q E s := by
  have e := hcut.eq
  have hoff' : ∀ q ∈ front, q.1 ∉ T.map (·.1) := fun q hq hm => by
    obtain ⟨r, hr, e⟩ := List.mem_map.mp hm
    exact hoff q hq r hr e
  have NT : News h₀ L s.heap T := fun p hp => N p (e ▸ List.mem_append_right _ hp)
  refine telT_use C B F X N Tp hk hd hu hT hcut hoff' (hpre (fun q hq => hidT_get (N q (e ▸ List.mem_append_left _ hq)).1 (hoff' q hq)) (base_hidT F NT)) ?_
  intro r h' tk' T' F' N' hT' ho st hf FH o
  refine ret r h' tk' T' F' N' hT' (fun q hq r hr e => ho q hq (List.mem_map.mpr ⟨r, hr, e⟩)) st o ?_
  intro R o hR hn
  exact ⟨news_pair FH N' hR hn, fun q hq e => by have := hf q hq; rw [e, hn] at this; cases this⟩
end
section
variable {prog : Program} {w : World} {A : Around} {E : Value → Shared → Prop} {s : Shared} {env : Env} {h₀ : Heap} {x : Str} {body : List Stmt} {Q : Flow → Shared → Prop}
/-- over a list from its end -/
theorem for_rev {σ : Type} {l I : Addr} {vs : List Value} {nn : Nat} {m₀ : Str → Option Value} {news : List (Addr × Obj)} (fix : List (Addr × Obj)) (Led : σ → List (Addr × Obj)) (ps : σ → List (Str × Value)) (stored : List Str) (J : Nat → σ → Prop) (c₀ : σ)
    (hh : A.handled = none) (hI : (I, revObj l ((vs.length : Int) - 1)) ∈ news) (hm : (l, listOf vs.toArray nn) ∈ news) (hne : l ≠ I) (hlI : ∀ q ∈ Led c₀ ++ fix, q.1 ≠ I) (hl : ∀ q ∈ Led c₀, q.1 ≠ l) (F : Fr h₀ env.locals s.heap m₀) (N : News h₀ env.locals s.heap news) (hsub : ∀ p ∈ Led c₀ ++ fix, p ∈ news)
    (hk : ∀ p ∈ ps c₀, m₀ p.1 = some p.2) (hj : J 0 c₀)
    (turn : ∀ i (c : σ) v (u : Str → Option Value) h tk own, vs.reverse[i]? = some v → OwnOff own ((Led c₀).map (·.1)) → J i c →
      Fr h₀ env.locals h (fun y => if y = x then some v else kstB (fun z => if stored.contains z then u z else m₀ z) (ps c) y) → News h₀ env.locals h (Led c ++ (fix ++ own)) →
      wpAny (model prog w) A (execs body env) (InvPostN h₀ env.locals (MS Led ps x stored m₀ (J (i + 1))) (fix ++ own) ((Led c₀).map (·.1)) { s with heap := h, toks := tk } Q) E { s with heap := h, toks := tk })
    (done : ∀ (c : σ) (u : Str → Option Value) h tk, J vs.length c → Fr h₀ env.locals h (fun y => if y = x then u y else kstB (fun z => if stored.contains z then u z else m₀ z) (ps c) y) → News h₀ env.locals h (Led c ++ fix) → Q .next { s with heap := h, toks := tk }) :
    wpAny (model prog w) A (pyIter (.ref I)) (fun it s₂ => LoopAtV prog w A h₀ env x body Q E it s₂) E s := by
  have hit : s.heap.IsRevIter I l ((vs.length : Int) - 1) := ⟨_, (N _ hI).1, rfl, rfl⟩
  have hls : s.heap.IsList l vs.toArray := ⟨_, (N _ hm).1, rfl, nn, rfl⟩
  refine wpAny_pyIter_revIter hit ?_
  have W := Walks.listRev (prog := prog) (w := w) hh I l hne vs.toArray
  rw [List.size_toArray] at W
  refine for_any (s := s) fix Led ps stored J c₀ W ?_ ?_ ?_ ?_ ⟨Nat.zero_le _, by simpa using hit, hls⟩ F (fun p hp => N p (hsub p hp)) hk hj ?_ done
  · intro hmm
    rcases List.mem_cons.mp hmm with e | hmm
    · exact (N _ hI).2.1 e.symm
    · exact (N _ hm).2.1 (List.mem_singleton.mp hmm).symm
  · intro b hb
    rw [List.mem_singleton.mp hb]
    exact (N _ hI).2.2
  · intro p hp hpI
    exact hlI p hp (List.mem_singleton.mp hpI)
  · intro q hq hmm
    rcases List.mem_cons.mp hmm with e | hmm
    · exact hlI q (List.mem_append_left _ hq) e
    · exact hl q hq (List.mem_singleton.mp hmm)
  · intro i c v u h tk own hi hP
    refine turn i c v u h tk own ?_
    rw [List.getElem?_reverse hi]
    simpa using hP
end
theorem TabF.fields {P1 P2 : Addr} {l1 c1 l2 c2 : Nat} {q1 q2 : Str} {T : List (Addr × Obj)} (h : TabF P1 l1 c1 q1 P2 l2 c2 q2 T) : ∀ q ∈ T, ∃ vs, q.2.data = .fields vs := by
  obtain ⟨p1, C1, p2, C2, rfl, h1, h2, _⟩ := h
  have key : ∀ {l c : Nat} {q : Str} {p : Array Value} {C : List (Addr × Obj)}, TabP l c q p C → ∀ q ∈ C, ∃ vs, q.2.data = .fields vs := by
    intro l c q p C h r hr
    rcases h with ⟨_, rfl⟩ | ⟨c', o, vs, t, _, rfl, hd, _⟩
    · cases hr
    · cases List.mem_singleton.mp hr
      exact ⟨vs, hd⟩
  intro q hq
  rcases List.mem_cons.mp hq with rfl | hq
  · exact ⟨p1, rfl⟩
  rcases List.mem_cons.mp hq with rfl | hq
  · exact ⟨p2, rfl⟩
  rcases List.mem_append.mp hq with hq | hq
  · exact key h1 q hq
  · exact key h2 q hq
theorem TabF.off {P1 P2 : Addr} {l1 c1 l2 c2 : Nat} {q1 q2 : Str} {T front : List (Addr × Obj)} {h₀ h' : Heap} {L R : Addr} {o : Obj} {its : Array Value} {n : Nat} (h : TabF P1 l1 c1 q1 P2 l2 c2 q2 T) (N : News h₀ L h' (front ++ T)) (hR : h'.get? R = some o) (hd : o.data = .seq its n) : ∀ q ∈ T, q.1 ≠ R := by
  intro q hq e
  have h1 := (N q (List.mem_append_right _ hq)).1
  rw [e, hR] at h1
  obtain ⟨vs, hv⟩ := h.fields q hq
  rw [← Option.some.inj h1, hd] at hv
  cases hv
theorem allLt_at {d : Addr} : ∀ {l : List (Addr × Obj)}, AllLt d l → ∀ q ∈ l, q.1 < d
  | [], _, _, h => by cases h
  | p :: r, h, q, hq => by
    rcases List.mem_cons.mp hq with rfl | hq
    · exact h.1
    · exact allLt_at h.2 q hq
theorem allLt_off {d : Addr} {l : List (Addr × Obj)} (h : AllLt d l) : ∀ q ∈ l, q.1 ≠ d := fun q hq => Nat.ne_of_lt (allLt_at h q hq)
theorem rev_at {vs : List Value} {ds : List Nat} {i : Nat} {v : Value} (hI : IntsAre vs (ds.map (fun d : Nat => (d : Int)))) (h : vs.reverse[i]? = some v) : ∃ (d : Nat) (t : Tok), v = .int (d : Int) t ∧ i < ds.length ∧ ds[ds.length - 1 - i]? = some d := by
  have hl : vs.length = ds.length := by have := hI.length; simpa using this
  have hi : i < vs.length := by
    rcases Nat.lt_or_ge i vs.length with h1 | h1
    · exact h1
    · rw [List.getElem?_eq_none (by simpa using h1)] at h; cases h
  rw [List.getElem?_reverse hi, hl] at h
  have h2 : ds.length - 1 - i < ds.length := by omega
  obtain ⟨t, ht⟩ := ints_at hI (k := ds.length - 1 - i) (x := ((ds[ds.length - 1 - i]'h2 : Nat) : Int)) (by simp [List.getElem?_eq_getElem h2])
  rw [ht] at h
  exact ⟨_, t, (Option.some.inj h).symm, by omega, List.getElem?_eq_getElem h2⟩
theorem fdiv_nat (x b : Nat) : ((x : Int)).fdiv (b : Int) = ((x / b : Nat) : Int) := by
  rw [Int.fdiv_eq_ediv_of_nonneg _ (by omega)]; simp
theorem fmod_nat (x b : Nat) : ((x : Int)).fmod (b : Int) = ((x % b : Nat) : Int) := by
  rw [Int.fmod_eq_emod_of_nonneg _ (by omega)]; simp
theorem ints_snoc {vs : List Value} {ns : List Int} (h : IntsAre vs ns) (x : Int) (t : Tok) : IntsAre (vs ++ [.int x t]) (ns ++ [x]) := by
  induction h with
  | nil => exact .cons _ _ .nil
  | cons i u r ih => exact .cons _ _ ih
theorem ints_rev {vs : List Value} {ns : List Int} (h : IntsAre vs ns) : IntsAre vs.reverse ns.reverse := by
  induction h with
  | nil => exact .nil
  | cons i u r ih => rw [List.reverse_cons, List.reverse_cons]; exact ints_snoc ih _ _
theorem dv_small {r d b n : Nat} (h1 : r < b) (h2 : d < 2 ^ n) (h3 : b < 1073741824) (h4 : n ≤ 30) : r * 2 ^ n + d < 2 ^ 60 := by
  have e : (2 : Nat) ^ n ≤ 2 ^ 30 := Nat.pow_le_pow_right (by decide) h4
  have h5 : (r + 1) * 2 ^ n ≤ 1073741824 * 2 ^ 30 := Nat.mul_le_mul (by omega) e
  rw [Nat.succ_mul] at h5
  have : (1073741824 * 2 ^ 30 : Nat) = 2 ^ 60 := by decide
  omega
structure DV where
  qs : List Nat
  vs : List Value
  nn : Nat
  r : Nat
  t : Tok
def DV.led (D : Addr) (c : DV) : List (Addr × Obj) := [(D, listOf c.vs.toArray c.nn)]
/-- after i digits from the top -/
def DV.ok (ds : List Nat) (n b : Nat) (i : Nat) (c : DV) : Prop :=
  IntsAre c.vs (c.qs.map (fun d : Nat => (d : Int))) ∧ c.qs.length = i ∧ (∀ d ∈ c.qs, d < 2 ^ n) ∧ c.r < b ∧ valB (2 ^ n) (ds.drop (ds.length - i)) = valB (2 ^ n) c.qs.reverse * b + c.r
theorem DV.start {ds : List Nat} {n b nn : Nat} {t : Tok} (hb : 0 < b) : DV.ok ds n b 0 ⟨[], [], nn, 0, t⟩ := by
  refine ⟨.nil, rfl, by simp, hb, ?_⟩
  simp [valB]
theorem DV.step {ds : List Nat} {n b i d : Nat} {c : DV} {t1 t2 : Tok} {nn : Nat} (hb2 : b < 2 ^ n) (h : DV.ok ds n b i c) (hi : i < ds.length) (hd : ds[ds.length - 1 - i]? = some d) (hd2 : d < 2 ^ n) :
    DV.ok ds n b (i + 1) ⟨c.qs ++ [(c.r * 2 ^ n + d) / b], c.vs ++ [.int (((c.r * 2 ^ n + d) / b : Nat) : Int) t1], nn, (c.r * 2 ^ n + d) % b, t2⟩ := by
  obtain ⟨h1, h2, h3, h4, h5⟩ := h
  have hb0 : 0 < b := Nat.lt_of_le_of_lt (Nat.zero_le _) h4
  refine ⟨?_, by simp [h2], ?_, Nat.mod_lt _ hb0, ?_⟩
  · show IntsAre _ (List.map _ (c.qs ++ [_]))
    rw [List.map_append]
    exact ints_snoc h1 _ _
  · intro q hq
    rcases List.mem_append.mp hq with h | h
    · exact h3 q h
    · rw [List.mem_singleton.mp h]
      refine Nat.div_lt_of_lt_mul ?_
      have : (c.r + 1) * 2 ^ n ≤ b * 2 ^ n := Nat.mul_le_mul_right _ h4
      rw [Nat.succ_mul] at this
      omega
  · have e1 : ds.drop (ds.length - (i + 1)) = d :: ds.drop (ds.length - i) := by
      have h6 : ds.length - (i + 1) < ds.length := by omega
      rw [List.drop_eq_getElem_cons h6]
      have e2 : ds.length - (i + 1) + 1 = ds.length - i := by omega
      have e3 : ds.length - 1 - i = ds.length - (i + 1) := by omega
      rw [e2]
      rw [e3, List.getElem?_eq_getElem h6] at hd
      rw [Option.some.inj hd]
    rw [e1]
    show d + 2 ^ n * valB (2 ^ n) (ds.drop (ds.length - i)) = valB (2 ^ n) (c.qs ++ [(c.r * 2 ^ n + d) / b]).reverse * b + (c.r * 2 ^ n + d) % b
    rw [h5, List.reverse_append]
    show _ = ((c.r * 2 ^ n + d) / b + 2 ^ n * valB (2 ^ n) c.qs.reverse) * b + (c.r * 2 ^ n + d) % b
    have h7 := Nat.div_add_mod (c.r * 2 ^ n + d) b
    generalize valB (2 ^ n) c.qs.reverse = V at *
    generalize (c.r * 2 ^ n + d) / b = q at *
    generalize (c.r * 2 ^ n + d) % b = m at *
    rw [Nat.add_mul, Nat.mul_add, ← Nat.mul_assoc]
    have h8 : q * b = b * q := Nat.mul_comm _ _
    have h9 : 2 ^ n * c.r = c.r * 2 ^ n := Nat.mul_comm _ _
    omega
theorem DV.fin {ds : List Nat} {n b a : Nat} {c : DV} (h : DV.ok ds n b ds.length c) (hv : valB (2 ^ n) ds = a) : valB (2 ^ n) c.qs.reverse = a / b ∧ c.r = a % b := by
  obtain ⟨_, _, _, h4, h5⟩ := h
  rw [Nat.sub_self, List.drop_zero, hv] at h5
  have hb0 : 0 < b := Nat.lt_of_le_of_lt (Nat.zero_le _) h4
  constructor
  · rw [h5, Nat.add_comm, Nat.add_mul_div_right _ _ hb0, Nat.div_eq_of_lt h4, Nat.zero_add]
  · rw [h5, Nat.add_comm, Nat.add_mul_mod_self_right, Nat.mod_eq_of_lt h4]
end Mine
namespace Mine
open PySem PySem.W PySem.Spec PySem.Calls PyProof.Rows

section
variable {prog : Program} {w : World} {A : Around} {E : Value → Shared → Prop} {s : Shared} {env : Env} {h₀ : Heap} {x : Str} {body : List Stmt} {Q : Flow → Shared → Prop}
theorem unr_mono {L I : Addr} {s₁ s₂ : Shared} {it : Obj} {R R' : (Str → Option Value) → List (Addr × Obj) → Prop} {f : Flow} (hR : ∀ m n, R m n → R' m n) (h : UnrPost h₀ L s₁ I it R Q f s₂) : UnrPost h₀ L s₁ I it R' Q f s₂ := by
  have go : UnrEnd h₀ L s₁ I it R s₂ → UnrEnd h₀ L s₁ I it R' s₂ := fun ⟨h', tk, m', n', e, F, N, o, r⟩ => ⟨h', tk, m', n', e, F, N, o, hR _ _ r⟩
  cases f with
  | ret v => exact h
  | brk => exact h
  | next => exact go h
  | cont => exact go h
theorem range_inv {I : Addr} {a : Int} {n : Nat} (Inv : Nat → (Str → Option Value) → List (Addr × Obj) → Prop)
    (turn : ∀ i m news t h tk, i < n → Inv i m news → Fr h₀ env.locals h (fun y => if y = x then some (.int (a + (i : Int)) t) else m y) →
      News h₀ env.locals h ((I, itR (a + ((i + 1 : Nat) : Int)) ((n : Int) - ((i + 1 : Nat) : Int))) :: news) →
      wpAny (model prog w) A (execs body env) (UnrPost h₀ env.locals { s with heap := h, toks := tk } I (itR (a + ((i + 1 : Nat) : Int)) ((n : Int) - ((i + 1 : Nat) : Int))) (Inv (i + 1)) Q) E { s with heap := h, toks := tk })
    (done : ∀ m news h tk, Inv n m news → Fr h₀ env.locals h m → News h₀ env.locals h news → Q .next { s with heap := h, toks := tk }) :
    ∀ (k i : Nat) m news, k + i = n → Inv i m news → RangeRest prog w A E h₀ env x body Q s I a n k i m news
  | 0, i, m, news, e, hI => fun h tk F N => done m news h tk (by rw [Nat.zero_add] at e; exact e ▸ hI) F N
  | k + 1, i, m, news, e, hI => fun t h tk F N => wpAny_mono (turn i m news t h tk (by omega) hI F N) (fun _ _ q => unr_mono (fun m' n' r => range_inv Inv turn done k (i + 1) m' n' (by omega) r) q) fun _ _ q => q
end
end Mine
namespace Mine
open PySem PySem.W PySem.Spec PySem.Calls PyProof.Rows
open Builtin Builtin.Str

/-- str.find with two bounds -/
def find4 (x y : PySem.Str) (i j : Int) : Int := match occurrences x y (fromIndex x.length i) (min (fromIndex x.length j) x.length) 1 with | k :: _ => (k : Int) | [] => -1
def dots : PySem.Str := Str.ofString "..."
/-- the pieces between the ends, one behind the other -/
def ellLoop (got : PySem.Str) (ep : Int) : List PySem.Str → Int → Bool
  | [], _ => true
  | v :: vs, sp => if find4 got v sp ep < 0 then false else ellLoop got ep vs (find4 got v sp ep + v.length)
def ellEnd (got : PySem.Str) (sp ep : Int) (ws : List PySem.Str) : Bool := if sp > ep then false else ellLoop got ep ws sp
def ellLast (got : PySem.Str) (sp : Int) (ws : List PySem.Str) (z : PySem.Str) : Bool :=
  if z.length = 0 then ellEnd got sp got.length (ws ++ [z]) else if Txt.endswith got z = true then ellEnd got sp (got.length - z.length) ws else false
def ellDots (got a : PySem.Str) (mid : List PySem.Str) (z : PySem.Str) : Bool :=
  if a.length = 0 then ellLast got 0 (a :: mid) z else if Txt.startswith got a = true then ellLast got a.length mid z else false
def ellM (want got : PySem.Str) : Bool :=
  if (occurrences want dots 0 want.length 1).isEmpty = true then want == got
  else match Txt.split want dots with
    | a :: r => ellDots got a r.dropLast (r.getLastD PySem.Str.empty)
    | [] => false

theorem two_ends {α : Type} : ∀ {l : List α}, 2 ≤ l.length → ∃ a mid z, l = a :: (mid ++ [z])
  | a :: b :: r, _ => ⟨a, (b :: r).dropLast, (b :: r).getLast (by simp), by rw [List.dropLast_concat_getLast]⟩
theorem occ_none {x y : PySem.Str} {l k : Nat} (hl : 1 ≤ l) (hk : 1 ≤ k) : (occurrences x y 0 x.length l).isEmpty = (occurrences x y 0 x.length k).isEmpty := by
  rcases StrLaws.occ_head x y l hl with ⟨e, h⟩ | ⟨i, r, e, h, _⟩ <;> rcases StrLaws.occ_head x y k hk with ⟨e', h'⟩ | ⟨i', r', e', h', _⟩ <;> rw [e, e']
  · exact absurd h' (h _)
  · exact absurd h (h' _)
  · rfl
theorem strKind_pos (x : PySem.Str) : 1 ≤ Builtin.Str.strKind x := by unfold Builtin.Str.strKind; split <;> (try split) <;> decide
theorem split_cut {x y : PySem.Str} (hc : (occurrences x y 0 x.length 1).isEmpty = false) (hk : Builtin.Str.strKind y = 1) : Txt.split x y = partsBetween x (occurrences x y 0 x.length (x.length + 1)) y.length := by
  have h1 : (decide (x.length < y.length) || decide (Builtin.Str.strKind x < Builtin.Str.strKind y)) = false := by
    rcases StrLaws.occ_head x y 1 (Nat.le_refl _) with ⟨e, _⟩ | ⟨i, r, _, h, _⟩
    · rw [e] at hc; cases hc
    · have := strKind_pos x
      have := h.1
      rw [hk]; simp; omega
  have h2 : (occurrences x y 0 x.length (x.length + 1)).isEmpty = false := by rw [occ_none (k := 1) (by omega) (by omega)]; exact hc
  unfold Txt.split
  rw [h1, h2]
  simp
theorem split_short {x y : PySem.Str} (hc : (occurrences x y 0 x.length 1).isEmpty = false) (hk : Builtin.Str.strKind y = 1) : (Txt.split x y).length ≤ x.length + 2 := by
  rw [split_cut hc hk, length_partsBetween]
  have := StrLaws.occ_length_le_len x y 0 x.length (x.length + 1)
  omega
theorem split_two {x y : PySem.Str} (hc : (occurrences x y 0 x.length 1).isEmpty = false) (hk : Builtin.Str.strKind y = 1) : ∃ a mid z, Txt.split x y = a :: (mid ++ [z]) := by
  refine two_ends ?_
  rw [split_cut hc hk, length_partsBetween]
  have h2 : (occurrences x y 0 x.length (x.length + 1)).isEmpty = false := by rw [occ_none (k := 1) (by omega) (by omega)]; exact hc
  cases e : occurrences x y 0 x.length (x.length + 1) with
  | nil => rw [e] at h2; cases h2
  | cons a r => simp

theorem ellM_same {x y : PySem.Str} (hc : (occurrences x dots 0 x.length 1).isEmpty = true) : ellM x y = (x == y) := by unfold ellM; rw [if_pos hc]
theorem ellM_of {x y a z : PySem.Str} {mid : List PySem.Str} (hc : (occurrences x dots 0 x.length 1).isEmpty = false) (hs : Txt.split x dots = a :: (mid ++ [z])) : ellM x y = ellDots y a mid z := by
  unfold ellM
  rw [if_neg (by rw [hc]; decide), hs]
  simp
theorem strValues_get {ls : List (PySem.Str × Tok)} {i : Nat} {v : Value} (h : (strValues ls)[i]? = some v) : ∃ q, ls[i]? = some q ∧ v = .str q.1 q.2 := by
  unfold strValues at h
  rw [List.getElem?_map] at h
  cases e : ls[i]? with
  | none => rw [e] at h; cases h
  | some q => rw [e] at h; exact ⟨q, rfl, by simpa using h.symm⟩
theorem ellLoop_step {got : PySem.Str} {ep sp : Int} {ls : List (PySem.Str × Tok)} {i : Nat} {q : PySem.Str × Tok} (h : ls[i]? = some q) :
    ellLoop got ep ((ls.drop i).map (·.1)) sp = if find4 got q.1 sp ep < 0 then false else ellLoop got ep ((ls.drop (i + 1)).map (·.1)) (find4 got q.1 sp ep + q.1.length) := by
  have : ls.drop i = q :: ls.drop (i + 1) := by
    obtain ⟨hi, e⟩ := List.getElem?_eq_some_iff.mp h
    rw [← e]; exact List.drop_eq_getElem_cons hi
  rw [this]
  rfl
def EJ (x y : PySem.Str) (ep : Int) (ls : List (PySem.Str × Tok)) (i : Nat) (c : Int × Tok) : Prop := ellLoop y ep ((ls.drop i).map (·.1)) c.1 = ellM x y
theorem EJ.start {x y : PySem.Str} {ep sp : Int} {ls : List (PySem.Str × Tok)} {t : Tok} (h : ellM x y = ellLoop y ep (ls.map (·.1)) sp) : EJ x y ep ls 0 (sp, t) := h.symm
theorem EJ.stop {x y : PySem.Str} {ep : Int} {ls : List (PySem.Str × Tok)} {i : Nat} {c : Int × Tok} {q : PySem.Str × Tok} (h : EJ x y ep ls i c) (hq : ls[i]? = some q) (hn : find4 y q.1 c.1 ep < 0) : Value.bool false = Value.bool (ellM x y) := by
  rw [← h, ellLoop_step hq, if_pos hn]
theorem EJ.next {x y : PySem.Str} {ep : Int} {ls : List (PySem.Str × Tok)} {i : Nat} {c : Int × Tok} {q : PySem.Str × Tok} {t : Tok} (h : EJ x y ep ls i c) (hq : ls[i]? = some q) (hn : ¬ find4 y q.1 c.1 ep < 0) : EJ x y ep ls (i + 1) (find4 y q.1 c.1 ep + q.1.length, t) := by
  unfold EJ at h ⊢
  rw [← h, ellLoop_step hq, if_neg hn]
theorem EJ.done {x y : PySem.Str} {ep : Int} {ls : List (PySem.Str × Tok)} {c : Int × Tok} (h : EJ x y ep ls (strValues ls).length c) : Value.bool true = Value.bool (ellM x y) := by
  unfold EJ at h
  rw [← h]; simp [strValues, ellLoop]

section
variable {prog : Program} {w : World} {A : Around} {E : Value → Shared → Prop} {s : Shared} {h₀ : Heap} {L D : Addr} {m : PySem.Str → Option Value} {news news' : List (Addr × Obj)} {x y : PySem.Str} {t u : Tok}
theorem split_own {Q : Value → Shared → Prop} (F : Fr h₀ L s.heap m) (N : News h₀ L s.heap news) (hy : (y.length == 0) = false) (hk : Builtin.Str.strKind y = 1) (hc : (occurrences x y 0 x.length 1).isEmpty = false)
    (h : ∀ a ta mid z tz h' k, Txt.split x y = a :: (mid.map (·.1) ++ [z]) → a.length ≤ x.length → z.length ≤ x.length → mid.length ≤ x.length → (∀ p ∈ mid, p.1.length ≤ x.length) → Fr h₀ L h' m →
      News h₀ L h' ((s.heap.objs.size, listOf (.str a ta :: (strValues mid ++ [.str z tz])).toArray 0) :: news) → Q (.ref s.heap.objs.size) { s with heap := h', toks := k }) (hsz : x.length + 2 ≤ sizeLine) :
    wpAny (model prog w) A (call (.builtin "str.split") [.str x t, .str y u]) Q E s := by
  refine splitN1A F N hy (fun l h' k e1 e2 e3 e4 F' N' => ?_) hsz
  obtain ⟨a, mid, z, e⟩ := split_two hc hk
  rw [e] at e1
  obtain ⟨⟨a', ta⟩, l1, rfl, rfl, e5⟩ := List.map_eq_cons_iff.mp e1
  obtain ⟨l2, l3, rfl, rfl, e6⟩ := List.map_eq_append_iff.mp e5
  obtain ⟨⟨z', tz⟩, l4, rfl, rfl, e7⟩ := List.map_eq_cons_iff.mp e6
  have : l4 = [] := List.map_eq_nil_iff.mp e7
  subst this
  have hs := split_short hc hk
  rw [e] at hs
  refine h a' ta l2 z' tz h' k e (e3 _ (by simp)) (e3 _ (by simp)) (by simpa using hs) (fun p hp => e3 _ (by simp; exact .inr (.inl ⟨_, hp⟩))) F' ?_
  simpa [strValues] using N'

theorem find4_call {i j : Int} {v v' : Tok} {Q : Value → Shared → Prop} (hq : Q (.int (find4 x y i j) s.toks) { s with toks := s.toks + 1 }) : wpAny (model prog w) A (call (.builtin "str.find") [.str x t, .str y u, .int i v, .int j v']) Q E s := by
  refine call_gives F.slot_str_find (typeIs_str _ _ _) F.entry_str_find (F.args_str_find_4 _ _ _ _) (m := .int (find4 x y i j)) ?_ hq
  show Gives (match occurrences x y (fromIndex x.length i) (min (fromIndex x.length j) x.length) 1 with | k :: _ => retInt k | [] => (do rule "str.find.not-found"; retInt (-1))) _
  unfold find4
  cases occurrences x y (fromIndex x.length i) (min (fromIndex x.length j) x.length) 1 with
  | nil => exact .rule (.of_eq rfl)
  | cons k _ => exact .of_eq rfl

theorem truthy_own {Q : Bool → Shared → Prop} (hx : x.length ≤ 1000000) (h : ∀ k, (x.length = 0 → Q false { s with toks := k }) ∧ (x.length ≠ 0 → Q true { s with toks := k })) : wpAny (model prog w) A (truthy (.str x t)) Q E s := by
  refine P.truthy_str (by omega) ?_
  by_cases e : x.length = 0
  · have := (h (s.toks + 1 + 1)).1 e
    rw [e]; simpa using this
  · have := (h (s.toks + 1 + 1)).2 e
    have e' : ((x.length : Int) != 0) = true := by simp; omega
    rw [e']; exact this

theorem len_two {v z : Value} {vs : List Value} {n : Nat} {Q : Value → Shared → Prop} (N : News h₀ L s.heap news) (hm : (D, listOf (v :: (vs ++ [z])).toArray n) ∈ news) (hsz : vs.length < 1000000)
    (h : Q (.int ((vs.length : Int) + 2) (s.toks + 1)) { s with toks := s.toks + 1 + 1 }) : wpAny (model prog w) A (call (.builtin "len") [.ref D]) Q E s :=
  kst_len (k := vs.length + 2) N hm (by simp) (by omega) (by simpa using h)
theorem item_first {value slice : PySem.Expr} {v : Value} {vs : List Value} {n : Nat} {k : Tok} {Q : Value → Shared → Prop} (N : News h₀ L s.heap news) (hm : (D, listOf (v :: vs).toArray n) ∈ news) (h : Q v s)
    (hs : subscripted slice false (.ref D) (.int 0 k) = operate [.ref D, .int 0 k] (getItem (.ref D) (.int 0 k))) :
    wpAny (model prog w) A (subscriptTail value slice (.ref D) (.int 0 k)) Q E s := by
  have hl : s.heap.IsList D (v :: vs).toArray := ⟨_, (N _ hm).1, rfl, n, rfl⟩
  exact tail_any hl.typeIs F.slot_list_getitem.lookup (wpAny_getItem_list hl (by decide) (by decide) (by simp) h) hs
theorem item_last {value slice : PySem.Expr} {v : Value} {vs : List Value} {n : Nat} {k : Tok} {Q : Value → Shared → Prop} (N : News h₀ L s.heap news) (hm : (D, listOf (vs ++ [v]).toArray n) ∈ news) (hsz : vs.length < 1000000) (h : Q v s)
    (hs : subscripted slice false (.ref D) (.int (-1) k) = operate [.ref D, .int (-1) k] (getItem (.ref D) (.int (-1) k))) :
    wpAny (model prog w) A (subscriptTail value slice (.ref D) (.int (-1) k)) Q E s := by
  have hl : s.heap.IsList D (vs ++ [v]).toArray := ⟨_, (N _ hm).1, rfl, n, rfl⟩
  refine tail_any hl.typeIs F.slot_list_getitem.lookup (wpAny_getItem_list_neg hl (by decide) (by simp; omega) (by decide) ?_ h) hs
  simp
  have : (-1 + ((vs.length : Int) + 1)).toNat = vs.length := by omega
  rw [this]; simp
theorem del_first {v : Value} {vs : List Value} {n : Nat} {k : Tok} {Q : Unit → Shared → Prop} (F : Fr h₀ L s.heap m) (N : News h₀ L s.heap news) (U : Upd D (listOf (v :: vs).toArray n) (listOf vs.toArray (n + 1)) news news') (hsz : vs.length < 1000000)
    (h : ∀ h', Fr h₀ L h' m → News h₀ L h' news' → Q () { s with heap := h' }) : wpAny (model prog w) A (delItem (.ref D) (.int 0 k)) Q E s := by
  obtain ⟨pre, post, rfl, rfl, a, b⟩ := U.split
  have z := N (D, listOf (v :: vs).toArray n) (by simp)
  refine delItem_at (its := (v :: vs).toArray) (n := n) (k := 0) z.1 (by decide) (by simp [seqIndex?]) (fun h' hs ho' => h h' (F.change hs z.2.1 z.2.2) (N.setAt a b hs (by simpa using ho'))) (by simp [sizeLine]; omega)
theorem del_last {v : Value} {vs : List Value} {n : Nat} {k : Tok} {Q : Unit → Shared → Prop} (F : Fr h₀ L s.heap m) (N : News h₀ L s.heap news) (U : Upd D (listOf (vs ++ [v]).toArray n) (listOf vs.toArray (n + 1)) news news') (hsz : vs.length < 1000000)
    (h : ∀ h', Fr h₀ L h' m → News h₀ L h' news' → Q () { s with heap := h' }) : wpAny (model prog w) A (delItem (.ref D) (.int (-1) k)) Q E s := by
  obtain ⟨pre, post, rfl, rfl, a, b⟩ := U.split
  have z := N (D, listOf (vs ++ [v]).toArray n) (by simp)
  refine delItem_at (its := (vs ++ [v]).toArray) (n := n) (k := vs.length) z.1 (by decide) ?_ (fun h' hs ho' => h h' (F.change hs z.2.1 z.2.2) (N.setAt a b hs ?_)) (by simp [sizeLine]; omega)
  · have e1 : (vs ++ [v]).toArray.size = vs.length + 1 := by simp
    unfold seqIndex?
    rw [e1]
    have e2 : (if (-1 : Int) < 0 then -1 + ((vs.length + 1 : Nat) : Int) else -1) = (vs.length : Int) := by rw [if_pos (by decide)]; omega
    simp only [e2]
    rw [if_pos (by simp; omega)]
    simp
  · have e : (vs ++ [v]).eraseIdx vs.length = vs := by
      rw [List.eraseIdx_append_of_length_le (by omega)]; simp
    rw [← e]; simpa using ho'
theorem item_lastC {value slice : PySem.Expr} {a v : Value} {vs : List Value} {n : Nat} {k : Tok} {Q : Value → Shared → Prop} (N : News h₀ L s.heap news) (hm : (D, listOf (a :: (vs ++ [v])).toArray n) ∈ news) (hsz : vs.length < 1000000 - 1) (h : Q v s)
    (hs : subscripted slice false (.ref D) (.int (-1) k) = operate [.ref D, .int (-1) k] (getItem (.ref D) (.int (-1) k))) :
    wpAny (model prog w) A (subscriptTail value slice (.ref D) (.int (-1) k)) Q E s :=
  item_last (vs := a :: vs) N hm (by simp; omega) h hs
theorem del_lastC {a v : Value} {vs : List Value} {n : Nat} {k : Tok} {Q : Unit → Shared → Prop} (F : Fr h₀ L s.heap m) (N : News h₀ L s.heap news) (U : Upd D (listOf (a :: (vs ++ [v])).toArray n) (listOf (a :: vs).toArray (n + 1)) news news') (hsz : vs.length < 1000000 - 1)
    (h : ∀ h', Fr h₀ L h' m → News h₀ L h' news' → Q () { s with heap := h' }) : wpAny (model prog w) A (delItem (.ref D) (.int (-1) k)) Q E s :=
  del_last (vs := a :: vs) F N U (by simp; omega) h
theorem for_ell {env : Env} {xn : PySem.Str} {body : List Stmt} {Q : Flow → Shared → Prop} {want got : PySem.Str} {ep sp : Int} {ls : List (PySem.Str × Tok)} {vs' : List Value} {nn : Nat} {m₀ : PySem.Str → Option Value} {tk : Tok}
    (hG : ellM want got = ellLoop got ep (ls.map (·.1)) sp) (hh : A.handled = none) (hm : (D, listOf vs'.toArray nn) ∈ news) (e : vs' = strValues ls) (F : Fr h₀ env.locals s.heap m₀) (N : News h₀ env.locals s.heap news)
    (hk : ∀ p ∈ [(Str.ofString "startpos", Value.int sp tk)], m₀ p.1 = some p.2)
    (turn : ∀ i (c : Int × Tok) (q : PySem.Str × Tok) (u : PySem.Str → Option Value) h tk own, ls[i]? = some q → EJ want got ep ls i c →
      Fr h₀ env.locals h (fun y => if y = xn then some (.str q.1 q.2) else kstB (fun z => if ([] : List PySem.Str).contains z then u z else m₀ z) [(Str.ofString "startpos", Value.int c.1 c.2)] y) → News h₀ env.locals h ([] ++ ([] ++ own)) →
      wpAny (model prog w) A (execs body env) (InvPostN h₀ env.locals (MS (fun _ => []) (fun c => [(Str.ofString "startpos", Value.int c.1 c.2)]) xn [] m₀ (EJ want got ep ls (i + 1))) ([] ++ own) (([] : List (Addr × Obj)).map (·.1)) { s with heap := h, toks := tk } Q) E { s with heap := h, toks := tk })
    (done : ∀ (c : Int × Tok) (u : PySem.Str → Option Value) h tk, Value.bool true = Value.bool (ellM want got) → Fr h₀ env.locals h (fun y => if y = xn then u y else kstB (fun z => if ([] : List PySem.Str).contains z then u z else m₀ z) [(Str.ofString "startpos", Value.int c.1 c.2)] y) → News h₀ env.locals h [] → Q .next { s with heap := h, toks := tk }) :
    wpAny (model prog w) A (pyIter (.ref D)) (fun it s₂ => LoopAtV prog w A h₀ env xn body Q E it s₂) E s :=
  for_listN (σ := Int × Tok) (vs := strValues ls) [] (fun _ => []) (fun c => [(Str.ofString "startpos", Value.int c.1 c.2)]) [] (EJ want got ep ls) (sp, tk) hh hm e (by simp) F N (by simp) hk (EJ.start hG)
    (fun i c v u h tk own hv _ hJ F1 N1 => by
      obtain ⟨q, hq, rfl⟩ := strValues_get hv
      exact turn i c q u h tk own hq hJ F1 N1)
    (fun c u h tk hJ F1 N1 => done c u h tk hJ.done F1 N1)
end
end Mine
namespace Mine
open PySem PySem.W PySem.Spec PySem.Calls PyProof.Rows
open Builtin Builtin.Str StrLaws

def ofL (l : List Nat) : PySem.Str := ⟨l.toArray⟩
theorem ofL_list (l : List Nat) : (ofL l).cps.toList = l := rfl
theorem ofL_of (x : PySem.Str) : ofL x.cps.toList = x := by cases x; simp [ofL]
theorem str_inj {x y : PySem.Str} (h : x.cps.toList = y.cps.toList) : x = y := by rw [← ofL_of x, ← ofL_of y, h]
theorem len_list (x : PySem.Str) : x.cps.toList.length = x.length := by simp [PySem.Str.length]
theorem chainG_same {s sub : PySem.Str} {hi : Nat} : ∀ {a : Nat} {l l' : List Nat} {f f' : Nat}, ChainG s sub hi a l f → (∀ k, f ≤ k → ¬ At s sub hi k) → ChainG s sub hi a l' f' → (∀ k, f' ≤ k → ¬ At s sub hi k) → l = l'
  | a, [], [], f, f', _, _, _, _ => rfl
  | a, [], c :: r, f, f', h, hn, h', _ => by
    have e : f = a := h
    subst e
    exact absurd h'.2.1 (hn c h'.1)
  | a, c :: r, [], f, f', h, _, h', hn' => by
    have e : f' = a := h'
    subst e
    exact absurd h.2.1 (hn' c h.1)
  | a, c :: r, c' :: r', f, f', h, hn, h', hn' => by
    have e : c = c' := by
      rcases Nat.lt_trichotomy c c' with q | q | q
      · exact absurd h.2.1 (h'.2.2.1 c h.1 q)
      · exact q
      · exact absurd h'.2.1 (h.2.2.1 c' h'.1 q)
    subst e
    rw [chainG_same h.2.2.2 hn h'.2.2.2 hn']
/-- pieces, a mark between them -/
def flat (y : List Nat) : List (List Nat) → List Nat
  | [] => []
  | [p] => p
  | p :: q :: r => p ++ y ++ flat y (q :: r)
def cutsOf (w : Nat) : Nat → List (List Nat) → List Nat
  | _, [] => []
  | _, [_] => []
  | a, p :: q :: r => (a + p.length) :: cutsOf w (a + p.length + w) (q :: r)
def lastOf (w : Nat) : Nat → List (List Nat) → Nat
  | a, [] => a
  | a, [_] => a
  | a, p :: q :: r => lastOf w (a + p.length + w) (q :: r)
theorem at_iff {x y : PySem.Str} {k : Nat} : At x y x.length k ↔ (x.cps.toList.drop k).take y.length = y.cps.toList ∧ k + y.length ≤ x.length := by
  unfold At
  rw [subAt_eq]
  simp [and_comm]
theorem not_at {x y : PySem.Str} {k c : Nat} {y' : List Nat} (hy : y.cps.toList = c :: y') (h : x.cps.toList[k]? ≠ some c) : ¬ At x y x.length k := by
  rw [at_iff, hy]
  rintro ⟨h1, _⟩
  have hl : y.length = y'.length + 1 := by rw [← len_list, hy]; simp
  rw [hl] at h1
  cases e : x.cps.toList.drop k with
  | nil => rw [e] at h1; cases h1
  | cons d r =>
    rw [e] at h1
    simp only [List.take_succ_cons, List.cons.injEq] at h1
    apply h
    have := congrArg List.head? e
    rw [List.head?_drop] at this
    rw [this, List.head?_cons, h1.1]
theorem chain_flat {x y : PySem.Str} {c : Nat} {y' : List Nat} (hy : y.cps.toList = c :: y') : ∀ (ps : List (List Nat)) (a : Nat), (∀ p ∈ ps, c ∉ p) → ps ≠ [] → x.cps.toList.drop a = flat y.cps.toList ps →
    ChainG x y x.length a (cutsOf y.length a ps) (lastOf y.length a ps) ∧ (∀ k, lastOf y.length a ps ≤ k → ¬ At x y x.length k) ∧ (a ≤ x.length → partsFrom x y.length a (cutsOf y.length a ps) = ps.map ofL)
  | [], a, _, h, _ => absurd rfl h
  | [p], a, hf, _, hd => by
    have hd' : x.cps.toList.drop a = p := hd
    refine ⟨rfl, fun k hk => not_at hy ?_, fun ha => ?_⟩
    · intro h
      have hk' : a ≤ k := hk
      have : (x.cps.toList.drop a)[k - a]? = some c := by rw [List.getElem?_drop]; have : a + (k - a) = k := by omega
                                                          rw [this]; exact h
      rw [hd'] at this
      exact hf p (by simp) (List.mem_of_getElem? this)
    · show [strSub x a x.length] = [ofL p]
      congr 1
      apply str_inj
      rw [strSub_toList, ofL_list, hd']
      have := congrArg List.length hd'
      rw [List.length_drop, len_list] at this
      exact List.take_of_length_le (by omega)
  | p :: q :: r, a, hf, _, hd => by
    have hd' : x.cps.toList.drop a = p ++ (y.cps.toList ++ flat y.cps.toList (q :: r)) := by rw [hd]; show p ++ y.cps.toList ++ _ = _; rw [List.append_assoc]
    have hlen : x.length - a = p.length + (y.length + (flat y.cps.toList (q :: r)).length) := by
      have := congrArg List.length hd'
      rw [List.length_drop, len_list, List.length_append, List.length_append, len_list] at this
      exact this
    have hyl : y.length = y'.length + 1 := by rw [← len_list, hy]; simp
    have h1 : x.cps.toList.drop (a + p.length) = y.cps.toList ++ flat y.cps.toList (q :: r) := by
      rw [← List.drop_drop, hd', List.drop_left]
    have h2 : x.cps.toList.drop (a + p.length + y.length) = flat y.cps.toList (q :: r) := by
      rw [← List.drop_drop, h1, ← len_list y, List.drop_left]
    obtain ⟨i1, i2, i3⟩ := chain_flat hy (q :: r) (a + p.length + y.length) (fun z hz => hf z (List.mem_cons_of_mem _ hz)) (by simp) h2
    refine ⟨⟨by omega, ?_, ?_, i1⟩, i2, fun ha => ?_⟩
    · rw [at_iff, h1, ← len_list y, List.take_left]
      exact ⟨rfl, by rw [len_list]; omega⟩
    · intro k hk1 hk2
      refine not_at hy fun h => ?_
      have : (x.cps.toList.drop a)[k - a]? = some c := by rw [List.getElem?_drop]; have : a + (k - a) = k := by omega
                                                          rw [this]; exact h
      rw [hd', List.getElem?_append_left (by omega)] at this
      exact hf p (by simp) (List.mem_of_getElem? this)
    · show strSub x a (a + p.length) :: partsFrom x y.length (a + p.length + y.length) _ = ofL p :: (q :: r).map ofL
      rw [i3 (by omega)]
      congr 1
      apply str_inj
      rw [strSub_toList, ofL_list, hd']
      have : a + p.length - a = p.length := by omega
      rw [this, List.take_left]
theorem kind_small {x : PySem.Str} (h : ∀ c ∈ x.cps.toList, c < 256) : Builtin.Str.strKind x = 1 := by
  unfold Builtin.Str.strKind
  rw [if_pos]
  rw [← Array.all_toList, List.all_eq_true]
  exact fun c hc => decide_eq_true (h c hc)
/-- a text that is cut at its marks -/
theorem split_flat {x y : PySem.Str} {c : Nat} {y' : List Nat} {p q : List Nat} {r : List (List Nat)} (hy : y.cps.toList = c :: y') (hk : Builtin.Str.strKind y = 1) (hf : ∀ z ∈ p :: q :: r, c ∉ z) (hx : x.cps.toList = flat y.cps.toList (p :: q :: r)) :
    Txt.split x y = (p :: q :: r).map ofL ∧ (occurrences x y 0 x.length 1).isEmpty = false := by
  have hyl : y.length = y'.length + 1 := by rw [← len_list, hy]; simp
  obtain ⟨f, hG, hn⟩ := occ_tight x y (by omega)
  obtain ⟨i1, i2, i3⟩ := chain_flat hy (p :: q :: r) 0 hf (by simp) (by rw [List.drop_zero]; exact hx)
  have e := chainG_same hG hn i1 i2
  have h1 : (occurrences x y 0 x.length 1).isEmpty = false := by
    rw [← Mine.occ_none (l := x.length + 1) (by omega) (by omega), e]
    rfl
  refine ⟨?_, h1⟩
  rw [split_cut h1 hk, partsBetween_eq, e]
  exact i3 (Nat.zero_le _)
end Mine
namespace Mine
open PySem PySem.W PySem.Spec PySem.Calls PyProof.Rows
open Builtin Builtin.Str StrLaws

/-- the pieces stand in l, one behind the other -/
inductive Has : List (List Nat) → List Nat → Prop
  | nil {l : List Nat} : Has [] l
  | cons {u v r : List Nat} {vs : List (List Nat)} : Has vs r → Has (v :: vs) (u ++ (v ++ r))
theorem Has.weak {vs : List (List Nat)} {r : List Nat} (h : Has vs r) (u : List Nat) : Has vs (u ++ r) := by
  cases h with
  | nil => exact .nil
  | @cons u' v r' vs' h' =>
    rw [← List.append_assoc]
    exact .cons h'
theorem Has.inv {v : List Nat} {vs : List (List Nat)} {l : List Nat} (h : Has (v :: vs) l) : ∃ u r, l = u ++ (v ++ r) ∧ Has vs r := by
  cases h with
  | cons h' => exact ⟨_, _, rfl, h'⟩
theorem Has.empty {vs : List (List Nat)} {l : List Nat} : Has ([] :: vs) l ↔ Has vs l := by
  constructor
  · intro h
    obtain ⟨u, r, rfl, h2⟩ := h.inv
    exact h2.weak u
  · intro h
    exact Has.cons (u := []) (v := []) h
theorem Has.last {l : List Nat} : ∀ {vs : List (List Nat)}, Has (vs ++ [[]]) l ↔ Has vs l := by
  intro vs
  induction vs generalizing l with
  | nil => exact Has.empty
  | cons v vs ih =>
    constructor
    · intro h
      obtain ⟨u, r, rfl, h2⟩ := Has.inv h
      exact .cons (ih.mp h2)
    · intro h
      obtain ⟨u, r, rfl, h2⟩ := Has.inv h
      exact .cons (ih.mpr h2)
theorem occ_head_hi (x y : PySem.Str) (lo hi limit : Nat) (hl : 1 ≤ limit) :
    (occurrences x y lo hi limit = [] ∧ ∀ i, lo ≤ i → ¬ At x y hi i) ∨
    ∃ i r, occurrences x y lo hi limit = i :: r ∧ lo ≤ i ∧ At x y hi i ∧ ∀ k, lo ≤ k → k < i → ¬ At x y hi k := by
  rw [occ_eq]
  rcases occ_first x y hi limit hl (List.range' lo (hi + 1 - lo)) lo (fun i hi => by have := List.mem_range'_1.mp hi; omega) with ⟨h0, hn⟩ | ⟨pre, a, post, e, h0, ha, hn⟩
  · refine .inl ⟨by rw [h0], fun i hlo hi => ?_⟩
    exact hn i (by have := hi.1; rw [List.mem_range'_1]; omega) hi
  · have hs := range'_split_from e
    refine .inr ⟨a, ((forIn (List.range' lo (hi + 1 - lo)) ((#[] : Array Nat), lo) (occBody x y hi limit)).run.fst.toList).tail, ?_, hs.1, ha, fun k hk0 hk => hn k (hs.2 k hk0 hk)⟩
    generalize (forIn (List.range' lo (hi + 1 - lo)) ((#[] : Array Nat), lo) (occBody x y hi limit)).run.fst = arr at h0
    have h1 : arr.toList[0]? = some a := by simpa using h0
    cases hL : arr.toList with
    | nil => rw [hL] at h1; cases h1
    | cons b t => rw [hL] at h1; simp at h1; rw [h1]; rfl
theorem fromIndex_nat (n k : Nat) : fromIndex n (k : Int) = k := by
  unfold fromIndex
  rw [if_neg (by omega)]
  omega
theorem find4_spec (x y : PySem.Str) (sp ep : Nat) (hep : ep ≤ x.length) :
    (find4 x y sp ep = -1 ∧ ∀ k, sp ≤ k → ¬ At x y ep k) ∨ ∃ k : Nat, find4 x y sp ep = k ∧ sp ≤ k ∧ At x y ep k ∧ ∀ j, sp ≤ j → j < k → ¬ At x y ep j := by
  unfold find4
  rw [fromIndex_nat, fromIndex_nat, Nat.min_eq_left hep]
  rcases occ_head_hi x y sp ep 1 (Nat.le_refl _) with ⟨e, h⟩ | ⟨i, r, e, h1, h2, h3⟩
  · rw [e]; exact .inl ⟨rfl, h⟩
  · rw [e]; exact .inr ⟨i, rfl, h1, h2, h3⟩
theorem at_win {x y : PySem.Str} {ep k : Nat} (hep : ep ≤ x.length) : At x y ep k ↔ k ≤ ep ∧ ∃ r, (x.cps.toList.take ep).drop k = y.cps.toList ++ r := by
  unfold At
  rw [subAt_eq]
  have hl : x.cps.toList.length = x.length := len_list x
  have hy : y.cps.toList.length = y.length := len_list y
  constructor
  · rintro ⟨h1, h2⟩
    refine ⟨by omega, (x.cps.toList.take ep).drop (k + y.length), ?_⟩
    have h3 := eq_of_beq h2
    rw [List.drop_take]
    have e1 : (x.cps.toList.drop k).take (ep - k) = ((x.cps.toList.drop k).take y.length) ++ ((x.cps.toList.drop k).drop y.length).take (ep - k - y.length) := by
      have : ep - k = y.length + (ep - k - y.length) := by omega
      conv => lhs; rw [this]
      rw [List.take_add]
    rw [e1, h3, List.drop_take, List.drop_drop]
    congr 2
    omega
  · rintro ⟨h1, r, h2⟩
    have h3 := congrArg List.length h2
    rw [List.length_drop, List.length_take, List.length_append, hl, hy] at h3
    refine ⟨by omega, ?_⟩
    rw [beq_iff_eq]
    have e2 : (x.cps.toList.drop k).take y.length = ((x.cps.toList.take ep).drop k).take y.length := by
      rw [List.drop_take, List.take_take]
      congr 1
      omega
    rw [e2, h2, ← hy, List.take_left]
theorem ellLoop_iff {x : PySem.Str} {ep : Nat} (hep : ep ≤ x.length) : ∀ (vs : List PySem.Str) (sp : Nat), sp ≤ ep → (ellLoop x (ep : Int) vs (sp : Int) = true ↔ Has (vs.map fun v => v.cps.toList) ((x.cps.toList.take ep).drop sp))
  | [], sp, _ => ⟨fun _ => .nil, fun _ => rfl⟩
  | v :: vs, sp, hs => by
    have hx : x.cps.toList.length = x.length := len_list x
    have hv : v.cps.toList.length = v.length := len_list v
    show (if find4 x v sp ep < 0 then false else ellLoop x ep vs (find4 x v sp ep + v.length)) = true ↔ Has (v.cps.toList :: vs.map fun v => v.cps.toList) _
    rcases find4_spec x v sp ep hep with ⟨e, h⟩ | ⟨k, e, h1, h2, h3⟩
    · rw [e, if_pos (by decide)]
      constructor
      · intro q; cases q
      · intro q
        obtain ⟨u, r, e1, _⟩ := q.inv
        refine absurd ((at_win hep).mpr ⟨?_, r, ?_⟩) (h (sp + u.length) (by omega))
        · have := congrArg List.length e1
          simp only [List.length_drop, List.length_take, List.length_append] at this
          omega
        · rw [← List.drop_drop, e1, List.drop_left]
    · rw [e, if_neg (by omega)]
      obtain ⟨h4, r, h5⟩ := (at_win hep).mp h2
      have h6 : k + v.length ≤ ep := h2.1
      have e2 : (k : Int) + (v.length : Int) = ((k + v.length : Nat) : Int) := by omega
      rw [e2, ellLoop_iff hep vs (k + v.length) h6]
      have e3 : (x.cps.toList.take ep).drop (k + v.length) = r := by rw [← List.drop_drop, h5, ← hv, List.drop_left]
      rw [e3]
      have e4 : (x.cps.toList.take ep).drop sp = ((x.cps.toList.take ep).drop sp).take (k - sp) ++ (v.cps.toList ++ r) := by
        have : (x.cps.toList.take ep).drop k = ((x.cps.toList.take ep).drop sp).drop (k - sp) := by rw [List.drop_drop]; congr 1; omega
        rw [← h5, this, List.take_append_drop]
      constructor
      · intro q
        rw [e4]
        exact .cons q
      · intro q
        obtain ⟨u, r', e5, q'⟩ := q.inv
        have h7 : k ≤ sp + u.length := by
          rcases Nat.lt_or_ge (sp + u.length) k with c | c
          · refine absurd ((at_win hep).mpr ⟨by omega, r', ?_⟩) (h3 (sp + u.length) (by omega) c)
            rw [← List.drop_drop, e5, List.drop_left]
          · exact c
        have e6 : r = (r.take (sp + u.length - k)) ++ r' := by
          have e7 : r' = r.drop (sp + u.length - k) := by
            have a1 : ((x.cps.toList.take ep).drop sp).drop (u.length + v.length) = r' := by rw [e5, ← List.append_assoc, ← hv, ← List.length_append, List.drop_left]
            rw [← a1, ← e3, List.drop_drop, List.drop_drop]
            congr 1
            omega
          rw [e7, List.take_append_drop]
        rw [e6]
        exact q'.weak _
theorem starts_iff {x y : PySem.Str} : Txt.startswith x y = true ↔ ∃ r, x.cps.toList = y.cps.toList ++ r := by
  unfold Txt.startswith
  rw [Bool.and_eq_true, decide_eq_true_eq, subAt_eq, beq_iff_eq, List.drop_zero]
  have hx := len_list x
  have hy := len_list y
  constructor
  · rintro ⟨_, h⟩
    exact ⟨x.cps.toList.drop y.length, by rw [← h]; exact (List.take_append_drop _ _).symm⟩
  · rintro ⟨r, h⟩
    refine ⟨?_, by rw [h, ← hy, List.take_left]⟩
    have := congrArg List.length h
    rw [List.length_append] at this
    omega
theorem ends_iff {x y : PySem.Str} : Txt.endswith x y = true ↔ ∃ r, x.cps.toList = r ++ y.cps.toList := by
  unfold Txt.endswith
  rw [Bool.and_eq_true, decide_eq_true_eq, subAt_eq, beq_iff_eq]
  have hx := len_list x
  have hy := len_list y
  constructor
  · rintro ⟨h0, h⟩
    refine ⟨x.cps.toList.take (x.length - y.length), ?_⟩
    rw [List.take_of_length_le (by rw [List.length_drop]; omega)] at h
    rw [← h]
    exact (List.take_append_drop _ _).symm
  · rintro ⟨r, h⟩
    have h1 := congrArg List.length h
    rw [List.length_append] at h1
    refine ⟨by omega, ?_⟩
    have : x.length - y.length = r.length := by omega
    rw [this, h, List.drop_left]
    exact List.take_of_length_le (by omega)
theorem ellEnd_iff {x : PySem.Str} {sp ep : Nat} {ws : List PySem.Str} (hep : ep ≤ x.length) : ellEnd x sp ep ws = true ↔ sp ≤ ep ∧ Has (ws.map fun v => v.cps.toList) ((x.cps.toList.take ep).drop sp) := by
  unfold ellEnd
  by_cases h : sp ≤ ep
  · rw [if_neg (by omega), ellLoop_iff hep ws sp h]
    simp [h]
  · rw [if_pos (by omega)]
    simp [h]
theorem nil_of_len {y : PySem.Str} (h : y.length = 0) : y.cps.toList = [] := List.length_eq_zero_iff.mp (by rw [len_list]; exact h)
theorem ellLast_iff {x z : PySem.Str} {sp : Nat} {ws : List PySem.Str} (hsp : sp ≤ x.length) : ellLast x sp ws z = true ↔ ∃ m, x.cps.toList.drop sp = m ++ z.cps.toList ∧ Has (ws.map fun v => v.cps.toList) m := by
  have hx := len_list x
  have hz := len_list z
  unfold ellLast
  by_cases h : z.length = 0
  · rw [if_pos h, ellEnd_iff (Nat.le_refl _), List.map_append, List.map_cons, List.map_nil, nil_of_len h, Has.last, ← hx, List.take_length]
    simp only [List.append_nil]
    constructor
    · rintro ⟨_, h2⟩
      exact ⟨_, rfl, h2⟩
    · rintro ⟨m, e, h2⟩
      exact ⟨by omega, e ▸ h2⟩
  · rw [if_neg h]
    by_cases he : Txt.endswith x z = true
    · rw [if_pos he]
      obtain ⟨r, hr⟩ := ends_iff.mp he
      have h1 := congrArg List.length hr
      rw [List.length_append] at h1
      have e1 : (x.length : Int) - (z.length : Int) = ((r.length : Nat) : Int) := by omega
      rw [e1, ellEnd_iff (by omega)]
      have e2 : x.cps.toList.take r.length = r := by rw [hr, List.take_left]
      rw [e2]
      constructor
      · rintro ⟨h2, h3⟩
        refine ⟨_, ?_, h3⟩
        rw [hr, List.drop_append_of_le_length h2]
      · rintro ⟨m, e, h3⟩
        have h4 := congrArg List.length e
        rw [List.length_append, List.length_drop] at h4
        have h2 : sp ≤ r.length := by omega
        refine ⟨h2, ?_⟩
        rw [hr, List.drop_append_of_le_length h2] at e
        rw [(List.append_inj_left' e rfl)]
        exact h3
    · rw [if_neg he]
      constructor
      · intro q; cases q
      · rintro ⟨m, e, _⟩
        refine absurd (ends_iff.mpr ⟨x.cps.toList.take sp ++ m, ?_⟩) he
        rw [List.append_assoc, ← e, List.take_append_drop]
theorem ellDots_iff {x a z : PySem.Str} {mid : List PySem.Str} : ellDots x a mid z = true ↔ ∃ m, x.cps.toList = a.cps.toList ++ (m ++ z.cps.toList) ∧ Has (mid.map fun v => v.cps.toList) m := by
  have hx := len_list x
  have ha := len_list a
  unfold ellDots
  by_cases h : a.length = 0
  · rw [if_pos h]
    have := ellLast_iff (x := x) (z := z) (sp := 0) (ws := a :: mid) (Nat.zero_le _)
    rw [show ((0 : Nat) : Int) = 0 from rfl] at this
    rw [this, List.map_cons, nil_of_len h, List.drop_zero]
    simp only [List.nil_append, Has.empty]
  · rw [if_neg h]
    by_cases hs : Txt.startswith x a = true
    · rw [if_pos hs]
      obtain ⟨r, hr⟩ := starts_iff.mp hs
      have h1 := congrArg List.length hr
      rw [List.length_append] at h1
      rw [ellLast_iff (by omega)]
      have e : x.cps.toList.drop a.length = r := by rw [hr, ← ha, List.drop_left]
      rw [e]
      constructor
      · rintro ⟨m, e1, h2⟩
        exact ⟨m, by rw [hr, e1], h2⟩
      · rintro ⟨m, e1, h2⟩
        rw [hr] at e1
        exact ⟨m, List.append_cancel_left e1, h2⟩
    · rw [if_neg hs]
      constructor
      · intro q; cases q
      · rintro ⟨m, e, _⟩
        exact absurd (starts_iff.mpr ⟨_, e⟩) hs
theorem dots_list : dots.cps.toList = 46 :: [46, 46] := by decide +kernel
/-- the match of a text with marks -/
theorem ell_iff {x y : PySem.Str} {a z : List Nat} {mid : List (List Nat)} (hx : x.cps.toList = flat [46, 46, 46] (a :: (mid ++ [z]))) (hf : ∀ p ∈ a :: (mid ++ [z]), 46 ∉ p) :
    ellM x y = true ↔ ∃ m, y.cps.toList = a ++ (m ++ z) ∧ Has mid m := by
  have hk : Builtin.Str.strKind dots = 1 := by decide +kernel
  obtain ⟨p, q, r, e⟩ : ∃ p q r, a :: (mid ++ [z]) = p :: q :: r := by
    cases mid with
    | nil => exact ⟨_, _, _, rfl⟩
    | cons b c => exact ⟨_, _, _, rfl⟩
  rw [e] at hx hf
  obtain ⟨h1, h2⟩ := split_flat (x := x) (y := dots) dots_list hk hf (by rw [dots_list]; exact hx)
  rw [← e, List.map_cons, List.map_append, List.map_cons, List.map_nil] at h1
  rw [ellM_of h2 h1, ellDots_iff, List.map_map]
  have : ((fun v : PySem.Str => v.cps.toList) ∘ ofL) = _root_.id := by funext l; rfl
  rw [this, List.map_id]
  exact Iff.rfl
end Mine
namespace Mine
open PySem PySem.W PySem.Spec PySem.Calls PyProof.Rows
open Builtin Builtin.Str StrLaws

theorem slice_to {x : PySem.Str} {k : Int} (h0 : 0 ≤ k) (h1 : k ≤ x.length) : (Txt.slice x none (some k)).cps.toList = x.cps.toList.take k.toNat := by
  have := sliceText_to (x := x) (j := k) ⟨h0, by rw [len_list]; exact h1⟩
  show (sliceText x none (some k)).cps.toList = _
  rw [this]
  simp
theorem slice_from {x : PySem.Str} {k : Int} (h0 : 0 ≤ k) (h1 : k ≤ x.length) : (Txt.slice x (some k) none).cps.toList = x.cps.toList.drop k.toNat := by
  have := sliceText_from (x := x) (i := k) ⟨h0, by rw [len_list]; exact h1⟩
  show (sliceText x (some k) none).cps.toList = _
  rw [this]
  show (x.cps.toList.drop k.toNat).take _ = _
  exact List.take_of_length_le (by rw [List.length_drop]; omega)
theorem slice_mid {x : PySem.Str} {i j : Int} (h0 : 0 ≤ i) (h1 : i ≤ j) (h2 : j ≤ x.length) : (Txt.slice x (some i) (some j)).cps.toList = (x.cps.toList.drop i.toNat).take (j - i).toNat := by
  have := sliceText_plain (x := x) (i := i) (j := j) ⟨h0, h1, by rw [len_list]; exact h2⟩
  show (sliceText x (some i) (some j)).cps.toList = _
  rw [this]
end Mine
namespace Mine
open PySem PySem.W PySem.Spec PySem.Calls PyProof.Rows

end Mine
namespace Mine
open PySem PySem.W PySem.Spec PySem.Calls PyProof.Rows

end Mine
namespace Mine
open PySem PySem.W PySem.Spec PySem.Calls PyProof.Rows
open Builtin Builtin.Str

/-- what parse257 reads behind the opening mark -/
def undblF : Nat → List Nat → List Nat
  | 0, _ => []
  | _ + 1, [] => []
  | k + 1, c :: r => if c = 34 then (match r with
      | [] => []
      | d :: r' => if d = 34 then 34 :: undblF k r' else []) else c :: undblF k r
def undbl (l : List Nat) : List Nat := undblF l.length l
theorem undblF_more : ∀ (k j : Nat) (l : List Nat), l.length ≤ k → l.length ≤ j → undblF k l = undblF j l
  | 0, j, l, h, _ => by
    have : l = [] := List.length_eq_zero_iff.mp (by omega)
    subst this
    cases j <;> rfl
  | k + 1, 0, l, _, h => by
    have : l = [] := List.length_eq_zero_iff.mp (by omega)
    subst this
    rfl
  | k + 1, j + 1, [], _, _ => rfl
  | k + 1, j + 1, c :: r, h1, h2 => by
    simp only [List.length_cons] at h1 h2
    unfold undblF
    split
    · cases r with
      | nil => rfl
      | cons d r' =>
        simp only [List.length_cons] at h1 h2
        dsimp only
        rw [undblF_more k j r' (by omega) (by omega)]
    · rw [undblF_more k j r (by omega) (by omega)]
theorem undbl_cons {c : Nat} {r : List Nat} (h : c ≠ 34) : undbl (c :: r) = c :: undbl r := by
  show undblF (r.length + 1) (c :: r) = _
  unfold undblF
  rw [if_neg h]; rfl
theorem undbl_pair {r : List Nat} : undbl (34 :: 34 :: r) = 34 :: undbl r := by
  show undblF (r.length + 1 + 1) (34 :: 34 :: r) = _
  unfold undblF
  simp only [if_true]
  rw [undblF_more (r.length + 1) r.length r (by omega) (by omega)]; rfl
theorem undbl_shut {r : List Nat} (h : r.head? ≠ some 34) : undbl (34 :: r) = [] := by
  show undblF (r.length + 1) (34 :: r) = _
  unfold undblF
  cases r with
  | nil => rfl
  | cons d r' =>
    have : d ≠ 34 := fun q => h (by rw [q]; rfl)
    simp [this]
theorem undbl_plain {l : List Nat} {i c : Nat} (h : l[i]? = some c) (hc : c ≠ 34) : undbl (l.drop i) = c :: undbl (l.drop (i + 1)) := by
  obtain ⟨hi, e⟩ := List.getElem?_eq_some_iff.mp h
  rw [List.drop_eq_getElem_cons hi, e, undbl_cons hc]
theorem undbl_two {l : List Nat} {i : Nat} (h : l[i]? = some 34) (h2 : l[i + 1]? = some 34) : undbl (l.drop i) = 34 :: undbl (l.drop (i + 2)) := by
  obtain ⟨hi, e⟩ := List.getElem?_eq_some_iff.mp h
  obtain ⟨hi2, e2⟩ := List.getElem?_eq_some_iff.mp h2
  rw [List.drop_eq_getElem_cons hi, e, List.drop_eq_getElem_cons hi2, e2, undbl_pair]
theorem undbl_end {l : List Nat} {i : Nat} (h : l[i]? = some 34) (h2 : l[i + 1]? ≠ some 34) : undbl (l.drop i) = [] := by
  obtain ⟨hi, e⟩ := List.getElem?_eq_some_iff.mp h
  rw [List.drop_eq_getElem_cons hi, e]
  refine undbl_shut ?_
  rw [List.head?_drop]
  exact h2
theorem undbl_out {l : List Nat} {i : Nat} (h : l.length ≤ i) : undbl (l.drop i) = [] := by
  rw [List.drop_of_length_le h]; rfl

section
variable {prog : Program} {w : World} {A : Around} {E : Value → Shared → Prop} {s : Shared} {x : PySem.Str} {t u : Tok} {value slice : PySem.Expr}
theorem item_sign {i : Int} {Q : Value → Shared → Prop} (h0 : 0 ≤ i) (h1 : i < x.length) (hx : x.length ≤ 1000000) (h : ∀ n, x.cps.toList[i.toNat]? = some n → Q (.str ⟨#[n]⟩ s.toks) { s with toks := s.toks + 1 })
    (hs : subscripted slice false (.str x t) (.int i u) = operate [.str x t, .int i u] (getItem (.str x t) (.int i u)) := by with_unfolding_all rfl)
    (ht : ∀ r, letTemporaryGo value (.str x t) r = pure () := by intro _; with_unfolding_all rfl) :
    wpAny (model prog w) A (subscriptTail value slice (.str x t) (.int i u)) Q E s := by
  obtain ⟨n, hn⟩ := StrLaws.some_at h0 h1
  have e : Txt.item x i = ⟨#[n]⟩ := by
    unfold Txt.item Txt.charAt
    rw [StrLaws.at_nonneg h0 hn]; rfl
  refine item_str (fitsSsize_of (N := 9223372036854775808) (by omega) (by omega) (Int.le_refl _)) (by omega) h1 (fun _ => ?_) hs ht
  rw [e]
  exact h n (by simpa using hn)
theorem item_sign_as {i : Int} {c : Nat} {Q : Value → Shared → Prop} (h0 : 0 ≤ i) (h1 : i < x.length) (hx : x.length ≤ 1000000) (hc : x.cps.toList[i.toNat]? = some c) (h : Q (.str ⟨#[c]⟩ s.toks) { s with toks := s.toks + 1 })
    (hs : subscripted slice false (.str x t) (.int i u) = operate [.str x t, .int i u] (getItem (.str x t) (.int i u)) := by with_unfolding_all rfl)
    (ht : ∀ r, letTemporaryGo value (.str x t) r = pure () := by intro _; with_unfolding_all rfl) :
    wpAny (model prog w) A (subscriptTail value slice (.str x t) (.int i u)) Q E s :=
  item_sign h0 h1 hx (fun n hn => by rw [hc] at hn; cases hn; exact h) hs ht
end
/-- between two turns of parse257's loop -/
def PJ (x : PySem.Str) (c : (Int × Tok) × (PySem.Str × Tok)) : Prop :=
  5 ≤ c.1.1 ∧ (c.2.1.length : Int) ≤ c.1.1 ∧ c.2.1.cps.toList ++ undbl (x.cps.toList.drop c.1.1.toNat) = undbl (x.cps.toList.drop 5)
theorem str_of_list {x : PySem.Str} {l : List Nat} (h : x.cps.toList = l) : x = ⟨l.toArray⟩ := by subst h; simp
theorem tn1 {a : Int} (h : 5 ≤ a) : (a + 1).toNat = a.toNat + 1 := Int.toNat_add (Int.le_trans (by decide) h) (by decide)
theorem meas1 {n : Nat} {a : Int} (h5 : 5 ≤ a) (h : a < n) : n - (a + 1).toNat < n - a.toNat := by
  rw [tn1 h5]
  exact Nat.sub_lt_sub_left ((Int.toNat_lt (Int.le_trans (by decide) h5)).2 h) (Nat.lt_succ_self _)
theorem meas2 {n : Nat} {a : Int} (h5 : 5 ≤ a) (h : a + 1 < n) : n - (a + 1 + 1).toNat < n - a.toNat :=
  Nat.lt_trans (meas1 (Int.le_trans h5 (Int.le_add_one (Int.le_refl _))) h) (meas1 h5 (Int.lt_trans (Int.lt_succ _) h))
theorem PJ.out {x : PySem.Str} {c : (Int × Tok) × (PySem.Str × Tok)} (h : PJ x c) (hn : ¬ c.1.1 < x.length) : c.2.1 = ⟨(undbl (x.cps.toList.drop 5)).toArray⟩ := by
  obtain ⟨h1, h2, h3⟩ := h
  rw [undbl_out (by simp; have : x.length = x.cps.size := rfl; omega), List.append_nil] at h3
  exact str_of_list h3
theorem PJ.shut {x : PySem.Str} {c : (Int × Tok) × (PySem.Str × Tok)} {n : Nat} (h : PJ x c) (hn : x.cps.toList[c.1.1.toNat]? = some n) (hc : n = 34) (h2 : x.cps.toList[c.1.1.toNat + 1]? ≠ some 34) : c.2.1 = ⟨(undbl (x.cps.toList.drop 5)).toArray⟩ := by
  obtain ⟨h1, _, h3⟩ := h
  rw [undbl_end (hc ▸ hn) h2, List.append_nil] at h3
  exact str_of_list h3
theorem PJ.two {x : PySem.Str} {c : (Int × Tok) × (PySem.Str × Tok)} {n : Nat} {i : Int} {t t' : Tok} (h : PJ x c) (hn : x.cps.toList[c.1.1.toNat]? = some n) (hc : n = 34) (h2 : x.cps.toList[c.1.1.toNat + 1]? = some 34) (hi : i = c.1.1 + 1 + 1) : PJ x ((i, t), (c.2.1 ++ ⟨#[n]⟩, t')) := by
  obtain ⟨h1, h4, h3⟩ := h
  subst hc hi
  rw [undbl_two hn h2] at h3
  have e : (c.1.1 + 1 + 1).toNat = c.1.1.toNat + 2 := (tn1 (Int.le_trans h1 (Int.le_add_one (Int.le_refl _)))).trans (congrArg (· + 1) (tn1 h1))
  refine ⟨by dsimp only; omega, ?_, ?_⟩
  · dsimp only; rw [PySem.Str.length_append]; show ((c.2.1.length + 1 : Nat) : Int) ≤ _; omega
  · dsimp only
    rw [PySem.Str.cps_append, Array.toList_append, e, ← h3]
    simp
theorem PJ.one {x : PySem.Str} {c : (Int × Tok) × (PySem.Str × Tok)} {n : Nat} {i : Int} {t t' : Tok} (h : PJ x c) (hn : x.cps.toList[c.1.1.toNat]? = some n) (hc : n ≠ 34) (hi : i = c.1.1 + 1) : PJ x ((i, t), (c.2.1 ++ ⟨#[n]⟩, t')) := by
  obtain ⟨h1, h4, h3⟩ := h
  subst hi
  rw [undbl_plain hn hc] at h3
  have e : (c.1.1 + 1).toNat = c.1.1.toNat + 1 := tn1 h1
  refine ⟨by dsimp only; omega, ?_, ?_⟩
  · dsimp only; rw [PySem.Str.length_append]; show ((c.2.1.length + 1 : Nat) : Int) ≤ _; omega
  · dsimp only
    rw [PySem.Str.cps_append, Array.toList_append, e, ← h3]
    simp
theorem sign_eq (n : Nat) : ((⟨#[n]⟩ : PySem.Str) == Str.ofString "\"") = decide (n = 34) := by
  have : Str.ofString "\"" = ⟨#[34]⟩ := by decide +kernel
  rw [this]
  by_cases h : n = 34
  · subst h; simp
  · simp [h]
theorem sign_ne (n : Nat) : ((⟨#[n]⟩ : PySem.Str) != Str.ofString "\"") = !decide (n = 34) := by
  show (!((⟨#[n]⟩ : PySem.Str) == Str.ofString "\"")) = _
  rw [sign_eq]
section
variable {x : PySem.Str} {c : (Int × Tok) × (PySem.Str × Tok)} {n m : Nat} {i : Int} {t t' : Tok}
theorem PJ.start : PJ x ((5, t), (Str.ofString "", t')) := ⟨(by decide : (5 : Int) ≤ 5), (by decide +kernel : ((Str.ofString "").length : Int) ≤ 5), by
  have : (Str.ofString "").cps.toList = [] := by decide +kernel
  show (Str.ofString "").cps.toList ++ _ = _
  rw [this]; rfl⟩
theorem PJ.shut1 (h : PJ x c) (hn : x.cps.toList[c.1.1.toNat]? = some n) (hc : ((⟨#[n]⟩ : PySem.Str) == Str.ofString "\"") = true) (hl : (x.length : Int) ≤ c.1.1 + 1) : c.2.1 = ⟨(undbl (x.cps.toList.drop 5)).toArray⟩ := by
  rw [sign_eq, decide_eq_true_eq] at hc
  refine h.shut hn hc ?_
  have h1 := h.1
  have : x.cps.toList.length ≤ c.1.1.toNat + 1 := by simp; have : x.length = x.cps.size := rfl; omega
  rw [List.getElem?_eq_none this]; simp
theorem PJ.shut2 (h : PJ x c) (hn : x.cps.toList[c.1.1.toNat]? = some n) (hc : ((⟨#[n]⟩ : PySem.Str) == Str.ofString "\"") = true) (hm : x.cps.toList[(c.1.1 + 1).toNat]? = some m) (hd : ((⟨#[m]⟩ : PySem.Str) != Str.ofString "\"") = true) :
    c.2.1 = ⟨(undbl (x.cps.toList.drop 5)).toArray⟩ := by
  rw [sign_eq, decide_eq_true_eq] at hc
  rw [sign_ne] at hd
  have h1 := h.1
  have e : (c.1.1 + 1).toNat = c.1.1.toNat + 1 := tn1 h.1
  rw [e] at hm
  refine h.shut hn hc ?_
  rw [hm]; simpa using hd
theorem PJ.two' (h : PJ x c) (hn : x.cps.toList[c.1.1.toNat]? = some n) (hc : ((⟨#[n]⟩ : PySem.Str) == Str.ofString "\"") = true) (hm : x.cps.toList[(c.1.1 + 1).toNat]? = some m) (hd : ((⟨#[m]⟩ : PySem.Str) != Str.ofString "\"") = false) :
    PJ x ((c.1.1 + 1 + 1, t), (c.2.1 ++ ⟨#[n]⟩, t')) := by
  rw [sign_eq, decide_eq_true_eq] at hc
  rw [sign_ne] at hd
  have h1 := h.1
  have e : (c.1.1 + 1).toNat = c.1.1.toNat + 1 := tn1 h.1
  rw [e] at hm
  have hm' : m = 34 := by simpa using hd
  exact h.two hn hc (hm' ▸ hm) rfl
theorem PJ.one' (h : PJ x c) (hn : x.cps.toList[c.1.1.toNat]? = some n) (hc : ((⟨#[n]⟩ : PySem.Str) == Str.ofString "\"") = false) : PJ x ((c.1.1 + 1, t), (c.2.1 ++ ⟨#[n]⟩, t')) := by
  rw [sign_eq, decide_eq_false_iff_not] at hc
  exact h.one hn hc rfl
end
/-- a reply that parse229 reads -/
structure P229 (x : PySem.Str) (c : Nat) (L R : Int) (p0 p1 p2 d p4 : PySem.Str) (n : Int) : Prop where
  len : x.length ≤ 1000
  s3 : Txt.slice x none (some 3) = Str.ofString "229"
  l : Txt.find x (Str.ofString "(") = L
  r : Txt.find3 x (Str.ofString ")") (Txt.find x (Str.ofString "(") + 1) = R
  l0 : 0 ≤ L
  r0 : L + 1 ≤ R - 1
  r1 : R - 1 < x.length
  it1 : x.cps.toList[(L + 1).toNat]? = some c
  it2 : x.cps.toList[(R - 1).toNat]? = some c
  kind : c < 128
  sp : Txt.split (Txt.slice x (some (L + 1)) (some R)) ⟨#[c]⟩ = [p0, p1, p2, d, p4]
  dl : d.length ≤ 640
  int : PySem.intText? d = some n
end Mine
namespace Mine
open PySem PySem.W PySem.Spec PySem.Calls PyProof.Rows
open Builtin Builtin.Str StrLaws KIN PySem.NumText

theorem undbl_dbl : ∀ (w t : List Nat), t.head? ≠ some 34 → undbl (dbl 34 w ++ 34 :: t) = w
  | [], t, h => undbl_shut h
  | c :: w, t, h => by
    unfold dbl
    by_cases e : c = 34
    · subst e
      rw [if_pos rfl]
      show undbl (34 :: 34 :: (dbl 34 w ++ 34 :: t)) = _
      rw [undbl_pair, undbl_dbl w t h]
    · rw [if_neg e]
      show undbl (c :: (dbl 34 w ++ 34 :: t)) = _
      rw [undbl_cons e, undbl_dbl w t h]
theorem num_text {n : Int} (h0 : -(10 ^ 10) < n) (h1 : n < 10 ^ 10) : PySem.intText? (Str.ofString (toString n)) = some n ∧ (∀ c ∈ (Str.ofString (toString n)).cps.toList, c = 45 ∨ (48 ≤ c ∧ c ≤ 57)) ∧ (Str.ofString (toString n)).length ≤ 20 := by
  have hd : ∀ m : Nat, AllDigits (Str.ofString (toString ((m : Nat) : Int))).cps.toList := by
    intro m c hc
    rw [KIN.signs_num] at hc
    obtain ⟨ch, hch, e⟩ := List.mem_map.mp hc
    have r := digit_range (Nat.isDigit_of_mem_toDigits (by decide) (by decide) hch)
    rw [← e]
    exact r
  rcases Int.lt_or_le n 0 with h | h
  · obtain ⟨m, rfl⟩ : ∃ m : Nat, n = Int.negSucc m := ⟨(-n - 1).toNat, by rw [Int.negSucc_eq]; omega⟩
    have e : (Str.ofString (toString (Int.negSucc m))).cps.toList = 45 :: (Str.ofString (toString ((m + 1 : Nat) : Int))).cps.toList := by
      rw [signs_ofString, signs_ofString]
      show ("-" ++ toString (Nat.succ m)).toList.map Char.toNat = 45 :: (toString (Nat.succ m)).toList.map Char.toNat
      rw [String.toList_append, List.map_append]
      rfl
    have hl := KT.len_num (n := ((m + 1 : Nat) : Int)) (by omega) (by rw [Int.negSucc_eq] at h0; omega)
    have hl' : (Str.ofString (toString (Int.negSucc m))).length = (Str.ofString (toString ((m + 1 : Nat) : Int))).length + 1 := by rw [← len_list, e, List.length_cons, len_list]
    have hv := KIN.num_reads (n := ((m + 1 : Nat) : Int)) (by omega) (by rw [Int.negSucc_eq] at h0; omega)
    have hne : (Str.ofString (toString ((m + 1 : Nat) : Int))).cps.toList ≠ [] := by
      rw [KIN.signs_num]
      intro e
      have h := toDigits_len_ge 10 (m + 1)
      rw [List.map_eq_nil_iff.mp e] at h
      exact absurd h (by decide)
    have e2 := intText_digits (hd (m + 1)) hne (by omega)
    rw [hv] at e2
    have e3 := Option.some.inj e2
    refine ⟨?_, ?_, by omega⟩
    · rw [intText_neg e (hd (m + 1)) hne (by omega), ← e3, Int.negSucc_eq]
      rfl
    · intro c hc
      rw [e] at hc
      rcases List.mem_cons.mp hc with rfl | hc
      · exact .inl rfl
      · exact .inr (hd _ c hc)
  · have hl := KT.len_num h (by omega : n < 10 ^ 10)
    refine ⟨KIN.num_reads h (by omega), ?_, by omega⟩
    obtain ⟨m, rfl⟩ := Int.eq_ofNat_of_zero_le h
    exact fun c hc => .inr (hd m c hc)
theorem find_first {x : PySem.Str} {c : Nat} {u r : List Nat} {lo : Nat} (hx : x.cps.toList.drop lo = u ++ c :: r) (hu : c ∉ u) : ∃ q, occurrences x ⟨#[c]⟩ lo x.length 1 = (lo + u.length) :: q := by
  have hat : x.cps.toList[lo + u.length]? = some c := by
    rw [← List.getElem?_drop, hx, List.getElem?_append_right (Nat.le_refl _)]
    simp
  rcases occ_head_from x ⟨#[c]⟩ lo 1 (Nat.le_refl _) with ⟨_, h⟩ | ⟨i, q, e, h1, h2, h3⟩
  · exact absurd ((subAt_one x c _).mpr hat) (h (lo + u.length) (by omega))
  · refine ⟨q, ?_⟩
    rw [e]
    congr 1
    have h4 := (subAt_one x c i).mp h2
    rcases Nat.lt_trichotomy i (lo + u.length) with g | g | g
    · refine absurd ?_ hu
      have : (x.cps.toList.drop lo)[i - lo]? = some c := by rw [List.getElem?_drop]; have : lo + (i - lo) = i := by omega
                                                            rw [this]; exact h4
      rw [hx, List.getElem?_append_left (by omega)] at this
      exact List.mem_of_getElem? this
    · exact g
    · exact absurd ((subAt_one x c _).mpr hat) (h3 (lo + u.length) (by omega) g)
/-- "229 Entering (" -/
def pre229 : List Nat := [50, 50, 57, 32, 69, 110, 116, 101, 114, 105, 110, 103, 32, 40]
end Mine
namespace Mine
open PySem PySem.W PySem.Spec PySem.Calls PyProof.Rows
theorem fm_lt {a : Int} (b : Int) (h0 : 0 < b) : 0 ≤ a.fmod b ∧ a.fmod b < b := by
  rw [Int.fmod_eq_emod_of_nonneg _ (by omega)]
  exact ⟨Int.emod_nonneg a (show b ≠ 0 by omega), Int.emod_lt_of_pos a h0⟩
section
variable {prog : Program} {w : World} {A : Around} {E : Value → Shared → Prop} {s : Shared} {h₀ : Heap} {L D : Addr} {m : PySem.Str → Option Value} {news : List (Addr × Obj)} {t : Tok} {Q : Value → Shared → Prop}
end
end Mine
namespace Mine
open PySem PySem.W PySem.Spec PySem.Calls PyProof.Rows

section
variable {prog : Program} {w : World} {A : Around} {E : Value → Shared → Prop} {s : Shared} {h₀ : Heap} {L D : Addr} {m : PySem.Str → Option Value} {news : List (Addr × Obj)} {x : PySem.Str} {t : Tok} {Q : Value → Shared → Prop}
theorem mul_as {a b r : Int} {t u : Tok} (e : a * b = r) (h1 : -(2 ^ 64) < a) (h2 : a < 2 ^ 64) (h : ∀ t k, Q (.int r t) { s with toks := k }) : wpAny (model prog w) A (binaryOp .Mult (.int a t) (.int b u)) Q E s := by
  refine mul_int ?_ (IntMulOk.of_left (intBits_le_64 h1 h2))
  rw [e]
  exact h _ _
end
end Mine
namespace Mine
open PySem PySem.W PySem.Spec PySem.Calls PyProof.Rows

section
variable {prog : Program} {w : World} {A : Around} {E : Value → Shared → Prop} {s : Shared} {h₀ : Heap} {L D : Addr} {m : PySem.Str → Option Value} {news : List (Addr × Obj)} {t : Tok} {Q : Value → Shared → Prop}
end
theorem TabF.offs {P1 P2 : Addr} {l1 c1 l2 c2 : Nat} {q1 q2 : Str} {T front : List (Addr × Obj)} {h₀ h' : Heap} {L : Addr} (h : TabF P1 l1 c1 q1 P2 l2 c2 q2 T) (N : News h₀ L h' (front ++ T)) (hf : ∀ q ∈ front, (∃ its n, q.2.data = .seq its n) ∨ ∀ r ∈ T, r.1 ≠ q.1) : ∀ q ∈ front, ∀ r ∈ T, r.1 ≠ q.1 := by
  intro q hq
  rcases hf q hq with ⟨its, n, hd⟩ | h1
  · exact h.off N (N q (List.mem_append_left _ hq)).1 hd
  · exact h1
section
variable {prog : Program} {w : World} {A : Around} {E : Value → Shared → Prop} {s : Shared} {x y : PySem.Str} {t u : Tok} {Q : Value → Shared → Prop}
theorem add_txt (hl : x.length + y.length ≤ 1000000) (h : ∀ t' k, Q (.str (x ++ y) t') { s with toks := k }) : wpAny (model prog w) A (binaryOp .Add (.str x t) (.str y u)) Q E s :=
  PyProof.Rows.add_str (hsz := by rw [sizeLine_eq]; omega) h
end
/-- a turn's plain end -/
def TurnEnd (R : Shared → Prop) (f : Flow) (s : Shared) : Prop := f = .next ∧ R s
section
variable {prog : Program} {w : World} {A : Around} {E : Value → Shared → Prop} {s : Shared} {h₀ : Heap} {L D : Addr} {m : PySem.Str → Option Value} {news : List (Addr × Obj)} {t : Tok} {Q : Value → Shared → Prop}
end
end Mine
namespace Mine
open PySem PySem.W PySem.Spec PySem.Calls PyProof.Rows
/-- |x| ≤ k -/
def Abs (x : Int) (k : Nat) : Prop := -(k : Int) ≤ x ∧ x ≤ (k : Int)
theorem Abs.nat {x : Int} {k : Nat} (h : Abs x k) : x.natAbs ≤ k := by obtain ⟨a, b⟩ := h; omega
theorem Abs.of {x : Int} {k : Nat} (h : x.natAbs ≤ k) : Abs x k := by constructor <;> omega
theorem Abs.mul {x y : Int} {a b : Nat} (hx : Abs x a) (hy : Abs y b) : Abs (x * y) (a * b) := .of (by rw [Int.natAbs_mul]; exact Nat.mul_le_mul hx.nat hy.nat)
theorem Abs.add {x y : Int} {a b : Nat} (hx : Abs x a) (hy : Abs y b) : Abs (x + y) (a + b) := by obtain ⟨_, _⟩ := hx; obtain ⟨_, _⟩ := hy; constructor <;> omega
theorem Abs.sub {x y : Int} {a b : Nat} (hx : Abs x a) (hy : Abs y b) : Abs (x - y) (a + b) := by obtain ⟨_, _⟩ := hx; obtain ⟨_, _⟩ := hy; constructor <;> omega
theorem Abs.le {x : Int} {a b : Nat} (h : Abs x a) (hab : a ≤ b) : Abs x b := by obtain ⟨_, _⟩ := h; constructor <;> omega
theorem Abs.small {x : Int} {a : Nat} (h : Abs x a) (ha : a ≤ 2 ^ 63) : -(2 ^ 64) < x ∧ x < 2 ^ 64 := by obtain ⟨_, _⟩ := h; omega
/-- the curve's height -/
def hgt (p q r x : Int) : Int := p + q * x + r * x * x
theorem hgt_abs {p q r x : Int} (hp : Abs p 1000) (hq : Abs q 1000) (hr : Abs r 1000) (hx : Abs x 100) : Abs (hgt p q r x) 10101000 :=
  ((hp.add (hq.mul hx)).add ((hr.mul hx).mul hx)).le (by decide)
end Mine
namespace Mine
open PySem PySem.W PySem.Spec PySem.Calls PyProof.Rows
section
variable {prog : Program} {w : World} {p : Program} {loose : List Str} {mean : ExcName → Option Value} {mg mb : Str → Option Value}
theorem height_tel (l : Addr) (c0 c1 c2 x : Int) (t0 t1 t2 tx : Tok) (nn : Nat) : Tel prog w (hd.heap_39 w.params) p loose mean mg mb 128 10 100 [.ref l, .int x tx] (fun h => h.IsList l #[.int c0 t0, .int c1 t1, .int c2 t2] ∧ Abs c0 1000 ∧ Abs c1 1000 ∧ Abs c2 1000 ∧ Abs x 100) (fun g h' r => ∃ t, r = .int (hgt c0 c1 c2 x) t) := by
  k_with_none
  k_with "binaryOp Mult int int" => (k_here; (first | refine mul_as rfl b1.1 b1.2 ?_ | refine mul_as rfl b2.1 b2.2 ?_ | refine mul_as rfl b3.1 b3.2 ?_); intro _ _)
  refine' tel_of (binds := [(Str.ofString "curve", .ref l), (Str.ofString "x", .int x tx)]) ?ho ?hcd ?hb ?hl ?h1 ?h2 ?h3 ?h4 ?_
  (case ho => k_is)
  (case hcd => k_is)
  (case hb => intro s; exact BindsTo.of_eq rfl)
  (case hl => exact locs rfl)
  (case h1 => decide)
  (case h2 => exact rfl)
  (case h3 => exact rfl)
  (case h4 => exact rfl)
  intro dp uu gd outer A₀ base g L' s Q B F N X T hd hu hpre hret
  obtain ⟨hl, a0, a1, a2, ax⟩ := hpre
  have b1 := a1.small (by decide)
  have b2 := a2.small (by decide)
  have b3 := (a2.mul ax).small (by decide)
  k_steps
  all_goals (try dsimp only)
  refine hret _ _ _ (Fr.keep (by assumption)) ⟨_, rfl⟩
end
end Mine
namespace Mine
open PySem PySem.W PySem.Spec PySem.Calls PyProof.Rows

section
variable {h₀ h h' g' : Heap} {L L' : Addr} {m m' : Str → Option Value} {news : List (Addr × Obj)}
theorem off_news (N : News h₀ L h news) {b : Addr} {o : Obj} (e : h₀.get? b = some o) : b ∉ news.map (·.1) := fun q => by
  obtain ⟨p, hp, rfl⟩ := List.mem_map.mp q
  rw [(N p hp).2.2] at e
  cases e
theorem back_marked (F : Fr h₀ L h m) (N : News h₀ L h news) (T : KtsTurn [L] (hideAll h (news.map (·.1))) g') (F' : Fr g' L' h' m') (N' : News g' L' h' news) : Fr h₀ L h' m ∧ News h₀ L h' news := by
  obtain ⟨oL, es, ep, hL, hLd, hLk, hLf⟩ := F.ns
  have nL : L ∉ news.map (·.1) := fun q => by
    obtain ⟨p, hp, e⟩ := List.mem_map.mp q
    exact (N p hp).2.1 e
  have st : h₀.StaysIn (hideAll h (news.map (·.1))) := fun b o e => hideAll_get _ (F.keep b o e) (off_news N e)
  obtain ⟨sl, hs⟩ := T.up (hideAll_get _ hL nL)
  have nL₀ : h₀.get? L = none := kts_self F
  refine ⟨⟨⟨_, es, ep, F'.keep _ _ hs, hLd, hLk, hLf⟩, fun b o e => F'.keep b o (T.other b o (st b o e) fun q => ?_), F.above⟩, fun p hp => ⟨(N' p hp).1, fun q => ?_, ?_⟩⟩
  · rw [List.mem_singleton.mp q, nL₀] at e; cases e
  · have := (N' p hp).2.2
    rw [q, hs] at this; cases this
  · cases q : h₀.get? p.1 with
    | none => rfl
    | some o =>
      obtain ⟨sl', hs'⟩ := T.up (st _ _ q)
      have := (N' p hp).2.2
      rw [hs'] at this; cases this
end

/-- what a call from the law's own frame hands back: the ledger stands; the frame's own dict may be marked -/
def TelS (prog : Program) (w : World) (K : Frag) (p : Program) (loose : List Str) (mean : ExcName → Option Value) (mg mb : Str → Option Value)
    (f : Addr) (dn un : Nat) (vs : List Value) (Pre : Prop) (Out : Value → Prop) : Prop :=
  ∀ (dp uu : Nat) (gd : Option (List Code)) (cn : Str) (cs : Scope) (a : Addr) (ccd : Value) (cl : List (Str × Addr)) (A₀ : Around) (base : Heap) (L : Addr) (m : Str → Option Value) (news : List (Addr × Obj)) (s : Shared) (Q E : Value → Shared → Prop),
    Below A₀ base [] base → Fr base L s.heap m → News base L s.heap news → K.In base → Top p loose mean mg mb base → cs.kind = .function →
    dp + dn + 1 < recursionLimit → uu + un + 3 < cLine → Pre →
    (∀ r h' tk', Fr base L h' m → News base L h' news → Out r → Q r { s with heap := h', toks := tk' }) →
    wpAny (model prog w) (ktrTop dp uu gd cn cs L a ccd cl []) (call (.ref f) vs) Q E s

section
variable {prog : Program} {w : World} {K : Frag} {p : Program} {loose : List Str} {mean : ExcName → Option Value} {mg mb : Str → Option Value} {f : Addr} {dn un : Nat} {vs : List Value} {Pre : Prop} {Out : Value → Prop}
theorem telS_of {name qual : Str} {params : Arguments} {body : List Stmt} {scope : Scope} {dV kV doc pm cdv ct oc : Value} {an od : Option Addr} {osl : Array (Option Value)} {binds : List (Str × Value)}
    (ho : K.lookup f = some ⟨oc, od, .func (fnOf name qual params body scope dV kV doc pm an cdv ct), osl⟩) (hcd : codeIn K cdv qual = true)
    (hbind : ∀ s, BindsTo s (fnOf name qual params body scope dV kV doc pm an cdv ct) ⟨vs, []⟩ binds) (hloc : ∀ y ∈ binds, scope.names.lookup y.1 = some .local)
    (hcell : ∀ x ∈ scope.names, x.2 ≠ .cell) (hco : scope.isCoroutine = false) (hgen : scope.isGenerator = false) (hk : scope.kind = .function)
    (h : ∀ (dp uu : Nat) (gd : Option (List Code)) (outer : List Env) (A₀ : Around) (base g : Heap) (L' : Addr) (news : List (Addr × Obj)) (s : Shared) (Q : Value → Shared → Prop),
      Below A₀ base outer g → Fr g L' s.heap (fun y => binds.reverse.lookup y) → News g L' s.heap news → K.In g → Top p loose mean mg mb g → K.In base → Top p loose mean mg mb base → KtsDicts (outer.filterMap (·.frame)) g →
      A₀.frames = some outer → dp + dn < recursionLimit → uu + un < cLine → Pre →
      (∀ r h' tk' g' L'' m'', KtsTurn (outer.filterMap (·.frame)) g g' → Fr g' L'' h' m'' → News g' L'' h' news → Out r → Q r { s with heap := h', toks := tk' }) →
      A₀.depth = dp → A₀.guards = gd → A₀.units + 3 = uu → A₀.handled = none →
      wpAny (model prog w) (A₀.deeper (envOf qual scope L' f cdv)) (execs body (envOf qual scope L' f cdv)) (fun fl s' => Q (match fl with | .ret v => v | _ => .none) s') (fun _ _ => False) s) :
    TelS prog w K p loose mean mg mb f dn un vs Pre Out := by
  intro dp uu gd cn cs a ccd cl A₀ base L m news s Q E B F N X T hcs hd hu hpre hret
  refine wpAny_call ?_
  have X' : K.In s.heap := X.keeps F.keep
  refine codeAny_call_def (fd := fnOf name qual params body scope dV kV doc pm an cdv ct) (body := body) (binds := binds) ?_ (X' _ _ ho) rfl (T.nolimit.keeps F.keep) (codeRec_of X' hcd) rfl (hbind s) hcell hloc (fun h₁ hns hk₁ => ?_) hco hgen hk
  · show dp < recursionLimit; omega
  obtain ⟨Fg, Bg, st, _⟩ := groundX (R := fun _ _ => True) (A := ktrTop dp uu gd cn cs L a ccd cl []) (env := envX cn cs L a ccd cl) B F N rfl rfl hcs
  obtain ⟨oL, es, ep, hL, hLd, _, _⟩ := Fg.ns
  have := h dp (uu + 3) gd [envX cn cs L a ccd cl] (ktrTop dp uu gd cn cs L a ccd cl []) base (hideAll s.heap (news.map (·.1))) s.heap.objs.size news { s with heap := h₁, toks := s.toks + binds.length } Q Bg
    ⟨hns, fun b o e => hk₁ b o (of_hideAll _ e), Nat.le_of_eq (hideAll_size _ _)⟩ (fun p hp => ⟨hk₁ _ _ (N p hp).1, Nat.ne_of_lt (Heap.lt_size (N p hp).1), hideAll_none _ (List.mem_map_of_mem hp)⟩)
    (X.keeps fun b o e => st b o e) (T.keeps fun b o e => st b o e) X T (fun b hb => by
      have hb' : b ∈ [L] := hb
      rw [List.mem_singleton.mp hb']
      exact ⟨oL, es, ep, hL, hLd⟩) rfl (by omega) (by omega) hpre (fun r h' tk' g' L'' m'' T' F' N' ho => by
      obtain ⟨F9, N9⟩ := back_marked F N T' F' N'
      exact hret r h' tk' F9 N9 ho) rfl rfl rfl rfl
  exact wpAny_mono this (fun fl s' hl => by cases fl <;> exact hl) fun _ _ y => y.elim
theorem telS_use {dp uu : Nat} {gd : Option (List Code)} {cn : Str} {cs : Scope} {a : Addr} {ccd : Value} {cl : List (Str × Addr)} {A₀ : Around} {base : Heap} {L : Addr} {m : Str → Option Value} {news : List (Addr × Obj)} {s : Shared}
    {Q E : Value → Shared → Prop} (C : TelS prog w K p loose mean mg mb f dn un vs Pre Out) (B : Below A₀ base [] base) (F : Fr base L s.heap m) (X : K.In base) (N : News base L s.heap news) (T : Top p loose mean mg mb base) (hk : cs.kind = .function)
    (hd : dp + dn + 1 < recursionLimit) (hu : uu + un + 3 < cLine) (hpre : Pre)
    (ret : ∀ r h' tk', Fr base L h' m → News base L h' news → Out r → Q r { s with heap := h', toks := tk' }) :
    wpAny (model prog w) (ktrTop dp uu gd cn cs L a ccd cl []) (call (.ref f) vs) Q E s :=
  C dp uu gd cn cs a ccd cl A₀ base L m news s Q E B F N X T hk hd hu hpre ret
end
end Mine
namespace Mine
section
variable {prog : Program} {w : World} {p : Program} {loose : List Str} {mean : ExcName → Option Value} {mg mb : Str → Option Value}
theorem refused1_tel (x : Str) (t : Tok)  : TelS prog w (hd.heap_39 w.params) p loose mean mg mb 135 20 120 [.str x t] (x.length ≤ 1000 ∧ (Txt.slice x none (some 3) != Str.ofString "229") = true) (fun r => ∃ t, r = .int 1 t) := by
  k_with_none
  k_with "exec Try" => (k_here; refine wpAny_Try_except ?_)
  k_with "call ref" => (k_here; refine stop_here ?_)
  refine' telS_of (binds := [(Str.ofString "reply", .str x t)]) ?ho ?hcd ?hb ?hl ?h1 ?h2 ?h3 ?h4 ?_
  (case ho => k_is)
  (case hcd => k_is)
  (case hb => intro s; exact BindsTo.of_eq rfl)
  (case hl => exact locs rfl)
  (case h1 => decide)
  (case h2 => exact rfl)
  (case h3 => exact rfl)
  (case h4 => exact rfl)
  intro dp uu gd outer A₀ base g L' news s Q B F N X T XB TB D hfr hd hu hpre hret e1 e2 e3 e4
  obtain ⟨hx, hs⟩ := hpre
  k_steps
  unfold Stop
  refine wpAny_call ?_
  rename Fr _ _ _ _ => F1
  rename Addr => Dt
  rename News _ _ _ _ => N1
  refine' code_defS (binds := [(Str.ofString "resp", .str x t), (Str.ofString "peer", .ref Dt)]) B F1 X N1 T XB TB D KtsTurn.refl ?kA ?k6 ?k7 ?k8 ?k9 ?kB ?_ ?cK ?c2 ?c3 ?c4 ?c5
  (case kA => exact Around.frames_deeper B.stack)
  (case k6 => k_is)
  (case k7 => k_is)
  (case k8 => (show A₀.depth + 1 < recursionLimit; omega))
  (case k9 => exact BindsTo.of_eq rfl)
  (case kB => exact locs rfl)
  (case cK => exact rfl)
  (case c2 => exact rfl)
  (case c3 => exact rfl)
  (case c4 => exact rfl)
  (case c5 => decide)
  intro g1 L1 h1 FG1 F2 N2 B2 X2 T2 D2
  (try dsimp only)
  (try k_lift B2)
  k_steps
  all_goals (try dsimp only)

  refine' hret _ _ _ ?zg ?zL ?zm ?zT ?zF ?zN ⟨_, rfl⟩
  (case zT => assumption)
  (case zF => assumption)
  (case zN => rename News _ _ _ _ => N9; exact fun q hq => N9 q (by simp [hq]))
theorem refused2a_tel (x : Str) (t : Tok) (L : Int) : TelS prog w (hd.heap_39 w.params) p loose mean mg mb 135 20 120 [.str x t] (x.length ≤ 1000 ∧ (Txt.slice x none (some 3) != Str.ofString "229") = false ∧ Txt.find x (Str.ofString "(") = L ∧ L < 0) (fun r => ∃ t, r = .int 2 t) := by
  k_with_none
  k_with "exec Try" => (k_here; refine wpAny_Try_except ?_)
  k_with "call ref" => (k_here; refine stop_here ?_)
  refine' telS_of (binds := [(Str.ofString "reply", .str x t)]) ?ho ?hcd ?hb ?hl ?h1 ?h2 ?h3 ?h4 ?_
  (case ho => k_is)
  (case hcd => k_is)
  (case hb => intro s; exact BindsTo.of_eq rfl)
  (case hl => exact locs rfl)
  (case h1 => decide)
  (case h2 => exact rfl)
  (case h3 => exact rfl)
  (case h4 => exact rfl)
  intro dp uu gd outer A₀ base g L' news s Q B F N X T XB TB D hfr hd hu hpre hret e1 e2 e3 e4
  obtain ⟨hx, hs, hl, hl0⟩ := hpre
  k_steps
  unfold Stop
  refine wpAny_call ?_
  rename Fr _ _ _ _ => F1
  rename Addr => Dt
  rename News _ _ _ _ => N1
  refine' code_defS (binds := [(Str.ofString "resp", .str x t), (Str.ofString "peer", .ref Dt)]) B F1 X N1 T XB TB D KtsTurn.refl ?kA ?k6 ?k7 ?k8 ?k9 ?kB ?_ ?cK ?c2 ?c3 ?c4 ?c5
  (case kA => exact Around.frames_deeper B.stack)
  (case k6 => k_is)
  (case k7 => k_is)
  (case k8 => (show A₀.depth + 1 < recursionLimit; omega))
  (case k9 => exact BindsTo.of_eq rfl)
  (case kB => exact locs rfl)
  (case cK => exact rfl)
  (case c2 => exact rfl)
  (case c3 => exact rfl)
  (case c4 => exact rfl)
  (case c5 => decide)
  intro g1 L1 h1 FG1 F2 N2 B2 X2 T2 D2
  (try dsimp only)
  (try k_lift B2)
  k_steps
  all_goals (try dsimp only)

  refine' hret _ _ _ ?zg ?zL ?zm ?zT ?zF ?zN ⟨_, rfl⟩
  (case zT => assumption)
  (case zF => assumption)
  (case zN => rename News _ _ _ _ => N9; exact fun q hq => N9 q (by simp [hq]))
theorem refused2b_tel (x : Str) (t : Tok) (L R : Int) : TelS prog w (hd.heap_39 w.params) p loose mean mg mb 135 20 120 [.str x t] (x.length ≤ 1000 ∧ (Txt.slice x none (some 3) != Str.ofString "229") = false ∧ Txt.find x (Str.ofString "(") = L ∧ 0 ≤ L ∧ L < x.length ∧ Txt.find3 x (Str.ofString ")") (Txt.find x (Str.ofString "(") + 1) = R ∧ R < 0) (fun r => ∃ t, r = .int 2 t) := by
  k_with_none
  k_with "exec Try" => (k_here; refine wpAny_Try_except ?_)
  k_with "call ref" => (k_here; refine stop_here ?_)
  refine' telS_of (binds := [(Str.ofString "reply", .str x t)]) ?ho ?hcd ?hb ?hl ?h1 ?h2 ?h3 ?h4 ?_
  (case ho => k_is)
  (case hcd => k_is)
  (case hb => intro s; exact BindsTo.of_eq rfl)
  (case hl => exact locs rfl)
  (case h1 => decide)
  (case h2 => exact rfl)
  (case h3 => exact rfl)
  (case h4 => exact rfl)
  intro dp uu gd outer A₀ base g L' news s Q B F N X T XB TB D hfr hd hu hpre hret e1 e2 e3 e4
  obtain ⟨hx, hs, hl, hl0, hl1, hr, hr0⟩ := hpre
  k_steps
  unfold Stop
  refine wpAny_call ?_
  rename Fr _ _ _ _ => F1
  rename Addr => Dt
  rename News _ _ _ _ => N1
  refine' code_defS (binds := [(Str.ofString "resp", .str x t), (Str.ofString "peer", .ref Dt)]) B F1 X N1 T XB TB D KtsTurn.refl ?kA ?k6 ?k7 ?k8 ?k9 ?kB ?_ ?cK ?c2 ?c3 ?c4 ?c5
  (case kA => exact Around.frames_deeper B.stack)
  (case k6 => k_is)
  (case k7 => k_is)
  (case k8 => (show A₀.depth + 1 < recursionLimit; omega))
  (case k9 => exact BindsTo.of_eq rfl)
  (case kB => exact locs rfl)
  (case cK => exact rfl)
  (case c2 => exact rfl)
  (case c3 => exact rfl)
  (case c4 => exact rfl)
  (case c5 => decide)
  intro g1 L1 h1 FG1 F2 N2 B2 X2 T2 D2
  (try dsimp only)
  (try k_lift B2)
  k_steps
  all_goals (try dsimp only)

  refine' hret _ _ _ ?zg ?zL ?zm ?zT ?zF ?zN ⟨_, rfl⟩
  (case zT => assumption)
  (case zF => assumption)
  (case zN => rename News _ _ _ _ => N9; exact fun q hq => N9 q (by simp [hq]))
theorem refused2c_tel (x : Str) (t : Tok)  : TelS prog w (hd.heap_39 w.params) p loose mean mg mb 135 20 120 [.str x t] (x.length ≤ 1000 ∧ (Txt.slice x none (some 3) != Str.ofString "229") = false ∧ 0 ≤ Txt.find x (Str.ofString "(") ∧ (Txt.find x (Str.ofString "(") + 1) ≤ (Txt.find3 x (Str.ofString ")") (Txt.find x (Str.ofString "(") + 1)) - 1 ∧ (Txt.find3 x (Str.ofString ")") (Txt.find x (Str.ofString "(") + 1)) - 1 < x.length ∧ (Txt.item x (Txt.find x (Str.ofString "(") + 1) != Txt.item x ((Txt.find3 x (Str.ofString ")") (Txt.find x (Str.ofString "(") + 1)) - 1)) = true) (fun r => ∃ t, r = .int 2 t) := by
  k_with_none
  k_with "exec Try" => (k_here; refine wpAny_Try_except ?_)
  k_with "call ref" => (k_here; refine stop_here ?_)
  refine' telS_of (binds := [(Str.ofString "reply", .str x t)]) ?ho ?hcd ?hb ?hl ?h1 ?h2 ?h3 ?h4 ?_
  (case ho => k_is)
  (case hcd => k_is)
  (case hb => intro s; exact BindsTo.of_eq rfl)
  (case hl => exact locs rfl)
  (case h1 => decide)
  (case h2 => exact rfl)
  (case h3 => exact rfl)
  (case h4 => exact rfl)
  intro dp uu gd outer A₀ base g L' news s Q B F N X T XB TB D hfr hd hu hpre hret e1 e2 e3 e4
  obtain ⟨hx, hs, hl0, hlr, hr1, hne⟩ := hpre
  k_steps
  unfold Stop
  refine wpAny_call ?_
  rename Fr _ _ _ _ => F1
  rename Addr => Dt
  rename News _ _ _ _ => N1
  refine' code_defS (binds := [(Str.ofString "resp", .str x t), (Str.ofString "peer", .ref Dt)]) B F1 X N1 T XB TB D KtsTurn.refl ?kA ?k6 ?k7 ?k8 ?k9 ?kB ?_ ?cK ?c2 ?c3 ?c4 ?c5
  (case kA => exact Around.frames_deeper B.stack)
  (case k6 => k_is)
  (case k7 => k_is)
  (case k8 => (show A₀.depth + 1 < recursionLimit; omega))
  (case k9 => exact BindsTo.of_eq rfl)
  (case kB => exact locs rfl)
  (case cK => exact rfl)
  (case c2 => exact rfl)
  (case c3 => exact rfl)
  (case c4 => exact rfl)
  (case c5 => decide)
  intro g1 L1 h1 FG1 F2 N2 B2 X2 T2 D2
  (try dsimp only)
  (try k_lift B2)
  k_steps
  all_goals (try dsimp only)

  refine' hret _ _ _ ?zg ?zL ?zm ?zT ?zF ?zN ⟨_, rfl⟩
  (case zT => assumption)
  (case zF => assumption)
  (case zN => rename News _ _ _ _ => N9; exact fun q hq => N9 q (by simp [hq]))
theorem refused2d_tel (x : Str) (t : Tok)  : TelS prog w (hd.heap_39 w.params) p loose mean mg mb 135 20 120 [.str x t] (x.length ≤ 1000 ∧ (Txt.slice x none (some 3) != Str.ofString "229") = false ∧ 0 ≤ Txt.find x (Str.ofString "(") ∧ (Txt.find x (Str.ofString "(") + 1) ≤ (Txt.find3 x (Str.ofString ")") (Txt.find x (Str.ofString "(") + 1)) - 1 ∧ (Txt.find3 x (Str.ofString ")") (Txt.find x (Str.ofString "(") + 1)) - 1 < x.length ∧ (Txt.item x (Txt.find x (Str.ofString "(") + 1) != Txt.item x ((Txt.find3 x (Str.ofString ")") (Txt.find x (Str.ofString "(") + 1)) - 1)) = false ∧ (Txt.split (Txt.slice x (some (Txt.find x (Str.ofString "(") + 1)) (some (Txt.find3 x (Str.ofString ")") (Txt.find x (Str.ofString "(") + 1)))) (Txt.item x (Txt.find x (Str.ofString "(") + 1))).length ≠ 5) (fun r => ∃ t, r = .int 2 t) := by
  k_with_none
  k_with "exec Try" => (k_here; refine wpAny_Try_except ?_)
  k_with "call ref" => (k_here; refine stop_here ?_)
  refine' telS_of (binds := [(Str.ofString "reply", .str x t)]) ?ho ?hcd ?hb ?hl ?h1 ?h2 ?h3 ?h4 ?_
  (case ho => k_is)
  (case hcd => k_is)
  (case hb => intro s; exact BindsTo.of_eq rfl)
  (case hl => exact locs rfl)
  (case h1 => decide)
  (case h2 => exact rfl)
  (case h3 => exact rfl)
  (case h4 => exact rfl)
  intro dp uu gd outer A₀ base g L' news s Q B F N X T XB TB D hfr hd hu hpre hret e1 e2 e3 e4
  obtain ⟨hx, hs, hl0, hlr, hr1, hne, hsp⟩ := hpre
  k_steps
  unfold Stop
  refine wpAny_call ?_
  rename Fr _ _ _ _ => F1
  rename Addr => Dt
  rename News _ _ _ _ => N1
  refine' code_defS (binds := [(Str.ofString "resp", .str x t), (Str.ofString "peer", .ref Dt)]) B F1 X N1 T XB TB D KtsTurn.refl ?kA ?k6 ?k7 ?k8 ?k9 ?kB ?_ ?cK ?c2 ?c3 ?c4 ?c5
  (case kA => exact Around.frames_deeper B.stack)
  (case k6 => k_is)
  (case k7 => k_is)
  (case k8 => (show A₀.depth + 1 < recursionLimit; omega))
  (case k9 => exact BindsTo.of_eq rfl)
  (case kB => exact locs rfl)
  (case cK => exact rfl)
  (case c2 => exact rfl)
  (case c3 => exact rfl)
  (case c4 => exact rfl)
  (case c5 => decide)
  intro g1 L1 h1 FG1 F2 N2 B2 X2 T2 D2
  (try dsimp only)
  (try k_lift B2)
  k_steps
  all_goals (try dsimp only)
  rotate_left
  · exfalso
    have hq := congrArg List.length ‹List.map (fun x : Str × Tok => x.fst) _ = Txt.split _ _›
    rw [List.length_map] at hq
    omega
  refine' hret _ _ _ ?zg ?zL ?zm ?zT ?zF ?zN ⟨_, rfl⟩
  (case zT => assumption)
  (case zF => assumption)
  (case zN => rename News _ _ _ _ => N9; exact fun q hq => N9 q (by simp [hq]))
end
end Mine
namespace Mine
open PySem PySem.W PySem.Spec PySem.Calls PyProof.Rows
def nthS : List Stmt → Nat → Stmt
  | [], _ => .Pass ⟨0, 0, 0, 0⟩
  | x :: _, 0 => x
  | _ :: r, n + 1 => nthS r n
def dropS : Nat → List Stmt → List Stmt
  | 0, l => l
  | _ + 1, [] => []
  | n + 1, _ :: l => dropS n l
def bodyOf : Stmt → List Stmt
  | .FunctionDef _ _ b _ _ _ _ _ _ _ => b
  | .For _ _ b _ _ => b
  | _ => []
def scOf : Stmt → Scope
  | .FunctionDef _ _ _ _ _ _ sc _ _ _ => sc
  | _ => PySem.Challenge.pw_rw0076_02.main.scope
def lastS : List Stmt → Stmt
  | [] => .Pass ⟨0, 0, 0, 0⟩
  | [x] => x
  | _ :: r => lastS r
def lawDef : Stmt := lastS PySem.Challenge.pw_rw0076_02.main.body
def lawSc : Scope := scOf lawDef
/-- the law's statements from the k-th on -/
def lawFrom (k : Nat) : List Stmt := dropS k (bodyOf lawDef)
/-- the parts of `x = [.. for .. in ..]` -/
def valOf : Stmt → PySem.Expr
  | .Assign _ v _ => v
  | _ => .Constant .none 0 ⟨0, 0, 0, 0⟩
def eltOf : PySem.Expr → PySem.Expr
  | .ListComp e _ _ _ => e
  | e => e
def gensOf : PySem.Expr → List PySem.Comprehension
  | .ListComp _ g _ _ => g
  | _ => []
def iterN : List PySem.Comprehension → Nat → PySem.Expr
  | [], _ => .Constant .none 0 ⟨0, 0, 0, 0⟩
  | c :: _, 0 => c.iter
  | _ :: r, n + 1 => iterN r n
def testOf : List PySem.Comprehension → PySem.Expr
  | c :: _ => match c.ifs with | t :: _ => t | [] => .Constant .none 0 ⟨0, 0, 0, 0⟩
  | [] => .Constant .none 0 ⟨0, 0, 0, 0⟩
def scopeOf : PySem.Expr → Scope
  | .ListComp _ _ s _ => s
  | _ => lawSc
end Mine
namespace Mine
open PySem PySem.W PySem.Spec PySem.Calls PyProof.Rows
section
variable {prog : Program} {w : World} {A : Around} {E : Value → Shared → Prop} {s : Shared} {Q : Value → Shared → Prop} {value slice : PySem.Expr} {l : Addr} {vs : List Value} {ns : List Int} {k : Nat} {x : Int} {u : Tok}
theorem itemL_at (hl : s.heap.IsList l vs.toArray) (hI : IntsAre vs ns) (hx : ns[k]? = some x) (hk : k < 1000000) (h : ∀ t, Q (.int x t) s)
    (hs : subscripted slice false (.ref l) (.int (k : Int) u) = operate [.ref l, .int (k : Int) u] (getItem (.ref l) (.int (k : Int) u)) := by with_unfolding_all rfl) :
    wpAny (model prog w) A (subscriptTail value slice (.ref l) (.int (k : Int) u)) Q E s := by
  obtain ⟨t, h3⟩ := ints_at hI hx
  exact tail_any hl.typeIs slot_list_getitem.lookup (wpAny_getItem_list hl (by omega) (by omega) (by simpa using h3) (h t)) hs
theorem itemL_as {kk : Int} (ek : kk = (k : Int)) (hl : s.heap.IsList l vs.toArray) (hI : IntsAre vs ns) (hx : ns[k]? = some x) (hk : k < 1000000) (h : ∀ t, Q (.int x t) s)
    (hs : subscripted slice false (.ref l) (.int kk u) = operate [.ref l, .int kk u] (getItem (.ref l) (.int kk u)) := by with_unfolding_all rfl) :
    wpAny (model prog w) A (subscriptTail value slice (.ref l) (.int kk u)) Q E s := by
  subst ek
  exact itemL_at hl hI hx hk h hs
theorem itemL_N {h₀ : Heap} {L : Addr} {news : List (Addr × Obj)} {n : Nat} {kk : Int} (N : News h₀ L s.heap news) (hm : (l, listOf vs.toArray n) ∈ news) (ek : kk = (k : Int)) (hI : IntsAre vs ns) (hx : ns[k]? = some x) (hk : k < 1000000) (h : ∀ t, Q (.int x t) s)
    (hs : subscripted slice false (.ref l) (.int kk u) = operate [.ref l, .int kk u] (getItem (.ref l) (.int kk u)) := by with_unfolding_all rfl) :
    wpAny (model prog w) A (subscriptTail value slice (.ref l) (.int kk u)) Q E s := by
  subst ek
  exact itemL_at ⟨_, (N _ hm).1, rfl, n, rfl⟩ hI hx hk h hs
theorem itemV_N {h₀ : Heap} {L : Addr} {news : List (Addr × Obj)} {v : Value} {n : Nat} {kk : Int} (N : News h₀ L s.heap news) (hm : (l, listOf vs.toArray n) ∈ news) (ek : kk = (k : Int)) (hx : vs[k]? = some v) (hk : k < 1000000) (h : Q v s)
    (hs : subscripted slice false (.ref l) (.int kk u) = operate [.ref l, .int kk u] (getItem (.ref l) (.int kk u)) := by with_unfolding_all rfl) :
    wpAny (model prog w) A (subscriptTail value slice (.ref l) (.int kk u)) Q E s := by
  subst ek
  have hl : s.heap.IsList l vs.toArray := ⟨_, (N _ hm).1, rfl, n, rfl⟩
  exact tail_any hl.typeIs slot_list_getitem.lookup (wpAny_getItem_list hl (by omega) (by omega) (by simpa using hx) h) hs
end
section
variable {prog : Program} {w : World} {A : Around} {E : Value → Shared → Prop} {s : Shared} {h₀ : Heap} {L D : Addr} {m : Str → Option Value} {rest : List (Addr × Obj)} {Q : Value → Shared → Prop}
theorem append_l {vs : List Value} {n : Nat} {y : Value} (F : Fr h₀ L s.heap m) (N : News h₀ L s.heap ((D, listOf vs.toArray n) :: rest)) (off : ∀ p ∈ rest, p.1 ≠ D) (hsz : vs.length ≤ sizeLine)
    (h : ∀ h', Fr h₀ L h' m → News h₀ L h' ((D, listOf (vs ++ [y]).toArray (n + 1)) :: rest) → Q .none { s with heap := h' }) : wpAny (model prog w) A (call (.builtin "list.append") [.ref D, y]) Q E s := by
  have z := N _ List.mem_cons_self
  have Nr : News h₀ L s.heap rest := fun p hp => N p (List.mem_cons_of_mem _ hp)
  refine append_at (hsz := by show vs.toArray.size ≤ sizeLine; rw [List.size_toArray]; exact hsz) z.1 fun h₅ hs₅ hD₅ => ?_
  refine h h₅ (F.change hs₅ z.2.1 z.2.2) fun p hp => ?_
  rcases List.mem_cons.mp hp with rfl | hp
  · refine ⟨hD₅.trans (congrArg some ?_), z.2⟩
    show _ = ({ cls := .type "list", data := .seq (vs ++ [y]).toArray (n + 1) } : Obj)
    rw [List.push_toArray]
  · exact ⟨hs₅.extBut _ _ (off p hp) (Nr p hp).1, (Nr p hp).2⟩
end
theorem isl {h : Heap} {front : List (Addr × Obj)} {D : Addr} {its : Array Value} (n : Nat) (hst : ∀ q ∈ front, h.get? q.1 = some q.2) (hm : (D, listOf its n) ∈ front) : h.IsList D its := ⟨_, hst _ hm, rfl, n, rfl⟩
/-- what the three tell: their sum above the line, the distances' product below -/
def aboveOf (a b c x y z sp : Int) : Int := x * (sp - b) * (sp - c) * (b - c) - y * (sp - a) * (sp - c) * (a - c) + z * (sp - a) * (sp - b) * (a - b)
def distOf (a b c : Int) : Int := (a - b) * (a - c) * (b - c)
end Mine
namespace Mine
open PySem PySem.W PySem.Spec PySem.Calls PyProof.Rows PyProof.Rows.LCg
section
variable {prog : Program} {w : World} {A : Around} {E : Value → Shared → Prop} {s : Shared} {h₀ : Heap} {L : Addr} {m : Str → Option Value} {env : Env}
theorem compEnd_mono {s₁ s₂ : Shared} {I C D : Addr} {oI oC oD : Obj} {S : List (Addr × Obj) → Prop} {R R' : Value → List (Addr × Obj) → Prop} {y : Value} (hR : ∀ y n, R y n → R' y n) (h : CompEnd h₀ L m s₁ I oI C oC D oD S R y s₂) : CompEnd h₀ L m s₁ I oI C oC D oD S R' y s₂ := by
  obtain ⟨h', tk, news', e, F, N, o, hS, r⟩ := h
  exact ⟨h', tk, news', e, F, N, o, hS, hR _ _ r⟩
theorem comp_inv {elt : PySem.Expr} {x : Str} {scope : Scope} {cl : List (Str × Addr)} {S : List (Addr × Obj) → Prop} {P : Nat → Value → Prop} {Fin : List Value → List (Addr × Obj) → Prop} {n : Nat} (Inv : Nat → List Value → List (Addr × Obj) → Prop)
    (turn : ∀ i ys news, i < n → Inv i ys news → ∀ v I oI C oC D m₂ h tk (E' : Value → Shared → Prop), P i v → NsObj oC m₂ → m₂ x = some v → Fr h₀ L h m → News h₀ L h ((I, oI) :: (C, oC) :: (D, lst ys) :: news) → Off3 I C D news → ((@Ne Nat I C) ∧ (@Ne Nat I D) ∧ (@Ne Nat C D)) →
      wpAny (model prog w) A (eval elt (compEnvC scope cl C env)) (CompEnd h₀ L m { s with heap := h, toks := tk } I oI C oC D (lst ys) S (fun y news' => Inv (i + 1) (ys ++ [y]) news')) E' { s with heap := h, toks := tk })
    (done : ∀ ys news, Inv n ys news → Fin ys news) : ∀ k i ys news, k + i = n → Inv i ys news → CompRest prog w A h₀ L m env elt x scope cl s S P Fin k i ys news
  | 0, i, ys, news, e, hI => done ys news (by rw [Nat.zero_add] at e; exact e ▸ hI)
  | k + 1, i, ys, news, e, hI => fun v I oI C oC D m₂ h tk E' hP hC hx F N off ne =>
    wpAny_mono (turn i ys news (by omega) hI v I oI C oC D m₂ h tk E' hP hC hx F N off ne) (fun _ _ q => compEnd_mono (fun _ _ r => comp_inv Inv turn done k (i + 1) _ _ (by omega) r) q) fun _ _ q => q
end
/-- texts in a list -/
def Txts (vs : List Value) (ss : List Str) : Prop := ∃ l : List (Str × Tok), vs = strValues l ∧ ss = l.map (·.1)
theorem Txts.nil : Txts [] [] := ⟨[], rfl, rfl⟩
theorem Txts.snoc {vs : List Value} {ss : List Str} {x : Str} {t : Tok} (h : Txts vs ss) : Txts (vs ++ [.str x t]) (ss ++ [x]) := by
  obtain ⟨l, rfl, rfl⟩ := h
  exact ⟨l ++ [(x, t)], by simp [strValues], by simp⟩
theorem Txts.at {vs : List Value} {ss : List Str} {k : Nat} {x : Str} (h : Txts vs ss) (hx : ss[k]? = some x) : ∃ t, vs[k]? = some (.str x t) := by
  obtain ⟨l, rfl, rfl⟩ := h
  rw [List.getElem?_map] at hx
  cases e : l[k]? with
  | none => rw [e] at hx; cases hx
  | some q =>
    rw [e] at hx
    refine ⟨q.2, ?_⟩
    show (l.map _)[k]? = _
    rw [List.getElem?_map, e]
    cases Option.some.inj hx
    rfl
/-- the holders' signs -/
def sgn (k : Int) : Str := ⟨#[[34, 97, 98, 99, 100].getD k.toNat 0]⟩
def wordOf (a b c : Int) : Str := Str.ofString " " ++ PySem.Str.join (Str.ofString "") [sgn a, sgn b, sgn c] ++ Str.ofString " "
theorem join_three {x y z : Str} (hx : x.length = 1) (hy : y.length = 1) (hz : z.length = 1) : (PySem.Str.join (Str.ofString "") [x, y, z]).length = 3 := by
  have e0 : (Str.ofString "").length = 0 := by decide +kernel
  show (x ++ Str.ofString "" ++ (y ++ Str.ofString "" ++ z)).length = 3
  simp only [PySem.Str.length_append, hx, hy, hz, e0]
section
variable {prog : Program} {w : World} {A : Around} {E : Value → Shared → Prop} {s : Shared} {h₀ : Heap} {L D : Addr} {news : List (Addr × Obj)} {t : Tok} {Q : Value → Shared → Prop}
theorem join_sgn (a b c : Int) {t1 t2 t3 : Tok} {n : Nat} (N : News h₀ L s.heap news) (hm : (D, listOf [.str (sgn a) t1, .str (sgn b) t2, .str (sgn c) t3].toArray n) ∈ news)
    (h : ∀ jw, PySem.Str.join (Str.ofString "") [sgn a, sgn b, sgn c] = jw → jw.length = 3 → ∀ t' k, Q (.str jw t') { s with toks := k }) : wpAny (model prog w) A (call (.builtin "str.join") [.str (Str.ofString "") t, .ref D]) Q E s := by
  have e0 : (Str.ofString "").length = 0 := by decide +kernel
  exact join_call (l := [(sgn a, t1), (sgn b, t2), (sgn c, t3)]) N hm rfl (by show 3 + 3 * (Str.ofString "").length ≤ 16777216; rw [e0]; decide) (h _ rfl (join_three rfl rfl rfl))
end
theorem item_abcd {k : Int} (h0 : 0 ≤ k) (h5 : k < 5) : (Str.ofString "\"abcd").cps.toList[k.toNat]? = some ([34, 97, 98, 99, 100].getD k.toNat 0) := by
  obtain ⟨n, rfl⟩ : ∃ n : Nat, k = n := ⟨k.toNat, by omega⟩
  have hn : n < 5 := by omega
  have : ∀ n < 5, (Str.ofString "\"abcd").cps.toList[n]? = some ([34, 97, 98, 99, 100].getD n 0) := by decide +kernel
  simpa using this n hn
end Mine
namespace Mine
theorem subC {α : Type} {S : List α} {b : α} {l : List α} (h : b ∈ S) (t : ∀ q ∈ l, q ∈ S) : ∀ q ∈ b :: l, q ∈ S := List.forall_mem_cons.2 ⟨h, t⟩
theorem subA {α : Type} {S A B : List α} (h : ∀ q ∈ A, q ∈ S) (t : ∀ q ∈ B, q ∈ S) : ∀ q ∈ A ++ B, q ∈ S := fun q hq => (List.mem_append.1 hq).elim (h q) (t q)
theorem subN {α : Type} {S : List α} : ∀ q ∈ ([] : List α), q ∈ S := fun _ h => nomatch h
theorem allC {α : Type} {P : α → Prop} {a : α} {l : List α} (h : P a) (t : ∀ q ∈ l, P q) : ∀ q ∈ a :: l, P q := List.forall_mem_cons.2 ⟨h, t⟩
theorem allN {α : Type} {P : α → Prop} : ∀ q ∈ ([] : List α), P q := fun _ h => nomatch h
theorem allA {α : Type} {P : α → Prop} {A B : List α} (h : ∀ q ∈ A, P q) (t : ∀ q ∈ B, P q) : ∀ q ∈ A ++ B, P q := fun q hq => (List.mem_append.1 hq).elim (h q) (t q)
theorem room1 {a n k l c : Nat} (h : a + n < l) (e : k + c ≤ n) : a + k + c < l := Nat.lt_of_le_of_lt (Nat.add_assoc a k c ▸ Nat.add_le_add_left e a) h
theorem room0 {a n k l : Nat} (h : a + n < l) (e : k ≤ n) : a + k < l := Nat.lt_of_le_of_lt (Nat.add_le_add_left e a) h
theorem room2 {a n k j l : Nat} (h : a + (n + k) < l) (e : j < k) : a + (n + j) + 1 < l := Nat.lt_of_le_of_lt (Nat.add_le_add_left (Nat.add_le_add_left e n) a) h
theorem room3 {a k j l : Nat} (h : a + (100 + 3 * k) < l) (e : j < k) : a + (100 + 3 * j) + 3 < l := by omega
theorem halves {k Ln Rn j M : Nat} (hj : j = k / 2) (hR : Rn = Ln + k) (hM : M = Ln + j) (h1 : 1 ≤ k) (hn : k ≠ 1) :
    j < k ∧ 1 ≤ j ∧ (Unit → (Ln + Rn) / 2 ^ 1 = M) ∧ (M : Int) - (Ln : Int) = (j : Int) ∧ 1 ≤ k - j ∧ k - j < k ∧ Rn = M + (k - j) ∧ M ≤ Rn := by
  have e : (Ln + Rn) / 2 ^ 1 = M := by omega
  refine ⟨?_, ?_, fun _ => e, ?_, ?_, ?_, ?_, ?_⟩ <;> clear e <;> omega
theorem k_bound {k L R d c : Nat} (hR : R = L + k) (hl : R ≤ d) (hd : d ≤ c) : k ≤ c := Nat.le_trans (hR ▸ Nat.le_add_left k L) (Nat.le_trans hl hd)
end Mine
namespace Mine
open PySem PySem.W PySem.Spec PySem.Calls PyProof.Rows
section
variable {prog : Program} {w : World} {p : Program} {loose : List Str} {mean : ExcName → Option Value} {mg mb : Str → Option Value}
abbrev TF : List (Addr × Obj) → Prop := TabF 88 88 4 (Str.ofString "_digits2int.<locals>.inner") 81 73 4 (Str.ofString "_int2digits.<locals>.inner")
local macro_rules | `(tactic| k_all) => `(tactic| with_reducible assumption)
local macro_rules | `(tactic| k_all) => `(tactic| exact kall_lt (by assumption) (by omega))
theorem i2d_tel (a n : Nat) (t u : Tok) : TelT TF TF prog w (hd.heap_39 w.params) p loose mean mg mb 86 80 400 [.int a t, .int n u] (fun _ => 0 < n ∧ n ≤ 100 ∧ Builtin.Int.intBits (a : Int) ≤ 64) (fun g h' r => ListOut (DigsOut a n) g h' r) := by
  k_with_none
  k_with "my mem" => (first | exact List.mem_cons_self | (refine List.mem_cons_of_mem _ ?_; walk_at "my mem"))
  k_with "my mid" => (first | apply MidAt.here | (apply MidAt.cons; walk_at "my mid"))
  k_with "binaryOp FloorDiv int int" => (k_here; (refine fdiv_as (Builtin.Int.intBits (a : Int) + n - 1) n (by omega) rfl (by omega) (by omega) ?_); intro _ _)
  k_with "binaryOp Mult ref int" => (k_here; k_dflt (refine' zeros_call (nd a n) ?kw3F ?kw3N ?kw3m rfl ?kw3k ?_; (case kw3F => k_asm); (case kw3N => k_asm); (case kw3m => with_reducible walk_at "my mem"); (case kw3k => omega)); intro D h' F' N' l1; (try k_lt l1); (try k_sweep))
  k_with "exec FunctionDef" => (k_here; refine stop_here ?_)
  k_with "eval Name" => (k_here; k_dflt (refine' nameX_FG ?kw5fF ?kw5fc ?kw5fg ?kw5fd ?_ ?kw5fa ?kw5fb; (case kw5fa => rfl); (case kw5fb => rfl); (case kw5fF => k_asm); (case kw5fc => rfl); (case kw5fg => assumption); (case kw5fd => assumption); k_whole))
  k_with "setItem ref int" => (k_here; k_dflt (refine' set_at (i := Ln) ?kw6sF ?kw6sN ?kw6sU ?kw6si ?kw6sj ?_; (case kw6sF => k_asm); (case kw6sN => k_asm); (case kw6sU => k_upd); (case kw6si => omega); (case kw6sj => omega); k_whole); intro h' F' N'; (try k_sweep))
  k_with "binaryOp RShift int int" => (k_here; (first | refine shr_to (Ln + Rn) 1 M (by omega) rfl (hMm ()) ?_ | refine shr_to x SH (x / 2 ^ SH) rfl rfl rfl ?_); intro _ _)
  k_with "binaryOp Mult int int" => (k_here; (refine mul_to SH hmul (by omega) (by omega) ?_); intro _ _)
  k_with "binaryOp LShift int int" => (k_here; (refine shl_to (x / 2 ^ SH) SH _ (n * k) rfl rfl rfl hup hnk hSHb ?_); intro _ _)
  k_with "binaryOp BitXor int int" => (k_here; (refine xor_to x SH _ rfl rfl rfl ?_); intro _ _)
  k_with "callWith ref" => (k_here; k_dflt (refine' callWith_F ?kw11k1 ?_; (case kw11k1 => exact fnAt_base (by k_asm) (by assumption) rfl); k_whole))
  k_with "FnAt" => (k_dflt (exact fnAt_base (by k_asm) (by assumption) rfl))
  k_with "And" => ((with_reducible show FnAt _ _ ∧ _); refine ⟨fnAt_base (by k_asm) (by assumption) rfl, ?_⟩; try dsimp only [List.nil_append, List.cons_append])
  k_with "callWith ref" => (k_here; k_dflt (refine' callWith_F ?kw14k1 ?_; (case kw14k1 => exact FnAt.of (by k_asm) (by k_mem)); k_whole))
  k_with "And" => ((with_reducible show FnAt _ _ ∧ _); refine ⟨FnAt.of (by k_asm) (by k_mem), ?_⟩; try dsimp only [List.nil_append, List.cons_append])
  k_with "call builtin:len" => (k_here; k_dflt (refine' kst_len ?kw16kN ?kw16km ?kw16ke ?kw16kf ?_; (case kw16kN => k_asm); (case kw16km => with_reducible walk_at "my mem"); (case kw16ke => exact List.length_replicate); (case kw16kf => omega); k_whole))
  k_with "call ref" => (k_here; refine stop_here ?_)
  refine' telT_ofC (binds := [(Str.ofString "a", .int a t), (Str.ofString "n", .int n u)]) ?ho ?hcd ?hb ?hl ?h1 ?h2 ?h3 ?h4 ?_
  (case ho => k_is)
  (case hcd => k_is)
  (case hb => intro s; exact BindsTo.of_eq rfl)
  (case hl => exact rfl)
  (case h1 => decide)
  (case h2 => exact rfl)
  (case h3 => exact rfl)
  (case h4 => exact rfl)
  intro dp uu gd outer A₀ base g L' s Q TT cells B F N Y hTL hT X T hd hu hpre hret
  k_cells Y
  obtain ⟨hn0, hn1, hbits⟩ := hpre
  have hkk : nd a n ≤ 64 := Nat.le_trans (nd_le hn0) hbits
  obtain ⟨p1, C1, p2, C2, rfl, hp1, hp2, hne⟩ := hT
  have h44 : @LT.lt Nat _ 88 L' := hTL (88, tabObj p1) (by simp)
  have h37 : @LT.lt Nat _ 81 L' := hTL (81, tabObj p2) (by simp)
  have hC : ∀ q ∈ C1 ++ C2, q.1 < L' := fun q hq => hTL q (.tail _ (.tail _ hq))
  simp only [List.cons_append, List.nil_append] at N
  k_steps
  unfold Stop
  refine' nestDef_K rfl rfl rfl ?_
  rename News _ _ _ _ => N1
  refine' nest_mid (c := 85) (P := 81) (C := C2) ?xm ?xF N1 T (codeHd_of_K X (by with_unfolding_all rfl)) rfl ?x1 ?x2 rfl hp2 ?xs ?_
  (case xm => walk_at "my mid")
  (case xF => k_asm)
  (case x1 => (intro q hq; simp only [List.mem_cons, List.not_mem_nil, or_false] at hq; rcases hq with rfl | rfl | rfl | rfl | rfl | rfl <;> (refine neN ?_; dsimp only; omega)))
  (case x2 => exact fun q hq => (hne q hq).2)
  (case xs => exact fun q hq => List.mem_append_right _ hq)
  intro f c' oc vs t' ctv doc h2 tk2 ps' C' F2 N2 ht' hm hd' hv h3 h4 h5
  have hk3 := off_cells (a := L' + 1 + 1 + 1) hC h3 (by with_reducible walk_at "my mem") (by omega)
  have hk2 := off_cells (a := L' + 1 + 1) hC h3 (by with_reducible walk_at "my mem") (by omega)
  have hk1 := off_cells (a := L' + 1) hC h3 (by with_reducible walk_at "my mem") (by omega)
  have hkD := off_cells (a := D) hC h3 (by with_reducible walk_at "my mem") (by omega)
  have hTn := tab_ne (P1 := 88) (P2 := 81) hne h3 (by with_reducible walk_at "my mem") (by with_reducible walk_at "my mem")
  replace h4 := allLt_of h4
  simp only [AllLt, and_true] at h4
  simp only [List.cons_append, List.nil_append] at N2
  k_steps
  · unfold Stop
    rename News _ _ _ _ => N3
    rename (a : Int) ≠ 0 => ha0
    refine' i2_use (kk := nd a n) (x := a) (D := D) (n := n) (cn := L' + 1) (ca := L' + 1 + 1) (ci := L' + 1 + 1 + 1) (c' := c') ?zi ?zB ?zF X N3 T rfl ?zd ?zu ?zm ?zo ?z1 ?z2 ?z3 ?z4 ?z5 ?z6 ?z7 ?z8 ?z9 ?z10 hd' hv ?z11 ?z12 ?z13 ?z14 ?zr
    (case zB => k_asm)
    (case zF => k_asm)
    (case zd => first | exact room1 (by assumption) (by decide) | exact room0 (by assumption) (by decide) | omega)
    (case zu => first | exact room1 (by assumption) (by decide) | exact room0 (by assumption) (by decide) | omega)
    (case zm => walk_at "my mid")
    (case z1 => with_reducible walk_at "my mem")
    (case z2 => (refine neN ?_; omega))
    (case z3 => with_reducible walk_at "my mem")
    (case z4 => (refine neN ?_; omega))
    (case z5 => with_reducible walk_at "my mem")
    (case z6 => (refine neN ?_; omega))
    (case z7 => with_reducible walk_at "my mem")
    (case z8 => (refine neN ?_; omega))
    (case z9 => (repeat (first | exact List.mem_append_right _ hm | refine List.mem_cons_of_mem _ ?_)))
    (case zo => (intro q hq; simp only [List.cons_append, List.nil_append, List.mem_cons] at hq; rcases hq with rfl | rfl | rfl | rfl | rfl | rfl | rfl | hq; all_goals first | exact hkD q hq | (refine neN ?_; dsimp only; omega)))
    (case z10 => exact hkD _ (List.mem_append_right _ hm))
    (case z11 => exact ints_rep _ _)
    (case z12 => exact nd_pos hn0 (by omega))
    (case z13 => omega)
    (case z14 => exact nd_fits hn0)
    (case zi =>
      intro k IH Ln Rn x ds t1 t2 t3 hR hk1 hRl hds hx
      refine' telT_ofX (binds := [(Str.ofString "x", .int x t1), (Str.ofString "L", .int Ln t2), (Str.ofString "R", .int Rn t3)]) ?y0 (fun g h => h.1) ?y1 ?y2 ?y3 ?y4 ?y5 ?y6 ?_
      (case y0 => exact rfl)
      (case y1 => intro s; exact BindsTo.of_eq rfl)
      (case y2 => exact locs rfl)
      (case y3 => decide)
      (case y4 => exact rfl)
      (case y5 => exact rfl)
      (case y6 => exact rfl)
      (try clear B); (try clear F2); (try clear N2); (try clear N3); (try clear hret); (try clear hTL); (try clear hC); (try clear hne); (try clear hp1); (try clear hp2); (try clear ht'); (try clear hd'); (try clear hv); (try clear h3); (try clear h4); (try clear h5); (try clear hk2); (try clear hk3); (try clear hkD); (try clear hTn); (try clear h44); (try clear h37); (try clear hd); (try clear hu); (try clear X); (try clear T); (try clear N); (try clear F)
      intro dp uu gd outer A₀ base g L2 s Q TT B F N hTL hT X T hd hu hpre hret
      obtain ⟨vsx, nnx, rfl, hIx⟩ := hT
      obtain ⟨⟨hgf, hgc⟩, hgn, hga, hgi⟩ := hpre
      have hlx : vsx.length = ds.length := by have := hIx.length; simpa using this
      by_cases h1 : k = 1
      · subst h1
        k_steps
        all_goals (try dsimp only)
        · exact hret .none _ _ _ (Fr.keep (by assumption)) (listIs_one (by assumption) (by omega) hx) (by assumption) rfl
        · exfalso; omega
      · obtain ⟨j, hj⟩ : ∃ j, j = k / 2 := ⟨_, rfl⟩
        obtain ⟨M, hM⟩ : ∃ M, M = Ln + j := ⟨_, rfl⟩
        obtain ⟨SH, hSH⟩ : ∃ SH, SH = j * n := ⟨_, rfl⟩
        obtain ⟨hjk, hj1, hMm, hMj, hkj1, hkj, hRM, hMR⟩ := halves hj hR hM hk1 h1
        clear hj
        have hmul : ((M : Int) - (Ln : Int)) * (n : Int) = (SH : Int) := by rw [hSH, hMj]; simp
        clear hMj
        have hxb : x < 2 ^ (n * k) := by rw [Nat.pow_mul]; exact hx
        have hnk : n * k ≤ 1000000 := Nat.le_trans (Nat.mul_le_mul hn1 (k_bound hR hRl hds)) (by decide)
        have hSHb : SH ≤ 1000000 := by rw [hSH, Nat.mul_comm]; exact Nat.le_trans (Nat.mul_le_mul_left n (Nat.le_of_lt hjk)) hnk
        have hup : x / 2 ^ SH < 2 ^ (n * k) := Nat.lt_of_le_of_lt (Nat.div_le_self _ _) hxb
        k_steps
        · exfalso; omega
        · unfold Stop
          refine' telT_useM (D := D) (IH j hjk Ln M (x % 2 ^ SH) ds _ _ _ hM hj1 (Nat.le_trans hMR hRl) hds (by rw [hSH]; exact low_lt)) ?vB ?vF X ?vN T rfl ?vd ?vu ?vm ?vt ?vo ?vp ?vr
          (case vB => k_asm)
          (case vF => k_asm)
          (case vN => k_asm)
          (case vd => exact room2 hd hjk)
          (case vu => exact room3 hu hjk)
          (case vm => exact MidAt.here)
          (case vt => exact ⟨_, _, rfl, hIx⟩)
          (case vo => simp)
          (case vp => exact fun _ hst => ⟨⟨hst _ _ hgf, hgc.keeps hst⟩, hst _ _ hgn, hst _ _ hga, hst _ _ hgi⟩)
          (case vr =>
            intro r6 h6 tk6 T6 F6 N6 hT6 hr6
            obtain ⟨vs6, nn6, rfl, hI6⟩ := hT6
            subst hr6
            simp only [List.append_nil] at N6
            k_steps
            unfold Stop
            refine' telT_useM (D := D) (IH (k - j) hkj M Rn (x / 2 ^ SH) (put ds Ln (digs (2 ^ n) j (x % 2 ^ SH))) _ _ _ hRM hkj1 ?w1 ?w2 (by rw [hSH]; exact up_lt (Nat.le_of_lt hjk) hx)) ?wB ?wF X ?wN T rfl ?wd ?wu ?wm ?wt ?wo ?wp ?wr
            (case w1 => (rw [put_length (by rw [digs_length, ← hM]; exact Nat.le_trans hMR hRl)]; exact hRl))
            (case w2 => (rw [put_length (by rw [digs_length, ← hM]; exact Nat.le_trans hMR hRl)]; exact hds))
            (case wB => k_asm)
            (case wF => k_asm)
            (case wN => k_asm)
            (case wd => exact room2 hd hkj)
            (case wu => exact room3 hu hkj)
            (case wm => exact MidAt.here)
            (case wt => exact ⟨_, _, rfl, hI6⟩)
            (case wo => simp)
            (case wp => exact fun _ hst => ⟨⟨hst _ _ hgf, hgc.keeps hst⟩, hst _ _ hgn, hst _ _ hga, hst _ _ hgi⟩)
            (case wr =>
              intro r7 h7 tk7 T7 F7 N7 hT7 hr7
              obtain ⟨vs7, nn7, rfl, hI7⟩ := hT7
              subst hr7
              simp only [List.append_nil] at N7
              k_steps
              all_goals (try dsimp only)
              rw [hSH, put_two hM hR hjk hRl] at hI7
              exact hret .none _ _ _ (Fr.keep (by assumption)) ⟨_, _, rfl, hI7⟩ (by assumption) rfl)))
    (case zr =>
      intro h5' tk5 vs5 nn5 F5 N5 hI5
      simp only [List.cons_append, List.nil_append] at N5
      k_steps
      all_goals (try dsimp only)
      refine hret _ _ _ ((88, tabObj p1) :: (81, tabObj ps') :: (C1 ++ C')) (Fr.keep (by assumption)) ⟨p1, C1, ps', C', rfl, hp1, ht', hTn⟩ (fun q hq => N5 q ?_) (list_out N5 (.head _) ⟨_, hI5, by rw [digs_length]; exact hkk, digs_lt (Nat.pow_pos (by decide)) _ _, digs_val _ _ (nd_fits hn0)⟩)
      simp only [List.mem_cons, List.mem_append] at hq ⊢
      rcases hq with h | h | h | h <;> simp [h])
  · rename News _ _ _ _ => N3
    have ha0 : a = 0 := by omega
    refine hret _ _ _ ((88, tabObj p1) :: (81, tabObj ps') :: (C1 ++ C')) (Fr.keep (by assumption)) ⟨p1, C1, ps', C', rfl, hp1, ht', hTn⟩ (fun q hq => N3 q ?_) (list_out N3 (by with_reducible walk_at "my mem") ⟨[], ?_, by simp, by simp, ha0.symm⟩)
    · simp only [List.mem_cons, List.mem_append] at hq ⊢
      rcases hq with h | h | h | h <;> simp [h]
    · subst ha0
      rw [nd_zero hn0]
      exact .nil
end
end Mine
namespace Mine
open PySem PySem.W PySem.Spec PySem.Calls PyProof.Rows
section
variable {prog : Program} {w : World} {p : Program} {loose : List Str} {mean : ExcName → Option Value} {mg mb : Str → Option Value}
local macro_rules | `(tactic| k_all) => `(tactic| with_reducible assumption)
local macro_rules | `(tactic| k_all) => `(tactic| exact kall_lt (by assumption) (by omega))

theorem d2i_tel (l : Addr) (vs : List Value) (ds : List Nat) (n : Nat) (u : Tok) (hI : IntsAre vs (ds.map (fun d : Nat => (d : Int)))) (hlen : ds.length ≤ 64) (hlt : ∀ d ∈ ds, d < 2 ^ n) : TelT TF TF prog w (hd.heap_39 w.params) p loose mean mg mb 93 80 400 [.ref l, .int n u] (fun g => (0 < n ∧ n ≤ 100) ∧ g.IsList l vs.toArray) (fun _ _ r => IsI (valB (2 ^ n) ds : Nat) r) := by
  k_with_none
  k_with "my mem" => (first | exact List.mem_cons_self | (refine List.mem_cons_of_mem _ ?_; walk_at "my mem"))
  k_with "my mid" => (first | apply MidAt.here | (apply MidAt.cons; walk_at "my mid"))
  k_with "exec FunctionDef" => (k_here; refine stop_here ?_)
  k_with "eval Name" => (k_here; k_dflt (refine' nameX_FG ?kw3fF ?kw3fc ?kw3fg ?kw3fd ?_ ?kw3fa ?kw3fb; (case kw3fa => rfl); (case kw3fb => rfl); (case kw3fF => k_asm); (case kw3fc => rfl); (case kw3fg => assumption); (case kw3fd => first | assumption | exact rfl); k_whole))
  k_with "binaryOp RShift int int" => (k_here; (first | refine shr_to (Ln + Rn) 1 M (by omega) rfl (hMm ()) ?_ | fail); intro _ _)
  k_with "binaryOp Mult int int" => (k_here; (refine mul_to SH hmul (by omega) (by omega) ?_); intro _ _)
  k_with "binaryOp LShift int int" => (k_here; (refine shl_to (valB (2 ^ n) (seg ds M (k - j))) SH _ (n * (k - j)) rfl rfl rfl hup hnk hSHb ?_); intro _ _)
  k_with "callWith ref" => (k_here; k_dflt (refine' callWith_F ?kw7k1 ?_; (case kw7k1 => exact fnAt_base (by k_asm) (by assumption) rfl); k_whole))
  k_with "FnAt" => (k_dflt (exact fnAt_base (by k_asm) (by assumption) rfl))
  k_with "And" => ((with_reducible show FnAt _ _ ∧ _); refine ⟨fnAt_base (by k_asm) (by assumption) rfl, ?_⟩; try dsimp only [List.nil_append, List.cons_append])
  k_with "callWith ref" => (k_here; k_dflt (refine' callWith_F ?kw10k1 ?_; (case kw10k1 => exact FnAt.of (by k_asm) (by k_mem)); k_whole))
  k_with "And" => ((with_reducible show FnAt _ _ ∧ _); refine ⟨FnAt.of (by k_asm) (by k_mem), ?_⟩; try dsimp only [List.nil_append, List.cons_append])
  k_with "call ref" => (k_here; refine stop_here ?_)
  k_with "getItem ref int" => (k_here; k_dflt (refine' item_ints (B := 2 ^ n) (i := Ln) ?kw13gl hI ?kw13ge ?kw13gi ?kw13gn ?_; (case kw13gl => exact Heap.IsList.at hgl fun o e => Fr.keep (by assumption) _ _ e); (case kw13ge => omega); (case kw13gi => omega); (case kw13gn => omega); k_whole); intro _)
  refine' telT_ofC (binds := [(Str.ofString "digits", .ref l), (Str.ofString "n", .int n u)]) ?ho ?hcd ?hb ?hl ?h1 ?h2 ?h3 ?h4 ?_
  (case ho => k_is)
  (case hcd => k_is)
  (case hb => intro s; exact BindsTo.of_eq rfl)
  (case hl => exact rfl)
  (case h1 => decide)
  (case h2 => exact rfl)
  (case h3 => exact rfl)
  (case h4 => exact rfl)
  intro dp uu gd outer A₀ base g L' s Q TT cells B F N Y hTL hT X T hd hu hpre hret
  k_cells Y
  obtain ⟨⟨hn0, hn1⟩, hl⟩ := hpre
  obtain ⟨p1, C1, p2, C2, rfl, hp1, hp2, hne⟩ := hT
  have h44 : @LT.lt Nat _ 88 L' := hTL (88, tabObj p1) (by simp)
  have h37 : @LT.lt Nat _ 81 L' := hTL (81, tabObj p2) (by simp)
  have hC : ∀ q ∈ C1 ++ C2, q.1 < L' := fun q hq => hTL q (.tail _ (.tail _ hq))
  simp only [List.cons_append, List.nil_append] at N
  k_steps
  unfold Stop
  refine' nestDef_K rfl rfl rfl ?_
  rename News _ _ _ _ => N1
  refine' nest_mid (c := 92) (P := 88) (C := C1) ?xm ?xF N1 T (codeHd_of_K X (by with_unfolding_all rfl)) rfl ?x1 ?x2 rfl hp1 ?xs ?_
  (case xm => walk_at "my mid")
  (case xF => k_asm)
  (case x1 => (intro q hq; simp only [List.mem_cons, List.not_mem_nil, or_false] at hq; rcases hq with rfl | rfl | rfl <;> (refine neN ?_; dsimp only; omega)))
  (case x2 => (intro q hq; rcases List.mem_cons.mp hq with rfl | hq; exact neN (by dsimp only; omega); exact (hne q hq).1))
  (case xs => exact fun q hq => List.mem_cons_of_mem _ (List.mem_append_left _ hq))
  intro f c' oc vsf t' ctv doc h2 tk2 ps' C' F2 N2 ht' hm hd' hv h3 h4 h5
  have hk3 := off_cells1 (a := L' + 1 + 1 + 1) hC h3 (by with_reducible walk_at "my mem") (by omega)
  have hk2 := off_cells1 (a := L' + 1 + 1) hC h3 (by with_reducible walk_at "my mem") (by omega)
  have hk1 := off_cells1 (a := L' + 1) hC h3 (by with_reducible walk_at "my mem") (by omega)
  have hTn := tab_ne1 (P1 := 88) (P2 := 81) hne h3 (by with_reducible walk_at "my mem") (by with_reducible walk_at "my mem")
  replace h4 := allLt_of h4
  simp only [AllLt, and_true] at h4
  simp only [List.cons_append, List.nil_append] at N2
  k_steps
  · unfold Stop
    rename News _ _ _ _ => N3
    have hkk : (ds.map (fun d : Nat => (d : Int))).length = ds.length := by simp
    have hkp : 1 ≤ (ds.map (fun d : Nat => (d : Int))).length := by omega
    refine' d2_use (kk := (ds.map (fun d : Nat => (d : Int))).length) (l := l) (vs := vs) (ds := ds) (n := n) (cn := L' + 1) (ca := L' + 1 + 1) (ci := L' + 1 + 1 + 1) (c' := c') ?zi ?zB ?zF X N3 T rfl ?zd ?zu ?z1 ?z3 ?z5 ?z7 ?z9 hd' hv hl hkk hkp ?zr
    (case zB => k_asm)
    (case zF => k_asm)
    (case zd => first | exact room1 (by assumption) (by decide) | exact room0 (by assumption) (by decide) | omega)
    (case zu => first | exact room1 (by assumption) (by decide) | exact room0 (by assumption) (by decide) | omega)
    (case z1 => with_reducible walk_at "my mem")
    (case z3 => with_reducible walk_at "my mem")
    (case z5 => with_reducible walk_at "my mem")
    (case z7 => with_reducible walk_at "my mem")
    (case z9 => (repeat (first | exact List.mem_append_right _ hm | refine List.mem_cons_of_mem _ ?_)))
    (case zi =>
      intro k IH Ln Rn t2 t3 hR hk1 hRl
      clear hkk hkp
      refine' tel_ofX (binds := [(Str.ofString "L", .int Ln t2), (Str.ofString "R", .int Rn t3)]) ?y0 (fun g h => h.1) ?y1 ?y2 ?y3 ?y4 ?y5 ?y6 ?_
      (case y0 => exact rfl)
      (case y1 => intro s; exact BindsTo.of_eq rfl)
      (case y2 => exact locs rfl)
      (case y3 => decide)
      (case y4 => exact rfl)
      (case y5 => exact rfl)
      (case y6 => exact rfl)
      (try clear B); (try clear F2); (try clear N2); (try clear N3); (try clear hret); (try clear hTL); (try clear hC); (try clear hne); (try clear hp1); (try clear hp2); (try clear ht'); (try clear hd'); (try clear hv); (try clear h3); (try clear h4); (try clear h5); (try clear hk2); (try clear hk3); (try clear hTn); (try clear h44); (try clear h37); (try clear hd); (try clear hu); (try clear X); (try clear T); (try clear N); (try clear F); (try clear hl)
      intro dp uu gd outer A₀ base g L2 s Q B F N X T hd hu hpre hret
      obtain ⟨⟨hgf, hgc⟩, hgn, hga, hgi, hgl⟩ := hpre
      by_cases h1 : k = 1
      · subst h1
        k_steps
        all_goals (try dsimp only)
        · exact hret _ _ _ (Fr.keep (by assumption)) ⟨_, congrArg (Value.int · _) (seg_getD (B := 2 ^ n) (show Ln < ds.length by omega))⟩
        · exfalso; omega
      · obtain ⟨j, hj⟩ : ∃ j, j = k / 2 := ⟨_, rfl⟩
        obtain ⟨M, hM⟩ : ∃ M, M = Ln + j := ⟨_, rfl⟩
        obtain ⟨SH, hSH⟩ : ∃ SH, SH = j * n := ⟨_, rfl⟩
        obtain ⟨hjk, hj1, hMm, hMj, hkj1, hkj, hRM, hMR⟩ := halves hj hR hM hk1 h1
        clear hj
        have hmul : ((M : Int) - (Ln : Int)) * (n : Int) = (SH : Int) := by rw [hSH, hMj]; simp
        clear hMj
        have hnk : n * (k - j) ≤ 1000000 := Nat.le_trans (Nat.mul_le_mul hn1 (Nat.le_trans (Nat.sub_le _ _) (k_bound (c := 1000) hR hRl (Nat.le_trans hlen (by decide))))) (by decide)
        have hSHb : SH ≤ 1000000 := by rw [hSH, Nat.mul_comm]; exact Nat.le_trans (Nat.mul_le_mul hn1 (Nat.le_trans (Nat.le_of_lt hjk) (k_bound (c := 1000) hR hRl (Nat.le_trans hlen (by decide))))) (by decide)
        have hup : valB (2 ^ n) (seg ds M (k - j)) < 2 ^ (n * (k - j)) := seg_lt hlt (hRM ▸ hRl)
        k_steps
        · exfalso; omega
        · unfold Stop
          refine' tel_use (IH (k - j) hkj M Rn _ _ hRM hkj1 hRl) ?vB ?vF X ?vN T rfl ?vd ?vu ?vp ?vr
          (case vB => k_asm)
          (case vF => k_asm)
          (case vN => k_asm)
          (case vd => exact room2 hd hkj)
          (case vu => exact room3 hu hkj)
          (case vp => (rename Fr _ _ _ _ => F5; exact ⟨⟨F5.keep _ _ hgf, hgc.keeps F5.keep⟩, F5.keep _ _ hgn, F5.keep _ _ hga, F5.keep _ _ hgi, Heap.IsList.at hgl fun o e => F5.keep _ _ e⟩))
          (case vr =>
            intro r6 h6 tk6 F6 N6 _ hr6
            obtain ⟨t6, rfl⟩ := hr6
            k_steps
            unfold Stop
            refine' tel_use (IH j hjk Ln M _ _ hM hj1 (Nat.le_trans hMR hRl)) ?wB ?wF X ?wN T rfl ?wd ?wu ?wp ?wr
            (case wB => k_asm)
            (case wF => k_asm)
            (case wN => k_asm)
            (case wd => exact room2 hd hjk)
            (case wu => exact room3 hu hjk)
            (case wp => (rename Fr _ _ _ _ => F5; exact ⟨⟨F5.keep _ _ hgf, hgc.keeps F5.keep⟩, F5.keep _ _ hgn, F5.keep _ _ hga, F5.keep _ _ hgi, Heap.IsList.at hgl fun o e => F5.keep _ _ e⟩))
            (case wr =>
              intro r7 h7 tk7 F7 N7 _ hr7
              obtain ⟨t7, rfl⟩ := hr7
              k_steps
              all_goals (try dsimp only)
              exact hret _ _ _ (Fr.keep (by assumption)) ⟨_, congrArg (Value.int · _) (seg_sum hM hSH (Nat.le_of_lt hjk) (show Ln + k ≤ ds.length from hR ▸ hRl))⟩)))
    (case zr =>
      intro r h5' tk5 F5 N5 hr5
      obtain ⟨t5, rfl⟩ := hr5
      k_steps
      all_goals (try dsimp only)
      refine hret _ _ _ ((88, tabObj ps') :: (81, tabObj p2) :: (C' ++ C2)) (Fr.keep (by assumption)) ⟨ps', C', p2, C2, rfl, ht', hp2, hTn⟩ (fun q hq => N5 q ?_) ⟨_, rfl⟩
      simp only [List.mem_cons, List.mem_append] at hq ⊢
      rcases hq with h | h | h | h <;> simp [h])
  · rename News _ _ _ _ => N3
    have hd0 : ds = [] := by
      apply List.length_eq_zero_iff.mp
      have hkk : (ds.map (fun d : Nat => (d : Int))).length = ds.length := by simp
      omega
    refine hret _ _ _ ((88, tabObj ps') :: (81, tabObj p2) :: (C' ++ C2)) (Fr.keep (by assumption)) ⟨ps', C', p2, C2, rfl, ht', hp2, hTn⟩ (fun q hq => N3 q ?_) ⟨_, congrArg (Value.int · _) ?_⟩
    · simp only [List.mem_cons, List.mem_append] at hq ⊢
      rcases hq with h | h | h | h <;> simp [h]
    · subst hd0
      rfl
end
end Mine
namespace Mine
open PySem PySem.W PySem.Spec PySem.Calls PyProof.Rows
section
variable {prog : Program} {w : World} {p : Program} {loose : List Str} {mean : ExcName → Option Value} {mg mb : Str → Option Value}
theorem div2n1n_tel (a b n : Int) (t u v : Tok) : Tel prog w (hd.heap_39 w.params) p loose mean mg mb 72 10 100 [.int a t, .int b u, .int n v] (fun _ => (0 < b ∧ b < 1073741824) ∧ ((Builtin.Int.intBits a : Nat) : Int) - n ≤ 4000) (fun g h' r => PairOut (IsI (a.fdiv b)) (IsI (a.fmod b)) g h' r) := by
  refine' tel_of (binds := [(Str.ofString "a", .int a t), (Str.ofString "b", .int b u), (Str.ofString "n", .int n v)]) ?ho ?hcd ?hb ?hl ?h1 ?h2 ?h3 ?h4 ?_
  (case ho => k_is)
  (case hcd => k_is)
  (case hb => intro s; exact BindsTo.of_eq rfl)
  (case hl => exact locs rfl)
  (case h1 => decide)
  (case h2 => exact rfl)
  (case h3 => exact rfl)
  (case h4 => exact rfl)
  intro dp uu gd outer A₀ base g L' s Q B F N X T hd hu hpre hret
  obtain ⟨hb, hbits⟩ := hpre
  k_steps
  all_goals (try dsimp only)
  exact hret _ _ _ (Fr.keep (by assumption)) (pair_out (by assumption) (by k_mem) ⟨_, rfl⟩ ⟨_, rfl⟩)
end
end Mine
namespace Mine
open PySem PySem.W PySem.Spec PySem.Calls PyProof.Rows
section
variable {prog : Program} {w : World} {p : Program} {loose : List Str} {mean : ExcName → Option Value} {mg mb : Str → Option Value}
local macro_rules | `(tactic| k_all) => `(tactic| with_reducible assumption)
local macro_rules | `(tactic| k_all) => `(tactic| exact kall_lt (by assumption) (by omega))
theorem dpos_tel (a b : Nat) (t u : Tok) : TelT TF TF prog w (hd.heap_39 w.params) p loose mean mg mb 100 90 500 [.int a t, .int b u] (fun _ => (0 < b ∧ b < 1073741824) ∧ Builtin.Int.intBits (a : Int) ≤ 64) (fun g h' r => PairOut (IsI (a / b : Nat)) (IsI (a % b : Nat)) g h' r) := by
  k_with_none
  k_with "exec For Name Name cons nil" => (k_here; (rename Fr _ _ _ _ => lF'); (with_unfolding_all refine' For_invVF lF' ?kw0k1 ?kw0k2 ?_; (case kw0k1 => exact rfl); (case kw0k2 => exact rfl); k_whole))
  k_with "exec For Name Call cons nil" => (k_here; (rename Fr _ _ _ _ => lF'); (with_unfolding_all refine' For_invVF lF' ?kw1k1 ?kw1k2 ?_; (case kw1k1 => exact rfl); (case kw1k2 => exact rfl); k_whole))
  k_with "pyIter str" => (k_here; refine stop_here ?_)
  k_with "pyIter ref" => (k_here; refine stop_here ?_)
  k_with "my mem" => (first | exact List.mem_cons_self | (refine List.mem_cons_of_mem _ ?_; walk_at "my mem"))
  k_with "my cut" => (first | apply Cut.here | (apply Cut.cons; walk_at "my cut"))
  k_with "call ref" => (k_here; refine stop_here ?_)
  k_with "binaryOp LShift int int" => (k_here; (refine shl_to c.r n _ 30 rfl rfl rfl (by omega) (by omega) (by omega) ?_); intro _ _)
  k_with "binaryOp Add int int" => (k_here; (refine add_to (c.r * 2 ^ n + dd) (Int.natCast_add _ _).symm ?_); intro _ _)
  k_with "call builtin:list.reverse" => (k_here; refine stop_here ?_)
  k_with "call builtin:list.append" => (k_here; k_dflt (refine' append_K ?kw10k1 ?kw10k2 ?kw10k3 ?_ ?kw10z; (case kw10k1 => k_asm); (case kw10k2 => k_asm); (case kw10k3 => k_upd); (case kw10z => (simp only [List.size_toArray, sizeLine_eq]; omega)); k_whole); intro h' F' N'; (try k_sweep))
  refine' telT_ofL (binds := [(Str.ofString "a", .int a t), (Str.ofString "b", .int b u)]) ?ho ?hcd ?hb ?hl ?h1 ?h2 ?h3 ?h4 ?_
  (case ho => k_is)
  (case hcd => k_is)
  (case hb => intro s; exact BindsTo.of_eq rfl)
  (case hl => exact locs rfl)
  (case h1 => decide)
  (case h2 => exact rfl)
  (case h3 => exact rfl)
  (case h4 => exact rfl)
  intro dp uu gd outer A₀ base g L' s Q TT B F N hTL hT X T hd hu hpre hret
  obtain ⟨⟨hb0, hb1⟩, hbits⟩ := hpre
  obtain ⟨n, hn⟩ : ∃ n, n = Builtin.Int.intBits (b : Int) := ⟨_, rfl⟩
  have hn0 : 0 < n := by
    rw [hn]
    rcases Nat.eq_zero_or_pos (Builtin.Int.intBits (b : Int)) with h | h
    · have := lt_bits b
      rw [h] at this
      simp at this
      omega
    · exact h
  have hn1 : n ≤ 30 := by rw [hn]; exact bits_le hb1
  have hbn : b < 2 ^ n := by rw [hn]; exact lt_bits b
  k_steps
  unfold Stop
  have hn' := hn.symm
  clear hn
  simp only [hn'] at *
  refine' telT_call (i2d_tel a n _ _) ?vB ?vF X ?vN T rfl ?vd ?vu hT ?vc ?vo ?vp ?vr
  (case vB => k_asm)
  (case vF => k_asm)
  (case vN => k_asm)
  (case vd => first | exact room1 (by assumption) (by decide) | exact room0 (by assumption) (by decide) | omega)
  (case vu => first | exact room1 (by assumption) (by decide) | exact room0 (by assumption) (by decide) | omega)
  (case vc => exact .here)
  (case vo => simp)
  (case vp => exact fun _ _ => ⟨hn0, by omega, hbits⟩)
  (case vr =>
    intro r1 h1 tk1 T1 F1 N1 hT1 ho1 st1 hO1 hN1
    obtain ⟨R1, vs1, nn1, rfl, ⟨ds, hI, hlen, hlt, hval⟩, hR1, hn1'⟩ := hO1
    have hT1R := hT1.off N1 hR1 rfl
    replace N1 := (hN1 R1 _ hR1 hn1').1
    clear hN1 ho1 st1 hR1 hn1'
    (try clear N); (try clear F)
    simp only [List.nil_append] at N1
    k_steps
    unfold Stop
    rename_i Dq hq1 lq1 hq2 Dr hq3 Fq Nq lq2
    have hTq := allLt_off lq1.2
    have hlen1 : vs1.length = ds.length := by have := hI.length; simpa using this
    refine' for_rev (σ := DV) (l := R1) (I := Dr) (vs := vs1) ((R1, listOf vs1.toArray nn1) :: T1) (DV.led Dq) (fun c => [(Str.ofString "r", .int c.r c.t)]) [Str.ofString "q_digit"] (DV.ok ds n b) ⟨[], [], 0, 0, _⟩ rfl ?_i ?_l ?_ne ?_lI ?_ll Fq Nq ?_sub ?_k ?_j ?turn ?done
    (case _i => exact List.mem_cons_self)
    (case _l => walk_at "my mem")
    (case _ne => (refine neN ?_; omega))
    (case _lI => exact fun q hq => Nat.ne_of_lt (allLt_at (l := (Dq, listOf #[] 0) :: (R1, listOf vs1.toArray nn1) :: T1) lq2 q hq))
    (case _ll => (intro q hq; cases List.mem_singleton.mp hq; refine neN ?_; dsimp only; omega))
    (case _sub => (intro q hq; exact List.mem_cons_of_mem _ hq))
    (case _k => (intro q hq; cases List.mem_singleton.mp hq; rfl))
    (case _j => exact DV.start hb0)
    (case turn =>
      intro i c v u2 h3 tk3 own hv hoff hJ F3 N3
      obtain ⟨dd, td, rfl, hi, hdd⟩ := rev_at hI hv
      obtain ⟨hj1, hj2, hj3, hj4, hj5⟩ := id hJ
      have hdlt : dd < 2 ^ n := hlt dd (List.mem_of_getElem? hdd)
      have hbig := dv_small hj4 hdlt hb1 hn1
      simp only [DV.led, List.cons_append, List.nil_append] at N3
      have hlc : c.vs.length ≤ 64 := by have := hj1.length; simp at this; omega
      have hTo : ∀ q ∈ T1 ++ own, q.1 ≠ Dq := fun q hq => (List.mem_append.mp hq).elim (hTq q) fun h => hoff q h Dq (by simp [DV.led])
      have hRD : @LT.lt Nat _ R1 Dq := lq1.1
      k_steps
      unfold Stop
      refine' tel_use (div2n1n_tel _ _ _ _ _ _) ?wB ?wF X ?wN T rfl ?wd ?wu ?wp ?wr
      (case wB => k_asm)
      (case wF => k_asm)
      (case wN => k_asm)
      (case wd => first | exact room1 (by assumption) (by decide) | exact room0 (by assumption) (by decide) | omega)
      (case wu => first | exact room1 (by assumption) (by decide) | exact room0 (by assumption) (by decide) | omega)
      (case wp => (refine ⟨⟨by omega, by omega⟩, ?_⟩; have := bits_le hbig; omega))
      (case wr =>
        intro r4 h4 tk4 F4 N4 st4 hO4
        obtain ⟨R4, x4, y4, rfl, ⟨t5, rfl⟩, ⟨t6, rfl⟩, hg4, hn4⟩ := hO4
        rw [fdiv_nat, fmod_nat] at hg4
        replace N4 := new_at hg4 hn4 N4 (by assumption)
        have hRq : @Ne Nat R4 Dq := fun e => by
          have := (N3 _ List.mem_cons_self).1
          rw [← e, hn4] at this
          cases this
        clear st4 hg4 hn4
        k_steps
        rename News _ _ _ _ => N5
        rename Fr _ _ _ _ => F5
        (try dsimp only [InvPostN])
        refine' ⟨_, _, _, _, _, rfl, F5, N5, ?zs, ?zo, ?za, ⟨c.qs ++ [(c.r * 2 ^ n + dd) / b], c.vs ++ [.int (((c.r * 2 ^ n + dd) / b : Nat) : Int) t5], c.nn + 1, (c.r * 2 ^ n + dd) % b, t6⟩, rfl, ?zp, ?zr, ?zj⟩
        (case zj => exact DV.step hbn hJ hi hdd hdlt)
        (case za => rfl)
        (case zs => (intro q hq; cases List.mem_singleton.mp hq; simp only [List.push_toArray]; walk_at "my mem"))
        (case zp => (intro q hq; cases List.mem_singleton.mp hq; rfl))
        (case zo => (intro q hq; simp only [List.mem_cons, List.mem_append] at hq ⊢; rcases hq with h | h | h <;> simp [h]))
        (case zr =>
          intro z hz1 hz2 hz3
          have hr : z ≠ Str.ofString "r" := hz2 _ List.mem_cons_self
          have hq : z ≠ Str.ofString "q_digit" := fun e => by rw [e] at hz3; exact absurd hz3 (by decide)
          simp [kstB, hz1, hr, hq])))
    (case done =>
      intro c u2 h3 tk3 hJ F3 N3
      have hJ1 : DV.ok ds n b ds.length c := hlen1 ▸ hJ
      obtain ⟨hj1, hj2, hj3, hj4, hj5⟩ := id hJ
      simp only [DV.led, List.cons_append, List.nil_append] at N3
      have hlc : c.vs.length ≤ 64 := by have := hj1.length; simp at this; omega
      have hRD : @LT.lt Nat _ R1 Dq := lq1.1
      k_steps
      unfold Stop
      show wpAny _ _ (call (Value.builtin "list.reverse") [Value.ref Dq]) _ _ _
      refine' kl_reverse (l := c.vs.reverse) ?F ?N ?e ?U ?z ?_
      (case F => k_asm)
      (case N => k_asm)
      (case U => (refine Upd.head ?_; refine List.forall_mem_cons.mpr ⟨?_, ?_⟩; (refine neN ?_; dsimp only; omega); exact hTq))
      (case e => simp)
      (case z => (show c.vs.length ≤ _; rw [sizeLine_eq]; omega))
      intro h5 F5 N5
      k_steps
      unfold Stop
      refine' telT_call (d2i_tel Dq c.vs.reverse c.qs.reverse n _ (by rw [List.map_reverse]; exact ints_rev hj1) (by rw [List.length_reverse, hj2]; omega) (fun d hd => hj3 d (List.mem_reverse.mp hd))) ?xB ?xF X ?xN T rfl ?xd ?xu hT1 ?xc ?xo ?xp ?xr
      (case xB => k_asm)
      (case xF => k_asm)
      (case xN => k_asm)
      (case xd => first | exact room1 (by assumption) (by decide) | exact room0 (by assumption) (by decide) | omega)
      (case xu => first | exact room1 (by assumption) (by decide) | exact room0 (by assumption) (by decide) | omega)
      (case xc => walk_at "my cut")
      (case xo => (intro q hq; simp only [List.mem_cons, List.not_mem_nil, or_false] at hq; rcases hq with rfl | rfl; exact hTq; exact hT1R))
      (case xp => exact fun hst _ => ⟨⟨hn0, by omega⟩, ⟨_, hst _ List.mem_cons_self, rfl, _, rfl⟩⟩)
      (case xr =>
        intro r6 h6 tk6 T6 F6 N6 hT6 ho6 st6 hO6 hN6
        obtain ⟨t6, rfl⟩ := hO6
        clear hN6 st6
        k_steps
        rename News _ _ _ _ => N7
        obtain ⟨e1, e2⟩ := DV.fin hJ1 hval
        refine hret _ _ _ T6 (Fr.keep (by assumption)) hT6 (fun q hq => N7 q (by simp [hq])) (pair_out N7 List.mem_cons_self ⟨_, congrArg (Value.int · _) (congrArg (fun z : Nat => (z : Int)) e1)⟩ ⟨_, congrArg (Value.int · _) (congrArg (fun z : Nat => (z : Int)) e2)⟩))))
end
end Mine
namespace Mine
open PySem PySem.W PySem.Spec PySem.Calls PyProof.Rows
section
variable {prog : Program} {w : World} {p : Program} {loose : List Str} {mean : ExcName → Option Value} {mg mb : Str → Option Value}
local macro_rules | `(tactic| k_all) => `(tactic| with_reducible assumption)
theorem idp_tel (a b : Nat) (t u : Tok) : TelT TF TF prog w (hd.heap_39 w.params) p loose mean mg mb 107 100 600 [.int (a : Int) t, .int (b : Int) u] (fun _ => (0 < b ∧ b < 1073741824) ∧ Builtin.Int.intBits (a : Int) ≤ 64) (fun g h' r => PairOut (IsI (a / b : Nat)) (IsI (a % b : Nat)) g h' r) := by
  k_with_none
  k_with "my mem" => (first | exact List.mem_cons_self | (refine List.mem_cons_of_mem _ ?_; walk_at "my mem"))
  k_with "my cut" => (first | apply Cut.here | (apply Cut.cons; walk_at "my cut"))
  k_with "call ref" => (k_here; refine stop_here ?_)
  refine' telT_ofL (binds := [(Str.ofString "a", .int a t), (Str.ofString "b", .int b u)]) ?ho ?hcd ?hb ?hl ?h1 ?h2 ?h3 ?h4 ?_
  (case ho => k_is)
  (case hcd => k_is)
  (case hb => intro s; exact BindsTo.of_eq rfl)
  (case hl => exact locs rfl)
  (case h1 => decide)
  (case h2 => exact rfl)
  (case h3 => exact rfl)
  (case h4 => exact rfl)
  intro dp uu gd outer A₀ base g L' s Q TT B F N hTL hT X T hd hu hpre hret
  have F0 := F
  have N0 := N
  obtain ⟨⟨hb0, hb1⟩, hbits⟩ := hpre
  k_steps
  all_goals (try (exfalso; omega))
  unfold Stop
  refine' telT_call (dpos_tel a b _ _) ?vB ?vF X ?vN T rfl ?vd ?vu hT ?vc ?vo ?vp ?vr
  (case vB => k_asm)
  (case vF => k_asm)
  (case vN => k_asm)
  (case vd => first | exact room1 (by assumption) (by decide) | exact room0 (by assumption) (by decide) | omega)
  (case vu => first | exact room1 (by assumption) (by decide) | exact room0 (by assumption) (by decide) | omega)
  (case vc => exact .here)
  (case vo => simp)
  (case vp => exact fun _ _ => ⟨⟨hb0, hb1⟩, hbits⟩)
  (case vr =>
    intro r1 h1 tk1 T1 F1 N1 hT1 ho1 st1 hO1 hN1
    obtain ⟨R1, x1, y1, rfl, ⟨t1, rfl⟩, ⟨t2, rfl⟩, hR1, hn1'⟩ := hO1
    have hT1R := hT1.off N1 hR1 rfl
    replace N1 := (hN1 R1 _ hR1 hn1').1
    clear hN1 ho1 st1 hR1 hn1'
    simp only [List.nil_append] at N1
    k_steps
    all_goals (try dsimp only)
    rename News _ _ _ _ => N7
    exact hret _ _ _ T1 (Fr.keep (by assumption)) hT1 (fun q hq => N7 q (by simp [hq])) (pair_out N7 (by walk_at "my mem") ⟨_, rfl⟩ ⟨_, rfl⟩))
theorem idn_tel (a b : Nat) (t u : Tok) : TelT TF TF prog w (hd.heap_39 w.params) p loose mean mg mb 107 110 610 [.int (-(a : Int) - 1) t, .int (b : Int) u] (fun _ => (0 < b ∧ b < 1073741824) ∧ Builtin.Int.intBits (a : Int) ≤ 64) (fun g h' r => PairOut (IsI (-((a / b : Nat) : Int) - 1)) (IsI ((b : Int) - ((a % b : Nat) : Int) - 1)) g h' r) := by
  k_with_none
  k_with "my mem" => (first | exact List.mem_cons_self | (refine List.mem_cons_of_mem _ ?_; walk_at "my mem"))
  k_with "my cut" => (first | apply Cut.here | (apply Cut.cons; walk_at "my cut"))
  k_with "call ref" => (k_here; refine stop_here ?_)
  refine' telT_ofL (binds := [(Str.ofString "a", .int (-(a : Int) - 1) t), (Str.ofString "b", .int b u)]) ?ho ?hcd ?hb ?hl ?h1 ?h2 ?h3 ?h4 ?_
  (case ho => k_is)
  (case hcd => k_is)
  (case hb => intro s; exact BindsTo.of_eq rfl)
  (case hl => exact locs rfl)
  (case h1 => decide)
  (case h2 => exact rfl)
  (case h3 => exact rfl)
  (case h4 => exact rfl)
  intro dp uu gd outer A₀ base g L' s Q TT B F N hTL hT X T hd hu hpre hret
  have F0 := F
  have N0 := N
  obtain ⟨⟨hb0, hb1⟩, hbits⟩ := hpre
  k_steps
  all_goals (try (exfalso; omega))
  unfold Stop
  have eb : Builtin.bitNot (-(a : Int) - 1) = (a : Int) := by unfold Builtin.bitNot; omega
  rw [eb]
  refine' telT_call (idp_tel a b _ _) ?vB ?vF X ?vN T rfl ?vd ?vu hT ?vc ?vo ?vp ?vr
  (case vB => k_asm)
  (case vF => k_asm)
  (case vN => k_asm)
  (case vd => first | exact room1 (by assumption) (by decide) | exact room0 (by assumption) (by decide) | omega)
  (case vu => first | exact room1 (by assumption) (by decide) | exact room0 (by assumption) (by decide) | omega)
  (case vc => exact .here)
  (case vo => simp)
  (case vp => exact fun _ _ => ⟨⟨hb0, hb1⟩, hbits⟩)
  (case vr =>
    intro r1 h1 tk1 T1 F1 N1 hT1 ho1 st1 hO1 hN1
    obtain ⟨R1, x1, y1, rfl, ⟨t1, rfl⟩, ⟨t2, rfl⟩, hR1, hn1'⟩ := hO1
    have hT1R := hT1.off N1 hR1 rfl
    replace N1 := (hN1 R1 _ hR1 hn1').1
    clear hN1 ho1 st1 hR1 hn1'
    simp only [List.nil_append] at N1
    k_steps
    all_goals (try dsimp only)
    rename News _ _ _ _ => N7
    exact hret _ _ _ T1 (Fr.keep (by assumption)) hT1 (fun q hq => N7 q (by simp [hq])) (pair_out N7 (by walk_at "my mem") ⟨_, congrArg (Value.int · _) (by unfold Builtin.bitNot; omega)⟩ ⟨_, congrArg (Value.int · _) (by unfold Builtin.bitNot; omega)⟩))
theorem telT_out {TabF TabF' : List (Addr × Obj) → Prop} {K : Frag} {f : Addr} {dn un dn' un' : Nat} {vs vs' : List Value} {Pre Pre' : Heap → Prop} {Out Out' : Heap → Heap → Value → Prop} (C : TelT TabF TabF' prog w K p loose mean mg mb f dn un vs Pre Out) (e : vs' = vs) (h1 : dn ≤ dn') (h2 : un ≤ un') (h3 : ∀ g, Pre' g → Pre g) (h4 : ∀ g h r, Out g h r → Out' g h r) : TelT TabF TabF' prog w K p loose mean mg mb f dn' un' vs' Pre' Out' := by
  subst e
  intro dp uu gd cn cs a ccd cl outer A₀ base h₀ L m s Q E T B F X Tp hcs hd hu hT NT hpre hret
  exact C dp uu gd cn cs a ccd cl outer A₀ base h₀ L m s Q E T B F X Tp hcs (by omega) (by omega) hT NT (h3 _ hpre) fun r h' tk' T' st hT' hN o => hret r h' tk' T' st hT' hN (h4 _ _ _ o)
theorem pair_as {a b c d : Int} {g h1 : Heap} {r : Value} (e1 : a = c) (e2 : b = d) (h : PairOut (IsI a) (IsI b) g h1 r) : PairOut (IsI c) (IsI d) g h1 r := e1 ▸ e2 ▸ h
theorem bits_of {a : Nat} (h : a < 2 ^ 62) : Builtin.Int.intBits (a : Int) ≤ 64 := Nat.le_trans (bits_le h) (by decide)
theorem fdm_nat (a b : Nat) : (a : Int).fdiv b = ((a / b : Nat) : Int) ∧ (a : Int).fmod b = ((a % b : Nat) : Int) := ⟨fdiv_nat a b, fmod_nat a b⟩
theorem fdm_neg (a b : Nat) (hb : 0 < b) : (-(a : Int) - 1).fdiv b = -((a / b : Nat) : Int) - 1 ∧ (-(a : Int) - 1).fmod b = (b : Int) - ((a % b : Nat) : Int) - 1 := by
  have h1 := Nat.div_add_mod a b
  have h2 := Nat.mod_lt a hb
  have h5 : ((b * (a / b) + a % b : Nat) : Int) = (a : Int) := congrArg _ h1
  rw [Int.natCast_add, Int.natCast_mul] at h5
  rw [Int.fdiv_eq_ediv_of_nonneg _ (by omega), Int.fmod_eq_emod_of_nonneg _ (by omega)]
  have e : (-(a : Int) - 1) = ((b : Int) - ((a % b : Nat) : Int) - 1) + (b : Int) * (-((a / b : Nat) : Int) - 1) := by
    rw [Int.mul_sub, Int.mul_neg]; omega
  constructor
  · rw [e, Int.add_mul_ediv_left _ _ (by omega), Int.ediv_eq_zero_of_lt (by omega) (by omega)]; omega
  · rw [e, Int.add_mul_emod_self_left, Int.emod_eq_of_lt (by omega) (by omega)]
theorem idb_tel (a : Int) (b : Nat) (t u : Tok) : TelT TF TF prog w (hd.heap_39 w.params) p loose mean mg mb 107 110 610 [.int a t, .int (b : Int) u] (fun _ => (0 < b ∧ b < 1073741824) ∧ -(2 ^ 62) ≤ a ∧ a < 2 ^ 62) (fun g h' r => PairOut (IsI (a.fdiv b)) (IsI (a.fmod b)) g h' r) := by
  rcases Int.lt_or_le a 0 with h | h
  · obtain ⟨n, rfl⟩ : ∃ n : Nat, a = -(n : Int) - 1 := ⟨(-a - 1).toNat, by omega⟩
    by_cases hb : 0 < b
    · obtain ⟨e1, e2⟩ := fdm_neg n b hb
      exact telT_out (idn_tel n b t u) rfl (by omega) (by omega) (fun g hp => ⟨hp.1, bits_of (by omega)⟩) fun g h r => pair_as e1.symm e2.symm
    · intro dp uu gd cn cs a ccd cl outer A₀ base h₀ L m s Q E T B F X Tp hcs hd hu hT NT hpre hret
      exact absurd hpre.1.1 hb
  · obtain ⟨n, rfl⟩ : ∃ n : Nat, a = (n : Int) := ⟨a.toNat, by omega⟩
    obtain ⟨e1, e2⟩ := fdm_nat n b
    exact telT_out (idp_tel n b t u) rfl (by omega) (by omega) (fun g hp => ⟨hp.1, bits_of (by omega)⟩) fun g h r => pair_as e1.symm e2.symm
theorem idm_tel (a : Int) (b : Nat) (t u : Tok) : TelT TF TF prog w (hd.heap_39 w.params) p loose mean mg mb 107 120 620 [.int a t, .int (-(b : Int)) u] (fun _ => (0 < b ∧ b < 1073741824) ∧ -(2 ^ 62) < a ∧ a < 2 ^ 62) (fun g h' r => PairOut (IsI ((-a).fdiv b)) (IsI (-((-a).fmod b))) g h' r) := by
  k_with_none
  k_with "my mem" => (first | exact List.mem_cons_self | (refine List.mem_cons_of_mem _ ?_; walk_at "my mem"))
  k_with "my cut" => (first | apply Cut.here | (apply Cut.cons; walk_at "my cut"))
  k_with "call ref" => (k_here; refine stop_here ?_)
  refine' telT_ofL (binds := [(Str.ofString "a", .int a t), (Str.ofString "b", .int (-(b : Int)) u)]) ?ho ?hcd ?hb ?hl ?h1 ?h2 ?h3 ?h4 ?_
  (case ho => k_is)
  (case hcd => k_is)
  (case hb => intro s; exact BindsTo.of_eq rfl)
  (case hl => exact locs rfl)
  (case h1 => decide)
  (case h2 => exact rfl)
  (case h3 => exact rfl)
  (case h4 => exact rfl)
  intro dp uu gd outer A₀ base g L' s Q TT B F N hTL hT X T hd hu hpre hret
  obtain ⟨⟨hb0, hb1⟩, ha0, ha1⟩ := hpre
  k_steps
  all_goals (try (exfalso; omega))
  unfold Stop
  have eb : -(-(b : Int)) = (b : Int) := by omega
  rw [eb]
  refine' telT_call (idb_tel (-a) b _ _) ?vB ?vF X ?vN T rfl ?vd ?vu hT ?vc ?vo ?vp ?vr
  (case vB => k_asm)
  (case vF => k_asm)
  (case vN => k_asm)
  (case vd => first | exact room1 (by assumption) (by decide) | exact room0 (by assumption) (by decide) | omega)
  (case vu => first | exact room1 (by assumption) (by decide) | exact room0 (by assumption) (by decide) | omega)
  (case vc => exact .here)
  (case vo => simp)
  (case vp => exact fun _ _ => ⟨⟨hb0, hb1⟩, by omega, by omega⟩)
  (case vr =>
    intro r1 h1 tk1 T1 F1 N1 hT1 ho1 st1 hO1 hN1
    obtain ⟨R1, x1, y1, rfl, ⟨t1, rfl⟩, ⟨t2, rfl⟩, hR1, hn1'⟩ := hO1
    have hT1R := hT1.off N1 hR1 rfl
    replace N1 := (hN1 R1 _ hR1 hn1').1
    clear hN1 ho1 st1 hR1 hn1'
    simp only [List.nil_append] at N1
    k_steps
    all_goals (try dsimp only)
    rename News _ _ _ _ => N7
    exact hret _ _ _ T1 (Fr.keep (by assumption)) hT1 (fun q hq => N7 q (by simp [hq])) (pair_out N7 (by walk_at "my mem") ⟨_, rfl⟩ ⟨_, rfl⟩))
theorem int_divmod_tel (a b : Int) (t u : Tok) : TelT TF TF prog w (hd.heap_39 w.params) p loose mean mg mb 107 120 620 [.int a t, .int b u] (fun _ => (b ≠ 0 ∧ -1073741824 < b ∧ b < 1073741824) ∧ -(2 ^ 62) < a ∧ a < 2 ^ 62) (fun g h' r => PairOut (IsI (a.fdiv b)) (IsI (a.fmod b)) g h' r) := by
  rcases Int.lt_or_le b 0 with h | h
  · obtain ⟨n, rfl⟩ : ∃ n : Nat, b = -(n : Int) := ⟨(-b).toNat, by omega⟩
    have e1 : a.fdiv (-(n : Int)) = (-a).fdiv n := by rw [← Int.neg_fdiv_neg, Int.neg_neg]
    have e2 : a.fmod (-(n : Int)) = -((-a).fmod n) := by rw [← Int.neg_fmod_neg, Int.neg_neg]
    exact telT_out (idm_tel a n t u) rfl (by omega) (by omega) (fun g hp => ⟨⟨by omega, by omega⟩, hp.2⟩) fun g h r => pair_as e1.symm e2.symm
  · obtain ⟨n, rfl⟩ : ∃ n : Nat, b = (n : Int) := ⟨b.toNat, by omega⟩
    exact telT_out (idb_tel a n t u) rfl (by omega) (by omega) (fun g hp => ⟨⟨by omega, by omega⟩, by omega, by omega⟩) fun g h r h => h
end
end Mine
namespace Mine
open PySem PySem.W PySem.Spec PySem.Calls PyProof.Rows
section
variable {prog : Program} {w : World} {p : Program} {loose : List Str} {mean : ExcName → Option Value} {mg mb : Str → Option Value}
theorem told_tel (lp lq l3 : Addr) (xs ys : List Int) (i j k : Nat) (a b c x y z sp : Int) (ti tj tk ts : Tok) (hi : xs[i]? = some a) (hj : xs[j]? = some b) (hk : xs[k]? = some c) (hi2 : ys[i]? = some x) (hj2 : ys[j]? = some y) (hk2 : ys[k]? = some z)
    (hlen : xs.length ≤ 5 ∧ ys.length ≤ 5) (hab : a ≠ b ∧ a ≠ c ∧ b ≠ c) (ba : Abs a 50) (bb : Abs b 50) (bc : Abs c 50) (bs : Abs sp 50) (bx : Abs x 20000000) (by_ : Abs y 20000000) (bz : Abs z 20000000) :
    TelT TF TF prog w (hd.heap_39 w.params) p loose mean mg mb 140 200 900 [.ref lp, .ref lq, .ref l3, .int sp ts] (fun h => (∃ vs : List Value, h.IsList lp vs.toArray ∧ IntsAre vs xs) ∧ (∃ vs : List Value, h.IsList lq vs.toArray ∧ IntsAre vs ys) ∧ h.IsList l3 #[.int (i : Int) ti, .int (j : Int) tj, .int (k : Int) tk]) (fun g h' r => PairOut (IsI ((aboveOf a b c x y z sp).fdiv (distOf a b c))) (IsI ((aboveOf a b c x y z sp).fmod (distOf a b c))) g h' r) := by
  k_with_none
  k_with "my cut" => (first | apply Cut.here | (apply Cut.cons; walk_at "my cut"))
  k_with "call ref" => (k_here; refine stop_here ?_)
  k_with "subscriptTail Name Name ref int" => (k_here; k_dflt (first
  | refine itemL_at (Heap.IsList.at hvp fun o e => Fr.keep (by assumption) _ _ e) hIp hi hi5 ?_
  | refine itemL_at (Heap.IsList.at hvp fun o e => Fr.keep (by assumption) _ _ e) hIp hj hj5 ?_
  | refine itemL_at (Heap.IsList.at hvp fun o e => Fr.keep (by assumption) _ _ e) hIp hk hk5 ?_
  | refine itemL_at (Heap.IsList.at hvq fun o e => Fr.keep (by assumption) _ _ e) hIq hi2 hi5 ?_
  | refine itemL_at (Heap.IsList.at hvq fun o e => Fr.keep (by assumption) _ _ e) hIq hj2 hj5 ?_
  | refine itemL_at (Heap.IsList.at hvq fun o e => Fr.keep (by assumption) _ _ e) hIq hk2 hk5 ?_); intro _)
  k_with "binaryOp Mult int int" => (k_here; k_dflt (first
  | refine mul_as rfl n1.1 n1.2 ?_ | refine mul_as rfl n2.1 n2.2 ?_ | refine mul_as rfl n3.1 n3.2 ?_ | refine mul_as rfl n4.1 n4.2 ?_ | refine mul_as rfl n5.1 n5.2 ?_ | refine mul_as rfl n6.1 n6.2 ?_ | refine mul_as rfl n7.1 n7.2 ?_ | refine mul_as rfl n8.1 n8.2 ?_ | refine mul_as rfl n9.1 n9.2 ?_ | refine mul_as rfl n10.1 n10.2 ?_ | refine mul_as rfl n11.1 n11.2 ?_); intro _ _)
  k_with "CompRest" => (with_unfolding_all first
  | (refine LCg.CompRest.succ ?_; intro v' I' oI' C' oC' D' m' h' tk' E' hv' hC' hx' F' N' off' ne'; (first | lcg_open hv' | (obtain ⟨t9', hv9'⟩ := hv'; subst hv9')))
  | refine LCg.CompRest.zero ?_)
  k_with "CompEnd" => (refine LCg.CompEnd.intro (by assumption) (by assumption) _ (fun q hq => hq) (by assumption) (Or.inl (by assumption)) ?_)
  refine' telT_ofC (binds := [(Str.ofString "points", .ref lp), (Str.ofString "ports", .ref lq), (Str.ofString "three", .ref l3), (Str.ofString "spot", .int sp ts)]) ?ho ?hcd ?hb ?hl ?h1 ?h2 ?h3 ?h4 ?_
  (case ho => k_is)
  (case hcd => k_is)
  (case hb => intro s; exact BindsTo.of_eq rfl)
  (case hl => exact rfl)
  (case h1 => decide)
  (case h2 => exact rfl)
  (case h3 => exact rfl)
  (case h4 => exact rfl)
  intro dp uu gd outer A₀ base g L' s Q TT cells B F N Y hTL hT X T hd hu hpre hret
  k_cells Y
  obtain ⟨⟨vp, hvp, hIp⟩, ⟨vq, hvq, hIq⟩, hl3⟩ := hpre
  have hi5 : i < 1000000 := by obtain ⟨h, _⟩ := List.getElem?_eq_some_iff.mp hi; omega
  have hj5 : j < 1000000 := by obtain ⟨h, _⟩ := List.getElem?_eq_some_iff.mp hj; omega
  have hk5 : k < 1000000 := by obtain ⟨h, _⟩ := List.getElem?_eq_some_iff.mp hk; omega
  have n1 := bx.small (by decide)
  have n2 := (bx.mul (bs.sub bb)).small (by decide)
  have n3 := ((bx.mul (bs.sub bb)).mul (bs.sub bc)).small (by decide)
  have n4 := by_.small (by decide)
  have n5 := (by_.mul (bs.sub ba)).small (by decide)
  have n6 := ((by_.mul (bs.sub ba)).mul (bs.sub bc)).small (by decide)
  have n7 := bz.small (by decide)
  have n8 := (bz.mul (bs.sub ba)).small (by decide)
  have n9 := ((bz.mul (bs.sub ba)).mul (bs.sub bb)).small (by decide)
  have n10 := (ba.sub bb).small (by decide)
  have n11 := ((ba.sub bb).mul (ba.sub bc)).small (by decide)
  have nA := ((((bx.mul (bs.sub bb)).mul (bs.sub bc)).mul (bb.sub bc)).sub (((by_.mul (bs.sub ba)).mul (bs.sub bc)).mul (ba.sub bc))).add (((bz.mul (bs.sub ba)).mul (bs.sub bb)).mul (ba.sub bb))
  have nD := ((ba.sub bb).mul (ba.sub bc)).mul (bb.sub bc)
  have nA1 : -(2 ^ 62) < aboveOf a b c x y z sp ∧ aboveOf a b c x y z sp < 2 ^ 62 := by obtain ⟨h1, h2⟩ := nA; unfold aboveOf; constructor <;> omega
  have nD1 : -1073741824 < distOf a b c ∧ distOf a b c < 1073741824 := by obtain ⟨h1, h2⟩ := nD; unfold distOf; constructor <;> omega
  have nD0 : distOf a b c ≠ 0 := Int.mul_ne_zero (Int.mul_ne_zero (by omega) (by omega)) (by omega)
  clear ba bb bc bs bx by_ bz hlen hab nA nD
  k_steps
  unfold Stop
  refine' telT_call (int_divmod_tel _ _ _ _) ?vB ?vF X ?vN T rfl ?vd ?vu hT ?vc ?vo ?vp ?vr
  (case vB => k_asm)
  (case vF => k_asm)
  (case vN => k_asm)
  (case vd => first | exact room1 (by assumption) (by decide) | exact room0 (by assumption) (by decide) | omega)
  (case vu => first | exact room1 (by assumption) (by decide) | exact room0 (by assumption) (by decide) | omega)
  (case vc => walk_at "my cut")
  (case vo =>
    rename News _ _ _ _ => NN
    refine hT.offs (fun q hq => NN q (by simpa using hq)) ?_
    intro q hq
    simp only [List.mem_cons, List.mem_append, List.append_nil, List.not_mem_nil, or_false] at hq
    rcases hq with rfl | rfl | rfl | rfl
    · exact .inl ⟨_, _, rfl⟩
    · exact .inl ⟨_, _, rfl⟩
    · exact .inr fun r hr e => by have := hTL r hr; rw [e] at this; exact absurd this (by show ¬ (@LT.lt Nat _ (L' + 1 + 1) L'); omega)
    · exact .inr fun r hr e => by have := hTL r hr; rw [e] at this; exact absurd this (by show ¬ (@LT.lt Nat _ (L' + 1) L'); omega))
  (case vp => exact fun _ _ => ⟨⟨nD0, nD1.1, nD1.2⟩, nA1.1, nA1.2⟩)
  (case vr =>
    intro r6 h6 tk6 T6 F6 N6 hT6 ho6 st6 hO6 hN6
    obtain ⟨R4, v1, v2, rfl, ⟨t1, rfl⟩, ⟨t2, rfl⟩, hg4, hn4⟩ := hO6
    obtain ⟨N7, hne7⟩ := hN6 R4 _ hg4 hn4
    clear hN6 st6 N6 hne7 hg4 hn4
    k_steps
    refine hret _ _ _ T6 (Fr.keep (by assumption)) hT6 (fun q hq => N7 q (by simp [hq])) (pair_out N7 List.mem_cons_self ⟨_, rfl⟩ ⟨_, rfl⟩))
end
end Mine
namespace Mine
open PySem PySem.W PySem.Spec PySem.Calls PyProof.Rows PyProof.Rows.LCg

abbrev E3 (elt : PySem.Expr) (x0 : Str) (p0 : Pos) (i0 : PySem.Expr) (x1 : Str) (p1 : Pos) (i1 : PySem.Expr) (x2 : Str) (p2 : Pos) (i2 : PySem.Expr) (scope : Scope) (pos : Pos) : PySem.Expr :=
  .ListComp elt [⟨.Name x0 p0, i0, [], 0⟩, ⟨.Name x1 p1, i1, [], 0⟩, ⟨.Name x2 p2, i2, [], 0⟩] scope pos
section
variable {prog : Program} {w : World} {A : Around} {s : Shared} {elt i0 i1 i2 : PySem.Expr} {x0 x1 x2 : Str} {p0 p1 p2 pos : Pos} {scope : Scope} {it acc : Value} {env : Env} {R : Result → Shared → Prop}
theorem turn0 : compTurn (E3 elt x0 p0 i0 x1 p1 i1 x2 p2 i2 scope pos) 0 it acc env = (standAt i0.pos >>= fun _ => pyNext it >>= fun r => match r with
    | none => pure (.done .next)
    | some v => letOwnedTupleGo (.Name x0 p0) it v >>= fun _ => assign (.Name x0 p0) env v >>= fun _ =>
      eval i1 env >>= fun x => standAt i1.pos >>= fun _ => foldedSetIterable i1 env x >>= fun x => holding [x] (pyIter x) >>= fun it' => runOwn (.compStart (E3 elt x0 p0 i0 x1 p1 i1 x2 p2 i2 scope pos) 1 it' acc env) env >>= fun _ =>
        again (.compLoop (E3 elt x0 p0 i0 x1 p1 i1 x2 p2 i2 scope pos) 0 it acc env)) := by rfl
theorem turn1 : compTurn (E3 elt x0 p0 i0 x1 p1 i1 x2 p2 i2 scope pos) 1 it acc env = (standAt i1.pos >>= fun _ => pyNext it >>= fun r => match r with
    | none => pure (.done .next)
    | some v => letOwnedTupleGo (.Name x1 p1) it v >>= fun _ => assign (.Name x1 p1) env v >>= fun _ =>
      eval i2 env >>= fun x => standAt i2.pos >>= fun _ => foldedSetIterable i2 env x >>= fun x => holding [x] (pyIter x) >>= fun it' => runOwn (.compStart (E3 elt x0 p0 i0 x1 p1 i1 x2 p2 i2 scope pos) 2 it' acc env) env >>= fun _ =>
        again (.compLoop (E3 elt x0 p0 i0 x1 p1 i1 x2 p2 i2 scope pos) 1 it acc env)) := by rfl
theorem turn2 : compTurn (E3 elt x0 p0 i0 x1 p1 i1 x2 p2 i2 scope pos) 2 it acc env = (standAt i2.pos >>= fun _ => pyNext it >>= fun r => match r with
    | none => pure (.done .next)
    | some v => letOwnedTupleGo (.Name x2 p2) it v >>= fun _ => assign (.Name x2 p2) env v >>= fun _ =>
      (eval elt env >>= fun x => call (.builtin "list.append") [acc, x] >>= fun _ => pure ()) >>= fun _ =>
        again (.compLoop (E3 elt x0 p0 i0 x1 p1 i1 x2 p2 i2 scope pos) 2 it acc env)) := by rfl
/-- a loop of clauses that raises nothing: its turns by a measure -/
theorem loop0 (I : Nat → Shared → Prop) (hs : ∀ x, foldedSetIterable i1 env x = pure x)
    (turn : ∀ n s, I n s → wpAny (model prog w) A (pyNext it) (fun r s₁ => match r with
      | none => R (.ok .next) s₁
      | some v => wpAny (model prog w) A (assign (.Name x0 p0) env v) (fun _ s₂ => wpAny (model prog w) A (eval i1 env) (fun xv s₃ => wpAny (model prog w) A (pyIter xv) (fun it' s₄ =>
          codeAny (model prog w) A (.compStart (E3 elt x0 p0 i0 x1 p1 i1 x2 p2 i2 scope pos) 1 it' acc env) (fun r s₅ => r = .ok .next ∧ ∃ m, m < n ∧ I m s₅) s₄) (fun _ _ => False) s₃) (fun _ _ => False) s₂) (fun _ _ => False) s₁) (fun _ _ => False) s)
    (n : Nat) (h : I n s) : codeAny (model prog w) A (.compLoop (E3 elt x0 p0 i0 x1 p1 i1 x2 p2 i2 scope pos) 0 it acc env) R s := by
  refine codeAny_loop rfl I (fun n s hI => ?_) n h
  show wpAny _ A ((compTurn (E3 elt x0 p0 i0 x1 p1 i1 x2 p2 i2 scope pos) 0 it acc env).onRaise (fun x => do noteFrame x env; theTreesLotGoes x)) _ _ s
  refine wpAny_noted ?_
  rw [turn0]
  refine wpAny_bind (wpAny_standAt (wpAny_bind (wpAny_mono (turn n s hI) (fun r s₁ h₁ => ?_) fun _ _ h' => h'.elim)))
  cases r with
  | none => exact wpAny_pure h₁
  | some v =>
    refine wpAny_bind (wpAny_of_eq rfl ?_)
    refine wpAny_bind (wpAny_mono h₁ (fun _ s₂ h₂ => wpAny_bind (wpAny_mono h₂ (fun xv s₃ h₃ => ?_) fun _ _ h' => h'.elim)) fun _ _ h' => h'.elim)
    refine wpAny_bind (wpAny_standAt (wpAny_bind (wpAny_of_eq (hs xv) (wpAny_bind (wpAny_holding (wpAny_mono h₃ (fun it' s₄ h₄ => ?_) fun _ _ h' => h'.elim))))))
    refine wpAny_bind (wpAny_runOwn (codeAny_mono h₄ fun r s₅ h₅ => ?_))
    obtain ⟨rfl, m, hm, hI'⟩ := h₅
    exact wpAny_pure ⟨rfl, m, hm, hI'⟩
theorem loop1 (I : Nat → Shared → Prop) (hs : ∀ x, foldedSetIterable i2 env x = pure x)
    (turn : ∀ n s, I n s → wpAny (model prog w) A (pyNext it) (fun r s₁ => match r with
      | none => R (.ok .next) s₁
      | some v => wpAny (model prog w) A (assign (.Name x1 p1) env v) (fun _ s₂ => wpAny (model prog w) A (eval i2 env) (fun xv s₃ => wpAny (model prog w) A (pyIter xv) (fun it' s₄ =>
          codeAny (model prog w) A (.compStart (E3 elt x0 p0 i0 x1 p1 i1 x2 p2 i2 scope pos) 2 it' acc env) (fun r s₅ => r = .ok .next ∧ ∃ m, m < n ∧ I m s₅) s₄) (fun _ _ => False) s₃) (fun _ _ => False) s₂) (fun _ _ => False) s₁) (fun _ _ => False) s)
    (n : Nat) (h : I n s) : codeAny (model prog w) A (.compLoop (E3 elt x0 p0 i0 x1 p1 i1 x2 p2 i2 scope pos) 1 it acc env) R s := by
  refine codeAny_loop rfl I (fun n s hI => ?_) n h
  show wpAny _ A ((compTurn (E3 elt x0 p0 i0 x1 p1 i1 x2 p2 i2 scope pos) 1 it acc env).onRaise (fun x => do noteFrame x env; theTreesLotGoes x)) _ _ s
  refine wpAny_noted ?_
  rw [turn1]
  refine wpAny_bind (wpAny_standAt (wpAny_bind (wpAny_mono (turn n s hI) (fun r s₁ h₁ => ?_) fun _ _ h' => h'.elim)))
  cases r with
  | none => exact wpAny_pure h₁
  | some v =>
    refine wpAny_bind (wpAny_of_eq rfl ?_)
    refine wpAny_bind (wpAny_mono h₁ (fun _ s₂ h₂ => wpAny_bind (wpAny_mono h₂ (fun xv s₃ h₃ => ?_) fun _ _ h' => h'.elim)) fun _ _ h' => h'.elim)
    refine wpAny_bind (wpAny_standAt (wpAny_bind (wpAny_of_eq (hs xv) (wpAny_bind (wpAny_holding (wpAny_mono h₃ (fun it' s₄ h₄ => ?_) fun _ _ h' => h'.elim))))))
    refine wpAny_bind (wpAny_runOwn (codeAny_mono h₄ fun r s₅ h₅ => ?_))
    obtain ⟨rfl, m, hm, hI'⟩ := h₅
    exact wpAny_pure ⟨rfl, m, hm, hI'⟩
theorem loop2 (I : Nat → Shared → Prop)
    (turn : ∀ n s, I n s → wpAny (model prog w) A (pyNext it) (fun r s₁ => match r with
      | none => R (.ok .next) s₁
      | some v => wpAny (model prog w) A (assign (.Name x2 p2) env v) (fun _ s₂ => wpAny (model prog w) A (eval elt env) (fun x s₃ =>
          wpAny (model prog w) A (call (.builtin "list.append") [acc, x]) (fun _ s₄ => ∃ m, m < n ∧ I m s₄) (fun _ _ => False) s₃) (fun _ _ => False) s₂) (fun _ _ => False) s₁) (fun _ _ => False) s)
    (n : Nat) (h : I n s) : codeAny (model prog w) A (.compLoop (E3 elt x0 p0 i0 x1 p1 i1 x2 p2 i2 scope pos) 2 it acc env) R s := by
  refine codeAny_loop rfl I (fun n s hI => ?_) n h
  show wpAny _ A ((compTurn (E3 elt x0 p0 i0 x1 p1 i1 x2 p2 i2 scope pos) 2 it acc env).onRaise (fun x => do noteFrame x env; theTreesLotGoes x)) _ _ s
  refine wpAny_noted ?_
  rw [turn2]
  refine wpAny_bind (wpAny_standAt (wpAny_bind (wpAny_mono (turn n s hI) (fun r s₁ h₁ => ?_) fun _ _ h' => h'.elim)))
  cases r with
  | none => exact wpAny_pure h₁
  | some v =>
    refine wpAny_bind (wpAny_of_eq rfl ?_)
    refine wpAny_bind (wpAny_mono h₁ (fun _ s₂ h₂ => wpAny_bind (wpAny_bind (wpAny_mono h₂ (fun x s₃ h₃ => wpAny_bind (wpAny_mono h₃ (fun _ s₄ h₄ => wpAny_pure ?_) fun _ _ h' => h'.elim)) fun _ _ h' => h'.elim))) fun _ _ h' => h'.elim)
    obtain ⟨m, hm, hI'⟩ := h₄
    exact wpAny_pure ⟨rfl, m, hm, hI'⟩
theorem start1 (h0 : codeAny (model prog w) A (.compLoop (E3 elt x0 p0 i0 x1 p1 i1 x2 p2 i2 scope pos) 1 it acc env) R s)
    (h : wpAny (model prog w) A (pyIter it) (fun it' s' => codeAny (model prog w) A (.compLoop (E3 elt x0 p0 i0 x1 p1 i1 x2 p2 i2 scope pos) 1 it' acc env) R s') (fun _ _ => False) s) :
    codeAny (model prog w) A (.compStart (E3 elt x0 p0 i0 x1 p1 i1 x2 p2 i2 scope pos) 1 it acc env) R s := by
  refine codeAny_of_tree ?_
  show wpAny _ _ ((compStart (E3 elt x0 p0 i0 x1 p1 i1 x2 p2 i2 scope pos) 1 it acc env).onRaise (fun x => do noteFrame x env; standAt theWindowsPlace)) _ _ s
  refine wpAny_notedAt ?_
  unfold compStart
  show wpAny _ _ (ask >>= _) _ _ s
  refine wpAny_bind (wpAny_askSetting (wpAny_ite ?_))
  split
  · first
      | exact wpAny_bind (wpAny_pure (wpAny_pure (And.intro rfl h0)))
      | exact wpAny_pure (And.intro rfl h0)
  · refine wpAny_bind (wpAny_rule ?_)
    show wpAny _ _ (standAt i1.pos >>= _) _ _ s
    exact wpAny_bind (wpAny_standAt (wpAny_bind (wpAny_mono h (fun it' s' h' => wpAny_pure (And.intro rfl h')) fun _ _ x => x.elim)))
theorem start2 (h0 : codeAny (model prog w) A (.compLoop (E3 elt x0 p0 i0 x1 p1 i1 x2 p2 i2 scope pos) 2 it acc env) R s)
    (h : wpAny (model prog w) A (pyIter it) (fun it' s' => codeAny (model prog w) A (.compLoop (E3 elt x0 p0 i0 x1 p1 i1 x2 p2 i2 scope pos) 2 it' acc env) R s') (fun _ _ => False) s) :
    codeAny (model prog w) A (.compStart (E3 elt x0 p0 i0 x1 p1 i1 x2 p2 i2 scope pos) 2 it acc env) R s := by
  refine codeAny_of_tree ?_
  show wpAny _ _ ((compStart (E3 elt x0 p0 i0 x1 p1 i1 x2 p2 i2 scope pos) 2 it acc env).onRaise (fun x => do noteFrame x env; standAt theWindowsPlace)) _ _ s
  refine wpAny_notedAt ?_
  unfold compStart
  show wpAny _ _ (ask >>= _) _ _ s
  refine wpAny_bind (wpAny_askSetting (wpAny_ite ?_))
  split
  · first
      | exact wpAny_bind (wpAny_pure (wpAny_pure (And.intro rfl h0)))
      | exact wpAny_pure (And.intro rfl h0)
  · refine wpAny_bind (wpAny_rule ?_)
    show wpAny _ _ (standAt i2.pos >>= _) _ _ s
    exact wpAny_bind (wpAny_standAt (wpAny_bind (wpAny_mono h (fun it' s' h' => wpAny_pure (And.intro rfl h')) fun _ _ x => x.elim)))
theorem start0 (h0 : codeAny (model prog w) A (.compLoop (E3 elt x0 p0 i0 x1 p1 i1 x2 p2 i2 scope pos) 0 it acc env) R s)
    (h : wpAny (model prog w) A (pyIter it) (fun it' s' => codeAny (model prog w) A (.compLoop (E3 elt x0 p0 i0 x1 p1 i1 x2 p2 i2 scope pos) 0 it' acc env) R s') (fun _ _ => False) s) :
    codeAny (model prog w) A (.compStart (E3 elt x0 p0 i0 x1 p1 i1 x2 p2 i2 scope pos) 0 it acc env) R s := by
  refine codeAny_of_tree ?_
  show wpAny _ _ ((compStart (E3 elt x0 p0 i0 x1 p1 i1 x2 p2 i2 scope pos) 0 it acc env).onRaise (fun x => do noteFrame x env; standAt theWindowsPlace)) _ _ s
  refine wpAny_notedAt ?_
  unfold compStart
  show wpAny _ _ (ask >>= _) _ _ s
  refine wpAny_bind (wpAny_askSetting (wpAny_ite ?_))
  split
  · first
      | exact wpAny_bind (wpAny_pure (wpAny_pure (And.intro rfl h0)))
      | exact wpAny_pure (And.intro rfl h0)
  · refine wpAny_bind (wpAny_rule ?_)
    show wpAny _ _ (standAt i0.pos >>= _) _ _ s
    exact wpAny_bind (wpAny_standAt (wpAny_bind (wpAny_mono h (fun it' s' h' => wpAny_pure (And.intro rfl h')) fun _ _ x => x.elim)))
end
end Mine
namespace Mine
open PySem PySem.W PySem.Spec PySem.Calls PyProof.Rows PyProof.Rows.LCg

section
variable {prog : Program} {w : World} {A : Around} {E : Value → Shared → Prop} {s : Shared} {h₀ : Heap} {L : Addr} {m : Str → Option Value} {env : Env}
/-- an iterator over a range in the ledger takes its next step -/
theorem next_rng {I : Addr} {a : Int} {n i : Nat} {rest : List (Addr × Obj)} {Q : Option Value → Shared → Prop} (hh : A.handled = none) (F : Fr h₀ L s.heap m) (N : News h₀ L s.heap ((I, itR (a + (i : Int)) ((n : Int) - (i : Int))) :: rest)) (off : ∀ p ∈ rest, p.1 ≠ I) (hi : i ≤ n)
    (hit : i < n → ∀ t h' tk, Fr h₀ L h' m → News h₀ L h' ((I, itR (a + ((i + 1 : Nat) : Int)) ((n : Int) - ((i + 1 : Nat) : Int))) :: rest) → Q (some (.int (a + (i : Int)) t)) { s with heap := h', toks := tk })
    (stop : i = n → ∀ h' tk, Fr h₀ L h' m → News h₀ L h' rest → Q none { s with heap := h', toks := tk }) : wpAny (model prog w) A (pyNext (.ref I)) Q E s := by
  have W := range_walks (prog := prog) (w := w) (I := I) hh a n
  have z := N _ List.mem_cons_self
  have hIL : L ≠ I := Ne.symm z.2.1
  have Nr : News h₀ L s.heap rest := fun p hp => N p (List.mem_cons_of_mem _ hp)
  have st : IsRangeIter s.heap I (a + (i : Nat) * 1) ((n : Int) - (i : Nat)) 1 := by
    show s.heap.get? I = some _
    rw [z.1, Int.mul_one]; rfl
  rcases Nat.lt_or_ge i n with hlt | hge
  · refine W.item i s _ _ hlt st fun v h' tk hv st' hk => ?_
    obtain ⟨t, rfl⟩ := hv
    refine hit hlt t h' tk (fr_but F hk hIL z.2.2) fun p hp => ?_
    rcases List.mem_cons.mp hp with rfl | hp
    · have st'' : h'.get? I = some _ := st'
      rw [Int.mul_one] at st''
      exact ⟨st'', z.2⟩
    · exact news_but Nr hk off p hp
  · obtain rfl : i = n := Nat.le_antisymm hi hge
    exact W.done s _ _ st fun h' tk hk => stop rfl h' tk (fr_but F hk hIL z.2.2) (news_but Nr hk off)
theorem iter_rng {R : Addr} {n : Nat} {t u v : Tok} {news : List (Addr × Obj)} {Q : Value → Shared → Prop} (hr : IsRange s.heap R 0 (n : Int) 1 t u v) (hn : n ≤ 1000) (F : Fr h₀ L s.heap m) (N : News h₀ L s.heap news)
    (h : ∀ I h', Fr h₀ L h' m → News h₀ L h' ((I, itR ((0 : Int) + ((0 : Nat) : Int)) ((n : Int) - ((0 : Nat) : Int))) :: news) → (∀ p ∈ news, p.1 ≠ I) → Q (.ref I) { s with heap := h' }) : wpAny (model prog w) A (pyIter (.ref R)) Q E s := by
  refine wpAny_pyIter_range hr (small_range hn).1 ?_
  rw [(small_range hn).2]
  have up : ∀ b o, s.heap.get? b = some o → (s.heap.push { cls := .type "range_iterator", data := .fields #[rawInt 0, rawInt (n : Int), rawInt 1] }).get? b = some o := fun b o e => Heap.get?_push_of_some _ e
  refine h _ _ (F.keeps up) (fun p hp => ?_) fun p hp => Nat.ne_of_lt (Heap.lt_size (N p hp).1)
  rcases List.mem_cons.mp hp with rfl | hp
  · refine ⟨?_, Ne.symm (Nat.ne_of_lt F.ns.lt), next_is_new F⟩
    show (s.heap.push _).get? s.heap.objs.size = some (itR ((0 : Int) + ((0 : Nat) : Int)) ((n : Int) - ((0 : Nat) : Int)))
    rw [show ((0 : Int) + ((0 : Nat) : Int)) = 0 from rfl, show ((n : Int) - ((0 : Nat) : Int)) = n by omega]
    exact Heap.get?_push_size _ rfl
  · exact ⟨up _ _ (N p hp).1, (N p hp).2⟩
theorem iter_self {I : Addr} {a : Int} {n : Nat} {rest : List (Addr × Obj)} {Q : Value → Shared → Prop} (hh : A.handled = none) (N : News h₀ L s.heap ((I, itR (a + ((0 : Nat) : Int)) ((n : Int) - ((0 : Nat) : Int))) :: rest)) (h : Q (.ref I) s) : wpAny (model prog w) A (pyIter (.ref I)) Q E s := by
  have W := range_walks (prog := prog) (w := w) (I := I) hh a n
  have z := N _ List.mem_cons_self
  refine W.self 0 s _ _ ?_ h
  show s.heap.get? I = some _
  rw [z.1, Int.mul_one]; rfl
/-- a local name of the comprehension is bound -/
theorem assign_c {scope : Scope} {cl : List (Str × Addr)} {C : Addr} {oC : Obj} {m' : Str → Option Value} {rest : List (Addr × Obj)} {x : Str} {px : Pos} {v : Value} {Q : Unit → Shared → Prop} (hx : scope.names.lookup x = some .local) (hkind : scope.kind = .function)
    (F : Fr h₀ L s.heap m) (N : News h₀ L s.heap ((C, oC) :: rest)) (off : ∀ p ∈ rest, p.1 ≠ C) (hC : NsObj oC m')
    (h : ∀ h' oC' tk, Fr h₀ L h' m → News h₀ L h' ((C, oC') :: rest) → NsObj oC' (fun y => if y = x then some v else m' y) → Q () { s with heap := h', toks := tk }) :
    wpAny (model prog w) A (assign (.Name x px) (compEnvC scope cl C env) v) Q E s := by
  have z := N _ List.mem_cons_self
  have Nr : News h₀ L s.heap rest := fun p hp => N p (List.mem_cons_of_mem _ hp)
  refine wpAny_assign_Name (wpAny_storeName_local (lookup_relabel_local hx) (hC.ns z.1) (fun h₃ hn₃ hs₃ => ?_) (by simp [compEnvC, relabel, hkind]))
  obtain ⟨oC', heC, hoC⟩ := ns_obj hn₃
  refine h h₃ oC' _ (F.change hs₃ z.2.1 z.2.2) (fun p hp => ?_) hoC
  rcases List.mem_cons.mp hp with rfl | hp
  · exact ⟨heC, z.2⟩
  · exact ⟨hs₃.extBut _ _ (off p hp) (Nr p hp).1, (Nr p hp).2⟩
/-- the list grows -/
theorem append_c {D : Addr} {ys : List Value} {y : Value} {rest : List (Addr × Obj)} {Q : Value → Shared → Prop} (F : Fr h₀ L s.heap m) (N : News h₀ L s.heap ((D, lst ys) :: rest)) (off : ∀ p ∈ rest, p.1 ≠ D) (hsz : ys.length ≤ sizeLine)
    (h : ∀ h', Fr h₀ L h' m → News h₀ L h' ((D, lst (ys ++ [y])) :: rest) → Q .none { s with heap := h' }) : wpAny (model prog w) A (call (.builtin "list.append") [.ref D, y]) Q E s := by
  have z := N _ List.mem_cons_self
  have Nr : News h₀ L s.heap rest := fun p hp => N p (List.mem_cons_of_mem _ hp)
  refine append_at (hsz := by show ys.toArray.size ≤ sizeLine; rw [List.size_toArray]; exact hsz) z.1 fun h₅ hs₅ hD₅ => ?_
  refine h h₅ (F.change hs₅ z.2.1 z.2.2) fun p hp => ?_
  rcases List.mem_cons.mp hp with rfl | hp
  · exact ⟨hD₅.trans (congrArg some (lst_snoc ys y)), z.2⟩
  · exact ⟨hs₅.extBut _ _ (off p hp) (Nr p hp).1, (Nr p hp).2⟩
end

section
variable {prog : Program} {w : World} {A : Around} {E : Value → Shared → Prop} {s : Shared} {h₀ : Heap} {L : Addr} {m : Str → Option Value} {env : Env}
  {elt i0 i1 i2 : PySem.Expr} {x0 x1 x2 : Str} {p0 p1 p2 : Pos} {scope : Scope} {cl : List (Str × Addr)} {pos spos : Pos} {y : Str} {py : Pos} {Q : Flow → Shared → Prop}
/-- what the loops of a comprehension have to show -/
def Comp3 (prog : Program) (w : World) (A : Around) (h₀ : Heap) (L : Addr) (m : Str → Option Value) (e : PySem.Expr) (cenv : Addr → Env) (it : Value) (s : Shared) (news : List (Addr × Obj)) (Fin : List Value → List (Addr × Obj) → Prop) : Prop :=
  ∀ D C oC h tk, Fr h₀ L h m → News h₀ L h ((C, oC) :: (D, lst []) :: news) → NsObj oC (fun _ => none) → C ≠ D → (∀ p ∈ news, p.1 ≠ C ∧ p.1 ≠ D) →
    codeAny (model prog w) A (.compStart e 0 it (.ref D) (cenv C)) (fun r s' => r = .ok .next ∧ ∃ h' tk' ys news' oC' m', s' = { s with heap := h', toks := tk' } ∧ Fr h₀ L h' m ∧ News h₀ L h' ((C, oC') :: (D, lst ys) :: news') ∧ NsObj oC' m' ∧ (∀ p ∈ news', p.1 ≠ C ∧ p.1 ≠ D) ∧ Fin ys news') { s with heap := h, toks := tk }
theorem Assign_compG {ifs0 : List PySem.Expr} {gs : List PySem.Comprehension} (hLe : env.locals = L)
    (hsw : swapsWith (.ListComp elt (⟨.Name x0 p0, i0, ifs0, 0⟩ :: gs) scope pos) (some (.Name y py)) spos.line env = pure true)
    (hclos : closureFor scope env = pure cl) (hcell : ∀ z ∈ scope.names, z.2 ≠ .cell) (hkind : scope.kind = .function)
    (hnames : ∀ z ∈ scope.names, z.2 = .local → scope.names.lookup z.1 = some .local)
    (hy : env.kindOf y = some .local) (hp : (env.scope.kind == .class || (env.scope.kind == .module && env.locals != env.globals)) = false)
    (h : wpAny (model prog w) A (eval i0 env) (fun xv s₁ => wpAny (model prog w) A (pyIter xv) (fun it s₂ => ∃ news, Fr h₀ L s₂.heap m ∧ News h₀ L s₂.heap news ∧
      Comp3 prog w A h₀ L m (.ListComp elt (⟨.Name x0 p0, i0, ifs0, 0⟩ :: gs) scope pos) (fun C => compEnvC scope cl C env) it s₂ news (fun ys news' => FinA h₀ L m s₂ y Q ys news')) E s₁) E s)
    (hs : ∀ x, foldedSetIterable i0 env x = pure x := by intro _; rfl) :
    wpAny (model prog w) A (exec (.Assign [.Name y py] (.ListComp elt (⟨.Name x0 p0, i0, ifs0, 0⟩ :: gs) scope pos) spos) env) Q E s := by
  subst hLe
  rw [exec_Assign_Name_used _ _ _ _ hsw]
  refine wpAny_bind (wpAny_standAt (wpAny_bind ?_))
  show wpAny _ A (do let _ ← comprehension (.ListComp elt (⟨.Name x0 p0, i0, ifs0, 0⟩ :: gs) scope pos) scope env _ (newList []) false (eval i0 env) (some (assign (.Name y py) env))) _ _ s
  refine wpAny_bind (wpAny_mono (wpAny_comprehension_free (use := some (assign (.Name y py) env)) (Q := fun _ s' => Q .next s') rfl hs hclos hkind hnames
    (wpAny_mono h (fun xv s₁ h₁ => wpAny_mono h₁ (fun it s₂ h₂ => ?_) fun _ _ e => e) fun _ _ e => e)) (fun _ s' hq => wpAny_pure (wpAny_pure hq)) fun _ _ e => e)
  obtain ⟨news, F, N, hrun⟩ := h₂
  refine wpAny_newObj_type (wpAny_newFunctionEnv hcell (by intro y hy; simp at hy) (fun h₁ hns₁ hsb₁ => ?_) hkind)
  dsimp only at hns₁ hsb₁ ⊢
  generalize hH2 : s₂.heap.push { cls := .type "list", dict := none, data := .seq ([] : List Value).toArray } = H2 at hns₁ hsb₁ ⊢
  have hC : H2.objs.size = s₂.heap.objs.size + 1 := by rw [← hH2, Heap.size_push]
  have hDC : s₂.heap.objs.size ≠ H2.objs.size := by rw [hC]; exact Nat.ne_of_lt (Nat.lt_succ_self _)
  have below : ∀ b, b < s₂.heap.objs.size → b ≠ H2.objs.size ∧ b ≠ s₂.heap.objs.size := fun b hb => ⟨by rw [hC]; exact Nat.ne_of_lt (Nat.lt_succ_of_lt hb), Nat.ne_of_lt hb⟩
  have old : ∀ b o, s₂.heap.get? b = some o → h₁.get? b = some o := fun b o e => hsb₁.extBut b o (below b (Heap.lt_size e)).1 (Heap.get?_push_of_some _ (hH2 ▸ Heap.get?_push_of_some _ e))
  have hacc : h₁.get? s₂.heap.objs.size = some (lst []) := hsb₁.extBut _ _ hDC (Heap.get?_push_of_some _ (hH2 ▸ Heap.get?_push_size _ rfl))
  have fresh₀ : ∀ a, s₂.heap.objs.size ≤ a → h₀.get? a = none := fun a ha => by
    cases e : h₀.get? a with
    | none => rfl
    | some o' => exact absurd (Heap.lt_size (F.keep a o' e)) (Nat.not_lt.mpr ha)
  have hD₀ : h₀.get? s₂.heap.objs.size = none := fresh₀ _ (Nat.le_refl _)
  have hC₀ : h₀.get? H2.objs.size = none := fresh₀ _ (by rw [hC]; exact Nat.le_succ _)
  have hLlt : env.locals < s₂.heap.objs.size := F.ns.lt
  have hDL : s₂.heap.objs.size ≠ env.locals := Ne.symm (below env.locals hLlt).2
  have hCL : H2.objs.size ≠ env.locals := Ne.symm (below env.locals hLlt).1
  obtain ⟨oC, heC, hoC⟩ := ns_obj hns₁
  have hoC' : NsObj oC (fun _ => none) := hoC
  refine codeAny_mono (hrun s₂.heap.objs.size H2.objs.size oC h₁ _ (F.keeps old) (fun p hp => ?_) hoC' (Ne.symm hDC) (fun p hp => below _ (Heap.lt_size (N p hp).1))) (fun r s' hr => ?_)
  · rcases List.mem_cons.mp hp with rfl | hp
    · exact ⟨heC, hCL, hC₀⟩
    · rcases List.mem_cons.mp hp with rfl | hp
      · exact ⟨hacc, hDL, hD₀⟩
      · exact ⟨old _ _ (N p hp).1, (N p hp).2⟩
  · obtain ⟨rfl, h', tk', ys, news', oC', m', rfl, F', N', hn', off', fin⟩ := hr
    show wpAny _ A (assign (.Name y py) env (.ref s₂.heap.objs.size)) _ _ _
    have zC := N' _ List.mem_cons_self
    have ND : News h₀ env.locals h' ((s₂.heap.objs.size, lst ys) :: news') := fun p hp => N' p (List.mem_cons_of_mem _ hp)
    refine wpAny_assign_Name (wpAny_storeName_local hy F'.ns (fun h₂ hn₂ hs₂ => ?_) hp)
    have hL₀ : h₀.get? env.locals = none := Heap.get?_none_of_le F'.above
    have F₂ : Fr h₀ env.locals h₂ (fun z => if z = y then some (.ref s₂.heap.objs.size) else m z) := ⟨hn₂, fun b o e => hs₂.extBut b o (fun q => by rw [q, hL₀] at e; cases e) (F'.keep b o e), F'.above⟩
    refine ⟨m', (hn'.ns zC.1).sameBut hs₂ hCL, fun h'' hs'' => fin _ h'' _ (F₂.change hs'' hCL hC₀) (fun p hp => ?_) ?_⟩
    · have z : h₂.get? p.1 = some p.2 := hs₂.extBut _ _ (ND p hp).2.1 (ND p hp).1
      refine ⟨hs''.extBut _ _ ?_ z, (ND p hp).2⟩
      rcases List.mem_cons.mp hp with rfl | hp
      · exact hDC
      · exact (off' p hp).1
    · have go : ∀ {l : List (Addr × Obj)}, (∀ p ∈ l, p.1 ≠ s₂.heap.objs.size) → Off1 s₂.heap.objs.size l := by
        intro l
        induction l with
        | nil => intro _; trivial
        | cons p r ih => intro hq; exact ⟨hq p List.mem_cons_self, ih fun q hq' => hq q (List.mem_cons_of_mem _ hq')⟩
      exact go fun p hp => (off' p hp).2
end
end Mine
namespace Mine
open PySem PySem.W PySem.Spec PySem.Calls PyProof.Rows PyProof.Rows.LCg
theorem allLt_mem {d : Addr} {l : List (Addr × Obj)} (h : AllLt d l) : ∀ p ∈ l, @LT.lt Nat _ p.1 d := by
  induction l with
  | nil => intro p hp; exact absurd hp (List.not_mem_nil)
  | cons a r ih =>
    have h' : (@LT.lt Nat _ a.1 d) ∧ AllLt d r := h
    intro p hp
    rcases List.mem_cons.mp hp with e | hp
    · rw [e]; exact h'.1
    · exact ih h'.2 p hp
/-- a made three: its places, its address, what the heap says of it besides -/
abbrev TE : Type := (Nat × Nat × Nat) × Addr × Tok × Tok × Tok × Nat
def teP (os : List Int) (e : TE) : Addr × Obj := (e.2.1, listOf #[.int (os.getD e.1.1 0) e.2.2.1, .int (os.getD e.1.2.1 0) e.2.2.2.1, .int (os.getD e.1.2.2 0) e.2.2.2.2.1] e.2.2.2.2.2)
def teV (e : TE) : Value := .ref e.2.1
def Thr (os : List Int) (tr : List (Nat × Nat × Nat)) (ys : List Value) (Ts : List (Addr × Obj)) : Prop :=
  ∃ l : List TE, tr = l.map (·.1) ∧ ys = l.map teV ∧ Ts = l.map (teP os)
def kTr (i j k : Nat) : List (Nat × Nat × Nat) := (List.range k).map fun k' => (i, j, k')
def jTr (i j : Nat) : List (Nat × Nat × Nat) := (List.range j).flatMap fun j' => kTr i j' j'
def iTr (i : Nat) : List (Nat × Nat × Nat) := (List.range i).flatMap fun i' => jTr i' i'
theorem kTr_succ (i j k : Nat) : kTr i j (k + 1) = kTr i j k ++ [(i, j, k)] := by simp [kTr, List.range_succ]
theorem jTr_succ (i j : Nat) : jTr i (j + 1) = jTr i j ++ kTr i j j := by simp [jTr, List.range_succ]
theorem iTr_succ (i : Nat) : iTr (i + 1) = iTr i ++ jTr i i := by simp [iTr, List.range_succ]
theorem kTr_len (i j k : Nat) : (kTr i j k).length = k := by simp [kTr]
theorem jTr_len (i : Nat) : ∀ j, j ≤ 5 → (jTr i j).length ≤ 25 := by
  intro j hj
  have h : (jTr i j).length = (List.range j).sum := by
    simp [jTr, List.length_flatMap, kTr_len]
  rw [h]
  have : ∀ j, j ≤ 5 → (List.range j).sum ≤ 25 := by decide
  exact this j hj
theorem iTr_len : ∀ i, i ≤ 5 → (iTr i).length ≤ 100 := by decide +kernel
theorem Thr.snoc {os : List Int} {tr : List (Nat × Nat × Nat)} {ys : List Value} {Ts : List (Addr × Obj)} (h : Thr os tr ys Ts) (e : TE) : Thr os (tr ++ [e.1]) (ys ++ [teV e]) (Ts ++ [teP os e]) := by
  obtain ⟨l, rfl, rfl, rfl⟩ := h
  exact ⟨l ++ [e], by simp, by simp, by simp⟩
theorem Thr.len {os : List Int} {tr : List (Nat × Nat × Nat)} {ys : List Value} {Ts : List (Addr × Obj)} (h : Thr os tr ys Ts) : ys.length = tr.length := by
  obtain ⟨l, rfl, rfl, rfl⟩ := h
  simp
/-- between two turns of a comprehension's loop -/
def CSt (g : Heap) (L : Addr) (m : Str → Option Value) (C D : Addr) (front rest : List (Addr × Obj)) (os : List Int) (ci : List (Str × Value)) (s s' : Shared) (tr : List (Nat × Nat × Nat)) : Prop :=
  ∃ h' tk' ys Ts oC m', s' = { s with heap := h', toks := tk' } ∧ Fr g L h' m ∧ News g L h' (front ++ (C, oC) :: (D, lst ys) :: (Ts ++ rest)) ∧ NsObj oC m' ∧ (∀ q ∈ ci, m' q.1 = some q.2) ∧ Thr os tr ys Ts ∧
    (∀ f ∈ front, f.1 ≠ C ∧ f.1 ≠ D ∧ ∀ p ∈ Ts ++ rest, p.1 ≠ f.1) ∧ C ≠ D ∧ (∀ p ∈ Ts ++ rest, p.1 ≠ C ∧ p.1 ≠ D) ∧ (∀ p ∈ Ts, ∀ q ∈ rest, p.1 ≠ q.1)
end Mine
namespace Mine
open PySem PySem.W PySem.Spec PySem.Calls PyProof.Rows PyProof.Rows.LCg
section
variable {prog : Program} {w : World} {A : Around} {s : Shared} {h₀ : Heap} {L : Addr} {m : Str → Option Value} {env : Env} {i0 tst : PySem.Expr} {x : Str} {px pe : Pos} {scope : Scope} {cl : List (Str × Addr)} {pos : Pos}
def takenOf (f : Nat → Bool) (n : Nat) : List Int := ((List.range n).filter f).map fun k : Nat => (k : Int)
theorem takenOf_succ (f : Nat → Bool) (n : Nat) : takenOf f (n + 1) = takenOf f n ++ (if f n then [(n : Int)] else []) := by
  unfold takenOf
  rw [List.range_succ, List.filter_append, List.map_append]
  congr 1
  by_cases h : f n <;> simp [h]
theorem intsAre_append {vs ws : List Value} {ns ms : List Int} (h : IntsAre vs ns) (h' : IntsAre ws ms) : IntsAre (vs ++ ws) (ns ++ ms) := by
  induction h with
  | nil => exact h'
  | cons a t _ ih => exact .cons a t ih
theorem range_test (f : Nat → Bool) {I : Addr} {n : Nat} {rest : List (Addr × Obj)} {Fin : List Value → List (Addr × Obj) → Prop} (hh : A.handled = none) (hx : scope.names.lookup x = some .local) (hkind : scope.kind = .function) (hn : n ≤ 1000) (hI : ∀ p ∈ rest, p.1 ≠ I)
    (test : ∀ k < n, ∀ t C oC D ys h tk (m' : Str → Option Value), Fr h₀ L h m → News h₀ L h ((C, oC) :: (D, lst ys) :: rest) → NsObj oC m' → m' x = some (.int (k : Int) t) → (∀ p ∈ rest, p.1 ≠ C ∧ p.1 ≠ D) →
      ∀ Q : Bool → Shared → Prop, (∀ h' tk', h.StaysIn h' → Q (f k) { s with heap := h', toks := tk' }) → wpAny (model prog w) A (isTrue tst (compEnvC scope cl C env) (eval tst (compEnvC scope cl C env))) Q (fun _ _ => False) { s with heap := h, toks := tk })
    (take : ∀ k < n, ∀ t C oC h tk (m' : Str → Option Value), Fr h₀ L h m → News h₀ L h [(C, oC)] → NsObj oC m' → m' x = some (.int (k : Int) t) →
      ∀ Q : Value → Shared → Prop, (∀ t', Q (.int (k : Int) t') { s with heap := h, toks := tk }) → wpAny (model prog w) A (eval (.Name x pe) (compEnvC scope cl C env)) Q (fun _ _ => False) { s with heap := h, toks := tk })
    (hfin : ∀ ys, IntsAre ys (takenOf f n) → Fin ys rest) :
    Comp3 prog w A h₀ L m (.ListComp (.Name x pe) [⟨.Name x px, i0, [tst], 0⟩] scope pos) (fun C => compEnvC scope cl C env) (.ref I) s ((I, itR ((0 : Int) + ((0 : Nat) : Int)) ((n : Int) - ((0 : Nat) : Int))) :: rest) Fin := by
  k_with_none
  k_with "my sub" => (first | with_reducible exact List.mem_cons_self | with_reducible assumption | (with_reducible refine subC ?_ ?_ <;> walk_at "my sub") | (with_reducible refine subA ?_ ?_ <;> walk_at "my sub") | with_reducible exact subN | (with_reducible refine List.mem_cons_of_mem _ ?_; walk_at "my sub") | (with_reducible refine List.mem_append_left _ ?_; walk_at "my sub") | (with_reducible refine List.mem_append_right _ ?_; walk_at "my sub") | (intro _ _; walk_at "my sub"))
  intro D C oC h tk F N hC hCD off
  have N1 : News h₀ L h ((I, itR ((0 : Int) + ((0 : Nat) : Int)) ((n : Int) - ((0 : Nat) : Int))) :: (C, oC) :: (D, lst []) :: rest) := fun q hq => N q (by revert q hq; walk_at "my sub")
  obtain ⟨hCI, hDI⟩ := off _ List.mem_cons_self
  have offr : ∀ p ∈ rest, p.1 ≠ C ∧ p.1 ≠ D := fun p hp => off p (.tail _ hp)
  refine codeAny_compStart_list ?gg (iter_self (a := 0) (n := n) hh N1 ?gg)
  (case gg =>
    refine codeAny_compLoop_tests (fun z s' => ∃ k h' tk' ys oC' m', z = n - k ∧ k ≤ n ∧ s' = { s with heap := h', toks := tk' } ∧ Fr h₀ L h' m ∧ News h₀ L h' ((I, itR ((0 : Int) + (k : Int)) ((n : Int) - (k : Int))) :: (C, oC') :: (D, lst ys) :: rest) ∧ NsObj oC' m' ∧ IntsAre ys (takenOf f k)) ?_ n
      ⟨0, h, tk, [], oC, _, by omega, by omega, rfl, F, N1, hC, .nil⟩
    rintro z s' ⟨k, h', tk', ys, oC', m', rfl, hk, rfl, F', N', hC', hI'⟩
    refine wpAny_mono (Q := fun r s₁ => match r with
      | none => k = n ∧ ∃ h1 tk1, s₁ = { s with heap := h1, toks := tk1 } ∧ Fr h₀ L h1 m ∧ News h₀ L h1 ((C, oC') :: (D, lst ys) :: rest)
      | some v => k < n ∧ ∃ t h1 tk1, v = .int ((0 : Int) + (k : Int)) t ∧ s₁ = { s with heap := h1, toks := tk1 } ∧ Fr h₀ L h1 m ∧ News h₀ L h1 ((I, itR ((0 : Int) + ((k + 1 : Nat) : Int)) ((n : Int) - ((k + 1 : Nat) : Int))) :: (C, oC') :: (D, lst ys) :: rest)) (E := fun _ _ => False)
      (next_rng hh F' N' (fun p hp => ?_) hk (fun hlt t h1 tk1 F1 N1 => ⟨hlt, t, h1, tk1, rfl, rfl, F1, N1⟩) (fun he h1 tk1 F1 N1 => ⟨he, h1, tk1, rfl, F1, N1⟩)) (fun r s₁ hr => ?_) (fun _ _ q => q.elim)
    · rcases List.mem_cons.mp hp with rfl | hp
      · exact Ne.symm hCI
      · rcases List.mem_cons.mp hp with rfl | hp
        · exact Ne.symm hDI
        · exact hI p hp
    cases r with
    | none =>
      obtain ⟨rfl, h1, tk1, rfl, F1, N1⟩ := hr
      exact ⟨rfl, h1, tk1, ys, rest, oC', m', rfl, F1, N1, hC', offr, hfin ys hI'⟩
    | some v =>
      obtain ⟨hlt, t, h1, tk1, rfl, rfl, F1, N1⟩ := hr
      have N2 : News h₀ L h1 ((C, oC') :: (I, itR ((0 : Int) + ((k + 1 : Nat) : Int)) ((n : Int) - ((k + 1 : Nat) : Int))) :: (D, lst ys) :: rest) := fun q hq => N1 q (by revert q hq; walk_at "my sub")
      refine assign_c hx hkind F1 N2 (fun p hp => ?_) hC' (fun h3 oC3 tk3 F3 N3 hC3 => ?_)
      · rcases List.mem_cons.mp hp with rfl | hp
        · exact hCI
        · rcases List.mem_cons.mp hp with rfl | hp
          · exact Ne.symm hCD
          · exact (offr p hp).1
      have ek : (fun y => if y = x then some (Value.int ((0 : Int) + (k : Int)) t) else m' y) x = some (.int (k : Int) t) := by simp
      refine wpAny_tests_one (wpAny_mono (test k hlt t C oC3 D ys h3 tk3 _ F3 (fun q hq => N3 q (by revert q hq; walk_at "my sub")) hC3 ek offr _ (fun h4 tk4 st4 => ?_)) (fun _ _ q => q) fun _ _ q => q.elim)
      have F4 := fr_stays F3 st4
      have N4 := news_stays N3 st4
      by_cases hf : f k = true
      · rw [hf, if_pos rfl]
        refine wpAny_mono (take k hlt t C oC3 h4 tk4 _ F4 (fun q hq => N4 q (by rw [List.mem_singleton.mp hq]; exact List.mem_cons_self)) hC3 ek _ (fun t' => ?_)) (fun _ _ q => q) fun _ _ q => q.elim
        have N5 : News h₀ L h4 ((D, lst ys) :: (C, oC3) :: (I, itR ((0 : Int) + ((k + 1 : Nat) : Int)) ((n : Int) - ((k + 1 : Nat) : Int))) :: rest) := fun q hq => N4 q (by revert q hq; walk_at "my sub")
        have hyl : ys.length ≤ n := by
          have h6 := hI'.length
          have h7 : (takenOf f k).length ≤ k := by
            unfold takenOf
            rw [List.length_map]
            exact Nat.le_trans (List.length_filter_le _ _) (by simp)
          omega
        refine append_c F4 N5 (fun p hp => ?_) (by rw [sizeLine_eq]; omega) (fun h5 F5 N6 => ⟨n - (k + 1), Nat.sub_lt_sub_left hlt (Nat.lt_succ_self _), k + 1, h5, tk4, ys ++ [.int (k : Int) t'], oC3, _, rfl, hlt, rfl, F5, fun q hq => N6 q (by revert q hq; walk_at "my sub"), hC3, ?_⟩)
        · rcases List.mem_cons.mp hp with rfl | hp
          · exact hCD
          · rcases List.mem_cons.mp hp with rfl | hp
            · exact hDI
            · exact (offr p hp).2
        · rw [takenOf_succ, hf, if_pos rfl]
          exact intsAre_append hI' (.cons _ _ .nil)
      · have hf' : f k = false := by simpa using hf
        rw [hf', if_neg (by decide)]
        refine ⟨n - (k + 1), Nat.sub_lt_sub_left hlt (Nat.lt_succ_self _), k + 1, h4, tk4, ys, oC3, _, rfl, hlt, rfl, F4, fun q hq => N4 q (by revert q hq; walk_at "my sub"), hC3, ?_⟩
        rw [takenOf_succ, hf']
        simpa using hI')
end
end Mine
namespace Mine
open PySem PySem.W PySem.Spec PySem.Calls PyProof.Rows
section
variable {prog : Program} {w : World} {p : Program} {loose : List Str} {mean : ExcName → Option Value} {mg mb : Str → Option Value}

theorem ell_tel (x y : Str) (t u : Tok) : Tel prog w (hd.heap_39 w.params) p loose mean mg mb 114 10 100 [.str x t, .str y u] (fun _ => x.length ≤ 1000 ∧ y.length ≤ 1000) (fun _ _ r => r = .bool (ellM x y)) := by
  k_with_none
  k_with "call builtin:str.split" => (k_here; k_dflt (refine' split_own ?kw0F ?kw0N ?kw0y ?kw0k ?kw0c ?_ ?kw0z; (case kw0F => k_asm); (case kw0N => k_asm); (case kw0y => decide); (case kw0k => decide +kernel); (case kw0c => assumption); (case kw0z => (rw [sizeLine_eq]; omega)); k_whole); intro a ta mid z tz h' k hsp la lz lm ln F' N'; (try k_sweep))
  k_with "my mem" => (first | exact List.mem_cons_self | (refine List.mem_cons_of_mem _ ?_; walk_at "my mem"))
  k_with "ell size" => (simp only [strValues, List.length_append, List.length_cons, List.length_nil, List.length_map]; omega)
  k_with "call builtin:len" => (k_here; k_dflt (refine' len_two ?kw3N ?kw3m ?kw3z ?_; (case kw3N => k_asm); (case kw3m => k_mem); (case kw3z => walk_at "ell size"); k_whole))
  k_with "subscriptTail Name Constant ref int" => (k_here; k_dflt (refine' item_first ?kw4N ?kw4m ?_ ?kw4s; (case kw4N => k_asm); (case kw4m => k_mem); (case kw4s => with_unfolding_all rfl); k_whole))
  k_with "subscriptTail Name UnaryOp ref int" => (k_here; k_dflt (first
  | (refine' item_lastC ?kw5N ?kw5m ?kw5z ?_ ?kw5s; (case kw5N => k_asm); (case kw5m => with_reducible walk_at "my mem"); (case kw5z => walk_at "ell size"); (case kw5s => with_unfolding_all rfl); k_whole)
  | (refine' item_last ?kw5N ?kw5m ?kw5z ?_ ?kw5s; (case kw5N => k_asm); (case kw5m => with_reducible walk_at "my mem"); (case kw5z => walk_at "ell size"); (case kw5s => with_unfolding_all rfl); k_whole)))
  k_with "truthy str" => (k_here; k_dflt (refine' truthy_own ?kw6x ?_; (case kw6x => omega); k_whole); intro tk; refine ⟨?_, ?_⟩ <;> intro hz)
  k_with "delItem ref int" => (k_here; (with_reducible show wpAny _ _ (delItem (Value.ref _) (Value.int 0 _)) _ _ _); k_dflt (refine' del_first ?kw7F ?kw7N ?kw7U ?kw7z ?_; (case kw7F => k_asm); (case kw7N => k_asm); (case kw7U => with_reducible k_upd); (case kw7z => walk_at "ell size"); k_whole); intro h' F' N'; (try k_sweep))
  k_with "delItem ref int" => (k_here; (with_reducible show wpAny _ _ (delItem (Value.ref _) (Value.int (-1) _)) _ _ _); k_dflt (first
  | (refine' del_lastC ?kw8F ?kw8N ?kw8U ?kw8z ?_; (case kw8F => k_asm); (case kw8N => k_asm); (case kw8U => with_reducible k_upd); (case kw8z => walk_at "ell size"); k_whole)
  | (refine' del_last ?kw8F ?kw8N ?kw8U ?kw8z ?_; (case kw8F => k_asm); (case kw8N => k_asm); (case kw8U => with_reducible k_upd); (case kw8z => walk_at "ell size"); k_whole)); intro h' F' N'; (try k_sweep))
  k_with "call builtin:str.find" => (k_here; k_dflt (refine' find4_call ?_; k_whole))
  k_with "pyIter ref" => (k_here; refine stop_here ?_)
  k_with "ell end" => (first
  | (rw [ellM_same (by assumption)])
  | ((have hE := ellM_of (y := y) (by assumption) hsp); rw [hE]; (try unfold ellDots); (try unfold ellLast); (try unfold ellEnd); simp_all; done))
  k_with "ell turn" => (
  refine' for_ell hG rfl ?kw12hm ?kw12he ?kw12F ?kw12N ?kw12hk ?kw12turn ?kw12done
  (case kw12F => k_asm)
  (case kw12N => k_asm)
  (case kw12hm => with_reducible walk_at "my mem")
  (case kw12he => simp [strValues])
  (case kw12hk => (intro p hp; cases List.mem_singleton.mp hp; exact rfl))
  (case kw12turn =>
    intro i c q u h1 tk1 own hq hJ F1 N1
    have hq1 : q.1.length ≤ 1000 := hall q (by
      have hm9 := List.mem_of_getElem? hq
      simp only [List.mem_cons, List.mem_append, List.not_mem_nil, or_false] at hm9 ⊢
      grind)
    k_steps
    all_goals (try dsimp only [InvPostN])
    all_goals first
      | exact hret _ _ _ (Fr.keep (by assumption)) (hJ.stop hq (by assumption))
      | (refine' ⟨_, _, _, _, [], rfl, ?kw12F, ?kw12N, ?kw12sub, ?kw12own, rfl, (_, _), rfl, ?kw12ps, ?kw12rest, ?kw12J⟩
         (case kw12F => k_asm)
         (case kw12N => k_asm)
         (case kw12sub => simp)
         (case kw12own => (intro p hp; simpa using hp))
         (case kw12ps => (intro p hp; cases List.mem_singleton.mp hp; exact rfl))
         (case kw12rest => (intro z h1 h2 h3; simp at h2; simp [kstB, h1, h2]))
         (case kw12J => exact hJ.next hq (by assumption))))
  (case kw12done =>
    intro c u h1 tk1 hJ F1 N1
    k_steps
    all_goals (try dsimp only)
    exact hret _ _ _ (Fr.keep (by assumption)) hJ))
  k_with "ell loop" => (
  unfold Stop
  have hE := ellM_of (y := y) (by assumption) hsp
  have hall : ∀ q : Str × Tok, q ∈ (a, ta) :: (mid ++ [(z, tz)]) → q.1.length ≤ 1000 := by
    intro q hq
    simp only [List.mem_cons, List.mem_append, List.not_mem_nil, or_false] at hq
    rcases hq with rfl | hq | rfl
    · exact Nat.le_trans la hx
    · exact Nat.le_trans (ln q hq) hx
    · exact Nat.le_trans lz hx
  first
  | (have hG : ellM x y = ellLoop y y.length (((a, ta) :: (mid ++ [(z, tz)])).map (·.1)) 0 := by rw [hE]; unfold ellDots ellLast ellEnd; simp_all; done)
  | (have hG : ellM x y = ellLoop y (y.length - z.length) (((a, ta) :: mid).map (·.1)) 0 := by rw [hE]; unfold ellDots ellLast ellEnd; simp_all; done)
  | (have hG : ellM x y = ellLoop y y.length ((mid ++ [(z, tz)]).map (·.1)) a.length := by rw [hE]; unfold ellDots ellLast ellEnd; simp_all; done)
  | (have hG : ellM x y = ellLoop y (y.length - z.length) (mid.map (·.1)) a.length := by rw [hE]; unfold ellDots ellLast ellEnd; simp_all; done)
  walk_at "ell turn")
  refine' tel_of (binds := [(Str.ofString "want", .str x t), (Str.ofString "got", .str y u)]) ?ho ?hcd ?hb ?hl ?h1 ?h2 ?h3 ?h4 ?_
  (case ho => k_is)
  (case hcd => k_is)
  (case hb => intro s; exact BindsTo.of_eq rfl)
  (case hl => exact locs rfl)
  (case h1 => decide)
  (case h2 => exact rfl)
  (case h3 => exact rfl)
  (case h4 => exact rfl)
  intro dp uu gd outer A₀ base g L' s Q B F N X T hd hu hpre hret
  obtain ⟨hx, hy⟩ := hpre
  k_steps
  all_goals (try dsimp only)
  all_goals first
    | (refine hret _ _ _ (Fr.keep (by assumption)) ?_; walk_at "ell end")
    | skip
  all_goals walk_at "ell loop"
end
end Mine
namespace Mine
open PySem PySem.W PySem.Spec PySem.Calls PyProof.Rows
theorem lagrange (p q r a b c s : Int) : aboveOf a b c (hgt p q r a) (hgt p q r b) (hgt p q r c) s = hgt p q r s * distOf a b c := by
  unfold aboveOf distOf hgt; grind
theorem lagrange1 (p q r a b c s e : Int) : aboveOf a b c (hgt p q r a + e) (hgt p q r b) (hgt p q r c) s = hgt p q r s * distOf a b c + e * ((s - b) * (s - c) * (b - c)) := by
  unfold aboveOf distOf hgt; grind
theorem lagrange2 (p q r a b c s e : Int) : aboveOf a b c (hgt p q r a) (hgt p q r b + e) (hgt p q r c) s = hgt p q r s * distOf a b c - e * ((s - a) * (s - c) * (a - c)) := by
  unfold aboveOf distOf hgt; grind
theorem lagrange3 (p q r a b c s e : Int) : aboveOf a b c (hgt p q r a) (hgt p q r b) (hgt p q r c + e) s = hgt p q r s * distOf a b c + e * ((s - a) * (s - b) * (a - b)) := by
  unfold aboveOf distOf hgt; grind
theorem divs_iff {A D H : Int} (hD : D ≠ 0) : (A.fdiv D = H ∧ A.fmod D = 0) ↔ A = H * D := by
  constructor
  · rintro ⟨h1, h2⟩
    have := Int.mul_fdiv_add_fmod A D
    rw [h1, h2, Int.add_zero] at this
    rw [← this, Int.mul_comm]
  · rintro rfl
    exact ⟨Int.mul_fdiv_cancel _ hD, Int.mul_fmod_left _ _⟩
theorem three_ne {x y z : Int} (hx : x ≠ 0) (hy : y ≠ 0) (hz : z ≠ 0) : x * y * z ≠ 0 := Int.mul_ne_zero (Int.mul_ne_zero hx hy) hz
theorem dist_ne {a b c : Int} (h : a ≠ b ∧ a ≠ c ∧ b ≠ c) : distOf a b c ≠ 0 := three_ne (by omega) (by omega) (by omega)
/-- what the three tell of the spot, one of them off by `e` (or none) -/
theorem told_iff {p q r a b c s e x y z : Int} (h : a ≠ b ∧ a ≠ c ∧ b ≠ c) (hs : s ≠ a ∧ s ≠ b ∧ s ≠ c)
    (ho : (x = hgt p q r a ∧ y = hgt p q r b ∧ z = hgt p q r c ∧ e = 0) ∨ (x = hgt p q r a + e ∧ y = hgt p q r b ∧ z = hgt p q r c) ∨ (x = hgt p q r a ∧ y = hgt p q r b + e ∧ z = hgt p q r c) ∨ (x = hgt p q r a ∧ y = hgt p q r b ∧ z = hgt p q r c + e)) :
    ((aboveOf a b c x y z s).fdiv (distOf a b c) = hgt p q r s ∧ (aboveOf a b c x y z s).fmod (distOf a b c) = 0) ↔ e = 0 := by
  rw [divs_iff (dist_ne h)]
  rcases ho with ⟨rfl, rfl, rfl, rfl⟩ | ⟨rfl, rfl, rfl⟩ | ⟨rfl, rfl, rfl⟩ | ⟨rfl, rfl, rfl⟩
  · rw [lagrange]; simp
  · rw [lagrange1]
    have hn : (s - b) * (s - c) * (b - c) ≠ 0 := three_ne (by omega) (by omega) (by omega)
    constructor
    · intro hh
      have : e * ((s - b) * (s - c) * (b - c)) = 0 := by omega
      exact (Int.mul_eq_zero.mp this).resolve_right hn
    · rintro rfl; simp
  · rw [lagrange2]
    have hn : (s - a) * (s - c) * (a - c) ≠ 0 := three_ne (by omega) (by omega) (by omega)
    constructor
    · intro hh
      have : e * ((s - a) * (s - c) * (a - c)) = 0 := by omega
      exact (Int.mul_eq_zero.mp this).resolve_right hn
    · rintro rfl; simp
  · rw [lagrange3]
    have hn : (s - a) * (s - b) * (a - b) ≠ 0 := three_ne (by omega) (by omega) (by omega)
    constructor
    · intro hh
      have : e * ((s - a) * (s - b) * (a - b)) = 0 := by omega
      exact (Int.mul_eq_zero.mp this).resolve_right hn
    · rintro rfl; simp
def dotted (x : Str) : Str := Str.ofString "..." ++ x ++ Str.ofString "..."
def missed (nm : Str) (k : Nat) : Bool := !ellM (dotted (sgn k)) nm
def infB (v l : List Nat) : Bool := (List.range (l.length + 1)).any fun i => v.isPrefixOf (l.drop i)
theorem infB_iff {v l : List Nat} : infB v l = true ↔ Has [v] l := by
  unfold infB
  rw [List.any_eq_true]
  constructor
  · rintro ⟨i, hi, hp⟩
    rw [List.isPrefixOf_iff_prefix] at hp
    obtain ⟨r, hr⟩ := hp
    have : l = l.take i ++ (v ++ r) := by rw [hr, List.take_append_drop]
    rw [this]
    exact .cons .nil
  · intro h
    cases h with
    | @cons u _ r _ _ =>
      refine ⟨u.length, by simp only [List.mem_range, List.length_append]; omega, ?_⟩
      rw [List.isPrefixOf_iff_prefix, List.drop_left]
      exact ⟨r, rfl⟩
theorem ell_dotted {x y : Str} (hx : 46 ∉ x.cps.toList) : ellM (dotted x) y = infB x.cps.toList y.cps.toList := by
  have h : ellM (dotted x) y = true ↔ infB x.cps.toList y.cps.toList = true := by
    rw [infB_iff, ell_iff (x := dotted x) (a := []) (mid := [x.cps.toList]) (z := []) ?_ ?_]
    · constructor
      · rintro ⟨m, h1, h2⟩; rw [List.nil_append, List.append_nil] at h1; rw [h1]; exact h2
      · intro h; exact ⟨_, by simp, h⟩
    · unfold dotted
      simp only [PySem.Str.cps_append, Array.toList_append, show (Str.ofString "...").cps.toList = [46, 46, 46] from by decide +kernel]
      simp [flat]
    · intro p hp
      simp only [List.cons_append, List.nil_append, List.mem_cons, List.not_mem_nil, or_false] at hp
      rcases hp with rfl | rfl | rfl
      · simp
      · exact hx
      · simp
  cases h1 : ellM (dotted x) y <;> cases h2 : infB x.cps.toList y.cps.toList <;> simp_all
end Mine
namespace Mine
open PySem PySem.W PySem.Spec PySem.Calls PyProof.Rows
section
variable {prog : Program} {w : World} {p : Program} {loose : List Str} {mean : ExcName → Option Value} {mg mb : Str → Option Value}
theorem lost_test {tst : PySem.Expr} {scope sc : Scope} (htst : testOf (gensOf (valOf (nthS (lawFrom 0) 19))) = tst) (hscope : scopeOf (valOf (nthS (lawFrom 0) 19)) = scope) (hsc : lawSc = sc)
    {dp uu : Nat} {gd : Option (List Code)} {fa : Addr} {cd : Value} {cl : List (Str × Addr)} {outer : List Env} {A₀ : Around} {base g : Heap} {L : Addr} {s : Shared} {m m' : Str → Option Value} {k : Nat} {t tn : Tok} {C k5 : Addr} {oC o5 : Obj} {h : Heap} {tk : Nat} {news : List (Addr × Obj)} {nm : Str} {Q : Bool → Shared → Prop}
    (B : Below A₀ base outer g) (X : (hd.heap_39 w.params).In g) (T : Top p loose mean mg mb g) (hd : dp + 300 < recursionLimit) (hu : uu + 1300 < cLine) (hk : k < 5) (ho5 : o5.data = .cell (some (.str nm tn))) (hnm : nm.length ≤ 1000)
    (F : Fr g L h m) (N : News g L h ((C, oC) :: (k5, o5) :: news)) (hC : LCg.NsObj oC m') (hx : m' (Str.ofString "n") = some (.int (k : Int) t))
    (hQ : ∀ h' tk', h.StaysIn h' → Q (missed nm k) { s with heap := h', toks := tk' }) :
    wpAny (model prog w) (ktrTop dp uu gd (Str.ofString "law") sc L fa cd cl outer) (isTrue tst (compEnvC scope [(Str.ofString "name", k5)] C (envX (Str.ofString "law") sc L fa cd cl)) (eval tst (compEnvC scope [(Str.ofString "name", k5)] C (envX (Str.ofString "law") sc L fa cd cl)))) Q (fun _ _ => False) { s with heap := h, toks := tk } := by
  k_with_none
  k_with "subscriptTail" => (k_here; (with_reducible show wpAny _ _ (subscriptTail _ _ (Value.str _ _) (Value.int _ _)) _ _ _); k_dflt (refine' item_sign_as ?kw0zh0 ?kw0zh1 ?kw0zhx (item_abcd ?kw0zha ?kw0zhb) ?_; (case kw0zh0 => omega); (case kw0zh1 => (rw [show (Str.ofString "\"abcd").length = 5 from by decide +kernel]; omega)); (case kw0zhx => decide +kernel); (case kw0zha => omega); (case kw0zhb => omega)))
  k_with "call ref" => (k_here; refine stop_here ?_)
  conv at htst => lhs; whnf
  conv at hscope => lhs; whnf
  conv at hsc => lhs; whnf
  subst htst hscope hsc
  have e3 : (Str.ofString "...").length = 3 := by decide +kernel
  k_steps
  unfold Stop
  refine' tel_use (ell_tel (dotted (sgn k)) nm _ _) B ?wF X ?wN T rfl ?wd ?wu ?wp ?_
  (case wF => k_asm)
  (case wN => k_asm)
  (case wd => first | exact room1 (by assumption) (by decide) | exact room0 (by assumption) (by decide) | omega)
  (case wu => first | exact room1 (by assumption) (by decide) | exact room0 (by assumption) (by decide) | omega)
  (case wp => exact ⟨by simp only [dotted, PySem.Str.length_append, e3]; show 3 + 1 + 3 ≤ 1000; decide, hnm⟩)
  intro r8 h8 tk8 F8 N8 st8 hO8
  subst hO8
  k_steps
  exact hQ h8 tk8 st8
theorem lost_take {scope sc : Scope} (hscope : scopeOf (valOf (nthS (lawFrom 0) 19)) = scope) (hsc : lawSc = sc) {pe : Pos}
    {dp uu : Nat} {gd : Option (List Code)} {fa : Addr} {cd : Value} {cl : List (Str × Addr)} {outer : List Env} {A₀ : Around} {base g : Heap} {L : Addr} {s : Shared} {m m' : Str → Option Value} {k : Nat} {t : Tok} {C k5 : Addr} {oC : Obj} {h : Heap} {tk : Nat} {Q : Value → Shared → Prop}
    (B : Below A₀ base outer g) (X : (hd.heap_39 w.params).In g) (T : Top p loose mean mg mb g)
    (F : Fr g L h m) (N : News g L h [(C, oC)]) (hC : LCg.NsObj oC m') (hx : m' (Str.ofString "n") = some (.int (k : Int) t))
    (hQ : ∀ t', Q (.int (k : Int) t') { s with heap := h, toks := tk }) :
    wpAny (model prog w) (ktrTop dp uu gd (Str.ofString "law") sc L fa cd cl outer) (eval (.Name (Str.ofString "n") pe) (compEnvC scope [(Str.ofString "name", k5)] C (envX (Str.ofString "law") sc L fa cd cl))) Q (fun _ _ => False) { s with heap := h, toks := tk } := by
  k_with_none
  k_with "subscriptTail" => (k_here; (with_reducible show wpAny _ _ (subscriptTail _ _ (Value.str _ _) (Value.int _ _)) _ _ _); k_dflt (refine' item_sign_as ?kw0zh0 ?kw0zh1 ?kw0zhx (item_abcd ?kw0zha ?kw0zhb) ?_; (case kw0zh0 => omega); (case kw0zh1 => (rw [show (Str.ofString "\"abcd").length = 5 from by decide +kernel]; omega)); (case kw0zhx => decide +kernel); (case kw0zha => omega); (case kw0zhb => omega)))
  k_with "call ref" => (k_here; refine stop_here ?_)
  conv at hscope => lhs; whnf
  conv at hsc => lhs; whnf
  subst hscope hsc
  k_steps
  exact hQ _
end
end Mine
namespace Mine
open PySem PySem.W PySem.Spec PySem.Calls PyProof.Rows
section
variable {prog : Program} {w : World} {p : Program} {loose : List Str} {mean : ExcName → Option Value} {mg mb : Str → Option Value}
def loopL : List Stmt := bodyOf (nthS (lawFrom 0) 21)
abbrev clOf (k1 k2 k3 k4 k5 : Addr) : List (Str × Addr) := [(Str.ofString "name", k5), (Str.ofString "order", k4), (Str.ofString "curve", k3), (Str.ofString "gap", k2), (Str.ofString "cells", k1)]
/-- no lie: all are found, none is lost -/
theorem last_none {b : List Stmt} {sc : Scope} (hb : loopL = b) (hsc : lawSc = sc) {dp uu : Nat} {gd : Option (List Code)} {fa : Addr} {cd : Value} {k1 k2 k3 k4 k5 : Addr} {outer : List Env} {A₀ : Around} {base g : Heap} {L : Addr} {s : Shared}
    {um : Str → Option Value} {n nw nl : Nat} {Rw Rl I : Addr} {it o5 : Obj} {vw : List Value} {wn nm : Str} {ps : List (Str × Value)}
    {tS tl tw tn : Tok} {news : List (Addr × Obj)} {R : Shared → Prop}
    (B : Below A₀ base outer g) (X : (hd.heap_39 w.params).In g) (T : Top p loose mean mg mb g) (hd : dp + 300 < recursionLimit) (hu : uu + 1300 < cLine) (hn : n < 10)
    (mw : (Rw, listOf vw.toArray nw) ∈ news) (ml : (Rl, listOf #[] nl) ∈ news) (m5 : (k5, o5) ∈ news) (ho5 : o5.data = .cell (some (.str nm tn)))
    (hwn : vw[n]? = some (.str wn tw)) (hwl : wn.length ≤ 10) (hnm : nm.length ≤ 1000) (hfd : ellM (dotted wn) nm = true)
    (F : Fr g L s.heap (fun y => if y = Str.ofString "n" then some (.int (0 + (n : Int)) tS) else kstB um ((Str.ofString "words", .ref Rw) :: (Str.ofString "lie", .int 0 tl) :: (Str.ofString "lost", .ref Rl) :: ps) y))
    (N : News g L s.heap ((I, it) :: news)) (hI : ∀ q ∈ news, q.1 ≠ I)
    (hend : ∀ h' tk' m', Fr g L h' m' → (∀ y, y ≠ Str.ofString "n" → y ≠ Str.ofString "found" → y ≠ Str.ofString "k" → m' y = kstB um ((Str.ofString "words", .ref Rw) :: (Str.ofString "lie", .int 0 tl) :: (Str.ofString "lost", .ref Rl) :: ps) y) →
      News g L h' ((I, it) :: news) → R { s with heap := h', toks := tk' }) :
    wpAny (model prog w) (ktrTop dp uu gd (Str.ofString "law") sc L fa cd (clOf k1 k2 k3 k4 k5) outer) (execs b (envX (Str.ofString "law") sc L fa cd (clOf k1 k2 k3 k4 k5))) (TurnEnd R) (fun _ _ => False) s := by
  k_with_none
  k_with "my sub" => (first | with_reducible exact List.mem_cons_self | with_reducible assumption | (with_reducible refine subC ?_ ?_ <;> walk_at "my sub") | (with_reducible refine subA ?_ ?_ <;> walk_at "my sub") | with_reducible exact subN | (with_reducible refine List.mem_cons_of_mem _ ?_; walk_at "my sub") | (with_reducible refine List.mem_append_left _ ?_; walk_at "my sub") | (with_reducible refine List.mem_append_right _ ?_; walk_at "my sub") | (intro _ _; walk_at "my sub"))
  k_with "my mem" => (first | exact List.mem_cons_self | (refine List.mem_cons_of_mem _ ?_; walk_at "my mem"))
  k_with "my cut" => (first | apply Cut.here | (apply Cut.cons; walk_at "my cut") | (apply Cut.app; walk_at "my cut"))
  k_with "call ref" => (k_here; refine stop_here ?_)
  k_with "binaryOp Add str str" => (k_here; (refine add_txt (by first | omega | (simp only [PySem.Str.length_append]; omega)) ?_); intro _ _)
  k_with "subscriptTail Name Name ref int" => (k_here; k_dflt (first
  | (refine' itemV_N ?kw5yN ?kw5ym (by omega) hwn (by omega) ?_; (case kw5yN => k_asm); (case kw5ym => with_reducible walk_at "my mem"))
  | (refine' itemV_N ?kw5yN ?kw5ym (by omega) hth (by omega) ?_; (case kw5yN => k_asm); (case kw5ym => with_reducible walk_at "my mem"))))
  k_with "exec For Name Name cons nil" => (k_here; (rename Fr _ _ _ _ => lF'); (with_unfolding_all refine' For_turns lF' ?_; k_whole))
  k_with "pyIter ref" => (k_here; refine stop_here ?_)
  conv at hb => lhs; whnf
  conv at hsc => lhs; whnf
  subst hb hsc
  have e3 : (Str.ofString "...").length = 3 := by decide +kernel
  have N5 : News g L s.heap ((I, it) :: (k5, o5) :: (Rw, listOf vw.toArray nw) :: (Rl, listOf #[] nl) :: news) := fun q hq => N q (by
    simp only [List.mem_cons] at hq ⊢
    rcases hq with h | h | h | h | h
    · exact .inl h
    · exact .inr (h ▸ m5)
    · exact .inr (h ▸ mw)
    · exact .inr (h ▸ ml)
    · exact .inr h)
  clear N
  k_steps
  unfold Stop
  refine' tel_use (ell_tel (dotted wn) nm _ _) B ?wF X ?wN T rfl ?wd ?wu ?wp ?_
  (case wF => k_asm)
  (case wN => k_asm)
  (case wd => first | exact room1 (by assumption) (by decide) | exact room0 (by assumption) (by decide) | omega)
  (case wu => first | exact room1 (by assumption) (by decide) | exact room0 (by assumption) (by decide) | omega)
  (case wp => exact ⟨by simp only [dotted, PySem.Str.length_append, e3]; omega, hnm⟩)
  intro r8 h8 tk8 F8 N8 st8 hO8
  rw [hfd] at hO8
  subst hO8
  clear N5 F st8
  k_steps
  unfold Stop
  rename Fr _ _ _ _ => F9
  rename News _ _ _ _ => N9
  refine iter_listTurns (vs := []) rfl F9 N9 (by with_reducible walk_at "my mem") rfl rfl ?_
  intro J lJ
  refine ItemsRest.zero fun h9 tk9 F10 N10 => ?_
  k_steps
  refine ⟨rfl, hend _ _ _ F10 (fun y a b c => ?_) fun q hq => N10 q ?_⟩
  · simp only [if_neg a, if_neg b]
  · revert q hq; walk_at "my sub"
end
end Mine
namespace Mine
open PySem PySem.W PySem.Spec PySem.Calls PyProof.Rows
section
variable {prog : Program} {w : World} {p : Program} {loose : List Str} {mean : ExcName → Option Value} {mg mb : Str → Option Value}
/-- the liar is one of the three: not found -/
theorem last_in {b : List Stmt} {sc : Scope} (hb : loopL = b) (hsc : lawSc = sc) {dp uu : Nat} {gd : Option (List Code)} {fa : Addr} {cd : Value} {k1 k2 k3 k4 k5 : Addr} {outer : List Env} {A₀ : Around} {base g : Heap} {L : Addr} {s : Shared}
    {um : Str → Option Value} {n nw nl nth nT liar ia ib ic : Nat} {lie : Int} {Rw Rl Rth Tn I : Addr} {it o5 : Obj} {vw vth : List Value} {wn nm : Str} {ps : List (Str × Value)}
    {tS tl tk tw tn t1 t2 t3 t4 : Tok} {news : List (Addr × Obj)} {R : Shared → Prop}
    (B : Below A₀ base outer g) (X : (hd.heap_39 w.params).In g) (T : Top p loose mean mg mb g) (hd : dp + 300 < recursionLimit) (hu : uu + 1300 < cLine) (hn : n < 10)
    (mw : (Rw, listOf vw.toArray nw) ∈ news) (ml : (Rl, listOf #[.int (liar : Int) t4] nl) ∈ news) (m5 : (k5, o5) ∈ news) (ho5 : o5.data = .cell (some (.str nm tn))) (mth : (Rth, listOf vth.toArray nth) ∈ news) (mT : (Tn, listOf #[.int (ia : Int) t1, .int (ib : Int) t2, .int (ic : Int) t3] nT) ∈ news)
    (hth : vth[n]? = some (.ref Tn)) (hwn : vw[n]? = some (.str wn tw)) (hwl : wn.length ≤ 10) (hnm : nm.length ≤ 1000) (hfd : ellM (dotted wn) nm = false) (hlie : lie ≠ 0) (hin : liar = ia ∨ liar = ib ∨ liar = ic)
    (F : Fr g L s.heap (fun y => if y = Str.ofString "n" then some (.int (0 + (n : Int)) tS) else kstB um ((Str.ofString "words", .ref Rw) :: (Str.ofString "lie", .int lie tl) :: (Str.ofString "liar", .int (liar : Int) tk) :: (Str.ofString "threes", .ref Rth) :: (Str.ofString "lost", .ref Rl) :: ps) y))
    (N : News g L s.heap ((I, it) :: news)) (hI : ∀ q ∈ news, q.1 ≠ I)
    (hend : ∀ h' tk' m', Fr g L h' m' → (∀ y, y ≠ Str.ofString "n" → y ≠ Str.ofString "found" → y ≠ Str.ofString "k" → m' y = kstB um ((Str.ofString "words", .ref Rw) :: (Str.ofString "lie", .int lie tl) :: (Str.ofString "liar", .int (liar : Int) tk) :: (Str.ofString "threes", .ref Rth) :: (Str.ofString "lost", .ref Rl) :: ps) y) →
      News g L h' ((I, it) :: news) → R { s with heap := h', toks := tk' }) :
    wpAny (model prog w) (ktrTop dp uu gd (Str.ofString "law") sc L fa cd (clOf k1 k2 k3 k4 k5) outer) (execs b (envX (Str.ofString "law") sc L fa cd (clOf k1 k2 k3 k4 k5))) (TurnEnd R) (fun _ _ => False) s := by
  k_with_none
  k_with "my sub" => (first | with_reducible exact List.mem_cons_self | with_reducible assumption | (with_reducible refine subC ?_ ?_ <;> walk_at "my sub") | (with_reducible refine subA ?_ ?_ <;> walk_at "my sub") | with_reducible exact subN | (with_reducible refine List.mem_cons_of_mem _ ?_; walk_at "my sub") | (with_reducible refine List.mem_append_left _ ?_; walk_at "my sub") | (with_reducible refine List.mem_append_right _ ?_; walk_at "my sub") | (intro _ _; walk_at "my sub"))
  k_with "my mem" => (first | exact List.mem_cons_self | (refine List.mem_cons_of_mem _ ?_; walk_at "my mem"))
  k_with "my cut" => (first | apply Cut.here | (apply Cut.cons; walk_at "my cut") | (apply Cut.app; walk_at "my cut"))
  k_with "call ref" => (k_here; refine stop_here ?_)
  k_with "binaryOp Add str str" => (k_here; (refine add_txt (by first | omega | (simp only [PySem.Str.length_append]; omega)) ?_); intro _ _)
  k_with "subscriptTail Name Name ref int" => (k_here; k_dflt (first
  | (refine' itemV_N ?kw5yN ?kw5ym (by omega) hwn (by omega) ?_; (case kw5yN => k_asm); (case kw5ym => with_reducible walk_at "my mem"))
  | (refine' itemV_N ?kw5yN ?kw5ym (by omega) hth (by omega) ?_; (case kw5yN => k_asm); (case kw5ym => with_reducible walk_at "my mem"))))
  k_with "exec For Name Name cons nil" => (k_here; (rename Fr _ _ _ _ => lF'); (with_unfolding_all refine' For_turns lF' ?_; k_whole))
  k_with "pyIter ref" => (k_here; refine stop_here ?_)
  conv at hb => lhs; whnf
  conv at hsc => lhs; whnf
  subst hb hsc
  have e3 : (Str.ofString "...").length = 3 := by decide +kernel
  have N5 : News g L s.heap ((I, it) :: (k5, o5) :: (Rw, listOf vw.toArray nw) :: (Rl, listOf #[.int (liar : Int) t4] nl) :: (Rth, listOf vth.toArray nth) :: (Tn, listOf #[.int (ia : Int) t1, .int (ib : Int) t2, .int (ic : Int) t3] nT) :: news) := fun q hq => N q (by
    simp only [List.mem_cons] at hq ⊢
    rcases hq with h | h | h | h | h | h | h
    · exact .inl h
    · exact .inr (h ▸ m5)
    · exact .inr (h ▸ mw)
    · exact .inr (h ▸ ml)
    · exact .inr (h ▸ mth)
    · exact .inr (h ▸ mT)
    · exact .inr h)
  clear N
  k_steps
  unfold Stop
  refine' tel_use (ell_tel (dotted wn) nm _ _) B ?wF X ?wN T rfl ?wd ?wu ?wp ?_
  (case wF => k_asm)
  (case wN => k_asm)
  (case wd => first | exact room1 (by assumption) (by decide) | exact room0 (by assumption) (by decide) | omega)
  (case wu => first | exact room1 (by assumption) (by decide) | exact room0 (by assumption) (by decide) | omega)
  (case wp => exact ⟨by simp only [dotted, PySem.Str.length_append, e3]; omega, hnm⟩)
  intro r8 h8 tk8 F8 N8 st8 hO8
  rw [hfd] at hO8
  subst hO8
  clear N5 F st8
  have hany : (false != ![(ia : Int), (ib : Int), (ic : Int)].any fun x => x == (liar : Int)) = false := by rcases hin with h | h | h <;> subst h <;> simp
  k_steps
  · exact absurd (by assumption) hlie
  unfold Stop
  rename Fr _ _ _ _ => F9
  rename News _ _ _ _ => N9
  refine iter_listTurns (vs := [.int (liar : Int) t4]) rfl F9 N9 (by with_reducible walk_at "my mem") rfl rfl ?_
  intro J lJ
  refine ItemsRest.val fun h tk F => AllObj.cons fun o hc => AllObj.nil fun N => ?_
  simp only [List.cons_append, List.nil_append] at N
  k_steps
  rename Fr _ _ _ _ => F11
  rename News _ _ _ _ => N11
  refine ⟨_, _, _, _, rfl, F11, N11, fun p hp q hq => ?_, ⟨by with_reducible walk_at "my mem", trivial⟩, ItemsRest.zero fun h9 tk9 F10 N10 => ?_⟩
  · rw [List.mem_singleton.mp hq]
    exact Nat.ne_of_lt (lJ p hp)
  k_steps
  refine ⟨rfl, hend _ _ _ F10 (fun y a b c => ?_) fun q hq => N10 q ?_⟩
  · simp only [if_neg a, if_neg b, if_neg c]
  · revert q hq; walk_at "my sub"
end
end Mine
namespace Mine
open PySem PySem.W PySem.Spec PySem.Calls PyProof.Rows
section
variable {prog : Program} {w : World} {p : Program} {loose : List Str} {mean : ExcName → Option Value} {mg mb : Str → Option Value}
/-- the liar is not one of the three: they tell what it should have told -/
theorem last_out {b : List Stmt} {sc : Scope} (hb : loopL = b) (hsc : lawSc = sc) {dp uu : Nat} {gd : Option (List Code)} {fa : Addr} {cd : Value} {k1 k2 k3 k4 k5 : Addr} {outer : List Env} {A₀ : Around} {base g : Heap} {L : Addr} {s : Shared}
    {um : Str → Option Value} {n nw nl nth nT npt npo nd liar ia ib ic : Nat} {lie a b' c x y z pl du : Int} {Rw Rl Rth Tn Rpt Rpo Rd I : Addr} {it o5 : Obj} {vw vth vpt vpo vd : List Value} {pts pos ds : List Int} {wn nm : Str}
    {tS tl tk tw tn t1 t2 t3 t4 : Tok} {fixed TT : List (Addr × Obj)} {R : Shared → Prop}
    (B : Below A₀ base outer g) (X : (hd.heap_39 w.params).In g) (T : Top p loose mean mg mb g) (hd : dp + 300 < recursionLimit) (hu : uu + 1300 < cLine) (hn : n < 10) (hliar : liar < 5)
    (mw : (Rw, listOf vw.toArray nw) ∈ fixed) (ml : (Rl, listOf #[.int (liar : Int) t4] nl) ∈ fixed) (m5 : (k5, o5) ∈ fixed) (ho5 : o5.data = .cell (some (.str nm tn))) (mth : (Rth, listOf vth.toArray nth) ∈ fixed) (mT : (Tn, listOf #[.int (ia : Int) t1, .int (ib : Int) t2, .int (ic : Int) t3] nT) ∈ fixed)
    (mpt : (Rpt, listOf vpt.toArray npt) ∈ fixed) (mpo : (Rpo, listOf vpo.toArray npo) ∈ fixed) (md : (Rd, listOf vd.toArray nd) ∈ fixed) (hIpt : IntsAre vpt pts) (hIpo : IntsAre vpo pos) (hId : IntsAre vd ds) (hpl : pts[liar]? = some pl) (hdl : ds[liar]? = some du)
    (ha : pts[ia]? = some a) (hb' : pts[ib]? = some b') (hc : pts[ic]? = some c) (hx : pos[ia]? = some x) (hy : pos[ib]? = some y) (hz : pos[ic]? = some z) (hl : pts.length ≤ 5 ∧ pos.length ≤ 5) (hab : a ≠ b' ∧ a ≠ c ∧ b' ≠ c)
    (ba : Abs a 50) (bb : Abs b' 50) (bc : Abs c 50) (bs : Abs pl 50) (bx : Abs x 20000000) (by_ : Abs y 20000000) (bz : Abs z 20000000)
    (hq : (aboveOf a b' c x y z pl).fdiv (distOf a b' c) = du) (hr : (aboveOf a b' c x y z pl).fmod (distOf a b' c) = 0)
    (hth : vth[n]? = some (.ref Tn)) (hwn : vw[n]? = some (.str wn tw)) (hwl : wn.length ≤ 10) (hnm : nm.length ≤ 1000) (hfd : ellM (dotted wn) nm = true) (hlie : lie ≠ 0) (hin : liar ≠ ia ∧ liar ≠ ib ∧ liar ≠ ic)
    (F : Fr g L s.heap (fun y => if y = Str.ofString "n" then some (.int (0 + (n : Int)) tS) else kstB um [(Str.ofString "words", .ref Rw), (Str.ofString "lie", .int lie tl), (Str.ofString "liar", .int (liar : Int) tk), (Str.ofString "threes", .ref Rth), (Str.ofString "lost", .ref Rl), (Str.ofString "points", .ref Rpt), (Str.ofString "ports", .ref Rpo), (Str.ofString "due", .ref Rd)] y))
    (N : News g L s.heap ((I, it) :: (fixed ++ TT))) (hT : TF TT) (hoff : ∀ q ∈ (I, it) :: fixed, ∀ r ∈ TT, r.1 ≠ q.1)
    (hend : ∀ h' tk' m' T', Fr g L h' m' → (∀ y, y ≠ Str.ofString "n" → y ≠ Str.ofString "found" → y ≠ Str.ofString "k" → m' y = kstB um [(Str.ofString "words", .ref Rw), (Str.ofString "lie", .int lie tl), (Str.ofString "liar", .int (liar : Int) tk), (Str.ofString "threes", .ref Rth), (Str.ofString "lost", .ref Rl), (Str.ofString "points", .ref Rpt), (Str.ofString "ports", .ref Rpo), (Str.ofString "due", .ref Rd)] y) →
      News g L h' ((I, it) :: (fixed ++ T')) → TF T' → (∀ q ∈ (I, it) :: fixed, ∀ r ∈ T', r.1 ≠ q.1) → R { s with heap := h', toks := tk' }) :
    wpAny (model prog w) (ktrTop dp uu gd (Str.ofString "law") sc L fa cd (clOf k1 k2 k3 k4 k5) outer) (execs b (envX (Str.ofString "law") sc L fa cd (clOf k1 k2 k3 k4 k5))) (TurnEnd R) (fun _ _ => False) s := by
  k_with_none
  k_with "my sub" => (first | with_reducible exact List.mem_cons_self | with_reducible assumption | (with_reducible refine subC ?_ ?_ <;> walk_at "my sub") | (with_reducible refine subA ?_ ?_ <;> walk_at "my sub") | with_reducible exact subN | (with_reducible refine List.mem_cons_of_mem _ ?_; walk_at "my sub") | (with_reducible refine List.mem_append_left _ ?_; walk_at "my sub") | (with_reducible refine List.mem_append_right _ ?_; walk_at "my sub") | (intro _ _; walk_at "my sub"))
  k_with "my mem" => (first | exact List.mem_cons_self | (refine List.mem_cons_of_mem _ ?_; walk_at "my mem"))
  k_with "my cut" => (first | apply Cut.here | (apply Cut.cons; walk_at "my cut") | (apply Cut.app; walk_at "my cut"))
  k_with "call ref" => (k_here; refine stop_here ?_)
  k_with "binaryOp Add str str" => (k_here; (refine add_txt (by first | omega | (simp only [PySem.Str.length_append]; omega)) ?_); intro _ _)
  k_with "subscriptTail Name Name ref int" => (k_here; k_dflt (first
  | (refine' itemV_N ?kw5yN ?kw5ym (by omega) hwn (by omega) ?_; (case kw5yN => k_asm); (case kw5ym => with_reducible walk_at "my mem"))
  | (refine' itemV_N ?kw5yN ?kw5ym (by omega) hth (by omega) ?_; (case kw5yN => k_asm); (case kw5ym => with_reducible walk_at "my mem"))
  | ((refine' itemL_N ?kw5yN ?kw5ym rfl hIpt hpl (by omega) ?_; (case kw5yN => k_asm); (case kw5ym => with_reducible walk_at "my mem")); intro _)
  | ((refine' itemL_N ?kw5yN ?kw5ym rfl hId hdl (by omega) ?_; (case kw5yN => k_asm); (case kw5ym => with_reducible walk_at "my mem")); intro _)))
  k_with "exec For Name Name cons nil" => (k_here; (rename Fr _ _ _ _ => lF'); (with_unfolding_all refine' For_turns lF' ?_; k_whole))
  k_with "pyIter ref" => (k_here; refine stop_here ?_)
  conv at hb => lhs; whnf
  conv at hsc => lhs; whnf
  subst hb hsc
  have e3 : (Str.ofString "...").length = 3 := by decide +kernel
  have hsub : ∀ q ∈ (I, it) :: (k5, o5) :: (Rw, listOf vw.toArray nw) :: (Rl, listOf #[.int (liar : Int) t4] nl) :: (Rth, listOf vth.toArray nth) :: (Tn, listOf #[.int (ia : Int) t1, .int (ib : Int) t2, .int (ic : Int) t3] nT) :: (Rpt, listOf vpt.toArray npt) :: (Rpo, listOf vpo.toArray npo) :: (Rd, listOf vd.toArray nd) :: fixed, q ∈ (I, it) :: fixed := by walk_at "my sub"
  have N5 : News g L s.heap ((I, it) :: (k5, o5) :: (Rw, listOf vw.toArray nw) :: (Rl, listOf #[.int (liar : Int) t4] nl) :: (Rth, listOf vth.toArray nth) :: (Tn, listOf #[.int (ia : Int) t1, .int (ib : Int) t2, .int (ic : Int) t3] nT) :: (Rpt, listOf vpt.toArray npt) :: (Rpo, listOf vpo.toArray npo) :: (Rd, listOf vd.toArray nd) :: (fixed ++ TT)) := fun q hq => N q (by revert q hq; walk_at "my sub")
  clear N
  k_steps
  unfold Stop
  refine' tel_use (ell_tel (dotted wn) nm _ _) B ?wF X ?wN T rfl ?wd ?wu ?wp ?_
  (case wF => k_asm)
  (case wN => k_asm)
  (case wd => first | exact room1 (by assumption) (by decide) | exact room0 (by assumption) (by decide) | omega)
  (case wu => first | exact room1 (by assumption) (by decide) | exact room0 (by assumption) (by decide) | omega)
  (case wp => exact ⟨by simp only [dotted, PySem.Str.length_append, e3]; omega, hnm⟩)
  intro r8 h8 tk8 F8 N8 st8 hO8
  rw [hfd] at hO8
  subst hO8
  clear N5 F st8
  have hany : (true != ![(ia : Int), (ib : Int), (ic : Int)].any fun x => x == (liar : Int)) = false := by
    obtain ⟨h1, h2, h3⟩ := hin
    have g1 : ((ia : Int) == (liar : Int)) = false := by simp; omega
    have g2 : ((ib : Int) == (liar : Int)) = false := by simp; omega
    have g3 : ((ic : Int) == (liar : Int)) = false := by simp; omega
    simp [g1, g2, g3]
  k_steps
  · exact absurd (by assumption) hlie
  unfold Stop
  rename Fr _ _ _ _ => F9
  rename News _ _ _ _ => N9
  refine iter_listTurns (vs := [.int (liar : Int) t4]) rfl F9 N9 (by with_reducible walk_at "my mem") rfl rfl ?_
  intro J lJ
  refine ItemsRest.val fun h tk F => AllObj.cons fun o ho => AllObj.nil fun N => ?_
  simp only [List.cons_append, List.nil_append] at N
  have hJ : ∀ r ∈ TT, r.1 ≠ J := fun r hr => Nat.ne_of_lt (lJ r (by walk_at "my sub"))
  k_steps
  unfold Stop
  refine' telT_call (told_tel Rpt Rpo Tn pts pos ia ib ic a b' c x y z pl t1 t2 t3 _ ha hb' hc hx hy hz hl hab ba bb bc bs bx by_ bz) B ?vF X ?vN T rfl ?vd ?vu hT ?vc ?vo ?vp ?vr
  (case vF => k_asm)
  (case vN => k_asm)
  (case vd => first | exact room1 (by assumption) (by decide) | exact room0 (by assumption) (by decide) | omega)
  (case vu => first | exact room1 (by assumption) (by decide) | exact room0 (by assumption) (by decide) | omega)
  (case vc => walk_at "my cut")
  (case vo =>
    exact allC (P := fun q : Addr × Obj => ∀ r ∈ TT, r.1 ≠ q.1) hJ fun q h => hoff q (by revert q h; walk_at "my sub"))
  (case vp => exact fun hst _ => ⟨⟨vpt, isl npt hst (by with_reducible walk_at "my mem"), hIpt⟩, ⟨vpo, isl npo hst (by with_reducible walk_at "my mem"), hIpo⟩, isl nT hst (by with_reducible walk_at "my mem")⟩)
  (case vr =>
    intro r6 h6 tk6 T6 F6 N6 hT6 ho6 st6 hO6 hN6
    obtain ⟨R4, v1, v2, rfl, ⟨t7, rfl⟩, ⟨t8, rfl⟩, hg4, hn4⟩ := hO6
    obtain ⟨N7, hne7⟩ := hN6 R4 _ hg4 hn4
    rw [hq, hr] at N7
    have ho9 : ∀ q ∈ (I, it) :: fixed, ∀ r ∈ T6, r.1 ≠ q.1 := fun q hq => ho6 q (by
      revert q hq; walk_at "my sub")
    have hJ6 : ∀ r ∈ T6, r.1 ≠ J := ho6 (J, o) (by walk_at "my sub")
    clear hN6 st6 N6 hg4 hn4
    simp only [List.cons_append, List.append_assoc, List.nil_append] at N7
    k_steps
    rename Fr _ _ _ _ => F11
    rename News _ _ _ _ => N11
    refine ⟨_, _, _, (I, it) :: (Rl, listOf #[.int (liar : Int) t4] nl) :: (fixed ++ T6), rfl, F11, fun q hq => N11 q ?_, fun p hp q hq => ?_, ⟨.tail _ (.head _), trivial⟩, ItemsRest.zero fun h9 tk9 F10 N10 => ?_⟩
    · revert q hq; walk_at "my sub"
    · rw [List.mem_singleton.mp hq]
      exact allC (P := fun p : Addr × Obj => p.1 ≠ J) (Nat.ne_of_lt (lJ _ (by walk_at "my sub"))) (allC (Nat.ne_of_lt (lJ _ (by walk_at "my sub"))) (allA (fun r hr => Nat.ne_of_lt (lJ r (by walk_at "my sub"))) hJ6)) p hp
    k_steps
    refine ⟨rfl, hend _ _ _ T6 F10 (fun y a b c => ?_) (fun q hq => N10 q ?_) hT6 ho9⟩
    · simp only [if_neg a, if_neg b, if_neg c]
    · revert q hq; walk_at "my sub")
end
end Mine
namespace Mine
open PySem PySem.W PySem.Spec PySem.Calls PyProof.Rows
def ordN (st sd : Nat) : List Nat := (List.range 5).map fun n => (st + n * sd) % 5
def triN (st sd n : Nat) : Nat × Nat × Nat :=
  let t := (iTr 5).getD n (0, 0, 0)
  ((ordN st sd).getD t.1 0, (ordN st sd).getD t.2.1 0, (ordN st sd).getD t.2.2 0)
def sc5 (k : Nat) : Nat := [34, 97, 98, 99, 100].getD k 0
def wordL (t : Nat × Nat × Nat) : List Nat := [32, sc5 t.1, sc5 t.2.1, sc5 t.2.2, 32]
def hasB (bad : Option Nat) (t : Nat × Nat × Nat) : Bool := bad == some t.1 || bad == some t.2.1 || bad == some t.2.2
def agreedL (st sd : Nat) (bad : Option Nat) (m : Nat) : List Nat := (List.range m).flatMap fun n => if hasB bad (triN st sd n) then [] else wordL (triN st sd n)
theorem agreedL_succ (st sd : Nat) (bad : Option Nat) (m : Nat) : agreedL st sd bad (m + 1) = agreedL st sd bad m ++ (if hasB bad (triN st sd m) then [] else wordL (triN st sd m)) := by
  simp [agreedL, List.range_succ]
def bads : List (Option Nat) := [none, some 0, some 1, some 2, some 3, some 4]
theorem names_ok : ∀ st < 5, ∀ sd < 4, ∀ bad ∈ bads, (∀ k < 5, infB [sc5 k] (agreedL st (1 + sd) bad 10) = !(bad == some k)) ∧ (∀ n < 10, infB (wordL (triN st (1 + sd) n)) (agreedL st (1 + sd) bad 10) = !(hasB bad (triN st (1 + sd) n))) := by
  decide +kernel
theorem agreed_len : ∀ st < 5, ∀ sd < 4, ∀ bad ∈ bads, ∀ m < 11, (agreedL st (1 + sd) bad m).length ≤ 50 ∧ 46 ∉ agreedL st (1 + sd) bad m := by
  decide +kernel
theorem tri_ok : ∀ st < 5, ∀ sd < 4, ∀ n < 10, (triN st (1 + sd) n).1 < 5 ∧ (triN st (1 + sd) n).2.1 < 5 ∧ (triN st (1 + sd) n).2.2 < 5 ∧ (triN st (1 + sd) n).1 ≠ (triN st (1 + sd) n).2.1 ∧ (triN st (1 + sd) n).1 ≠ (triN st (1 + sd) n).2.2 ∧ (triN st (1 + sd) n).2.1 ≠ (triN st (1 + sd) n).2.2 := by
  decide +kernel
theorem sgn_list (k : Nat) : (sgn (k : Int)).cps.toList = [sc5 k] := by simp [sgn, sc5]
theorem word_list (a b c : Nat) : (wordOf (a : Int) (b : Int) (c : Int)).cps.toList = wordL (a, b, c) := by
  unfold wordOf
  show (Str.ofString " " ++ (sgn a ++ Str.ofString "" ++ (sgn b ++ Str.ofString "" ++ sgn c)) ++ Str.ofString " ").cps.toList = _
  simp only [PySem.Str.cps_append, Array.toList_append, sgn_list, show (Str.ofString " ").cps.toList = [32] from by decide +kernel, show (Str.ofString "").cps.toList = [] from by decide +kernel]
  rfl
theorem sc5_free : ∀ k, 46 ∉ ([sc5 k] : List Nat) := by
  intro k
  match k with
  | 0 | 1 | 2 | 3 | 4 => decide
  | n + 5 => simp [sc5]
end Mine
namespace Mine
open PySem PySem.W PySem.Spec PySem.Calls PyProof.Rows
structure Dt where
  pp : Int
  qq : Int
  rr : Int
  x0 : Int
  gap : Int
  sp : Int
  lie : Int
  st : Nat
  sd : Nat
  liar : Nat
namespace Dt
variable (d : Dt)
def pt (n : Nat) : Int := d.x0 + d.gap * (n : Int)
def du (n : Nat) : Int := hgt d.pp d.qq d.rr (d.pt n)
def po (n : Nat) : Int := if n = d.liar then d.du n + d.lie else d.du n
def pts : List Int := (List.range 5).map d.pt
def ds : List Int := (List.range 5).map d.du
def pos (k : Nat) : List Int := (List.range k).map d.po
def os : List Int := (ordN d.st (1 + d.sd)).map fun k : Nat => (k : Int)
def bad : Option Nat := if d.lie = 0 then none else some d.liar
def tri (n : Nat) : Nat × Nat × Nat := triN d.st (1 + d.sd) n
def ag (m : Nat) : List Nat := agreedL d.st (1 + d.sd) d.bad m
structure ok : Prop where
  p : Abs d.pp 1000
  q : Abs d.qq 1000
  r : Abs d.rr 1000
  x0 : -10 ≤ d.x0 ∧ d.x0 ≤ 1
  gap : d.gap = 1 ∨ d.gap = 2 ∨ d.gap = 3
  sp : -50 ≤ d.sp ∧ d.sp ≤ 50 ∧ (d.sp < d.pt 0 ∨ d.pt 4 < d.sp)
  lie : -20 ≤ d.lie ∧ d.lie ≤ 20
  st : d.st < 5
  sd : d.sd < 4
  liar : d.liar < 5
variable {d} (h : d.ok)
include h
theorem ok.pt_lt {a b : Nat} (hab : a < b) : d.pt a < d.pt b := by
  unfold pt
  rcases h.gap with e | e | e <;> rw [e] <;> omega
theorem ok.pt_ne {a b : Nat} (hab : a ≠ b) : d.pt a ≠ d.pt b := by
  rcases Nat.lt_or_gt_of_ne hab with g | g
  · exact Int.ne_of_lt (h.pt_lt g)
  · exact Ne.symm (Int.ne_of_lt (h.pt_lt g))
theorem ok.sp_ne {n : Nat} (hn : n < 5) : d.sp ≠ d.pt n := by
  have h1 : d.pt 0 ≤ d.pt n := by
    rcases Nat.eq_zero_or_pos n with e | e
    · rw [e]; exact Int.le_refl _
    · exact Int.le_of_lt (h.pt_lt e)
  have h2 : d.pt n ≤ d.pt 4 := by
    rcases Nat.lt_or_ge n 4 with e | e
    · exact Int.le_of_lt (h.pt_lt e)
    · rw [show n = 4 by omega]; exact Int.le_refl _
  rcases h.sp.2.2 with e | e <;> omega
theorem ok.pt_abs {n : Nat} (hn : n < 5) : Abs (d.pt n) 50 := by
  have := h.x0
  unfold pt
  rcases h.gap with e | e | e <;> rw [e] <;> constructor <;> omega
theorem ok.du_abs {n : Nat} (hn : n < 5) : Abs (d.du n) 10101000 := hgt_abs h.p h.q h.r ((h.pt_abs hn).le (by decide))
theorem ok.po_abs {n : Nat} (hn : n < 5) : Abs (d.po n) 20000000 := by
  obtain ⟨a, b⟩ := h.du_abs hn
  have := h.lie
  unfold po
  split <;> constructor <;> omega
theorem ok.bad_mem : d.bad ∈ bads := by
  have := h.liar
  unfold bad
  split
  · decide
  · obtain ⟨k, hk⟩ : ∃ k, d.liar = k := ⟨_, rfl⟩
    rw [hk] at this ⊢
    match k, this with
    | 0, _ | 1, _ | 2, _ | 3, _ | 4, _ => decide
theorem ok.tri5 {n : Nat} (hn : n < 10) : (d.tri n).1 < 5 ∧ (d.tri n).2.1 < 5 ∧ (d.tri n).2.2 < 5 ∧ (d.tri n).1 ≠ (d.tri n).2.1 ∧ (d.tri n).1 ≠ (d.tri n).2.2 ∧ (d.tri n).2.1 ≠ (d.tri n).2.2 := tri_ok d.st h.st d.sd h.sd n hn
omit h in
theorem bad_false (t : Nat × Nat × Nat) : hasB d.bad t = false ↔ (d.lie = 0 ∨ (d.liar ≠ t.1 ∧ d.liar ≠ t.2.1 ∧ d.liar ≠ t.2.2)) := by
  unfold hasB bad
  by_cases e : d.lie = 0
  · simp [e]
  · simp [e, and_assoc]
/-- whether the three tell the height at the spot -/
theorem ok.tell {n : Nat} (hn : n < 10) {s : Int} (hs : s ≠ d.pt (d.tri n).1 ∧ s ≠ d.pt (d.tri n).2.1 ∧ s ≠ d.pt (d.tri n).2.2) :
    ((aboveOf (d.pt (d.tri n).1) (d.pt (d.tri n).2.1) (d.pt (d.tri n).2.2) (d.po (d.tri n).1) (d.po (d.tri n).2.1) (d.po (d.tri n).2.2) s).fdiv (distOf (d.pt (d.tri n).1) (d.pt (d.tri n).2.1) (d.pt (d.tri n).2.2)) = hgt d.pp d.qq d.rr s ∧
      (aboveOf (d.pt (d.tri n).1) (d.pt (d.tri n).2.1) (d.pt (d.tri n).2.2) (d.po (d.tri n).1) (d.po (d.tri n).2.1) (d.po (d.tri n).2.2) s).fmod (distOf (d.pt (d.tri n).1) (d.pt (d.tri n).2.1) (d.pt (d.tri n).2.2)) = 0) ↔ hasB d.bad (d.tri n) = false := by
  obtain ⟨t1, t2, t3, n12, n13, n23⟩ := h.tri5 hn
  have hab := And.intro (h.pt_ne n12) (And.intro (h.pt_ne n13) (h.pt_ne n23))
  rw [bad_false]
  by_cases e1 : d.liar = (d.tri n).1
  · rw [told_iff (e := d.lie) hab hs (.inr (.inl ⟨by unfold po; rw [if_pos e1.symm]; rfl, by unfold po; rw [if_neg (by omega)]; rfl, by unfold po; rw [if_neg (by omega)]; rfl⟩))]
    constructor
    · exact .inl
    · rintro (g | g)
      · exact g
      · exact absurd e1 g.1
  by_cases e2 : d.liar = (d.tri n).2.1
  · rw [told_iff (e := d.lie) hab hs (.inr (.inr (.inl ⟨by unfold po; rw [if_neg (by omega)]; rfl, by unfold po; rw [if_pos e2.symm]; rfl, by unfold po; rw [if_neg (by omega)]; rfl⟩)))]
    constructor
    · exact .inl
    · rintro (g | g)
      · exact g
      · exact absurd e2 g.2.1
  by_cases e3 : d.liar = (d.tri n).2.2
  · rw [told_iff (e := d.lie) hab hs (.inr (.inr (.inr ⟨by unfold po; rw [if_neg (by omega)]; rfl, by unfold po; rw [if_neg (by omega)]; rfl, by unfold po; rw [if_pos e3.symm]; rfl⟩)))]
    constructor
    · exact .inl
    · rintro (g | g)
      · exact g
      · exact absurd e3 g.2.2
  · rw [told_iff (e := 0) hab hs (.inl ⟨by unfold po; rw [if_neg (by omega)]; rfl, by unfold po; rw [if_neg (by omega)]; rfl, by unfold po; rw [if_neg (by omega)]; rfl, rfl⟩)]
    exact ⟨fun _ => .inr ⟨e1, e2, e3⟩, fun _ => rfl⟩
theorem ok.found {n : Nat} (hn : n < 10) : ellM (dotted (wordOf ((d.tri n).1 : Int) ((d.tri n).2.1 : Int) ((d.tri n).2.2 : Int))) (ofL (d.ag 10)) = !(hasB d.bad (d.tri n)) := by
  have hw := word_list (d.tri n).1 (d.tri n).2.1 (d.tri n).2.2
  rw [ell_dotted ?_, hw, ofL_list]
  · exact (names_ok d.st h.st d.sd h.sd d.bad h.bad_mem).2 n hn
  · rw [hw]
    have g := sc5_free
    simp only [wordL, List.mem_cons, List.not_mem_nil, or_false, not_or]
    exact ⟨by decide, fun e => g _ (List.mem_singleton.mpr e), fun e => g _ (List.mem_singleton.mpr e), fun e => g _ (List.mem_singleton.mpr e), by decide⟩
theorem ok.miss {k : Nat} (hk : k < 5) : missed (ofL (d.ag 10)) k = (d.bad == some k) := by
  unfold missed
  rw [ell_dotted (by rw [sgn_list]; exact sc5_free k), sgn_list, ofL_list]
  have := (names_ok d.st h.st d.sd h.sd d.bad h.bad_mem).1 k hk
  show (!infB [sc5 k] (agreedL d.st (1 + d.sd) d.bad 10)) = _
  rw [this, Bool.not_not]
end Dt
end Mine
namespace Mine
open PySem PySem.W PySem.Spec PySem.Calls PyProof.Rows
theorem pts_at (d : Dt) {n : Nat} (hn : n < 5) : d.pts[n]? = some (d.pt n) := by simp [Dt.pts, hn]
theorem ds_at (d : Dt) {n : Nat} (hn : n < 5) : d.ds[n]? = some (d.du n) := by simp [Dt.ds, hn]
theorem pos_at (d : Dt) {n k : Nat} (hn : n < k) : (d.pos k)[n]? = some (d.po n) := by simp [Dt.pos, hn]
/-- the threes and the words, one for one -/
def Rowed (d : Dt) (vth vw : List Value) (fixed : List (Addr × Obj)) : Prop := ∀ n < 10, ∃ Tn t1 t2 t3 nT tw, vth[n]? = some (.ref Tn) ∧ (Tn, listOf #[.int ((d.tri n).1 : Int) t1, .int ((d.tri n).2.1 : Int) t2, .int ((d.tri n).2.2 : Int) t3] nT) ∈ fixed ∧
  vw[n]? = some (.str (wordOf ((d.tri n).1 : Int) ((d.tri n).2.1 : Int) ((d.tri n).2.2 : Int)) tw)
theorem kst_id {m : Str → Option Value} {ps : List (Str × Value)} (hk : ∀ p ∈ ps, m p.1 = some p.2) : kstB m ps = m := funext fun z => kstB_eq hk fun _ => rfl
theorem kst_of {m : Str → Option Value} {ps qs : List (Str × Value)} (hk : ∀ p ∈ ps, m p.1 = some p.2) (hs : ∀ q ∈ qs, q ∈ ps) : kstB m qs = m := kst_id fun q hq => hk q (hs q hq)
theorem word_len (a b c : Int) : (wordOf a b c).length ≤ 10 := by
  have e1 : (Str.ofString " ").length = 1 := by decide +kernel
  unfold wordOf
  simp only [PySem.Str.length_append, join_three (x := sgn a) (y := sgn b) (z := sgn c) rfl rfl rfl, e1]
  decide
section
variable {prog : Program} {w : World} {p : Program} {loose : List Str} {mean : ExcName → Option Value} {mg mb : Str → Option Value}
def psL (d : Dt) (Rw Rth Rl Rpt Rpo Rd : Addr) (tl tk : Tok) : List (Str × Value) := [(Str.ofString "words", .ref Rw), (Str.ofString "lie", .int d.lie tl), (Str.ofString "liar", .int (d.liar : Int) tk), (Str.ofString "threes", .ref Rth), (Str.ofString "lost", .ref Rl), (Str.ofString "points", .ref Rpt), (Str.ofString "ports", .ref Rpo), (Str.ofString "due", .ref Rd)]
theorem psL_off {d : Dt} {Rw Rth Rl Rpt Rpo Rd : Addr} {tl tk : Tok} : ∀ q ∈ psL d Rw Rth Rl Rpt Rpo Rd tl tk, q.1 ≠ Str.ofString "n" ∧ q.1 ≠ Str.ofString "found" ∧ q.1 ≠ Str.ofString "k" := by
  intro q hq
  simp only [psL, List.mem_cons, List.not_mem_nil, or_false] at hq
  rcases hq with rfl | rfl | rfl | rfl | rfl | rfl | rfl | rfl <;> (dsimp only; decide +kernel)
def InvL (ps : List (Str × Value)) (J : Addr) (fixed : List (Addr × Obj)) (_i : Nat) (m : Str → Option Value) (n : List (Addr × Obj)) : Prop :=
  (∀ q ∈ ps, m q.1 = some q.2) ∧ ∃ TT, n = fixed ++ TT ∧ TF TT ∧ (∀ q ∈ fixed, ∀ r ∈ TT, r.1 ≠ q.1) ∧ (∀ q ∈ fixed ++ TT, q.1 ≠ J)
theorem loopL_all {b : List Stmt} {sc : Scope} (hb : loopL = b) (hsc : lawSc = sc) {dp uu : Nat} {gd : Option (List Code)} {fa : Addr} {cd : Value} {k1 k2 k3 k4 k5 : Addr} {outer : List Env} {A₀ : Around} {base g : Heap} {L : Addr} {s : Shared} {Q : Flow → Shared → Prop} {E : Value → Shared → Prop}
    {d : Dt} {nw nl nth npt npo nd : Nat} {Rw Rl Rth Rpt Rpo Rd J : Addr} {o5 : Obj} {vw vl vth vpt vpo vd : List Value} {tl tk tn : Tok} {fixed news : List (Addr × Obj)} {m : Str → Option Value} (h : d.ok)
    (B : Below A₀ base outer g) (X : (hd.heap_39 w.params).In g) (T : Top p loose mean mg mb g) (hd : dp + 300 < recursionLimit) (hu : uu + 1300 < cLine)
    (mw : (Rw, listOf vw.toArray nw) ∈ fixed) (ml : (Rl, listOf vl.toArray nl) ∈ fixed) (m5 : (k5, o5) ∈ fixed) (ho5 : o5.data = .cell (some (.str (ofL (d.ag 10)) tn))) (mth : (Rth, listOf vth.toArray nth) ∈ fixed)
    (mpt : (Rpt, listOf vpt.toArray npt) ∈ fixed) (mpo : (Rpo, listOf vpo.toArray npo) ∈ fixed) (md : (Rd, listOf vd.toArray nd) ∈ fixed) (hIpt : IntsAre vpt d.pts) (hIpo : IntsAre vpo (d.pos 5)) (hId : IntsAre vd d.ds)
    (hrow : Rowed d vth vw fixed) (hvl : (d.lie = 0 ∧ vl = []) ∨ (d.lie ≠ 0 ∧ ∃ t4, vl = [.int (d.liar : Int) t4]))
    (hI : InvL (psL d Rw Rth Rl Rpt Rpo Rd tl tk) J fixed 0 m news)
    (hdone : ∀ h tk m' TT, Fr g L h m' → News g L h (fixed ++ TT) → TF TT → Q .next { s with heap := h, toks := tk }) :
    RangeRest prog w (ktrTop dp uu gd (Str.ofString "law") sc L fa cd (clOf k1 k2 k3 k4 k5) outer) E g (envX (Str.ofString "law") sc L fa cd (clOf k1 k2 k3 k4 k5)) (Str.ofString "n") b Q s J 0 10 10 0 m news := by
  have hag := (agreed_len d.st h.st d.sd h.sd d.bad h.bad_mem 10 (by decide)).1
  have hnm : (ofL (d.ag 10)).length ≤ 1000 := by
    have : (ofL (d.ag 10)).length = (d.ag 10).length := by rw [← len_list, ofL_list]
    have h2 : (d.ag 10).length ≤ 50 := hag
    omega
  refine range_inv (InvL (psL d Rw Rth Rl Rpt Rpo Rd tl tk) J fixed) ?turn ?done 10 0 m news rfl hI
  · intro i m1 news1 t h1 tk1 hi hI1 F1 N1
    obtain ⟨hps, TT, rfl, hT, hoff, hoJ⟩ := hI1
    obtain ⟨Tn, t1, t2, t3, nT, tw, hth, mT, hwn⟩ := hrow i hi
    obtain ⟨q1, q2, q3, n12, n13, n23⟩ := h.tri5 hi
    have hfd := h.found hi
    have hfin : ∀ h' tk' m' T', Fr g L h' m' → (∀ q ∈ psL d Rw Rth Rl Rpt Rpo Rd tl tk, m' q.1 = some q.2) → News g L h' ((J, itR ((0 : Int) + ((i + 1 : Nat) : Int)) (((10 : Nat) : Int) - ((i + 1 : Nat) : Int))) :: (fixed ++ T')) → TF T' → (∀ q ∈ fixed, ∀ r ∈ T', r.1 ≠ q.1) → (∀ r ∈ T', r.1 ≠ J) →
        UnrEnd g L { s with heap := h1, toks := tk1 } J (itR ((0 : Int) + ((i + 1 : Nat) : Int)) (((10 : Nat) : Int) - ((i + 1 : Nat) : Int))) (InvL (psL d Rw Rth Rl Rpt Rpo Rd tl tk) J fixed (i + 1)) { s with heap := h', toks := tk' } := fun h' tk' m' T' F' hp' N' hT' ho' hJ' => by
      have hall : ∀ q ∈ fixed ++ T', q.1 ≠ J := fun q hq => by
        rcases List.mem_append.mp hq with g1 | g1
        · exact hoJ q (List.mem_append_left _ g1)
        · exact hJ' q g1
      exact ⟨h', tk', m', fixed ++ T', rfl, F', N', hall, hp', T', rfl, hT', ho', hall⟩
    rcases hvl with ⟨hl0, rfl⟩ | ⟨hl0, t4, rfl⟩
    · have hb0 : hasB d.bad (d.tri i) = false := (Dt.bad_false _).mpr (.inl hl0)
      rw [hb0] at hfd
      have e0 : psL d Rw Rth Rl Rpt Rpo Rd tl tk = [(Str.ofString "words", .ref Rw), (Str.ofString "lie", .int 0 tl), (Str.ofString "liar", .int (d.liar : Int) tk), (Str.ofString "threes", .ref Rth), (Str.ofString "lost", .ref Rl), (Str.ofString "points", .ref Rpt), (Str.ofString "ports", .ref Rpo), (Str.ofString "due", .ref Rd)] := by unfold psL; rw [hl0]
      have ek : kstB m1 ((Str.ofString "words", .ref Rw) :: (Str.ofString "lie", .int 0 tl) :: (Str.ofString "lost", .ref Rl) :: []) = m1 := kst_of hps (by rw [e0]; simp)
      refine wpAny_mono (last_none hb hsc B X T hd hu hi (List.mem_append_left _ mw) (List.mem_append_left _ ml) (List.mem_append_left _ m5) ho5 hwn (word_len _ _ _) hnm hfd (um := m1) (ps := []) (tS := t) (by rw [ek]; exact F1) N1 hoJ
        (R := UnrEnd g L { s with heap := h1, toks := tk1 } J (itR ((0 : Int) + ((i + 1 : Nat) : Int)) (((10 : Nat) : Int) - ((i + 1 : Nat) : Int))) (InvL (psL d Rw Rth Rl Rpt Rpo Rd tl tk) J fixed (i + 1))) ?_) (fun f s' q => ?_) fun _ _ q => q.elim
      · intro h' tk' m' F' hm' N'
        rw [ek] at hm'
        exact hfin h' tk' m' TT F' (fun q hq => by obtain ⟨a1, a2, a3⟩ := psL_off q hq; rw [hm' _ a1 a2 a3]; exact hps q hq) N' hT hoff (fun r hr => hoJ r (List.mem_append_right _ hr))
      · obtain ⟨rfl, hr⟩ := q; exact hr
    · have ek : kstB m1 ((Str.ofString "words", .ref Rw) :: (Str.ofString "lie", .int d.lie tl) :: (Str.ofString "liar", .int (d.liar : Int) tk) :: (Str.ofString "threes", .ref Rth) :: (Str.ofString "lost", .ref Rl) :: []) = m1 := kst_of hps (by simp [psL])
      by_cases hbb : hasB d.bad (d.tri i) = true
      · rw [hbb] at hfd
        have hin : d.liar = (d.tri i).1 ∨ d.liar = (d.tri i).2.1 ∨ d.liar = (d.tri i).2.2 := by
          have : ¬ hasB d.bad (d.tri i) = false := by rw [hbb]; decide
          rw [Dt.bad_false] at this
          omega
        refine wpAny_mono (last_in hb hsc B X T hd hu hi (List.mem_append_left _ mw) (List.mem_append_left _ ml) (List.mem_append_left _ m5) ho5 (List.mem_append_left _ mth) (List.mem_append_left _ mT) hth hwn (word_len _ _ _) hnm hfd hl0 hin (um := m1) (ps := []) (tS := t) (by rw [ek]; exact F1) N1 hoJ
          (R := UnrEnd g L { s with heap := h1, toks := tk1 } J (itR ((0 : Int) + ((i + 1 : Nat) : Int)) (((10 : Nat) : Int) - ((i + 1 : Nat) : Int))) (InvL (psL d Rw Rth Rl Rpt Rpo Rd tl tk) J fixed (i + 1))) ?_) (fun f s' q => ?_) fun _ _ q => q.elim
        · intro h' tk' m' F' hm' N'
          rw [ek] at hm'
          exact hfin h' tk' m' TT F' (fun q hq => by obtain ⟨a1, a2, a3⟩ := psL_off q hq; rw [hm' _ a1 a2 a3]; exact hps q hq) N' hT hoff (fun r hr => hoJ r (List.mem_append_right _ hr))
        · obtain ⟨rfl, hr⟩ := q; exact hr
      · have hb0 : hasB d.bad (d.tri i) = false := by simpa using hbb
        rw [hb0] at hfd
        have hout : d.liar ≠ (d.tri i).1 ∧ d.liar ≠ (d.tri i).2.1 ∧ d.liar ≠ (d.tri i).2.2 := ((Dt.bad_false _).mp hb0).resolve_left hl0
        obtain ⟨o1, o2, o3⟩ := hout
        have ht := (h.tell hi (s := d.pt d.liar) ⟨h.pt_ne o1, h.pt_ne o2, h.pt_ne o3⟩).mpr hb0
        have ek2 : kstB m1 [(Str.ofString "words", .ref Rw), (Str.ofString "lie", .int d.lie tl), (Str.ofString "liar", .int (d.liar : Int) tk), (Str.ofString "threes", .ref Rth), (Str.ofString "lost", .ref Rl), (Str.ofString "points", .ref Rpt), (Str.ofString "ports", .ref Rpo), (Str.ofString "due", .ref Rd)] = m1 := kst_of hps (by simp [psL])
        refine wpAny_mono (last_out hb hsc B X T hd hu hi h.liar mw ml m5 ho5 mth mT mpt mpo md hIpt hIpo hId (pts_at d h.liar) (ds_at d h.liar) (pts_at d q1) (pts_at d q2) (pts_at d q3) (pos_at d q1) (pos_at d q2) (pos_at d q3) ⟨by simp [Dt.pts], by simp [Dt.pos]⟩ ⟨h.pt_ne n12, h.pt_ne n13, h.pt_ne n23⟩
          (h.pt_abs q1) (h.pt_abs q2) (h.pt_abs q3) (h.pt_abs h.liar) (h.po_abs q1) (h.po_abs q2) (h.po_abs q3) ht.1 ht.2 hth hwn (word_len _ _ _) hnm hfd hl0 ⟨o1, o2, o3⟩ (um := m1) (tS := t) (by rw [ek2]; exact F1) N1 hT ?_
          (R := UnrEnd g L { s with heap := h1, toks := tk1 } J (itR ((0 : Int) + ((i + 1 : Nat) : Int)) (((10 : Nat) : Int) - ((i + 1 : Nat) : Int))) (InvL (psL d Rw Rth Rl Rpt Rpo Rd tl tk) J fixed (i + 1))) ?_) (fun f s' q => ?_) fun _ _ q => q.elim
        · intro q hq r hr
          rcases List.mem_cons.mp hq with g1 | g1
          · rw [g1]; exact hoJ r (List.mem_append_right _ hr)
          · exact hoff q g1 r hr
        · intro h' tk' m' T' F' hm' N' hT' ho'
          rw [ek2] at hm'
          exact hfin h' tk' m' T' F' (fun q hq => by obtain ⟨a1, a2, a3⟩ := psL_off q hq; rw [hm' _ a1 a2 a3]; exact hps q hq) N' hT' (fun q hq => ho' q (.tail _ hq)) (fun r hr => ho' _ (.head _) r hr)
        · obtain ⟨rfl, hr⟩ := q; exact hr
  · intro m1 news1 h1 tk1 hI1 F1 N1
    obtain ⟨hps, TT, rfl, hT, hoff, hoJ⟩ := hI1
    exact hdone h1 tk1 m1 TT F1 N1 hT
end
end Mine
namespace Mine
open PySem PySem.W PySem.Spec PySem.Calls PyProof.Rows
section
variable {prog : Program} {w : World} {p : Program} {loose : List Str} {mean : ExcName → Option Value} {mg mb : Str → Option Value}
theorem taken_missed {d : Dt} (h : d.ok) : takenOf (missed (ofL (d.ag 10))) 5 = if d.lie = 0 then [] else [(d.liar : Int)] := by
  have e : (List.range 5).filter (missed (ofL (d.ag 10))) = (List.range 5).filter fun k => d.bad == some k := List.filter_congr fun k hk => h.miss (List.mem_range.mp hk)
  unfold takenOf
  rw [e]
  have hb : d.bad = if d.lie = 0 then none else some d.liar := rfl
  rw [hb]
  by_cases e0 : d.lie = 0
  · rw [if_pos e0, if_pos e0]; rfl
  · rw [if_neg e0, if_neg e0]
    have hl := h.liar
    obtain ⟨k, hk⟩ : ∃ k, d.liar = k := ⟨_, rfl⟩
    rw [hk] at hl ⊢
    match k, hl with
    | 0, _ | 1, _ | 2, _ | 3, _ | 4, _ => decide
theorem end_part {b : List Stmt} {sc : Scope} (hb : lawFrom 20 = b) (hsc : lawSc = sc) {dp uu : Nat} {gd : Option (List Code)} {fa : Addr} {cd : Value} {k1 k2 k3 k4 k5 : Addr} {A₀ : Around} {g : Heap} {L : Addr} {s : Shared} {Q : Flow → Shared → Prop}
    {d : Dt} {nw nl nth npt npo nd : Nat} {Rw Rl Rth Rpt Rpo Rd : Addr} {o5 : Obj} {vw vl vth vpt vpo vd : List Value} {tl tk tn : Tok} {fixed TT : List (Addr × Obj)} {m : Str → Option Value} (h : d.ok)
    (B : Below A₀ g [] g) (X : (hd.heap_39 w.params).In g) (T : Top p loose mean mg mb g) (hd : dp + 300 < recursionLimit) (hu : uu + 1300 < cLine)
    (mw : (Rw, listOf vw.toArray nw) ∈ fixed) (ml : (Rl, listOf vl.toArray nl) ∈ fixed) (m5 : (k5, o5) ∈ fixed) (ho5 : o5.data = .cell (some (.str (ofL (d.ag 10)) tn))) (mth : (Rth, listOf vth.toArray nth) ∈ fixed)
    (mpt : (Rpt, listOf vpt.toArray npt) ∈ fixed) (mpo : (Rpo, listOf vpo.toArray npo) ∈ fixed) (md : (Rd, listOf vd.toArray nd) ∈ fixed) (hIpt : IntsAre vpt d.pts) (hIpo : IntsAre vpo (d.pos 5)) (hId : IntsAre vd d.ds)
    (hrow : Rowed d vth vw fixed) (hIl : IntsAre vl (takenOf (missed (ofL (d.ag 10))) 5))
    (hm : ∀ q ∈ psL d Rw Rth Rl Rpt Rpo Rd tl tk, m q.1 = some q.2) (F : Fr g L s.heap m) (N : News g L s.heap (fixed ++ TT)) (hT : TF TT) (hoff : ∀ q ∈ fixed, ∀ r ∈ TT, r.1 ≠ q.1)
    (hend : ∀ h tk m' TT, Fr g L h m' → News g L h (fixed ++ TT) → TF TT → Q (.ret (.bool true)) { s with heap := h, toks := tk }) :
    wpAny (model prog w) (ktrTop dp uu gd (Str.ofString "law") sc L fa cd (clOf k1 k2 k3 k4 k5) []) (execs b (envX (Str.ofString "law") sc L fa cd (clOf k1 k2 k3 k4 k5))) Q (fun _ _ => False) s := by
  k_with_none
  k_with "my mem" => (first | exact List.mem_cons_self | (refine List.mem_cons_of_mem _ ?_; walk_at "my mem"))
  k_with "my cut" => (first | apply Cut.here | (apply Cut.cons; walk_at "my cut") | (apply Cut.app; walk_at "my cut"))
  k_with "pyIter ref" => (k_here; refine stop_here ?_)
  k_with "exec For Name Call cons nil" => (k_here; (rename Fr _ _ _ _ => lF'); (with_unfolding_all refine' For_invVF lF' ?kw3k1 ?kw3k2 ?_; (case kw3k1 => exact rfl); (case kw3k2 => exact rfl); k_whole))
  conv at hb => lhs; whnf
  have hsc' := hsc
  conv at hsc => lhs; whnf
  subst hb hsc
  rw [taken_missed h] at hIl
  have hvl : (d.lie = 0 ∧ vl = []) ∨ (d.lie ≠ 0 ∧ ∃ t4, vl = [.int (d.liar : Int) t4]) := by
    by_cases e0 : d.lie = 0
    · rw [if_pos e0] at hIl; cases hIl; exact .inl ⟨e0, rfl⟩
    · rw [if_neg e0] at hIl; cases hIl with | cons a t h' => cases h'; exact .inr ⟨e0, t, rfl⟩
  have ek : kstB m [(Str.ofString "lost", .ref Rl), (Str.ofString "lie", .int d.lie tl), (Str.ofString "liar", .int (d.liar : Int) tk)] = m := kst_of hm (by simp [psL])
  have hm' := hm
  rw [← ek] at F
  have hvl' := hvl
  rcases hvl' with ⟨e0, rfl⟩ | ⟨e0, t4, rfl⟩
  · have N5 : News g L s.heap ((Rl, listOf #[] nl) :: (fixed ++ TT)) := fun q hq => N q (by
      rcases List.mem_cons.mp hq with h | h
      · exact h ▸ List.mem_append_left _ ml
      · exact h)
    clear N
    k_steps
    all_goals (try exact absurd e0 (by assumption))
    unfold Stop
    rename Fr _ _ _ _ => F8
    rename News _ _ _ _ => N8
    rename IsRange _ _ _ _ _ _ _ _ => hrg
    rw [ek] at F8
    have N9 : News g L _ (fixed ++ TT) := fun q hq => N8 q (by simp only [List.mem_cons]; simp [hq])
    clear N8
    refine iter_rangeUnr (n := 10) rfl hrg ?sm ?rs F8 N9 ?_
    (case sm => exact (small_range (n := 10) (by decide)).1)
    (case rs => exact (small_range (n := 10) (by decide)).2)
    intro J lJ
    refine loopL_all rfl rfl h B X T hd hu mw ml m5 ho5 mth mpt mpo md hIpt hIpo hId hrow hvl ⟨hm', TT, rfl, hT, hoff, fun q hq => Nat.ne_of_lt (lJ q hq)⟩ ?_
    intro h9 tk9 m9 T9 F9 N9 hT9
    dsimp only
    k_steps
    exact hend _ _ _ _ F9 N9 hT9
  · have N5 : News g L s.heap ((Rl, listOf #[.int (d.liar : Int) t4] nl) :: (fixed ++ TT)) := fun q hq => N q (by
      rcases List.mem_cons.mp hq with h | h
      · exact h ▸ List.mem_append_left _ ml
      · exact h)
    clear N
    k_steps
    all_goals (try exact absurd (by assumption) e0)
    all_goals (try (rename ¬ _ = _ => hno; exact absurd (by rw [if_neg e0]) hno))
    unfold Stop
    rename Fr _ _ _ _ => F8
    rename News _ _ _ _ => N8
    rename IsRange _ _ _ _ _ _ _ _ => hrg
    rw [ek] at F8
    have N9 : News g L _ (fixed ++ TT) := fun q hq => N8 q (by simp only [List.mem_cons]; simp [hq])
    clear N8
    refine iter_rangeUnr (n := 10) rfl hrg ?sm ?rs F8 N9 ?_
    (case sm => exact (small_range (n := 10) (by decide)).1)
    (case rs => exact (small_range (n := 10) (by decide)).2)
    intro J lJ
    refine loopL_all rfl rfl h B X T hd hu mw ml m5 ho5 mth mpt mpo md hIpt hIpo hId hrow hvl ⟨hm', TT, rfl, hT, hoff, fun q hq => Nat.ne_of_lt (lJ q hq)⟩ ?_
    intro h9 tk9 m9 T9 F9 N9 hT9
    dsimp only
    k_steps
    exact hend _ _ _ _ F9 N9 hT9
end
end Mine
namespace Mine
open PySem PySem.W PySem.Spec PySem.Calls PyProof.Rows
section
variable {prog : Program} {w : World} {p : Program} {loose : List Str} {mean : ExcName → Option Value} {mg mb : Str → Option Value}
theorem p257_tel (x : Str) (t : Tok) : Tel prog w (hd.heap_39 w.params) p loose mean mg mb 65 10 100 [.str x t] (fun _ => x.length ≤ 1000 ∧ Txt.slice x none (some 3) = Str.ofString "257" ∧ Txt.slice x (some 3) (some 5) = Str.ofString " \"") (fun _ _ r => ∃ t, r = .str ⟨(undbl (x.cps.toList.drop 5)).toArray⟩ t) := by
  k_with_none
  k_with "exec For Name Name cons nil" => (k_here; (rename Fr _ _ _ _ => lF'); (with_unfolding_all refine' For_invVF lF' ?kw0k1 ?kw0k2 ?_; (case kw0k1 => exact rfl); (case kw0k2 => exact rfl); k_whole))
  k_with "exec For Name Call cons nil" => (k_here; (rename Fr _ _ _ _ => lF'); (with_unfolding_all refine' For_invVF lF' ?kw1k1 ?kw1k2 ?_; (case kw1k1 => exact rfl); (case kw1k2 => exact rfl); k_whole))
  k_with "pyIter str" => (k_here; refine stop_here ?_)
  k_with "pyIter ref" => (k_here; refine stop_here ?_)
  k_with "exec While Compare cons nil" => (k_here; refine stop_here ?_)
  k_with "subscriptTail Name Name str int" => (k_here; (refine item_sign ?kw5h0 ?kw5h1 ?kw5hx ?_); (case kw5h0 => omega); (case kw5h1 => omega); (case kw5hx => omega); intro n hn)
  refine' tel_of (binds := [(Str.ofString "resp", .str x t)]) ?ho ?hcd ?hb ?hl ?h1 ?h2 ?h3 ?h4 ?_
  (case ho => k_is)
  (case hcd => k_is)
  (case hb => intro s; exact BindsTo.of_eq rfl)
  (case hl => exact locs rfl)
  (case h1 => decide)
  (case h2 => exact rfl)
  (case h3 => exact rfl)
  (case h4 => exact rfl)
  intro dp uu gd outer A₀ base g L' s Q B F N X T hd hu hpre hret
  obtain ⟨hx, hs1, hs2⟩ := hpre
  k_steps
  all_goals (try dsimp only)
  · exact absurd hs2 (by simpa using ‹(Txt.slice x (some 3) (some 5) != Str.ofString " \"") = true›)
  · unfold Stop
    refine' ksw_while (σ := (Int × Tok) × (Str × Tok)) (fun _ => []) (fun c => [(Str.ofString "i", Value.int c.1.1 c.1.2), (Str.ofString "dirname", Value.str c.2.1 c.2.2)]) (fun _ => True) [Str.ofString "c"] (PJ x) (fun c => x.length - c.1.1.toNat) ((_, _), (_, _)) ?F News.nil trivial ?hk ?hp ?turn
    (case F => k_asm)
    (case hk => (intro p hp; simp only [List.mem_cons, List.not_mem_nil, or_false] at hp; rcases hp with rfl | rfl <;> exact rfl))
    (case hp => exact PJ.start)
    (case turn =>
      intro c u h1 tk1 _ hJ F1 N1
      have hJ1 := hJ.1
      have hJ2 := hJ.2.1
      k_steps
      all_goals (try dsimp only [KswPost])
      all_goals (try dsimp only)
      all_goals first
        | exact hret _ _ _ (Fr.keep (by assumption)) ⟨c.2.2, by rw [hJ.out (by assumption)]⟩
        | exact hret _ _ _ (Fr.keep (by assumption)) ⟨c.2.2, by rw [hJ.shut1 (by assumption) (by assumption) (by assumption)]⟩
        | exact hret _ _ _ (Fr.keep (by assumption)) ⟨c.2.2, by rw [hJ.shut2 (by assumption) (by assumption) (by assumption) (by assumption)]⟩
        | (refine' ksw_end ((_, _), (_, _)) ?Fj ?Nj ?nj ?fj ?kj ?rj ?pj ?mj
           (case Fj => k_asm)
           (case Nj => k_asm)
           (case nj => simp)
           (case fj => trivial)
           (case kj => (intro p hp; simp only [List.mem_cons, List.not_mem_nil, or_false] at hp; rcases hp with rfl | rfl <;> exact rfl))
           (case rj => (intro z h2 h3; simp at h2 h3; simp [kstB, h2, h3]))
           (case pj => first | exact hJ.two' (by assumption) (by assumption) (by assumption) (by assumption) | exact hJ.one' (by assumption) (by assumption))
           (case mj => (dsimp only; first | exact meas2 hJ1 (Int.not_le.mp (by assumption)) | exact meas1 hJ1 (by assumption) | omega))))
end
end Mine
namespace Mine
open PySem PySem.W PySem.Spec PySem.Calls PyProof.Rows
open Builtin Builtin.Str StrLaws
theorem quoteA : Str.ofString "\"" = ⟨#[34]⟩ := by decide +kernel
theorem quoteB : Str.ofString "\"\"" = ⟨#[34, 34]⟩ := by decide +kernel
def dblS (l : List Nat) : PySem.Str := Txt.replace (ofL l) (Str.ofString "\"") (Str.ofString "\"\"")
theorem dblS_list (l : List Nat) : (dblS l).cps.toList = dbl 34 l := by
  unfold dblS
  rw [quoteA, quoteB, replace_double]
  rfl
theorem dbl_le (c : Nat) : ∀ l : List Nat, (dbl c l).length ≤ 2 * l.length
  | [] => Nat.le_refl _
  | a :: l => by
    have := dbl_le c l
    unfold dbl
    split <;> simp only [List.length_cons, List.length_append, List.length_nil] at * <;> omega
theorem dblS_len (l : List Nat) : (dblS l).length ≤ 2 * l.length := by
  rw [← len_list, dblS_list]; exact dbl_le 34 l
def told257 (l : List Nat) : PySem.Str := Str.ofString "257 \"" ++ dblS l ++ Str.ofString "\" agree"
theorem told257_list (l : List Nat) : (told257 l).cps.toList = [50, 53, 55, 32, 34] ++ (dbl 34 l ++ 34 :: [32, 97, 103, 114, 101, 101]) := by
  unfold told257
  simp only [Str.cps_append, Array.toList_append, dblS_list]
  rw [show (Str.ofString "257 \"").cps.toList = [50, 53, 55, 32, 34] from by decide +kernel, show (Str.ofString "\" agree").cps.toList = 34 :: [32, 97, 103, 114, 101, 101] from by decide +kernel]
  simp
theorem told257_ok {l : List Nat} (hl : l.length ≤ 100) :
    ((told257 l).length ≤ 1000 ∧ Txt.slice (told257 l) none (some 3) = Str.ofString "257" ∧ Txt.slice (told257 l) (some 3) (some 5) = Str.ofString " \"") ∧ (⟨(undbl ((told257 l).cps.toList.drop 5)).toArray⟩ : PySem.Str) = ofL l := by
  have hL := told257_list l
  have hn : (told257 l).length = 12 + (dbl 34 l).length := by
    rw [← len_list, hL]
    simp only [List.length_append, List.length_cons, List.length_nil]
    omega
  have hd := dbl_le 34 l
  refine ⟨⟨by omega, ?_, ?_⟩, ?_⟩
  · apply str_inj
    rw [slice_to (by decide) (by omega), hL]
    show [50, 53, 55] = _
    decide +kernel
  · apply str_inj
    rw [slice_mid (by decide) (by decide) (by omega), hL]
    show [32, 34] = _
    decide +kernel
  · rw [hL]
    show (⟨(undbl (dbl 34 l ++ 34 :: [32, 97, 103, 114, 101, 101])).toArray⟩ : PySem.Str) = _
    rw [undbl_dbl _ _ (by decide)]
    rfl
end Mine
namespace Mine
open PySem PySem.W PySem.Spec PySem.Calls PyProof.Rows
section
variable {prog : Program} {w : World} {p : Program} {loose : List Str} {mean : ExcName → Option Value} {mg mb : Str → Option Value}
def psN (d : Dt) (Rw Rth Rpt Rpo Rd : Addr) (tl tk : Tok) : List (Str × Value) := [(Str.ofString "words", .ref Rw), (Str.ofString "lie", .int d.lie tl), (Str.ofString "liar", .int (d.liar : Int) tk), (Str.ofString "threes", .ref Rth), (Str.ofString "points", .ref Rpt), (Str.ofString "ports", .ref Rpo), (Str.ofString "due", .ref Rd)]
theorem psN_off {d : Dt} {Rw Rth Rpt Rpo Rd : Addr} {tl tk : Tok} : ∀ q ∈ psN d Rw Rth Rpt Rpo Rd tl tk, q.1 ≠ Str.ofString "lost" := by
  intro q hq
  simp only [psN, List.mem_cons, List.not_mem_nil, or_false] at hq
  rcases hq with rfl | rfl | rfl | rfl | rfl | rfl | rfl <;> (dsimp only; decide +kernel)
theorem off1_mem {D : Addr} : ∀ {l : List (Addr × Obj)}, LCg.Off1 D l → ∀ p ∈ l, p.1 ≠ D
  | [], _ => fun p hp => absurd hp List.not_mem_nil
  | a :: r, h => fun p hp => by
    have h' : a.1 ≠ D ∧ LCg.Off1 D r := h
    rcases List.mem_cons.mp hp with e | hp
    · rw [e]; exact h'.1
    · exact off1_mem h'.2 p hp
theorem name_part {b : List Stmt} {sc : Scope} (hb : lawFrom 18 = b) (hsc : lawSc = sc) {dp uu : Nat} {gd : Option (List Code)} {fa : Addr} {cd : Value} {k1 k2 k3 k4 k5 : Addr} {A₀ : Around} {g : Heap} {L : Addr} {s : Shared} {Q : Flow → Shared → Prop}
    {d : Dt} {nw nth npt npo nd : Nat} {Rw Rth Rpt Rpo Rd : Addr} {o5 : Obj} {v5 : Option Value} {vw vth vpt vpo vd : List Value} {tl tq ta : Tok} {fixed TT : List (Addr × Obj)} {m : Str → Option Value} (h : d.ok)
    (B : Below A₀ g [] g) (X : (hd.heap_39 w.params).In g) (T : Top p loose mean mg mb g) (hd : dp + 300 < recursionLimit) (hu : uu + 1300 < cLine)
    (mw : (Rw, listOf vw.toArray nw) ∈ fixed) (ho5 : o5.data = .cell v5) (mth : (Rth, listOf vth.toArray nth) ∈ fixed)
    (mpt : (Rpt, listOf vpt.toArray npt) ∈ fixed) (mpo : (Rpo, listOf vpo.toArray npo) ∈ fixed) (md : (Rd, listOf vd.toArray nd) ∈ fixed) (hIpt : IntsAre vpt d.pts) (hIpo : IntsAre vpo (d.pos 5)) (hId : IntsAre vd d.ds)
    (hrow : Rowed d vth vw fixed)
    (hm : ∀ q ∈ psN d Rw Rth Rpt Rpo Rd tl tq, m q.1 = some q.2) (hag : m (Str.ofString "agreed") = some (.str (ofL (d.ag 10)) ta)) (F : Fr g L s.heap m) (N : News g L s.heap ((k5, o5) :: (fixed ++ TT))) (hT : TF TT) (hoff : ∀ q ∈ fixed, ∀ r ∈ TT, r.1 ≠ q.1) (hk5 : ∀ q ∈ fixed ++ TT, q.1 ≠ k5)
    (hend : ∀ h tk m' TT, Fr g L h m' → News g L h TT → TF TT → Q (.ret (.bool true)) { s with heap := h, toks := tk }) :
    wpAny (model prog w) (ktrTop dp uu gd (Str.ofString "law") sc L fa cd (clOf k1 k2 k3 k4 k5) []) (execs b (envX (Str.ofString "law") sc L fa cd (clOf k1 k2 k3 k4 k5))) Q (fun _ _ => False) s := by
  k_with_none
  k_with "my sub" => (first | with_reducible exact List.mem_cons_self | with_reducible assumption | (with_reducible refine subC ?_ ?_ <;> walk_at "my sub") | (with_reducible refine subA ?_ ?_ <;> walk_at "my sub") | with_reducible exact subN | (with_reducible refine List.mem_cons_of_mem _ ?_; walk_at "my sub") | (with_reducible refine List.mem_append_left _ ?_; walk_at "my sub") | (with_reducible refine List.mem_append_right _ ?_; walk_at "my sub") | (intro _ _; walk_at "my sub"))
  k_with "my mem" => (first | exact List.mem_cons_self | (refine List.mem_cons_of_mem _ ?_; walk_at "my mem"))
  k_with "call ref" => (k_here; refine stop_here ?_)
  k_with "binaryOp Add str str" => (k_here; (refine add_txt (by first | omega | (simp only [PySem.Str.length_append]; omega)) ?_); intro _ _)
  k_with "pyIter ref" => (k_here; refine stop_here ?_)
  k_with "exec Assign cons ListComp" => (k_here; refine stop_here ?_)
  k_with "storeName" => (k_here; k_dflt (first
  | (refine' storeX_L ?kw6F ?kw6N ?_ ?kw6a ?kw6b; (case kw6F => k_asm); (case kw6N => k_asm); (case kw6a => rfl); (case kw6b => rfl); k_whole; intro h' F' N'; (try k_sweep))
  | (refine' storeX_C ?kw6F ?kw6N ?kw6c ?kw6U ?kw6d ?_ ?kw6a ?kw6b; (case kw6a => rfl); (case kw6b => rfl); (case kw6F => k_asm); (case kw6N => k_asm); (case kw6c => rfl); (case kw6U => exact UpdF.head hk5); (case kw6d => k_asm); k_whole; intro h' o' F' N' d'; (try dsimp only at N'); (try k_sweep))))
  conv at hb => lhs; whnf
  have hsc' := hsc
  conv at hsc => lhs; whnf
  subst hb hsc
  have e1 : (Str.ofString "257 \"").length = 5 := by decide +kernel
  have e2 : (Str.ofString "\" agree").length = 7 := by decide +kernel
  have hagl : (d.ag 10).length ≤ 50 := (agreed_len d.st h.st d.sd h.sd d.bad h.bad_mem 10 (by decide)).1
  have e3 : (Txt.replace (ofL (d.ag 10)) (Str.ofString "\"") (Str.ofString "\"\"")).length ≤ 100 := Nat.le_trans (dblS_len (d.ag 10)) (by omega)
  have e4 : (ofL (d.ag 10)).length ≤ 50 := by
    have : (ofL (d.ag 10)).length = (d.ag 10).length := by rw [← len_list, ofL_list]
    omega
  have ek : kstB m [(Str.ofString "agreed", .str (ofL (d.ag 10)) ta)] = m := kst_id fun q hq => by
    rw [List.mem_singleton.mp hq]; exact hag
  have hm' := hm
  rw [← ek] at F
  k_steps
  unfold Stop
  refine' tel_use (p257_tel (told257 (d.ag 10)) _) B ?wF X ?wN T rfl ?wd ?wu ?wp ?_
  (case wF => k_asm)
  (case wN => k_asm)
  (case wd => first | exact room1 (by assumption) (by decide) | exact room0 (by assumption) (by decide) | omega)
  (case wu => first | exact room1 (by assumption) (by decide) | exact room0 (by assumption) (by decide) | omega)
  (case wp => exact (told257_ok (by omega)).1)
  intro r8 h8 tk8 F8 N8 st8 hO8
  obtain ⟨tn, hO8⟩ := hO8
  rw [(told257_ok (l := d.ag 10) (by omega)).2] at hO8
  subst hO8
  rw [ek] at F8
  clear F N st8
  k_steps
  unfold Stop
  rename Fr _ _ _ _ => F9
  rename News _ _ _ _ => N9
  rename _ = Data.cell (some (Value.str (ofL (d.ag 10)) tn)) => ho9
  clear ho5
  refine Assign_compG (h₀ := g) (m := m) rfl (by with_unfolding_all rfl) (by with_unfolding_all rfl) (by decide) rfl (by decide) rfl rfl ?_
  k_steps
  unfold Stop
  rename IsRange _ _ _ _ _ _ _ _ => hrg
  rename Fr _ _ _ _ => F10
  rename News _ _ _ _ => N10
  refine iter_rng (n := 5) hrg (by decide) F10 N10 fun I hI FI NI offI => ⟨_, FI, NI, ?_⟩
  refine range_test (missed (ofL (d.ag 10))) rfl rfl rfl (by decide) offI ?test ?take ?fin
  (case test =>
    intro k hk t C oC D ys h1 tk1 m1 F1 N1 hC1 hx1 off1 Q1 hQ1
    refine lost_test rfl rfl hsc' B X T hd hu hk ho9 (by omega) F1 (news := []) (fun q hq => N1 q ?_) hC1 hx1 hQ1
    revert q hq; walk_at "my sub")
  (case take =>
    intro k hk t C oC h1 tk1 m1 F1 N1 hC1 hx1 Q1 hQ1
    exact lost_take rfl hsc' B X T F1 N1 hC1 hx1 hQ1)
  (case fin =>
    intro ys hys Rl h2 tk2 F2 N2 off2
    dsimp only
    have o2 := off1_mem off2
    obtain ⟨nl, hlst⟩ : ∃ nl, LCg.lst ys = listOf ys.toArray nl := ⟨_, rfl⟩
    rw [hlst] at N2
    have hfx : ∀ q ∈ fixed, q ∈ (Rl, listOf ys.toArray nl) :: (k5, o') :: fixed := fun q hq => .tail _ (.tail _ hq)
    rename IntsAre vd d.ds => hId
    refine end_part (tl := tl) (tk := tq) rfl hsc' h B X T hd hu (hfx _ mw) (.head _) (.tail _ (.head _)) ho9 (hfx _ mth) (hfx _ mpt) (hfx _ mpo) (hfx _ md) hIpt hIpo hId (fun n hn => ?_) hys (fun q hq => ?_) F2 N2 hT (fun q hq r hr => ?_) fun h3 tk3 m3 T3 F3 N3 hT3 => hend _ _ _ T3 F3 (fun q hq => N3 q (List.mem_append_right _ hq)) hT3
    · obtain ⟨Tn, t1, t2, t3, nT, tw, e1, e2, e3⟩ := hrow n hn
      exact ⟨Tn, t1, t2, t3, nT, tw, e1, hfx _ e2, e3⟩
    · have hq' : q = (Str.ofString "lost", Value.ref Rl) ∨ q ∈ psN d Rw Rth Rpt Rpo Rd tl tq := by
        refine List.mem_cons.mp ?_
        revert q hq; dsimp only [psL, psN]; walk_at "my sub"
      rcases hq' with e | e
      · rw [e]; exact if_pos rfl
      · exact (if_neg (psN_off q e)).trans (hm' q e)
    · rcases List.mem_cons.mp hq with e | hq
      · rw [e]; exact o2 r (.tail _ (List.mem_append_right _ hr))
      · rcases List.mem_cons.mp hq with e | hq
        · rw [e]; exact hk5 r (List.mem_append_right _ hr)
        · exact hoff q hq r hr)
end
end Mine
namespace Mine
open PySem PySem.W PySem.Spec PySem.Calls PyProof.Rows
section
variable {prog : Program} {w : World} {p : Program} {loose : List Str} {mean : ExcName → Option Value} {mg mb : Str → Option Value}
def loopA : List Stmt := bodyOf (nthS (lawFrom 0) 17)
theorem agree_turn {b : List Stmt} {sc : Scope} (hb : loopA = b) (hsc : lawSc = sc) {dp uu : Nat} {gd : Option (List Code)} {fa : Addr} {cd : Value} {k1 k2 k3 k4 k5 : Addr} {outer : List Env} {A₀ : Around} {base g : Heap} {L : Addr} {s : Shared}
    {um : Str → Option Value} {n npt npo nth nw ncv nT : Nat} {Rpt Rpo Rth Rw Rcv Tn I : Addr} {it o3 : Obj} {vpt vpo vth vw : List Value} {pts pos : List Int} {ia ib ic : Nat} {a b' c x y z sp pp qq rr : Int} {ag wn : Str}
    {tS tsp tag tw t1 t2 t3 u1 u2 u3 : Tok} {fixed TT : List (Addr × Obj)} {R : Shared → Prop}
    (B : Below A₀ base outer g) (X : (hd.heap_39 w.params).In g) (T : Top p loose mean mg mb g) (hd : dp + 300 < recursionLimit) (hu : uu + 1300 < cLine) (hn : n < 10)
    (mpt : (Rpt, listOf vpt.toArray npt) ∈ fixed) (mpo : (Rpo, listOf vpo.toArray npo) ∈ fixed) (mth : (Rth, listOf vth.toArray nth) ∈ fixed) (mw : (Rw, listOf vw.toArray nw) ∈ fixed) (mT : (Tn, listOf #[.int (ia : Int) t1, .int (ib : Int) t2, .int (ic : Int) t3] nT) ∈ fixed)
    (m3 : (k3, o3) ∈ fixed) (ho3 : o3.data = .cell (some (.ref Rcv))) (mcv : (Rcv, listOf #[.int pp u1, .int qq u2, .int rr u3] ncv) ∈ fixed)
    (hIpt : IntsAre vpt pts) (hIpo : IntsAre vpo pos) (hth : vth[n]? = some (.ref Tn)) (hwn : vw[n]? = some (.str wn tw))
    (ha : pts[ia]? = some a) (hb' : pts[ib]? = some b') (hc : pts[ic]? = some c) (hx : pos[ia]? = some x) (hy : pos[ib]? = some y) (hz : pos[ic]? = some z) (hl : pts.length ≤ 5 ∧ pos.length ≤ 5) (hab : a ≠ b' ∧ a ≠ c ∧ b' ≠ c)
    (ba : Abs a 50) (bb : Abs b' 50) (bc : Abs c 50) (bs : Abs sp 50) (bx : Abs x 20000000) (by_ : Abs y 20000000) (bz : Abs z 20000000) (bp : Abs pp 1000) (bq : Abs qq 1000) (br : Abs rr 1000)
    (hag : ag.length ≤ 100) (hwl : wn.length ≤ 10)
    (F : Fr g L s.heap (fun y => if y = Str.ofString "n" then some (.int (0 + (n : Int)) tS) else kstB um [(Str.ofString "points", .ref Rpt), (Str.ofString "ports", .ref Rpo), (Str.ofString "threes", .ref Rth), (Str.ofString "spot", .int sp tsp), (Str.ofString "agreed", .str ag tag), (Str.ofString "words", .ref Rw)] y))
    (N : News g L s.heap ((I, it) :: (fixed ++ TT))) (hT : TF TT) (hoff : ∀ q ∈ (I, it) :: fixed, ∀ r ∈ TT, r.1 ≠ q.1)
    (hend : ∀ h' tk' m' T' t', Fr g L h' m' → (∀ y, y ≠ Str.ofString "n" → y ≠ Str.ofString "agreed" → m' y = kstB um [(Str.ofString "points", .ref Rpt), (Str.ofString "ports", .ref Rpo), (Str.ofString "threes", .ref Rth), (Str.ofString "spot", .int sp tsp), (Str.ofString "agreed", .str ag tag), (Str.ofString "words", .ref Rw)] y) →
      m' (Str.ofString "agreed") = some (.str (if (aboveOf a b' c x y z sp).fdiv (distOf a b' c) = hgt pp qq rr sp ∧ (aboveOf a b' c x y z sp).fmod (distOf a b' c) = 0 then ag ++ wn else ag) t') →
      News g L h' ((I, it) :: (fixed ++ T')) → TF T' → (∀ q ∈ (I, it) :: fixed, ∀ r ∈ T', r.1 ≠ q.1) → R { s with heap := h', toks := tk' }) :
    wpAny (model prog w) (ktrTop dp uu gd (Str.ofString "law") sc L fa cd (clOf k1 k2 k3 k4 k5) outer) (execs b (envX (Str.ofString "law") sc L fa cd (clOf k1 k2 k3 k4 k5))) (TurnEnd R) (fun _ _ => False) s := by
  k_with_none
  k_with "my sub" => (first | with_reducible exact List.mem_cons_self | with_reducible assumption | (with_reducible refine subC ?_ ?_ <;> walk_at "my sub") | (with_reducible refine subA ?_ ?_ <;> walk_at "my sub") | with_reducible exact subN | (with_reducible refine List.mem_cons_of_mem _ ?_; walk_at "my sub") | (with_reducible refine List.mem_append_left _ ?_; walk_at "my sub") | (with_reducible refine List.mem_append_right _ ?_; walk_at "my sub") | (intro _ _; walk_at "my sub"))
  k_with "my mem" => (first | exact List.mem_cons_self | (refine List.mem_cons_of_mem _ ?_; walk_at "my mem"))
  k_with "my cut" => (first | apply Cut.here | (apply Cut.cons; walk_at "my cut") | (apply Cut.app; walk_at "my cut"))
  k_with "call ref" => (k_here; refine stop_here ?_)
  k_with "binaryOp Add str str" => (k_here; (refine add_txt (by omega) ?_); intro _ _)
  k_with "subscriptTail Name Name ref int" => (k_here; k_dflt (first
  | (refine' itemV_N ?kw5yN ?kw5ym (by omega) hth (by omega) ?_; (case kw5yN => k_asm); (case kw5ym => with_reducible walk_at "my mem"))
  | (refine' itemV_N ?kw5yN ?kw5ym (by omega) hwn (by omega) ?_; (case kw5yN => k_asm); (case kw5ym => with_reducible walk_at "my mem"))))
  conv at hb => lhs; whnf
  conv at hsc => lhs; whnf
  subst hb hsc
  have N5 : News g L s.heap ((I, it) :: (k3, o3) :: (Rcv, listOf #[.int pp u1, .int qq u2, .int rr u3] ncv) :: (Rpt, listOf vpt.toArray npt) :: (Rpo, listOf vpo.toArray npo) :: (Rth, listOf vth.toArray nth) :: (Rw, listOf vw.toArray nw) :: (Tn, listOf #[.int (ia : Int) t1, .int (ib : Int) t2, .int (ic : Int) t3] nT) :: (fixed ++ TT)) := fun q hq => N q (by
    simp only [List.mem_cons, List.mem_append] at hq ⊢
    rcases hq with h | h | h | h | h | h | h | h | h | h
    · exact .inl h
    · exact .inr (.inl (h ▸ m3))
    · exact .inr (.inl (h ▸ mcv))
    · exact .inr (.inl (h ▸ mpt))
    · exact .inr (.inl (h ▸ mpo))
    · exact .inr (.inl (h ▸ mth))
    · exact .inr (.inl (h ▸ mw))
    · exact .inr (.inl (h ▸ mT))
    · exact .inr (.inl h)
    · exact .inr (.inr h))
  obtain ⟨fr, hfr⟩ : ∃ fr, (I, it) :: (k3, o3) :: (Rcv, listOf #[.int pp u1, .int qq u2, .int rr u3] ncv) :: (Rpt, listOf vpt.toArray npt) :: (Rpo, listOf vpo.toArray npo) :: (Rth, listOf vth.toArray nth) :: (Rw, listOf vw.toArray nw) :: (Tn, listOf #[.int (ia : Int) t1, .int (ib : Int) t2, .int (ic : Int) t3] nT) :: fixed = fr := ⟨_, rfl⟩
  have hfo : ∀ q ∈ fr, ∀ r ∈ TT, r.1 ≠ q.1 := fun q hq => hoff q (by
    rw [← hfr] at hq
    simp only [List.mem_cons] at hq ⊢
    rcases hq with h | h | h | h | h | h | h | h | h
    · exact .inl h
    · exact .inr (h ▸ m3)
    · exact .inr (h ▸ mcv)
    · exact .inr (h ▸ mpt)
    · exact .inr (h ▸ mpo)
    · exact .inr (h ▸ mth)
    · exact .inr (h ▸ mw)
    · exact .inr (h ▸ mT)
    · exact .inr h)
  k_steps
  unfold Stop
  refine' telT_call (told_tel Rpt Rpo Tn pts pos ia ib ic a b' c x y z sp t1 t2 t3 tsp ha hb' hc hx hy hz hl hab ba bb bc bs bx by_ bz) B ?vF X ?vN T rfl ?vd ?vu hT ?vc ?vo ?vp ?vr
  (case vF => k_asm)
  (case vN => k_asm)
  (case vd => first | exact room1 (by assumption) (by decide) | exact room0 (by assumption) (by decide) | omega)
  (case vu => first | exact room1 (by assumption) (by decide) | exact room0 (by assumption) (by decide) | omega)
  (case vc => walk_at "my cut")
  (case vo => exact fun q hq => hfo q (by rw [← hfr]; simpa using hq))
  (case vp => exact fun hst _ => ⟨⟨vpt, isl npt hst (by with_reducible walk_at "my mem"), hIpt⟩, ⟨vpo, isl npo hst (by with_reducible walk_at "my mem"), hIpo⟩, isl nT hst (by with_reducible walk_at "my mem")⟩)
  (case vr =>
    intro r6 h6 tk6 T6 F6 N6 hT6 ho6 st6 hO6 hN6
    obtain ⟨R4, v1, v2, rfl, ⟨t7, rfl⟩, ⟨t8, rfl⟩, hg4, hn4⟩ := hO6
    obtain ⟨N7, hne7⟩ := hN6 R4 _ hg4 hn4
    have ho9 : ∀ q ∈ (I, it) :: fixed, ∀ r ∈ T6, r.1 ≠ q.1 := fun q hq => ho6 q (by
      revert q hq; walk_at "my sub")
    clear hN6 st6 N6 hg4 hn4 N N5 hfo
    simp only [List.cons_append, List.append_assoc, List.nil_append] at N7
    k_steps
    unfold Stop
    refine' tel_use (height_tel Rcv pp qq rr sp u1 u2 u3 tsp 0) B ?wF X ?wN T rfl ?wd ?wu ?wp ?_
    (case wF => k_asm)
    (case wN => k_asm)
    (case wd => first | exact room1 (by assumption) (by decide) | exact room0 (by assumption) (by decide) | omega)
    (case wu => first | exact room1 (by assumption) (by decide) | exact room0 (by assumption) (by decide) | omega)
    (case wp => exact ⟨isl ncv (fun q hq => (N7 q hq).1) (by with_reducible walk_at "my mem"), bp, bq, br, bs.le (by decide)⟩)
    intro r8 h8 tk8 F8 N8 st8 hO8
    obtain ⟨t9, rfl⟩ := hO8
    clear N7 st8
    k_steps
    · rename (_ == _ && _ == _) = true => hcnd
      rename Fr _ _ _ _ => F9
      rename News _ _ _ _ => N9
      have hcnd' : (aboveOf a b' c x y z sp).fdiv (distOf a b' c) = hgt pp qq rr sp ∧ (aboveOf a b' c x y z sp).fmod (distOf a b' c) = 0 := by simpa [Bool.and_eq_true, beq_iff_eq] using hcnd
      obtain ⟨tt, F10⟩ : ∃ tt, Fr g L _ (fun y => if y = Str.ofString "agreed" then some (.str (ag ++ wn) tt) else if y = Str.ofString "n" then some (.int (0 + (n : Int)) tS) else kstB um [(Str.ofString "points", .ref Rpt), (Str.ofString "ports", .ref Rpo), (Str.ofString "threes", .ref Rth), (Str.ofString "spot", .int sp tsp), (Str.ofString "agreed", .str ag tag), (Str.ofString "words", .ref Rw)] y) := ⟨_, F9⟩
      refine ⟨rfl, hend _ _ _ T6 tt F10 (fun y e1 e2 => ?_) ?_ (fun q hq => N9 q ?_) hT6 ho9⟩
      · simp only [if_neg e1, if_neg e2]
      · rw [if_pos hcnd']; rfl
      · revert q hq; walk_at "my sub"
    · rename (_ == _ && _ == _) = false => hcnd
      rename Fr _ _ _ _ => F9
      rename News _ _ _ _ => N9
      have hcnd' : ¬ ((aboveOf a b' c x y z sp).fdiv (distOf a b' c) = hgt pp qq rr sp ∧ (aboveOf a b' c x y z sp).fmod (distOf a b' c) = 0) := by
        intro hh
        rw [hh.1, hh.2] at hcnd
        simp at hcnd
      refine ⟨rfl, hend _ _ _ T6 tag F9 (fun y e1 e2 => ?_) ?_ (fun q hq => N9 q ?_) hT6 ho9⟩
      · simp only [if_neg e1]
      · rw [if_neg hcnd']; rfl
      · revert q hq; walk_at "my sub")
end
end Mine
namespace Mine
open PySem PySem.W PySem.Spec PySem.Calls PyProof.Rows
section
variable {prog : Program} {w : World} {p : Program} {loose : List Str} {mean : ExcName → Option Value} {mg mb : Str → Option Value}
theorem p229_tel (x : Str) (t : Tok) (P : Addr) (u v : Tok) (c : Nat) (L R : Int) (p0 p1 p2 d p4 : Str) (pn : Int) : Tel prog w (hd.heap_39 w.params) p loose mean mg mb 58 10 100 [.str x t, .ref P] (fun h => IsTup h P #[.str (Str.ofString "here") u, .int 21 v] ∧ P229 x c L R p0 p1 p2 d p4 pn) (fun g h' r => PairOut (IsS (Str.ofString "here")) (IsI pn) g h' r) := by
  k_with_none
  k_with "exec For Name Name cons nil" => (k_here; (rename Fr _ _ _ _ => lF'); (with_unfolding_all refine' For_invVF lF' ?kw0k1 ?kw0k2 ?_; (case kw0k1 => exact rfl); (case kw0k2 => exact rfl); k_whole))
  k_with "exec For Name Call cons nil" => (k_here; (rename Fr _ _ _ _ => lF'); (with_unfolding_all refine' For_invVF lF' ?kw1k1 ?kw1k2 ?_; (case kw1k1 => exact rfl); (case kw1k2 => exact rfl); k_whole))
  k_with "pyIter str" => (k_here; refine stop_here ?_)
  k_with "pyIter ref" => (k_here; refine stop_here ?_)
  k_with "subscriptTail Name BinOp str int" => (k_here; (refine item_sign ?kw4h0 ?kw4h1 ?kw4hx ?_); (case kw4h0 => omega); (case kw4h1 => omega); (case kw4hx => omega); intro n hn)
  refine' tel_of (binds := [(Str.ofString "resp", .str x t), (Str.ofString "peer", .ref P)]) ?ho ?hcd ?hb ?hl ?h1 ?h2 ?h3 ?h4 ?_
  (case ho => k_is)
  (case hcd => k_is)
  (case hb => intro s; exact BindsTo.of_eq rfl)
  (case hl => exact locs rfl)
  (case h1 => decide)
  (case h2 => exact rfl)
  (case h3 => exact rfl)
  (case h4 => exact rfl)
  intro dp uu gd outer A₀ base g L' s Q B F N X T hd hu hpre hret
  obtain ⟨hP, hx⟩ := hpre
  obtain ⟨hlen, hs3, hl, hr, hl0, hr0, hr1, hi1, hi2, hkd, hsp, hdl, hint⟩ := hx
  k_steps
  all_goals (try dsimp only)
  all_goals (
    have hnc : n = c := by rw [hl] at hn; rw [hi1] at hn; exact (Option.some.inj hn).symm
    subst hnc
    have hsp' := ‹List.map (fun x : Str × Tok => x.fst) _ = Txt.split _ _›
    rw [hr, hl, hsp] at hsp')
  · have := congrArg List.length hsp'
    rw [List.length_map] at this
    simp at this
    omega
  · have hy := ‹(List.map (fun x : Str × Tok => x.fst) _)[Int.toNat 3]? = some _›
    rw [hsp'] at hy
    cases Option.some.inj hy
    refine KIN.call_text hint hdl ?_
    k_steps
    all_goals (try dsimp only)
    exact hret _ _ _ (Fr.keep (by assumption)) (pair_out (by assumption) (by k_mem) ⟨_, rfl⟩ ⟨_, rfl⟩)
end
end Mine
namespace Mine
open Builtin Builtin.Str StrLaws KIN PySem.NumText
section
variable {x D : PySem.Str} {c : Nat} {t : List Nat}
theorem t229_len (hx : x.cps.toList = pre229 ++ ([c, c, c] ++ (D.cps.toList ++ c :: t))) : x.length = 18 + D.length + t.length := by
  rw [← len_list, hx]
  simp only [List.length_append, List.length_cons, List.length_nil, len_list, pre229]
  omega
theorem t229_open (hx : x.cps.toList = pre229 ++ ([c, c, c] ++ (D.cps.toList ++ c :: t))) : Txt.find x (Str.ofString "(") = 13 := by
  have e : Str.ofString "(" = ⟨#[40]⟩ := by decide +kernel
  obtain ⟨q, h⟩ := find_first (x := x) (c := 40) (lo := 0) (u := [50, 50, 57, 32, 69, 110, 116, 101, 114, 105, 110, 103, 32]) (r := [c, c, c] ++ (D.cps.toList ++ c :: t)) (by rw [hx]; rfl) (by decide)
  unfold Txt.find
  rw [e, h]
  rfl
theorem t229_shut {u r : List Nat} (hx : x.cps.toList = pre229 ++ ([c, c, c] ++ (D.cps.toList ++ c :: t))) (ht : t = u ++ 41 :: r) (hu : 41 ∉ u) (h41 : c ≠ 41) (hD41 : 41 ∉ D.cps.toList) : Txt.find3 x (Str.ofString ")") 14 = ((18 + D.length + u.length : Nat) : Int) := by
  have hDl := len_list D
  have e : Str.ofString ")" = ⟨#[41]⟩ := by decide +kernel
  obtain ⟨q, h⟩ := find_first (x := x) (c := 41) (lo := 14) (u := [c, c, c] ++ (D.cps.toList ++ c :: u)) (r := r) (by rw [hx, ht]; simp [pre229]) (by simp [hD41, hu]; omega)
  unfold Txt.find3
  rw [show fromIndex x.length 14 = 14 from fromIndex_nat _ 14, e, h]
  simp only [List.length_append, List.length_cons, List.length_nil, hDl]
  show ((14 + _ : Nat) : Int) = _
  omega
theorem t229_code (hx : x.cps.toList = pre229 ++ ([c, c, c] ++ (D.cps.toList ++ c :: t))) : Txt.slice x none (some 3) = Str.ofString "229" := by
  have hl := t229_len hx
  apply str_inj
  rw [slice_to (by decide) (by omega), hx]
  show [50, 50, 57] = _
  decide +kernel
theorem t229_mark (hx : x.cps.toList = pre229 ++ ([c, c, c] ++ (D.cps.toList ++ c :: t))) : x.cps.toList[14]? = some c := by
  rw [hx]; rfl
theorem t229_last {u r : List Nat} {d : Nat} (hx : x.cps.toList = pre229 ++ ([c, c, c] ++ (D.cps.toList ++ c :: t))) (ht : c :: t = u ++ d :: 41 :: r) : x.cps.toList[17 + D.length + u.length]? = some d := by
  have hDl := len_list D
  rw [hx, ht, ← List.append_assoc, ← List.append_assoc, List.getElem?_append_right (by simp [pre229, hDl]; omega), List.getElem?_append_right (by simp [pre229, hDl]; omega)]
  simp only [List.length_append, List.length_cons, List.length_nil, pre229, hDl]
  have : 17 + D.length + u.length - (0 + 1 + 1 + 1 + 1 + 1 + 1 + 1 + 1 + 1 + 1 + 1 + 1 + 1 + 1 + (0 + 1 + 1 + 1) + D.length) - u.length = 0 := by omega
  simp [this]
theorem t229_mid {u r : List Nat} (hx : x.cps.toList = pre229 ++ ([c, c, c] ++ (D.cps.toList ++ c :: t))) (ht : t = u ++ 41 :: r) : (Txt.slice x (some (13 + 1)) (some ((18 + D.length + u.length : Nat) : Int))).cps.toList = [c, c, c] ++ (D.cps.toList ++ c :: u) := by
  have hl := t229_len hx
  have hDl := len_list D
  have htl : t.length = u.length + 1 + r.length := by rw [ht]; simp; omega
  rw [slice_mid (by decide) (by omega) (by omega), hx]
  show List.take _ ([c, c, c] ++ (D.cps.toList ++ c :: t)) = _
  have : (((18 + D.length + u.length : Nat) : Int) - (13 + 1)).toNat = ([c, c, c] ++ (D.cps.toList ++ c :: u)).length := by simp [hDl]; omega
  rw [this, ht]
  have : [c, c, c] ++ (D.cps.toList ++ c :: (u ++ 41 :: r)) = ([c, c, c] ++ (D.cps.toList ++ c :: u)) ++ 41 :: r := by simp
  rw [this, List.take_left]
theorem item_of {i : Int} {d : Nat} (h0 : 0 ≤ i) (h : x.cps.toList[i.toNat]? = some d) : Txt.item x i = ⟨#[d]⟩ := by
  unfold Txt.item Txt.charAt
  rw [StrLaws.at_nonneg h0 (by simpa using h)]; rfl

theorem p229_tail {n : Int} {r : List Nat} (hx : x.cps.toList = pre229 ++ ([c, c, c] ++ (D.cps.toList ++ c :: 41 :: r))) (hc : c < 128) (h41 : c ≠ 41) (hD : c ∉ D.cps.toList) (hD41 : 41 ∉ D.cps.toList) (hl : D.length ≤ 20) (hr : r.length ≤ 100) (hn : PySem.intText? D = some n) :
    ∃ L R p0 p1 p2 p4, P229 x c L R p0 p1 p2 D p4 n := by
  have hxl := t229_len hx
  simp only [List.length_cons] at hxl
  have e1 := t229_open hx
  have e2 := t229_shut (u := []) (r := r) hx rfl (by simp) h41 hD41
  refine ⟨13, ((18 + D.length : Nat) : Int), ofL [], ofL [], ofL [], ofL [], by omega, t229_code hx, e1, by rw [e1]; exact e2, by decide, by omega, by omega, t229_mark hx, ?_, hc, ?_, by omega, hn⟩
  · have : (((18 + D.length : Nat) : Int) - 1).toNat = 17 + D.length + 0 := by omega
    rw [this]
    exact t229_last (u := []) (r := r) hx rfl
  · have hs := t229_mid (u := []) (r := r) hx rfl
    simp only [List.length_nil, Nat.add_zero] at hs
    have hk : Builtin.Str.strKind (⟨#[c]⟩ : PySem.Str) = 1 := kind_small (by intro d hd; rw [List.mem_singleton.mp hd]; omega)
    obtain ⟨h1, _⟩ := split_flat (x := Txt.slice x (some (13 + 1)) (some ((18 + D.length : Nat) : Int))) (y := ⟨#[c]⟩) (c := c) (y' := []) (p := []) (q := []) (r := [[], D.cps.toList, []]) rfl hk (by intro z hz; simp only [List.mem_cons, List.not_mem_nil, or_false] at hz; rcases hz with h | h | h | h | h <;> simp [h, hD]) (by rw [hs]; simp [flat])
    rw [h1]
    simp [ofL_of]
theorem find_none {x : PySem.Str} {c lo : Nat} (h : c ∉ x.cps.toList.drop lo) : Builtin.Str.occurrences x ⟨#[c]⟩ lo x.length 1 = [] := by
  rcases occ_head_from x ⟨#[c]⟩ lo 1 (Nat.le_refl _) with ⟨e, _⟩ | ⟨i, q, e, h1, h2, h3⟩
  · exact e
  · refine absurd ?_ h
    have h4 := (subAt_one x c i).mp h2
    have : (x.cps.toList.drop lo)[i - lo]? = some c := by
      rw [List.getElem?_drop]
      have : lo + (i - lo) = i := by omega
      rw [this]; exact h4
    exact List.mem_of_getElem? this
theorem ne_false {a b : Str} (h : a = b) : (a != b) = false := by rw [h]; simp
theorem bad_dot (hx : x.cps.toList = pre229 ++ ([c, c, c] ++ (D.cps.toList ++ c :: [46]))) (h41 : c ≠ 41) (hD41 : 41 ∉ D.cps.toList) (hl : D.length ≤ 20) :
    x.length ≤ 1000 ∧ (Txt.slice x none (some 3) != Str.ofString "229") = false ∧ Txt.find x (Str.ofString "(") = 13 ∧ (0 : Int) ≤ 13 ∧ (13 : Int) < x.length ∧ Txt.find3 x (Str.ofString ")") (Txt.find x (Str.ofString "(") + 1) = -1 ∧ (-1 : Int) < 0 := by
  have hxl := t229_len hx
  simp only [List.length_cons, List.length_nil] at hxl
  have e1 := t229_open hx
  refine ⟨by omega, ne_false (t229_code hx), e1, by decide, by omega, ?_, by decide⟩
  rw [e1]
  have e : Str.ofString ")" = ⟨#[41]⟩ := by decide +kernel
  unfold Txt.find3
  rw [show fromIndex x.length (13 + 1) = 14 from fromIndex_nat _ 14, e, find_none (by rw [hx]; simp [pre229, hD41]; omega)]
theorem bad_mark (hx : x.cps.toList = pre229 ++ ([c, c, c] ++ (D.cps.toList ++ c :: [63, 41]))) (h41 : c ≠ 41) (h63 : c ≠ 63) (hD41 : 41 ∉ D.cps.toList) (hl : D.length ≤ 20) :
    x.length ≤ 1000 ∧ (Txt.slice x none (some 3) != Str.ofString "229") = false ∧ 0 ≤ Txt.find x (Str.ofString "(") ∧ (Txt.find x (Str.ofString "(") + 1) ≤ (Txt.find3 x (Str.ofString ")") (Txt.find x (Str.ofString "(") + 1)) - 1 ∧ (Txt.find3 x (Str.ofString ")") (Txt.find x (Str.ofString "(") + 1)) - 1 < x.length ∧
      (Txt.item x (Txt.find x (Str.ofString "(") + 1) != Txt.item x ((Txt.find3 x (Str.ofString ")") (Txt.find x (Str.ofString "(") + 1)) - 1)) = true := by
  have hxl := t229_len hx
  simp only [List.length_cons, List.length_nil] at hxl
  have e1 := t229_open hx
  have e2 := t229_shut (u := [63]) (r := []) hx rfl (by decide) h41 hD41
  rw [e1]
  rw [show (13 : Int) + 1 = 14 from rfl, e2]
  refine ⟨by omega, ne_false (t229_code hx), by decide, by simp only [List.length_cons, List.length_nil]; omega, by simp only [List.length_cons, List.length_nil]; omega, ?_⟩
  rw [item_of (i := 14) (d := c) (by decide) (t229_mark hx), item_of (d := 63) (by omega) ?_]
  · simp; exact h63
  · have : (((18 + D.length + [63].length : Nat) : Int) - 1).toNat = 17 + D.length + [c].length := by simp; omega
    rw [this]
    exact t229_last (u := [c]) (r := []) hx rfl
theorem bad_parts (hx : x.cps.toList = pre229 ++ ([c, c, c] ++ (D.cps.toList ++ c :: [c, 41]))) (hc : c < 128) (h41 : c ≠ 41) (hD : c ∉ D.cps.toList) (hD41 : 41 ∉ D.cps.toList) (hl : D.length ≤ 20) :
    x.length ≤ 1000 ∧ (Txt.slice x none (some 3) != Str.ofString "229") = false ∧ 0 ≤ Txt.find x (Str.ofString "(") ∧ (Txt.find x (Str.ofString "(") + 1) ≤ (Txt.find3 x (Str.ofString ")") (Txt.find x (Str.ofString "(") + 1)) - 1 ∧ (Txt.find3 x (Str.ofString ")") (Txt.find x (Str.ofString "(") + 1)) - 1 < x.length ∧
      (Txt.item x (Txt.find x (Str.ofString "(") + 1) != Txt.item x ((Txt.find3 x (Str.ofString ")") (Txt.find x (Str.ofString "(") + 1)) - 1)) = false ∧
      (Txt.split (Txt.slice x (some (Txt.find x (Str.ofString "(") + 1)) (some (Txt.find3 x (Str.ofString ")") (Txt.find x (Str.ofString "(") + 1)))) (Txt.item x (Txt.find x (Str.ofString "(") + 1))).length ≠ 5 := by
  have hxl := t229_len hx
  simp only [List.length_cons, List.length_nil] at hxl
  have e1 := t229_open hx
  have e2 := t229_shut (u := [c]) (r := []) hx rfl (by simp; omega) h41 hD41
  have hs := t229_mid (u := [c]) (r := []) hx rfl
  rw [e1]
  rw [show (13 : Int) + 1 = 14 from rfl] at hs ⊢
  rw [e2]
  have ei := item_of (x := x) (i := 14) (d := c) (by decide) (t229_mark hx)
  refine ⟨by omega, ne_false (t229_code hx), by decide, by simp only [List.length_cons, List.length_nil]; omega, by simp only [List.length_cons, List.length_nil]; omega, ?_, ?_⟩
  · rw [ei, item_of (d := c) (by omega) ?_]
    · simp
    · have : (((18 + D.length + [c].length : Nat) : Int) - 1).toNat = 17 + D.length + [c].length := by simp; omega
      rw [this]
      exact t229_last (u := [c]) (r := []) hx rfl
  · rw [ei]
    have hk : Builtin.Str.strKind (⟨#[c]⟩ : PySem.Str) = 1 := kind_small (by intro d hd; rw [List.mem_singleton.mp hd]; omega)
    obtain ⟨h1, _⟩ := split_flat (x := Txt.slice x (some 14) (some ((18 + D.length + [c].length : Nat) : Int))) (y := ⟨#[c]⟩) (c := c) (y' := []) (p := []) (q := []) (r := [[], D.cps.toList, [], []]) rfl hk (by intro z hz; simp only [List.mem_cons, List.not_mem_nil, or_false] at hz; rcases hz with h | h | h | h | h | h <;> simp [h, hD]) (by rw [hs]; simp [flat])
    rw [h1]
    simp
end
end Mine
namespace Mine
open PySem PySem.W PySem.Spec PySem.Calls PyProof.Rows
open Builtin Builtin.Str StrLaws KIN PySem.NumText
def MarkOk (c : Nat) : Prop := c = 124 ∨ c = 33 ∨ c = 120 ∨ c = 47
def txt (c : Nat) (n : Int) : PySem.Str := Str.ofString "229 Entering (" ++ rep c 3 ++ Str.ofString (toString n) ++ ⟨#[c]⟩
section
variable {c : Nat} {n : Int}
theorem txt_list (y : PySem.Str) : (txt c n ++ y).cps.toList = pre229 ++ ([c, c, c] ++ ((Str.ofString (toString n)).cps.toList ++ c :: y.cps.toList)) := by
  unfold txt
  simp only [PySem.Str.cps_append, Array.toList_append, rep_list, show (Str.ofString "229 Entering (").cps.toList = pre229 from by decide +kernel]
  simp
theorem figs (hc : MarkOk c) (h0 : -(10 ^ 10) < n) (h1 : n < 10 ^ 10) : c ∉ (Str.ofString (toString n)).cps.toList ∧ 41 ∉ (Str.ofString (toString n)).cps.toList ∧ (Str.ofString (toString n)).length ≤ 20 ∧ PySem.intText? (Str.ofString (toString n)) = some n := by
  obtain ⟨h2, h3, h4⟩ := num_text h0 h1
  refine ⟨fun h => ?_, fun h => ?_, h4, h2⟩
  · rcases h3 c h with e | ⟨e1, e2⟩ <;> rcases hc with h | h | h | h <;> omega
  · rcases h3 41 h with e | ⟨e1, e2⟩ <;> omega
theorem txt_len (h0 : -(10 ^ 10) < n) (h1 : n < 10 ^ 10) : (txt c n).length ≤ 40 := by
  obtain ⟨_, _, h4⟩ := num_text h0 h1
  have ka : (Str.ofString "229 Entering (").length = 14 := by decide +kernel
  unfold txt
  simp only [PySem.Str.length_append, rep_length, ka]
  show 14 + 3 + _ + 1 ≤ 40
  omega
theorem reply_good (hc : MarkOk c) (h0 : -(10 ^ 10) < n) (h1 : n < 10 ^ 10) : ∃ L R p0 p1 p2 p4, P229 (txt c n ++ Str.ofString ") (done)") c L R p0 p1 p2 (Str.ofString (toString n)) p4 n := by
  obtain ⟨f1, f2, f3, f4⟩ := figs hc h0 h1
  refine p229_tail (r := [32, 40, 100, 111, 110, 101, 41]) ?_ ?_ ?_ f1 f2 f3 (by decide) f4
  · rw [txt_list, show (Str.ofString ") (done)").cps.toList = [41, 32, 40, 100, 111, 110, 101, 41] from by decide +kernel]
  · rcases hc with h | h | h | h <;> omega
  · rcases hc with h | h | h | h <;> omega
theorem reply_dot (hc : MarkOk c) (h0 : -(10 ^ 10) < n) (h1 : n < 10 ^ 10) :
    (txt c n ++ Str.ofString ".").length ≤ 1000 ∧ (Txt.slice (txt c n ++ Str.ofString ".") none (some 3) != Str.ofString "229") = false ∧ Txt.find (txt c n ++ Str.ofString ".") (Str.ofString "(") = 13 ∧ (0 : Int) ≤ 13 ∧ (13 : Int) < (txt c n ++ Str.ofString ".").length ∧ Txt.find3 (txt c n ++ Str.ofString ".") (Str.ofString ")") (Txt.find (txt c n ++ Str.ofString ".") (Str.ofString "(") + 1) = -1 ∧ (-1 : Int) < 0 := by
  obtain ⟨f1, f2, f3, f4⟩ := figs hc h0 h1
  refine bad_dot (c := c) (D := Str.ofString (toString n)) ?_ ?_ f2 f3
  · rw [txt_list, show (Str.ofString ".").cps.toList = [46] from by decide +kernel]
  · rcases hc with h | h | h | h <;> omega
def Bad2c (x : PySem.Str) : Prop := x.length ≤ 1000 ∧ (Txt.slice x none (some 3) != Str.ofString "229") = false ∧ 0 ≤ Txt.find x (Str.ofString "(") ∧ (Txt.find x (Str.ofString "(") + 1) ≤ (Txt.find3 x (Str.ofString ")") (Txt.find x (Str.ofString "(") + 1)) - 1 ∧ (Txt.find3 x (Str.ofString ")") (Txt.find x (Str.ofString "(") + 1)) - 1 < x.length ∧
      (Txt.item x (Txt.find x (Str.ofString "(") + 1) != Txt.item x ((Txt.find3 x (Str.ofString ")") (Txt.find x (Str.ofString "(") + 1)) - 1)) = true
def Bad2d (x : PySem.Str) : Prop := x.length ≤ 1000 ∧ (Txt.slice x none (some 3) != Str.ofString "229") = false ∧ 0 ≤ Txt.find x (Str.ofString "(") ∧ (Txt.find x (Str.ofString "(") + 1) ≤ (Txt.find3 x (Str.ofString ")") (Txt.find x (Str.ofString "(") + 1)) - 1 ∧ (Txt.find3 x (Str.ofString ")") (Txt.find x (Str.ofString "(") + 1)) - 1 < x.length ∧
      (Txt.item x (Txt.find x (Str.ofString "(") + 1) != Txt.item x ((Txt.find3 x (Str.ofString ")") (Txt.find x (Str.ofString "(") + 1)) - 1)) = false ∧
      (Txt.split (Txt.slice x (some (Txt.find x (Str.ofString "(") + 1)) (some (Txt.find3 x (Str.ofString ")") (Txt.find x (Str.ofString "(") + 1)))) (Txt.item x (Txt.find x (Str.ofString "(") + 1))).length ≠ 5
theorem reply_mark (hc : MarkOk c) (h0 : -(10 ^ 10) < n) (h1 : n < 10 ^ 10) : Bad2c (txt c n ++ Str.ofString "?)") := by
  obtain ⟨f1, f2, f3, f4⟩ := figs hc h0 h1
  refine bad_mark (c := c) (D := Str.ofString (toString n)) ?_ ?_ ?_ f2 f3
  · rw [txt_list, show (Str.ofString "?)").cps.toList = [63, 41] from by decide +kernel]
  · rcases hc with h | h | h | h <;> omega
  · rcases hc with h | h | h | h <;> omega
theorem reply_parts (hc : MarkOk c) (h0 : -(10 ^ 10) < n) (h1 : n < 10 ^ 10) : Bad2d (txt c n ++ ⟨#[c]⟩ ++ Str.ofString ")") := by
  obtain ⟨f1, f2, f3, f4⟩ := figs hc h0 h1
  refine bad_parts (c := c) (D := Str.ofString (toString n)) ?_ ?_ ?_ f1 f2 f3
  · rw [show txt c n ++ ⟨#[c]⟩ ++ Str.ofString ")" = txt c n ++ ((⟨#[c]⟩ : PySem.Str) ++ Str.ofString ")") from by apply str_inj; simp [PySem.Str.cps_append], txt_list]
    simp only [PySem.Str.cps_append, Array.toList_append, show (Str.ofString ")").cps.toList = [41] from by decide +kernel]
    rfl
  · rcases hc with h | h | h | h <;> omega
  · rcases hc with h | h | h | h <;> omega
theorem reply_227 (h0 : -(10 ^ 10) < n) (h1 : n < 10 ^ 10) : (Str.ofString "227" ++ Txt.slice (txt c n) (some 3) none ++ Str.ofString ")").length ≤ 1000 ∧ (Txt.slice (Str.ofString "227" ++ Txt.slice (txt c n) (some 3) none ++ Str.ofString ")") none (some 3) != Str.ofString "229") = true := by
  have hl := txt_len (c := c) h0 h1
  have ka : (Str.ofString "227").length = 3 := by decide +kernel
  have kb : (Str.ofString ")").length = 1 := by decide +kernel
  have hs : (Txt.slice (txt c n) (some 3) none).length ≤ (txt c n).length := by
    have h3 : (3 : Int) ≤ (txt c n).length := by
      have kc : (Str.ofString "229 Entering (").length = 14 := by decide +kernel
      unfold txt
      simp only [PySem.Str.length_append, rep_length, kc]
      omega
    rw [← len_list (Txt.slice _ _ _), slice_from (by decide) h3, List.length_drop, len_list]
    omega
  have hx : (Str.ofString "227" ++ Txt.slice (txt c n) (some 3) none ++ Str.ofString ")").length ≤ 1000 := by
    simp only [PySem.Str.length_append, ka, kb]; omega
  refine ⟨hx, ?_⟩
  have e : Txt.slice (Str.ofString "227" ++ Txt.slice (txt c n) (some 3) none ++ Str.ofString ")") none (some 3) = Str.ofString "227" := by
    apply str_inj
    rw [slice_to (by decide) (by simp only [PySem.Str.length_append, ka]; omega)]
    simp only [PySem.Str.cps_append, Array.toList_append, show (Str.ofString "227").cps.toList = [50, 50, 55] from by decide +kernel]
    rfl
  rw [e]
  decide +kernel
end
end Mine
namespace Mine
open PySem PySem.W PySem.Spec PySem.Calls PyProof.Rows
theorem cut_to {prog : Program} {w : World} {A : Around} {E : Value → Shared → Prop} {s : Shared} {t : PySem.Sem Flow} {P : Shared → Prop} {Q : Flow → Shared → Prop} (h1 : wpAny (model prog w) A t (fun f s' => Stop (f = .next ∧ P s')) (fun _ _ => False) s) (h2 : ∀ s', P s' → Q .next s') : wpAny (model prog w) A t Q E s :=
  wpAny_mono h1 (fun f s' ⟨e, hp⟩ => by subst e; exact h2 s' hp) fun _ _ h => h.elim
section
variable {prog : Program} {w : World} {p : Program} {loose : List Str} {mean : ExcName → Option Value} {mg mb : Str → Option Value}
theorem p229_telE (x : Str) (t : Tok) (P : Addr) (c : Nat) (L R : Int) (p0 p1 p2 d p4 : Str) (pn : Int) : Tel prog w (hd.heap_39 w.params) p loose mean mg mb 58 10 100 [.str x t, .ref P] (fun h => (∃ u v, IsTup h P #[.str (Str.ofString "here") u, .int 21 v]) ∧ P229 x c L R p0 p1 p2 d p4 pn) (fun g h' r => PairOut (IsS (Str.ofString "here")) (IsI pn) g h' r) := by
  intro dp uu gd cn cs a ccd cl outer A₀ base h₀ L' m s Q E B F X T hk hd hu hpre hret
  obtain ⟨⟨u, v, h1⟩, h2⟩ := hpre
  exact p229_tel x t P u v c L R p0 p1 p2 d p4 pn dp uu gd cn cs a ccd cl outer A₀ base h₀ L' m s Q E B F X T hk hd hu ⟨h1, h2⟩ hret
def loopP : List Stmt := bodyOf (nthS (lawFrom 0) 13)
/-- `said = due[n] + lie if n == liar else due[n]` -/
theorem said_exec {st : Stmt} {sc : Scope} (hst : nthS loopP 0 = st) (hsc : lawSc = sc) {dp uu : Nat} {gd : Option (List Code)} {fa : Addr} {cd : Value} {cl : List (Str × Addr)} {outer : List Env} {A₀ : Around} {base g : Heap} {L : Addr} {s : Shared}
    {um : Str → Option Value} {i nd liar : Nat} {Rd : Addr} {vd : List Value} {ds : List Int} {lie du : Int} {tS tl tk : Tok} {news : List (Addr × Obj)} {ps : List (Str × Value)}
    (B : Below A₀ base outer g) (X : (hd.heap_39 w.params).In g) (T : Top p loose mean mg mb g) (hI : IntsAre vd ds) (hdu : ds[i]? = some du) (hi : i < 5) (hRd : (Rd, listOf vd.toArray nd) ∈ news)
    (F : Fr g L s.heap (fun y => if y = Str.ofString "n" then some (.int (0 + (i : Int)) tS) else kstB um ((Str.ofString "due", .ref Rd) :: (Str.ofString "lie", .int lie tl) :: (Str.ofString "liar", .int (liar : Int) tk) :: ps) y)) (N : News g L s.heap news) :
    wpAny (model prog w) (ktrTop dp uu gd (Str.ofString "law") sc L fa cd cl outer) (exec st (envX (Str.ofString "law") sc L fa cd cl)) (fun f s' => Stop (f = .next ∧ ∃ h' tk' t', s' = { s with heap := h', toks := tk' } ∧ News g L h' news ∧
      Fr g L h' (fun y => if y = Str.ofString "said" then some (.int (if i = liar then du + lie else du) t') else if y = Str.ofString "n" then some (.int (0 + (i : Int)) tS) else kstB um ((Str.ofString "due", .ref Rd) :: (Str.ofString "lie", .int lie tl) :: (Str.ofString "liar", .int (liar : Int) tk) :: ps) y))) (fun _ _ => False) s := by
  k_with_none
  k_with "my mem" => (first | exact List.mem_cons_self | (refine List.mem_cons_of_mem _ ?_; walk_at "my mem"))
  k_with "call ref" => (k_here; refine stop_here ?_)
  k_with "binaryOp Add str str" => (k_here; (refine add_txt (by first | (simp only [PySem.Str.length_append, rep_length]; omega) | (simp only [PySem.Str.length_append]; omega)) ?_); intro _ _)
  k_with "binaryOp Mult str int" => (k_here; k_dflt (refine mul_sign (c := _) rfl (by decide) (by decide) ?_); intro _ _)
  k_with "subscriptTail Name Name ref int" => (k_here; k_dflt (refine itemL_as (k := i) (by omega) ⟨_, (N _ hRd).1, rfl, _, rfl⟩ hI hdu (by omega) ?_); intro _)
  conv at hst => lhs; whnf
  conv at hsc => lhs; whnf
  subst hst hsc
  k_steps
  · rename (0 : Int) + (i : Int) = (liar : Int) => he
    rename Fr _ _ _ _ => F9
    rename News _ _ _ _ => N9
    have e : (if i = liar then du + lie else du) = du + lie := if_pos (by omega)
    rw [← e] at F9
    exact ⟨rfl, _, _, _, rfl, N9, F9⟩
  · rename (0 : Int) + (i : Int) ≠ (liar : Int) => he
    rename Fr _ _ _ _ => F9
    rename News _ _ _ _ => N9
    have e : (if i = liar then du + lie else du) = du := if_neg (by omega)
    rw [← e] at F9
    exact ⟨rfl, _, _, _, rfl, N9, F9⟩
theorem port_turn {b : List Stmt} {sc : Scope} (hb : loopP = b) (hsc : lawSc = sc) {dp uu : Nat} {gd : Option (List Code)} {fa : Addr} {cd : Value} {cl : List (Str × Addr)} {A₀ : Around} {g : Heap} {L : Addr} {s : Shared}
    {um : Str → Option Value} {i nd nP liar c : Nat} {Rd Rp I : Addr} {it : Obj} {vd vsP : List Value} {ds : List Int} {lie du sd : Int} {tS tl tk tm : Tok} {rest : List (Addr × Obj)} {R : Shared → Prop}
    (B : Below A₀ g [] g) (X : (hd.heap_39 w.params).In g) (T : Top p loose mean mg mb g) (hd : dp + 300 < recursionLimit) (hu : uu + 1300 < cLine) (hI : IntsAre vd ds) (hdu : ds[i]? = some du) (hi : i < 5) (hRd : (Rd, listOf vd.toArray nd) ∈ rest)
    (hsd : (if i = liar then du + lie else du) = sd) (h0 : -(10 ^ 10) < sd) (h1 : sd < 10 ^ 10) (hc : MarkOk c) (hlen : vsP.length ≤ 5) (hoff : ∀ q ∈ (I, it) :: rest, q.1 ≠ Rp)
    (F : Fr g L s.heap (fun y => if y = Str.ofString "n" then some (.int (0 + (i : Int)) tS) else kstB um [(Str.ofString "due", .ref Rd), (Str.ofString "lie", .int lie tl), (Str.ofString "liar", .int (liar : Int) tk), (Str.ofString "mark", .str ⟨#[c]⟩ tm), (Str.ofString "ports", .ref Rp)] y))
    (N : News g L s.heap ((I, it) :: (Rp, listOf vsP.toArray nP) :: rest))
    (hend : ∀ h' tk' m' t' n', Fr g L h' m' → (∀ y, y ≠ Str.ofString "n" → y ≠ Str.ofString "said" → y ≠ Str.ofString "text" → y ≠ Str.ofString "host" → y ≠ Str.ofString "port" → y ≠ Str.ofString "spoilt" → m' y = kstB um [(Str.ofString "due", .ref Rd), (Str.ofString "lie", .int lie tl), (Str.ofString "liar", .int (liar : Int) tk), (Str.ofString "mark", .str ⟨#[c]⟩ tm), (Str.ofString "ports", .ref Rp)] y) →
      News g L h' ((I, it) :: (Rp, listOf (vsP ++ [Value.int sd t']).toArray n') :: rest) → R { s with heap := h', toks := tk' }) :
    wpAny (model prog w) (ktrTop dp uu gd (Str.ofString "law") sc L fa cd cl []) (execs b (envX (Str.ofString "law") sc L fa cd cl)) (TurnEnd R) (fun _ _ => False) s := by
  k_with_none
  k_with "my mem" => (first | exact List.mem_cons_self | (refine List.mem_cons_of_mem _ ?_; walk_at "my mem"))
  k_with "call ref" => (k_here; refine stop_here ?_)
  k_with "binaryOp Add str str" => (k_here; (refine add_txt (by first | (simp only [PySem.Str.length_append, rep_length]; omega) | (simp only [PySem.Str.length_append]; omega)) ?_); intro _ _)
  k_with "binaryOp Mult str int" => (k_here; k_dflt (refine mul_sign (c := _) rfl (by decide) (by decide) ?_); intro _ _)
  k_with "subscriptTail Name Name ref int" => (k_here; k_dflt (refine itemL_as (k := i) (by omega) ⟨_, (N _ hRd).1, rfl, _, rfl⟩ hI hdu (by omega) ?_); intro _)
  k_with "CompRest" => (with_unfolding_all first
  | (refine LCg.CompRest.succ ?_; intro v' I' oI' C' oC' D' m' h' tk' E' hv' hC' hx' F' N' off' ne'; (first | lcg_open hv' | (obtain ⟨t9', hv9'⟩ := hv'; subst hv9')))
  | refine LCg.CompRest.zero ?_)
  k_with "CompEnd" => (refine LCg.CompEnd.intro (by assumption) (by assumption) _ (fun q hq => hq) (by assumption) (Or.inr ⟨_, by with_reducible walk_at "my mem", rfl, _, rfl⟩) ?_)
  k_with "call builtin:list.append" => (k_here; refine stop_here ?_)
  conv at hb => lhs; whnf
  conv at hsc => lhs; whnf
  subst hb hsc
  walk1
  refine cut_to (said_exec rfl rfl B X T hI hdu hi (.tail _ (.tail _ hRd)) F N) ?_
  rintro s1 ⟨h', tk', t', rfl, N1, F1⟩
  rw [hsd] at F1
  clear F N hdu hI
  have ka : (Str.ofString "229 Entering (").length = 14 := by decide +kernel
  obtain ⟨f1, f2, f3, f4⟩ := figs hc h0 h1
  k_steps
  unfold Stop
  obtain ⟨Lq, Rq, p0, p1, p2, p4, hy2⟩ := reply_good hc h0 h1
  refine' tel_use (p229_telE (txt c sd ++ Str.ofString ") (done)") _ _ c Lq Rq p0 p1 p2 (Str.ofString (toString sd)) p4 sd) B ?ybF X ?ybN T rfl ?ybd ?ybu ?ybp ?_
  (case ybF => k_asm)
  (case ybN => k_asm)
  (case ybd => first | exact room1 (by assumption) (by decide) | exact room0 (by assumption) (by decide) | omega)
  (case ybu => first | exact room1 (by assumption) (by decide) | exact room0 (by assumption) (by decide) | omega)
  (case ybp => (rename News _ _ _ _ => NN; exact ⟨⟨_, _, NN.isTup List.mem_cons_self⟩, hy2⟩))
  intro r h2 tk2 F2 N2 st2 hO
  obtain ⟨R1, v1, v2, rfl, ⟨t5, rfl⟩, ⟨t6, rfl⟩, hR1, hn1⟩ := hO
  replace N2 := new_at hR1 hn1 N2 (by assumption)
  clear st2 hR1 hn1 hy2
  have q1 := reply_227 (c := c) h0 h1
  have q2 := reply_dot hc h0 h1
  have q3 := reply_mark hc h0 h1
  have q4 := reply_parts hc h0 h1
  have q5 := txt_len (c := c) h0 h1
  obtain ⟨tx, htx⟩ : ∃ tx, txt c sd = tx := ⟨_, rfl⟩
  have eT : Str.ofString "229 Entering (" ++ rep c 3 ++ Str.ofString (toString sd) ++ (⟨#[c]⟩ : Str) = tx := htx
  rw [htx] at q1 q2 q3 q4 q5
  rw [eT] at F2
  clear eT htx f1 f2 f3 f4 h0 h1
  k_steps
  unfold Stop
  refine' telS_use (refused1_tel _ _) B ?F X ?N T rfl ?d ?u q1 ?_
  (case F => k_asm)
  (case N => k_asm)
  (case d => first | exact room1 (by assumption) (by decide) | exact room0 (by assumption) (by decide) | omega)
  (case u => first | exact room1 (by assumption) (by decide) | exact room0 (by assumption) (by decide) | omega)
  intro r1 hr1 kr1 Fr1 Nr1 ho1
  obtain ⟨tr1, rfl⟩ := ho1
  k_steps
  unfold Stop
  refine' telS_use (refused2b_tel _ _ _ _) B ?F X ?N T rfl ?d ?u q2 ?_
  (case F => k_asm)
  (case N => k_asm)
  (case d => first | exact room1 (by assumption) (by decide) | exact room0 (by assumption) (by decide) | omega)
  (case u => first | exact room1 (by assumption) (by decide) | exact room0 (by assumption) (by decide) | omega)
  intro r2 hr2 kr2 Fr2 Nr2 ho2
  obtain ⟨tr2, rfl⟩ := ho2
  k_steps
  unfold Stop
  refine' telS_use (refused2c_tel _ _) B ?F X ?N T rfl ?d ?u q3 ?_
  (case F => k_asm)
  (case N => k_asm)
  (case d => first | exact room1 (by assumption) (by decide) | exact room0 (by assumption) (by decide) | omega)
  (case u => first | exact room1 (by assumption) (by decide) | exact room0 (by assumption) (by decide) | omega)
  intro r3 hr3 kr3 Fr3 Nr3 ho3
  obtain ⟨tr3, rfl⟩ := ho3
  k_steps
  unfold Stop
  refine' telS_use (refused2d_tel _ _) B ?F X ?N T rfl ?d ?u q4 ?_
  (case F => k_asm)
  (case N => k_asm)
  (case d => first | exact room1 (by assumption) (by decide) | exact room0 (by assumption) (by decide) | omega)
  (case u => first | exact room1 (by assumption) (by decide) | exact room0 (by assumption) (by decide) | omega)
  intro r4 hr4 kr4 Fr4 Nr4 ho4
  obtain ⟨tr4, rfl⟩ := ho4
  k_steps
  unfold Stop
  rename Fr _ _ _ _ => F8
  rename News _ _ _ _ => N8
  refine append_l (vs := vsP) (n := nP) (rest := (I, it) :: rest) F8 (fun q hq => N8 q ?_) (fun q hq => hoff q hq) (by rw [sizeLine_eq]; omega) (fun h9 F9 N9 => ?_)
  · simp only [List.mem_cons] at hq ⊢
    rcases hq with h | h | h <;> simp [h]
  k_steps
  refine ⟨rfl, hend h9 _ _ t6 (nP + 1) F9 (fun y e1 e2 e3 e4 e5 e6 => ?_) fun q hq => N9 q ?_⟩
  · simp only [if_neg e1, if_neg e2, if_neg e3, if_neg e4, if_neg e5, if_neg e6]
  · simp only [List.mem_cons] at hq ⊢
    rcases hq with h | h | h <;> simp [h]
end
end Mine
namespace Mine
open PySem PySem.W PySem.Spec PySem.Calls PyProof.Rows
theorem ag_step {d : Dt} {i : Nat} : (if hasB d.bad (d.tri i) = false then ofL (d.ag i) ++ wordOf ((d.tri i).1 : Int) ((d.tri i).2.1 : Int) ((d.tri i).2.2 : Int) else ofL (d.ag i)) = ofL (d.ag (i + 1)) := by
  apply str_inj
  have e : d.ag (i + 1) = d.ag i ++ (if hasB d.bad (d.tri i) then [] else wordL (d.tri i)) := agreedL_succ _ _ _ _
  rw [ofL_list, e]
  cases hb : hasB d.bad (d.tri i)
  · rw [if_pos rfl, PySem.Str.cps_append, Array.toList_append, ofL_list, word_list, if_neg (by decide)]
  · rw [if_neg (by decide), ofL_list, if_pos rfl, List.append_nil]
section
variable {prog : Program} {w : World} {p : Program} {loose : List Str} {mean : ExcName → Option Value} {mg mb : Str → Option Value}
def InvA (d : Dt) (ks : List (Str × Value)) (J : Addr) (fixed : List (Addr × Obj)) (i : Nat) (m : Str → Option Value) (n : List (Addr × Obj)) : Prop :=
  (∀ q ∈ ks, m q.1 = some q.2) ∧ (∃ tag, m (Str.ofString "agreed") = some (.str (ofL (d.ag i)) tag)) ∧ ∃ TT, n = fixed ++ TT ∧ TF TT ∧ (∀ q ∈ fixed, ∀ r ∈ TT, r.1 ≠ q.1) ∧ (∀ q ∈ fixed ++ TT, q.1 ≠ J)
theorem loopA_all {b : List Stmt} {sc : Scope} (hb : loopA = b) (hsc : lawSc = sc) {dp uu : Nat} {gd : Option (List Code)} {fa : Addr} {cd : Value} {k1 k2 k3 k4 k5 : Addr} {outer : List Env} {A₀ : Around} {base g : Heap} {L : Addr} {s : Shared} {Q : Flow → Shared → Prop} {E : Value → Shared → Prop}
    {d : Dt} {nw nth npt npo ncv : Nat} {Rw Rth Rpt Rpo Rcv J : Addr} {o3 : Obj} {vw vth vpt vpo : List Value} {tsp u1 u2 u3 : Tok} {fixed news : List (Addr × Obj)} {m : Str → Option Value} {ks : List (Str × Value)} (h : d.ok)
    (B : Below A₀ base outer g) (X : (hd.heap_39 w.params).In g) (T : Top p loose mean mg mb g) (hd : dp + 300 < recursionLimit) (hu : uu + 1300 < cLine)
    (mw : (Rw, listOf vw.toArray nw) ∈ fixed) (mth : (Rth, listOf vth.toArray nth) ∈ fixed) (m3 : (k3, o3) ∈ fixed) (ho3 : o3.data = .cell (some (.ref Rcv))) (mcv : (Rcv, listOf #[.int d.pp u1, .int d.qq u2, .int d.rr u3] ncv) ∈ fixed)
    (mpt : (Rpt, listOf vpt.toArray npt) ∈ fixed) (mpo : (Rpo, listOf vpo.toArray npo) ∈ fixed) (hIpt : IntsAre vpt d.pts) (hIpo : IntsAre vpo (d.pos 5)) (hrow : Rowed d vth vw fixed)
    (hks : ∀ q ∈ ks, q.1 ≠ Str.ofString "n" ∧ q.1 ≠ Str.ofString "agreed") (hin : ∀ q ∈ ([(Str.ofString "points", .ref Rpt), (Str.ofString "ports", .ref Rpo), (Str.ofString "threes", .ref Rth), (Str.ofString "spot", .int d.sp tsp), (Str.ofString "words", .ref Rw)] : List (Str × Value)), q ∈ ks)
    (hI : InvA d ks J fixed 0 m news)
    (hdone : ∀ h tk m' TT tag, Fr g L h m' → (∀ q ∈ ks, m' q.1 = some q.2) → m' (Str.ofString "agreed") = some (.str (ofL (d.ag 10)) tag) → News g L h (fixed ++ TT) → TF TT → (∀ q ∈ fixed, ∀ r ∈ TT, r.1 ≠ q.1) → Q .next { s with heap := h, toks := tk }) :
    RangeRest prog w (ktrTop dp uu gd (Str.ofString "law") sc L fa cd (clOf k1 k2 k3 k4 k5) outer) E g (envX (Str.ofString "law") sc L fa cd (clOf k1 k2 k3 k4 k5)) (Str.ofString "n") b Q s J 0 10 10 0 m news := by
  refine range_inv (InvA d ks J fixed) ?turn ?done 10 0 m news rfl hI
  · intro i m1 news1 t h1 tk1 hi hI1 F1 N1
    obtain ⟨hps, ⟨tag, hag⟩, TT, rfl, hT, hoff, hoJ⟩ := hI1
    obtain ⟨Tn, t1, t2, t3, nT, tw, hth, mT, hwn⟩ := hrow i hi
    obtain ⟨q1, q2, q3, n12, n13, n23⟩ := h.tri5 hi
    have hal : (ofL (d.ag i)).length ≤ 100 := by
      have e1 : (ofL (d.ag i)).length = (d.ag i).length := by rw [← len_list, ofL_list]
      have e2 : (d.ag i).length ≤ 50 := (agreed_len d.st h.st d.sd h.sd d.bad h.bad_mem i (by omega)).1
      omega
    have ht := h.tell hi (s := d.sp) ⟨h.sp_ne q1, h.sp_ne q2, h.sp_ne q3⟩
    have ek : kstB m1 [(Str.ofString "points", .ref Rpt), (Str.ofString "ports", .ref Rpo), (Str.ofString "threes", .ref Rth), (Str.ofString "spot", .int d.sp tsp), (Str.ofString "agreed", .str (ofL (d.ag i)) tag), (Str.ofString "words", .ref Rw)] = m1 := kst_id fun q hq => by
      simp only [List.mem_cons, List.not_mem_nil, or_false] at hq
      rcases hq with rfl | rfl | rfl | rfl | rfl | rfl
      · exact hps _ (hin _ (by simp))
      · exact hps _ (hin _ (by simp))
      · exact hps _ (hin _ (by simp))
      · exact hps _ (hin _ (by simp))
      · exact hag
      · exact hps _ (hin _ (by simp))
    refine wpAny_mono (agree_turn hb hsc B X T hd hu hi mpt mpo mth mw mT m3 ho3 mcv hIpt hIpo hth hwn (pts_at d q1) (pts_at d q2) (pts_at d q3) (pos_at d q1) (pos_at d q2) (pos_at d q3) ⟨by simp [Dt.pts], by simp [Dt.pos]⟩ ⟨h.pt_ne n12, h.pt_ne n13, h.pt_ne n23⟩
      (h.pt_abs q1) (h.pt_abs q2) (h.pt_abs q3) ⟨by have := h.sp.1; omega, by have := h.sp.2.1; omega⟩ (h.po_abs q1) (h.po_abs q2) (h.po_abs q3) h.p h.q h.r hal (word_len _ _ _) (um := m1) (tS := t) (tsp := tsp) (tag := tag) (by rw [ek]; exact F1) N1 hT ?_
      (R := UnrEnd g L { s with heap := h1, toks := tk1 } J (itR ((0 : Int) + ((i + 1 : Nat) : Int)) (((10 : Nat) : Int) - ((i + 1 : Nat) : Int))) (InvA d ks J fixed (i + 1))) ?_) (fun f s' q => ?_) fun _ _ q => q.elim
    · intro q hq r hr
      rcases List.mem_cons.mp hq with g1 | g1
      · rw [g1]; exact hoJ r (List.mem_append_right _ hr)
      · exact hoff q g1 r hr
    · intro h' tk' m' T' t' F' hm' hag' N' hT' ho'
      rw [ek] at hm'
      have hall : ∀ q ∈ fixed ++ T', q.1 ≠ J := fun q hq => by
        rcases List.mem_append.mp hq with g1 | g1
        · exact hoJ q (List.mem_append_left _ g1)
        · exact ho' _ (.head _) q g1
      refine ⟨h', tk', m', fixed ++ T', rfl, F', N', hall, fun q hq => ?_, ⟨t', ?_⟩, T', rfl, hT', fun q hq => ho' q (.tail _ hq), hall⟩
      · obtain ⟨a1, a2⟩ := hks q hq
        rw [hm' _ a1 a2]
        exact hps q hq
      · rw [hag', ← ag_step]
        by_cases hb0 : hasB d.bad (d.tri i) = false
        · rw [if_pos (ht.mpr hb0), if_pos hb0]
        · rw [if_neg (fun e => hb0 (ht.mp e)), if_neg hb0]
    · obtain ⟨rfl, hr⟩ := q; exact hr
  · intro m1 news1 h1 tk1 hI1 F1 N1
    obtain ⟨hps, ⟨tag, hag⟩, TT, rfl, hT, hoff, hoJ⟩ := hI1
    exact hdone h1 tk1 m1 TT tag F1 hps hag N1 hT hoff
theorem pos_succ (d : Dt) (k : Nat) : d.pos (k + 1) = d.pos k ++ [d.po k] := by simp [Dt.pos, List.range_succ]
def InvP (d : Dt) (ks : List (Str × Value)) (J Rp : Addr) (rest : List (Addr × Obj)) (i : Nat) (m : Str → Option Value) (n : List (Addr × Obj)) : Prop :=
  (∀ q ∈ ks, m q.1 = some q.2) ∧ ∃ vsP nP, n = (Rp, listOf vsP.toArray nP) :: rest ∧ IntsAre vsP (d.pos i) ∧ (∀ q ∈ rest, q.1 ≠ J) ∧ Rp ≠ J ∧ (∀ q ∈ rest, q.1 ≠ Rp)
theorem loopP_all {b : List Stmt} {sc : Scope} (hb : loopP = b) (hsc : lawSc = sc) {dp uu : Nat} {gd : Option (List Code)} {fa : Addr} {cd : Value} {cl : List (Str × Addr)} {A₀ : Around} {g : Heap} {L : Addr} {s : Shared} {Q : Flow → Shared → Prop} {E : Value → Shared → Prop}
    {d : Dt} {nd c : Nat} {Rd Rp J : Addr} {vd : List Value} {tl tk tm : Tok} {rest news : List (Addr × Obj)} {m : Str → Option Value} {ks : List (Str × Value)} (h : d.ok)
    (B : Below A₀ g [] g) (X : (hd.heap_39 w.params).In g) (T : Top p loose mean mg mb g) (hd : dp + 300 < recursionLimit) (hu : uu + 1300 < cLine) (hc : MarkOk c)
    (md : (Rd, listOf vd.toArray nd) ∈ rest) (hId : IntsAre vd d.ds)
    (hks : ∀ q ∈ ks, q.1 ≠ Str.ofString "n" ∧ q.1 ≠ Str.ofString "said" ∧ q.1 ≠ Str.ofString "text" ∧ q.1 ≠ Str.ofString "host" ∧ q.1 ≠ Str.ofString "port" ∧ q.1 ≠ Str.ofString "spoilt")
    (hin : ∀ q ∈ ([(Str.ofString "due", .ref Rd), (Str.ofString "lie", .int d.lie tl), (Str.ofString "liar", .int (d.liar : Int) tk), (Str.ofString "mark", .str ⟨#[c]⟩ tm), (Str.ofString "ports", .ref Rp)] : List (Str × Value)), q ∈ ks)
    (hI : InvP d ks J Rp rest 0 m news)
    (hdone : ∀ h tk m' vsP nP, Fr g L h m' → (∀ q ∈ ks, m' q.1 = some q.2) → News g L h ((Rp, listOf vsP.toArray nP) :: rest) → IntsAre vsP (d.pos 5) → Q .next { s with heap := h, toks := tk }) :
    RangeRest prog w (ktrTop dp uu gd (Str.ofString "law") sc L fa cd cl []) E g (envX (Str.ofString "law") sc L fa cd cl) (Str.ofString "n") b Q s J 0 5 5 0 m news := by
  refine range_inv (InvP d ks J Rp rest) ?turn ?done 5 0 m news rfl hI
  · intro i m1 news1 t h1 tk1 hi hI1 F1 N1
    obtain ⟨hps, vsP, nP, rfl, hIP, hJ, hRJ, hoff⟩ := hI1
    have ek : kstB m1 [(Str.ofString "due", .ref Rd), (Str.ofString "lie", .int d.lie tl), (Str.ofString "liar", .int (d.liar : Int) tk), (Str.ofString "mark", .str ⟨#[c]⟩ tm), (Str.ofString "ports", .ref Rp)] = m1 := kst_of hps hin
    obtain ⟨b1, b2⟩ := h.po_abs hi
    have hlen : vsP.length ≤ 5 := by have := hIP.length; simp [Dt.pos] at this; omega
    refine wpAny_mono (port_turn hb hsc B X T hd hu hId (ds_at d hi) hi md (sd := d.po i) rfl (by omega) (by omega) hc hlen (um := m1) (tS := t) (tl := tl) (tk := tk) (tm := tm) (fun q hq => ?_) (by rw [ek]; exact F1) N1
      (R := UnrEnd g L { s with heap := h1, toks := tk1 } J (itR ((0 : Int) + ((i + 1 : Nat) : Int)) (((5 : Nat) : Int) - ((i + 1 : Nat) : Int))) (InvP d ks J Rp rest (i + 1))) ?_) (fun f s' q => ?_) fun _ _ q => q.elim
    · rcases List.mem_cons.mp hq with g1 | g1
      · rw [g1]; exact Ne.symm hRJ
      · exact hoff q g1
    · intro h' tk' m' t' n' F' hm' N'
      rw [ek] at hm'
      refine ⟨h', tk', m', _, rfl, F', N', fun q hq => ?_, fun q hq => ?_, _, _, rfl, ?_, hJ, hRJ, hoff⟩
      · rcases List.mem_cons.mp hq with g1 | g1
        · rw [g1]; exact hRJ
        · exact hJ q g1
      · obtain ⟨a1, a2, a3, a4, a5, a6⟩ := hks q hq
        rw [hm' _ a1 a2 a3 a4 a5 a6]
        exact hps q hq
      · rw [pos_succ]
        exact intsAre_append hIP (.cons _ _ .nil)
    · obtain ⟨rfl, hr⟩ := q; exact hr
  · intro m1 news1 h1 tk1 hI1 F1 N1
    obtain ⟨hps, vsP, nP, rfl, hIP, hJ, hRJ, hoff⟩ := hI1
    exact hdone h1 tk1 m1 vsP nP F1 hps N1 hIP
end
end Mine
namespace Mine
open PySem PySem.W PySem.Spec PySem.Calls PyProof.Rows
section
variable {prog : Program} {w : World} {p : Program} {loose : List Str} {mean : ExcName → Option Value} {mg mb : Str → Option Value}
  {elt i0 i1 i2 : PySem.Expr} {scope sc : Scope} {p0 p1 p2 pos : Pos} {dp uu : Nat} {gd : Option (List Code)} {fa : Addr} {cd : Value} {cl0 : List (Str × Addr)} {outer : List Env} {A₀ : Around} {base g : Heap} {L : Addr} {s : Shared}
  {m : Str → Option Value} {C D Ro c4 : Addr} {o4 : Obj} {vo : List Value} {os : List Int} {no : Nat}
theorem thr2 (helt : eltOf (valOf (nthS (lawFrom 0) 14)) = elt) (hscope : scopeOf (valOf (nthS (lawFrom 0) 14)) = scope) (hsc : lawSc = sc)
    {i j : Nat} {ti tj : Tok} {I : Addr} {rest : List (Addr × Obj)} {tr : List (Nat × Nat × Nat)} {s₀ : Shared}
    (B : Below A₀ base outer g) (X : (hd.heap_39 w.params).In g) (T : Top p loose mean mg mb g) (hd : dp + 300 < recursionLimit) (hu : uu + 1300 < cLine)
    (hRo : (Ro, listOf vo.toArray no) ∈ rest) (h4 : (c4, o4) ∈ rest) (ho4 : o4.data = .cell (some (.ref Ro))) (hIo : IntsAre vo os) (hlen : os.length = 5) (hj : j < i) (hi : i < 5) (htr : tr.length + j ≤ 1000)
    (h0 : CSt g L m C D [(I, itR ((0 : Int) + ((0 : Nat) : Int)) ((j : Int) - ((0 : Nat) : Int)))] rest os [(Str.ofString "i", .int (i : Int) ti), (Str.ofString "j", .int (j : Int) tj)] s s₀ tr) :
    codeAny (model prog w) (ktrTop dp uu gd (Str.ofString "law") sc L fa cd cl0 outer) (.compLoop (E3 elt (Str.ofString "i") p0 i0 (Str.ofString "j") p1 i1 (Str.ofString "k") p2 i2 scope pos) 2 (.ref I) (.ref D) (compEnvC scope [(Str.ofString "order", c4)] C (envX (Str.ofString "law") sc L fa cd cl0)))
      (fun r s' => r = .ok .next ∧ CSt g L m C D [] rest os [(Str.ofString "i", .int (i : Int) ti), (Str.ofString "j", .int (j : Int) tj)] s s' (tr ++ kTr i j j)) s₀ := by
  k_with_none
  k_with "my sub" => (first | with_reducible exact List.mem_cons_self | with_reducible assumption | (with_reducible refine subC ?_ ?_ <;> walk_at "my sub") | (with_reducible refine subA ?_ ?_ <;> walk_at "my sub") | with_reducible exact subN | (with_reducible refine List.mem_cons_of_mem _ ?_; walk_at "my sub") | (with_reducible refine List.mem_append_left _ ?_; walk_at "my sub") | (with_reducible refine List.mem_append_right _ ?_; walk_at "my sub") | (intro _ _; walk_at "my sub"))
  k_with "call builtin:list.append" => (k_here; refine stop_here ?_)
  conv at helt => lhs; whnf
  conv at hscope => lhs; whnf
  conv at hsc => lhs; whnf
  subst helt hscope hsc
  have hi1 : os[i]? = some (os.getD i 0) := by rw [List.getD_eq_getElem?_getD, List.getElem?_eq_getElem (by omega)]; rfl
  have hj1 : os[j]? = some (os.getD j 0) := by rw [List.getD_eq_getElem?_getD, List.getElem?_eq_getElem (by omega)]; rfl
  have hi5 : i < 1000000 := Nat.lt_trans hi (by decide)
  have hj5 : j < 1000000 := Nat.lt_trans hj hi5
  refine loop2 (fun n s' => ∃ k, n = j - k ∧ k ≤ j ∧ CSt g L m C D [(I, itR ((0 : Int) + (k : Int)) ((j : Int) - (k : Int)))] rest os [(Str.ofString "i", .int (i : Int) ti), (Str.ofString "j", .int (j : Int) tj)] s s' (tr ++ kTr i j k)) ?_ j ⟨0, by omega, by omega, by simpa [kTr] using h0⟩
  rintro n s' ⟨k, rfl, hkj, h', tk', ys, Ts, oC, m', rfl, F, N, hC, hci, hthr, hfr, hCD, hoff, hdis⟩
  obtain ⟨hIC, hID, hIr⟩ := hfr _ List.mem_cons_self
  simp only [List.cons_append, List.nil_append] at N
  refine next_rng rfl F N (fun p hp => ?_) hkj (fun hlt tk1 h1 tk2 F1 N1 => ?_) (fun he h1 tk1 F1 N1 => ?_)
  · rcases List.mem_cons.mp hp with rfl | hp
    · exact Ne.symm hIC
    · rcases List.mem_cons.mp hp with rfl | hp
      · exact Ne.symm hID
      · exact hIr p hp
  · have N2 : News g L h1 ((C, oC) :: (I, itR ((0 : Int) + ((k + 1 : Nat) : Int)) ((j : Int) - ((k + 1 : Nat) : Int))) :: (D, LCg.lst ys) :: (Ts ++ rest)) := fun q hq => N1 q (by revert q hq; walk_at "my sub")
    refine assign_c (by decide) rfl F1 N2 (fun p hp => ?_) hC (fun h3 oC' tk3 F3 N3 hC3 => ?_)
    · rcases List.mem_cons.mp hp with rfl | hp
      · exact hIC
      · rcases List.mem_cons.mp hp with rfl | hp
        · exact Ne.symm hCD
        · exact (hoff p hp).1
    · have hk1 : os[k]? = some (os.getD k 0) := by rw [List.getD_eq_getElem?_getD, List.getElem?_eq_getElem (by omega)]; rfl
      have hk5 : k < 1000000 := Nat.lt_trans hlt hj5
      obtain ⟨m3, hm3⟩ : ∃ m3 : Str → Option Value, m3 = fun y => if y = Str.ofString "k" then some (.int ((0 : Int) + (k : Int)) tk1) else m' y := ⟨_, rfl⟩
      rw [← hm3] at hC3
      have ek : m3 (Str.ofString "k") = some (.int (k : Int) tk1) := by rw [hm3]; simp
      have ei : m3 (Str.ofString "i") = some (.int (i : Int) ti) := by rw [hm3]; exact hci _ List.mem_cons_self
      have ej : m3 (Str.ofString "j") = some (.int (j : Int) tj) := by rw [hm3]; exact hci _ (List.mem_cons_of_mem _ List.mem_cons_self)
      obtain ⟨rs, hrs⟩ : ∃ rs, Ts ++ rest = rs := ⟨_, rfl⟩
      have hRo' : (Ro, listOf vo.toArray no) ∈ rs := hrs ▸ List.mem_append_right _ hRo
      have h4' : (c4, o4) ∈ rs := hrs ▸ List.mem_append_right _ h4
      have N5 : News g L h3 ((C, oC') :: (c4, o4) :: (Ro, listOf vo.toArray no) :: (I, itR ((0 : Int) + ((k + 1 : Nat) : Int)) ((j : Int) - ((k + 1 : Nat) : Int))) :: (D, LCg.lst ys) :: rs) := fun q hq => N3 q (by
        rw [hrs]
        simp only [List.mem_cons] at hq ⊢
        rcases hq with h | h | h | h | h | h
        · exact .inl h
        · exact .inr (.inr (.inr (h ▸ h4')))
        · exact .inr (.inr (.inr (h ▸ hRo')))
        · exact .inr (.inl h)
        · exact .inr (.inr (.inl h))
        · exact .inr (.inr (.inr h)))
      have hRo : (Ro, listOf vo.toArray no) ∈ ((C, oC') :: (c4, o4) :: (Ro, listOf vo.toArray no) :: (I, itR ((0 : Int) + ((k + 1 : Nat) : Int)) ((j : Int) - ((k + 1 : Nat) : Int))) :: (D, LCg.lst ys) :: rs) := .tail _ (.tail _ (.head _))
      clear N3 hm3
      k_steps
      unfold Stop
      rename News _ _ _ _ => N6
      rename Fr _ _ _ _ => F6
      rename _ ∧ _ ∧ _ ∧ _ ∧ _ ∧ AllLt _ rs => hlow
      obtain ⟨lC, lc4, lRo, lI, lD, lrs⟩ := hlow
      rename_i t1' t2' t3' Tn hx6
      have hlr : ∀ p ∈ rs, @LT.lt Nat _ p.1 Tn := allLt_mem lrs
      have hysl : ys.length ≤ 1000 := by rw [hthr.len]; simp [kTr]; omega
      replace N6 : News g L _ (teP os ((i, j, k), Tn, t1', t2', t3', 0) :: (C, oC') :: (c4, o4) :: (Ro, listOf vo.toArray no) :: (I, itR ((0 : Int) + ((k + 1 : Nat) : Int)) ((j : Int) - ((k + 1 : Nat) : Int))) :: (D, LCg.lst ys) :: rs) := N6
      refine append_c (ys := ys) (rest := teP os ((i, j, k), Tn, t1', t2', t3', 0) :: (C, oC') :: (I, itR ((0 : Int) + ((k + 1 : Nat) : Int)) ((j : Int) - ((k + 1 : Nat) : Int))) :: rs) F6 (fun q hq => N6 q ?_) (fun p hp => ?_) (by rw [sizeLine_eq]; omega) (fun h7 F7 N7 => ?_)
      · revert q hq; walk_at "my sub"
      · rcases List.mem_cons.mp hp with rfl | hp
        · exact Ne.symm (Nat.ne_of_lt lD)
        · rcases List.mem_cons.mp hp with rfl | hp
          · exact hCD
          · rcases List.mem_cons.mp hp with rfl | hp
            · exact hID
            · exact (hoff p (hrs ▸ hp)).2
      · refine ⟨j - (k + 1), Nat.sub_lt_sub_left hlt (Nat.lt_succ_self _), k + 1, rfl, hlt, h7, _, ys ++ [teV ((i, j, k), Tn, t1', t2', t3', 0)], Ts ++ [teP os ((i, j, k), Tn, t1', t2', t3', 0)], oC', m3, rfl, F7, fun q hq => N7 q ?_, hC3, ?_, ?_, ?_, hCD, ?_, ?_⟩
        · simp only [List.mem_cons, List.mem_append, List.cons_append, List.nil_append, List.append_assoc, List.not_mem_nil, or_false] at hq ⊢
          rcases hq with h | h | h | h | h | h
          · exact .inr (.inr (.inr (.inl h)))
          · exact .inr (.inr (.inl h))
          · exact .inl h
          · exact .inr (.inr (.inr (.inr (hrs ▸ List.mem_append_left _ h))))
          · exact .inr (.inl h)
          · exact .inr (.inr (.inr (.inr (hrs ▸ List.mem_append_right _ h))))
        · intro q hq
          simp only [List.mem_cons, List.not_mem_nil, or_false] at hq
          rcases hq with rfl | rfl
          · exact ei
          · exact ej
        · rw [kTr_succ, ← List.append_assoc]
          exact hthr.snoc ((i, j, k), Tn, t1', t2', t3', 0)
        · intro f hf
          rw [List.mem_singleton.mp hf]
          refine ⟨hIC, hID, fun p hp => ?_⟩
          simp only [List.mem_append, List.mem_singleton] at hp
          rcases hp with (h | h) | h
          · exact hIr p (List.mem_append_left _ h)
          · rw [h]; exact Ne.symm (Nat.ne_of_lt lI)
          · exact hIr p (List.mem_append_right _ h)
        · intro p hp
          simp only [List.mem_append, List.mem_singleton] at hp
          rcases hp with (h | h) | h
          · exact hoff p (List.mem_append_left _ h)
          · rw [h]; exact ⟨Ne.symm (Nat.ne_of_lt lC), Ne.symm (Nat.ne_of_lt lD)⟩
          · exact hoff p (List.mem_append_right _ h)
        · intro p hp q hq
          simp only [List.mem_append, List.mem_singleton] at hp
          rcases hp with h | h
          · exact hdis p h q hq
          · rw [h]; exact Ne.symm (Nat.ne_of_lt (hlr q (hrs ▸ List.mem_append_right _ hq)))
  · subst he
    exact ⟨rfl, h1, tk1, ys, Ts, oC, m', rfl, F1, N1, hC, hci, hthr, fun f hf => (nomatch hf), hCD, hoff, hdis⟩
end
end Mine
namespace Mine
open PySem PySem.W PySem.Spec PySem.Calls PyProof.Rows
section
variable {prog : Program} {w : World} {p : Program} {loose : List Str} {mean : ExcName → Option Value} {mg mb : Str → Option Value}
  {elt i0 i1 i2 : PySem.Expr} {scope sc : Scope} {p0 p1 p2 pos : Pos} {dp uu : Nat} {gd : Option (List Code)} {fa : Addr} {cd : Value} {cl0 : List (Str × Addr)} {outer : List Env} {A₀ : Around} {base g : Heap} {L : Addr} {s : Shared}
  {m : Str → Option Value} {C D Ro c4 : Addr} {o4 : Obj} {vo : List Value} {os : List Int} {no : Nat}
theorem thr1 (helt : eltOf (valOf (nthS (lawFrom 0) 14)) = elt) (hscope : scopeOf (valOf (nthS (lawFrom 0) 14)) = scope) (hsc : lawSc = sc) (hit2 : iterN (gensOf (valOf (nthS (lawFrom 0) 14))) 2 = i2)
    {i : Nat} {ti : Tok} {I : Addr} {rest : List (Addr × Obj)} {tr : List (Nat × Nat × Nat)} {s₀ : Shared}
    (B : Below A₀ base outer g) (X : (hd.heap_39 w.params).In g) (T : Top p loose mean mg mb g) (hd : dp + 300 < recursionLimit) (hu : uu + 1300 < cLine)
    (hRo : (Ro, listOf vo.toArray no) ∈ rest) (h4 : (c4, o4) ∈ rest) (ho4 : o4.data = .cell (some (.ref Ro))) (hIo : IntsAre vo os) (hlen : os.length = 5) (hi : i < 5) (htr : tr.length ≤ 100)
    (h0 : CSt g L m C D [(I, itR ((0 : Int) + ((0 : Nat) : Int)) ((i : Int) - ((0 : Nat) : Int)))] rest os [(Str.ofString "i", .int (i : Int) ti)] s s₀ tr) :
    codeAny (model prog w) (ktrTop dp uu gd (Str.ofString "law") sc L fa cd cl0 outer) (.compLoop (E3 elt (Str.ofString "i") p0 i0 (Str.ofString "j") p1 i1 (Str.ofString "k") p2 i2 scope pos) 1 (.ref I) (.ref D) (compEnvC scope [(Str.ofString "order", c4)] C (envX (Str.ofString "law") sc L fa cd cl0)))
      (fun r s' => r = .ok .next ∧ CSt g L m C D [] rest os [(Str.ofString "i", .int (i : Int) ti)] s s' (tr ++ jTr i i)) s₀ := by
  k_with_none
  k_with "my sub" => (first | with_reducible exact List.mem_cons_self | with_reducible assumption | (with_reducible refine subC ?_ ?_ <;> walk_at "my sub") | (with_reducible refine subA ?_ ?_ <;> walk_at "my sub") | with_reducible exact subN | (with_reducible refine List.mem_cons_of_mem _ ?_; walk_at "my sub") | (with_reducible refine List.mem_append_left _ ?_; walk_at "my sub") | (with_reducible refine List.mem_append_right _ ?_; walk_at "my sub") | (intro _ _; walk_at "my sub"))
  k_with "pyIter ref" => (k_here; refine stop_here ?_)
  have helt' := helt
  have hscope' := hscope
  have hsc' := hsc
  conv at hscope => lhs; whnf
  conv at hsc => lhs; whnf
  conv at hit2 => lhs; whnf
  subst hscope hsc hit2
  refine loop1 (fun n s' => ∃ j, n = i - j ∧ j ≤ i ∧ CSt g L m C D [(I, itR ((0 : Int) + (j : Int)) ((i : Int) - (j : Int)))] rest os [(Str.ofString "i", .int (i : Int) ti)] s s' (tr ++ jTr i j)) (by intro _; rfl) ?_ i ⟨0, by omega, by omega, by simpa [jTr] using h0⟩
  rintro n s' ⟨j, rfl, hji, h', tk', ys, Ts, oC, m', rfl, F, N, hC, hci, hthr, hfr, hCD, hoff, hdis⟩
  obtain ⟨hIC, hID, hIr⟩ := hfr _ List.mem_cons_self
  simp only [List.cons_append, List.nil_append] at N
  refine next_rng rfl F N (fun p hp => ?_) hji (fun hlt tk1 h1 tk2 F1 N1 => ?_) (fun he h1 tk1 F1 N1 => ?_)
  · rcases List.mem_cons.mp hp with rfl | hp
    · exact Ne.symm hIC
    · rcases List.mem_cons.mp hp with rfl | hp
      · exact Ne.symm hID
      · exact hIr p hp
  · have N2 : News g L h1 ((C, oC) :: (I, itR ((0 : Int) + ((j + 1 : Nat) : Int)) ((i : Int) - ((j + 1 : Nat) : Int))) :: (D, LCg.lst ys) :: (Ts ++ rest)) := fun q hq => N1 q (by revert q hq; walk_at "my sub")
    refine assign_c (by decide) rfl F1 N2 (fun p hp => ?_) hC (fun h3 oC' tk3 F3 N3 hC3 => ?_)
    · rcases List.mem_cons.mp hp with rfl | hp
      · exact hIC
      · rcases List.mem_cons.mp hp with rfl | hp
        · exact Ne.symm hCD
        · exact (hoff p hp).1
    · obtain ⟨m3, hm3⟩ : ∃ m3 : Str → Option Value, m3 = fun y => if y = Str.ofString "j" then some (.int ((0 : Int) + (j : Int)) tk1) else m' y := ⟨_, rfl⟩
      rw [← hm3] at hC3
      have ej : m3 (Str.ofString "j") = some (.int (j : Int) tk1) := by rw [hm3]; simp
      have ei : m3 (Str.ofString "i") = some (.int (i : Int) ti) := by rw [hm3]; exact hci _ List.mem_cons_self
      obtain ⟨rs, hrs⟩ : ∃ rs, (I, itR ((0 : Int) + ((j + 1 : Nat) : Int)) ((i : Int) - ((j + 1 : Nat) : Int))) :: (D, LCg.lst ys) :: (Ts ++ rest) = rs := ⟨_, rfl⟩
      rw [hrs] at N3
      clear hm3 N N1 N2 F F1 hC
      have hj5 : (j : Int) < 1000000 := by omega
      k_steps
      unfold Stop
      rename IsRange _ _ _ _ _ _ _ _ => hrg
      rename Fr _ _ _ _ => F6
      rename News _ _ _ _ => N6
      rename IntsAre vo os => hIo
      refine iter_rng hrg (by omega) F6 N6 fun I2 h7 F7 N7 hI2 => ?_
      have nI2 : ∀ p ∈ rs, p.1 ≠ I2 := fun p hp => hI2 p (.tail _ hp)
      have nC2 : C ≠ I2 := hI2 _ (.head _)
      have nI : I ≠ I2 := nI2 (I, _) (hrs ▸ List.mem_cons_self)
      have nD : D ≠ I2 := nI2 (D, _) (hrs ▸ List.mem_cons_of_mem _ List.mem_cons_self)
      have nr : ∀ p ∈ Ts ++ rest, p.1 ≠ I2 := fun p hp => nI2 p (hrs ▸ List.mem_cons_of_mem _ (List.mem_cons_of_mem _ hp))
      have hlen' : (tr ++ jTr i j).length + j ≤ 1000 := by
        have := jTr_len i j (by omega)
        rw [List.length_append]; omega
      refine start2 ?gg (iter_self (a := 0) (n := j) rfl N7 ?gg)
      (case gg =>
        refine codeAny_mono (thr2 (s := s) (m := m) (ti := ti) (tj := tk1) (tr := tr ++ jTr i j) (rest := (I, itR ((0 : Int) + ((j + 1 : Nat) : Int)) ((i : Int) - ((j + 1 : Nat) : Int))) :: rest) helt' hscope' hsc' B X T hd hu (.tail _ hRo) (.tail _ h4) ho4 hIo hlen hlt hi hlen' ?_) (fun r s₅ hr => ?_)
        · refine ⟨h7, _, ys, Ts, oC', m3, rfl, F7, fun q hq => N7 q ?_, hC3, ?_, hthr, ?_, hCD, ?_, ?_⟩
          · rw [← hrs]
            revert q hq; walk_at "my sub"
          · intro q hq
            simp only [List.mem_cons, List.not_mem_nil, or_false] at hq
            rcases hq with rfl | rfl
            · exact ei
            · exact ej
          · intro f hf
            rw [List.mem_singleton.mp hf]
            refine ⟨Ne.symm nC2, Ne.symm nD, fun p hp => ?_⟩
            simp only [List.mem_append, List.mem_cons] at hp
            rcases hp with h | h | h
            · exact nr p (List.mem_append_left _ h)
            · rw [h]; exact nI
            · exact nr p (List.mem_append_right _ h)
          · intro p hp
            simp only [List.mem_append, List.mem_cons] at hp
            rcases hp with h | h | h
            · exact hoff p (List.mem_append_left _ h)
            · rw [h]; exact ⟨hIC, hID⟩
            · exact hoff p (List.mem_append_right _ h)
          · intro p hp q hq
            rcases List.mem_cons.mp hq with rfl | hq
            · exact hIr p (List.mem_append_left _ hp)
            · exact hdis p hp q hq
        · obtain ⟨hr1, h9, tk9, ys9, Ts9, oC9, m9, rfl, F9, N9, hC9, hci9, hthr9, hfr9, hCD9, hoff9, hdis9⟩ := hr
          refine ⟨hr1, i - (j + 1), Nat.sub_lt_sub_left hlt (Nat.lt_succ_self _), j + 1, rfl, hlt, h9, tk9, ys9, Ts9, oC9, m9, rfl, F9, fun q hq => N9 q ?_, hC9, ?_, ?_, ?_, hCD, ?_, ?_⟩
          · revert q hq; walk_at "my sub"
          · intro q hq
            rw [List.mem_singleton.mp hq]
            exact hci9 _ List.mem_cons_self
          · rw [jTr_succ, ← List.append_assoc]; exact hthr9
          · intro f hf
            rw [List.mem_singleton.mp hf]
            refine ⟨hIC, hID, fun p hp => ?_⟩
            rcases List.mem_append.mp hp with h | h
            · exact hdis9 p h _ List.mem_cons_self
            · exact hIr p (List.mem_append_right _ h)
          · intro p hp
            rcases List.mem_append.mp hp with h | h
            · exact hoff9 p (List.mem_append_left _ h)
            · exact hoff9 p (List.mem_append_right _ (.tail _ h))
          · intro p hp q hq
            exact hdis9 p hp q (.tail _ hq))
  · subst he
    exact ⟨rfl, h1, tk1, ys, Ts, oC, m', rfl, F1, N1, hC, hci, hthr, fun f hf => (nomatch hf), hCD, hoff, hdis⟩
end
end Mine
namespace Mine
open PySem PySem.W PySem.Spec PySem.Calls PyProof.Rows
section
variable {prog : Program} {w : World} {p : Program} {loose : List Str} {mean : ExcName → Option Value} {mg mb : Str → Option Value}
  {elt i0 i1 i2 : PySem.Expr} {scope sc : Scope} {p0 p1 p2 pos : Pos} {dp uu : Nat} {gd : Option (List Code)} {fa : Addr} {cd : Value} {cl0 : List (Str × Addr)} {outer : List Env} {A₀ : Around} {base g : Heap} {L : Addr} {s : Shared}
  {m : Str → Option Value} {C D Ro c4 : Addr} {o4 : Obj} {vo : List Value} {os : List Int} {no : Nat}
theorem thr0 (helt : eltOf (valOf (nthS (lawFrom 0) 14)) = elt) (hscope : scopeOf (valOf (nthS (lawFrom 0) 14)) = scope) (hsc : lawSc = sc) (hit1 : iterN (gensOf (valOf (nthS (lawFrom 0) 14))) 1 = i1) (hit2 : iterN (gensOf (valOf (nthS (lawFrom 0) 14))) 2 = i2)
    {I : Addr} {rest : List (Addr × Obj)} {Fin : List Value → List (Addr × Obj) → Prop}
    (B : Below A₀ base outer g) (X : (hd.heap_39 w.params).In g) (T : Top p loose mean mg mb g) (hd : dp + 300 < recursionLimit) (hu : uu + 1300 < cLine)
    (hRo : (Ro, listOf vo.toArray no) ∈ rest) (h4 : (c4, o4) ∈ rest) (ho4 : o4.data = .cell (some (.ref Ro))) (hIo : IntsAre vo os) (hlen : os.length = 5) (hI : ∀ p ∈ rest, p.1 ≠ I)
    (hfin : ∀ ys Ts, Thr os (iTr 5) ys Ts → (∀ p ∈ Ts, ∀ q ∈ rest, p.1 ≠ q.1) → Fin ys (Ts ++ rest)) :
    Comp3 prog w (ktrTop dp uu gd (Str.ofString "law") sc L fa cd cl0 outer) g L m (E3 elt (Str.ofString "i") p0 i0 (Str.ofString "j") p1 i1 (Str.ofString "k") p2 i2 scope pos) (fun C => compEnvC scope [(Str.ofString "order", c4)] C (envX (Str.ofString "law") sc L fa cd cl0)) (.ref I) s
      ((I, itR ((0 : Int) + ((0 : Nat) : Int)) (((5 : Nat) : Int) - ((0 : Nat) : Int))) :: rest) Fin := by
  k_with_none
  k_with "my sub" => (first | with_reducible exact List.mem_cons_self | with_reducible assumption | (with_reducible refine subC ?_ ?_ <;> walk_at "my sub") | (with_reducible refine subA ?_ ?_ <;> walk_at "my sub") | with_reducible exact subN | (with_reducible refine List.mem_cons_of_mem _ ?_; walk_at "my sub") | (with_reducible refine List.mem_append_left _ ?_; walk_at "my sub") | (with_reducible refine List.mem_append_right _ ?_; walk_at "my sub") | (intro _ _; walk_at "my sub"))
  k_with "pyIter ref" => (k_here; refine stop_here ?_)
  have helt' := helt
  have hscope' := hscope
  have hsc' := hsc
  have hit2' := hit2
  conv at hscope => lhs; whnf
  conv at hsc => lhs; whnf
  conv at hit1 => lhs; whnf
  subst hscope hsc hit1
  intro D C oC0 h00 tk00 F00 N00 hC00 hCD00 off00
  have N01 : News g L h00 ((I, itR ((0 : Int) + ((0 : Nat) : Int)) (((5 : Nat) : Int) - ((0 : Nat) : Int))) :: (C, oC0) :: (D, LCg.lst []) :: rest) := fun q hq => N00 q (by revert q hq; walk_at "my sub")
  have h0 : CSt g L m C D [(I, itR ((0 : Int) + ((0 : Nat) : Int)) (((5 : Nat) : Int) - ((0 : Nat) : Int)))] rest os [] s { s with heap := h00, toks := tk00 } [] := by
    refine ⟨h00, tk00, [], [], oC0, _, rfl, F00, N01, hC00, fun q hq => (nomatch hq), ⟨[], rfl, rfl, rfl⟩, ?_, hCD00, fun p hp => off00 p (.tail _ hp), fun p hp => (nomatch hp)⟩
    intro f hf
    rw [List.mem_singleton.mp hf]
    exact ⟨(off00 _ (.head _)).1, (off00 _ (.head _)).2, fun p hp => hI p hp⟩
  refine start0 ?gg0 (iter_self (a := 0) (n := 5) rfl N01 ?gg0)
  (case gg0 =>
    refine codeAny_mono (R := fun r s' => r = .ok .next ∧ CSt g L m C D [] rest os [] s s' (iTr 5)) ?_ (fun r s₅ hr => ?_)
    · refine loop0 (fun n s' => ∃ i, n = 5 - i ∧ i ≤ 5 ∧ CSt g L m C D [(I, itR ((0 : Int) + (i : Int)) (((5 : Nat) : Int) - (i : Int)))] rest os [] s s' (iTr i)) (by intro _; rfl) ?_ 5 ⟨0, by omega, by omega, h0⟩
      rintro n s' ⟨i, rfl, hji, h', tk', ys, Ts, oC, m', rfl, F, N, hC, hci, hthr, hfr, hCD, hoff, hdis⟩
      obtain ⟨hIC, hID, hIr⟩ := hfr _ List.mem_cons_self
      simp only [List.cons_append, List.nil_append] at N
      refine next_rng rfl F N (fun p hp => ?_) hji (fun hlt tk1 h1 tk2 F1 N1 => ?_) (fun he h1 tk1 F1 N1 => ?_)
      · rcases List.mem_cons.mp hp with rfl | hp
        · exact Ne.symm hIC
        · rcases List.mem_cons.mp hp with rfl | hp
          · exact Ne.symm hID
          · exact hIr p hp
      · have N2 : News g L h1 ((C, oC) :: (I, itR ((0 : Int) + ((i + 1 : Nat) : Int)) (((5 : Nat) : Int) - ((i + 1 : Nat) : Int))) :: (D, LCg.lst ys) :: (Ts ++ rest)) := fun q hq => N1 q (by revert q hq; walk_at "my sub")
        refine assign_c (by decide) rfl F1 N2 (fun p hp => ?_) hC (fun h3 oC' tk3 F3 N3 hC3 => ?_)
        · rcases List.mem_cons.mp hp with rfl | hp
          · exact hIC
          · rcases List.mem_cons.mp hp with rfl | hp
            · exact Ne.symm hCD
            · exact (hoff p hp).1
        · obtain ⟨m3, hm3⟩ : ∃ m3 : Str → Option Value, m3 = fun y => if y = Str.ofString "i" then some (.int ((0 : Int) + (i : Int)) tk1) else m' y := ⟨_, rfl⟩
          rw [← hm3] at hC3
          have ei : m3 (Str.ofString "i") = some (.int (i : Int) tk1) := by rw [hm3]; simp
          obtain ⟨rs, hrs⟩ : ∃ rs, (I, itR ((0 : Int) + ((i + 1 : Nat) : Int)) (((5 : Nat) : Int) - ((i + 1 : Nat) : Int))) :: (D, LCg.lst ys) :: (Ts ++ rest) = rs := ⟨_, rfl⟩
          rw [hrs] at N3
          clear hm3 N N1 N2 F F1 hC N00 N01 F00 h0 hC00
          have hj5 : (i : Int) < 1000000 := by omega
          k_steps
          unfold Stop
          rename IsRange _ _ _ _ _ _ _ _ => hrg
          rename Fr _ _ _ _ => F6
          rename News _ _ _ _ => N6
          rename IntsAre vo os => hIo
          refine iter_rng hrg (by omega) F6 N6 fun I2 h7 F7 N7 hI2 => ?_
          have nI2 : ∀ p ∈ rs, p.1 ≠ I2 := fun p hp => hI2 p (.tail _ hp)
          have nC2 : C ≠ I2 := hI2 _ (.head _)
          have nI : I ≠ I2 := nI2 (I, _) (hrs ▸ List.mem_cons_self)
          have nD : D ≠ I2 := nI2 (D, _) (hrs ▸ List.mem_cons_of_mem _ List.mem_cons_self)
          have nr : ∀ p ∈ Ts ++ rest, p.1 ≠ I2 := fun p hp => nI2 p (hrs ▸ List.mem_cons_of_mem _ (List.mem_cons_of_mem _ hp))
          have hlen' : (iTr i).length ≤ 100 := iTr_len i hji
          refine start1 ?gg (iter_self (a := 0) (n := i) rfl N7 ?gg)
          (case gg =>
            refine codeAny_mono (thr1 (s := s) (m := m) (ti := tk1) (tr := iTr i) (rest := (I, itR ((0 : Int) + ((i + 1 : Nat) : Int)) (((5 : Nat) : Int) - ((i + 1 : Nat) : Int))) :: rest) helt' hscope' hsc' hit2' B X T hd hu (.tail _ hRo) (.tail _ h4) ho4 hIo hlen hlt hlen' ?_) (fun r s₅ hr => ?_)
            · refine ⟨h7, _, ys, Ts, oC', m3, rfl, F7, fun q hq => N7 q ?_, hC3, ?_, hthr, ?_, hCD, ?_, ?_⟩
              · rw [← hrs]
                revert q hq; walk_at "my sub"
              · intro q hq
                rw [List.mem_singleton.mp hq]
                exact ei
              · intro f hf
                rw [List.mem_singleton.mp hf]
                refine ⟨Ne.symm nC2, Ne.symm nD, fun p hp => ?_⟩
                simp only [List.mem_append, List.mem_cons] at hp
                rcases hp with h | h | h
                · exact nr p (List.mem_append_left _ h)
                · rw [h]; exact nI
                · exact nr p (List.mem_append_right _ h)
              · intro p hp
                simp only [List.mem_append, List.mem_cons] at hp
                rcases hp with h | h | h
                · exact hoff p (List.mem_append_left _ h)
                · rw [h]; exact ⟨hIC, hID⟩
                · exact hoff p (List.mem_append_right _ h)
              · intro p hp q hq
                rcases List.mem_cons.mp hq with rfl | hq
                · exact hIr p (List.mem_append_left _ hp)
                · exact hdis p hp q hq
            · obtain ⟨hr1, h9, tk9, ys9, Ts9, oC9, m9, rfl, F9, N9, hC9, hci9, hthr9, hfr9, hCD9, hoff9, hdis9⟩ := hr
              refine ⟨hr1, 5 - (i + 1), Nat.sub_lt_sub_left hlt (Nat.lt_succ_self _), i + 1, rfl, hlt, h9, tk9, ys9, Ts9, oC9, m9, rfl, F9, fun q hq => N9 q ?_, hC9, fun q hq => (nomatch hq), ?_, ?_, hCD, ?_, ?_⟩
              · revert q hq; walk_at "my sub"
              · rw [iTr_succ]; exact hthr9
              · intro f hf
                rw [List.mem_singleton.mp hf]
                refine ⟨hIC, hID, fun p hp => ?_⟩
                rcases List.mem_append.mp hp with h | h
                · exact hdis9 p h _ List.mem_cons_self
                · exact hIr p (List.mem_append_right _ h)
              · intro p hp
                rcases List.mem_append.mp hp with h | h
                · exact hoff9 p (List.mem_append_left _ h)
                · exact hoff9 p (List.mem_append_right _ (.tail _ h))
              · intro p hp q hq
                exact hdis9 p hp q (.tail _ hq))
      · have he' : i = 5 := he
        subst he'
        exact ⟨rfl, h1, tk1, ys, Ts, oC, m', rfl, F1, N1, hC, hci, hthr, fun f hf => (nomatch hf), hCD, hoff, hdis⟩
    · obtain ⟨hr1, h9, tk9, ys9, Ts9, oC9, m9, rfl, F9, N9, hC9, hci9, hthr9, hfr9, hCD9, hoff9, hdis9⟩ := hr
      exact ⟨hr1, h9, tk9, ys9, Ts9 ++ rest, oC9, m9, rfl, F9, N9, hC9, hoff9, hfin ys9 Ts9 hthr9 hdis9⟩)
end
end Mine
namespace Mine
open PySem PySem.W PySem.Spec PySem.Calls PyProof.Rows
section
variable {prog : Program} {w : World} {p : Program} {loose : List Str} {mean : ExcName → Option Value} {mg mb : Str → Option Value}
  {elt : PySem.Expr} {scope sc : Scope} {dp uu : Nat} {gd : Option (List Code)} {fa : Addr} {cd : Value} {cl0 : List (Str × Addr)} {outer : List Env} {A₀ : Around} {base g : Heap} {L : Addr} {s : Shared} {m : Str → Option Value}
theorem word_turn (helt : eltOf (valOf (nthS (lawFrom 0) 15)) = elt) (hscope : scopeOf (valOf (nthS (lawFrom 0) 15)) = scope) (hsc : lawSc = sc)
    {I C D Tn : Addr} {oI oC : Obj} {m₂ : Str → Option Value} {h : Heap} {tk n : Nat} {E' : Value → Shared → Prop} {ys : List Value} {news : List (Addr × Obj)} {S : List (Addr × Obj) → Prop} {R : Value → List (Addr × Obj) → Prop} {a b c : Int} {t1 t2 t3 : Tok}
    (B : Below A₀ base outer g) (X : (hd.heap_39 w.params).In g) (T : Top p loose mean mg mb g) (hd : dp + 300 < recursionLimit) (hu : uu + 1300 < cLine)
    (ha : 0 ≤ a ∧ a < 5) (hb : 0 ≤ b ∧ b < 5) (hc : 0 ≤ c ∧ c < 5) (hC : LCg.NsObj oC m₂) (hx : m₂ (Str.ofString "three") = some (.ref Tn)) (F : Fr g L h m) (N : News g L h ((I, oI) :: (C, oC) :: (D, LCg.lst ys) :: news)) (hT : (Tn, listOf #[.int a t1, .int b t2, .int c t3] n) ∈ news)
    (off : LCg.Off3 I C D news) (hS : S news) (hR : ∀ t, R (.str (wordOf a b c) t) news) :
    wpAny (model prog w) (ktrTop dp uu gd (Str.ofString "law") sc L fa cd cl0 outer) (eval elt (compEnvC scope [] C (envX (Str.ofString "law") sc L fa cd cl0)))
      (LCg.CompEnd g L m { s with heap := h, toks := tk } I oI C oC D (LCg.lst ys) S R) E' { s with heap := h, toks := tk } := by
  k_with_none
  k_with "subscriptTail" => (k_here; (with_reducible show wpAny _ _ (subscriptTail _ _ (Value.str _ _) (Value.int _ _)) _ _ _); k_dflt (refine' item_sign_as ?kw0zh0 ?kw0zh1 ?kw0zhx (item_abcd ?kw0zha ?kw0zhb) ?_; (case kw0zh0 => omega); (case kw0zh1 => (rw [show (Str.ofString "\"abcd").length = 5 from by decide +kernel]; omega)); (case kw0zhx => decide +kernel); (case kw0zha => omega); (case kw0zhb => omega)))
  k_with "CompRest" => (with_unfolding_all first
  | (refine LCg.CompRest.succ ?_; intro v' I' oI' C' oC' D' m' h' tk' E' hv' hC' hx' F' N' off' ne'; (first | lcg_open hv' | (obtain ⟨t9', hv9'⟩ := hv'; subst hv9')))
  | refine LCg.CompRest.zero ?_)
  k_with "CompEnd" => (refine LCg.CompEnd.intro (by assumption) (by assumption) _ (fun q hq => hq) (by assumption) (Or.inr ⟨_, .head _, rfl, _, rfl⟩) ?_)
  k_with "call builtin:str.join" => (k_here; refine stop_here ?_)
  conv at helt => lhs; whnf
  conv at hscope => lhs; whnf
  conv at hsc => lhs; whnf
  subst helt hscope hsc
  have N5 : News g L h ((Tn, listOf #[.int a t1, .int b t2, .int c t3] n) :: (I, oI) :: (C, oC) :: (D, LCg.lst ys) :: news) := fun q hq => N q (by
    rcases List.mem_cons.mp hq with rfl | hq
    · exact .tail _ (.tail _ (.tail _ hT))
    · exact hq)
  clear N
  k_steps
  unfold Stop
  rename News _ _ _ _ => N6
  have e1 : (Str.ofString " ").length = 1 := by decide +kernel
  refine join_sgn a b c N6 (.head _) fun jw hjw hjl tj kj => ?_
  k_steps
  rename News _ _ _ _ => N9
  rename Fr _ _ _ _ => F9
  refine LCg.CompEnd.intro F9 N9 news (fun q hq => .tail _ (.tail _ hq)) off hS ?_
  have e9 : Str.ofString " " ++ jw ++ Str.ofString " " = wordOf a b c := by rw [← hjw]; rfl
  rw [e9]
  exact hR _
end
end Mine
namespace Mine
open PySem PySem.W PySem.Spec PySem.Calls PyProof.Rows
def wordsTo (d : Dt) (i : Nat) : List PySem.Str := (List.range i).map fun n => wordOf ((d.tri n).1 : Int) ((d.tri n).2.1 : Int) ((d.tri n).2.2 : Int)
theorem wordsTo_succ (d : Dt) (i : Nat) : wordsTo d (i + 1) = wordsTo d i ++ [wordOf ((d.tri i).1 : Int) ((d.tri i).2.1 : Int) ((d.tri i).2.2 : Int)] := by simp [wordsTo, List.range_succ]
theorem wordsTo_at (d : Dt) {n : Nat} (hn : n < 10) : (wordsTo d 10)[n]? = some (wordOf ((d.tri n).1 : Int) ((d.tri n).2.1 : Int) ((d.tri n).2.2 : Int)) := by simp [wordsTo, hn]
def Three (d : Dt) (vth : List Value) (Ts : List (Addr × Obj)) : Prop := vth.length = 10 ∧ ∀ n < 10, ∃ Tn t1 t2 t3 nT, vth[n]? = some (.ref Tn) ∧ (Tn, listOf #[.int ((d.tri n).1 : Int) t1, .int ((d.tri n).2.1 : Int) t2, .int ((d.tri n).2.2 : Int) t3] nT) ∈ Ts
theorem os_at (d : Dt) (i : Nat) : d.os.getD i 0 = (((ordN d.st (1 + d.sd)).getD i 0 : Nat) : Int) := by
  unfold Dt.os
  simp only [List.getD_eq_getElem?_getD, List.getElem?_map]
  cases (ordN d.st (1 + d.sd))[i]? <;> rfl
theorem three_of {d : Dt} {ys : List Value} {Ts : List (Addr × Obj)} (h : Thr d.os (iTr 5) ys Ts) : Three d ys Ts := by
  have hl : (iTr 5).length = 10 := by decide +kernel
  refine ⟨h.len.trans hl, fun n hn => ?_⟩
  obtain ⟨l, e1, rfl, rfl⟩ := h
  have hll : l.length = 10 := by rw [← hl, e1, List.length_map]
  have hn' : n < l.length := by omega
  have g1 : l[n]? = some l[n] := List.getElem?_eq_getElem hn'
  obtain ⟨⟨⟨i, j, k⟩, Tn, t1, t2, t3, nT⟩, he⟩ : ∃ e, l[n] = e := ⟨_, rfl⟩
  rw [he] at g1
  have g2 : (iTr 5).getD n (0, 0, 0) = (i, j, k) := by
    rw [e1, List.getD_eq_getElem?_getD, List.getElem?_map, g1]; rfl
  refine ⟨Tn, t1, t2, t3, nT, by rw [List.getElem?_map, g1]; rfl, ?_⟩
  refine List.mem_map.mpr ⟨_, List.mem_of_getElem? g1, ?_⟩
  have q : d.tri n = ((ordN d.st (1 + d.sd)).getD i 0, (ordN d.st (1 + d.sd)).getD j 0, (ordN d.st (1 + d.sd)).getD k 0) := by
    show triN d.st (1 + d.sd) n = _
    unfold triN
    rw [g2]
  rw [q]
  simp only [teP, os_at]
theorem os_len (d : Dt) : d.os.length = 5 := by simp [Dt.os, ordN]
theorem ag_zero (d : Dt) : ofL (d.ag 0) = Str.ofString "" := by
  have e : d.ag 0 = [] := rfl
  rw [e]
  decide +kernel
section
variable {prog : Program} {w : World} {p : Program} {loose : List Str} {mean : ExcName → Option Value} {mg mb : Str → Option Value}
def psM (d : Dt) (Rpt Rpo Rd : Addr) (tsp tl tq : Tok) : List (Str × Value) := [(Str.ofString "lie", .int d.lie tl), (Str.ofString "liar", .int (d.liar : Int) tq), (Str.ofString "points", .ref Rpt), (Str.ofString "ports", .ref Rpo), (Str.ofString "due", .ref Rd), (Str.ofString "spot", .int d.sp tsp)]
theorem psM_off {d : Dt} {Rpt Rpo Rd : Addr} {tsp tl tq : Tok} : ∀ q ∈ psM d Rpt Rpo Rd tsp tl tq, q.1 ≠ Str.ofString "threes" ∧ q.1 ≠ Str.ofString "words" ∧ q.1 ≠ Str.ofString "agreed" ∧ q.1 ≠ Str.ofString "n" := by
  intro q hq
  simp only [psM, List.mem_cons, List.not_mem_nil, or_false] at hq
  rcases hq with rfl | rfl | rfl | rfl | rfl | rfl <;> (dsimp only; decide +kernel)
theorem mid_part {b : List Stmt} {sc : Scope} (hb : lawFrom 14 = b) (hsc : lawSc = sc) {dp uu : Nat} {gd : Option (List Code)} {fa : Addr} {cd : Value} {k1 k2 k3 k4 k5 : Addr} {A₀ : Around} {g : Heap} {L : Addr} {s : Shared} {Q : Flow → Shared → Prop}
    {d : Dt} {npt npo nd no ncv : Nat} {Rpt Rpo Rd Ro Rcv : Addr} {o3 o4 o5 : Obj} {v5 : Option Value} {vpt vpo vd vo : List Value} {tl tq tsp u1 u2 u3 : Tok} {fixed TT : List (Addr × Obj)} {m : Str → Option Value} (h : d.ok)
    (B : Below A₀ g [] g) (X : (hd.heap_39 w.params).In g) (T : Top p loose mean mg mb g) (hd : dp + 300 < recursionLimit) (hu : uu + 1300 < cLine)
    (ho5 : o5.data = .cell v5) (m4 : (k4, o4) ∈ fixed) (ho4 : o4.data = .cell (some (.ref Ro))) (mo : (Ro, listOf vo.toArray no) ∈ fixed) (hIo : IntsAre vo d.os) (m3 : (k3, o3) ∈ fixed) (ho3 : o3.data = .cell (some (.ref Rcv))) (mcv : (Rcv, listOf #[.int d.pp u1, .int d.qq u2, .int d.rr u3] ncv) ∈ fixed)
    (mpt : (Rpt, listOf vpt.toArray npt) ∈ fixed) (mpo : (Rpo, listOf vpo.toArray npo) ∈ fixed) (md : (Rd, listOf vd.toArray nd) ∈ fixed) (hIpt : IntsAre vpt d.pts) (hIpo : IntsAre vpo (d.pos 5)) (hId : IntsAre vd d.ds)
    (hm : ∀ q ∈ psM d Rpt Rpo Rd tsp tl tq, m q.1 = some q.2) (F : Fr g L s.heap m) (N : News g L s.heap ((k5, o5) :: (fixed ++ TT))) (hT : TF TT) (hoff : ∀ q ∈ fixed, ∀ r ∈ TT, r.1 ≠ q.1) (hk5 : ∀ q ∈ fixed ++ TT, q.1 ≠ k5)
    (hend : ∀ h tk m' TT, Fr g L h m' → News g L h TT → TF TT → Q (.ret (.bool true)) { s with heap := h, toks := tk }) :
    wpAny (model prog w) (ktrTop dp uu gd (Str.ofString "law") sc L fa cd (clOf k1 k2 k3 k4 k5) []) (execs b (envX (Str.ofString "law") sc L fa cd (clOf k1 k2 k3 k4 k5))) Q (fun _ _ => False) s := by
  k_with_none
  k_with "my sub" => (first | with_reducible exact List.mem_cons_self | with_reducible assumption | (with_reducible refine subC ?_ ?_ <;> walk_at "my sub") | (with_reducible refine subA ?_ ?_ <;> walk_at "my sub") | with_reducible exact subN | (with_reducible refine List.mem_cons_of_mem _ ?_; walk_at "my sub") | (with_reducible refine List.mem_append_left _ ?_; walk_at "my sub") | (with_reducible refine List.mem_append_right _ ?_; walk_at "my sub") | (intro _ _; walk_at "my sub"))
  k_with "my mem" => (first | exact List.mem_cons_self | (refine List.mem_cons_of_mem _ ?_; walk_at "my mem"))
  k_with "pyIter ref" => (k_here; refine stop_here ?_)
  k_with "CompSrc" => (k_here; refine stop_here ?_)
  k_with "exec Assign cons ListComp" => (k_here; refine stop_here ?_)
  k_with "exec For Name Call cons nil" => (k_here; (rename Fr _ _ _ _ => lF'); (with_unfolding_all refine' For_invVF lF' ?kw5k1 ?kw5k2 ?_; (case kw5k1 => exact rfl); (case kw5k2 => exact rfl); k_whole))
  conv at hb => lhs; whnf
  have hsc' := hsc
  conv at hsc => lhs; whnf
  subst hb hsc
  k_steps
  unfold Stop
  refine Assign_compG (h₀ := g) (m := m) rfl (by with_unfolding_all rfl) (by with_unfolding_all rfl) (by decide) rfl (by decide) rfl rfl ?_
  k_steps
  unfold Stop
  rename IsRange _ _ _ _ _ _ _ _ => hrg
  rename Fr _ _ _ _ => F10
  rename News _ _ _ _ => N10
  refine iter_rng (n := 5) hrg (by decide) F10 N10 fun I hI FI NI offI => ⟨_, FI, NI, ?_⟩
  refine thr0 rfl rfl hsc' rfl rfl B X T hd hu (.tail _ (List.mem_append_left _ mo)) (.tail _ (List.mem_append_left _ m4)) ho4 hIo (os_len d) offI ?_
  intro ys Ts hThr hTs Rth h2 tk2 F2 N2 off2
  obtain ⟨hyl, hth⟩ := three_of hThr
  clear hThr hrg FI NI offI F10 N10
  have o2 := off1_mem off2
  obtain ⟨nth, hlst⟩ : ∃ nl, LCg.lst ys = listOf ys.toArray nl := ⟨_, rfl⟩
  rw [hlst] at N2
  clear hlst off2
  dsimp only
  k_steps
  unfold Stop
  refine LCg.Assign_ListComp_U (F₀ := F2) rfl (by with_unfolding_all rfl) (by with_unfolding_all rfl) (by decide) rfl (by decide) rfl rfl rfl ?_
  k_steps
  unfold Stop
  rename Fr _ _ _ _ => F11
  rename News _ _ _ _ => N11
  have hsz : ys.toArray.size = 10 := by rw [List.size_toArray]; exact hyl
  refine LCg.CompSrc.ledger rfl F11 N11 (.head _) (by rw [sizeLine_eq, hsz]; decide) fun g' => comp_inv (fun i ws n => n = (Rth, listOf ys.toArray nth) :: (Ts ++ (k5, o5) :: (fixed ++ TT)) ∧ Txts ws (wordsTo d i)) ?turn ?done _ 0 [] _ rfl ⟨rfl, Txts.nil⟩
  (case turn =>
    intro i ws news hi hInv v I oI C oC D m₂ h5 tk5 E' hP hC hx F5 N5 off5 ne5
    obtain ⟨rfl, hws⟩ := hInv
    obtain ⟨Tn, t1, t2, t3, nT, e1, e2⟩ := hth i (by omega)
    obtain ⟨q1, q2, q3, _, _, _⟩ := h.tri5 (n := i) (by omega)
    have hv : v = .ref Tn := by
      have hP' : ys.toArray[i]? = some v := hP
      rw [List.getElem?_toArray, e1] at hP'
      exact (Option.some.inj hP').symm
    subst hv
    refine word_turn rfl rfl hsc' B X T hd hu ⟨by omega, by omega⟩ ⟨by omega, by omega⟩ ⟨by omega, by omega⟩ hC hx F5 N5 (.tail _ (List.mem_append_left _ e2)) off5 (.inr ⟨_, .head _, rfl, _, rfl⟩) fun t => ⟨rfl, ?_⟩
    rw [wordsTo_succ]
    exact hws.snoc)
  intro ws n3 hInv Rw h6 tk6 F6 N6 off6
  obtain ⟨rfl, hws⟩ := hInv
  rw [hsz] at hws
  have o6 := off1_mem off6
  obtain ⟨nw, hlst⟩ : ∃ nl, LCg.lst ws = listOf ws.toArray nl := ⟨_, rfl⟩
  rw [hlst] at N6
  clear hlst off6 F11 N11
  dsimp only
  k_steps
  unfold Stop
  rename IsRange _ _ _ _ _ _ _ _ => hrg
  rename Fr _ _ _ _ => F7
  rename News _ _ _ _ => N7
  have N9 : News g L _ (((k5, o5) :: (Rw, listOf ws.toArray nw) :: (Rth, listOf ys.toArray nth) :: (Ts ++ fixed)) ++ TT) := fun q hq => N7 q (by
    revert q hq; walk_at "my sub")
  obtain ⟨fx, hfx⟩ : ∃ fx, fx = (k5, o5) :: (Rw, listOf ws.toArray nw) :: (Rth, listOf ys.toArray nth) :: (Ts ++ fixed) := ⟨_, rfl⟩
  rw [← hfx] at N9
  have hfx1 : ∀ q ∈ fixed, q ∈ fx := fun q hq => by rw [hfx]; exact .tail _ (.tail _ (.tail _ (List.mem_append_right _ hq)))
  have hrow : Rowed d ys ws fx := fun n hn => by
    obtain ⟨Tn, t1, t2, t3, nT, e1, e2⟩ := hth n hn
    obtain ⟨tw, e3⟩ := hws.at (wordsTo_at d hn)
    exact ⟨Tn, t1, t2, t3, nT, tw, e1, by rw [hfx]; exact .tail _ (.tail _ (.tail _ (List.mem_append_left _ e2))), e3⟩
  have hoffx : ∀ q ∈ fx, ∀ r ∈ TT, r.1 ≠ q.1 := fun q hq r hr => by
    have hr1 : r ∈ Ts ++ (k5, o5) :: (fixed ++ TT) := List.mem_append_right _ (.tail _ (List.mem_append_right _ hr))
    rw [hfx] at hq
    simp only [List.mem_cons, List.mem_append] at hq
    rcases hq with e | e | e | e | e
    · rw [e]; exact hk5 r (List.mem_append_right _ hr)
    · rw [e]; exact o6 r (.tail _ hr1)
    · rw [e]; exact o2 r hr1
    · exact Ne.symm (hTs q e r (.tail _ (List.mem_append_right _ hr)))
    · exact hoff q e r hr
  clear N7
  refine iter_rangeUnr (n := 10) rfl hrg ?sm ?rs F7 N9 ?_
  (case sm => exact (small_range (n := 10) (by decide)).1)
  (case rs => exact (small_range (n := 10) (by decide)).2)
  intro J lJ
  have hk0 : ∀ q ∈ (Str.ofString "threes", Value.ref Rth) :: (Str.ofString "words", Value.ref Rw) :: psM d Rpt Rpo Rd tsp tl tq, q.1 ≠ Str.ofString "n" ∧ q.1 ≠ Str.ofString "agreed" := fun q hq => by
    rcases List.mem_cons.mp hq with e | hq
    · rw [e]; exact ⟨by dsimp only; decide +kernel, by dsimp only; decide +kernel⟩
    · rcases List.mem_cons.mp hq with e | hq
      · rw [e]; exact ⟨by dsimp only; decide +kernel, by dsimp only; decide +kernel⟩
      · obtain ⟨_, _, a3, a4⟩ := psM_off q hq
        exact ⟨a4, a3⟩
  have m1 : (Rw, listOf ws.toArray nw) ∈ fx := by rw [hfx]; exact .tail _ (.head _)
  have m2 : (Rth, listOf ys.toArray nth) ∈ fx := by rw [hfx]; exact .tail _ (.tail _ (.head _))
  refine loopA_all (fixed := fx) (ks := (Str.ofString "threes", Value.ref Rth) :: (Str.ofString "words", Value.ref Rw) :: psM d Rpt Rpo Rd tsp tl tq) rfl hsc' h B X T hd hu m1 m2 (hfx1 _ m3) ho3 (hfx1 _ mcv) (hfx1 _ mpt) (hfx1 _ mpo) hIpt hIpo hrow (tsp := tsp) hk0 ?hin ⟨?hm7, ⟨_, (if_pos rfl).trans (congrArg (fun z => some (Value.str z _)) (ag_zero d).symm)⟩, TT, rfl, hT, hoffx, fun q hq => Nat.ne_of_lt (lJ q hq)⟩ ?hdone
  (case hin =>
    intro q hq
    revert q hq; dsimp only [psM]; walk_at "my sub")
  (case hm7 =>
    intro q hq
    rcases List.mem_cons.mp hq with e | hq
    · rw [e]
      exact (if_neg (by dsimp only; decide +kernel)).trans ((if_neg (by dsimp only; decide +kernel)).trans (if_pos rfl))
    · rcases List.mem_cons.mp hq with e | hq
      · rw [e]
        exact (if_neg (by dsimp only; decide +kernel)).trans (if_pos rfl)
      · obtain ⟨a1, a2, a3, _⟩ := psM_off q hq
        exact (if_neg a3).trans ((if_neg a2).trans ((if_neg a1).trans (hm q hq))))
  (case hdone =>
    intro h8 tk8 m8 T8 tag F8 hk8 hag8 N8 hT8 hoff8
    subst hfx
    dsimp only
    rename IntsAre vd d.ds => hId
    refine name_part (tl := tl) (tq := tq) rfl hsc' h B X T hd hu (.head _) ho5 (.tail _ (.head _)) (fixed := (Rw, listOf ws.toArray nw) :: (Rth, listOf ys.toArray nth) :: (Ts ++ fixed)) (.tail _ (.tail _ (List.mem_append_right _ mpt))) (.tail _ (.tail _ (List.mem_append_right _ mpo))) (.tail _ (.tail _ (List.mem_append_right _ md))) hIpt hIpo hId ?hrow ?hmm hag8 F8 N8 hT8 (fun q hq => hoff8 q (.tail _ hq)) ?hk fun h9 tk9 m9 T9 F9 N9 hT9 => hend _ _ _ T9 F9 N9 hT9
    (case hrow =>
      intro n hn
      obtain ⟨Tn, t1, t2, t3, nT, e1, e2⟩ := hth n hn
      obtain ⟨tw, e3⟩ := hws.at (wordsTo_at d hn)
      exact ⟨Tn, t1, t2, t3, nT, tw, e1, .tail _ (.tail _ (List.mem_append_left _ e2)), e3⟩)
    (case hmm =>
      intro q hq
      refine hk8 q ?_
      revert q hq; dsimp only [psM, psN]; walk_at "my sub")
    (case hk =>
      intro q hq
      have hk5m : (k5, o5) ∈ Ts ++ (k5, o5) :: (fixed ++ TT) := List.mem_append_right _ (.head _)
      rcases List.mem_append.mp hq with hq | hq
      · simp only [List.mem_cons, List.mem_append] at hq
        rcases hq with e | e | e | e
        · rw [e]; exact Ne.symm (o6 (k5, o5) (.tail _ hk5m))
        · rw [e]; exact Ne.symm (o2 (k5, o5) hk5m)
        · exact hTs q e (k5, o5) (.head _)
        · exact hk5 q (List.mem_append_left _ e)
      · exact hoff8 (k5, o5) (.head _) q hq))
end
end Mine
namespace Mine
open PySem PySem.W PySem.Spec PySem.Calls PyProof.Rows
section
variable {prog : Program} {w : World} {p : Program} {loose : List Str} {mean : ExcName → Option Value} {mg mb : Str → Option Value}
def psP (d : Dt) (c : Nat) (Rpt Rd : Addr) (tsp tl tq tm : Tok) : List (Str × Value) := [(Str.ofString "lie", .int d.lie tl), (Str.ofString "liar", .int (d.liar : Int) tq), (Str.ofString "points", .ref Rpt), (Str.ofString "due", .ref Rd), (Str.ofString "spot", .int d.sp tsp), (Str.ofString "mark", .str ⟨#[c]⟩ tm)]
theorem psP_off {d : Dt} {c : Nat} {Rpt Rd : Addr} {tsp tl tq tm : Tok} : ∀ q ∈ psP d c Rpt Rd tsp tl tq tm, q.1 ≠ Str.ofString "ports" ∧ q.1 ≠ Str.ofString "n" ∧ q.1 ≠ Str.ofString "said" ∧ q.1 ≠ Str.ofString "text" ∧ q.1 ≠ Str.ofString "host" ∧ q.1 ≠ Str.ofString "port" ∧ q.1 ≠ Str.ofString "spoilt" := by
  intro q hq
  simp only [psP, List.mem_cons, List.not_mem_nil, or_false] at hq
  rcases hq with rfl | rfl | rfl | rfl | rfl | rfl <;> (dsimp only; decide +kernel)
theorem port_part {b : List Stmt} {sc : Scope} (hb : lawFrom 12 = b) (hsc : lawSc = sc) {dp uu : Nat} {gd : Option (List Code)} {fa : Addr} {cd : Value} {k1 k2 k3 k4 k5 : Addr} {A₀ : Around} {g : Heap} {L : Addr} {s : Shared} {Q : Flow → Shared → Prop}
    {d : Dt} {c npt nd no ncv : Nat} {Rpt Rd Ro Rcv : Addr} {o3 o4 o5 : Obj} {v5 : Option Value} {vpt vd vo : List Value} {tl tq tsp tm u1 u2 u3 : Tok} {fixed TT : List (Addr × Obj)} {m : Str → Option Value} (h : d.ok) (hc : MarkOk c)
    (B : Below A₀ g [] g) (X : (hd.heap_39 w.params).In g) (T : Top p loose mean mg mb g) (hd : dp + 300 < recursionLimit) (hu : uu + 1300 < cLine)
    (ho5 : o5.data = .cell v5) (m4 : (k4, o4) ∈ fixed) (ho4 : o4.data = .cell (some (.ref Ro))) (mo : (Ro, listOf vo.toArray no) ∈ fixed) (hIo : IntsAre vo d.os) (m3 : (k3, o3) ∈ fixed) (ho3 : o3.data = .cell (some (.ref Rcv))) (mcv : (Rcv, listOf #[.int d.pp u1, .int d.qq u2, .int d.rr u3] ncv) ∈ fixed)
    (mpt : (Rpt, listOf vpt.toArray npt) ∈ fixed) (md : (Rd, listOf vd.toArray nd) ∈ fixed) (hIpt : IntsAre vpt d.pts) (hId : IntsAre vd d.ds)
    (hm : ∀ q ∈ psP d c Rpt Rd tsp tl tq tm, m q.1 = some q.2) (F : Fr g L s.heap m) (N : News g L s.heap ((k5, o5) :: (fixed ++ TT))) (hT : TF TT) (hoff : ∀ q ∈ fixed, ∀ r ∈ TT, r.1 ≠ q.1) (hk5 : ∀ q ∈ fixed ++ TT, q.1 ≠ k5)
    (hend : ∀ h tk m' TT, Fr g L h m' → News g L h TT → TF TT → Q (.ret (.bool true)) { s with heap := h, toks := tk }) :
    wpAny (model prog w) (ktrTop dp uu gd (Str.ofString "law") sc L fa cd (clOf k1 k2 k3 k4 k5) []) (execs b (envX (Str.ofString "law") sc L fa cd (clOf k1 k2 k3 k4 k5))) Q (fun _ _ => False) s := by
  k_with_none
  k_with "my sub" => (first | with_reducible exact List.mem_cons_self | with_reducible assumption | (with_reducible refine subC ?_ ?_ <;> walk_at "my sub") | (with_reducible refine subA ?_ ?_ <;> walk_at "my sub") | with_reducible exact subN | (with_reducible refine List.mem_cons_of_mem _ ?_; walk_at "my sub") | (with_reducible refine List.mem_append_left _ ?_; walk_at "my sub") | (with_reducible refine List.mem_append_right _ ?_; walk_at "my sub") | (intro _ _; walk_at "my sub"))
  k_with "pyIter ref" => (k_here; refine stop_here ?_)
  k_with "exec For Name Call cons nil" => (k_here; (rename Fr _ _ _ _ => lF'); (with_unfolding_all refine' For_invVF lF' ?kw2k1 ?kw2k2 ?_; (case kw2k1 => exact rfl); (case kw2k2 => exact rfl); k_whole))
  conv at hb => lhs; whnf
  have hsc' := hsc
  conv at hsc => lhs; whnf
  subst hb hsc
  k_steps
  unfold Stop
  rename IsRange _ _ _ _ _ _ _ _ => hrg
  rename Fr _ _ _ _ => F7
  rename News _ _ _ _ => N7
  rename _ ∧ AllLt _ _ => hlt
  have hex : ∃ R : Addr, ∃ o : Obj, (k5 < R ∧ AllLt R (fixed ++ TT)) ∧ News g L _ ((R, listOf #[] 0) :: (k5, o5) :: (fixed ++ TT)) ∧ Fr g L _ (fun y => if y = Str.ofString "ports" then some (Value.ref R) else m y) := ⟨_, o5, hlt, N7, F7⟩
  clear N7 F7 hlt
  obtain ⟨Rp, _, hlt, N7, F7⟩ := hex
  have hRp : ∀ q ∈ (k5, o5) :: (fixed ++ TT), q.1 ≠ Rp := fun q hq => by
    rcases List.mem_cons.mp hq with e | hq
    · rw [e]; exact Nat.ne_of_lt hlt.1
    · exact Nat.ne_of_lt (allLt_mem hlt.2 q hq)
  refine iter_rangeUnr (n := 5) rfl hrg ?sm ?rs F7 N7 ?_
  (case sm => exact (small_range (n := 5) (by decide)).1)
  (case rs => exact (small_range (n := 5) (by decide)).2)
  intro J lJ
  rename IntsAre vd d.ds => hId
  refine loopP_all (ks := (Str.ofString "ports", Value.ref Rp) :: psP d c Rpt Rd tsp tl tq tm) (tl := tl) (tk := tq) (tm := tm) (c := c) rfl hsc' h B X T hd hu hc (.tail _ (List.mem_append_left _ md)) hId ?hks ?hin ⟨?hm7, [], 0, rfl, ?hnil, fun q hq => Nat.ne_of_lt (lJ q (.tail _ hq)), Nat.ne_of_lt (lJ _ (.head _)), hRp⟩ ?hdone
  (case hks =>
    intro q hq
    rcases List.mem_cons.mp hq with e | hq
    · rw [e]; dsimp only; decide +kernel
    · exact (psP_off q hq).2)
  (case hin =>
    intro q hq
    revert q hq; dsimp only [psP]; walk_at "my sub")
  (case hm7 =>
    intro q hq
    rcases List.mem_cons.mp hq with e | hq
    · rw [e]; exact if_pos rfl
    · exact (if_neg (psP_off q hq).1).trans (hm q hq))
  (case hnil => exact .nil)
  (case hdone =>
    intro h8 tk8 m8 vsP nP F8 hk8 N8 hIP
    dsimp only
    have N9 : News g L h8 ((k5, o5) :: (((Rp, listOf vsP.toArray nP) :: fixed) ++ TT)) := fun q hq => N8 q (by
      revert q hq; walk_at "my sub")
    refine mid_part (tl := tl) (tq := tq) (tsp := tsp) rfl hsc' h B X T hd hu ho5 (.tail _ m4) ho4 (.tail _ mo) hIo (.tail _ m3) ho3 (.tail _ mcv) (.tail _ mpt) (.head _) (.tail _ md) hIpt hIP hId ?hmm F8 N9 hT ?hof ?hk fun h9 tk9 m9 T9 F9 N9 hT9 => hend _ _ _ T9 F9 N9 hT9
    (case hmm =>
      intro q hq
      refine hk8 q ?_
      revert q hq; dsimp only [psM, psP]; walk_at "my sub")
    (case hof =>
      intro q hq r hr
      rcases List.mem_cons.mp hq with e | hq
      · rw [e]; exact hRp r (.tail _ (List.mem_append_right _ hr))
      · exact hoff q hq r hr)
    (case hk =>
      intro q hq
      rcases List.mem_cons.mp hq with e | hq
      · rw [e]; exact Ne.symm (hRp _ (.head _))
      · exact hk5 q hq))
end
end Mine
namespace Mine
open PySem PySem.W PySem.Spec PySem.Calls PyProof.Rows PyProof.Rows.LCg
section
variable {prog : Program} {w : World} {A : Around} {E : Value → Shared → Prop} {s : Shared} {h₀ : Heap} {L : Addr} {m : Str → Option Value} {env : Env}
theorem ListComp_tup {elt iter : PySem.Expr} {x : Str} {px : Pos} {scope : Scope} {cl : List (Str × Addr)} {pos : Pos} {Q : Value → Shared → Prop} (F₀ : Fr h₀ L s.heap m)
    (hclos : closureFor scope env = pure cl) (hcell : ∀ z ∈ scope.names, z.2 ≠ .cell) (hkind : scope.kind = .function)
    (hnames : ∀ z ∈ scope.names, z.2 = .local → scope.names.lookup z.1 = some .local) (hx : scope.names.lookup x = some .local)
    (h : wpAny (model prog w) A (eval iter env) (SrcTup prog w A h₀ L m env elt x scope cl (fun s₂ => FinE h₀ L m s₂ Q)) E s)
    (hs : ∀ x, foldedSetIterable iter env x = pure x := by intro _; rfl) :
    wpAny (model prog w) A (eval (.ListComp elt [⟨.Name x px, iter, [], 0⟩] scope pos) env) Q E s := by
  rw [eval_ListComp]
  refine wpAny_comprehension_free (use := none) rfl hs hclos hkind hnames (wpAny_mono h (fun xv s₁ h₁ => ?_) fun _ _ e => e)
  obtain ⟨ax, its, news, rfl, hh, F, N, S, hsz, R⟩ := h₁
  have hl := S.at N
  have hlt : ax < s₁.heap.objs.size := by obtain ⟨_, e, _⟩ := hl; exact Heap.lt_size e
  refine wpAny_pyIter_tuple hl ?_
  refine block_U (Walks.tuple hh s₁.heap.objs.size ax (Nat.ne_of_lt hlt) its) hsz (fun i h st => by obtain ⟨o, e, _⟩ := st.1; exact ⟨o, e⟩) tup_st hcell hkind hx ⟨⟨_, Heap.get?_push_size _ rfl, rfl, rfl⟩, hl.push _⟩ (fun b hb => ?_)
    (F.push _) (fun p hp => ⟨Heap.get?_push_of_some _ (N p hp).1, (N p hp).2⟩) (Nat.ne_of_lt F.ns.lt) (next_is_new F) (fun p hp => Nat.ne_of_lt (Heap.lt_size (N p hp).1)) S (R _) ?_
  · show b < (s₁.heap.push _).objs.size
    rw [Heap.size_push]
    rcases List.mem_cons.mp hb with rfl | hb
    · exact Nat.lt_succ_self _
    · rw [List.mem_singleton.mp hb]; exact Nat.lt_succ_of_lt hlt
  · intro D C h' tk m' ys news' F' N' o1 hn hC₀ hD₀ hCL hDL hCD offC fin
    refine ⟨m', hn, fun h'' hs'' => fin D h'' tk (F'.change hs'' hCL hC₀) (fun p hp => ?_) o1⟩
    refine ⟨hs''.extBut _ _ ?_ (N' p hp).1, (N' p hp).2⟩
    rcases List.mem_cons.mp hp with rfl | hp
    · exact Ne.symm hCD
    · exact offC p hp
end
end Mine
namespace Mine
open PySem PySem.W PySem.Spec PySem.Calls PyProof.Rows
def ptOf (c0 : Int) (n : Nat) : Int := (c0.fdiv 3).fmod 12 - 10 + (1 + c0.fmod 3) * (n : Int)
theorem spot_hi (c0 c1 : Int) : -50 ≤ ptOf c0 4 + (1 + (c1.fdiv 2).fmod 4) ∧ ptOf c0 4 + (1 + (c1.fdiv 2).fmod 4) ≤ 50 ∧ (ptOf c0 4 + (1 + (c1.fdiv 2).fmod 4) < ptOf c0 0 ∨ ptOf c0 4 < ptOf c0 4 + (1 + (c1.fdiv 2).fmod 4)) := by
  have a1 := fm_lt (a := c0.fdiv 3) 12 (by decide)
  have a2 := fm_lt (a := c0) 3 (by decide)
  have a3 := fm_lt (a := c1.fdiv 2) 4 (by decide)
  unfold ptOf
  omega
theorem spot_lo (c0 c1 : Int) : -50 ≤ ptOf c0 0 - (1 + (c1.fdiv 2).fmod 4) ∧ ptOf c0 0 - (1 + (c1.fdiv 2).fmod 4) ≤ 50 ∧ (ptOf c0 0 - (1 + (c1.fdiv 2).fmod 4) < ptOf c0 0 ∨ ptOf c0 4 < ptOf c0 0 - (1 + (c1.fdiv 2).fmod 4)) := by
  have a1 := fm_lt (a := c0.fdiv 3) 12 (by decide)
  have a2 := fm_lt (a := c0) 3 (by decide)
  have a3 := fm_lt (a := c1.fdiv 2) 4 (by decide)
  unfold ptOf
  omega
section
variable {prog : Program} {w : World} {p : Program} {loose : List Str} {mean : ExcName → Option Value} {mg mb : Str → Option Value}
theorem head_part {b1 b2 b3 b4 : Stmt} {r : List Stmt} {sc : Scope} (hb1 : nthS (lawFrom 0) 1 = b1) (hb2 : nthS (lawFrom 0) 2 = b2) (hb3 : nthS (lawFrom 0) 3 = b3) (hb4 : nthS (lawFrom 0) 4 = b4) (hsc : lawSc = sc)
    {dp uu : Nat} {gd : Option (List Code)} {fa : Addr} {cd : Value} {k1 k2 k3 k4 k5 : Addr} {A₀ : Around} {g : Heap} {L : Addr} {s : Shared} {Q : Flow → Shared → Prop}
    {c0 c1 c2 c3 c4 c5 c6 c7 : Int} {R1 : Addr} {vs1 : List Value} {nn1 : Nat} {o1 o2 : Obj} {v2 : Option Value} {rest : List (Addr × Obj)} {m : Str → Option Value}
    (B : Below A₀ g [] g) (X : (hd.heap_39 w.params).In g) (T : Top p loose mean mg mb g) (hd : dp + 300 < recursionLimit) (hu : uu + 1300 < cLine)
    (hI : IntsAre vs1 [c0, c1, c2, c3, c4, c5, c6, c7]) (hrng : ∀ x ∈ [c0, c1, c2, c3, c4, c5, c6, c7], 0 ≤ x ∧ x ≤ 100000000) (ho1 : o1.data = .cell (some (.ref R1))) (ho2 : o2.data = .cell v2)
    (hk2 : ∀ q ∈ (k1, o1) :: (R1, listOf vs1.toArray nn1) :: rest, q.1 ≠ k2)
    (F : Fr g L s.heap m) (N : News g L s.heap ((k2, o2) :: (k1, o1) :: (R1, listOf vs1.toArray nn1) :: rest))
    (hr : ∀ h tk m' D o2' sp tsp ys, Fr g L h m' → m' (Str.ofString "points") = some (.ref D) → m' (Str.ofString "spot") = some (.int sp tsp) → News g L h ((D, LCg.lst ys) :: (k2, o2') :: (k1, o1) :: (R1, listOf vs1.toArray nn1) :: rest) → IntsAre ys ((List.range 5).map (ptOf c0)) →
      (-50 ≤ sp ∧ sp ≤ 50 ∧ (sp < ptOf c0 0 ∨ ptOf c0 4 < sp)) → (∀ q ∈ (k2, o2') :: (k1, o1) :: (R1, listOf vs1.toArray nn1) :: rest, q.1 ≠ D) →
      wpAny (model prog w) (ktrTop dp uu gd (Str.ofString "law") sc L fa cd (clOf k1 k2 k3 k4 k5) []) (execs r (envX (Str.ofString "law") sc L fa cd (clOf k1 k2 k3 k4 k5))) Q (fun _ _ => False) { s with heap := h, toks := tk }) :
    wpAny (model prog w) (ktrTop dp uu gd (Str.ofString "law") sc L fa cd (clOf k1 k2 k3 k4 k5) []) (execs (b1 :: b2 :: b3 :: b4 :: r) (envX (Str.ofString "law") sc L fa cd (clOf k1 k2 k3 k4 k5))) Q (fun _ _ => False) s := by
  k_with_none
  k_with "storeName" => (k_here; k_dflt (first
  | (refine' storeX_L ?kw0F ?kw0N ?_ ?kw0a ?kw0b; (case kw0F => k_asm); (case kw0N => k_asm); (case kw0a => rfl); (case kw0b => rfl); k_whole; intro h' F' N'; (try k_sweep))
  | (refine' storeX_C ?kw0F ?kw0N ?kw0c ?kw0U ?kw0d ?_ ?kw0a ?kw0b; (case kw0a => rfl); (case kw0b => rfl); (case kw0F => k_asm); (case kw0N => k_asm); (case kw0c => rfl); (case kw0U => exact UpdF.head hk2); (case kw0d => k_asm); k_whole; intro h' o' F' N' d'; (try dsimp only at N'); (try k_sweep))))
  conv at hb1 => lhs; whnf
  conv at hb2 => lhs; whnf
  conv at hb3 => lhs; whnf
  conv at hb4 => lhs; whnf
  have hsc' := hsc
  conv at hsc => lhs; whnf
  subst hb1 hb2 hb3 hb4 hsc
  k_steps
  all_goals rename IntsAre ys _ => hI8
  all_goals rename _ ∧ _ ∧ _ ∧ LCg.Off1 _ rest => hof
  all_goals have hoD : ∀ q ∈ (k2, o') :: (k1, o1) :: (R1, listOf vs1.toArray nn1) :: rest, q.1 ≠ _ := off1_mem hof
  · refine hr _ _ _ _ _ (ptOf c0 4 + (1 + (c1.fdiv 2).fmod 4)) ?tt _ F' ?ff ?gg N' hI8 (spot_hi c0 c1) hoD
    (case gg => exact if_pos rfl)
    (case ff => exact (if_neg (by decide +kernel)).trans ((if_neg (by decide +kernel)).trans (if_pos rfl)))
  · refine hr _ _ _ _ _ (ptOf c0 0 - (1 + (c1.fdiv 2).fmod 4)) ?tt _ F' ?ff ?gg N' hI8 (spot_lo c0 c1) hoD
    (case gg => exact if_pos rfl)
    (case ff => exact (if_neg (by decide +kernel)).trans ((if_neg (by decide +kernel)).trans (if_pos rfl)))
end
end Mine
namespace Mine
open PySem PySem.W PySem.Spec PySem.Calls PyProof.Rows
section
variable {prog : Program} {w : World} {p : Program} {loose : List Str} {mean : ExcName → Option Value} {mg mb : Str → Option Value}
theorem perm3 {g h : Heap} {L : Addr} {a b x : Addr × Obj} {l : List (Addr × Obj)} (N : News g L h (b :: x :: a :: l)) : News g L h (a :: b :: l) := fun q hq => N q (by
  simp only [List.mem_cons] at hq ⊢
  rcases hq with e | e | e <;> simp [e])
theorem curve_part {b5 : Stmt} {r : List Stmt} {sc : Scope} (hb5 : nthS (lawFrom 0) 5 = b5) (hsc : lawSc = sc)
    {dp uu : Nat} {gd : Option (List Code)} {fa : Addr} {cd : Value} {k1 k2 k3 k4 k5 : Addr} {A₀ : Around} {g : Heap} {L : Addr} {s : Shared} {Q : Flow → Shared → Prop}
    {c0 c1 c2 c3 c4 c5 c6 c7 : Int} {R1 : Addr} {vs1 : List Value} {nn1 : Nat} {o1 o3 : Obj} {v3 : Option Value} {rest : List (Addr × Obj)} {m : Str → Option Value}
    (B : Below A₀ g [] g) (X : (hd.heap_39 w.params).In g) (T : Top p loose mean mg mb g) (hd : dp + 300 < recursionLimit) (hu : uu + 1300 < cLine)
    (hI : IntsAre vs1 [c0, c1, c2, c3, c4, c5, c6, c7]) (hrng : ∀ x ∈ [c0, c1, c2, c3, c4, c5, c6, c7], 0 ≤ x ∧ x ≤ 100000000) (ho1 : o1.data = .cell (some (.ref R1))) (ho3 : o3.data = .cell v3)
    (h3 : ∀ q ∈ (k1, o1) :: (R1, listOf vs1.toArray nn1) :: rest, q.1 ≠ k3)
    (F : Fr g L s.heap m) (N : News g L s.heap ((k3, o3) :: (k1, o1) :: (R1, listOf vs1.toArray nn1) :: rest))
    (hr : ∀ h tk o3' Rcv u1 u2 u3 ncv, o3'.data = .cell (some (.ref Rcv)) → Fr g L h m → News g L h ((k3, o3') :: (Rcv, listOf #[.int (c2.fmod 1000 - 500) u1, .int (c3.fmod 1000 - 500) u2, .int (c4.fmod 1000 - 500) u3] ncv) :: (k1, o1) :: (R1, listOf vs1.toArray nn1) :: rest) →
      (∀ q ∈ (k3, o3') :: (k1, o1) :: (R1, listOf vs1.toArray nn1) :: rest, q.1 ≠ Rcv) →
      wpAny (model prog w) (ktrTop dp uu gd (Str.ofString "law") sc L fa cd (clOf k1 k2 k3 k4 k5) []) (execs r (envX (Str.ofString "law") sc L fa cd (clOf k1 k2 k3 k4 k5))) Q (fun _ _ => False) { s with heap := h, toks := tk }) :
    wpAny (model prog w) (ktrTop dp uu gd (Str.ofString "law") sc L fa cd (clOf k1 k2 k3 k4 k5) []) (execs (b5 :: r) (envX (Str.ofString "law") sc L fa cd (clOf k1 k2 k3 k4 k5))) Q (fun _ _ => False) s := by
  k_with_none
  k_with "my mem" => (first | exact List.mem_cons_self | (refine List.mem_cons_of_mem _ ?_; walk_at "my mem"))
  k_with "eval ListComp" => (k_here; refine stop_here ?_)
  k_with "SrcTup" => (k_here; refine stop_here ?_)
  k_with "CompEnd" => (k_here; refine stop_here ?_)
  k_with "storeName" => (k_here; k_dflt (
  (refine' storeX_C ?kw4F ?kw4N ?kw4c ?kw4U ?kw4d ?_ ?kw4a ?kw4b; (case kw4a => rfl); (case kw4b => rfl); (case kw4F => k_asm); (case kw4N => k_asm); (case kw4c => rfl); (case kw4U => exact UpdF.head hk3); (case kw4d => k_asm); k_whole; intro h' o' F' N' d'; (try dsimp only at N'); (try k_sweep))))
  conv at hb5 => lhs; whnf
  have hsc' := hsc
  conv at hsc => lhs; whnf
  subst hb5 hsc
  k_steps
  unfold Stop
  refine ListComp_tup F (by with_unfolding_all rfl) (by decide) (by rfl) (by decide) (by rfl) ?_
  k_steps
  unfold Stop
  rename Fr _ _ _ _ => F7
  rename News _ _ _ _ => N7
  refine ⟨_, _, _, rfl, rfl, F7, N7, ⟨_, List.mem_cons_self, rfl, _, rfl⟩, by show 3 ≤ sizeLine; rw [sizeLine_eq]; omega, fun gh => ?_⟩
  show LCg.CompRest _ _ _ _ _ _ _ _ _ _ _ _ _ _ _ 3 0 [] _
  refine LCg.CompRest.succ ?_
  intro v1 I1 oI1 C1 oC1 D1 mm1 hh1 tkk1 EE1 hv1 hns1 hmx1 FF1 NN1 hoff1 hne1
  obtain ⟨tv1, hv1'⟩ : ∃ t, v1 = Value.int 2 t := ⟨_, (Option.some.inj hv1).symm⟩
  subst hv1'
  clear hv1
  k_steps
  unfold Stop
  rename Fr _ _ _ _ => FX1
  rename News _ _ _ _ => NX1
  refine LCg.CompEnd.intro FX1 NX1 _ (fun q hq => hq) hoff1 ⟨_, List.mem_cons_self, rfl, _, rfl⟩ ?_
  clear FX1 NX1 hoff1 hns1 hmx1 hne1
  refine LCg.CompRest.succ ?_
  intro v2 I2 oI2 C2 oC2 D2 mm2 hh2 tkk2 EE2 hv2 hns2 hmx2 FF2 NN2 hoff2 hne2
  obtain ⟨tv2, hv2'⟩ : ∃ t, v2 = Value.int 3 t := ⟨_, (Option.some.inj hv2).symm⟩
  subst hv2'
  clear hv2
  k_steps
  unfold Stop
  rename Fr _ _ _ _ => FX2
  rename News _ _ _ _ => NX2
  refine LCg.CompEnd.intro FX2 NX2 _ (fun q hq => hq) hoff2 ⟨_, List.mem_cons_self, rfl, _, rfl⟩ ?_
  clear FX2 NX2 hoff2 hns2 hmx2 hne2
  refine LCg.CompRest.succ ?_
  intro v3 I3 oI3 C3 oC3 D3 mm3 hh3 tkk3 EE3 hv3 hns3 hmx3 FF3 NN3 hoff3 hne3
  obtain ⟨tv3, hv3'⟩ : ∃ t, v3 = Value.int 4 t := ⟨_, (Option.some.inj hv3).symm⟩
  subst hv3'
  clear hv3
  k_steps
  unfold Stop
  rename Fr _ _ _ _ => FX3
  rename News _ _ _ _ => NX3
  refine LCg.CompEnd.intro FX3 NX3 _ (fun q hq => hq) hoff3 ⟨_, List.mem_cons_self, rfl, _, rfl⟩ ?_
  clear FX3 NX3 hoff3 hns3 hmx3 hne3
  refine LCg.CompRest.zero ?_
  intro D h2 tk2 F2 N2 off2
  have o2 := off1_mem off2
  obtain ⟨ncv, u1, u2, u3, N3⟩ : ∃ ncv u1 u2 u3, News g L h2 ((k3, o3) :: (D, listOf #[.int (c2.fmod 1000 - 500) u1, .int (c3.fmod 1000 - 500) u2, .int (c4.fmod 1000 - 500) u3] ncv) :: (k1, o1) :: (R1, listOf vs1.toArray nn1) :: rest) := ⟨_, _, _, _, perm3 N2⟩
  have hk3 : ∀ q ∈ (D, listOf #[.int (c2.fmod 1000 - 500) u1, .int (c3.fmod 1000 - 500) u2, .int (c4.fmod 1000 - 500) u3] ncv) :: (k1, o1) :: (R1, listOf vs1.toArray nn1) :: rest, q.1 ≠ k3 := fun q hq => by
    rcases List.mem_cons.mp hq with e | hq
    · rw [e]; exact Ne.symm (o2 (k3, o3) (.tail _ (.head _)))
    · exact h3 q hq
  have o2' : ∀ q ∈ (k1, o1) :: (R1, listOf vs1.toArray nn1) :: rest, q.1 ≠ D := fun q hq => o2 q (.tail _ (.tail _ hq))
  have o3' : k3 ≠ D := o2 (k3, o3) (.tail _ (.head _))
  clear N2 off2 o2
  k_steps
  refine hr _ _ o' D u1 u2 u3 ncv d' F' N' fun q hq => ?_
  rcases List.mem_cons.mp hq with e | hq
  · rw [e]; exact o3'
  · exact o2' q hq
end
end Mine
namespace Mine
open PySem PySem.W PySem.Spec PySem.Calls PyProof.Rows
theorem ints_get {vs : List Value} {ns : List Int} (h : IntsAre vs ns) : ∀ {k : Nat} {x : Int}, ns[k]? = some x → ∃ t, vs[k]? = some (.int x t) := by
  induction h with
  | nil => intro k x e; simp at e
  | cons a t _ ih =>
    intro k x e
    cases k with
    | zero => simp at e; subst e; exact ⟨t, rfl⟩
    | succ k => simpa using ih (by simpa using e)
section
variable {prog : Program} {w : World} {p : Program} {loose : List Str} {mean : ExcName → Option Value} {mg mb : Str → Option Value}
theorem due_part {b6 : Stmt} {r : List Stmt} {sc : Scope} (hb6 : nthS (lawFrom 0) 6 = b6) (hsc : lawSc = sc)
    {dp uu : Nat} {gd : Option (List Code)} {fa : Addr} {cd : Value} {k1 k2 k3 k4 k5 : Addr} {A₀ : Around} {g : Heap} {L : Addr} {s : Shared} {Q : Flow → Shared → Prop}
    {d : Dt} {Rcv Rpt : Addr} {vpt : List Value} {npt ncv : Nat} {u1 u2 u3 : Tok} {o3 : Obj} {rest : List (Addr × Obj)} {m : Str → Option Value} (h : d.ok)
    (B : Below A₀ g [] g) (X : (hd.heap_39 w.params).In g) (T : Top p loose mean mg mb g) (hd : dp + 300 < recursionLimit) (hu : uu + 1300 < cLine)
    (ho3 : o3.data = .cell (some (.ref Rcv))) (hIpt : IntsAre vpt d.pts) (hmp : m (Str.ofString "points") = some (.ref Rpt))
    (F : Fr g L s.heap m) (N : News g L s.heap ((k3, o3) :: (Rcv, listOf #[.int d.pp u1, .int d.qq u2, .int d.rr u3] ncv) :: (Rpt, listOf vpt.toArray npt) :: rest))
    (hr : ∀ h tk D vd nd, Fr g L h (fun z => if z = Str.ofString "due" then some (.ref D) else m z) → News g L h ((D, listOf vd.toArray nd) :: (k3, o3) :: (Rcv, listOf #[.int d.pp u1, .int d.qq u2, .int d.rr u3] ncv) :: (Rpt, listOf vpt.toArray npt) :: rest) → IntsAre vd d.ds →
      (∀ q ∈ (k3, o3) :: (Rcv, listOf #[.int d.pp u1, .int d.qq u2, .int d.rr u3] ncv) :: (Rpt, listOf vpt.toArray npt) :: rest, q.1 ≠ D) →
      wpAny (model prog w) (ktrTop dp uu gd (Str.ofString "law") sc L fa cd (clOf k1 k2 k3 k4 k5) []) (execs r (envX (Str.ofString "law") sc L fa cd (clOf k1 k2 k3 k4 k5))) Q (fun _ _ => False) { s with heap := h, toks := tk }) :
    wpAny (model prog w) (ktrTop dp uu gd (Str.ofString "law") sc L fa cd (clOf k1 k2 k3 k4 k5) []) (execs (b6 :: r) (envX (Str.ofString "law") sc L fa cd (clOf k1 k2 k3 k4 k5))) Q (fun _ _ => False) s := by
  k_with_none
  k_with "my mem" => (first | exact List.mem_cons_self | (refine List.mem_cons_of_mem _ ?_; walk_at "my mem"))
  k_with "CompSrc" => (k_here; refine stop_here ?_)
  k_with "call ref" => (k_here; refine stop_here ?_)
  k_with "exec Assign cons ListComp" => (k_here; refine stop_here ?_)
  conv at hb6 => lhs; whnf
  have hsc' := hsc
  conv at hsc => lhs; whnf
  subst hb6 hsc
  have ek : kstB m [(Str.ofString "points", .ref Rpt)] = m := kst_id fun q hq => by
    rw [List.mem_singleton.mp hq]; exact hmp
  rw [← ek] at F
  k_steps
  unfold Stop
  refine LCg.Assign_ListComp_U (F₀ := F) rfl (by with_unfolding_all rfl) (by with_unfolding_all rfl) (by decide) rfl (by decide) rfl rfl rfl ?_
  k_steps
  unfold Stop
  rename News _ _ _ _ => N11
  have hyl : vpt.length = 5 := by rw [hIpt.length]; simp [Dt.pts]
  have hsz : vpt.toArray.size = 5 := by rw [List.size_toArray]; exact hyl
  refine LCg.CompSrc.ledger rfl F N11 (.tail _ (.tail _ (.head _))) (by rw [sizeLine_eq, hsz]; decide) fun g' => comp_inv (fun i ws n => n = (k3, o3) :: (Rcv, listOf #[.int d.pp u1, .int d.qq u2, .int d.rr u3] ncv) :: (Rpt, listOf vpt.toArray npt) :: rest ∧ IntsAre ws ((List.range i).map d.du)) ?turn ?done _ 0 [] _ rfl ⟨rfl, .nil⟩
  (case turn =>
    intro i ws news hi hInv v I oI C oC D m₂ h5 tk5 E' hP hC hx F5 N5 off5 ne5
    obtain ⟨rfl, hws⟩ := hInv
    obtain ⟨t1, e1⟩ := ints_get hIpt (pts_at d (n := i) (by omega))
    have hv : v = .int (d.pt i) t1 := by
      have hP' : vpt.toArray[i]? = some v := hP
      rw [List.getElem?_toArray, e1] at hP'
      exact (Option.some.inj hP').symm
    subst hv
    clear F N11
    k_steps
    unfold Stop
    refine' tel_use (height_tel Rcv d.pp d.qq d.rr (d.pt i) u1 u2 u3 t1 0) B ?wF X ?wN T rfl ?wd ?wu ?wp ?_
    (case wF => k_asm)
    (case wN => k_asm)
    (case wd => first | exact room1 (by assumption) (by decide) | exact room0 (by assumption) (by decide) | omega)
    (case wu => first | exact room1 (by assumption) (by decide) | exact room0 (by assumption) (by decide) | omega)
    (case wp => exact ⟨isl ncv (fun q hq => (N5 q hq).1) (by with_reducible walk_at "my mem"), h.p, h.q, h.r, (h.pt_abs (by omega)).le (by decide)⟩)
    intro r8 h8 tk8 F8 N8 st8 hO8
    obtain ⟨t9, rfl⟩ := hO8
    refine LCg.CompEnd.intro F8 N8 _ (fun q hq => hq) off5 (.inr ⟨_, .tail _ (.tail _ (.head _)), rfl, _, rfl⟩) ⟨rfl, ?_⟩
    rw [List.range_succ, List.map_append]
    exact intsAre_append hws (.cons _ _ .nil))
  intro ws n3 hInv Rw h6 tk6 F6 N6 off6
  obtain ⟨rfl, hws⟩ := hInv
  rw [hsz] at hws
  obtain ⟨nw, hlst⟩ : ∃ nl, LCg.lst ws = listOf ws.toArray nl := ⟨_, rfl⟩
  rw [hlst] at N6
  rw [ek] at F6
  exact hr _ _ Rw ws nw F6 N6 hws (off1_mem off6)
end
end Mine
namespace Mine
open PySem PySem.W PySem.Spec PySem.Calls PyProof.Rows
theorem lt5 {k : Int} (h : k < 0 + ((5 - 0 : Int).toNat : Int)) : k < 5 := h
theorem mark_item {k : Int} (h0 : 0 ≤ k) (h1 : k < 4) : ∃ c, (c = 124 ∨ c = 33 ∨ c = 120 ∨ c = 47) ∧ Txt.item (Str.ofString "|!x/") k = ⟨#[c]⟩ := by
  have : k = 0 ∨ k = 1 ∨ k = 2 ∨ k = 3 := by omega
  rcases this with rfl | rfl | rfl | rfl
  · exact ⟨124, .inl rfl, by decide +kernel⟩
  · exact ⟨33, .inr (.inl rfl), by decide +kernel⟩
  · exact ⟨120, .inr (.inr (.inl rfl)), by decide +kernel⟩
  · exact ⟨47, .inr (.inr (.inr rfl)), by decide +kernel⟩
def ordOf (c6 : Int) (n : Nat) : Int := (c6 + (n : Int) * (1 + (c6.fdiv 5).fmod 4)).fmod 5
section
variable {prog : Program} {w : World} {p : Program} {loose : List Str} {mean : ExcName → Option Value} {mg mb : Str → Option Value}
theorem rest_part {b7 b8 b9 b10 b11 : Stmt} {r : List Stmt} {sc : Scope} (hb7 : nthS (lawFrom 0) 7 = b7) (hb8 : nthS (lawFrom 0) 8 = b8) (hb9 : nthS (lawFrom 0) 9 = b9) (hb10 : nthS (lawFrom 0) 10 = b10) (hb11 : nthS (lawFrom 0) 11 = b11) (hsc : lawSc = sc)
    {dp uu : Nat} {gd : Option (List Code)} {fa : Addr} {cd : Value} {k1 k2 k3 k4 k5 : Addr} {A₀ : Around} {g : Heap} {L : Addr} {s : Shared} {Q : Flow → Shared → Prop}
    {c0 c1 c2 c3 c4 c5 c6 c7 : Int} {R1 : Addr} {vs1 : List Value} {nn1 : Nat} {o1 o4 : Obj} {v4 : Option Value} {rest : List (Addr × Obj)} {m : Str → Option Value}
    (B : Below A₀ g [] g) (X : (hd.heap_39 w.params).In g) (T : Top p loose mean mg mb g) (hd : dp + 300 < recursionLimit) (hu : uu + 1300 < cLine)
    (hI : IntsAre vs1 [c0, c1, c2, c3, c4, c5, c6, c7]) (hrng : ∀ x ∈ [c0, c1, c2, c3, c4, c5, c6, c7], 0 ≤ x ∧ x ≤ 100000000) (ho1 : o1.data = .cell (some (.ref R1))) (ho4 : o4.data = .cell v4)
    (hk4 : ∀ q ∈ (k1, o1) :: (R1, listOf vs1.toArray nn1) :: rest, q.1 ≠ k4)
    (F : Fr g L s.heap m) (N : News g L s.heap ((k4, o4) :: (k1, o1) :: (R1, listOf vs1.toArray nn1) :: rest))
    (hr : ∀ h tk m' D no o4' vo u1 u2 u3 c, (c = 124 ∨ c = 33 ∨ c = 120 ∨ c = 47) → Fr g L h m' → (∀ y, y ≠ Str.ofString "liar" → y ≠ Str.ofString "lie" → y ≠ Str.ofString "mark" → m' y = m y) → m' (Str.ofString "liar") = some (.int (c5.fmod 5) u1) → m' (Str.ofString "lie") = some (.int ((c5.fdiv 5).fmod 41 - 20) u2) → m' (Str.ofString "mark") = some (.str ⟨#[c]⟩ u3) →
      o4'.data = .cell (some (.ref D)) → News g L h ((D, listOf vo.toArray no) :: (k4, o4') :: (k1, o1) :: (R1, listOf vs1.toArray nn1) :: rest) → IntsAre vo ((List.range 5).map (ordOf c6)) → (∀ q ∈ (k4, o4') :: (k1, o1) :: (R1, listOf vs1.toArray nn1) :: rest, q.1 ≠ D) →
      wpAny (model prog w) (ktrTop dp uu gd (Str.ofString "law") sc L fa cd (clOf k1 k2 k3 k4 k5) []) (execs r (envX (Str.ofString "law") sc L fa cd (clOf k1 k2 k3 k4 k5))) Q (fun _ _ => False) { s with heap := h, toks := tk }) :
    wpAny (model prog w) (ktrTop dp uu gd (Str.ofString "law") sc L fa cd (clOf k1 k2 k3 k4 k5) []) (execs (b7 :: b8 :: b9 :: b10 :: b11 :: r) (envX (Str.ofString "law") sc L fa cd (clOf k1 k2 k3 k4 k5))) Q (fun _ _ => False) s := by
  k_with_none
  k_with "call ref" => (k_here; refine stop_here ?_)
  k_with "binaryOp Mult int int" => (k_here; (rename (_ : Int) < 0 + ((5 - 0 : Int).toNat : Int) => hb9); (replace hb9 := lt5 hb9); walk_at "binaryOp Mult int int")
  k_with "storeName" => (k_here; k_dflt (first
  | (refine' storeX_L ?kw2F ?kw2N ?_ ?kw2a ?kw2b; (case kw2F => k_asm); (case kw2N => k_asm); (case kw2a => rfl); (case kw2b => rfl); k_whole; intro h' F' N'; (try k_sweep))
  | (refine' storeX_C ?kw2F ?kw2N ?kw2c ?kw2U ?kw2d ?_ ?kw2a ?kw2b; (case kw2a => rfl); (case kw2b => rfl); (case kw2F => k_asm); (case kw2N => k_asm); (case kw2c => rfl); (case kw2U => (refine' UpdF.tail ?kw2ua ?kw2ub; (case kw2ua => k_ne); (case kw2ub => exact UpdF.head hk4))); (case kw2d => k_asm); k_whole; intro h' o' F' N' d'; (try dsimp only at N'); (try k_sweep))))
  conv at hb7 => lhs; whnf
  conv at hb8 => lhs; whnf
  conv at hb9 => lhs; whnf
  conv at hb10 => lhs; whnf
  conv at hb11 => lhs; whnf
  have hsc' := hsc
  conv at hsc => lhs; whnf
  subst hb7 hb8 hb9 hb10 hb11 hsc
  k_steps
  unfold Stop
  rename IntsAre ys _ => hI8
  rename _ ∧ _ ∧ _ ∧ LCg.Off1 _ rest => hof
  have hoD : ∀ q ∈ (k4, o') :: (k1, o1) :: (R1, listOf vs1.toArray nn1) :: rest, q.1 ≠ _ := off1_mem hof
  obtain ⟨c, hc, hmk⟩ := mark_item (k := c7.fmod 4) (fm_lt 4 (by decide)).1 (fm_lt 4 (by decide)).2
  obtain ⟨u1, u2, u3, F1⟩ : ∃ u1 u2 u3 : Tok, Fr g L h' (fun y => if y = Str.ofString "mark" then some (.str (Txt.item (Str.ofString "|!x/") (c7.fmod 4)) u3) else if y = Str.ofString "lie" then some (.int ((c5.fdiv 5).fmod 41 - 20) u2) else if y = Str.ofString "liar" then some (.int (c5.fmod 5) u1) else m y) := ⟨_, _, _, F'⟩
  rw [hmk] at F1
  clear F'
  refine' telS_use (refused2a_tel (Str.ofString "229 2 7 2)") _ (-1)) B ?F X ?N T rfl ?d ?u ?q ?_
  (case F => k_asm)
  (case N => k_asm)
  (case d => first | exact room1 (by assumption) (by decide) | exact room0 (by assumption) (by decide) | omega)
  (case u => first | exact room1 (by assumption) (by decide) | exact room0 (by assumption) (by decide) | omega)
  (case q => decide +kernel)
  intro r8 h8 tk8 F8 N8 ho8
  obtain ⟨t8, rfl⟩ := ho8
  clear F1 N'
  k_steps
  obtain ⟨no, hlst⟩ : ∃ nl, LCg.lst ys = listOf ys.toArray nl := ⟨_, rfl⟩
  rw [hlst] at N8
  refine hr _ _ _ _ no o' ys u1 u2 u3 c hc F8 (fun y a1 a2 a3 => ?_) ?_ ?_ ?_ d' N8 hI8 hoD
  · exact (if_neg a3).trans ((if_neg a2).trans (if_neg a1))
  · exact (if_neg (by decide +kernel)).trans ((if_neg (by decide +kernel)).trans (if_pos rfl))
  · exact (if_neg (by decide +kernel)).trans (if_pos rfl)
  · exact if_pos rfl
end
end Mine
namespace Mine
open PySem PySem.W PySem.Spec PySem.Calls PyProof.Rows
def dtOf (c0 c2 c3 c4 c5 c6 sp : Int) : Dt := { pp := c2.fmod 1000 - 500, qq := c3.fmod 1000 - 500, rr := c4.fmod 1000 - 500, x0 := (c0.fdiv 3).fmod 12 - 10, gap := 1 + c0.fmod 3, sp := sp, lie := (c5.fdiv 5).fmod 41 - 20, st := (c6.fmod 5).toNat, sd := ((c6.fdiv 5).fmod 4).toNat, liar := (c5.fmod 5).toNat }
theorem dt_ok {c0 c2 c3 c4 c5 c6 sp : Int} (hsp : -50 ≤ sp ∧ sp ≤ 50 ∧ (sp < ptOf c0 0 ∨ ptOf c0 4 < sp)) : (dtOf c0 c2 c3 c4 c5 c6 sp).ok := by
  have a0 := fm_lt (a := c0.fdiv 3) 12 (by decide)
  have a1 := fm_lt (a := c0) 3 (by decide)
  have a2 := fm_lt (a := c2) 1000 (by decide)
  have a3 := fm_lt (a := c3) 1000 (by decide)
  have a4 := fm_lt (a := c4) 1000 (by decide)
  have a5 := fm_lt (a := c5.fdiv 5) 41 (by decide)
  have a6 := fm_lt (a := c5) 5 (by decide)
  have a7 := fm_lt (a := c6) 5 (by decide)
  have a8 := fm_lt (a := c6.fdiv 5) 4 (by decide)
  refine ⟨?_, ?_, ?_, ?_, ?_, ⟨hsp.1, hsp.2.1, hsp.2.2⟩, ?_, ?_, ?_, ?_⟩ <;> dsimp only [dtOf] <;> (try unfold Abs) <;> omega
theorem liar_cast {c0 c2 c3 c4 c5 c6 sp : Int} : ((dtOf c0 c2 c3 c4 c5 c6 sp).liar : Int) = c5.fmod 5 := Int.toNat_of_nonneg (fm_lt (a := c5) 5 (by decide)).1
theorem os_eq {c0 c2 c3 c4 c5 c6 sp : Int} : (dtOf c0 c2 c3 c4 c5 c6 sp).os = (List.range 5).map (ordOf c6) := by
  have a7 := fm_lt (a := c6) 5 (by decide)
  have a8 := fm_lt (a := c6.fdiv 5) 4 (by decide)
  unfold Dt.os ordN
  rw [List.map_map]
  refine List.map_congr_left fun n hn => ?_
  have hn5 := List.mem_range.mp hn
  show (((((c6.fmod 5).toNat + n * (1 + ((c6.fdiv 5).fmod 4).toNat)) % 5 : Nat)) : Int) = (c6 + (n : Int) * (1 + (c6.fdiv 5).fmod 4)).fmod 5
  obtain ⟨b, hb⟩ : ∃ b : Nat, (c6.fdiv 5).fmod 4 = b := ⟨_, (Int.toNat_of_nonneg a8.1).symm⟩
  rw [hb]
  simp only [Int.toNat_natCast]
  rw [Int.fmod_eq_emod_of_nonneg c6 (by decide)] at a7 ⊢
  rw [Int.fmod_eq_emod_of_nonneg _ (by decide)]
  obtain ⟨e, he⟩ : ∃ e : Nat, n * (1 + b) = e := ⟨_, rfl⟩
  have he' : (n : Int) * (1 + (b : Int)) = (e : Int) := by rw [← he]; push_cast; rfl
  rw [he, he']
  omega
section
variable {prog : Program} {w : World} {p : Program} {loose : List Str} {mean : ExcName → Option Value} {mg mb : Str → Option Value}
theorem whole {b : List Stmt} {sc : Scope} (hb : lawFrom 1 = b) (hsc : lawSc = sc) {dp uu : Nat} {gd : Option (List Code)} {fa : Addr} {cd : Value} {k1 k2 k3 k4 k5 : Addr} {A₀ : Around} {g : Heap} {L : Addr} {s : Shared} {Q : Flow → Shared → Prop}
    {c0 c1 c2 c3 c4 c5 c6 c7 : Int} {R1 : Addr} {vs1 : List Value} {nn1 : Nat} {o1 o2 o3 o4 o5 : Obj} {v2 v3 v4 v5 : Option Value} {TT : List (Addr × Obj)} {m : Str → Option Value}
    (B : Below A₀ g [] g) (X : (hd.heap_39 w.params).In g) (T : Top p loose mean mg mb g) (hd : dp + 300 < recursionLimit) (hu : uu + 1300 < cLine)
    (hI : IntsAre vs1 [c0, c1, c2, c3, c4, c5, c6, c7]) (hrng : ∀ x ∈ [c0, c1, c2, c3, c4, c5, c6, c7], 0 ≤ x ∧ x ≤ 100000000)
    (ho1 : o1.data = .cell (some (.ref R1))) (ho2 : o2.data = .cell v2) (ho3 : o3.data = .cell v3) (ho4 : o4.data = .cell v4) (ho5 : o5.data = .cell v5)
    (h1 : R1 ≠ k1 ∧ R1 ≠ k2 ∧ R1 ≠ k3 ∧ R1 ≠ k4 ∧ R1 ≠ k5) (h2 : k1 ≠ k2 ∧ k1 ≠ k3 ∧ k1 ≠ k4 ∧ k1 ≠ k5) (h3 : k2 ≠ k3 ∧ k2 ≠ k4 ∧ k2 ≠ k5) (h4 : k3 ≠ k4 ∧ k3 ≠ k5) (h5 : k4 ≠ k5)
    (hT : TF TT) (hTT : ∀ r ∈ TT, r.1 ≠ k1 ∧ r.1 ≠ k2 ∧ r.1 ≠ k3 ∧ r.1 ≠ k4 ∧ r.1 ≠ k5)
    (F : Fr g L s.heap m) (N : News g L s.heap ((k2, o2) :: (k1, o1) :: (R1, listOf vs1.toArray nn1) :: (k3, o3) :: (k4, o4) :: (k5, o5) :: TT))
    (hend : ∀ h tk m' TT, Fr g L h m' → News g L h TT → TF TT → Q (.ret (.bool true)) { s with heap := h, toks := tk }) :
    wpAny (model prog w) (ktrTop dp uu gd (Str.ofString "law") sc L fa cd (clOf k1 k2 k3 k4 k5) []) (execs b (envX (Str.ofString "law") sc L fa cd (clOf k1 k2 k3 k4 k5))) Q (fun _ _ => False) s := by
  k_with_none
  k_with "my sub" => (first | with_reducible exact List.mem_cons_self | with_reducible assumption | (with_reducible refine subC ?_ ?_ <;> walk_at "my sub") | (with_reducible refine subA ?_ ?_ <;> walk_at "my sub") | with_reducible exact subN | (with_reducible refine List.mem_cons_of_mem _ ?_; walk_at "my sub") | (with_reducible refine List.mem_append_left _ ?_; walk_at "my sub") | (with_reducible refine List.mem_append_right _ ?_; walk_at "my sub") | (intro _ _; walk_at "my sub"))
  have hb' : nthS (lawFrom 0) 1 :: nthS (lawFrom 0) 2 :: nthS (lawFrom 0) 3 :: nthS (lawFrom 0) 4 :: nthS (lawFrom 0) 5 :: nthS (lawFrom 0) 6 :: nthS (lawFrom 0) 7 :: nthS (lawFrom 0) 8 :: nthS (lawFrom 0) 9 :: nthS (lawFrom 0) 10 :: nthS (lawFrom 0) 11 :: lawFrom 12 = b := hb
  subst hb'
  refine head_part rfl rfl rfl rfl hsc B X T hd hu hI hrng ho1 ho2 (fun q hq => ?_) F N fun hA tkA mA D o2' sp tsp ys FA hp hs NA hIp hsp hoD => ?_
  · simp only [List.mem_cons] at hq
    rcases hq with e | e | e | e | e | e
    · rw [e]; exact h2.1
    · rw [e]; exact h1.2.1
    · rw [e]; exact Ne.symm h3.1
    · rw [e]; exact Ne.symm h3.2.1
    · rw [e]; exact Ne.symm h3.2.2
    · exact (hTT q e).2.1
  obtain ⟨npt, hlst⟩ : ∃ nl, LCg.lst ys = listOf ys.toArray nl := ⟨_, rfl⟩
  rw [hlst] at NA
  clear F N hlst
  have NA' : News g L hA ((k3, o3) :: (k1, o1) :: (R1, listOf vs1.toArray nn1) :: (D, listOf ys.toArray npt) :: (k4, o4) :: (k5, o5) :: TT) := fun q hq => NA q (by
    revert q hq; walk_at "my sub")
  clear NA
  have hdk1 : k1 ≠ D := hoD (k1, o1) (by walk_at "my sub")
  have hdR1 : R1 ≠ D := hoD (R1, listOf vs1.toArray nn1) (by walk_at "my sub")
  have hdk3 : k3 ≠ D := hoD (k3, o3) (by walk_at "my sub")
  have hdk4 : k4 ≠ D := hoD (k4, o4) (by walk_at "my sub")
  have hdk5 : k5 ≠ D := hoD (k5, o5) (by walk_at "my sub")
  have hdT : ∀ r ∈ TT, r.1 ≠ D := fun r hr => hoD r (by walk_at "my sub")
  clear hoD
  refine curve_part rfl hsc B X T hd hu hI hrng ho1 ho3 (fun q hq => ?_) FA NA' fun hB tkB o3' Rcv u1 u2 u3 ncv ho3' FB NB hoC => ?_
  · simp only [List.mem_cons] at hq
    rcases hq with e | e | e | e | e | e
    · rw [e]; exact h2.2.1
    · rw [e]; exact h1.2.2.1
    · rw [e]; exact Ne.symm hdk3
    · rw [e]; exact Ne.symm h4.1
    · rw [e]; exact Ne.symm h4.2
    · exact (hTT q e).2.2.1
  have hck3 : k3 ≠ Rcv := hoC (k3, o3') (by walk_at "my sub")
  have hck1 : k1 ≠ Rcv := hoC (k1, o1) (by walk_at "my sub")
  have hcR1 : R1 ≠ Rcv := hoC (R1, listOf vs1.toArray nn1) (by walk_at "my sub")
  have hcD : D ≠ Rcv := hoC (D, listOf ys.toArray npt) (by walk_at "my sub")
  have hck4 : k4 ≠ Rcv := hoC (k4, o4) (by walk_at "my sub")
  have hck5 : k5 ≠ Rcv := hoC (k5, o5) (by walk_at "my sub")
  have hcT : ∀ r ∈ TT, r.1 ≠ Rcv := fun r hr => hoC r (by walk_at "my sub")
  clear hoC FA NA'
  have hok := dt_ok (c2 := c2) (c3 := c3) (c4 := c4) (c5 := c5) (c6 := c6) hsp
  have hIpt : IntsAre ys (dtOf c0 c2 c3 c4 c5 c6 sp).pts := hIp
  have NB' : News g L hB ((k3, o3') :: (Rcv, listOf #[.int (c2.fmod 1000 - 500) u1, .int (c3.fmod 1000 - 500) u2, .int (c4.fmod 1000 - 500) u3] ncv) :: (D, listOf ys.toArray npt) :: (k4, o4) :: (k1, o1) :: (R1, listOf vs1.toArray nn1) :: (k5, o5) :: TT) := fun q hq => NB q (by
    revert q hq; walk_at "my sub")
  clear NB
  refine due_part (d := dtOf c0 c2 c3 c4 c5 c6 sp) rfl hsc hok B X T hd hu ho3' hIpt hp FB NB' fun hC tkC Dd vd nd FC NC hId hoE => ?_
  have hek3 : k3 ≠ Dd := hoE (k3, o3') (by walk_at "my sub")
  have hek1 : k1 ≠ Dd := hoE (k1, o1) (by walk_at "my sub")
  have heR1 : R1 ≠ Dd := hoE (R1, listOf vs1.toArray nn1) (by walk_at "my sub")
  have heD : D ≠ Dd := hoE (D, listOf ys.toArray npt) (by walk_at "my sub")
  have heR : Rcv ≠ Dd := hoE (Rcv, listOf #[.int (c2.fmod 1000 - 500) u1, .int (c3.fmod 1000 - 500) u2, .int (c4.fmod 1000 - 500) u3] ncv) (.tail _ (.head _))
  have hek4 : k4 ≠ Dd := hoE (k4, o4) (by walk_at "my sub")
  have hek5 : k5 ≠ Dd := hoE (k5, o5) (by walk_at "my sub")
  have heT : ∀ r ∈ TT, r.1 ≠ Dd := fun r hr => hoE r (by walk_at "my sub")
  clear hoE FB NB'
  have NC' : News g L hC ((k4, o4) :: (k1, o1) :: (R1, listOf vs1.toArray nn1) :: (Dd, listOf vd.toArray nd) :: (k3, o3') :: (Rcv, listOf #[.int (c2.fmod 1000 - 500) u1, .int (c3.fmod 1000 - 500) u2, .int (c4.fmod 1000 - 500) u3] ncv) :: (D, listOf ys.toArray npt) :: (k5, o5) :: TT) := fun q hq => NC q (by
    simp only [List.mem_cons] at hq
    show q ∈ (Dd, listOf vd.toArray nd) :: (k3, o3') :: (Rcv, listOf #[.int (c2.fmod 1000 - 500) u1, .int (c3.fmod 1000 - 500) u2, .int (c4.fmod 1000 - 500) u3] ncv) :: (D, listOf ys.toArray npt) :: (k4, o4) :: (k1, o1) :: (R1, listOf vs1.toArray nn1) :: (k5, o5) :: TT
    simp only [List.mem_cons]
    rcases hq with e | e | e | e | e | e | e | e | e <;> simp [e])
  clear NC
  refine rest_part rfl rfl rfl rfl rfl hsc B X T hd hu hI hrng ho1 ho4 (fun q hq => ?_) FC NC' fun hE tkE mE Ro no o4' vo w1 w2 w3 c hc FE hmE hl1 hl2 hl3 ho4' NE hIo hoF => ?_
  · simp only [List.mem_cons] at hq
    rcases hq with e | e | e | e | e | e | e | e
    · rw [e]; exact h2.2.2.1
    · rw [e]; exact h1.2.2.2.1
    · rw [e]; exact Ne.symm hek4
    · rw [e]; exact h4.1
    · rw [e]; exact Ne.symm hck4
    · rw [e]; exact Ne.symm hdk4
    · rw [e]; exact Ne.symm h5
    · exact (hTT q e).2.2.2.1
  have hok5 : k5 ≠ Ro := hoF (k5, o5) (by walk_at "my sub")
  have hoT : ∀ r ∈ TT, r.1 ≠ Ro := fun r hr => hoF r (by walk_at "my sub")
  clear hoF FC NC'
  have NE' : News g L hE ((k5, o5) :: (((Ro, listOf vo.toArray no) :: (k4, o4') :: (k3, o3') :: (Rcv, listOf #[.int (c2.fmod 1000 - 500) u1, .int (c3.fmod 1000 - 500) u2, .int (c4.fmod 1000 - 500) u3] ncv) :: (D, listOf ys.toArray npt) :: (Dd, listOf vd.toArray nd) :: []) ++ TT)) := fun q hq => NE q (by
    revert q hq; walk_at "my sub")
  clear NE
  refine port_part (d := dtOf c0 c2 c3 c4 c5 c6 sp) (c := c) (tl := w2) (tq := w1) (tsp := tsp) (tm := w3) rfl hsc hok hc B X T hd hu ho5 (by walk_at "my sub") ho4' (.head _) (by rw [os_eq]; exact hIo) (by walk_at "my sub") ho3' (.tail _ (.tail _ (.tail _ (.head _)))) (.tail _ (.tail _ (.tail _ (.tail _ (.head _))))) (.tail _ (.tail _ (.tail _ (.tail _ (.tail _ (.head _)))))) hIpt hId (fun q hq => ?_) FE NE' hT (fun q hq r hr => ?_) (fun q hq => ?_) fun h9 tk9 m9 T9 F9 N9 hT9 => hend _ _ _ T9 F9 N9 hT9
  · simp only [psP, List.mem_cons, List.not_mem_nil, or_false] at hq
    rcases hq with e | e | e | e | e | e
    · rw [e]; exact hl2
    · rw [e]
      show mE (Str.ofString "liar") = some (.int ((dtOf c0 c2 c3 c4 c5 c6 sp).liar : Int) w1)
      rw [liar_cast]; exact hl1
    · rw [e]
      exact (hmE _ (by dsimp only; decide +kernel) (by dsimp only; decide +kernel) (by dsimp only; decide +kernel)).trans ((if_neg (by dsimp only; decide +kernel)).trans hp)
    · rw [e]
      exact (hmE _ (by dsimp only; decide +kernel) (by dsimp only; decide +kernel) (by dsimp only; decide +kernel)).trans (if_pos rfl)
    · rw [e]
      exact (hmE _ (by dsimp only; decide +kernel) (by dsimp only; decide +kernel) (by dsimp only; decide +kernel)).trans ((if_neg (by dsimp only; decide +kernel)).trans hs)
    · rw [e]; exact hl3
  · simp only [List.mem_cons, List.not_mem_nil, or_false] at hq
    rcases hq with e | e | e | e | e | e
    · rw [e]; exact hoT r hr
    · rw [e]; exact (hTT r hr).2.2.2.1
    · rw [e]; exact (hTT r hr).2.2.1
    · rw [e]; exact hcT r hr
    · rw [e]; exact hdT r hr
    · rw [e]; exact heT r hr
  · simp only [List.cons_append, List.nil_append, List.mem_cons] at hq
    rcases hq with e | e | e | e | e | e | e
    · rw [e]; exact Ne.symm hok5
    · rw [e]; exact h5
    · rw [e]; exact h4.2
    · rw [e]; exact Ne.symm hck5
    · rw [e]; exact Ne.symm hdk5
    · rw [e]; exact Ne.symm hek5
    · exact (hTT q e).2.2.2.2
end
end Mine
namespace Mine
open PySem PySem.W PySem.Spec PySem.Calls PyProof.Rows
theorem fresh_ne {h₀ h : Heap} {L R : Addr} {news : List (Addr × Obj)} (N : News h₀ L h news) (hn : h.get? R = none) : ∀ p ∈ news, @Ne Nat R p.1 := fun p hp e => by
  have := (N p hp).1
  rw [show p.1 = R from e.symm, hn] at this
  cases this
theorem permH {g h : Heap} {L : Addr} {a b c d e f : Addr × Obj} {l : List (Addr × Obj)} (N : News g L h (a :: b :: c :: d :: e :: f :: l)) : News g L h (e :: f :: a :: d :: c :: b :: l) := by
  k_with_none
  k_with "my sub" => (first | with_reducible exact List.mem_cons_self | with_reducible assumption | (with_reducible refine subC ?_ ?_ <;> walk_at "my sub") | (with_reducible refine subA ?_ ?_ <;> walk_at "my sub") | with_reducible exact subN | (with_reducible refine List.mem_cons_of_mem _ ?_; walk_at "my sub") | (with_reducible refine List.mem_append_left _ ?_; walk_at "my sub") | (with_reducible refine List.mem_append_right _ ?_; walk_at "my sub") | (intro _ _; walk_at "my sub"))
  k_with "call ref" => (k_here; refine stop_here ?_)
  k_with "pyIter ref" => (k_here; refine stop_here ?_)
  k_with "SrcTup" => (k_here; refine stop_here ?_)
  k_with "execs cons" => (k_here; (with_reducible show wpAny _ _ (execs (Stmt.Assign _ (Expr.BinOp _ _ _ _) _ :: _) _) _ _ _); refine stop_here ?_)
  intro q hq
  refine N q ?_
  revert q hq; walk_at "my sub"
theorem law02 : PySem.Challenge.rw_rw0076_02.Holds := Mine.hd.2 (by
  k_with_none
  k_with "my sub" => (first | with_reducible exact List.mem_cons_self | with_reducible assumption | (with_reducible refine subC ?_ ?_ <;> walk_at "my sub") | (with_reducible refine subA ?_ ?_ <;> walk_at "my sub") | with_reducible exact subN | (with_reducible refine List.mem_cons_of_mem _ ?_; walk_at "my sub") | (with_reducible refine List.mem_append_left _ ?_; walk_at "my sub") | (with_reducible refine List.mem_append_right _ ?_; walk_at "my sub") | (intro _ _; walk_at "my sub"))
  k_with "call ref" => (k_here; refine stop_here ?_)
  k_with "pyIter ref" => (k_here; refine stop_here ?_)
  k_with "SrcTup" => (k_here; refine stop_here ?_)
  k_with "execs cons" => (k_here; (with_reducible show wpAny _ _ (execs (Stmt.Assign _ (Expr.BinOp _ _ _ _) _ :: _) _) _ _ _); refine stop_here ?_)
  delta Mine.hd
  dsimp only
  k_go0
  all_goals (try k_fold)
  k_steps
  unfold Stop
  rename Top topProg _ _ _ _ _ => TT
  rename Below callerA _ _ _ => BB
  rename Frag.In _ (ghostOf _ _) => XX
  rename IntsAre _ _ => hIs
  refine' tel_use (cells_tel _ _ _ hIs ?zn) BB ?zF XX ?zN TT rfl ?zd ?zu ?zp ?_
  (case zn => omega)
  (case zF => k_asm)
  (case zN => k_asm)
  (case zd => decide)
  (case zu => decide)
  (case zp => exact Heap.IsList.at (by assumption) fun o e => Fr.keep (by assumption) _ _ e)
  rename News _ _ _ _ => N0
  intro r1 h1 tk1 F1 N1 st1 hO1
  obtain ⟨R1, vs1, nn1, rfl, hE, hg1, hn1⟩ := hO1
  replace N1 := new_at hg1 hn1 N1 (by assumption)
  have q1 := fresh_ne N0 hn1
  simp only [List.forall_mem_cons] at q1
  clear st1 hg1 hn1
  obtain ⟨ns, hI, hlen, hrng⟩ := hE
  obtain ⟨c0, c1, c2, c3, c4, c5, c6, c7, rfl⟩ : ∃ c0 c1 c2 c3 c4 c5 c6 c7, ns = [c0, c1, c2, c3, c4, c5, c6, c7] := by
    rcases ns with _ | ⟨c0, _ | ⟨c1, _ | ⟨c2, _ | ⟨c3, _ | ⟨c4, _ | ⟨c5, _ | ⟨c6, _ | ⟨c7, _ | ⟨c8, r⟩⟩⟩⟩⟩⟩⟩⟩⟩ <;> simp at hlen
    exact ⟨c0, c1, c2, c3, c4, c5, c6, c7, rfl⟩
  clear hlen
  k_steps
  unfold Stop
  rename Fr _ _ _ _ => F2
  rename News _ _ _ _ => N2
  rename _ < _ ∧ _ < _ => hlt
  rename Shared => s1
  obtain ⟨q5, q4, q3, q2, q11, q88, q81⟩ := q1
  rename Obj => oc1
  refine wpAny_mono (whole (k1 := s1.heap.objs.size + 1) (k2 := s1.heap.objs.size + 1 + 1) (k3 := s1.heap.objs.size + 1 + 1 + 1) (k4 := s1.heap.objs.size + 1 + 1 + 1 + 1) (k5 := s1.heap.objs.size + 1 + 1 + 1 + 1 + 1) (TT := [(88, tabObj #[]), (81, tabObj #[])]) (v2 := ?v2) (v3 := ?v3) (v4 := ?v4) (v5 := ?v5) rfl rfl BB XX TT (by decide) (by decide) hI hrng ?ho1 ?ho2 ?ho3 ?ho4 ?ho5 ⟨q11, q2, q3, q4, q5⟩ ?h2 ?h3 ?h4 ?h5 TabF.start ?hTT F2 (permH N2) ?hend) (fun _ _ q => q) (fun _ _ q => q.elim)
  (case ho1 => assumption)
  (case ho2 => assumption)
  (case ho3 => assumption)
  (case ho4 => assumption)
  (case ho5 => assumption)
  (case h2 => exact ⟨Nat.ne_of_lt (by repeat (first | exact Nat.lt_succ_self _ | exact hlt.1 | exact hlt.2 | refine Nat.lt_succ_of_lt ?_)), Nat.ne_of_lt (by repeat (first | exact Nat.lt_succ_self _ | exact hlt.1 | exact hlt.2 | refine Nat.lt_succ_of_lt ?_)), Nat.ne_of_lt (by repeat (first | exact Nat.lt_succ_self _ | exact hlt.1 | exact hlt.2 | refine Nat.lt_succ_of_lt ?_)), Nat.ne_of_lt (by repeat (first | exact Nat.lt_succ_self _ | exact hlt.1 | exact hlt.2 | refine Nat.lt_succ_of_lt ?_))⟩)
  (case h3 => exact ⟨Nat.ne_of_lt (by repeat (first | exact Nat.lt_succ_self _ | exact hlt.1 | exact hlt.2 | refine Nat.lt_succ_of_lt ?_)), Nat.ne_of_lt (by repeat (first | exact Nat.lt_succ_self _ | exact hlt.1 | exact hlt.2 | refine Nat.lt_succ_of_lt ?_)), Nat.ne_of_lt (by repeat (first | exact Nat.lt_succ_self _ | exact hlt.1 | exact hlt.2 | refine Nat.lt_succ_of_lt ?_))⟩)
  (case h4 => exact ⟨Nat.ne_of_lt (by repeat (first | exact Nat.lt_succ_self _ | exact hlt.1 | exact hlt.2 | refine Nat.lt_succ_of_lt ?_)), Nat.ne_of_lt (by repeat (first | exact Nat.lt_succ_self _ | exact hlt.1 | exact hlt.2 | refine Nat.lt_succ_of_lt ?_))⟩)
  (case h5 => exact Nat.ne_of_lt (by repeat (first | exact Nat.lt_succ_self _ | exact hlt.1 | exact hlt.2 | refine Nat.lt_succ_of_lt ?_)))
  (case hTT =>
    intro r hr
    simp only [List.mem_cons, List.not_mem_nil, or_false] at hr
    rcases hr with e | e
    · rw [e]; exact ⟨Nat.ne_of_lt (by repeat (first | exact Nat.lt_succ_self _ | exact hlt.1 | exact hlt.2 | refine Nat.lt_succ_of_lt ?_)), Nat.ne_of_lt (by repeat (first | exact Nat.lt_succ_self _ | exact hlt.1 | exact hlt.2 | refine Nat.lt_succ_of_lt ?_)), Nat.ne_of_lt (by repeat (first | exact Nat.lt_succ_self _ | exact hlt.1 | exact hlt.2 | refine Nat.lt_succ_of_lt ?_)), Nat.ne_of_lt (by repeat (first | exact Nat.lt_succ_self _ | exact hlt.1 | exact hlt.2 | refine Nat.lt_succ_of_lt ?_)), Nat.ne_of_lt (by repeat (first | exact Nat.lt_succ_self _ | exact hlt.1 | exact hlt.2 | refine Nat.lt_succ_of_lt ?_))⟩
    · rw [e]; exact ⟨Nat.ne_of_lt (by repeat (first | exact Nat.lt_succ_self _ | exact hlt.1 | exact hlt.2 | refine Nat.lt_succ_of_lt ?_)), Nat.ne_of_lt (by repeat (first | exact Nat.lt_succ_self _ | exact hlt.1 | exact hlt.2 | refine Nat.lt_succ_of_lt ?_)), Nat.ne_of_lt (by repeat (first | exact Nat.lt_succ_self _ | exact hlt.1 | exact hlt.2 | refine Nat.lt_succ_of_lt ?_)), Nat.ne_of_lt (by repeat (first | exact Nat.lt_succ_self _ | exact hlt.1 | exact hlt.2 | refine Nat.lt_succ_of_lt ?_)), Nat.ne_of_lt (by repeat (first | exact Nat.lt_succ_self _ | exact hlt.1 | exact hlt.2 | refine Nat.lt_succ_of_lt ?_))⟩)
  (case hend =>
    intro hz tkz mz Tz Fz Nz hTz
    obtain ⟨p1, C1, p2, C2, rfl, _⟩ := hTz
    clear N2 F2
    dsimp only
    k_steps))
end Mine
theorem PySem.Challenge.cw_rw0076_02_holds : PySem.Challenge.rw_rw0076_02.Holds := by
  exact Mine.law02
