import PyProof.Rows.All
import Wide.All
import OpenK.AllK
import Wide.FinOn
import PySem.Challenge.RW_pe0105_01
open PySem PySem.W PyProof.Rows
set_option Elab.async false

-- part Hd
namespace Mine
set_option maxRecDepth 100000 in
set_option maxHeartbeats 8000000 in
open_top hd for PySem.Challenge.rw_pe0105_01
end Mine

namespace Mine
theorem walk_anew_Hd : True := by (w_top off); trivial
end Mine
-- part Base
namespace Mine
open PySem.Calls PySem.Spec

section
variable {prog : Program} {w : World} {A₀ A : Around} {s : Shared} {base h₀ : Heap} {outer : List Env} {L : Addr} {m mg mb : Str → Option Value} {env : Env} {K : Frag} {p : Program} {loose : List Str} {mean : ExcName → Option Value}
  {R : Result → Shared → Prop} {name qual : Str} {params : Arguments} {body : List Stmt} {scope : Scope} {dV kV doc pm cdv ct oc : Value} {an od : Option Addr} {osl : Array (Option Value)} {f : Addr} {args : Args} {binds : List (Str × Value)}

/-- a def is entered with all that stands frozen: its own ledger starts empty -/
theorem enterF (B : Below A₀ base outer h₀) (F : Fr h₀ L s.heap m) (X₀ : K.In h₀) (T : Top p loose mean mg mb h₀) (hA : A.frames = some (env :: outer)) (hf : env.frame = some L) (hke : env.scope.kind = .function)
    (ho : K.lookup f = some ⟨oc, od, .func (fnOf name qual params body scope dV kV doc pm an cdv ct), osl⟩) (hcd : codeIn K cdv qual = true) (hroom : A.depth < recursionLimit)
    (hbind : BindsTo s (fnOf name qual params body scope dV kV doc pm an cdv ct) args binds) (hloc : ∀ y ∈ binds, scope.names.lookup y.1 = some .local)
    (h : ∀ L' h₁, Fr s.heap L' h₁ (fun y => binds.reverse.lookup y) → News s.heap L' h₁ [] → Below A base (env :: outer) s.heap → K.In s.heap → Top p loose mean mg mb s.heap →
      wpAny (model prog w) (A.deeper (envOf qual scope L' f cdv)) (execs body (envOf qual scope L' f cdv))
        (fun fl s' => LeaveK h₀ L m s.heap (fun r s' => (∀ b o, s.heap.get? b = some o → s'.heap.get? b = some o) → R r s') (match fl with | .ret v => v | _ => .none) s')
        (fun e s' => wpAny (model prog w) (A.deeper (envOf qual scope L' f cdv)) (leaving (envOf qual scope L' f cdv) e) (fun _ s'' => R (.error e) s'') (fun e' s'' => R (.error e') s'') s')
        { s with heap := h₁, toks := s.toks + binds.length })
    (hco : scope.isCoroutine = false) (hgen : scope.isGenerator = false) (hk : scope.kind = .function)
    (hcell : ∀ x ∈ scope.names, x.2 ≠ .cell) : codeAny (model prog w) A (.call (.ref f) args) R s := by
  have N : News h₀ L s.heap [] := News.nil
  obtain ⟨FG, BG, st, lv⟩ := groundX (R := fun r s' => (∀ b o, s.heap.get? b = some o → s'.heap.get? b = some o) → R r s') B F N hA hf hke
  have hK : K.In s.heap := X₀.keeps F.keep
  refine codeAny_call_def (fd := fnOf name qual params body scope dV kV doc pm an cdv ct) (body := body) (binds := binds) hroom (hK _ _ ho) rfl (T.nolimit.keeps F.keep) (codeRec_of hK hcd) rfl hbind hcell hloc (fun h₁ hns hk₁ => ?_) hco hgen hk
  refine wpAny_mono (h s.heap.objs.size h₁ ⟨hns, hk₁, Nat.le_refl _⟩ News.nil BG hK (T.keeps F.keep)) (fun fl s' hl => lv _ _ hl ?_) fun _ _ y => y
  obtain ⟨L', m', news', F', _, _⟩ := hl
  exact F'.keep
end

/-- what is told of a call of a def of the text: from any place in a def -/
def Claim (dn : Nat) (w : World) (mean : ExcName → Option Value) (mg mb : Str → Option Value) (f : Addr) (vs : List Value) (Arg : Heap → Prop) (Post : Value → List (Addr × Obj) → Prop) : Prop :=
  ∀ (dp un : Nat) (gd : Option (List Code)) (cn : Str) (cs : Scope) (a : Addr) (ccd : Value) (cl : List (Str × Addr)) (outer : List Env) (A₀ : Around) (base h₀ : Heap) (L : Addr) (m : Str → Option Value) (s : Shared) (Q E : Value → Shared → Prop),
    Below A₀ base outer h₀ → Fr h₀ L s.heap m → (hd.heap_39 w.params).In h₀ → Top hd.view_39 (looseW hd.view_39 []) mean mg mb h₀ → cs.kind = .function → Arg s.heap →
    dp + dn < recursionLimit → un + 8 * dn < cLine →
    (∀ (v : Value) (h' : Heap) (tk' : Nat) (nw : List (Addr × Obj)), Post v nw → Fr h₀ L h' m → News s.heap L h' nw → (∀ b o, s.heap.get? b = some o → h'.get? b = some o) → Q v { s with heap := h', toks := tk' }) →
      wpAny (model Challenge.rw_pe0105_01.row.prog w) (ktrTop dp un gd cn cs L a ccd cl outer) (call (.ref f) vs) Q E s

theorem Claim.use {dn : Nat} {w : World} {mean : ExcName → Option Value} {mg mb : Str → Option Value} {f : Addr} {vs : List Value} {Arg : Heap → Prop} {Post : Value → List (Addr × Obj) → Prop} (C : Claim dn w mean mg mb f vs Arg Post)
    {dp un : Nat} {gd : Option (List Code)} {cn : Str} {cs : Scope} {a : Addr} {ccd : Value} {cl : List (Str × Addr)} {outer : List Env} {A₀ : Around} {base h₀ : Heap} {L : Addr} {m : Str → Option Value} {s : Shared} {Q E : Value → Shared → Prop}
    (B : Below A₀ base outer h₀) (F : Fr h₀ L s.heap m) (X : (hd.heap_39 w.params).In h₀) (T : Top hd.view_39 (looseW hd.view_39 []) mean mg mb h₀) (hk : cs.kind = .function) (ha : Arg s.heap) (hdp : dp + dn < recursionLimit) (hun : un + 8 * dn < cLine)
    (ret : ∀ (v : Value) (h' : Heap) (tk' : Nat) (nw : List (Addr × Obj)), Post v nw → Fr h₀ L h' m → News s.heap L h' nw → (∀ b o, s.heap.get? b = some o → h'.get? b = some o) → Q v { s with heap := h', toks := tk' }) :
    wpAny (model Challenge.rw_pe0105_01.row.prog w) (ktrTop dp un gd cn cs L a ccd cl outer) (call (.ref f) vs) Q E s := C dp un gd cn cs a ccd cl outer A₀ base h₀ L m s Q E B F X T hk ha hdp hun ret
end Mine

-- part Defs
namespace Mine
open PySem.Calls PySem.Spec

/-- a text by its signs' numbers -/
def S (l : List Nat) : Str := ⟨l.toArray⟩
theorem S_len (l : List Nat) : (S l).length = l.length := by simp [S, Str.length]
theorem S_inj {a b : List Nat} : S a = S b ↔ a = b := by
  constructor
  · intro h
    have := congrArg (fun x => x.cps.toList) h
    simpa [S] using this
  · rintro rfl; rfl
theorem S_beq (a b : List Nat) : (S a == S b) = decide (a = b) := by
  by_cases h : a = b
  · subst h; simp
  · simp [h]
    intro e
    exact h (S_inj.mp e)
theorem S_add (a b : List Nat) : S a ++ S b = S (a ++ b) := by
  refine Str.ext' ?_
  rw [Str.cps_append]
  simp [S]
def sub (c d : Nat) : Nat := if c = d then 0 else if (c = 97 ∧ d = 65) ∨ (c = 65 ∧ d = 97) ∨ (c = 98 ∧ d = 66) ∨ (c = 66 ∧ d = 98) then 1 else 2
def Sign (c : Nat) : Prop := c = 97 ∨ c = 65 ∨ c = 98 ∨ c = 66 ∨ c = 44 ∨ c = 34 ∨ c = 92 ∨ c = 32
def lowr (c : Nat) : Nat := if c = 65 then 97 else if c = 66 then 98 else c
theorem lower_S {c : Nat} (h : Sign c) : Txt.lower (S [c]) = S [lowr c] := by
  rcases h with rfl | rfl | rfl | rfl | rfl | rfl | rfl | rfl <;> decide +kernel
theorem sub_low {c d : Nat} (hc : Sign c) (hd : Sign d) : sub c d = if c = d then 0 else if lowr c = lowr d then 1 else 2 := by
  rcases hc with rfl | rfl | rfl | rfl | rfl | rfl | rfl | rfl <;> rcases hd with rfl | rfl | rfl | rfl | rfl | rfl | rfl | rfl <;> decide
theorem sub_le (c d : Nat) : sub c d ≤ 2 := by unfold sub; split <;> (try split) <;> omega
theorem sub_self (c : Nat) : sub c c = 0 := by simp [sub]
theorem sub_comm (c d : Nat) : sub c d = sub d c := by
  unfold sub
  by_cases h : c = d
  · simp [h]
  · have h' : ¬ d = c := fun e => h e.symm
    simp only [h, h', if_false]
    congr 1
    apply propext
    omega

theorem news_out {h₀ g h' : Heap} {L L' : Addr} {m : Str → Option Value} {nw : List (Addr × Obj)} (F : Fr h₀ L g m) (N : News g L' h' nw) : News g L h' nw := fun p hp => by
  refine ⟨(N p hp).1, fun q => ?_, (N p hp).2.2⟩
  obtain ⟨o, _, _, e, _⟩ := F.ns
  have := (N p hp).2.2
  rw [q, e] at this
  cases this
end Mine

-- part Loops
namespace Mine
open PySem.Calls PySem.Spec

/-- a loop's turn has come to its end -/
def LEnd (h₀ : Heap) (L : Addr) (J : (Str → Option Value) → List (Addr × Obj) → Prop) (I : Addr) (oI : Obj) (s₁ s₂ : Shared) : Prop :=
  ∃ h' tk m' news', s₂ = { s₁ with heap := h', toks := tk } ∧ Fr h₀ L h' m' ∧ News h₀ L h' ((I, oI) :: news') ∧ (∀ p ∈ news', p.1 ≠ I) ∧ J m' news'
def LPost (h₀ : Heap) (L : Addr) (J : (Str → Option Value) → List (Addr × Obj) → Prop) (I : Addr) (oI : Obj) (s₁ : Shared) (Q : Flow → Shared → Prop) (f : Flow) (s₂ : Shared) : Prop :=
  match f with
  | .ret v => Q (.ret v) s₂
  | .brk => Q .next s₂
  | _ => LEnd h₀ L J I oI s₁ s₂
theorem LEnd.mk' {h₀ h' : Heap} {L I : Addr} {J : (Str → Option Value) → List (Addr × Obj) → Prop} {oI : Obj} {s₁ : Shared} {tk : Nat} {m' : Str → Option Value} {news' : List (Addr × Obj)}
    (F : Fr h₀ L h' m') (N : News h₀ L h' ((I, oI) :: news')) (off : ∀ p ∈ news', p.1 ≠ I) (hj : J m' news') : LEnd h₀ L J I oI s₁ { s₁ with heap := h', toks := tk } := ⟨h', tk, m', news', rfl, F, N, off, hj⟩

section
variable {prog : Program} {w : World} {A : Around} {E : Value → Shared → Prop} {s : Shared} {env : Env} {h₀ : Heap} {x : Str} {body : List Stmt} {Q : Flow → Shared → Prop}

theorem loop1 {I : Addr} {n : Nat} {P : Nat → Value → Prop} {St : Nat → Heap → Prop} {m₀ : Str → Option Value} {news : List (Addr × Obj)} (J : Nat → (Str → Option Value) → List (Addr × Obj) → Prop)
    (W : Walks prog w A I [I] [I] n P St) (hIo : ∀ i h, St i h → ∃ o, h.get? I = some o) (hLI : env.locals ≠ I) (hI0 : h₀.get? I = none) (hoff : ∀ p ∈ news, p.1 ≠ I) (hst : St 0 s.heap) (F : Fr h₀ env.locals s.heap m₀) (N : News h₀ env.locals s.heap news) (hj : J 0 m₀ news)
    (turn : ∀ i v m₁ news₁ h tk oI, i < n → P i v → J i m₁ news₁ → (∀ p ∈ news₁, p.1 ≠ I) → Fr h₀ env.locals h (fun y => if y = x then some v else m₁ y) → News h₀ env.locals h ((I, oI) :: news₁) →
      wpAny (model prog w) A (execs body env) (LPost h₀ env.locals (J (i + 1)) I oI { s with heap := h, toks := tk } Q) E { s with heap := h, toks := tk })
    (done : ∀ m₁ news₁ h tk, J n m₁ news₁ → Fr h₀ env.locals h m₁ → News h₀ env.locals h news₁ → Q .next { s with heap := h, toks := tk }) :
    LoopAtV prog w A h₀ env x body Q E (.ref I) s := by
  refine ⟨I, [I], [I], n, P, St, m₀, news, J, rfl, W, fun hm => hLI (List.mem_singleton.mp hm), ?_, ?_, hst, F, N, hj, ?_, ?_⟩
  · intro b hb
    rw [List.mem_singleton.mp hb]; exact hI0
  · intro p hp hI
    exact hoff p hp (List.mem_singleton.mp hI)
  · rintro i v m₁ news₁ s₁ own ⟨hh', tk', rfl⟩ hin hP hJ hoff₁ hown hat hhas hst' F₁ N₁
    obtain ⟨oI, hoI⟩ := hIo _ _ hst'
    have hone : ∀ p ∈ own, p = (I, oI) := fun p hp => by
      have h1 := List.mem_singleton.mp (hown p hp)
      have h2 := hat p hp
      rw [h1] at h2
      have h3 := h2.symm.trans hoI
      obtain ⟨a, o⟩ := p
      simp only at h1 h3
      rw [h1, Option.some.inj h3]
    have hmem : (I, oI) ∈ own := hhas I (List.mem_singleton.mpr rfl) hI0 oI hoI
    have N₂ : News h₀ env.locals hh' ((I, oI) :: news₁) := fun p hp => by
      rcases List.mem_cons.mp hp with rfl | hp
      · exact N₁ _ (List.mem_append_left _ hmem)
      · exact N₁ _ (List.mem_append_right _ hp)
    refine wpAny_mono (turn i v m₁ news₁ hh' tk' oI hin hP hJ (fun p hp e => hoff₁ p hp (List.mem_singleton.mpr e)) F₁ N₂) (fun f s₂ q => ?_) fun _ _ e => e
    have fin : LEnd h₀ env.locals (J (i + 1)) I oI { s with heap := hh', toks := tk' } s₂ → LoopStepU h₀ env.locals [I] own (J (i + 1)) { s with heap := hh', toks := tk' } .next s₂ := by
      rintro ⟨h', tk, m', news', e, F', N', off', hj'⟩
      refine ⟨rfl, h', tk, m', news', e, F', fun p hp => ?_, fun p hp hq => off' p hp (List.mem_singleton.mp hq), hj'⟩
      rcases List.mem_append.mp hp with hp | hp
      · rw [hone p hp]; exact N' _ (List.mem_cons_self)
      · exact N' _ (List.mem_cons_of_mem _ hp)
    cases f with
    | ret v => exact .ret q
    | brk => exact .brk q
    | next => exact .next (fin q)
    | cont => exact .cont (fin q)
  · rintro h' tk m' news' F' N' _ hJ
    exact done m' news' h' tk hJ F' N'

theorem for_range {r : Addr} {a₀ b₀ : Int} {t₀ u₀ v₀ : Tok} {n : Nat} {m₀ : Str → Option Value} {news : List (Addr × Obj)} (J : Nat → (Str → Option Value) → List (Addr × Obj) → Prop)
    (hh : A.handled = none) (hr : IsRange s.heap r a₀ b₀ 1 t₀ u₀ v₀) (hsmall : Builtin.Range.small a₀ b₀ 1 = true) (hn : Builtin.Range.rangeSize a₀ b₀ 1 = (n : Int)) (F : Fr h₀ env.locals s.heap m₀) (N : News h₀ env.locals s.heap news) (hj : J 0 m₀ news)
    (turn : ∀ i t m₁ news₁ h tk I oI, i < n → J i m₁ news₁ → (∀ p ∈ news₁, p.1 ≠ I) → Fr h₀ env.locals h (fun y => if y = x then some (.int (a₀ + (i : Int)) t) else m₁ y) → News h₀ env.locals h ((I, oI) :: news₁) →
      wpAny (model prog w) A (execs body env) (LPost h₀ env.locals (J (i + 1)) I oI { s with heap := h, toks := tk } Q) E { s with heap := h, toks := tk })
    (done : ∀ m₁ news₁ h tk, J n m₁ news₁ → Fr h₀ env.locals h m₁ → News h₀ env.locals h news₁ → Q .next { s with heap := h, toks := tk }) :
    wpAny (model prog w) A (pyIter (.ref r)) (fun it s₂ => LoopAtV prog w A h₀ env x body Q E it s₂) E s := by
  refine wpAny_pyIter_range hr hsmall ?_
  refine loop1 J (Walks.range hh s.heap.objs.size a₀ 1 n) (fun i h st => ⟨_, st⟩) (Nat.ne_of_lt F.ns.lt) (next_is_new F) (fun p hp => Nat.ne_of_lt (Heap.lt_size (N p hp).1)) (by show IsRangeIter _ _ _ _ _; rw [hn]; simpa using Heap.get?_push_size _ rfl) (F.push _) (fun p hp => ⟨Heap.get?_push_of_some _ (N p hp).1, (N p hp).2⟩) hj ?_ done
  rintro i v m₁ news₁ h tk oI hi ⟨t, rfl⟩ hJ off F₁ N₁
  have e1 : a₀ + (i : Int) * 1 = a₀ + (i : Int) := by omega
  rw [e1] at F₁
  exact turn i t m₁ news₁ h tk _ oI hi hJ off F₁ N₁

theorem for_str {l : List Nat} {tx : Tok} {m₀ : Str → Option Value} {news : List (Addr × Obj)} (J : Nat → (Str → Option Value) → List (Addr × Obj) → Prop)
    (hh : A.handled = none) (F : Fr h₀ env.locals s.heap m₀) (N : News h₀ env.locals s.heap news) (hj : J 0 m₀ news) (ha : ∀ c ∈ l, c < 128)
    (turn : ∀ i c t m₁ news₁ h tk I oI, l[i]? = some c → J i m₁ news₁ → (∀ p ∈ news₁, p.1 ≠ I) → Fr h₀ env.locals h (fun y => if y = x then some (.str (S [c]) t) else m₁ y) → News h₀ env.locals h ((I, oI) :: news₁) →
      wpAny (model prog w) A (execs body env) (LPost h₀ env.locals (J (i + 1)) I oI { s with heap := h, toks := tk } Q) E { s with heap := h, toks := tk })
    (done : ∀ m₁ news₁ h tk, J l.length m₁ news₁ → Fr h₀ env.locals h m₁ → News h₀ env.locals h news₁ → Q .next { s with heap := h, toks := tk }) :
    wpAny (model prog w) A (pyIter (.str (S l) tx)) (fun it s₂ => LoopAtV prog w A h₀ env x body Q E it s₂) E s := by
  have hasc : (S l).cps.all (· < 128) = true := by simpa [S] using ha
  refine wpAny_pyIter_ascii hasc ?_
  have hsz : (S l).cps.size = l.length := by simp [S]
  have W := Walks.strAscii (prog := prog) (w := w) hh s.heap.objs.size (S l) tx
  rw [hsz] at W
  refine loop1 J W (fun i h st => by obtain ⟨o, e, _⟩ := st; exact ⟨o, e⟩) (Nat.ne_of_lt F.ns.lt) (next_is_new F) (fun p hp => Nat.ne_of_lt (Heap.lt_size (N p hp).1)) ⟨_, Heap.get?_push_size _ rfl, rfl, rfl⟩ (F.push _) (fun p hp => ⟨Heap.get?_push_of_some _ (N p hp).1, (N p hp).2⟩) hj ?_ done
  rintro i v m₁ news₁ h tk oI hi ⟨c, t, hc, rfl⟩ hJ off F₁ N₁
  exact turn i c t m₁ news₁ h tk _ oI (by simpa [S] using hc) hJ off F₁ N₁

theorem for_strX {X : Str} {l : List Nat} {tx : Tok} {m₀ : Str → Option Value} {news : List (Addr × Obj)} (J : Nat → (Str → Option Value) → List (Addr × Obj) → Prop) (hX : X = S l)
    (hh : A.handled = none) (F : Fr h₀ env.locals s.heap m₀) (N : News h₀ env.locals s.heap news) (hj : J 0 m₀ news) (ha : ∀ c ∈ l, c < 128)
    (turn : ∀ i c t m₁ news₁ h tk I oI, l[i]? = some c → J i m₁ news₁ → (∀ p ∈ news₁, p.1 ≠ I) → Fr h₀ env.locals h (fun y => if y = x then some (.str (S [c]) t) else m₁ y) → News h₀ env.locals h ((I, oI) :: news₁) →
      wpAny (model prog w) A (execs body env) (LPost h₀ env.locals (J (i + 1)) I oI { s with heap := h, toks := tk } Q) E { s with heap := h, toks := tk })
    (done : ∀ m₁ news₁ h tk, J l.length m₁ news₁ → Fr h₀ env.locals h m₁ → News h₀ env.locals h news₁ → Q .next { s with heap := h, toks := tk }) :
    wpAny (model prog w) A (pyIter (.str X tx)) (fun it s₂ => LoopAtV prog w A h₀ env x body Q E it s₂) E s := by
  subst hX
  exact for_str J hh F N hj ha turn done

/-- a frame's map with a name known -/
abbrev kn (y : Str) (v : Value) (m : Str → Option Value) : Str → Option Value := fun z => if z = y then some v else m z
theorem kn_eq {m m₂ : Str → Option Value} {y : Str} {v : Value} (e : m y = some v) (h : m = m₂) : m = kn y v m₂ := by
  subst h
  funext z
  show m z = if z = y then some v else m z
  by_cases hz : z = y
  · rw [if_pos hz, hz, e]
  · rw [if_neg hz]
theorem fr_as {L : Addr} {h : Heap} {m m₂ : Str → Option Value} (F : Fr h₀ L h m) (e : m = m₂) : Fr h₀ L h m₂ := e ▸ F
/-- what is known of a name may stand ahead -/
theorem fr_known {L : Addr} {h : Heap} {m : Str → Option Value} (y : Str) (v : Value) (e : m y = some v) (F : Fr h₀ L h m) : Fr h₀ L h (fun z => if z = y then some v else m z) := by
  have em : (fun z => if z = y then some v else m z) = m := by
    funext z
    by_cases hz : z = y
    · rw [if_pos hz, hz, e]
    · rw [if_neg hz]
  rw [em]; exact F

theorem kstB_self {m : Str → Option Value} {ps : List (Str × Value)} (h : ∀ p ∈ ps, m p.1 = some p.2) : kstB m ps = m := by
  funext z
  exact kstB_eq h fun _ => rfl
/-- the names of a list are known: they stand ahead, x first -/
theorem fr_names {L : Addr} {h : Heap} {m : Str → Option Value} {v : Value} {ps : List (Str × Value)} (e : ∀ p ∈ ps, m p.1 = some p.2) (F : Fr h₀ L h (fun z => if z = x then some v else m z)) : Fr h₀ L h (fun z => if z = x then some v else kstB m ps z) := by
  rw [kstB_self e]; exact F
theorem fr_names0 {L : Addr} {h : Heap} {m : Str → Option Value} {ps : List (Str × Value)} (e : ∀ p ∈ ps, m p.1 = some p.2) (F : Fr h₀ L h m) : Fr h₀ L h (kstB m ps) := by
  rw [kstB_self e]; exact F
end
end Mine

-- part Plain
namespace Mine
open PySem.Calls PySem.Spec

/-- the price of turning a text into another: 2 a sign put in or left out, 0, 1 or 2 a pair -/
def ED : List Nat → List Nat → Nat
  | [], b => 2 * b.length
  | x :: a, [] => 2 * (a.length + 1)
  | x :: a, y :: b => min (ED a b + sub x y) (min (ED a (y :: b)) (ED (x :: a) b) + 2)
termination_by a b => a.length + b.length

theorem ED_nil_left (b : List Nat) : ED [] b = 2 * b.length := by rw [ED]
theorem ED_nil_right (a : List Nat) : ED a [] = 2 * a.length := by
  cases a with
  | nil => rw [ED]
  | cons x a => rw [ED]; rfl
theorem ED_cons (x y : Nat) (a b : List Nat) : ED (x :: a) (y :: b) = min (ED a b + sub x y) (min (ED a (y :: b)) (ED (x :: a) b) + 2) := by rw [ED]

inductive Al : List Nat → List Nat → Nat → Prop where
  | nil : Al [] [] 0
  | del {a b : List Nat} {n : Nat} (x : Nat) : Al a b n → Al (x :: a) b (n + 2)
  | ins {a b : List Nat} {n : Nat} (y : Nat) : Al a b n → Al a (y :: b) (n + 2)
  | sb {a b : List Nat} {n : Nat} (x y : Nat) : Al a b n → Al (x :: a) (y :: b) (n + sub x y)

theorem Al.cast {a b : List Nat} {n k : Nat} (h : Al a b n) (e : n = k) : Al a b k := e ▸ h
theorem Al_left : ∀ b : List Nat, Al [] b (2 * b.length)
  | [] => .nil
  | y :: b => (Al.ins y (Al_left b)).cast (by simp only [List.length_cons]; omega)
theorem Al_right : ∀ a : List Nat, Al a [] (2 * a.length)
  | [] => .nil
  | x :: a => (Al.del x (Al_right a)).cast (by simp only [List.length_cons]; omega)
theorem Al_ED (a b : List Nat) : Al a b (ED a b) := by
  match a, b with
  | [], b => rw [ED_nil_left]; exact Al_left b
  | x :: a, [] => rw [ED_nil_right]; exact Al_right _
  | x :: a, y :: b =>
    rw [ED_cons]
    have h1 := Al.sb x y (Al_ED a b)
    have h2 := Al.del x (Al_ED a (y :: b))
    have h3 := Al.ins y (Al_ED (x :: a) b)
    by_cases c1 : ED a b + sub x y ≤ min (ED a (y :: b)) (ED (x :: a) b) + 2
    · exact h1.cast (by omega)
    · by_cases c2 : ED a (y :: b) ≤ ED (x :: a) b
      · exact h2.cast (by omega)
      · exact h3.cast (by omega)
termination_by a.length + b.length
theorem ED_del (x : Nat) (a b : List Nat) : ED (x :: a) b ≤ ED a b + 2 := by
  cases b with
  | nil => rw [ED_nil_right, ED_nil_right, List.length_cons]; omega
  | cons y b => rw [ED_cons]; omega
theorem ED_ins (y : Nat) (a b : List Nat) : ED a (y :: b) ≤ ED a b + 2 := by
  cases a with
  | nil => rw [ED_nil_left, ED_nil_left, List.length_cons]; omega
  | cons x a => rw [ED_cons]; omega
theorem ED_le {a b : List Nat} {n : Nat} (h : Al a b n) : ED a b ≤ n := by
  induction h with
  | nil => rw [ED_nil_left]; simp
  | del x _ ih => exact Nat.le_trans (ED_del x _ _) (by omega)
  | ins y _ ih => exact Nat.le_trans (ED_ins y _ _) (by omega)
  | sb x y _ ih => rw [ED_cons]; omega

theorem Al_del' {a b : List Nat} {n : Nat} (x : Nat) (h : Al a b n) : Al (a ++ [x]) b (n + 2) := by
  induction h with
  | nil => exact .del x .nil
  | del z _ ih => exact (Al.del z ih).cast (by omega)
  | ins z _ ih => exact (Al.ins z ih).cast (by omega)
  | sb z u _ ih => exact (Al.sb z u ih).cast (by omega)
theorem Al_ins' {a b : List Nat} {n : Nat} (y : Nat) (h : Al a b n) : Al a (b ++ [y]) (n + 2) := by
  induction h with
  | nil => exact .ins y .nil
  | del z _ ih => exact (Al.del z ih).cast (by omega)
  | ins z _ ih => exact (Al.ins z ih).cast (by omega)
  | sb z u _ ih => exact (Al.sb z u ih).cast (by omega)
theorem Al_sb' {a b : List Nat} {n : Nat} (x y : Nat) (h : Al a b n) : Al (a ++ [x]) (b ++ [y]) (n + sub x y) := by
  induction h with
  | nil => exact .sb x y .nil
  | del z _ ih => exact (Al.del z ih).cast (by omega)
  | ins z _ ih => exact (Al.ins z ih).cast (by omega)
  | sb z u _ ih => exact (Al.sb z u ih).cast (by omega)
theorem Al_rev {a b : List Nat} {n : Nat} (h : Al a b n) : Al a.reverse b.reverse n := by
  induction h with
  | nil => exact .nil
  | del z _ ih => rw [List.reverse_cons]; exact Al_del' z ih
  | ins z _ ih => rw [List.reverse_cons]; exact Al_ins' z ih
  | sb z u _ ih => rw [List.reverse_cons, List.reverse_cons]; exact Al_sb' z u ih
theorem Al_symm {a b : List Nat} {n : Nat} (h : Al a b n) : Al b a n := by
  induction h with
  | nil => exact .nil
  | del z _ ih => exact .ins z ih
  | ins z _ ih => exact .del z ih
  | sb z u _ ih => rw [sub_comm]; exact .sb u z ih
theorem ED_comm (a b : List Nat) : ED a b = ED b a := Nat.le_antisymm (ED_le (Al_symm (Al_ED b a))) (ED_le (Al_symm (Al_ED a b)))
theorem ED_rev (a b : List Nat) : ED a.reverse b.reverse = ED a b := by
  refine Nat.le_antisymm (ED_le (Al_rev (Al_ED a b))) (ED_le ?_)
  have := Al_rev (Al_ED a.reverse b.reverse)
  rwa [List.reverse_reverse, List.reverse_reverse] at this
theorem ED_snoc (x y : Nat) (a b : List Nat) : ED (a ++ [x]) (b ++ [y]) = min (ED a b + sub x y) (min (ED a (b ++ [y])) (ED (a ++ [x]) b) + 2) := by
  have e1 : ED (a ++ [x]) (b ++ [y]) = ED (x :: a.reverse) (y :: b.reverse) := by rw [← ED_rev]; simp
  have e2 : ED a (b ++ [y]) = ED a.reverse (y :: b.reverse) := by rw [← ED_rev]; simp
  have e3 : ED (a ++ [x]) b = ED (x :: a.reverse) b.reverse := by rw [← ED_rev]; simp
  rw [e1, e2, e3, ED_cons, ED_rev]

theorem Al_drop {x : Nat} {a' b : List Nat} {n : Nat} (h : Al a' b n) : ∀ a, a' = x :: a → ∃ k, k ≤ n + 2 ∧ Al a b k := by
  induction h with
  | nil => intro a e; cases e
  | del z h' ih => intro a e; cases e; exact ⟨_, by omega, h'⟩
  | ins z _ ih =>
    intro a e
    obtain ⟨k, hk, h⟩ := ih a e
    exact ⟨_, by omega, .ins z h⟩
  | sb z u h' ih => intro a e; cases e; exact ⟨_, by omega, .ins u h'⟩
theorem ED_drop (x : Nat) (a b : List Nat) : ED a b ≤ ED (x :: a) b + 2 := by
  obtain ⟨k, hk, h⟩ := Al_drop (Al_ED (x :: a) b) a rfl
  exact Nat.le_trans (ED_le h) hk
theorem ED_same (x : Nat) (a b : List Nat) : ED (x :: a) (x :: b) = ED a b := by
  rw [ED_cons, sub_self]
  have h1 := ED_drop x a b
  have h2 := ED_drop x b a
  rw [ED_comm b a, ED_comm (x :: b) a] at h2
  omega
theorem ED_same' (x : Nat) (a b : List Nat) : ED (a ++ [x]) (b ++ [x]) = ED a b := by
  rw [← ED_rev]
  simp only [List.reverse_append, List.reverse_cons, List.reverse_nil, List.nil_append, List.cons_append]
  rw [ED_same, ED_rev]
theorem ED_self (a : List Nat) : ED a a = 0 := by
  induction a with
  | nil => rw [ED_nil_left]; rfl
  | cons x a ih => rw [ED_same, ih]
theorem ED_snoc_le (x : Nat) (a b : List Nat) : ED (a ++ [x]) b ≤ ED a b + 2 := by
  rw [← ED_rev (a ++ [x]) b, List.reverse_append, ← ED_rev a b]
  exact ED_del x _ _

/-- what is saved, by the word's first k signs -/
def savedAt (kept word : List Nat) (k : Nat) : Int := 2 * ((kept.length : Int) + k) - (ED kept (word.take k) : Int)
def savedOf (kept word : List Nat) : List Int := (List.range (word.length + 1)).map (savedAt kept word)
theorem savedOf_len (kept word : List Nat) : (savedOf kept word).length = word.length + 1 := by simp [savedOf]
theorem savedOf_at {kept word : List Nat} {k : Nat} (h : k ≤ word.length) : (savedOf kept word)[k]? = some (savedAt kept word k) := by
  have : k < word.length + 1 := by omega
  simp [savedOf, this]
theorem savedAt_nil {word : List Nat} {k : Nat} (h : k ≤ word.length) : savedAt [] word k = 0 := by
  unfold savedAt
  rw [ED_nil_left, List.length_take]
  simp only [List.length_nil]
  omega
theorem savedOf_nil (word : List Nat) : savedOf [] word = List.replicate (word.length + 1) 0 := by
  apply List.ext_getElem?
  intro i
  by_cases h : i ≤ word.length
  · rw [savedOf_at h, savedAt_nil h, List.getElem?_replicate, if_pos (by omega)]
  · rw [List.getElem?_eq_none (by rw [savedOf_len]; omega), List.getElem?_eq_none (by simp; omega)]
theorem savedAt_zero (kept word : List Nat) : savedAt kept word 0 = 0 := by
  unfold savedAt
  rw [List.take_zero, ED_nil_right]
  omega
theorem take_snoc {word : List Nat} {k c : Nat} (h : word[k]? = some c) : word.take (k + 1) = word.take k ++ [c] := by
  rw [List.take_add_one, h]; rfl
theorem savedAt_step {kept word : List Nat} {k c d : Nat} (h : word[k]? = some d) :
    savedAt (kept ++ [c]) word (k + 1) = max (savedAt kept word k + (4 - (sub d c : Int))) (max (savedAt kept word (k + 1)) (savedAt (kept ++ [c]) word k)) := by
  unfold savedAt
  rw [take_snoc h, ED_snoc, sub_comm c d, List.length_append, List.length_singleton]
  omega
theorem savedAt_price (kept word : List Nat) : 2 * ((kept.length : Int) + word.length) - savedAt kept word word.length = (ED kept word : Int) := by
  unfold savedAt
  rw [List.take_length]
  omega
end Mine

-- part Plain2
namespace Mine
open PySem.Calls PySem.Spec

theorem Al_lens {a b : List Nat} {n : Nat} (h : Al a b n) : 2 * b.length ≤ n + 2 * a.length := by
  induction h with
  | nil => simp
  | del x _ ih => simp only [List.length_cons]; omega
  | ins y _ ih => simp only [List.length_cons]; omega
  | sb x y _ ih => simp only [List.length_cons]; omega
theorem ED_lens (a b : List Nat) : 2 * b.length ≤ ED a b + 2 * a.length := Al_lens (Al_ED a b)

theorem Al_split {b a : List Nat} {n : Nat} (h : Al b a n) : ∀ b1 b2, b = b1 ++ b2 → ∃ a1 a2 k, a = a1 ++ a2 ∧ k ≤ n ∧ Al b1 a1 k := by
  induction h with
  | nil =>
    intro b1 b2 e
    have := List.append_eq_nil_iff.mp e.symm
    rw [this.1]
    exact ⟨[], [], 0, rfl, Nat.le_refl _, .nil⟩
  | @del a' b' n' x h' ih =>
    intro b1 b2 e
    cases b1 with
    | nil => exact ⟨[], _, 0, rfl, Nat.zero_le _, .nil⟩
    | cons z b1 =>
      simp only [List.cons_append, List.cons.injEq] at e
      obtain ⟨rfl, e⟩ := e
      obtain ⟨a1, a2, k, e2, hk, hA⟩ := ih b1 b2 e
      exact ⟨a1, a2, k + 2, e2, by omega, .del _ hA⟩
  | @ins a' b' n' y h' ih =>
    intro b1 b2 e
    obtain ⟨a1, a2, k, e2, hk, hA⟩ := ih b1 b2 e
    exact ⟨y :: a1, a2, k + 2, by rw [e2]; rfl, by omega, .ins _ hA⟩
  | @sb a' b' n' x y h' ih =>
    intro b1 b2 e
    cases b1 with
    | nil => exact ⟨[], _, 0, rfl, Nat.zero_le _, .nil⟩
    | cons z b1 =>
      simp only [List.cons_append, List.cons.injEq] at e
      obtain ⟨rfl, e⟩ := e
      obtain ⟨a1, a2, k, e2, hk, hA⟩ := ih b1 b2 e
      exact ⟨y :: a1, a2, k + sub x y, by rw [e2]; rfl, by omega, .sb _ _ hA⟩
theorem ED_bail {a b : List Nat} {i : Nat} {mx : Int} (hi : i < b.length) (ha : 0 < a.length) (h : ∀ j, j < a.length → mx < (ED (b.take (i + 1)) (a.take (j + 1)) : Int)) : mx + 1 ≤ (ED b a : Int) := by
  obtain ⟨a1, a2, k, e, hk, hA⟩ := Al_split (Al_ED b a) (b.take (i + 1)) (b.drop (i + 1)) (List.take_append_drop _ _).symm
  have h1 := ED_le hA
  have hlen : a.length = a1.length + a2.length := by rw [e, List.length_append]
  have ha1 : a1 = a.take a1.length := by rw [e]; simp
  cases hn : a1.length with
  | zero =>
    have hz : a1 = [] := List.length_eq_zero_iff.mp hn
    rw [hz, ED_nil_right] at h1
    obtain ⟨c, hc⟩ : ∃ c, b[i]? = some c := ⟨_, List.getElem?_eq_getElem hi⟩
    obtain ⟨d, hd⟩ : ∃ d, a[0]? = some d := ⟨_, List.getElem?_eq_getElem ha⟩
    have h2 := h 0 ha
    rw [take_snoc hc, take_snoc hd, ED_snoc, List.take_zero, ED_nil_right] at h2
    have h3 := sub_le c d
    rw [take_snoc hc, List.length_append, List.length_singleton] at h1
    omega
  | succ n =>
    have h2 := h n (by omega)
    rw [← hn, ← ha1] at h2
    omega

def rowAt (a b : List Nat) (i j k : Nat) : Int := if k < j then (ED (b.take (i + 1)) (a.take (k + 1)) : Int) else (ED (b.take i) (a.take (k + 1)) : Int)
def rowMid (a b : List Nat) (i j : Nat) : List Int := (List.range a.length).map (rowAt a b i j)
theorem rowMid_len (a b : List Nat) (i j : Nat) : (rowMid a b i j).length = a.length := by simp [rowMid]
theorem rowMid_at {a b : List Nat} {i j k : Nat} (h : k < a.length) : (rowMid a b i j)[k]? = some (rowAt a b i j k) := by simp [rowMid, h]
theorem rowMid_next (a b : List Nat) (i : Nat) : rowMid a b i a.length = rowMid a b (i + 1) 0 := by
  apply List.ext_getElem?
  intro k
  by_cases h : k < a.length
  · rw [rowMid_at h, rowMid_at h]
    simp [rowAt, h]
  · rw [List.getElem?_eq_none (by rw [rowMid_len]; omega), List.getElem?_eq_none (by rw [rowMid_len]; omega)]
theorem rowMid_set {a b : List Nat} {i j : Nat} (hj : j < a.length) : (rowMid a b i j).set j (ED (b.take (i + 1)) (a.take (j + 1)) : Int) = rowMid a b i (j + 1) := by
  apply List.ext_getElem?
  intro k
  rw [List.getElem?_set]
  by_cases h : k < a.length
  · rw [rowMid_at h, rowMid_at h]
    by_cases hk : j = k
    · subst hk
      rw [if_pos rfl, if_pos (by rw [rowMid_len]; exact h)]
      simp [rowAt]
    · rw [if_neg hk]
      unfold rowAt
      by_cases h1 : k < j
      · rw [if_pos h1, if_pos (by omega)]
      · rw [if_neg h1, if_neg (by omega)]
  · rw [List.getElem?_eq_none (l := rowMid a b i (j + 1)) (by rw [rowMid_len]; omega)]
    by_cases hk : j = k
    · omega
    · rw [if_neg hk, List.getElem?_eq_none (by rw [rowMid_len]; omega)]
theorem rowMid_start (a b : List Nat) : rowMid a b 0 0 = (List.range a.length).map fun k => ((2 * (k + 1) : Nat) : Int) := by
  apply List.ext_getElem?
  intro k
  by_cases h : k < a.length
  · rw [rowMid_at h]
    simp [rowAt, h, ED_nil_left]
    omega
  · rw [List.getElem?_eq_none (by rw [rowMid_len]; omega), List.getElem?_eq_none (by simp; omega)]
def resAt (a b : List Nat) (i j : Nat) : Int := if j = 0 then 2 * (i : Int) else (ED (b.take (i + 1)) (a.take j) : Int)
theorem cell_step {a b : List Nat} {i j c d : Nat} (hc : b[i]? = some c) (hd : a[j]? = some d) :
    min (min (resAt a b i j) (ED (b.take i) (a.take (j + 1)) : Int) + 2) ((ED (b.take i) (a.take j) : Int) + (sub c d : Int)) = (ED (b.take (i + 1)) (a.take (j + 1)) : Int) := by
  have hi := (List.getElem?_eq_some_iff.mp hc).1
  rw [take_snoc hc, take_snoc hd, ED_snoc]
  unfold resAt
  have h3 := sub_le c d
  split
  · rename_i h0
    subst h0
    rw [List.take_zero, ED_nil_right, ED_nil_right, List.length_append, List.length_singleton, List.length_take]
    omega
  · rw [take_snoc hc]
    omega
theorem resAt_zero (a b : List Nat) (i : Nat) : resAt a b i 0 = 2 * (i : Int) := rfl
theorem resAt_succ (a b : List Nat) (i j : Nat) : resAt a b i (j + 1) = (ED (b.take (i + 1)) (a.take (j + 1)) : Int) := by
  unfold resAt; rw [if_neg (by omega)]
end Mine

-- part Rules
namespace Mine
open PySem.Calls PySem.Spec

theorem S_toList (l : List Nat) : (S l).cps.toList = l := by simp [S]
theorem slice_S_from {l : List Nat} {k : Int} (h0 : 0 ≤ k) (h1 : k ≤ l.length) : Txt.slice (S l) (some k) none = S (l.drop k.toNat) := by
  have := StrLaws.sliceText_from (x := S l) (i := k) ⟨h0, by rw [S_toList]; exact h1⟩
  refine Eq.trans this ?_
  rw [S_toList]
  show Str.mk _ = Str.mk _
  congr 2
  exact List.take_of_length_le (by rw [List.length_drop]; omega)
theorem slice_S_to_neg {l : List Nat} {j : Int} (h0 : j < 0) (h1 : -j ≤ l.length) : Txt.slice (S l) none (some j) = S (l.take (l.length - (-j).toNat)) := by
  rw [slice_to_neg h0]
  have := StrLaws.sliceText_to (x := S l) (j := max 0 (((S l).length : Int) + j)) ⟨by omega, by rw [S_toList, S_len]; omega⟩
  refine Eq.trans this ?_
  rw [S_toList, List.drop_zero]
  show Str.mk _ = Str.mk _
  congr 2
  rw [S_len]
  congr 1
  omega
theorem slice_S_all (l : List Nat) : Txt.slice (S l) none none = S l := by
  have e : StrLaws.sliceText (S l) none none = StrLaws.sliceText (S l) (some 0) none := by
    unfold StrLaws.sliceText
    rw [StrLaws.sliceIdx_none_lo]
  refine Eq.trans e (Eq.trans (slice_S_from (k := 0) (by omega) (by omega)) ?_)
  simp
theorem item_S_at {l : List Nat} {i : Int} {c : Nat} (h0 : 0 ≤ i) (hc : l[i.toNat]? = some c) : Txt.item (S l) i = S [c] := by
  rw [PyProof.Rows.item_meets h0 (n := c) (by simpa [S] using hc)]
  rfl
theorem item_S_neg {l : List Nat} {i : Int} {c : Nat} (h0 : i < 0) (h1 : -(l.length : Int) ≤ i) (hc : l[(i + l.length).toNat]? = some c) : Txt.item (S l) i = S [c] := by
  unfold Txt.item Txt.charAt
  have e : seqIndex? i (S l).length = some (i + l.length).toNat := by
    rw [S_len]
    unfold seqIndex?
    simp only [h0, if_true]
    rw [if_pos (by simp; omega)]
  rw [e]
  simp only [Option.bind_some]
  have : (S l).cps[(i + l.length).toNat]? = some c := by simpa [S] using hc
  rw [this]
  rfl

section
variable {prog : Program} {w : World} {A : Around} {E : Value → Shared → Prop} {s : Shared} {value slice : PySem.Expr} {Q : Value → Shared → Prop} {u t : Tok}
theorem r_item_ints {l : Addr} {vs : List Value} {ns : List Int} {k n : Int} (hl : s.heap.IsList l vs.toArray) (hi : IntsAre vs ns) (h0 : 0 ≤ k) (hhi : k < 2 ^ 63) (hx : ns[k.toNat]? = some n) (h : ∀ t, Q (.int n t) s)
    (hs : subscripted slice false (.ref l) (.int k u) = operate [.ref l, .int k u] (getItem (.ref l) (.int k u)) := by with_unfolding_all rfl) :
    wpAny (model prog w) A (subscriptTail value slice (.ref l) (.int k u)) Q E s := by
  obtain ⟨t, ht⟩ := hi.get _ _ hx
  exact tail_any hl.typeIs slot_list_getitem.lookup (wpAny_getItem_list hl h0 hhi (by simpa using ht) (h t)) hs
theorem r_item_S {l : List Nat} {i : Int} {c : Nat} (h0 : 0 ≤ i) (hc : l[i.toNat]? = some c) (hn : l.length ≤ 1000) (h : ∀ t k, Q (.str (S [c]) t) { s with toks := k })
    (hs : subscripted slice false (.str (S l) t) (.int i u) = operate [.str (S l) t, .int i u] (getItem (.str (S l) t) (.int i u)) := by with_unfolding_all rfl)
    (ht : ∀ r, letTemporaryGo value (.str (S l) t) r = pure () := by intro _; with_unfolding_all rfl) :
    wpAny (model prog w) A (subscriptTail value slice (.str (S l) t) (.int i u)) Q E s := by
  have hlt := (List.getElem?_eq_some_iff.mp hc).1
  refine KXi.item (n := l.length) (S_len l) (by omega) (by omega) (by omega) (fun _ => ?_) hs ht
  rw [item_S_at h0 hc]
  exact h _ _
theorem r_item_Sneg {l : List Nat} {i : Int} {c : Nat} (h0 : i < 0) (h1 : -(l.length : Int) ≤ i) (hc : l[(i + l.length).toNat]? = some c) (hn : l.length ≤ 1000) (h : ∀ t k, Q (.str (S [c]) t) { s with toks := k })
    (hs : subscripted slice false (.str (S l) t) (.int i u) = operate [.str (S l) t, .int i u] (getItem (.str (S l) t) (.int i u)) := by with_unfolding_all rfl)
    (ht : ∀ r, letTemporaryGo value (.str (S l) t) r = pure () := by intro _; with_unfolding_all rfl) :
    wpAny (model prog w) A (subscriptTail value slice (.str (S l) t) (.int i u)) Q E s := by
  refine KXi.item (n := l.length) (S_len l) (by omega) (by omega) (by omega) (fun _ => ?_) hs ht
  rw [item_S_neg h0 h1 hc]
  exact h _ _

theorem r_max3 {h₀ : Heap} {L : Addr} {m : Str → Option Value} {news : List (Addr × Obj)} {a b c : Int} {t u x : Tok} (hh : A.handled = none) (F : Fr h₀ L s.heap m) (N : News h₀ L s.heap news)
    (h : ∀ t h' tk, Fr h₀ L h' m → News h₀ L h' news → Q (.int (max a (max b c)) t) { s with heap := h', toks := tk }) :
    wpAny (model prog w) A (call (.builtin "max") [.int a t, .int b u, .int c x]) Q E s :=
  max_three_ints hh fun h' tk hk => by
    have F' := F.grownK hk
    have N' := N.grown hk
    split
    · split
      · have := h x h' tk F' N'; rwa [show max a (max b c) = c from by omega] at this
      · have := h u h' tk F' N'; rwa [show max a (max b c) = b from by omega] at this
    · split
      · have := h x h' tk F' N'; rwa [show max a (max b c) = c from by omega] at this
      · have := h t h' tk F' N'; rwa [show max a (max b c) = a from by omega] at this

theorem r_item_last {l : Addr} {vs : List Value} {ns : List Int} {n : Int} (hl : s.heap.IsList l vs.toArray) (hi : IntsAre vs ns) (hx : ns[ns.length - 1]? = some n) (h : ∀ t, Q (.int n t) s)
    (hs : subscripted slice false (.ref l) (.int (-1) u) = operate [.ref l, .int (-1) u] (getItem (.ref l) (.int (-1) u)) := by with_unfolding_all rfl) :
    wpAny (model prog w) A (subscriptTail value slice (.ref l) (.int (-1) u)) Q E s := by
  obtain ⟨t, ht⟩ := hi.get _ _ hx
  have hlen := hi.length
  have hlt := (List.getElem?_eq_some_iff.mp hx).1
  have hsz : vs.toArray.size = ns.length := by rw [List.size_toArray, hlen]
  refine tail_any hl.typeIs slot_list_getitem.lookup (wpAny_getItem_list_neg hl (by omega) (by omega) (by omega) ?_ (h t)) hs
  rw [show ((-1 : Int) + (vs.toArray.size : Int)).toNat = ns.length - 1 from by omega]
  simpa using ht

/-- a ledger but for one place -/
def but (D : Addr) (news : List (Addr × Obj)) : List (Addr × Obj) := news.filter fun p => decide (p.1 ≠ D)
theorem mem_but {D a : Addr} {o : Obj} {news : List (Addr × Obj)} (h : (a, o) ∈ news) (hne : a ≠ D) : (a, o) ∈ but D news := List.mem_filter.mpr ⟨h, by simpa using hne⟩
theorem of_but {D : Addr} {p : Addr × Obj} {news : List (Addr × Obj)} (h : p ∈ but D news) : p ∈ news ∧ p.1 ≠ D := by
  have := List.mem_filter.mp h
  exact ⟨this.1, by simpa using this.2⟩
theorem r_append_any {h₀ : Heap} {L D : Addr} {m : Str → Option Value} {news : List (Addr × Obj)} {its : Array Value} {n : Nat} {x : Value} (F : Fr h₀ L s.heap m) (N : News h₀ L s.heap news) (hm : (D, PySem.W.listOf its n) ∈ news) (hsz : its.size ≤ sizeLine)
    (h : ∀ h', Fr h₀ L h' m → News h₀ L h' ((D, PySem.W.listOf (its.push x) (n + 1)) :: but D news) → Q .none { s with heap := h' }) :
    wpAny (model prog w) A (call (.builtin "list.append") [.ref D, x]) Q E s := by
  have z := N _ hm
  refine append_at (hsz := hsz) z.1 fun h' hs ho' => h h' (F.change hs z.2.1 z.2.2) fun p hp => ?_
  rcases List.mem_cons.mp hp with rfl | hp
  · exact ⟨ho', z.2⟩
  · obtain ⟨hp1, hp2⟩ := of_but hp
    exact ⟨(hs.2 _ hp2).trans (N p hp1).1, (N p hp1).2⟩
theorem mul_blank (g : Nat) : Txt.mul (S [32]) (g : Int) = S (List.replicate g 32) := by
  refine Str.ext' (Array.toList_inj.mp ?_)
  rw [S_toList]
  show (Txt.mul ⟨#[32]⟩ (g : Int)).cps.toList = _
  rw [mul_one_list]
  simp

section
variable {h₀ : Heap} {L : Addr} {m : Str → Option Value} {news : List (Addr × Obj)}
theorem r_slice_all {l : List Nat} (hF : Fr h₀ L s.heap m) (hN : News h₀ L s.heap news) (hn : l.length ≤ 1000) (h : ∀ h' t' k, Fr h₀ L h' m → News h₀ L h' news → Q (.str (S l) t') { s with heap := h', toks := k })
    (hs : subscripted slice false (.str (S l) t) (.ref s.heap.objs.size) = operate [.ref s.heap.objs.size, .str (S l) t] (getItem (.str (S l) t) (.ref s.heap.objs.size)) := by with_unfolding_all rfl)
    (ht : ∀ r, letTemporaryGo value (.str (S l) t) r = pure () := by intro _; with_unfolding_all rfl) :
    wpAny (model prog w) A (subscriptTail value slice (.str (S l) t) (.ref s.heap.objs.size)) Q E { s with heap := s.heap.push { cls := .type "slice", data := .fields #[.none, .none, .none] } } :=
  slice_strN_nn hF hN (fun h' t' k a b => by rw [slice_S_all]; exact h h' t' k a b) hs ht (by rw [S_len, PySem.sizeLine_eq]; omega)
theorem r_slice_neg {l : List Nat} {j : Int} {uj : Tok} (h0 : j < 0) (h1 : -j ≤ l.length) (hF : Fr h₀ L s.heap m) (hN : News h₀ L s.heap news) (hn : l.length ≤ 1000) (h : ∀ h' t' k, Fr h₀ L h' m → News h₀ L h' news → Q (.str (S (l.take (l.length - (-j).toNat))) t') { s with heap := h', toks := k })
    (hs : subscripted slice false (.str (S l) t) (.ref s.heap.objs.size) = operate [.ref s.heap.objs.size, .str (S l) t] (getItem (.str (S l) t) (.ref s.heap.objs.size)) := by with_unfolding_all rfl)
    (ht : ∀ r, letTemporaryGo value (.str (S l) t) r = pure () := by intro _; with_unfolding_all rfl) :
    wpAny (model prog w) A (subscriptTail value slice (.str (S l) t) (.ref s.heap.objs.size)) Q E { s with heap := s.heap.push { cls := .type "slice", data := .fields #[.none, .int j uj, .none] } } :=
  slice_strN_ns hF hN (fun h' t' k a b => by rw [slice_S_to_neg h0 h1]; exact h h' t' k a b) hs ht (by rw [S_len, PySem.sizeLine_eq]; omega)
end

theorem ints_of_get : ∀ {ys : List Value} {ns : List Int}, ys.length = ns.length → (∀ (j : Nat) (v : Value), ys[j]? = some v → ∃ n t, ns[j]? = some n ∧ v = .int n t) → IntsAre ys ns
  | [], [], _, _ => .nil
  | y :: ys, n :: ns, hl, h => by
    obtain ⟨n', t, hn, hv⟩ := h 0 y rfl
    simp at hn
    subst hn hv
    exact .cons _ _ (ints_of_get (by simpa using hl) fun j v hj => by simpa using h (j + 1) v (by simpa using hj))
  | [], _ :: _, hl, _ => by simp at hl
  | _ :: _, [], hl, _ => by simp at hl
theorem r_list_range {h₀ : Heap} {L r : Addr} {m : Str → Option Value} {news : List (Addr × Obj)} {a b c : Int} {t u v : Tok} {n : Nat} (hh : A.handled = none) (F : Fr h₀ L s.heap m) (N : News h₀ L s.heap news) (hr : IsRange s.heap r a b c t u v) (hsmall : Builtin.Range.small a b c = true) (hn : Builtin.Range.rangeSize a b c = (n : Int)) (hlen : n ≤ 2 ^ 24)
    (h : ∀ D h' tk ys k, Fr h₀ L h' m → News h₀ L h' ((D, PySem.W.listOf ys.toArray k) :: news) → (∀ p ∈ news, p.1 ≠ D) → IntsAre ys ((List.range n).map fun (i : Nat) => a + (i : Int) * c) → Q (.ref D) { s with heap := h', toks := tk }) :
    wpAny (model prog w) A (call (.type "list") [.ref r]) Q E s := by
  refine call_list_range hh hr hsmall hn hlen fun h' tk acc' c' hk hS' hacc => ?_
  refine h s.heap.objs.size h' tk acc'.toList c' (F.grownK hk) (fun p hp => ?_) (fun p hp => Nat.ne_of_lt (Heap.lt_size (N p hp).1)) (ints_of_get ?_ fun j v hv => ?_)
  · rcases List.mem_cons.mp hp with rfl | hp
    · exact ⟨by simpa using hS', fun e => absurd F.ns.lt (by rw [← e]; exact Nat.lt_irrefl _), next_is_new F⟩
    · exact ⟨hk _ _ (N p hp).1, (N p hp).2⟩
  · simp [hacc.1]
  · have hv' : acc'[j]? = some v := by simpa using hv
    obtain ⟨tk, rfl⟩ := hacc.2 j v hv'
    have hj : j < n := by
      have := (Array.getElem?_eq_some_iff.mp hv').1
      rw [hacc.1] at this; exact this
    exact ⟨_, _, by simp [hj], rfl⟩

theorem r_min2 {h₀ : Heap} {L : Addr} {m : Str → Option Value} {news : List (Addr × Obj)} {a b : Int} {t u : Tok} (hh : A.handled = none) (F : Fr h₀ L s.heap m) (N : News h₀ L s.heap news)
    (h : ∀ t h' tk, Fr h₀ L h' m → News h₀ L h' news → Q (.int (min a b) t) { s with heap := h', toks := tk }) :
    wpAny (model prog w) A (call (.builtin "min") [.int a t, .int b u]) Q E s :=
  min_two_N hh F N fun h' tk F' N' => by
    have e : (if b < a then b else a) = min a b := by split <;> omega
    rw [e]
    exact h _ h' tk F' N'
end
end Mine

-- part Comps
namespace Mine
open PySem.Calls PySem.Spec

section
variable {prog : Program} {w : World} {A : Around} {h₀ : Heap} {L : Addr} {m : Str → Option Value} {env : Env} {elt : Expr} {x : Str} {scope : Scope} {cl : List (Str × Addr)} {s : Shared} {Sr : List (Addr × Obj) → Prop} {P : Nat → Value → Prop} {Fin : List Value → List (Addr × Obj) → Prop} {news : List (Addr × Obj)}
/-- a comprehension by what holds of the items so far -/
theorem comp_rest {n : Nat} (Y : Nat → List Value → Prop) (h0 : Y 0 [])
    (turn : ∀ i ys v I oI C oC D m₂ h tk (E' : Value → Shared → Prop), i < n → P i v → Y i ys → LCg.NsObj oC m₂ → m₂ x = some v → Fr h₀ L h m → News h₀ L h ((I, oI) :: (C, oC) :: (D, LCg.lst ys) :: news) → LCg.Off3 I C D news → ((@Ne Nat I C) ∧ (@Ne Nat I D) ∧ (@Ne Nat C D)) →
      wpAny (model prog w) A (eval elt (compEnvC scope cl C env)) (LCg.CompEnd h₀ L m { s with heap := h, toks := tk } I oI C oC D (LCg.lst ys) Sr (fun y news' => news' = news ∧ Y (i + 1) (ys ++ [y]))) E' { s with heap := h, toks := tk })
    (fin : ∀ ys, Y n ys → Fin ys news) : LCg.CompRest prog w A h₀ L m env elt x scope cl s Sr P Fin n 0 [] news := by
  have key : ∀ (j i : Nat) (ys : List Value), i + j = n → Y i ys → LCg.CompRest prog w A h₀ L m env elt x scope cl s Sr P Fin j i ys news := by
    intro j
    induction j with
    | zero =>
      intro i ys hi hy
      have e : i = n := by omega
      subst e
      exact LCg.CompRest.zero (fin ys hy)
    | succ j ih =>
      intro i ys hi hy
      refine LCg.CompRest.succ ?_
      intro v I oI C oC D m₂ h tk E' hv hC hx F N off ne
      refine wpAny_mono (turn i ys v I oI C oC D m₂ h tk E' (by omega) hv hy hC hx F N off ne) (fun y s₂ hq => ?_) fun _ _ e => e
      obtain ⟨h', tk', nw, e, F', N', off', hS, hn, hy'⟩ := hq
      rw [hn] at N' off' hS
      exact ⟨h', tk', news, e, F', N', off', hS, ih (i + 1) _ (by omega) hy'⟩
  exact key n 0 [] (by omega) h0
end

theorem StrsAre.at' {vs : List Value} {xs : List Str} (h : StrsAre vs xs) : ∀ (i : Nat) (v : Value), vs[i]? = some v → ∃ x t, v = .str x t ∧ xs[i]? = some x := by
  induction h with
  | nil => intro i v e; simp at e
  | cons x t h ih =>
    intro i v e
    cases i with
    | zero => simp at e; exact ⟨x, t, e.symm, by simp⟩
    | succ i => simpa using ih i v (by simpa using e)
theorem StrsAre.len' {vs : List Value} {xs : List Str} (h : StrsAre vs xs) : vs.length = xs.length := by
  induction h with
  | nil => rfl
  | cons x t h ih => simp [ih]
end Mine

-- part F1
namespace Mine
open PySem.Calls PySem.Spec

local macro_rules | `(tactic| walk_at "mine_enter") => `(tactic| (
  refine wpAny_call ?_
  k_dflt (refine' enterF ?k1 ?k2 ?k3 ?k5 ?kA ?kF ?kK ?k6 ?k7 ?k8 ?k9 ?kB ?_ ?c2 ?c3 ?c4 ?c5; (case kA => exact rfl); (case kF => exact rfl); (case kK => assumption); (case k1 => k_asm); (case k2 => k_asm); (case k3 => k_asm); (case k5 => k_asm); (case k6 => k_is); (case k7 => k_is); (case k8 => (dsimp only [ktrTop]; omega)); (case k9 => exact BindsTo.of_eq rfl); (case c5 => decide); (case kB => exact locs rfl); (case c2 => exact rfl); (case c3 => exact rfl); (case c4 => exact rfl); k_whole)))

set_option maxRecDepth 100000 in
set_option maxHeartbeats 1000000 in
theorem c_sub (w : World) (mean : ExcName → Option Value) (mg mb : Str → Option Value) (c d : Nat) (tc td : Tok) (hc : Sign c) (hd' : Sign d) :
    Claim 2 w mean mg mb 26 [.str (S [c]) tc, .str (S [d]) td] (fun _ => True) (fun v nw => nw = [] ∧ ∃ t, v = .int (sub c d) t) := by
  w_strict (
    unfold Claim
    k_fill
    intro dp un gd cn cs a ccd cl outer A₀ base h₀ L m s Q E B F X T hk ha hdp hun hret
    walk_at "mine_enter"
    intro L' h₁ F₁ N₁ B₁ X₁ T₁
    have hlc : (S [c]).length = 1 := S_len _
    have hld : (S [d]).length = 1 := S_len _
    k_steps
    all_goals (rw [sub_low hc hd'] at hret; simp only [lower_S hc, lower_S hd', S_beq, decide_eq_true_eq, decide_eq_false_iff_not, List.cons.injEq, and_true] at *; refine hret _ _ _ [] ⟨rfl, ?_⟩ (by assumption) News.nil (by assumption); simp_all))

def saving (c d : Nat) : Int := 4 - (sub c d : Int)
theorem saving_words (c d : Nat) : ([Str.ofString "aA", Str.ofString "Aa", Str.ofString "bB", Str.ofString "Bb"].any fun x => x == S [c] ++ S [d]) = decide ((c = 97 ∧ d = 65) ∨ (c = 65 ∧ d = 97) ∨ (c = 98 ∧ d = 66) ∨ (c = 66 ∧ d = 98)) := by
  rw [show Str.ofString "aA" = S [97, 65] from by decide +kernel, show Str.ofString "Aa" = S [65, 97] from by decide +kernel, show Str.ofString "bB" = S [98, 66] from by decide +kernel, show Str.ofString "Bb" = S [66, 98] from by decide +kernel, S_add]
  simp only [List.any_cons, List.any_nil, S_beq]
  apply Bool.eq_iff_iff.mpr
  simp
  omega

set_option maxRecDepth 100000 in
set_option maxHeartbeats 1000000 in
theorem c_saving (w : World) (mean : ExcName → Option Value) (mg mb : Str → Option Value) (c d : Nat) (tc td : Tok) :
    Claim 2 w mean mg mb 47 [.str (S [c]) tc, .str (S [d]) td] (fun _ => True) (fun v nw => nw = [] ∧ ∃ t, v = .int (saving c d) t) := by
  w_strict (
    unfold Claim
    k_fill
    intro dp un gd cn cs a ccd cl outer A₀ base h₀ L m s Q E B F X T hk ha hdp hun hret
    walk_at "mine_enter"
    intro L' h₁ F₁ N₁ B₁ X₁ T₁
    have hlc : (S [c]).length = 1 := S_len _
    have hld : (S [d]).length = 1 := S_len _
    k_steps
    all_goals (simp only [saving_words, S_beq, decide_eq_true_eq, decide_eq_false_iff_not, List.cons.injEq, and_true] at *; refine hret _ _ _ [] ⟨rfl, _, congrArg (Value.int · _) ?_⟩ (by assumption) News.nil (by assumption); unfold saving sub; (repeat' split) <;> omega))

theorem item_sign {i : Int} (h0 : 0 ≤ i) (h8 : i < 8) : ∃ c, Sign c ∧ Txt.item (Str.ofString "aAbB,\"\\ ") i = S [c] := by
  obtain rfl | rfl | rfl | rfl | rfl | rfl | rfl | rfl : i = 0 ∨ i = 1 ∨ i = 2 ∨ i = 3 ∨ i = 4 ∨ i = 5 ∨ i = 6 ∨ i = 7 := by omega
  · exact ⟨97, by simp [Sign], by decide +kernel⟩
  · exact ⟨65, by simp [Sign], by decide +kernel⟩
  · exact ⟨98, by simp [Sign], by decide +kernel⟩
  · exact ⟨66, by simp [Sign], by decide +kernel⟩
  · exact ⟨44, by simp [Sign], by decide +kernel⟩
  · exact ⟨34, by simp [Sign], by decide +kernel⟩
  · exact ⟨92, by simp [Sign], by decide +kernel⟩
  · exact ⟨32, by simp [Sign], by decide +kernel⟩

set_option maxRecDepth 100000 in
set_option maxHeartbeats 1000000 in
theorem c_sign (w : World) (mean : ExcName → Option Value) (mg mb : Str → Option Value) (i : Int) (ti : Tok) (h0 : 0 ≤ i) (h8 : i < 8) :
    Claim 2 w mean mg mb 40 [.int i ti] (fun _ => True) (fun v nw => nw = [] ∧ ∃ c t, Sign c ∧ v = .str (S [c]) t) := by
  w_strict (
    unfold Claim
    k_fill
    intro dp un gd cn cs a ccd cl outer A₀ base h₀ L m s Q E B F X T hk ha hdp hun hret
    walk_at "mine_enter"
    intro L' h₁ F₁ N₁ B₁ X₁ T₁
    k_steps
    obtain ⟨c, hc, e⟩ := item_sign h0 h8
    rw [e]
    exact hret _ _ _ [] ⟨rfl, c, _, hc, rfl⟩ (by assumption) News.nil (by assumption))
end Mine

namespace Mine
theorem walk_anew_F1 : True := by (w_top off); trivial
end Mine
-- part F2
namespace Mine
open PySem.Calls PySem.Spec

local macro_rules | `(tactic| walk_at "mine_enter") => `(tactic| (
  refine wpAny_call ?_
  k_dflt (refine' enterF ?k1 ?k2 ?k3 ?k5 ?kA ?kF ?kK ?k6 ?k7 ?k8 ?k9 ?kB ?_ ?c2 ?c3 ?c4 ?c5; (case kA => exact rfl); (case kF => exact rfl); (case kK => assumption); (case k1 => k_asm); (case k2 => k_asm); (case k3 => k_asm); (case k5 => k_asm); (case k6 => k_is); (case k7 => k_is); (case k8 => (dsimp only [ktrTop]; omega)); (case k9 => exact BindsTo.of_eq rfl); (case c5 => decide); (case kB => exact locs rfl); (case c2 => exact rfl); (case c3 => exact rfl); (case c4 => exact rfl); k_whole)))
local macro_rules | `(tactic| walk_at "mine_steps") => `(tactic| repeat' (first
  | (k_unfold; (try dsimp only))
  | ((fail_if_success (with_reducible show wpAny _ _ (exec (Stmt.For _ _ _ _ _) _) _ _ _)); (fail_if_success (with_reducible show wpAny _ _ (exec (Stmt.While _ _ _ _) _) _ _ _)); (fail_if_success (with_reducible show wpAny _ _ (call (Value.ref _) _) _ _ _)); (fail_if_success (with_reducible show wpAny _ _ (pyIter _) _ _ _)); (fail_if_success (with_reducible show wpAny _ _ (subscriptTail _ _ _ (Value.int _ _)) _ _ _)); (first | walk1 | (dsimp only; walk1)))
  | fail "no step"))

local macro_rules | `(tactic| walk_at "mine_for") => `(tactic| ((with_reducible rename Fr _ _ _ _ => lF'); (with_unfolding_all refine' For_invVF lF' ?k1 ?k2 ?_; (case k1 => exact rfl); (case k2 => exact rfl)); k_whole))

local macro_rules | `(tactic| walk_at "mine_room") => `(tactic| ((try dsimp only [ktrTop]); omega))
local macro_rules | `(tactic| walk_at "call builtin:max") => `(tactic| ((with_reducible show wpAny _ _ (call (Value.builtin "max") [Value.int _ _, Value.int _ _, Value.int _ _]) _ _ _); with_unfolding_all refine r_max3 (by with_unfolding_all rfl) (by k_asm) (by k_asm) ?_; intro _ _ _ _ _; (try k_sweep)))
def stepJ (l : Addr) (kept wd : List Nat) (c : Nat) (i : Nat) (m : Str → Option Value) (nx : List (Addr × Obj)) : Prop :=
  ∃ D us k tw tc u, nx = [(D, PySem.W.listOf us.toArray k)] ∧ IntsAre us ((savedOf (kept ++ [c]) wd).take (i + 1)) ∧
    m = kn (Str.ofString "more") (.ref D) (kn (Str.ofString "saved") (.ref l) (kn (Str.ofString "word") (.str (S wd) tw) (kn (Str.ofString "sign") (.str (S [c]) tc) u)))

theorem savedOf_take {kept wd : List Nat} {i : Nat} (hi : i ≤ wd.length) : (savedOf kept wd).take (i + 1) = (savedOf kept wd).take i ++ [savedAt kept wd i] := by
  rw [List.take_add_one, savedOf_at hi]; rfl
theorem stepJ_end {l D : Addr} {kept wd : List Nat} {c i k : Nat} {us : List Value} {v : Int} {t tw tc : Tok} {m' : Str → Option Value} (hus : IntsAre us ((savedOf (kept ++ [c]) wd).take (i + 1))) (hi : i < wd.length) (hv : v = savedAt (kept ++ [c]) wd (i + 1))
    (e1 : m' (Str.ofString "more") = some (.ref D)) (e2 : m' (Str.ofString "saved") = some (.ref l)) (e3 : m' (Str.ofString "word") = some (.str (S wd) tw)) (e4 : m' (Str.ofString "sign") = some (.str (S [c]) tc)) :
    stepJ l kept wd c (i + 1) m' [(D, PySem.W.listOf (us.toArray.push (.int v t)) (k + 1))] := by
  refine ⟨D, us ++ [.int v t], k + 1, tw, tc, m', by rw [List.push_toArray], ?_, kn_eq e1 (kn_eq e2 (kn_eq e3 (kn_eq e4 rfl)))⟩
  rw [savedOf_take (i := i + 1) (by omega), hv]
  exact hus.append (.cons _ _ .nil)
set_option maxRecDepth 100000 in
set_option maxHeartbeats 1000000 in
theorem c_step (w : World) (mean : ExcName → Option Value) (mg mb : Str → Option Value) (l : Addr) (kept wd : List Nat) (c : Nat) (tw tc : Tok) (vs : List Value) (hvs : IntsAre vs (savedOf kept wd)) (hwd : wd.length ≤ 100) (hkp : kept.length ≤ 1000) :
    Claim 4 w mean mg mb 54 [.ref l, .str (S wd) tw, .str (S [c]) tc] (fun h => h.IsList l vs.toArray) (fun v nw => ∃ D us k, v = .ref D ∧ nw = [(D, listOf us.toArray k)] ∧ IntsAre us (savedOf (kept ++ [c]) wd)) := by
  w_strict (
    unfold Claim
    k_fill
    intro dp un gd cn cs a ccd cl outer A₀ base h₀ L m s Q E B F X T hk ha hdp hun hret
    walk_at "mine_enter"
    intro L' h₁ F₁ N₁ B₁ X₁ T₁
    k_fold
    have hlw : (S wd).length = wd.length := S_len _
    walk_at "mine_steps"
    walk_at "mine_for"
    walk_at "mine_steps"
    refine for_range (stepJ l kept wd c) rfl (by assumption) (small_one (by decide) (by decide) (by omega) (by omega)) (rangeSize_nat _ _) (by assumption) (by assumption) ?start ?turn ?done
    · exact ⟨_, [.int 0 _], _, _, _, _, rfl, by rw [savedOf_take (i := 0) (by omega), savedAt_zero]; exact .cons _ _ .nil, kn_eq rfl (kn_eq rfl (kn_eq rfl (kn_eq rfl rfl)))⟩
    · intro i t m₁ news₁ h tk I oI hi hJ off F₂ N₂
      obtain ⟨D, us, k, tw', tc', u, rfl, hus, rfl⟩ := hJ
      replace hi : i < wd.length := by omega
      have hDI : @Ne Nat I D := fun e => off _ (List.mem_cons_self) e.symm
      have hul : us.length = i + 1 := by rw [hus.length, List.length_take, savedOf_len]; omega
      have hula : us.toArray.size ≤ 1000 := by rw [List.size_toArray]; omega
      obtain ⟨d, hd₁⟩ : ∃ d, wd[i]? = some d := ⟨_, List.getElem?_eq_getElem hi⟩
      change Fr s.heap L' h _ at F₂
      change News s.heap L' h _ at N₂
      walk_at "mine_steps"
      refine r_item_ints (ns := savedOf kept wd) (n := savedAt kept wd i) (ha.at fun o e => Fr.keep F₂ l o e) hvs (by omega) (by omega) (by rw [show ((0 : Int) + (i : Int)).toNat = i from by omega]; exact savedOf_at (by omega)) fun t1 => ?_
      walk_at "mine_steps"
      refine r_item_S (c := d) (by omega) (by rw [show ((0 : Int) + (i : Int)).toNat = i from by omega]; exact hd₁) (by omega) fun t2 k2 => ?_
      walk_at "mine_steps"
      k_dflt (refine Claim.use (c_saving w mean mg mb d c _ _) (by k_asm) (by k_asm) (by k_asm) (by k_asm) rfl trivial (by walk_at "mine_room") (by walk_at "mine_room") ?_)
      rintro v₃ h₃ tk₃ nw₃ ⟨rfl, t₃, rfl⟩ F₃ - keep₃
      replace N₂ := N₂.grown keep₃
      clear F₂
      try dsimp only
      walk_at "mine_steps"
      refine r_item_ints (ns := savedOf kept wd) (n := savedAt kept wd (i + 1)) (ha.at fun o e => Fr.keep F₃ l o e) hvs (by omega) (by omega) (by rw [show ((0 : Int) + (i : Int) + 1).toNat = i + 1 from by omega]; exact savedOf_at (by omega)) fun t4 => ?_
      walk_at "mine_steps"
      refine r_item_ints (ns := (savedOf (kept ++ [c]) wd).take (i + 1)) (n := savedAt (kept ++ [c]) wd i) (News.isList N₂ (.tail _ (.head _))) hus (by omega) (by omega) (by rw [show ((0 : Int) + (i : Int)).toNat = i from by omega, List.getElem?_take_of_lt (by omega)]; exact savedOf_at (by omega)) fun t5 => ?_
      walk_at "mine_steps"
      (rename Fr _ _ _ _ => Fz); (rename News _ _ _ _ => Nz)
      exact LEnd.mk' Fz Nz (by k_all) (stepJ_end hus hi (savedAt_step hd₁).symm rfl rfl rfl rfl)
    · intro m₁ news₁ h tk hJ F₂ N₂
      obtain ⟨D, us, k, tw', tc', u, rfl, hus, rfl⟩ := hJ
      change Fr s.heap L' h _ at F₂
      change News s.heap L' h _ at N₂
      rw [List.take_of_length_le (by rw [savedOf_len]; omega)] at hus
      walk_at "mine_steps"
      (rename Fr h₀ L _ _ => Fz)
      exact hret _ _ _ _ ⟨D, us, k, rfl, rfl, hus⟩ Fz (news_out F N₂) (by assumption))
end Mine

namespace Mine
theorem walk_anew_F2 : True := by (w_top off); trivial
end Mine
-- part F4
namespace Mine
open PySem.Calls PySem.Spec

local macro_rules | `(tactic| walk_at "mine_enter") => `(tactic| (
  refine wpAny_call ?_
  k_dflt (refine' enterF ?k1 ?k2 ?k3 ?k5 ?kA ?kF ?kK ?k6 ?k7 ?k8 ?k9 ?kB ?_ ?c2 ?c3 ?c4 ?c5; (case kA => exact rfl); (case kF => exact rfl); (case kK => assumption); (case k1 => k_asm); (case k2 => k_asm); (case k3 => k_asm); (case k5 => k_asm); (case k6 => k_is); (case k7 => k_is); (case k8 => (dsimp only [ktrTop]; omega)); (case k9 => exact BindsTo.of_eq rfl); (case c5 => decide); (case kB => exact locs rfl); (case c2 => exact rfl); (case c3 => exact rfl); (case c4 => exact rfl); k_whole)))
local macro_rules | `(tactic| walk_at "mine_steps") => `(tactic| repeat' (first
  | (k_unfold; (try dsimp only))
  | ((fail_if_success (with_reducible show wpAny _ _ (exec (Stmt.For _ _ _ _ _) _) _ _ _)); (fail_if_success (with_reducible show wpAny _ _ (exec (Stmt.While _ _ _ _) _) _ _ _)); (fail_if_success (with_reducible show wpAny _ _ (call (Value.ref _) _) _ _ _)); (fail_if_success (with_reducible show wpAny _ _ (pyIter _) _ _ _)); (fail_if_success (with_reducible show wpAny _ _ (subscriptTail _ _ _ (Value.int _ _)) _ _ _)); (fail_if_success (with_reducible show LCg.CompSrc _ _ _ _ _ _ _ _ _ _ _ _ _ _)); (fail_if_success (with_reducible show LCg.CompEnd _ _ _ _ _ _ _ _ _ _ _ _ _ _)); (fail_if_success (with_reducible show wpAny _ _ (eval (Expr.ListComp _ _ _ _) _) _ _ _)); (fail_if_success (with_reducible show wpAny _ _ (exec (Stmt.Assign _ (Expr.ListComp _ _ _ _) _) _) _ _ _)); (first | walk1 | (dsimp only; walk1)))
  | fail "no step"))
local macro_rules | `(tactic| walk_at "mine_for") => `(tactic| ((with_reducible rename Fr _ _ _ _ => lF'); (with_unfolding_all refine' For_invVF lF' ?k1 ?k2 ?_; (case k1 => exact rfl); (case k2 => exact rfl)); k_whole))
local macro_rules | `(tactic| walk_at "mine_room") => `(tactic| ((try dsimp only [ktrTop]); omega))

structure PS where
  res : List (List Nat)
  part : List Nat
  esc : Bool
  quo : Bool
def pStep (st : PS) (c : Nat) : PS :=
  if st.esc then { st with part := st.part ++ [c], esc := false }
  else if st.quo then
    if c = 92 then { st with esc := true }
    else if c = 34 then { st with quo := false, part := st.part ++ [c] }
    else { st with part := st.part ++ [c] }
  else if c = 44 then { st with res := st.res ++ [st.part], part := [] }
  else if c = 34 then { st with quo := true, part := st.part ++ [c] }
  else { st with part := st.part ++ [c] }
def pRun (l : List Nat) : PS := l.foldl pStep ⟨[], [], false, false⟩
theorem pRun_snoc (l : List Nat) (c : Nat) : pRun (l ++ [c]) = pStep (pRun l) c := by simp [pRun]
def pOut (l : List Nat) : List (List Nat) := if (pRun l).part = [] then (pRun l).res else (pRun l).res ++ [(pRun l).part]
theorem pStep_len (st : PS) (c : Nat) : (pStep st c).part.length ≤ st.part.length + 1 ∧ (pStep st c).res.length ≤ st.res.length + 1 := by
  unfold pStep
  repeat' split
  all_goals simp
theorem snoc_cases (l : List Nat) : l = [] ∨ ∃ l' c, l = l' ++ [c] := by
  rcases List.eq_nil_or_concat l with h | ⟨l', c, h⟩
  · exact .inl h
  · exact .inr ⟨l', c, by simpa using h⟩
theorem pRun_len (n : Nat) : ∀ l : List Nat, l.length = n → (pRun l).part.length ≤ n ∧ (pRun l).res.length ≤ n := by
  induction n with
  | zero => intro l h; rw [List.length_eq_zero_iff.mp h]; exact ⟨by simp [pRun], by simp [pRun]⟩
  | succ n ih =>
    intro l h
    rcases snoc_cases l with rfl | ⟨l', c, rfl⟩
    · simp at h
    · have h' : l'.length = n := by simpa using h
      have h1 := ih l' h'
      have h2 := pStep_len (pRun l') c
      rw [pRun_snoc]
      omega

theorem pRun_all (n : Nat) : ∀ l : List Nat, l.length = n → ∀ p ∈ (pRun l).res, p.length ≤ n := by
  induction n with
  | zero => intro l h; rw [List.length_eq_zero_iff.mp h]; intro p hp; simp [pRun] at hp
  | succ n ih =>
    intro l h p hp
    rcases snoc_cases l with rfl | ⟨l', c, rfl⟩
    · simp at h
    · have h' : l'.length = n := by simpa using h
      have h1 := ih l' h'
      have h2 := (pRun_len n l' h').1
      rw [pRun_snoc] at hp
      have h3 : p ∈ (pRun l').res ∨ p = (pRun l').part := by
        unfold pStep at hp
        repeat' split at hp
        all_goals (try exact .inl hp)
        rcases List.mem_append.mp hp with hp | hp
        · exact .inl hp
        · exact .inr (List.mem_singleton.mp hp)
      rcases h3 with h3 | rfl
      · exact Nat.le_succ_of_le (h1 p h3)
      · omega
theorem pOut_len {l p : List Nat} (hp : p ∈ pOut l) : p.length ≤ l.length := by
  unfold pOut at hp
  split at hp
  · exact pRun_all l.length l rfl p hp
  · rcases List.mem_append.mp hp with hp | hp
    · exact pRun_all l.length l rfl p hp
    · rw [List.mem_singleton.mp hp]; exact (pRun_len l.length l rfl).1
theorem pOut_num (l : List Nat) : (pOut l).length ≤ l.length + 1 := by
  have := (pRun_len l.length l rfl).2
  unfold pOut
  split
  · omega
  · simp; omega

def parseJ (l : List Nat) (i : Nat) (m : Str → Option Value) (nx : List (Addr × Obj)) : Prop :=
  ∃ D us k tp u, nx = [(D, PySem.W.listOf us.toArray k)] ∧ StrsAre us ((pRun (l.take i)).res.map S) ∧
    m = kn (Str.ofString "res") (.ref D) (kn (Str.ofString "part") (.str (S (pRun (l.take i)).part) tp) (kn (Str.ofString "escape") (.bool (pRun (l.take i)).esc) (kn (Str.ofString "quote") (.bool (pRun (l.take i)).quo) u)))

theorem parseJ_a {l : List Nat} {i : Nat} {D : Addr} {us : List Value} {k : Nat} {P : Str} {tp : Tok} {st : PS} {m' : Str → Option Value} (hst : pRun (l.take (i + 1)) = st) (hus : StrsAre us (st.res.map S))
    (e1 : m' (Str.ofString "res") = some (.ref D)) (e2 : m' (Str.ofString "part") = some (.str P tp)) (hP : P = S st.part) (e3 : m' (Str.ofString "escape") = some (.bool st.esc)) (e4 : m' (Str.ofString "quote") = some (.bool st.quo)) :
    parseJ l (i + 1) m' [(D, PySem.W.listOf us.toArray k)] := by
  subst hst hP
  exact ⟨D, us, k, tp, m', rfl, hus, kn_eq e1 (kn_eq e2 (kn_eq e3 (kn_eq e4 rfl)))⟩
theorem parseJ_b {l : List Nat} {i : Nat} {D : Addr} {us : List Value} {k : Nat} {P : Str} {y : List Nat} {ty tp : Tok} {st : PS} {m' : Str → Option Value} (hst : pRun (l.take (i + 1)) = st) (hus : StrsAre (us ++ [.str (S y) ty]) (st.res.map S))
    (e1 : m' (Str.ofString "res") = some (.ref D)) (e2 : m' (Str.ofString "part") = some (.str P tp)) (hP : P = S st.part) (e3 : m' (Str.ofString "escape") = some (.bool st.esc)) (e4 : m' (Str.ofString "quote") = some (.bool st.quo)) :
    parseJ l (i + 1) m' [(D, PySem.W.listOf (us.toArray.push (.str (S y) ty)) (k + 1))] := by
  rw [List.push_toArray]
  exact parseJ_a hst hus e1 e2 hP e3 e4
theorem ofs_back : Str.ofString "\\" = S [92] := by decide +kernel
theorem ofs_quote : Str.ofString "\"" = S [34] := by decide +kernel
theorem ofs_comma : Str.ofString "," = S [44] := by decide +kernel
theorem ofs_blank : Str.ofString " " = S [32] := by decide +kernel
theorem ofs_nil : Str.ofString "" = S [] := by decide +kernel

set_option maxRecDepth 100000 in
set_option maxHeartbeats 1000000 in
theorem c_parse (w : World) (mean : ExcName → Option Value) (mg mb : Str → Option Value) (l : List Nat) (tl : Tok) (hl : l.length ≤ 100) (hs : ∀ c ∈ l, Sign c) :
    Claim 4 w mean mg mb 19 [.str (S l) tl] (fun _ => True) (fun v nw => ∃ D us k, v = .ref D ∧ nw = [(D, PySem.W.listOf us.toArray k)] ∧ StrsAre us ((pOut l).map fun p => Txt.strip (S p))) := by
  w_strict (
    unfold Claim
    k_fill
    intro dp un gd cn cs a ccd cl outer A₀ base h₀ L m s Q E B F X T hk ha hdp hun hret
    walk_at "mine_enter"
    intro L' h₁ F₁ N₁ B₁ X₁ T₁
    k_fold
    walk_at "mine_steps"
    walk_at "mine_for"
    walk_at "mine_steps"
    refine for_str (parseJ l) rfl (by assumption) (by assumption) ?start ?_ ?turn ?done
    · exact ⟨_, [], _, _, _, rfl, .nil, kn_eq rfl (kn_eq rfl (kn_eq rfl (kn_eq rfl rfl)))⟩
    · intro c hc
      rcases hs c hc with rfl | rfl | rfl | rfl | rfl | rfl | rfl | rfl <;> omega
    · intro i c t m₁ news₁ h tk I oI hi hJ off F₂ N₂
      obtain ⟨D, us, k, tp, u, rfl, hus, rfl⟩ := hJ
      have hDI : @Ne Nat I D := fun e => off _ (List.mem_cons_self) e.symm
      have hlen := pRun_len (l.take i).length (l.take i) rfl
      have hle : (l.take i).length ≤ 100 := by rw [List.length_take]; omega
      have hst := pRun_snoc (l.take i) c
      rw [← take_snoc hi] at hst
      have hul : us.length ≤ 100 := by rw [StrsAre.len' hus, List.length_map]; omega
      have hula : us.toArray.size ≤ 1000 := by rw [List.size_toArray]; omega
      generalize hg : pRun (l.take i) = st at hus F₂ hlen hst
      obtain ⟨res, part, esc, quo⟩ := st
      dsimp only at hus F₂ hlen
      have hpl : (S part).length ≤ 1000 := by rw [S_len]; omega
      have hcl : (S [c]).length = 1 := S_len _
      change Fr s.heap L' h _ at F₂
      change News s.heap L' h _ at N₂
      walk_at "mine_steps"
      all_goals (
        (rename Fr _ _ _ _ => Fz); (rename News _ _ _ _ => Nz)
        refine LEnd.mk' Fz Nz (by k_all) ?_
        clear Fz Nz off hDI
        simp only [ofs_back, ofs_quote, ofs_comma, S_beq, decide_eq_true_eq, decide_eq_false_iff_not, List.cons.injEq, and_true] at *)
      all_goals (subst_vars; clear hg; simp only [pStep, Bool.false_eq_true, Nat.reduceEqDiff, if_true, if_false, *] at hst)
      all_goals first
        | exact parseJ_a hst hus rfl rfl (S_add _ _) rfl rfl
        | exact parseJ_a hst hus rfl rfl rfl rfl rfl
        | exact parseJ_b hst (by rw [List.map_append]; exact hus.append' (.cons _ _ .nil)) rfl rfl ofs_nil rfl rfl
    · intro m₁ news₁ h tk hJ F₂ N₂
      obtain ⟨D, us, k, tp, u, rfl, hus, rfl⟩ := hJ
      rw [List.take_length] at hus F₂
      have hlen := pRun_len l.length l rfl
      have hul : us.length ≤ 100 := by rw [StrsAre.len' hus, List.length_map]; omega
      have hula : us.toArray.size ≤ 1000 := by rw [List.size_toArray]; omega
      have hpo : pOut l = if (pRun l).part = [] then (pRun l).res else (pRun l).res ++ [(pRun l).part] := rfl
      generalize hg : pRun l = st at hus F₂ hlen hpo
      obtain ⟨res, part, esc, quo⟩ := st
      dsimp only at hus F₂ hlen hpo
      have hpl : (S part).length ≤ 1000 := by rw [S_len]; omega
      change Fr s.heap L' h _ at F₂
      change News s.heap L' h _ at N₂
      walk_at "mine_steps"
      rotate_left
      · (rename News _ _ _ _ => Nz)
        have hus' : StrsAre us ((pOut l).map S) := by
          have hne : part = [] := by
            (rename (((S part).length : Int) = 0) => hz)
            rw [S_len] at hz
            exact List.length_eq_zero_iff.mp (by omega)
          rw [hpo, if_pos hne]
          exact hus
        clear hul hula
        have hul : us.length ≤ 101 := by have := pOut_num l; rw [StrsAre.len' hus', List.length_map]; omega
        have hula : us.toArray.size ≤ 1000 := by rw [List.size_toArray]; omega
        k_dflt (refine LCg.ListComp_U (F₀ := by k_asm) (by rfl) (by decide) (by rfl) (by decide) (by rfl) ?_)
        walk_at "mine_steps"
        k_dflt (refine LCg.CompSrc.ledger (by rfl) (by k_asm) (by k_asm) (by k_mem) (by rw [PySem.sizeLine_eq]; omega) ?_)
        intro g'
        refine comp_rest (fun i ys => StrsAre ys (((pOut l).take i).map fun p => Txt.strip (S p))) .nil ?_ ?_
        · intro i ys v I oI C oC D' m₂ h tk E' hi hv hy hC hx F₃ N₃ off ne
          obtain ⟨x, t, rfl, hx'⟩ := StrsAre.at' hus' i v (by simpa using hv)
          obtain ⟨p, hp, rfl⟩ : ∃ p, (pOut l)[i]? = some p ∧ S p = x := by simpa using hx'
          have hpl' : (S p).length ≤ 1000 := by have := pOut_len (List.mem_of_getElem? hp); rw [S_len]; omega
          walk_at "mine_steps"
          refine LCg.CompEnd.intro F₃ N₃ _ (fun _ h => h) off (Or.inr ⟨_, .head _, rfl, _, rfl⟩) ⟨rfl, ?_⟩
          rw [List.take_add_one, hp]
          simpa using hy.append' (.cons _ _ .nil)
        · intro ys hy
          rw [List.take_of_length_le (by rw [← List.length_map (f := S), ← StrsAre.len' hus', List.size_toArray]; exact Nat.le_refl _)] at hy
          unfold LCg.FinE
          intro D' h' tk' F' N' o1'
          walk_at "mine_steps"
          (rename Fr h₀ L _ _ => Fz)
          exact hret _ _ _ [(D', LCg.lst ys)] ⟨D', ys, _, rfl, rfl, hy⟩ Fz (news_out F fun p hp => N' p (by rw [List.mem_singleton.mp hp]; exact .head _)) (by assumption)
      · (rename News _ _ _ _ => Nz)
        rw [List.push_toArray] at Nz
        have hus' : StrsAre (us ++ [.str (S part) tp]) ((pOut l).map S) := by
          have hne : ¬ part = [] := by
            rintro rfl
            (rename (((S []).length : Int) ≠ 0) => hz)
            exact hz (by rw [S_len]; rfl)
          rw [hpo, if_neg hne, List.map_append]
          exact hus.append' (.cons _ _ .nil)
        generalize us ++ [.str (S part) tp] = us' at Nz hus'
        clear hus hul hula
        have hul : us'.length ≤ 101 := by have := pOut_num l; rw [StrsAre.len' hus', List.length_map]; omega
        have hula : us'.toArray.size ≤ 1000 := by rw [List.size_toArray]; omega
        k_dflt (refine LCg.ListComp_U (F₀ := by k_asm) (by rfl) (by decide) (by rfl) (by decide) (by rfl) ?_)
        walk_at "mine_steps"
        k_dflt (refine LCg.CompSrc.ledger (by rfl) (by k_asm) (by k_asm) (by k_mem) (by rw [PySem.sizeLine_eq]; omega) ?_)
        intro g'
        refine comp_rest (fun i ys => StrsAre ys (((pOut l).take i).map fun p => Txt.strip (S p))) .nil ?_ ?_
        · intro i ys v I oI C oC D' m₂ h tk E' hi hv hy hC hx F₃ N₃ off ne
          obtain ⟨x, t, rfl, hx'⟩ := StrsAre.at' hus' i v (by simpa using hv)
          obtain ⟨p, hp, rfl⟩ : ∃ p, (pOut l)[i]? = some p ∧ S p = x := by simpa using hx'
          have hpl' : (S p).length ≤ 1000 := by have := pOut_len (List.mem_of_getElem? hp); rw [S_len]; omega
          walk_at "mine_steps"
          refine LCg.CompEnd.intro F₃ N₃ _ (fun _ h => h) off (Or.inr ⟨_, .head _, rfl, _, rfl⟩) ⟨rfl, ?_⟩
          rw [List.take_add_one, hp]
          simpa using hy.append' (.cons _ _ .nil)
        · intro ys hy
          rw [List.take_of_length_le (by rw [← List.length_map (f := S), ← StrsAre.len' hus', List.size_toArray]; exact Nat.le_refl _)] at hy
          unfold LCg.FinE
          intro D' h' tk' F' N' o1'
          walk_at "mine_steps"
          (rename Fr h₀ L _ _ => Fz)
          exact hret _ _ _ [(D', LCg.lst ys)] ⟨D', ys, _, rfl, rfl, hy⟩ Fz (news_out F fun p hp => N' p (by rw [List.mem_singleton.mp hp]; exact .head _)) (by assumption))
end Mine

namespace Mine
theorem walk_anew_F4 : True := by (w_top off); trivial
end Mine
-- part F3
namespace Mine
open PySem.Calls PySem.Spec

local macro_rules | `(tactic| walk_at "mine_enter") => `(tactic| (
  refine wpAny_call ?_
  k_dflt (refine' enterF ?k1 ?k2 ?k3 ?k5 ?kA ?kF ?kK ?k6 ?k7 ?k8 ?k9 ?kB ?_ ?c2 ?c3 ?c4 ?c5; (case kA => exact rfl); (case kF => exact rfl); (case kK => assumption); (case k1 => k_asm); (case k2 => k_asm); (case k3 => k_asm); (case k5 => k_asm); (case k6 => k_is); (case k7 => k_is); (case k8 => (dsimp only [ktrTop]; omega)); (case k9 => exact BindsTo.of_eq rfl); (case c5 => decide); (case kB => exact locs rfl); (case c2 => exact rfl); (case c3 => exact rfl); (case c4 => exact rfl); k_whole)))
local macro_rules | `(tactic| walk_at "mine_steps") => `(tactic| repeat' (first
  | (k_unfold; (try dsimp only))
  | ((fail_if_success (with_reducible show wpAny _ _ (exec (Stmt.For _ _ _ _ _) _) _ _ _)); (fail_if_success (with_reducible show wpAny _ _ (exec (Stmt.While _ _ _ _) _) _ _ _)); (fail_if_success (with_reducible show wpAny _ _ (call (Value.ref _) _) _ _ _)); (fail_if_success (with_reducible show wpAny _ _ (pyIter _) _ _ _)); (fail_if_success (with_reducible show wpAny _ _ (call (Value.builtin "list.append") _) _ _ _)); (fail_if_success (with_reducible show wpAny _ _ (subscriptTail _ _ _ (Value.int _ _)) _ _ _)); (fail_if_success (with_reducible show LCg.CompSrc _ _ _ _ _ _ _ _ _ _ _ _ _ _)); (fail_if_success (with_reducible show LCg.CompEnd _ _ _ _ _ _ _ _ _ _ _ _ _ _)); (fail_if_success (with_reducible show wpAny _ _ (eval (Expr.ListComp _ _ _ _) _) _ _ _)); (fail_if_success (with_reducible show wpAny _ _ (exec (Stmt.Assign _ (Expr.ListComp _ _ _ _) _) _) _ _ _)); (first | walk1 | (dsimp only; walk1)))
  | fail "no step"))
local macro_rules | `(tactic| walk_at "mine_for") => `(tactic| ((with_reducible rename Fr _ _ _ _ => lF'); (with_unfolding_all refine' For_invVF lF' ?k1 ?k2 ?_; (case k1 => exact rfl); (case k2 => exact rfl)); k_whole))
local macro_rules | `(tactic| walk_at "mine_room") => `(tactic| ((try dsimp only [ktrTop]); omega))

structure RS where
  told : List (List Nat)
  mode : Int
  kept : List Nat
  gap : Nat
def rMode (mode : Int) (c : Nat) : Int := if mode = 2 then 1 else if c = 34 then 1 - mode else mode
def rNext (kept : List Nat) (gap c : Nat) : List Nat := if kept = [] then [c] else List.replicate gap 32 ++ [c]
def rStep (st : RS) (c : Nat) : RS :=
  if st.mode = 0 ∧ c = 44 then ⟨st.told ++ [st.kept], st.mode, [], 0⟩
  else if st.mode = 1 ∧ c = 92 then { st with mode := 2 }
  else if c = 32 then { st with mode := rMode st.mode c, gap := st.gap + 1 }
  else { st with mode := rMode st.mode c, kept := st.kept ++ rNext st.kept st.gap c, gap := 0 }
def rRun (l : List Nat) : RS := l.foldl rStep ⟨[], 0, [], 0⟩
theorem rRun_snoc (l : List Nat) (c : Nat) : rRun (l ++ [c]) = rStep (rRun l) c := by simp [rRun]
def rOut (l : List Nat) : List (List Nat) := if (rRun l).kept = [] ∧ (rRun l).gap = 0 then (rRun l).told else (rRun l).told ++ [(rRun l).kept]

theorem rMode_is {md : Int} {c : Nat} (h : md = 0 ∨ md = 1 ∨ md = 2) : rMode md c = 0 ∨ rMode md c = 1 ∨ rMode md c = 2 := by
  unfold rMode
  repeat' split
  all_goals omega
theorem rNext_len (kept : List Nat) (gap c : Nat) : (rNext kept gap c).length ≤ gap + 1 := by
  unfold rNext
  split <;> simp
theorem rStep_facts {st : RS} {c n : Nat} (h : (st.mode = 0 ∨ st.mode = 1 ∨ st.mode = 2) ∧ st.kept.length + st.gap ≤ n ∧ st.told.length ≤ n) :
    ((rStep st c).mode = 0 ∨ (rStep st c).mode = 1 ∨ (rStep st c).mode = 2) ∧ (rStep st c).kept.length + (rStep st c).gap ≤ n + 1 ∧ (rStep st c).told.length ≤ n + 1 := by
  obtain ⟨h1, h2, h3⟩ := h
  have h4 := rNext_len st.kept st.gap c
  have h5 := rMode_is (c := c) h1
  unfold rStep
  repeat' split
  · exact ⟨h1, by simp, by simp; omega⟩
  · exact ⟨.inr (.inr rfl), by dsimp only; omega, by dsimp only; omega⟩
  · exact ⟨h5, by dsimp only; omega, by dsimp only; omega⟩
  · exact ⟨h5, by simp only [List.length_append]; omega, by dsimp only; omega⟩
theorem rRun_facts (n : Nat) : ∀ l : List Nat, l.length = n → ((rRun l).mode = 0 ∨ (rRun l).mode = 1 ∨ (rRun l).mode = 2) ∧ (rRun l).kept.length + (rRun l).gap ≤ n ∧ (rRun l).told.length ≤ n := by
  induction n with
  | zero => intro l h; rw [List.length_eq_zero_iff.mp h]; exact ⟨.inl rfl, by simp [rRun], by simp [rRun]⟩
  | succ n ih =>
    intro l h
    rcases snoc_cases l with rfl | ⟨l', c, rfl⟩
    · simp at h
    · have h' : l'.length = n := by simpa using h
      rw [rRun_snoc]
      exact rStep_facts (ih l' h')

abbrev tupO (k : List Nat) (z : Int) (t1 t2 : Tok) (n : Nat) : Obj := { cls := .type "tuple", data := .seq #[.str (S k) t1, .int z t2] n }
def TupsIn (wd : List Nat) (nx : List (Addr × Obj)) (ts : List Value) (told : List (List Nat)) : Prop :=
  ts.length = told.length ∧ ∀ (j : Nat) (k : List Nat), told[j]? = some k → ∃ (a : Addr) (t1 t2 : Tok) (n : Nat), ts[j]? = some (Value.ref a) ∧ (a, tupO k (ED k wd : Int) t1 t2 n) ∈ nx

def readM (T Z V : Addr) (md : Int) (kept : List Nat) (g : Int) (wd : List Nat) (tm tk tg tw : Tok) (u : Str → Option Value) : Str → Option Value :=
  kn (Str.ofString "told") (.ref T) (kn (Str.ofString "none") (.ref Z) (kn (Str.ofString "saved") (.ref V) (kn (Str.ofString "mode") (.int md tm) (kn (Str.ofString "kept") (.str (S kept) tk) (kn (Str.ofString "gap") (.int g tg) (kn (Str.ofString "word") (.str (S wd) tw) u))))))
theorem readM_eq {m : Str → Option Value} {T Z V : Addr} {md g : Int} {kept wd : List Nat} {tm tk tg tw : Tok} (e1 : m (Str.ofString "told") = some (.ref T)) (e2 : m (Str.ofString "none") = some (.ref Z)) (e3 : m (Str.ofString "saved") = some (.ref V))
    (e4 : m (Str.ofString "mode") = some (.int md tm)) (e5 : m (Str.ofString "kept") = some (.str (S kept) tk)) (e6 : m (Str.ofString "gap") = some (.int g tg)) (e7 : m (Str.ofString "word") = some (.str (S wd) tw)) : m = readM T Z V md kept g wd tm tk tg tw m :=
  kn_eq e1 (kn_eq e2 (kn_eq e3 (kn_eq e4 (kn_eq e5 (kn_eq e6 (kn_eq e7 rfl))))))

structure ReadL (wd : List Nat) (T Z V : Addr) (kept : List Nat) (told : List (List Nat)) (ts zs vs : List Value) (kt kz kv : Nat) (nx : List (Addr × Obj)) : Prop where
  hT : (T, PySem.W.listOf ts.toArray kt) ∈ nx
  hZ : (Z, PySem.W.listOf zs.toArray kz) ∈ nx
  hV : (V, PySem.W.listOf vs.toArray kv) ∈ nx
  hZT : Z ≠ T
  hVT : V ≠ T
  zs : IntsAre zs (savedOf [] wd)
  vs : IntsAre vs (savedOf kept wd)
  tups : TupsIn wd nx ts told

def readJ (wd l : List Nat) (i : Nat) (m : Str → Option Value) (nx : List (Addr × Obj)) : Prop :=
  ∃ T Z V ts zs vs kt kz kv tm tk tg tw u, ReadL wd T Z V (rRun (l.take i)).kept (rRun (l.take i)).told ts zs vs kt kz kv nx ∧
    m = readM T Z V (rRun (l.take i)).mode (rRun (l.take i)).kept ((rRun (l.take i)).gap : Int) wd tm tk tg tw u

theorem tup_ne {g h : Heap} {L T : Addr} {nx : List (Addr × Obj)} {ts : Array Value} {kt : Nat} (N : News g L h nx) (hT : (T, PySem.W.listOf ts kt) ∈ nx) {a : Addr} {k : List Nat} {z : Int} {t1 t2 : Tok} {n : Nat} (ha : (a, tupO k z t1 t2 n) ∈ nx) : a ≠ T := by
  rintro rfl
  have := (N _ hT).1.symm.trans (N _ ha).1
  simp [tupO, PySem.W.listOf] at this
theorem end_same {wd l : List Nat} {g h' : Heap} {L T Z V I : Addr} {kept : List Nat} {told : List (List Nat)} {ts zs vs : List Value} {kt kz kv i gap' : Nat} {nx : List (Addr × Obj)} {oI o3 o4 : Obj} {s₁ : Shared} {md md' g' : Int} {tm tk tg tw : Tok} {m' : Str → Option Value} {tks : Nat}
    (R : ReadL wd T Z V kept told ts zs vs kt kz kv nx) (off : ∀ p ∈ nx, p.1 ≠ I) (hst : rRun (l.take (i + 1)) = ⟨told, md', kept, gap'⟩) (F : Fr g L h' m') (N : News g L h' ((I, oI) :: (T, o3) :: (V, o4) :: nx)) (hmd : md = md') (hg : g' = (gap' : Int))
    (e1 : m' (Str.ofString "told") = some (.ref T)) (e2 : m' (Str.ofString "none") = some (.ref Z)) (e3 : m' (Str.ofString "saved") = some (.ref V))
    (e4 : m' (Str.ofString "mode") = some (.int md tm)) (e5 : m' (Str.ofString "kept") = some (.str (S kept) tk)) (e6 : m' (Str.ofString "gap") = some (.int g' tg)) (e7 : m' (Str.ofString "word") = some (.str (S wd) tw)) :
    LEnd g L (readJ wd l (i + 1)) I oI s₁ { s₁ with heap := h', toks := tks } := by
  subst hmd hg
  refine LEnd.mk' F (news' := nx) (fun p hp => N p ?_) off ⟨T, Z, V, ts, zs, vs, kt, kz, kv, tm, tk, tg, tw, m', ?_, ?_⟩
  · rcases List.mem_cons.mp hp with rfl | hp
    · exact .head _
    · exact .tail _ (.tail _ (.tail _ hp))
  · rw [hst]; exact R
  · rw [hst]; exact readM_eq e1 e2 e3 e4 e5 e6 e7
theorem end_told {wd l : List Nat} {g h' : Heap} {L T Z V I D D2 : Addr} {kept : List Nat} {told : List (List Nat)} {ts zs vs : List Value} {kt kz kv i : Nat} {nx : List (Addr × Obj)} {oI o2 o3 o4 : Obj} {s₁ : Shared} {md z : Int} {t1 t2 tm tk tg tw : Tok} {n : Nat} {K : Str} {m' : Str → Option Value} {tks : Nat}
    (R : ReadL wd T Z V kept told ts zs vs kt kz kv nx) (off : ∀ p ∈ nx, p.1 ≠ I) (hTn : ∀ a k z t1 t2 n, (a, tupO k z t1 t2 n) ∈ nx → a ≠ T) (hz : z = (ED kept wd : Int)) (hlt : @LT.lt Nat _ I D ∧ @LT.lt Nat _ T D ∧ @LT.lt Nat _ V D ∧ AllLt D nx)
    (hst : rRun (l.take (i + 1)) = ⟨told ++ [kept], md, [], 0⟩) (F : Fr g L h' m') (N : News g L h' ((D2, o2) :: (T, PySem.W.listOf (ts.toArray.push (.ref D)) (kt + 1)) :: but T ((D, tupO kept z t1 t2 n) :: (I, oI) :: (T, o3) :: (V, o4) :: nx))) (hK : K = S [])
    (e1 : m' (Str.ofString "told") = some (.ref T)) (e2 : m' (Str.ofString "none") = some (.ref Z)) (e3 : m' (Str.ofString "saved") = some (.ref Z))
    (e4 : m' (Str.ofString "mode") = some (.int md tm)) (e5 : m' (Str.ofString "kept") = some (.str K tk)) (e6 : m' (Str.ofString "gap") = some (.int 0 tg)) (e7 : m' (Str.ofString "word") = some (.str (S wd) tw)) :
    LEnd g L (readJ wd l (i + 1)) I oI s₁ { s₁ with heap := h', toks := tks } := by
  subst hz hK
  have hIT : I ≠ T := fun e => off _ R.hT e.symm
  have hDT : D ≠ T := fun e => absurd hlt.2.1 (by rw [e]; exact Nat.lt_irrefl _)
  have hDI : D ≠ I := fun e => absurd hlt.1 (by rw [e]; exact Nat.lt_irrefl _)
  refine LEnd.mk' F (news' := (T, PySem.W.listOf (ts.toArray.push (.ref D)) (kt + 1)) :: (D, tupO kept (ED kept wd : Int) t1 t2 n) :: but T nx) (fun p hp => N p ?_) (fun p hp => ?_) ⟨T, Z, Z, ts ++ [.ref D], zs, zs, kt + 1, kz, kz, tm, tk, tg, tw, m', ?_, ?_⟩
  · rcases List.mem_cons.mp hp with rfl | hp
    · exact .tail _ (.tail _ (mem_but (.tail _ (.head _)) hIT))
    · rcases List.mem_cons.mp hp with rfl | hp
      · exact .tail _ (.head _)
      · rcases List.mem_cons.mp hp with rfl | hp
        · exact .tail _ (.tail _ (mem_but (.head _) hDT))
        · have := of_but hp
          exact .tail _ (.tail _ (mem_but (.tail _ (.tail _ (.tail _ (.tail _ this.1)))) this.2))
  · rcases List.mem_cons.mp hp with rfl | hp
    · exact hIT.symm
    · rcases List.mem_cons.mp hp with rfl | hp
      · exact hDI
      · exact off _ (of_but hp).1
  · rw [hst]
    refine ⟨?_, .tail _ (.tail _ (mem_but R.hZ R.hZT)), .tail _ (.tail _ (mem_but R.hZ R.hZT)), R.hZT, R.hZT, R.zs, R.zs, ?_, ?_⟩
    · rw [List.push_toArray]; exact .head _
    · simp [R.tups.1]
    · intro j k hj
      by_cases hlt : j < told.length
      · rw [List.getElem?_append_left hlt] at hj
        obtain ⟨a, u1, u2, n', h1, h2⟩ := R.tups.2 j k hj
        refine ⟨a, u1, u2, n', ?_, .tail _ (.tail _ (mem_but h2 (hTn _ _ _ _ _ _ h2)))⟩
        rw [List.getElem?_append_left (by rw [R.tups.1]; exact hlt)]; exact h1
      · have hl2 := (List.getElem?_eq_some_iff.mp hj).1
        simp at hl2
        obtain rfl : j = told.length := by omega
        simp at hj
        subst hj
        refine ⟨D, t1, t2, n, ?_, .tail _ (.head _)⟩
        rw [← R.tups.1]; simp
  · rw [hst]; exact readM_eq e1 e2 e3 e4 e5 e6 e7

theorem news_join {g h h' : Heap} {L : Addr} {m : Str → Option Value} {nx nw : List (Addr × Obj)} (F : Fr g L h m) (N : News g L h nx) (Nn : News h L h' nw) (keep : ∀ b o, h.get? b = some o → h'.get? b = some o) : News g L h' (nw ++ nx) ∧ ∀ p ∈ nw, ∀ q ∈ nx, p.1 ≠ q.1 := by
  refine ⟨fun p hp => ?_, fun p hp q hq e => ?_⟩
  · rcases List.mem_append.mp hp with hp | hp
    · refine ⟨(Nn p hp).1, (Nn p hp).2.1, ?_⟩
      cases e : g.get? p.1 with
      | none => rfl
      | some o => have := F.keep _ _ e; rw [(Nn p hp).2.2] at this; cases this
    · exact ⟨keep _ _ (N p hp).1, (N p hp).2⟩
  · have h1 := (Nn p hp).2.2
    rw [e, (N q hq).1] at h1
    cases h1

theorem rStep_esc {told : List (List Nat)} {mode : Int} {kept : List Nat} {gap c : Nat} (h1 : ¬ (mode = 0 ∧ c = 44)) (h2 : mode = 1 ∧ c = 92) : rStep ⟨told, mode, kept, gap⟩ c = ⟨told, 2, kept, gap⟩ := by
  unfold rStep; dsimp only; rw [if_neg h1, if_pos h2]
theorem rStep_gap {told : List (List Nat)} {mode : Int} {kept : List Nat} {gap c : Nat} (h1 : ¬ (mode = 0 ∧ c = 44)) (h2 : ¬ (mode = 1 ∧ c = 92)) (h3 : c = 32) : rStep ⟨told, mode, kept, gap⟩ c = ⟨told, rMode mode c, kept, gap + 1⟩ := by
  unfold rStep; dsimp only; rw [if_neg h1, if_neg h2, if_pos h3]
theorem rStep_run {told : List (List Nat)} {mode : Int} {kept : List Nat} {gap c : Nat} (h1 : ¬ (mode = 0 ∧ c = 44)) (h2 : ¬ (mode = 1 ∧ c = 92)) (h3 : ¬ c = 32) : rStep ⟨told, mode, kept, gap⟩ c = ⟨told, rMode mode c, kept ++ rNext kept gap c, 0⟩ := by
  unfold rStep; dsimp only; rw [if_neg h1, if_neg h2, if_neg h3]

def readJ2 (wd kept run : List Nat) (T Z I : Addr) (mdx : Int) (nx₀ : List (Addr × Obj)) (j : Nat) (m : Str → Option Value) (nx : List (Addr × Obj)) : Prop :=
  ∃ V vs kv ex md X tm tk tw tr u, nx = ex ++ nx₀ ∧ (∀ p ∈ ex, p.1 ≠ I ∧ p.1 ≠ T) ∧ (V, PySem.W.listOf vs.toArray kv) ∈ nx ∧ V ≠ T ∧ V ≠ I ∧ IntsAre vs (savedOf (kept ++ run.take j) wd) ∧ md = mdx ∧ X = S run ∧
    m = kn (Str.ofString "told") (.ref T) (kn (Str.ofString "none") (.ref Z) (kn (Str.ofString "saved") (.ref V) (kn (Str.ofString "mode") (.int md tm) (kn (Str.ofString "kept") (.str (S kept) tk) (kn (Str.ofString "word") (.str (S wd) tw) (kn (Str.ofString "run") (.str X tr) u))))))
theorem readJ2_mk {wd kept run : List Nat} {T Z I V : Addr} {mdx md : Int} {nx₀ nx ex : List (Addr × Obj)} {j kv : Nat} {m : Str → Option Value} {vs : List Value} {X : Str} {tm tk tw tr : Tok}
    (hnx : nx = ex ++ nx₀) (hex : ∀ p ∈ ex, p.1 ≠ I ∧ p.1 ≠ T) (hV : (V, PySem.W.listOf vs.toArray kv) ∈ nx) (hVT : V ≠ T) (hVI : V ≠ I) (hvs : IntsAre vs (savedOf (kept ++ run.take j) wd)) (hmd : md = mdx) (hX : X = S run)
    (e1 : m (Str.ofString "told") = some (.ref T)) (e2 : m (Str.ofString "none") = some (.ref Z)) (e3 : m (Str.ofString "saved") = some (.ref V))
    (e4 : m (Str.ofString "mode") = some (.int md tm)) (e5 : m (Str.ofString "kept") = some (.str (S kept) tk)) (e6 : m (Str.ofString "word") = some (.str (S wd) tw)) (e7 : m (Str.ofString "run") = some (.str X tr)) :
    readJ2 wd kept run T Z I mdx nx₀ j m nx :=
  ⟨V, vs, kv, ex, md, X, tm, tk, tw, tr, m, hnx, hex, hV, hVT, hVI, hvs, hmd, hX, kn_eq e1 (kn_eq e2 (kn_eq e3 (kn_eq e4 (kn_eq e5 (kn_eq e6 (kn_eq e7 rfl))))))⟩
theorem rNext_cut {kept : List Nat} {gap c : Nat} (h : ¬ kept = []) : Txt.mul (S [32]) (gap : Int) ++ S [c] = S (rNext kept gap c) := by
  rw [mul_blank, S_add]; unfold rNext; rw [if_neg h]
theorem rNext_one {kept : List Nat} {gap c : Nat} (h : kept = []) : S [c] = S (rNext kept gap c) := by
  unfold rNext; rw [if_pos h]
theorem rNext_asc {kept : List Nat} {gap c : Nat} (h : Sign c) : ∀ d ∈ rNext kept gap c, d < 128 := by
  intro d hd
  have : d = 32 ∨ d = c := by
    unfold rNext at hd
    split at hd
    · exact .inr (List.mem_singleton.mp hd)
    · rcases List.mem_append.mp hd with hd | hd
      · exact .inl (List.eq_of_mem_replicate hd)
      · exact .inr (List.mem_singleton.mp hd)
  rcases this with rfl | rfl
  · omega
  · rcases h with rfl | rfl | rfl | rfl | rfl | rfl | rfl | rfl <;> omega
theorem end_run {wd l run : List Nat} {g h' : Heap} {L T Z V V0 I : Addr} {kept : List Nat} {told : List (List Nat)} {ts zs vs vs' : List Value} {kt kz kv kv' i : Nat} {nx ex : List (Addr × Obj)} {oI o4 : Obj} {s₁ : Shared} {md md' g' : Int} {tm tk tg tw : Tok} {K : Str} {m' : Str → Option Value} {tks : Nat}
    (R : ReadL wd T Z V0 kept told ts zs vs kt kz kv nx) (off : ∀ p ∈ nx, p.1 ≠ I) (hst : rRun (l.take (i + 1)) = ⟨told, md', kept ++ run, 0⟩) (F : Fr g L h' m') (N : News g L h' (ex ++ (I, oI) :: (T, PySem.W.listOf ts.toArray kt) :: (V0, o4) :: nx))
    (hex : ∀ p ∈ ex, p.1 ≠ I ∧ p.1 ≠ T) (hV : (V, PySem.W.listOf vs'.toArray kv') ∈ ex ++ (I, oI) :: (T, PySem.W.listOf ts.toArray kt) :: (V0, o4) :: nx) (hVT : V ≠ T) (hVI : V ≠ I) (hvs : IntsAre vs' (savedOf (kept ++ run) wd)) (hmd : md = md') (hg : g' = 0) (hK : K = S (kept ++ run))
    (e1 : m' (Str.ofString "told") = some (.ref T)) (e2 : m' (Str.ofString "none") = some (.ref Z)) (e3 : m' (Str.ofString "saved") = some (.ref V))
    (e4 : m' (Str.ofString "mode") = some (.int md tm)) (e5 : m' (Str.ofString "kept") = some (.str K tk)) (e6 : m' (Str.ofString "gap") = some (.int g' tg)) (e7 : m' (Str.ofString "word") = some (.str (S wd) tw)) :
    LEnd g L (readJ wd l (i + 1)) I oI s₁ { s₁ with heap := h', toks := tks } := by
  subst hmd hg hK
  have hIT : I ≠ T := fun e => off _ R.hT e.symm
  refine LEnd.mk' F (news' := ex ++ nx) (fun p hp => N p ?_) (fun p hp => ?_) ⟨T, Z, V, ts, zs, vs', kt, kz, kv', tm, tk, tg, tw, m', ?_, ?_⟩
  · rcases List.mem_cons.mp hp with rfl | hp
    · exact List.mem_append_right _ (.head _)
    · rcases List.mem_append.mp hp with hp | hp
      · exact List.mem_append_left _ hp
      · exact List.mem_append_right _ (.tail _ (.tail _ (.tail _ hp)))
  · rcases List.mem_append.mp hp with hp | hp
    · exact (hex p hp).1
    · exact off p hp
  · rw [hst]
    refine ⟨List.mem_append_right _ R.hT, List.mem_append_right _ R.hZ, ?_, R.hZT, hVT, R.zs, hvs, R.tups.1, fun j k hj => ?_⟩
    · rcases List.mem_append.mp hV with h | h
      · exact List.mem_append_left _ h
      · cases h with
        | head => exact absurd rfl hVI
        | tail _ h =>
          cases h with
          | head => exact absurd rfl hVT
          | tail _ h =>
            cases h with
            | head =>
              have := (N (V, PySem.W.listOf vs'.toArray kv') (List.mem_append_right _ (.tail _ (.tail _ (.head _))))).1
              have h2 := (N _ (List.mem_append_right _ (.tail _ (.tail _ (.tail _ R.hV))))).1
              have h3 : PySem.W.listOf vs'.toArray kv' = PySem.W.listOf vs.toArray kv := Option.some.inj (this.symm.trans h2)
              rw [h3]
              exact List.mem_append_right _ R.hV
            | tail _ h => exact List.mem_append_right _ h
    · obtain ⟨a, u1, u2, n', h1, h2⟩ := R.tups.2 j k hj
      exact ⟨a, u1, u2, n', h1, List.mem_append_right _ h2⟩
  · rw [hst]; exact readM_eq e1 e2 e3 e4 e5 e6 e7

theorem end_one {wd kept run : List Nat} {g h' : Heap} {L T Z I I₂ D : Addr} {mdx md : Int} {nx₀ ex : List (Addr × Obj)} {j k d : Nat} {m' : Str → Option Value} {us : List Value} {X : Str} {tm tk tw tr : Tok} {oI oI₂ oT : Obj} {s₁ : Shared} {tks : Nat}
    (hex : ∀ p ∈ ex, p.1 ≠ I ∧ p.1 ≠ T) (off₂ : ∀ p ∈ ex ++ nx₀, p.1 ≠ I₂) (hne : ∀ p ∈ [(D, PySem.W.listOf us.toArray k)], ∀ q ∈ (I₂, oI₂) :: (ex ++ nx₀), p.1 ≠ q.1) (hI : (I, oI) ∈ nx₀) (hT : (T, oT) ∈ nx₀) (hj : run[j]? = some d)
    (hus : IntsAre us (savedOf (kept ++ run.take j ++ [d]) wd)) (hmd : md = mdx) (hX : X = S run) (F : Fr g L h' m') (N : News g L h' ([(D, PySem.W.listOf us.toArray k)] ++ (I₂, oI₂) :: (ex ++ nx₀)))
    (e1 : m' (Str.ofString "told") = some (.ref T)) (e2 : m' (Str.ofString "none") = some (.ref Z)) (e3 : m' (Str.ofString "saved") = some (.ref D))
    (e4 : m' (Str.ofString "mode") = some (.int md tm)) (e5 : m' (Str.ofString "kept") = some (.str (S kept) tk)) (e6 : m' (Str.ofString "word") = some (.str (S wd) tw)) (e7 : m' (Str.ofString "run") = some (.str X tr)) :
    LEnd g L (readJ2 wd kept run T Z I mdx nx₀ (j + 1)) I₂ oI₂ s₁ { s₁ with heap := h', toks := tks } := by
  have hD := hne _ (.head _)
  have hDI := hD _ (.tail _ (List.mem_append_right _ hI))
  have hDT := hD _ (.tail _ (List.mem_append_right _ hT))
  refine LEnd.mk' F (news' := ((D, PySem.W.listOf us.toArray k) :: ex) ++ nx₀) (fun p hp => N p ?_) (fun p hp => ?_) (readJ2_mk (ex := (D, PySem.W.listOf us.toArray k) :: ex) rfl ?_ (.head _) hDT hDI ?_ hmd hX e1 e2 e3 e4 e5 e6 e7)
  · rcases List.mem_cons.mp hp with rfl | hp
    · exact .tail _ (.head _)
    · rcases List.mem_cons.mp hp with rfl | hp
      · exact .head _
      · exact .tail _ (.tail _ hp)
  · rcases List.mem_cons.mp hp with rfl | hp
    · exact hD _ (.head _)
    · exact off₂ _ hp
  · intro p hp
    rcases List.mem_cons.mp hp with rfl | hp
    · exact ⟨hDI, hDT⟩
    · exact hex p hp
  · rw [take_snoc hj, ← List.append_assoc]; exact hus
theorem tups_more {wd : List Nat} {T D : Addr} {kept : List Nat} {told : List (List Nat)} {ts : List Value} {nx : List (Addr × Obj)} {p3 p4 p5 : Addr × Obj} {z : Int} {t1 t2 : Tok} {n : Nat} (R : TupsIn wd nx ts told) (hTn : ∀ a k z t1 t2 n, (a, tupO k z t1 t2 n) ∈ nx → a ≠ T) (hDT : D ≠ T) (hz : z = (ED kept wd : Int)) :
    TupsIn wd (p5 :: but T ((D, tupO kept z t1 t2 n) :: p3 :: p4 :: nx)) (ts ++ [.ref D]) (told ++ [kept]) := by
  subst hz
  refine ⟨by simp [R.1], fun j k hj => ?_⟩
  by_cases hlt : j < told.length
  · rw [List.getElem?_append_left hlt] at hj
    obtain ⟨a, u1, u2, n', h1, h2⟩ := R.2 j k hj
    refine ⟨a, u1, u2, n', ?_, .tail _ (mem_but (.tail _ (.tail _ (.tail _ h2))) (hTn _ _ _ _ _ _ h2))⟩
    rw [List.getElem?_append_left (by rw [R.1]; exact hlt)]; exact h1
  · have hl2 := (List.getElem?_eq_some_iff.mp hj).1
    simp at hl2
    obtain rfl : j = told.length := by omega
    simp at hj
    subst hj
    refine ⟨D, t1, t2, n, ?_, .tail _ (mem_but (.head _) hDT)⟩
    rw [← R.1]; simp
theorem flat_zero (n : Nat) : (List.replicate n [(0 : Int)]).flatten = List.replicate n 0 := by
  induction n with
  | zero => rfl
  | succ n ih => rw [List.replicate_succ, List.replicate_succ, List.flatten_cons, ih]; rfl
theorem start_read {wd l : List Nat} {T Z : Addr} {zs : List Value} {kt kz : Nat} {tm tk tg tw : Tok} {K : Str} {m : Str → Option Value} {nx : List (Addr × Obj)} {n : Nat} (hT : (T, PySem.W.listOf #[] kt) ∈ nx) (hZ : (Z, PySem.W.listOf zs.toArray kz) ∈ nx) (hne : Z ≠ T)
    (hzs : IntsAre zs (List.replicate n [(0 : Int)]).flatten) (hn : n = wd.length + 1) (hK : K = S [])
    (e1 : m (Str.ofString "told") = some (.ref T)) (e2 : m (Str.ofString "none") = some (.ref Z)) (e3 : m (Str.ofString "saved") = some (.ref Z))
    (e4 : m (Str.ofString "mode") = some (.int 0 tm)) (e5 : m (Str.ofString "kept") = some (.str K tk)) (e6 : m (Str.ofString "gap") = some (.int 0 tg)) (e7 : m (Str.ofString "word") = some (.str (S wd) tw)) : readJ wd l 0 m nx := by
  subst hK hn
  rw [flat_zero, ← savedOf_nil] at hzs
  exact ⟨T, Z, Z, [], zs, zs, kt, kz, kz, tm, tk, tg, tw, m, ⟨hT, hZ, hZ, hne, hne, hzs, hzs, rfl, fun j k hj => by simp [rRun] at hj⟩, readM_eq e1 e2 e3 e4 e5 e6 e7⟩

set_option maxRecDepth 100000 in
set_option maxHeartbeats 1000000 in
theorem c_reading (w : World) (mean : ExcName → Option Value) (mg mb : Str → Option Value) (l wd : List Nat) (tl tw : Tok) (hl : l.length ≤ 100) (hs : ∀ c ∈ l, Sign c) (hwd : wd.length ≤ 100) :
    Claim 6 w mean mg mb 61 [.str (S l) tl, .str (S wd) tw] (fun _ => True) (fun v nw => ∃ T ts k, v = .ref T ∧ (T, PySem.W.listOf ts.toArray k) ∈ nw ∧ TupsIn wd nw ts (rOut l)) := by
  w_strict (
    unfold Claim
    k_fill
    intro dp un gd cn cs a ccd cl outer A₀ base h₀ L m s Q E B F X T hk ha hdp hun hret
    walk_at "mine_enter"
    intro L' h₁ F₁ N₁ B₁ X₁ T₁
    k_fold
    have hlw : (S wd).length = wd.length := S_len _
    walk_at "mine_steps"
    walk_at "mine_for"
    walk_at "mine_steps"
    refine for_str (readJ wd l) rfl (by assumption) (by assumption) ?start ?_ ?turn ?done
    · exact start_read (by k_mem) (by k_mem) (by k_ne) (by assumption) (by omega) ofs_nil rfl rfl rfl rfl rfl rfl rfl
    · intro c hc
      rcases hs c hc with rfl | rfl | rfl | rfl | rfl | rfl | rfl | rfl <;> omega
    · intro i c t m₁ news₁ h tk I oI hi hJ off F₂ N₂
      obtain ⟨T', Z, V, ts, zs, vs, kt, kz, kv, tm, tk', tg, tw', u, R, rfl⟩ := hJ
      have hfa := rRun_facts (l.take i).length (l.take i) rfl
      have hle : (l.take i).length ≤ 100 := by rw [List.length_take]; omega
      have hst := rRun_snoc (l.take i) c
      rw [← take_snoc hi] at hst
      generalize hg : rRun (l.take i) = st at R F₂ hfa hst
      obtain ⟨told, mode, kept, gap⟩ := st
      dsimp only at R F₂ hfa
      obtain ⟨hmd, hkg, htl⟩ := hfa
      unfold readM at F₂
      have hkl : (S kept).length ≤ 1000 := by rw [S_len]; omega
      have hcl : (S [c]).length = 1 := S_len _
      change Fr s.heap L' h _ at F₂
      change News s.heap L' h _ at N₂
      have N₃ : News s.heap L' h ((I, oI) :: (T', PySem.W.listOf ts.toArray kt) :: (V, PySem.W.listOf vs.toArray kv) :: news₁) := fun p hp => by
        rcases List.mem_cons.mp hp with rfl | hp
        · exact N₂ _ (.head _)
        · rcases List.mem_cons.mp hp with rfl | hp
          · exact N₂ _ (.tail _ R.hT)
          · rcases List.mem_cons.mp hp with rfl | hp
            · exact N₂ _ (.tail _ R.hV)
            · exact N₂ _ (.tail _ hp)
      have hTn : ∀ a k z t1 t2 n, (a, tupO k z t1 t2 n) ∈ news₁ → a ≠ T' := fun a k z t1 t2 n hm => tup_ne N₂ (.tail _ R.hT) (.tail _ hm)
      clear N₂
      walk_at "mine_steps"
      · refine r_item_last (ns := savedOf kept wd) (n := savedAt kept wd wd.length) (News.isList N₃ (.tail _ (.tail _ (.head _)))) R.vs (by rw [savedOf_len]; exact savedOf_at (Nat.le_refl _)) fun t1 => ?_
        walk_at "mine_steps"
        k_dflt (refine r_append_any (by k_asm) (by k_asm) (.tail _ (.tail _ (.head _))) (by rw [PySem.sizeLine_eq, List.size_toArray, R.tups.1]; omega) ?_)
        intro h₄ F₄ N₄
        (rename (@LT.lt Nat _ I _ ∧ _) => hlt₄)
        walk_at "mine_steps"
        (rename Fr _ _ _ _ => Fz); (rename News _ _ _ _ => Nz)
        (rename ((S [c] == _) = true) => hc₄)
        rw [ofs_comma, S_beq, decide_eq_true_eq] at hc₄
        have hc₅ : c = 44 := by simpa using hc₄
        refine end_told R off hTn (by rw [S_len, S_len]; exact savedAt_price kept wd) hlt₄ ?_ Fz Nz ofs_nil rfl rfl rfl rfl rfl rfl rfl
        rw [hst]; simp [rStep, *]
      all_goals (try (exfalso; omega; done))
      all_goals simp only [ofs_back, ofs_quote, ofs_comma, ofs_blank, ofs_nil, bne, S_beq, Bool.not_eq_true', Bool.not_eq_false', decide_eq_true_eq, decide_eq_false_iff_not, List.cons.injEq, and_true] at *
      all_goals (try (exfalso; omega; done))
      all_goals first
        | ((rename Fr _ _ _ _ => Fz); (rename News _ _ _ _ => Nz)
           first
           | exact end_same (gap' := gap) R off (hst.trans (rStep_esc (by omega) (by omega))) Fz Nz rfl rfl rfl rfl rfl rfl rfl rfl rfl
           | exact end_same (gap' := gap + 1) R off (hst.trans (rStep_gap (by omega) (by omega) (by omega))) Fz Nz (by unfold rMode; (repeat' split) <;> omega) (by omega) rfl rfl rfl rfl rfl rfl rfl)
        | skip
      all_goals (
        walk_at "mine_for"
        walk_at "mine_steps"
        (rename Fr _ _ _ _ => Fz); (rename News _ _ _ _ => Nz)
        refine for_strX (l := rNext kept gap c) (readJ2 wd kept (rNext kept gap c) T' Z I (rMode mode c) ((I, oI) :: (T', PySem.W.listOf ts.toArray kt) :: (V, PySem.W.listOf vs.toArray kv) :: news₁)) (by first | exact rNext_cut (by assumption) | exact rNext_one (by assumption)) rfl Fz Nz ?_ (rNext_asc (hs c (List.mem_of_getElem? hi))) ?_ ?_
        · exact readJ2_mk (ex := []) rfl (fun p hp => nomatch hp) (.tail _ (.tail _ (.head _))) R.hVT (off _ R.hV) (by rw [List.take_zero, List.append_nil]; exact R.vs) (by unfold rMode; (repeat' split) <;> omega) (by first | exact rNext_cut (by assumption) | exact rNext_one (by assumption)) rfl rfl rfl rfl rfl rfl rfl
        · intro j d t₂ m₂ nx₂ h₂ tk₂ I₂ oI₂ hj hJ₂ off₂ F₅ N₅
          obtain ⟨V₂, vs₂, kv₂, ex, md, X₂, tm₂, tk₃, tw₂, tr₂, u₂, rfl, hex, hV₂, hVT₂, hVI₂, hvs₂, hmd₂, hX₂, rfl⟩ := hJ₂
          have hrl := rNext_len kept gap c
          change Fr s.heap L' h₂ _ at F₅
          change News s.heap L' h₂ _ at N₅
          clear Fz Nz
          walk_at "mine_steps"
          k_dflt (refine Claim.use (c_step w mean mg mb V₂ (kept ++ (rNext kept gap c).take j) wd d _ _ vs₂ hvs₂ hwd (by rw [List.length_append, List.length_take]; omega)) (by k_asm) (by k_asm) (by k_asm) (by k_asm) rfl (News.isList N₅ (.tail _ hV₂)) (by walk_at "mine_room") (by walk_at "mine_room") ?_)
          rintro v₆ h₆ tk₆ nw₆ ⟨D, us, k, rfl, rfl, hus⟩ F₆ Nn keep
          obtain ⟨N₇, hne⟩ := news_join F₅ N₅ Nn keep
          clear F₅ N₅
          try dsimp only
          walk_at "mine_steps"
          (rename Fr _ _ _ _ => Fz); (rename News _ _ _ _ => Nz)
          exact end_one hex off₂ hne (.head _) (.tail _ (.head _)) hj hus hmd₂ hX₂ Fz Nz rfl rfl rfl rfl rfl rfl rfl
        · intro m₂ nx₂ h₂ tk₂ hJ₂ F₅ N₅
          obtain ⟨V₂, vs₂, kv₂, ex, md, X₂, tm₂, tk₃, tw₂, tr₂, u₂, rfl, hex, hV₂, hVT₂, hVI₂, hvs₂, hmd₂, rfl, rfl⟩ := hJ₂
          have hrl := rNext_len kept gap c
          have hrl' : (S (rNext kept gap c)).length ≤ 200 := by rw [S_len]; omega
          rw [List.take_length] at hvs₂
          change Fr s.heap L' h₂ _ at F₅
          change News s.heap L' h₂ _ at N₅
          clear Fz Nz
          walk_at "mine_steps"
          (rename Fr _ _ _ _ => Fz); (rename News _ _ _ _ => Nz)
          exact end_run R off (hst.trans (rStep_run (by omega) (by omega) (by omega))) Fz Nz hex hV₂ hVT₂ hVI₂ hvs₂ hmd₂ rfl (S_add _ _) rfl rfl rfl rfl rfl rfl rfl)
    · intro m₁ news₁ h tk hJ F₂ N₂
      obtain ⟨T', Z, V, ts, zs, vs, kt, kz, kv, tm, tk', tg, tw', u, R, rfl⟩ := hJ
      rw [List.take_length] at R F₂
      have hfa := rRun_facts l.length l rfl
      have hro : rOut l = if (rRun l).kept = [] ∧ (rRun l).gap = 0 then (rRun l).told else (rRun l).told ++ [(rRun l).kept] := rfl
      generalize hg : rRun l = st at R F₂ hfa hro
      obtain ⟨told, mode, kept, gap⟩ := st
      dsimp only at R F₂ hfa hro
      obtain ⟨hmd, hkg, htl⟩ := hfa
      unfold readM at F₂
      have hkl : (S kept).length ≤ 1000 := by rw [S_len]; omega
      change Fr s.heap L' h _ at F₂
      change News s.heap L' h _ at N₂
      have hTn : ∀ a k z t1 t2 n, (a, tupO k z t1 t2 n) ∈ news₁ → a ≠ T' := fun a k z t1 t2 n hm => tup_ne N₂ R.hT hm
      have N₃ : News s.heap L' h ((T', PySem.W.listOf ts.toArray kt) :: (V, PySem.W.listOf vs.toArray kv) :: news₁) := fun p hp => by
        rcases List.mem_cons.mp hp with rfl | hp
        · exact N₂ _ R.hT
        · rcases List.mem_cons.mp hp with rfl | hp
          · exact N₂ _ R.hV
          · exact N₂ _ hp
      clear N₂
      walk_at "mine_steps"
      rotate_left 2
      · (rename Fr h₀ L _ _ => Fz)
        (rename ((S kept != Str.ofString "") = false) => hk₁)
        (rename (¬ (0 : Int) < (gap : Int)) => hk₂)
        rw [ofs_nil, bne, S_beq] at hk₁
        have hk₃ : kept = [] := by simpa using hk₁
        rw [if_pos ⟨hk₃, by omega⟩] at hro
        refine hret _ _ _ _ ⟨T', ts, kt, rfl, .head _, ?_⟩ Fz (news_out F N₃) (by assumption)
        rw [hro]
        refine ⟨R.tups.1, fun j k hj => ?_⟩
        obtain ⟨a, u1, u2, n', h1, h2⟩ := R.tups.2 j k hj
        exact ⟨a, u1, u2, n', h1, .tail _ (.tail _ h2)⟩
      all_goals (
        refine r_item_last (ns := savedOf kept wd) (n := savedAt kept wd wd.length) (News.isList N₃ (.tail _ (.head _))) R.vs (by rw [savedOf_len]; exact savedOf_at (Nat.le_refl _)) fun t1 => ?_
        walk_at "mine_steps"
        k_dflt (refine r_append_any (by k_asm) (by k_asm) (.tail _ (.head _)) (by rw [PySem.sizeLine_eq, List.size_toArray, R.tups.1]; omega) ?_)
        intro h₄ F₄ N₄
        (rename (@LT.lt Nat _ T' _ ∧ _) => hlt₄)
        walk_at "mine_steps"
        (rename Fr h₀ L _ _ => Fz)
        rw [if_neg (by
          rintro ⟨hk₃, hk₄⟩
          first
            | ((rename ((S kept != Str.ofString "") = true) => hk₁); rw [hk₃] at hk₁; exact absurd hk₁ (by decide +kernel))
            | ((rename ((0 : Int) < (gap : Int)) => hk₂); omega))] at hro
        rw [List.push_toArray] at N₄
        refine hret _ _ _ _ ⟨T', _, _, rfl, .head _, ?_⟩ Fz (news_out F N₄) (by assumption)
        rw [hro]
        exact tups_more R.tups hTn (fun e => absurd hlt₄.1 (by rw [e]; exact Nat.lt_irrefl _)) (by rw [S_len, S_len]; exact savedAt_price kept wd)))
end Mine

namespace Mine
theorem walk_anew_F3 : True := by (w_top off); trivial
end Mine
-- part Plain3
namespace Mine
open PySem.Calls PySem.Spec

theorem space_sign {c : Nat} (h : Sign c) : Unicode.isSpace c = decide (c = 32) := by
  rcases h with rfl | rfl | rfl | rfl | rfl | rfl | rfl | rfl <;> decide +kernel
theorem takeWhile_blanks (n : Nat) : ∀ {l : List Nat}, (∀ c, l.head? = some c → Unicode.isSpace c = false) → (List.replicate n 32 ++ l).takeWhile Unicode.isSpace = List.replicate n 32 := by
  induction n with
  | zero =>
    intro l h
    cases l with
    | nil => rfl
    | cons c l => simp [h c rfl]
  | succ n ih =>
    intro l h
    rw [List.replicate_succ, List.cons_append, List.takeWhile_cons]
    rw [show Unicode.isSpace 32 = true from by decide +kernel]
    simp only [if_true]
    rw [ih h]

/-- what stands in a part: blanks, what is kept, blanks -/
def PartIs (part kept : List Nat) (gap : Nat) : Prop :=
  (kept = [] ∧ part = List.replicate gap 32) ∨ (kept ≠ [] ∧ (∃ n, part = List.replicate n 32 ++ (kept ++ List.replicate gap 32)) ∧ (∀ c, kept.head? = some c → Unicode.isSpace c = false) ∧ (∀ c, kept.reverse.head? = some c → Unicode.isSpace c = false))
theorem strip_part {part kept : List Nat} {gap : Nat} (h : PartIs part kept gap) : Txt.strip (S part) = S kept := by
  unfold Txt.strip
  rw [PyProof.Rows.stripBy_eq]
  refine Str.ext' (Array.toList_inj.mp ?_)
  rw [StrLaws.strSub_toList, S_toList, S_toList]
  unfold stripLo stripHi
  rw [S_toList, S_len]
  simp only [if_true]
  rcases h with ⟨rfl, rfl⟩ | ⟨hne, ⟨n, rfl⟩, h1, h2⟩
  · have := takeWhile_blanks gap (l := []) (by simp)
    rw [List.append_nil] at this
    rw [this]
    simp
  · have e1 := takeWhile_blanks n (l := kept ++ List.replicate gap 32) (fun c hc => h1 c (by
      cases kept with
      | nil => exact absurd rfl hne
      | cons x r => simpa using hc))
    rw [e1]
    simp only [List.length_replicate]
    have e2 : (List.replicate n 32 ++ (kept ++ List.replicate gap 32)).drop n = kept ++ List.replicate gap 32 := by
      rw [List.drop_append_of_le_length (by simp)]
      simp
    rw [e2, List.reverse_append, List.reverse_replicate]
    have e3 := takeWhile_blanks gap (l := kept.reverse) h2
    rw [e3]
    simp only [List.length_append, List.length_replicate]
    rw [show n + (kept.length + gap) - gap - n = kept.length from by omega]
    simp
theorem part_blank {part kept : List Nat} {gap : Nat} (h : PartIs part kept gap) : PartIs (part ++ [32]) kept (gap + 1) := by
  rcases h with ⟨rfl, rfl⟩ | ⟨hne, ⟨n, rfl⟩, h1, h2⟩
  · exact .inl ⟨rfl, by rw [List.replicate_succ']⟩
  · exact .inr ⟨hne, ⟨n, by rw [List.replicate_succ']; simp⟩, h1, h2⟩
theorem part_sign {part kept : List Nat} {gap c : Nat} (h : PartIs part kept gap) (hc : Unicode.isSpace c = false) : PartIs (part ++ [c]) (kept ++ rNext kept gap c) 0 := by
  rcases h with ⟨rfl, rfl⟩ | ⟨hne, ⟨n, rfl⟩, h1, h2⟩
  · refine .inr ⟨by simp [rNext], ⟨gap, by simp [rNext]⟩, ?_, ?_⟩
    · intro d hd; simp [rNext] at hd; rw [← hd]; exact hc
    · intro d hd; simp [rNext] at hd; rw [← hd]; exact hc
  · have e : rNext kept gap c = List.replicate gap 32 ++ [c] := by unfold rNext; rw [if_neg hne]
    refine .inr ⟨by rw [e]; simp, ⟨n, by rw [e]; simp⟩, ?_, ?_⟩
    · intro d hd
      refine h1 d ?_
      cases kept with
      | nil => exact absurd rfl hne
      | cons x r => simpa using hd
    · intro d hd; rw [e] at hd; simp at hd; rw [← hd]; exact hc

structure Rel (p : PS) (r : RS) : Prop where
  items : (p.res.map fun x => Txt.strip (S x)) = r.told.map S
  part : PartIs p.part r.kept r.gap
  mode : (r.mode = 0 ∧ p.quo = false ∧ p.esc = false) ∨ (r.mode = 1 ∧ p.quo = true ∧ p.esc = false) ∨ (r.mode = 2 ∧ p.quo = true ∧ p.esc = true)
theorem rel_sign {p : PS} {r : RS} {c : Nat} {md : Int} {q e : Bool} (h : Rel p r) (hc : Sign c) (hm : (md = 0 ∧ q = false ∧ e = false) ∨ (md = 1 ∧ q = true ∧ e = false) ∨ (md = 2 ∧ q = true ∧ e = true)) :
    Rel ⟨p.res, p.part ++ [c], e, q⟩ (if c = 32 then ⟨r.told, md, r.kept, r.gap + 1⟩ else ⟨r.told, md, r.kept ++ rNext r.kept r.gap c, 0⟩) := by
  by_cases h32 : c = 32
  · rw [if_pos h32]
    subst h32
    exact ⟨h.items, part_blank h.part, hm⟩
  · rw [if_neg h32]
    exact ⟨h.items, part_sign h.part (by rw [space_sign hc]; simp [h32]), hm⟩
theorem rel_step {p : PS} {r : RS} {c : Nat} (h : Rel p r) (hc : Sign c) : Rel (pStep p c) (rStep r c) := by
  obtain ⟨res, part, esc, quo⟩ := p
  obtain ⟨told, mode, kept, gap⟩ := r
  have hm := h.mode
  dsimp only at hm
  rcases hm with ⟨rfl, rfl, rfl⟩ | ⟨rfl, rfl, rfl⟩ | ⟨rfl, rfl, rfl⟩
  · by_cases h44 : c = 44
    · subst h44
      refine ⟨?_, .inl ⟨rfl, rfl⟩, .inl ⟨rfl, rfl, rfl⟩⟩
      have h1 := h.items
      have h2 := strip_part h.part
      simp only [pStep, rStep] at *
      simp [h1, h2]
    · by_cases h34 : c = 34
      · subst h34
        have := rel_sign (md := 1) (q := true) (e := false) h hc (.inr (.inl ⟨rfl, rfl, rfl⟩))
        simpa [pStep, rStep, rMode] using this
      · have := rel_sign (md := 0) (q := false) (e := false) h hc (.inl ⟨rfl, rfl, rfl⟩)
        by_cases h32 : c = 32
        · subst h32; simpa [pStep, rStep, rMode] using this
        · simpa [pStep, rStep, rMode, h44, h34, h32] using this
  · by_cases h92 : c = 92
    · subst h92
      refine ⟨?_, ?_, ?_⟩
      · simpa [pStep, rStep] using h.items
      · simpa [pStep, rStep] using h.part
      · simp [pStep, rStep]
    · by_cases h34 : c = 34
      · subst h34
        have := rel_sign (md := 0) (q := false) (e := false) h hc (.inl ⟨rfl, rfl, rfl⟩)
        simpa [pStep, rStep, rMode] using this
      · have := rel_sign (md := 1) (q := true) (e := false) h hc (.inr (.inl ⟨rfl, rfl, rfl⟩))
        by_cases h32 : c = 32
        · subst h32; simpa [pStep, rStep, rMode] using this
        · simpa [pStep, rStep, rMode, h92, h34, h32] using this
  · have := rel_sign (md := 1) (q := true) (e := false) h hc (.inr (.inl ⟨rfl, rfl, rfl⟩))
    by_cases h32 : c = 32
    · subst h32; simpa [pStep, rStep, rMode] using this
    · simpa [pStep, rStep, rMode, h32] using this
theorem rel_run (n : Nat) : ∀ l : List Nat, l.length = n → (∀ c ∈ l, Sign c) → Rel (pRun l) (rRun l) := by
  induction n with
  | zero => intro l h _; rw [List.length_eq_zero_iff.mp h]; exact ⟨rfl, .inl ⟨rfl, rfl⟩, .inl ⟨rfl, rfl, rfl⟩⟩
  | succ n ih =>
    intro l h hs
    rcases snoc_cases l with rfl | ⟨l', c, rfl⟩
    · simp at h
    · have h' : l'.length = n := by simpa using h
      rw [pRun_snoc, rRun_snoc]
      exact rel_step (ih l' h' fun d hd => hs d (List.mem_append_left _ hd)) (hs c (List.mem_append_right _ (.head _)))
theorem items_same {l : List Nat} (hs : ∀ c ∈ l, Sign c) : ((pOut l).map fun x => Txt.strip (S x)) = (rOut l).map S := by
  have h := rel_run l.length l rfl hs
  have h2 := strip_part h.part
  have hp : (pRun l).part = [] ↔ ((rRun l).kept = [] ∧ (rRun l).gap = 0) := by
    rcases h.part with ⟨h1, h3⟩ | ⟨h1, ⟨n, h3⟩, _⟩
    · rw [h3]; simp [h1]
    · rw [h3]; simp [h1]
  unfold pOut rOut
  by_cases hq : (pRun l).part = []
  · rw [if_pos hq, if_pos (hp.mp hq), h.items]
  · rw [if_neg hq, if_neg (fun x => hq (hp.mpr x)), List.map_append, List.map_append, h.items]
    simp [h2]

theorem rNext_signs {kept : List Nat} {gap c : Nat} (hc : Sign c) : ∀ d ∈ rNext kept gap c, Sign d := by
  intro d hd
  unfold rNext at hd
  split at hd
  · rw [List.mem_singleton.mp hd]; exact hc
  · rcases List.mem_append.mp hd with hd | hd
    · rw [List.eq_of_mem_replicate hd]; simp [Sign]
    · rw [List.mem_singleton.mp hd]; exact hc
theorem rStep_signs {r : RS} {c : Nat} (hc : Sign c) (h : (∀ d ∈ r.kept, Sign d) ∧ ∀ k ∈ r.told, ∀ d ∈ k, Sign d) : (∀ d ∈ (rStep r c).kept, Sign d) ∧ ∀ k ∈ (rStep r c).told, ∀ d ∈ k, Sign d := by
  unfold rStep
  repeat' split
  · refine ⟨by simp, fun k hk => ?_⟩
    rcases List.mem_append.mp hk with hk | hk
    · exact h.2 k hk
    · rw [List.mem_singleton.mp hk]; exact h.1
  · exact h
  · exact h
  · refine ⟨fun d hd => ?_, h.2⟩
    rcases List.mem_append.mp hd with hd | hd
    · exact h.1 d hd
    · exact rNext_signs hc d hd
theorem rRun_signs (n : Nat) : ∀ l : List Nat, l.length = n → (∀ c ∈ l, Sign c) → (∀ d ∈ (rRun l).kept, Sign d) ∧ ∀ k ∈ (rRun l).told, ∀ d ∈ k, Sign d := by
  induction n with
  | zero => intro l h _; rw [List.length_eq_zero_iff.mp h]; exact ⟨by simp [rRun], by simp [rRun]⟩
  | succ n ih =>
    intro l h hs
    rcases snoc_cases l with rfl | ⟨l', c, rfl⟩
    · simp at h
    · have h' : l'.length = n := by simpa using h
      rw [rRun_snoc]
      exact rStep_signs (hs c (List.mem_append_right _ (.head _))) (ih l' h' fun d hd => hs d (List.mem_append_left _ hd))
theorem rStep_small {r : RS} {c n : Nat} (h : r.kept.length + r.gap ≤ n ∧ ∀ k ∈ r.told, k.length ≤ n) : (rStep r c).kept.length + (rStep r c).gap ≤ n + 1 ∧ ∀ k ∈ (rStep r c).told, k.length ≤ n + 1 := by
  have h4 := rNext_len r.kept r.gap c
  unfold rStep
  repeat' split
  · refine ⟨by simp, fun k hk => ?_⟩
    rcases List.mem_append.mp hk with hk | hk
    · exact Nat.le_succ_of_le (h.2 k hk)
    · rw [List.mem_singleton.mp hk]; omega
  · exact ⟨by dsimp only; omega, fun k hk => Nat.le_succ_of_le (h.2 k hk)⟩
  · exact ⟨by dsimp only; omega, fun k hk => Nat.le_succ_of_le (h.2 k hk)⟩
  · exact ⟨by simp only [List.length_append]; omega, fun k hk => Nat.le_succ_of_le (h.2 k hk)⟩
theorem rRun_small (n : Nat) : ∀ l : List Nat, l.length = n → (rRun l).kept.length + (rRun l).gap ≤ n ∧ ∀ k ∈ (rRun l).told, k.length ≤ n := by
  induction n with
  | zero => intro l h; rw [List.length_eq_zero_iff.mp h]; exact ⟨by simp [rRun], by simp [rRun]⟩
  | succ n ih =>
    intro l h
    rcases snoc_cases l with rfl | ⟨l', c, rfl⟩
    · simp at h
    · have h' : l'.length = n := by simpa using h
      rw [rRun_snoc]
      exact rStep_small (ih l' h')
theorem rOut_facts {l k : List Nat} (hs : ∀ c ∈ l, Sign c) (hk : k ∈ rOut l) : k.length ≤ l.length ∧ ∀ d ∈ k, Sign d := by
  have h1 := rRun_signs l.length l rfl hs
  have h2 := rRun_small l.length l rfl
  unfold rOut at hk
  split at hk
  · exact ⟨h2.2 k hk, h1.2 k hk⟩
  · rcases List.mem_append.mp hk with hk | hk
    · exact ⟨h2.2 k hk, h1.2 k hk⟩
    · rw [List.mem_singleton.mp hk]; exact ⟨by omega, h1.1⟩
theorem rOut_num (l : List Nat) : (rOut l).length ≤ l.length + 1 := by
  have := (rRun_facts l.length l rfl).2.2
  unfold rOut
  split
  · omega
  · simp; omega
end Mine

-- part Step2
namespace Mine
open PySem.Calls PySem.Spec

section
variable {prog : Program} {w : World} {A : Around} {E : Value → Shared → Prop} {s : Shared} {h₀ : Heap} {L : Addr} {m : Str → Option Value} {env : Env}
/-- a comprehension over a range by steps -/
def SrcS (prog : Program) (w : World) (A : Around) (h₀ : Heap) (L : Addr) (m : Str → Option Value) (env : Env) (elt : Expr) (x : Str) (scope : Scope) (cl : List (Str × Addr)) (Fin : Shared → List Value → List (Addr × Obj) → Prop) (xv : Value) (s₁ : Shared) : Prop :=
  ∃ r a b c t u v n news, xv = .ref r ∧ A.handled = none ∧ Fr h₀ L s₁.heap m ∧ News h₀ L s₁.heap news ∧ IsRange s₁.heap r a b c t u v ∧ Builtin.Range.small a b c = true ∧ Builtin.Range.rangeSize a b c = ((n : Nat) : Int) ∧ n ≤ sizeLine ∧
    ∀ s₂ : Shared, (∃ h, s₂ = { s₁ with heap := h }) → LCg.CompRest prog w A h₀ L m env elt x scope cl s₂ (fun _ => True) (fun i v => ∃ t, v = .int (a + (i : Nat) * c) t) (Fin s₂) n 0 [] news
theorem steps_st {I : Addr} {a c : Int} {n : Nat} : ∀ i (h h' : Heap) (o : Obj) (nw : List (Addr × Obj)), IsRangeIter h I (a + (i : Nat) * c) ((n : Int) - (i : Nat)) c → h.get? I = some o → h'.get? I = some o → (∀ b o, h₀.get? b = some o → h'.get? b = some o) → News h₀ L h' nw → True → IsRangeIter h' I (a + (i : Nat) * c) ((n : Int) - (i : Nat)) c :=
  fun i h h' o nw st e e' _ _ _ => by
    have st' : h.get? I = some _ := st
    show h'.get? I = some _
    rw [e', ← e]; exact st'

theorem Assign_comp_steps {elt iter : Expr} {x y : Str} {px py : Pos} {scope : Scope} {cl : List (Str × Addr)} {pos spos : Pos} {Q : Flow → Shared → Prop} (_F₀ : Fr h₀ L s.heap m) (hLe : env.locals = L)
    (hsw : swapsWith (.ListComp elt [⟨.Name x px, iter, [], 0⟩] scope pos) (some (.Name y py)) spos.line env = pure true)
    (hclos : closureFor scope env = pure cl) (hcell : ∀ z ∈ scope.names, z.2 ≠ .cell) (hkind : scope.kind = .function)
    (hnames : ∀ z ∈ scope.names, z.2 = .local → scope.names.lookup z.1 = some .local) (hx : scope.names.lookup x = some .local)
    (hy : env.kindOf y = some .local) (hp : (env.scope.kind == .class || (env.scope.kind == .module && env.locals != env.globals)) = false)
    (h : wpAny (model prog w) A (eval iter env) (SrcS prog w A h₀ L m env elt x scope cl (fun s₂ => LCg.FinA h₀ L m s₂ y Q)) E s)
    (hs : ∀ x, foldedSetIterable iter env x = pure x := by intro _; rfl) :
    wpAny (model prog w) A (exec (.Assign [.Name y py] (.ListComp elt [⟨.Name x px, iter, [], 0⟩] scope pos) spos) env) Q E s := by
  subst hLe
  rw [exec_Assign_Name_used _ _ _ _ hsw]
  refine wpAny_bind (wpAny_standAt (wpAny_bind ?_))
  show wpAny _ A (do let _ ← comprehension (.ListComp elt [⟨.Name x px, iter, [], 0⟩] scope pos) scope env _ (newList []) false (eval iter env) (some (assign (.Name y py) env))) _ _ s
  refine wpAny_bind (wpAny_mono (wpAny_comprehension_free (use := some (assign (.Name y py) env)) (Q := fun _ s' => Q .next s') rfl hs hclos hkind hnames
    (wpAny_mono h (fun xv s₁ h₁ => ?_) fun _ _ e => e)) (fun _ s' hq => wpAny_pure (wpAny_pure hq)) fun _ _ e => e)
  obtain ⟨r, a, b, c, t, u, v, n, news, rfl, hh, F, N, hr, hsm, hn, hsz, R⟩ := h₁
  refine wpAny_pyIter_range hr hsm ?_
  refine LCg.block_U (Walks.range hh s₁.heap.objs.size a c n) hsz (fun i h st => ⟨_, st⟩) steps_st hcell hkind hx (by show IsRangeIter _ _ _ _ _; rw [hn]; simpa using Heap.get?_push_size _ rfl) (fun b hb => ?_)
    (F.keeps fun _ _ e => Heap.get?_push_of_some _ e) (N.grown fun _ _ e => Heap.get?_push_of_some _ e) (Nat.ne_of_lt F.ns.lt) (next_is_new F) (fun p hp => Nat.ne_of_lt (Heap.lt_size (N p hp).1)) trivial (R _ ⟨_, rfl⟩) ?_
  · rw [List.mem_singleton.mp hb]
    show s₁.heap.objs.size < (s₁.heap.push _).objs.size
    rw [Heap.size_push]; exact Nat.lt_succ_self _
  · intro D C h' tk m' ys news' F' N' o1 hn hC₀ hD₀ hCL hDL hCD offC fin
    show wpAny _ A (assign (.Name y py) env (.ref D)) _ _ _
    refine wpAny_assign_Name (wpAny_storeName_local hy F'.ns (fun h₂ hn₂ hs₂ => ?_) hp)
    have hL₀ : h₀.get? env.locals = none := Heap.get?_none_of_le F'.above
    have F₂ : Fr h₀ env.locals h₂ (fun z => if z = y then some (.ref D) else m z) := ⟨hn₂, fun b o e => hs₂.extBut b o (fun q => by rw [q, hL₀] at e; cases e) (F'.keep b o e), F'.above⟩
    refine ⟨m', hn.sameBut hs₂ hCL, fun h'' hs'' => fin D h'' _ (F₂.change hs'' hCL hC₀) (fun p hp => ?_) o1⟩
    have z : h₂.get? p.1 = some p.2 := hs₂.extBut _ _ (N' p hp).2.1 (N' p hp).1
    refine ⟨hs''.extBut _ _ ?_ z, (N' p hp).2⟩
    rcases List.mem_cons.mp hp with rfl | hp
    · exact Ne.symm hCD
    · exact offC p hp
end
end Mine

-- part F5
namespace Mine
open PySem.Calls PySem.Spec

local macro_rules | `(tactic| walk_at "mine_enter") => `(tactic| (
  refine wpAny_call ?_
  k_dflt (refine' enterF ?k1 ?k2 ?k3 ?k5 ?kA ?kF ?kK ?k6 ?k7 ?k8 ?k9 ?kB ?_ ?c2 ?c3 ?c4 ?c5; (case kA => exact rfl); (case kF => exact rfl); (case kK => assumption); (case k1 => k_asm); (case k2 => k_asm); (case k3 => k_asm); (case k5 => k_asm); (case k6 => k_is); (case k7 => k_is); (case k8 => (dsimp only [ktrTop]; omega)); (case k9 => exact BindsTo.of_eq rfl); (case c5 => decide); (case kB => exact locs rfl); (case c2 => exact rfl); (case c3 => exact rfl); (case c4 => exact rfl); k_whole)))
local macro_rules | `(tactic| walk_at "mine_steps") => `(tactic| repeat' (first
  | (k_unfold; (try dsimp only))
  | ((fail_if_success (with_reducible show wpAny _ _ (exec (Stmt.For _ _ _ _ _) _) _ _ _)); (fail_if_success (with_reducible show wpAny _ _ (exec (Stmt.While _ _ _ _) _) _ _ _)); (fail_if_success (with_reducible show wpAny _ _ (call (Value.ref _) _) _ _ _)); (fail_if_success (with_reducible show wpAny _ _ (pyIter _) _ _ _)); (fail_if_success (with_reducible show wpAny _ _ (call (Value.builtin "list.append") _) _ _ _)); (fail_if_success (with_reducible show wpAny _ _ (subscriptTail _ _ _ (Value.int _ _)) _ _ _)); (fail_if_success (with_reducible show LCg.CompSrc _ _ _ _ _ _ _ _ _ _ _ _ _ _)); (fail_if_success (with_reducible show LCg.CompEnd _ _ _ _ _ _ _ _ _ _ _ _ _ _)); (fail_if_success (with_reducible show wpAny _ _ (eval (Expr.ListComp _ _ _ _) _) _ _ _)); (fail_if_success (with_reducible show wpAny _ _ (exec (Stmt.Assign _ (Expr.ListComp _ _ _ _) _) _) _ _ _)); (first | walk1 | (dsimp only; walk1)))
  | fail "no step"))
local macro_rules | `(tactic| walk_at "mine_cut") => `(tactic| repeat' (first
  | (k_unfold; (try dsimp only))
  | ((fail_if_success (with_reducible show wpAny _ _ (exec (Stmt.For _ _ _ _ _) _) _ _ _)); (fail_if_success (with_reducible show wpAny _ _ (exec (Stmt.While _ _ _ _) _) _ _ _)); (fail_if_success (with_reducible show wpAny _ _ (call (Value.ref _) _) _ _ _)); (fail_if_success (with_reducible show wpAny _ _ (pyIter _) _ _ _)); (fail_if_success (with_reducible show wpAny _ _ (call (Value.builtin "list.append") _) _ _ _)); (fail_if_success (with_reducible show wpAny _ _ (subscriptTail _ _ _ (Value.int _ _)) _ _ _)); (fail_if_success (with_reducible show LCg.CompSrc _ _ _ _ _ _ _ _ _ _ _ _ _ _)); (fail_if_success (with_reducible show LCg.CompEnd _ _ _ _ _ _ _ _ _ _ _ _ _ _)); (fail_if_success (with_reducible show wpAny _ _ (eval (Expr.ListComp _ _ _ _) _) _ _ _)); (fail_if_success (with_reducible show wpAny _ _ (exec (Stmt.Assign _ (Expr.ListComp _ _ _ _) _) _) _ _ _)); (fail_if_success (with_reducible show wpAny _ _ (subscriptTail _ (Expr.Slice none (some _) _ _) _ (Value.ref _)) _ _ _)); (first | walk1 | (dsimp only; walk1)))
  | fail "no step"))
local macro_rules | `(tactic| walk_at "mine_cutif") => `(tactic| repeat' (first
  | (k_unfold; (try dsimp only))
  | ((fail_if_success (with_reducible show wpAny _ _ (exec (Stmt.For _ _ _ _ _) _) _ _ _)); (fail_if_success (with_reducible show wpAny _ _ (exec (Stmt.While _ _ _ _) _) _ _ _)); (fail_if_success (with_reducible show wpAny _ _ (call (Value.ref _) _) _ _ _)); (fail_if_success (with_reducible show wpAny _ _ (pyIter _) _ _ _)); (fail_if_success (with_reducible show wpAny _ _ (call (Value.builtin "list.append") _) _ _ _)); (fail_if_success (with_reducible show wpAny _ _ (subscriptTail _ _ _ (Value.int _ _)) _ _ _)); (fail_if_success (with_reducible show LCg.CompSrc _ _ _ _ _ _ _ _ _ _ _ _ _ _)); (fail_if_success (with_reducible show LCg.CompEnd _ _ _ _ _ _ _ _ _ _ _ _ _ _)); (fail_if_success (with_reducible show wpAny _ _ (eval (Expr.ListComp _ _ _ _) _) _ _ _)); (fail_if_success (with_reducible show wpAny _ _ (exec (Stmt.Assign _ (Expr.ListComp _ _ _ _) _) _) _ _ _)); (fail_if_success (with_reducible show wpAny _ _ (subscriptTail _ (Expr.Slice none (some _) _ _) _ (Value.ref _)) _ _ _)); (fail_if_success (with_reducible show wpAny _ _ (exec (Stmt.If _ _ _ _) _) _ _ _)); (first | walk1 | (dsimp only; walk1)))
  | fail "no step"))
local macro_rules | `(tactic| walk_at "mine_swap") => `(tactic| repeat' (first
  | (k_unfold; (try dsimp only))
  | ((fail_if_success (with_reducible show wpAny _ _ (exec (Stmt.For _ _ _ _ _) _) _ _ _)); (fail_if_success (with_reducible show wpAny _ _ (exec (Stmt.While _ _ _ _) _) _ _ _)); (fail_if_success (with_reducible show wpAny _ _ (call (Value.ref _) _) _ _ _)); (fail_if_success (with_reducible show wpAny _ _ (pyIter _) _ _ _)); (fail_if_success (with_reducible show wpAny _ _ (call (Value.builtin "list.append") _) _ _ _)); (fail_if_success (with_reducible show wpAny _ _ (subscriptTail _ _ _ (Value.int _ _)) _ _ _)); (fail_if_success (with_reducible show LCg.CompSrc _ _ _ _ _ _ _ _ _ _ _ _ _ _)); (fail_if_success (with_reducible show LCg.CompEnd _ _ _ _ _ _ _ _ _ _ _ _ _ _)); (fail_if_success (with_reducible show wpAny _ _ (eval (Expr.ListComp _ _ _ _) _) _ _ _)); (fail_if_success (with_reducible show wpAny _ _ (exec (Stmt.Assign _ (Expr.ListComp _ _ _ _) _) _) _ _ _)); (fail_if_success (with_reducible show wpAny _ _ (exec (Stmt.If (Expr.Compare _ [CmpOp.Lt] _ _) _ _ _) _) _ _ _)); (first | walk1 | (dsimp only; walk1)))
  | fail "no step"))
local macro_rules | `(tactic| walk_at "mine_dp") => `(tactic| repeat' (first
  | (k_unfold; (try dsimp only))
  | ((fail_if_success (with_reducible show wpAny _ _ (exec (Stmt.For _ _ _ _ _) _) _ _ _)); (fail_if_success (with_reducible show wpAny _ _ (exec (Stmt.While _ _ _ _) _) _ _ _)); (fail_if_success (with_reducible show wpAny _ _ (call (Value.ref _) _) _ _ _)); (fail_if_success (with_reducible show wpAny _ _ (pyIter _) _ _ _)); (fail_if_success (with_reducible show wpAny _ _ (call (Value.builtin "list.append") _) _ _ _)); (fail_if_success (with_reducible show wpAny _ _ (subscriptTail _ _ _ (Value.int _ _)) _ _ _)); (fail_if_success (with_reducible show LCg.CompSrc _ _ _ _ _ _ _ _ _ _ _ _ _ _)); (fail_if_success (with_reducible show LCg.CompEnd _ _ _ _ _ _ _ _ _ _ _ _ _ _)); (fail_if_success (with_reducible show wpAny _ _ (eval (Expr.ListComp _ _ _ _) _) _ _ _)); (fail_if_success (with_reducible show wpAny _ _ (exec (Stmt.Assign _ (Expr.ListComp _ _ _ _) _) _) _ _ _)); (fail_if_success (with_reducible show wpAny _ _ (setItem _ _ _) _ _ _)); (fail_if_success (with_reducible show wpAny _ _ (call (Value.type "list") _) _ _ _)); (first | walk1 | (dsimp only; walk1)))
  | fail "no step"))
local macro_rules | `(tactic| walk_at "call builtin:min") => `(tactic| ((with_reducible show wpAny _ _ (call (Value.builtin "min") [Value.int _ _, Value.int _ _]) _ _ _); with_unfolding_all refine r_min2 (by with_unfolding_all rfl) (by k_asm) (by k_asm) ?_; intro _ _ _ _ _; (try k_sweep)))
local macro_rules | `(tactic| walk_at "mine_for") => `(tactic| ((with_reducible rename Fr _ _ _ _ => lF'); (with_unfolding_all refine' For_invVF lF' ?k1 ?k2 ?_; (case k1 => exact rfl); (case k2 => exact rfl)); k_whole))
local macro_rules | `(tactic| walk_at "mine_room") => `(tactic| ((try dsimp only [ktrTop]); omega))

def LevOk (la lb : List Nat) (mx r : Int) : Prop := r = (ED la lb : Int) ∨ (r = mx + 1 ∧ mx + 1 ≤ (ED la lb : Int))

def levA (a b : List Nat) (mx : Int) (ta tb tm : Tok) (u : Str → Option Value) : Str → Option Value :=
  kn (Str.ofString "a") (.str (S a) ta) (kn (Str.ofString "b") (.str (S b) tb) (kn (Str.ofString "max_cost") (.int mx tm) u))
theorem levA_eq {m : Str → Option Value} {a b : List Nat} {mx : Int} {ta tb tm : Tok} (e1 : m (Str.ofString "a") = some (.str (S a) ta)) (e2 : m (Str.ofString "b") = some (.str (S b) tb)) (e3 : m (Str.ofString "max_cost") = some (.int mx tm)) : m = levA a b mx ta tb tm m :=
  kn_eq e1 (kn_eq e2 (kn_eq e3 rfl))
def preJ (a b : List Nat) (mx : Int) (n : Nat) (m : Str → Option Value) (nx : List (Addr × Obj)) : Prop :=
  ∃ (k : Nat) (ta tb tm tp : Tok) (u : Str → Option Value), nx = [] ∧ k ≤ a.length ∧ k ≤ b.length ∧ n = a.length - k ∧ ED (a.drop k) (b.drop k) = ED a b ∧
    m = kn (Str.ofString "pre") (.int (k : Int) tp) (levA a b mx ta tb tm u)

theorem drop_at {a : List Nat} {k x : Nat} (h : a[k]? = some x) : a.drop k = x :: a.drop (k + 1) := by
  have hlt := (List.getElem?_eq_some_iff.mp h).1
  rw [List.drop_eq_getElem_cons hlt]
  congr 1
  exact (List.getElem?_eq_some_iff.mp h).2
theorem pre_step {a b : List Nat} {k x : Nat} (ha : a[k]? = some x) (hb : b[k]? = some x) (h : ED (a.drop k) (b.drop k) = ED a b) : ED (a.drop (k + 1)) (b.drop (k + 1)) = ED a b := by
  rw [← h, drop_at ha, drop_at hb, ED_same]
theorem take_at {a : List Nat} {j x : Nat} (hj : j < a.length) (h : a[a.length - j - 1]? = some x) : a.take (a.length - j) = a.take (a.length - (j + 1)) ++ [x] := by
  have e : a.length - j = (a.length - j - 1) + 1 := by omega
  rw [e, take_snoc h, show a.length - (j + 1) = a.length - j - 1 from by omega]
theorem post_step {a b : List Nat} {j x : Nat} (hja : j < a.length) (hjb : j < b.length) (ha : a[a.length - j - 1]? = some x) (hb : b[b.length - j - 1]? = some x) (h : ED (a.take (a.length - j)) (b.take (b.length - j)) = ED a b) :
    ED (a.take (a.length - (j + 1))) (b.take (b.length - (j + 1))) = ED a b := by
  rw [← h, take_at hja ha, take_at hjb hb, ED_same']
def postJ (a b : List Nat) (mx : Int) (n : Nat) (m : Str → Option Value) (nx : List (Addr × Obj)) : Prop :=
  ∃ (j : Nat) (ta tb tm tp : Tok) (u : Str → Option Value), nx = [] ∧ j ≤ a.length ∧ j ≤ b.length ∧ n = a.length - j ∧ ED (a.take (a.length - j)) (b.take (b.length - j)) = ED a b ∧
    m = kn (Str.ofString "post") (.int (-(j : Int)) tp) (levA a b mx ta tb tm u)

theorem range_two_small : ∀ n : Nat, n < 41 → Builtin.Range.small 2 (2 * ((n : Int) + 1)) 2 = true ∧ Builtin.Range.rangeSize 2 (2 * ((n : Int) + 1)) 2 = (n : Int) := by decide +kernel
theorem row_first (a b : List Nat) : ((List.range a.length).map fun (i : Nat) => (2 : Int) + (i : Int) * 2) = rowMid a b 0 0 := by
  rw [rowMid_start]
  apply List.map_congr_left
  intro k _
  omega
def levJ (a b : List Nat) (mx : Int) (i : Nat) (m : Str → Option Value) (nx : List (Addr × Obj)) : Prop :=
  ∃ D us k res tr ta tb tm u, nx = [(D, PySem.W.listOf us.toArray k)] ∧ IntsAre us (rowMid a b i 0) ∧ (0 < i → res = (ED (b.take i) a : Int)) ∧
    m = kn (Str.ofString "row") (.ref D) (kn (Str.ofString "result") (.int res tr) (levA a b mx ta tb tm u))
def levK (a b : List Nat) (mx : Int) (i c : Nat) (D : Addr) (base : List (Addr × Obj)) (j : Nat) (m : Str → Option Value) (nx : List (Addr × Obj)) : Prop :=
  ∃ us k dist res mn td tr tn tc ta tb tm u, nx = base ++ [(D, PySem.W.listOf us.toArray k)] ∧ IntsAre us (rowMid a b i j) ∧ dist = (ED (b.take i) (a.take j) : Int) ∧ res = resAt a b i j ∧ (∀ j', j' < j → mn ≤ (ED (b.take (i + 1)) (a.take (j' + 1)) : Int)) ∧
    m = kn (Str.ofString "row") (.ref D) (kn (Str.ofString "distance") (.int dist td) (kn (Str.ofString "result") (.int res tr) (kn (Str.ofString "minimum") (.int mn tn) (kn (Str.ofString "bchar") (.str (S [c]) tc) (levA a b mx ta tb tm u)))))
theorem levK_mk {a b : List Nat} {mx : Int} {i c : Nat} {D : Addr} {base nx : List (Addr × Obj)} {j k : Nat} {m : Str → Option Value} {us : List Value} {dist res mn : Int} {td tr tn tc ta tb tm : Tok}
    (hnx : nx = base ++ [(D, PySem.W.listOf us.toArray k)]) (hus : IntsAre us (rowMid a b i j)) (hd : dist = (ED (b.take i) (a.take j) : Int)) (hr : res = resAt a b i j) (hm : ∀ j', j' < j → mn ≤ (ED (b.take (i + 1)) (a.take (j' + 1)) : Int))
    (e1 : m (Str.ofString "row") = some (.ref D)) (e2 : m (Str.ofString "distance") = some (.int dist td)) (e3 : m (Str.ofString "result") = some (.int res tr)) (e4 : m (Str.ofString "minimum") = some (.int mn tn)) (e5 : m (Str.ofString "bchar") = some (.str (S [c]) tc))
    (e6 : m (Str.ofString "a") = some (.str (S a) ta)) (e7 : m (Str.ofString "b") = some (.str (S b) tb)) (e8 : m (Str.ofString "max_cost") = some (.int mx tm)) : levK a b mx i c D base j m nx :=
  ⟨us, k, dist, res, mn, td, tr, tn, tc, ta, tb, tm, m, hnx, hus, hd, hr, hm, kn_eq e1 (kn_eq e2 (kn_eq e3 (kn_eq e4 (kn_eq e5 (levA_eq e6 e7 e8)))))⟩
theorem levJ_mk {a b : List Nat} {mx : Int} {D : Addr} {nx : List (Addr × Obj)} {i k : Nat} {m : Str → Option Value} {us : List Value} {res : Int} {tr ta tb tm : Tok}
    (hnx : nx = [(D, PySem.W.listOf us.toArray k)]) (hus : IntsAre us (rowMid a b i 0)) (hr : 0 < i → res = (ED (b.take i) a : Int))
    (e1 : m (Str.ofString "row") = some (.ref D)) (e3 : m (Str.ofString "result") = some (.int res tr))
    (e6 : m (Str.ofString "a") = some (.str (S a) ta)) (e7 : m (Str.ofString "b") = some (.str (S b) tb)) (e8 : m (Str.ofString "max_cost") = some (.int mx tm)) : levJ a b mx i m nx :=
  ⟨D, us, k, res, tr, ta, tb, tm, m, hnx, hus, hr, kn_eq e1 (kn_eq e3 (levA_eq e6 e7 e8))⟩
theorem levK_row {a b : List Nat} {i j c d : Nat} {us : List Value} {dist res x : Int} {u : Tok} (hc : b[i]? = some c) (hd : a[j]? = some d) (hus : IntsAre us (rowMid a b i j)) (hdist : dist = (ED (b.take i) (a.take j) : Int)) (hres : res = resAt a b i j)
    (hx : x = min (min res (rowAt a b i j j) + 2) (dist + (sub c d : Int))) : x = (ED (b.take (i + 1)) (a.take (j + 1)) : Int) ∧ IntsAre (us.set j (.int x u)) (rowMid a b i (j + 1)) := by
  have e : x = (ED (b.take (i + 1)) (a.take (j + 1)) : Int) := by
    rw [hx, hdist, hres, ← cell_step hc hd]
    simp [rowAt]
  have hj := (List.getElem?_eq_some_iff.mp hd).1
  refine ⟨e, ?_⟩
  rw [← rowMid_set hj, e]
  exact ints_set hus j

set_option maxRecDepth 100000 in
set_option maxHeartbeats 1000000 in
theorem c_lev (w : World) (mean : ExcName → Option Value) (mg mb : Str → Option Value) (la lb : List Nat) (mx : Int) (ta tb tm : Tok) (hla : la.length ≤ 40) (hlb : lb.length ≤ 40) (hsa : ∀ c ∈ la, Sign c) (hsb : ∀ c ∈ lb, Sign c) :
    Claim 4 w mean mg mb 33 [.str (S la) ta, .str (S lb) tb, .int mx tm] (fun _ => True) (fun v nw => nw = [] ∧ ∃ r t, v = .int r t ∧ LevOk la lb mx r) := by
  w_strict (
    unfold Claim
    k_fill
    intro dp un gd cn cs a ccd cl outer A₀ base h₀ L m s Q E B F X T hk ha hdp hun hret
    walk_at "mine_enter"
    intro L' h₁ F₁ N₁ B₁ X₁ T₁
    k_fold
    have hlA : (S la).length = la.length := S_len _
    have hlB : (S lb).length = lb.length := S_len _
    walk_at "mine_steps"
    · (rename ((S la == S lb) = true) => he)
      rw [S_beq, decide_eq_true_eq] at he
      refine hret _ _ _ [] ⟨rfl, _, _, rfl, .inl ?_⟩ (by assumption) News.nil (by assumption)
      rw [he, ED_self]; rfl
    (rename Fr _ _ _ _ => Fz); (rename News _ _ _ _ => Nz)
    k_fold
    have rest : ∀ (k : Nat) (ta' tb' tm' tp : Tok) (u : Str → Option Value) (h : Heap) (tk : Nat), k ≤ la.length → k ≤ lb.length → ED (la.drop k) (lb.drop k) = ED la lb → Fr s.heap L' h (kn (Str.ofString "pre") (.int (k : Int) tp) (levA la lb mx ta' tb' tm' u)) → News s.heap L' h [] → qk Flow.next { s with heap := h, toks := tk } := by
      clear Fz Nz
      intro k ta' tb' tm' tp u h tk hk1 hk2 hED F₂ N₂
      unfold levA at F₂
      have e1 := slice_S_from (l := la) (k := (k : Int)) (by omega) (by omega)
      have e2 := slice_S_from (l := lb) (k := (k : Int)) (by omega) (by omega)
      rw [Int.toNat_natCast] at e1 e2
      walk_at "mine_steps"
      (rename Fr _ _ _ _ => Fz); (rename News _ _ _ _ => Nz)
      rw [e1, e2] at Fz
      have hla' : (la.drop k).length ≤ 40 := by rw [List.length_drop]; omega
      have hlb' : (lb.drop k).length ≤ 40 := by rw [List.length_drop]; omega
      have hsa' : ∀ c ∈ la.drop k, Sign c := fun c hc => hsa c (List.mem_of_mem_drop hc)
      have hsb' : ∀ c ∈ lb.drop k, Sign c := fun c hc => hsb c (List.mem_of_mem_drop hc)
      have hLev : ∀ r, LevOk (la.drop k) (lb.drop k) mx r → LevOk la lb mx r := fun r hr => by unfold LevOk at *; rw [← hED]; exact hr
      generalize la.drop k = a₁ at Fz hla' hsa' hLev
      generalize lb.drop k = b₁ at Fz hlb' hsb' hLev
      clear hED e1 e2
      have hlA : (S a₁).length = a₁.length := S_len _
      have hlB : (S b₁).length = b₁.length := S_len _
      (with_reducible show wpAny _ _ (exec _ _) _ _ _)
      k_fold
      have rest₂ : ∀ (j : Nat) (ta' tb' tm' tp : Tok) (u : Str → Option Value) (h : Heap) (tk : Nat), j ≤ a₁.length → j ≤ b₁.length → ED (a₁.take (a₁.length - j)) (b₁.take (b₁.length - j)) = ED a₁ b₁ → Fr s.heap L' h (kn (Str.ofString "post") (.int (-(j : Int)) tp) (levA a₁ b₁ mx ta' tb' tm' u)) → News s.heap L' h [] → qk Flow.next { s with heap := h, toks := tk } := by
        clear Fz Nz
        intro j ta' tb' tm' tp u h tk hj1 hj2 hED F₂ N₂
        unfold levA at F₂
        have hta : (a₁.take (a₁.length - j)).length ≤ 40 := by rw [List.length_take]; omega
        have htb : (b₁.take (b₁.length - j)).length ≤ 40 := by rw [List.length_take]; omega
        dsimp only [qk]
        refine wpAny_execs_cons ?_
        k_fold
        have stepA : ∀ (ta' tb' tm' tp : Tok) (u : Str → Option Value) (h : Heap) (tk : Nat), Fr s.heap L' h (kn (Str.ofString "a") (.str (S (a₁.take (a₁.length - j))) ta') (kn (Str.ofString "b") (.str (S b₁) tb') (kn (Str.ofString "max_cost") (.int mx tm') (kn (Str.ofString "post") (.int (-(j : Int)) tp) u)))) → News s.heap L' h [] → qk Flow.next { s with heap := h, toks := tk } := by
          clear F₂ N₂
          intro ta' tb' tm' tp u h tk F₂ N₂
          dsimp only [qk]
          refine wpAny_execs_cons ?_
          k_fold
          have stepB : ∀ (ta' tb' tm' : Tok) (u : Str → Option Value) (h : Heap) (tk : Nat), Fr s.heap L' h (levA (a₁.take (a₁.length - j)) (b₁.take (b₁.length - j)) mx ta' tb' tm' u) → News s.heap L' h [] → qk Flow.next { s with heap := h, toks := tk } := by
            clear F₂ N₂
            intro ta' tb' tm' u h tk F₂ N₂
            have hsa₂ : ∀ c ∈ a₁.take (a₁.length - j), Sign c := fun c hc => hsa' c (List.mem_of_mem_take hc)
            have hsb₂ : ∀ c ∈ b₁.take (b₁.length - j), Sign c := fun c hc => hsb' c (List.mem_of_mem_take hc)
            have hLev₂ : ∀ r, LevOk (a₁.take (a₁.length - j)) (b₁.take (b₁.length - j)) mx r → LevOk la lb mx r := fun r hr => hLev r (by unfold LevOk at *; rw [← hED]; exact hr)
            clear hED
            generalize a₁.take (a₁.length - j) = a₂ at F₂ hta hsa₂ hLev₂
            generalize b₁.take (b₁.length - j) = b₂ at F₂ htb hsb₂ hLev₂
            have hlA₂ : (S a₂).length = a₂.length := S_len _
            have hlB₂ : (S b₂).length = b₂.length := S_len _
            unfold levA at F₂
            walk_at "mine_swap"
            rotate_left
            · have hb0 : b₂ = [] := List.length_eq_zero_iff.mp (by omega)
              refine hret _ _ _ [] ⟨rfl, _, _, rfl, hLev₂ _ (.inl ?_)⟩ (by assumption) News.nil (by assumption)
              rw [hb0, ED_nil_right, S_len, S_len, List.length_nil]
              omega
            · have ha0 : a₂ = [] := List.length_eq_zero_iff.mp (by omega)
              refine hret _ _ _ [] ⟨rfl, _, _, rfl, hLev₂ _ (.inl ?_)⟩ (by assumption) News.nil (by assumption)
              rw [ha0, ED_nil_left, S_len, S_len, List.length_nil]
              omega
            k_fold
            have main : ∀ (a₃ b₃ : List Nat) (ta' tb' tm' : Tok) (u : Str → Option Value) (h : Heap) (tk : Nat), a₃.length ≤ 40 → b₃.length ≤ 40 → 0 < a₃.length → a₃.length ≤ b₃.length → (∀ c ∈ a₃, Sign c) → (∀ c ∈ b₃, Sign c) → (∀ r, LevOk a₃ b₃ mx r → LevOk la lb mx r) → Fr s.heap L' h (levA a₃ b₃ mx ta' tb' tm' u) → News s.heap L' h [] → qk Flow.next { s with heap := h, toks := tk } := by
              clear F₂ N₂ hta htb hsa₂ hsb₂ hLev₂ hlA₂ hlB₂
              intro a₃ b₃ ta' tb' tm' u h tk hta htb hpos hab hsa₃ hsb₃ hLev₃ F₂ N₂
              have hlA₃ : (S a₃).length = a₃.length := S_len _
              have hlB₃ : (S b₃).length = b₃.length := S_len _
              unfold levA at F₂
              walk_at "mine_dp"
              · refine hret _ _ _ [] ⟨rfl, _, _, rfl, hLev₃ _ (.inr ⟨rfl, ?_⟩)⟩ (by assumption) News.nil (by assumption)
                have := ED_lens a₃ b₃
                omega
              (rename Fr _ _ _ _ => Fz); (rename News _ _ _ _ => Nz)
              have hr2 := range_two_small a₃.length (by omega)
              rw [← hlA₃] at hr2
              refine r_list_range (n := a₃.length) (by with_unfolding_all rfl) Fz Nz (by assumption) hr2.1 (hr2.2.trans (by rw [hlA₃])) (by omega) ?_
              intro D h₃ tk₃ ys k F₃ N₃ _ hys
              rw [row_first a₃ b₃] at hys
              try dsimp only
              clear Fz Nz
              walk_at "mine_dp"
              walk_at "mine_for"
              walk_at "mine_dp"
              (rename Fr _ _ _ _ => Fz); (rename News _ _ _ _ => Nz)
              refine for_range (levJ a₃ b₃ mx) rfl (by assumption) (small_one (by decide) (by decide) (by omega) (by omega)) (rangeSize_nat _ _) Fz Nz ⟨D, ys, k, _, _, _, _, _, _, rfl, hys, fun h0 => absurd h0 (Nat.lt_irrefl _), kn_eq rfl (kn_eq rfl (levA_eq rfl rfl rfl))⟩ ?_ ?_
              · clear Fz Nz
                intro i t m₁ news₁ h₄ tk₄ I oI hi hJ off F₄ N₄
                obtain ⟨D, us, k, res, tr, ta', tb', tm', u, rfl, hus, hres, rfl⟩ := hJ
                replace hi : i < b₃.length := by omega
                have hDI : @Ne Nat I D := fun e => off _ (List.mem_cons_self) e.symm
                obtain ⟨c, hc⟩ : ∃ c, b₃[i]? = some c := ⟨_, List.getElem?_eq_getElem hi⟩
                unfold levA at F₄
                change Fr s.heap L' h₄ _ at F₄
                change News s.heap L' h₄ _ at N₄
                walk_at "mine_dp"
                refine r_item_S (c := c) (by omega) (by rw [show ((0 : Int) + (i : Int)).toNat = i from by omega]; exact hc) (by omega) fun t2 k2 => ?_
                walk_at "mine_dp"
                walk_at "mine_for"
                walk_at "mine_dp"
                (rename Fr _ _ _ _ => Fz); (rename News _ _ _ _ => Nz)
                refine for_range (levK a₃ b₃ mx i c D [(I, oI)]) rfl (by assumption) (small_one (by decide) (by decide) (by omega) (by omega)) (rangeSize_nat _ _) Fz Nz (levK_mk rfl hus (by rw [List.take_zero, ED_nil_right, List.length_take]; omega) (by rw [resAt_zero]; omega) (fun j' h0 => absurd h0 (Nat.not_lt_zero _)) rfl rfl rfl rfl rfl rfl rfl rfl) ?_ ?_
                · clear Fz Nz
                  intro j t₅ m₂ nx₂ h₅ tk₅ I₂ oI₂ hj hK off₂ F₅ N₅
                  obtain ⟨us, k, dist, res, mn, td, tr, tn, tc, ta', tb', tm', u, rfl, hus, hdist, hres, hmn, rfl⟩ := hK
                  replace hj : j < a₃.length := by omega
                  have hDI₂ : @Ne Nat I₂ D := fun e => off₂ _ (.tail _ (.head _)) e.symm
                  have hII₂ : @Ne Nat I₂ I := fun e => off₂ _ (.head _) e.symm
                  obtain ⟨d, hd₁⟩ : ∃ d, a₃[j]? = some d := ⟨_, List.getElem?_eq_getElem hj⟩
                  have hjn : ((0 : Int) + (j : Int)).toNat = j := by omega
                  unfold levA at F₅
                  change Fr s.heap L' h₅ _ at F₅
                  change News s.heap L' h₅ ([(I₂, oI₂), (I, oI), (D, PySem.W.listOf us.toArray k)]) at N₅
                  walk_at "mine_dp"
                  refine r_item_S (c := d) (by omega) (by rw [hjn]; exact hd₁) (by omega) fun t2 k2 => ?_
                  walk_at "mine_dp"
                  k_dflt (refine Claim.use (c_sub w mean mg mb c d _ _ (hsb₃ c (List.mem_of_getElem? hc)) (hsa₃ d (List.mem_of_getElem? hd₁))) (by k_asm) (by k_asm) (by k_asm) (by k_asm) rfl trivial (by walk_at "mine_room") (by walk_at "mine_room") ?_)
                  rintro v₆ h₆ tk₆ nw₆ ⟨rfl, t₆, rfl⟩ F₆ - keep₆
                  have N₆ := N₅.grown keep₆
                  clear F₅ N₅
                  try dsimp only
                  walk_at "mine_dp"
                  (rename News _ _ _ _ => Nz)
                  refine r_item_ints (ns := rowMid a₃ b₃ i j) (n := rowAt a₃ b₃ i j j) (News.isList Nz (.tail _ (.tail _ (.head _)))) hus (by omega) (by omega) (by rw [hjn]; exact rowMid_at hj) fun t7 => ?_
                  walk_at "mine_dp"
                  (rename Fr _ _ _ _ => Fz); (rename News _ _ _ _ => Nz)
                  k_dflt (refine ksa_set Fz Nz (by k_upd) hus (by omega) (by rw [rowMid_len]; omega) (by omega) ?_)
                  intro h₈ F₈ N₈ _ _ _
                  rw [hjn] at N₈
                  try dsimp only
                  clear Fz Nz
                  walk_at "mine_dp"
                  · (rename Fr _ _ _ _ => Fz); (rename News _ _ _ _ => Nz)
                    (rename (min _ _ < mn) => hlt)
                    obtain ⟨hx, hset⟩ := levK_row hc hd₁ hus hdist hres rfl
                    refine LEnd.mk' Fz Nz (by k_all) (levK_mk rfl hset (by simp [rowAt]) (by rw [resAt_succ]; exact hx) (fun j' hj' => ?_) rfl rfl rfl rfl rfl rfl rfl rfl)
                    rcases Nat.lt_or_ge j' j with h9 | h9
                    · exact Int.le_trans (Int.le_of_lt hlt) (hmn j' h9)
                    · obtain rfl : j' = j := by omega
                      exact Int.le_of_eq hx
                  · (rename Fr _ _ _ _ => Fz); (rename News _ _ _ _ => Nz)
                    (rename (¬ min _ _ < mn) => hlt)
                    obtain ⟨hx, hset⟩ := levK_row hc hd₁ hus hdist hres rfl
                    refine LEnd.mk' Fz Nz (by k_all) (levK_mk rfl hset (by simp [rowAt]) (by rw [resAt_succ]; exact hx) (fun j' hj' => ?_) rfl rfl rfl rfl rfl rfl rfl rfl)
                    rcases Nat.lt_or_ge j' j with h9 | h9
                    · exact hmn j' h9
                    · obtain rfl : j' = j := by omega
                      rw [← hx]; exact Int.not_lt.mp hlt
                · clear Fz Nz
                  intro m₂ nx₂ h₅ tk₅ hK F₅ N₅
                  obtain ⟨us, k, dist, res, mn, td, tr, tn, tc, ta', tb', tm', u, rfl, hus, hdist, hres, hmn, rfl⟩ := hK
                  rw [show (((S a₃).length : Int) - 0).toNat = a₃.length from by omega] at hus hres hmn
                  unfold levA at F₅
                  change Fr s.heap L' h₅ _ at F₅
                  change News s.heap L' h₅ ([(I, oI), (D, PySem.W.listOf us.toArray k)]) at N₅
                  walk_at "mine_dp"
                  · dsimp only [LPost]
                    walk_at "mine_dp"
                    refine hret _ _ _ [] ⟨rfl, _, _, rfl, hLev₃ _ (.inr ⟨rfl, ?_⟩)⟩ (by assumption) News.nil (by assumption)
                    rw [ED_comm]
                    (rename (mx < mn) => hgt)
                    exact ED_bail hi hpos fun j' hj' => Int.lt_of_lt_of_le hgt (hmn j' hj')
                  · (rename Fr _ _ _ _ => Fz); (rename News _ _ _ _ => Nz)
                    refine LEnd.mk' Fz Nz (by k_all) (levJ_mk rfl (by rw [← rowMid_next]; exact hus) (fun _ => ?_) rfl rfl rfl rfl rfl)
                    rw [hres]
                    obtain ⟨n, hn⟩ : ∃ n, a₃.length = n + 1 := ⟨a₃.length - 1, by omega⟩
                    rw [hn, resAt_succ, ← hn, List.take_length]
              · clear Fz Nz
                intro m₁ news₁ h₄ tk₄ hJ F₄ N₄
                obtain ⟨D, us, k, res, tr, ta', tb', tm', u, rfl, hus, hres, rfl⟩ := hJ
                unfold levA at F₄
                change Fr s.heap L' h₄ _ at F₄
                change News s.heap L' h₄ _ at N₄
                walk_at "mine_dp"
                rw [show (((S b₃).length : Int) - 0).toNat = b₃.length from by omega, List.take_length] at hres
                exact hret _ _ _ [] ⟨rfl, _, _, rfl, hLev₃ _ (.inl (by rw [hres (by omega), ED_comm]))⟩ (by assumption) News.nil (by assumption)
            clear_value qk
            walk_at "mine_steps"
            · (rename Fr _ _ _ _ => Fz)
              exact main b₂ a₂ _ _ tm' _ _ _ (by omega) (by omega) (by omega) (by omega) hsb₂ hsa₂ (fun r hr => hLev₂ r (by unfold LevOk at *; rw [ED_comm]; exact hr)) (fr_as Fz (levA_eq rfl rfl rfl)) News.nil
            · (rename Fr _ _ _ _ => Fz)
              exact main a₂ b₂ _ _ tm' _ _ _ (by omega) (by omega) (by omega) (by omega) hsa₂ hsb₂ hLev₂ (fr_as Fz (levA_eq rfl rfl rfl)) News.nil
          clear_value qk
          by_cases hj0 : j = 0
          · walk_at "mine_cut"
            · exfalso; omega
            refine r_slice_all (s := ⟨_, _, _, _, _⟩) F₂ N₂ (by omega) ?_
            intro h₃ t₃ k₃ F₃ N₃
            try dsimp only
            clear F₂ N₂
            walk_at "mine_cut"
            (rename Fr _ _ _ _ => Fz); (rename News _ _ _ _ => Nz)
            rw [show S b₁ = S (b₁.take (b₁.length - j)) from by rw [hj0, Nat.sub_zero, List.take_length]] at Fz
            exact stepB ta' t₃ tm' _ _ _ (fr_as Fz (levA_eq rfl rfl rfl)) Nz
          · walk_at "mine_cut"
            rotate_left
            · exfalso; omega
            refine r_slice_neg (s := ⟨_, _, _, _, _⟩) (j := -(j : Int)) (by omega) (by omega) F₂ N₂ (by omega) ?_
            intro h₃ t₃ k₃ F₃ N₃
            try dsimp only
            clear F₂ N₂
            walk_at "mine_cut"
            (rename Fr _ _ _ _ => Fz); (rename News _ _ _ _ => Nz)
            rw [show (- -(j : Int)).toNat = j from by omega] at Fz
            exact stepB ta' t₃ tm' _ _ _ (fr_as Fz (levA_eq rfl rfl rfl)) Nz
        clear_value qk
        by_cases hj0 : j = 0
        · walk_at "mine_cut"
          · exfalso; omega
          refine r_slice_all (s := ⟨_, _, _, _, _⟩) F₂ N₂ (by omega) ?_
          intro h₃ t₃ k₃ F₃ N₃
          try dsimp only
          clear F₂ N₂
          walk_at "mine_cut"
          (rename Fr _ _ _ _ => Fz); (rename News _ _ _ _ => Nz)
          rw [show S a₁ = S (a₁.take (a₁.length - j)) from by rw [hj0, Nat.sub_zero, List.take_length]] at Fz
          exact stepA t₃ tb' tm' tp _ _ _ (fr_as Fz (kn_eq rfl (kn_eq rfl (kn_eq rfl (kn_eq rfl rfl))))) Nz
        · walk_at "mine_cut"
          rotate_left
          · exfalso; omega
          refine r_slice_neg (s := ⟨_, _, _, _, _⟩) (j := -(j : Int)) (by omega) (by omega) F₂ N₂ (by omega) ?_
          intro h₃ t₃ k₃ F₃ N₃
          try dsimp only
          clear F₂ N₂
          walk_at "mine_cut"
          (rename Fr _ _ _ _ => Fz); (rename News _ _ _ _ => Nz)
          rw [show (- -(j : Int)).toNat = j from by omega] at Fz
          exact stepA t₃ tb' tm' tp _ _ _ (fr_as Fz (kn_eq rfl (kn_eq rfl (kn_eq rfl (kn_eq rfl rfl))))) Nz
      clear_value qk
      refine While_inv (postJ a₁ b₁ mx) (n₀ := a₁.length) Fz Nz ⟨0, _, _, _, _, _, rfl, by omega, by omega, rfl, by simp, kn_eq rfl (levA_eq rfl rfl rfl)⟩ ?_
      rintro n m₁ nx₁ h tk F₂ N₂ ⟨j, ta', tb', tm', tp, u, rfl, hj1, hj2, rfl, hED, rfl⟩
      unfold levA at F₂
      clear Fz Nz
      by_cases hj0 : j = 0
      · subst hj0
        walk_at "mine_cut"
        refine r_slice_all (s := ⟨_, _, _, _, _⟩) F₂ N₂ (by omega) ?_
        intro h₃ t₃ k₃ F₃ N₃
        try dsimp only
        clear F₂ N₂
        walk_at "mine_cut"
        all_goals (try (exfalso; omega; done))
        rotate_left
        · exact rest₂ 0 ta' tb' tm' tp u _ _ hj1 hj2 hED F₃ N₃
        refine r_slice_all (s := ⟨_, _, _, _, _⟩) F₃ N₃ (by omega) ?_
        intro h₄ t₄ k₄ F₄ N₄
        try dsimp only
        clear F₃ N₃
        walk_at "mine_cut"
        all_goals (try (exfalso; omega; done))
        rotate_left
        · exact rest₂ 0 ta' tb' tm' tp u _ _ hj1 hj2 hED F₄ N₄
        have hja : 0 < a₁.length := by omega
        have hjb : 0 < b₁.length := by omega
        obtain ⟨x, hx⟩ : ∃ x, a₁[a₁.length - 0 - 1]? = some x := ⟨_, List.getElem?_eq_getElem (by omega)⟩
        obtain ⟨y, hy⟩ : ∃ y, b₁[b₁.length - 0 - 1]? = some y := ⟨_, List.getElem?_eq_getElem (by omega)⟩
        refine r_item_Sneg (i := (-((0 : Nat) : Int) - 1)) (c := x) (by omega) (by omega) (by rw [show ((-((0 : Nat) : Int) - 1) + (a₁.length : Int)).toNat = a₁.length - 0 - 1 from by omega]; exact hx) (by omega) fun t5 k5 => ?_
        walk_at "mine_cut"
        refine r_item_Sneg (i := (-((0 : Nat) : Int) - 1)) (c := y) (by omega) (by omega) (by rw [show ((-((0 : Nat) : Int) - 1) + (b₁.length : Int)).toNat = b₁.length - 0 - 1 from by omega]; exact hy) (by omega) fun t6 k6 => ?_
        walk_at "mine_cut"
        · (rename ((S [x] == S [y]) = true) => he₂)
          rw [S_beq, decide_eq_true_eq] at he₂
          obtain rfl : x = y := by simpa using he₂
          (rename Fr _ _ _ _ => Fz); (rename News _ _ _ _ => Nz)
          exact WhileStep.intro Fz Nz (n' := a₁.length - (0 + 1)) (by omega) ⟨0 + 1, ta', tb', tm', _, _, rfl, by omega, by omega, rfl, post_step hja hjb hx hy hED, kn_eq (by rw [show -((0 + 1 : Nat) : Int) = (-((0 : Nat) : Int) - 1) from by omega]; rfl) (levA_eq rfl rfl rfl)⟩
        · exact rest₂ 0 ta' tb' tm' tp u _ _ hj1 hj2 hED F₄ N₄
      · walk_at "mine_cut"
        rotate_left
        · exfalso; omega
        have hlA₂ : (S (a₁.take (a₁.length - (- -(j : Int)).toNat))).length = a₁.length - j := by rw [S_len, List.length_take]; omega
        have hlB₂ : (S (b₁.take (b₁.length - (- -(j : Int)).toNat))).length = b₁.length - j := by rw [S_len, List.length_take]; omega
        refine r_slice_neg (s := ⟨_, _, _, _, _⟩) (j := -(j : Int)) (by omega) (by omega) F₂ N₂ (by omega) ?_
        intro h₃ t₃ k₃ F₃ N₃
        try dsimp only
        clear F₂ N₂
        walk_at "mine_cut"
        all_goals (try (exfalso; omega; done))
        rotate_left
        · exact rest₂ j ta' tb' tm' tp u _ _ hj1 hj2 hED F₃ N₃
        refine r_slice_neg (s := ⟨_, _, _, _, _⟩) (j := -(j : Int)) (by omega) (by omega) F₃ N₃ (by omega) ?_
        intro h₄ t₄ k₄ F₄ N₄
        try dsimp only
        clear F₃ N₃
        walk_at "mine_cut"
        all_goals (try (exfalso; omega; done))
        rotate_left
        · exact rest₂ j ta' tb' tm' tp u _ _ hj1 hj2 hED F₄ N₄
        have hja : j < a₁.length := by omega
        have hjb : j < b₁.length := by omega
        obtain ⟨x, hx⟩ : ∃ x, a₁[a₁.length - j - 1]? = some x := ⟨_, List.getElem?_eq_getElem (by omega)⟩
        obtain ⟨y, hy⟩ : ∃ y, b₁[b₁.length - j - 1]? = some y := ⟨_, List.getElem?_eq_getElem (by omega)⟩
        refine r_item_Sneg (i := (-(j : Int) - 1)) (c := x) (by omega) (by omega) (by rw [show ((-(j : Int) - 1) + (a₁.length : Int)).toNat = a₁.length - j - 1 from by omega]; exact hx) (by omega) fun t5 k5 => ?_
        walk_at "mine_cut"
        refine r_item_Sneg (i := (-(j : Int) - 1)) (c := y) (by omega) (by omega) (by rw [show ((-(j : Int) - 1) + (b₁.length : Int)).toNat = b₁.length - j - 1 from by omega]; exact hy) (by omega) fun t6 k6 => ?_
        walk_at "mine_cut"
        · (rename ((S [x] == S [y]) = true) => he₂)
          rw [S_beq, decide_eq_true_eq] at he₂
          obtain rfl : x = y := by simpa using he₂
          (rename Fr _ _ _ _ => Fz); (rename News _ _ _ _ => Nz)
          exact WhileStep.intro Fz Nz (n' := a₁.length - (j + 1)) (by omega) ⟨j + 1, ta', tb', tm', _, _, rfl, by omega, by omega, rfl, post_step hja hjb hx hy hED, kn_eq (by rw [show -((j + 1 : Nat) : Int) = (-(j : Int) - 1) from by omega]; rfl) (levA_eq rfl rfl rfl)⟩
        · exact rest₂ j ta' tb' tm' tp u _ _ hj1 hj2 hED F₄ N₄
    clear_value qk
    refine While_inv (preJ la lb mx) (n₀ := la.length) Fz Nz ⟨0, _, _, _, _, _, rfl, by omega, by omega, rfl, rfl, kn_eq rfl (levA_eq rfl rfl rfl)⟩ ?_
    rintro n m₁ nx₁ h tk F₂ N₂ ⟨k, ta', tb', tm', tp, u, rfl, hk1, hk2, rfl, hED, rfl⟩
    have e1 := slice_S_from (l := la) (k := (k : Int)) (by omega) (by omega)
    have e2 := slice_S_from (l := lb) (k := (k : Int)) (by omega) (by omega)
    unfold levA at F₂
    clear Fz Nz
    walk_at "mine_steps"
    · have hka : k < la.length := by omega
      have hkb : k < lb.length := by omega
      obtain ⟨x, hx⟩ : ∃ x, la[k]? = some x := ⟨_, List.getElem?_eq_getElem hka⟩
      obtain ⟨y, hy⟩ : ∃ y, lb[k]? = some y := ⟨_, List.getElem?_eq_getElem hkb⟩
      refine r_item_S (c := x) (by omega) (by rw [Int.toNat_natCast]; exact hx) (by omega) fun t1 k1 => ?_
      walk_at "mine_steps"
      refine r_item_S (c := y) (by omega) (by rw [Int.toNat_natCast]; exact hy) (by omega) fun t2 k2 => ?_
      walk_at "mine_steps"
      · (rename ((S [x] == S [y]) = true) => he₂)
        rw [S_beq, decide_eq_true_eq] at he₂
        obtain rfl : x = y := by simpa using he₂
        (rename Fr _ _ _ _ => Fz); (rename News _ _ _ _ => Nz)
        exact WhileStep.intro Fz Nz (n' := la.length - (k + 1)) (by omega) ⟨k + 1, ta', tb', tm', _, _, rfl, by omega, by omega, rfl, pre_step hx hy hED, kn_eq rfl (levA_eq rfl rfl rfl)⟩
      · (rename Fr _ _ _ _ => Fz); (rename News _ _ _ _ => Nz); exact rest k ta' tb' tm' tp u _ _ hk1 hk2 hED Fz Nz
    all_goals ((rename Fr _ _ _ _ => Fz); (rename News _ _ _ _ => Nz); exact rest k ta' tb' tm' tp u _ _ hk1 hk2 hED Fz Nz))
end Mine

namespace Mine
theorem walk_anew_F5 : True := by (w_top off); trivial
end Mine
-- part Eq2
namespace Mine
open PySem.Calls PySem.Spec PyProof.V

theorem strs_lay : ∀ ts : List Str, (∀ x ∈ ts, PyData.strOk x = true) → PyData.canLayAll0 (ts.map PyData.str) = true
  | [], _ => rfl
  | y :: r, h => by simp [PyData.canLayAll0, PyData.canLay0, strs_lay r (fun x hx => h x (.tail _ hx)), h y (.head _)]
theorem strOk_signs {k : List Nat} (h : ∀ c ∈ k, Sign c) : PyData.strOk (S k) = true := by
  have h' : ∀ c ∈ k, c < 128 := fun c hc => by rcases h c hc with rfl | rfl | rfl | rfl | rfl | rfl | rfl | rfl <;> omega
  unfold PyData.strOk
  simp [S]
  intro c hc
  have := h' c hc
  omega
theorem strs_depth : ∀ ts : List Str, PyData.depthAll (ts.map PyData.str) = 0
  | [] => rfl
  | _ :: r => by simp [PyData.depthAll, PyData.depth, strs_depth r]
theorem strs_shaped (ts : List Str) (h : ∀ x ∈ ts, PyData.strOk x = true) : SeqAt.shaped (.list (ts.map PyData.str)) = true := by
  simp [SeqAt.shaped, PyData.canLay0, PyData.depth, strs_lay ts h, strs_depth]
theorem strs_sameAll : ∀ ts : List Str, PySem.Spec.sameAll (ts.map PyData.str) (ts.map PyData.str) = true
  | [] => by simp [PySem.Spec.sameAll]
  | _ :: r => by simp [PySem.Spec.sameAll, PySem.Spec.same, strs_sameAll r]
section
variable {prog : Program} {w : World} {A : Around} {E : Value → Shared → Prop} {s : Shared} {a b : Addr} {xs ys : List Value} {ts : List Str} {Q : Value → Shared → Prop}
theorem r_ne_strs (ha : s.heap.IsList a xs.toArray) (hb : s.heap.IsList b ys.toArray) (hi : StrsAre xs ts) (hj : StrsAre ys ts) (hok : ∀ x ∈ ts, PyData.strOk x = true) (hu : A.units + 64 < cLine) (h : Q (.bool false) s) :
    wpAny (model prog w) A (compareOp .NotEq (.ref a) (.ref b)) Q E s :=
  ne_dataH_same (reads_newData ha hi.carried) (reads_newData hb hj.carried) (strs_shaped _ hok) (strs_shaped _ hok) hu (SeqAt.noMix_of_shape (.list .str) rfl _ _ (list_map_has fun _ => rfl) (list_map_has fun _ => rfl)) (by
    rw [show PySem.Spec.same (.list (ts.map PyData.str)) (.list (ts.map PyData.str)) = true from by simp only [PySem.Spec.same]; exact strs_sameAll ts]
    exact h)
end
end Mine

-- part For2
namespace Mine
open PySem.Calls PySem.Spec
/-- the loop over a list of made pairs: what is to be told where its list is known -/
def PairsAt (prog : Program) (w : World) (A : Around) (h₀ : Heap) (env : Env) (xi xc : Str) (body : List Stmt) (Q : Flow → Shared → Prop) (E : Value → Shared → Prop) (xv : Value) (s : Shared) : Prop :=
  ∃ (T : Addr) (ts : List Value) (kT : Nat) (m : Str → Option Value) (news : List (Addr × Obj)) (P : Nat → Value → Value → Prop) (J : (Str → Option Value) → Prop),
    xv = .ref T ∧ Fr h₀ env.locals s.heap m ∧ News h₀ env.locals s.heap news ∧ (T, PySem.W.listOf ts.toArray kT) ∈ news ∧
    (∀ j, j < ts.length → ∃ a v0 v1 n, ts[j]? = some (Value.ref a) ∧ (a, ({ cls := .type "tuple", data := .seq #[v0, v1] n } : Obj)) ∈ news ∧ P j v0 v1) ∧ J m ∧
    (∀ i v0 v1 m₁ h tk I oI, i < ts.length → P i v0 v1 → J m₁ → (∀ p ∈ news, p.1 ≠ I) → Fr h₀ env.locals h (fun y => if y = xc then some v1 else if y = xi then some v0 else m₁ y) → News h₀ env.locals h ((I, oI) :: news) →
      wpAny (model prog w) A (execs body env) (LPost h₀ env.locals (fun m' nx => nx = news ∧ J m') I oI { s with heap := h, toks := tk } Q) E { s with heap := h, toks := tk }) ∧
    (∀ m₁ h tk, J m₁ → Fr h₀ env.locals h m₁ → News h₀ env.locals h news → Q .next { s with heap := h, toks := tk })

theorem For_pairs {prog : Program} {w : World} {A : Around} {E : Value → Shared → Prop} {s : Shared} {env : Env} {Q : Flow → Shared → Prop} {xi xc : Str} {pk pv pt pos : Pos} {x1 : Nat} {iter : Expr} {body : List Stmt} (h₀ : Heap) (hh : A.handled = none)
    (hxi : env.kindOf xi = some .local) (hxc : env.kindOf xc = some .local)
    (hp : (env.scope.kind == .class || (env.scope.kind == .module && env.locals != env.globals)) = false)
    (h : wpAny (model prog w) A (eval iter env) (fun xv s₁ => PairsAt prog w A h₀ env xi xc body Q E xv s₁) E s)
    (hs : ∀ x, foldedSetIterable iter env x = pure x)
    (hE : PassesOwn (model prog w) A env E := by passes_own) :
    wpAny (model prog w) A (exec (.For (.Tuple [.Name xi pk, .Name xc pv] x1 pt) iter body [] pos) env) Q E s := by
  refine wpAny_For (wpAny_mono h (fun xv s₁ h₁ => ?_) fun _ _ e => e) hs
  obtain ⟨T, ts, kT, m, news, P, J, rfl, F, N, hT, hts, hj, turn, done⟩ := h₁
  have hTl := News.isList N hT
  refine wpAny_pyIter_list hTl ?_
  have hL : env.locals ≠ s₁.heap.objs.size := Nat.ne_of_lt F.ns.lt
  have hI0 := next_is_new F
  have hoff : ∀ p ∈ news, p.1 ≠ s₁.heap.objs.size := fun p hp => Nat.ne_of_lt (Heap.lt_size (N p hp).1)
  have F₁ := F.push { cls := .type "list_iterator", data := .fields #[.ref T, .int 0 0] }
  have N₁ : News h₀ env.locals (s₁.heap.push { cls := .type "list_iterator", data := .fields #[.ref T, .int 0 0] }) news := fun p hp => ⟨Heap.get?_push_of_some _ (N p hp).1, (N p hp).2⟩
  have hit₁ : (s₁.heap.push { cls := .type "list_iterator", data := .fields #[.ref T, .int 0 0] }).IsListIter s₁.heap.objs.size T 0 := ⟨_, Heap.get?_push_size _ rfl, rfl, rfl⟩
  revert hL hI0 hoff F₁ N₁ hit₁
  generalize s₁.heap.objs.size = I
  generalize (s₁.heap.push { cls := .type "list_iterator", data := .fields #[.ref T, .int 0 0] }) = h₁
  intro hL hI0 hoff F₁ N₁ hit₁
  clear F N hTl
  refine codeAny_forLoop_any (R := fun r s' => match r with | .ok f => Q f s' | .error e => cameBackBy (model prog w) A env E e s')
    (fun k s' => ∃ h' tk m' i, s' = { s₁ with heap := h', toks := tk } ∧ h'.IsListIter I T i ∧ Fr h₀ env.locals h' m' ∧ News h₀ env.locals h' news ∧ J m' ∧ i ≤ ts.length ∧ k = ts.length + 1 - i) ?_ (ts.length + 1)
    ⟨h₁, s₁.toks, m, 0, rfl, hit₁, F₁, N₁, hj, Nat.zero_le _, rfl⟩
  rintro k s' ⟨H, tk, m', i, rfl, hit, F', N', hJ, hi, rfl⟩
  have next : ∀ h₂ : Heap, (∀ b o, b ≠ I → H.get? b = some o → h₂.get? b = some o) → Fr h₀ env.locals h₂ m' ∧ News h₀ env.locals h₂ news := fun h₂ hk =>
    ⟨⟨F'.ns.at' fun o e => hk _ o hL e, fun b o e => hk b o (fun q => by rw [q, hI0] at e; cases e) (F'.keep b o e), F'.above⟩, fun p hp => ⟨hk _ _ (hoff p hp) (N' p hp).1, (N' p hp).2⟩⟩
  by_cases hlt : i < ts.length
  · obtain ⟨a, v0, v1, n, hx, ha, hP⟩ := hts i hlt
    refine wpAny_pyNext_list_item hit (News.isList N' hT) (x := .ref a) (by simpa using hx) fun h₂ hit₂ hs₂ => ?_
    obtain ⟨F₂, N₂⟩ := next h₂ fun b o hb e => hs₂.extBut b o hb e
    refine wpAny_letOwnedTupleGo_listiter hit₂ ?_
    refine assign_Tuple_tuple hh (News.isTup N₂ ha) rfl rfl fun h₃ hx₃ => ?_
    have F₃ := F₂.extBut hx₃ (Nat.le_refl _)
    have N₃ := N₂.extBut hx₃ (Nat.le_refl _)
    have hit₃ : h₃.IsListIter I T (i + 1) := hit₂.at fun o e => hx₃ I o (Nat.ne_of_lt (Heap.lt_size e)) e
    show wpAny _ A (do holding [v1] (assign (.Name xi pk) env v0); do holding [] (assign (.Name xc pv) env v1); pure ()) _ _ _
    refine wpAny_bind (wpAny_holding (wpAny_assign_Name (wpAny_storeName_local hxi F₃.ns (fun h₄ hn₄ hs₄ => ?_) hp)))
    replace hs₄ : Heap.SameBut env.locals h₃ h₄ := hs₄
    have F₄ := F₃.set hn₄ hs₄
    refine wpAny_bind (wpAny_holding (wpAny_assign_Name (wpAny_storeName_local hxc F₄.ns (fun h₅ hn₅ hs₅ => wpAny_pure ?_) hp)))
    replace hs₅ : Heap.SameBut env.locals h₄ h₅ := hs₅
    have F₅ := F₄.set hn₅ hs₅
    have N₅ : News h₀ env.locals h₅ news := (N₃.set hs₄).set hs₅
    have hit₅ : h₅.IsListIter I T (i + 1) := hit₃.at fun o e => hs₅.extBut I o (fun q => hL q.symm) (hs₄.extBut I o (fun q => hL q.symm) e)
    obtain ⟨oI, hoI, hoc, hod⟩ := hit₅
    have N₆ : News h₀ env.locals h₅ ((I, oI) :: news) := fun p hp => by
      rcases List.mem_cons.mp hp with rfl | hp
      · exact ⟨hoI, fun q => hL q.symm, hI0⟩
      · exact N₅ p hp
    refine wpAny_mono (wpAny_passesOwn hE (turn i v0 v1 m' h₅ _ I oI hlt hP hJ hoff F₅ N₆)) (fun f s₃ q => ?_) fun _ _ e => e
    have fin : ∀ tk₅, LEnd h₀ env.locals (fun m' nx => nx = news ∧ J m') I oI { s₁ with heap := h₅, toks := tk₅ } s₃ → ∃ m, m < ts.length + 1 - i ∧ ∃ h' tk m'_1 i, s₃ = { s₁ with heap := h', toks := tk } ∧ h'.IsListIter I T i ∧ Fr h₀ env.locals h' m'_1 ∧ News h₀ env.locals h' news ∧ J m'_1 ∧ i ≤ ts.length ∧ m = ts.length + 1 - i := by
      rintro tk₅ ⟨h', tk', m₂, news', rfl, F₆, N₇, off', rfl, hj'⟩
      exact ⟨ts.length + 1 - (i + 1), by omega, h', tk', m₂, i + 1, rfl, ⟨oI, (N₇ _ (List.mem_cons_self)).1, hoc, hod⟩, F₆, fun p hp => N₇ p (List.mem_cons_of_mem _ hp), hj', hlt, rfl⟩
    cases f with
    | ret v => exact q
    | brk => exact q
    | cont => exact fin _ q
    | next => exact fin _ q
  · have hin : i = ts.length := by omega
    subst hin
    refine wpAny_pyNext_list_end hh hit (News.isList N' hT) (by simp) fun h₂ he₂ => wpAny_execs_nil ?_
    obtain ⟨F₂, N₂⟩ := next h₂ fun b o hb e => he₂ b o hb e
    exact done m' h₂ tk hJ F₂ N₂
theorem For_pairsF {prog : Program} {w : World} {A : Around} {E : Value → Shared → Prop} {s : Shared} {env : Env} {Q : Flow → Shared → Prop} {xi xc : Str} {pk pv pt pos : Pos} {x1 : Nat} {iter : Expr} {body : List Stmt} {h₀ hx : Heap} {m : Str → Option Value} (_ : Fr h₀ env.locals hx m) (hh : A.handled = none)
    (hxi : env.kindOf xi = some .local) (hxc : env.kindOf xc = some .local)
    (hp : (env.scope.kind == .class || (env.scope.kind == .module && env.locals != env.globals)) = false)
    (h : wpAny (model prog w) A (eval iter env) (fun xv s₁ => PairsAt prog w A h₀ env xi xc body Q E xv s₁) E s)
    (hs : ∀ x, foldedSetIterable iter env x = pure x)
    (hE : PassesOwn (model prog w) A env E := by passes_own) :
    wpAny (model prog w) A (exec (.For (.Tuple [.Name xi pk, .Name xc pv] x1 pt) iter body [] pos) env) Q E s := For_pairs h₀ hh hxi hxc hp h hs hE
end Mine

-- part For3
namespace Mine
open PySem.Calls PySem.Spec
/-- the loop over a made tuple: what is to be told where the tuple is known; the turns are alike -/
def TripAt (prog : Program) (w : World) (A : Around) (h₀ : Heap) (env : Env) (x : Str) (body : List Stmt) (Q : Flow → Shared → Prop) (E : Value → Shared → Prop) (xv : Value) (s : Shared) : Prop :=
  ∃ (T : Addr) (ts : List Value) (kT : Nat) (m : Str → Option Value) (news : List (Addr × Obj)) (P : Value → Prop) (J : (Str → Option Value) → Prop),
    xv = .ref T ∧ Fr h₀ env.locals s.heap m ∧ News h₀ env.locals s.heap news ∧ (T, ({ cls := .type "tuple", data := .seq ts.toArray kT } : Obj)) ∈ news ∧
    (∀ v ∈ ts, P v) ∧ J m ∧
    (∀ v m₁ h tk I oI, P v → J m₁ → (∀ p ∈ news, p.1 ≠ I) → Fr h₀ env.locals h (fun y => if y = x then some v else m₁ y) → News h₀ env.locals h ((I, oI) :: news) →
      wpAny (model prog w) A (execs body env) (LPost h₀ env.locals (fun m' nx => nx = news ∧ J m') I oI { s with heap := h, toks := tk } Q) E { s with heap := h, toks := tk }) ∧
    (∀ m₁ h tk, J m₁ → Fr h₀ env.locals h m₁ → News h₀ env.locals h news → Q .next { s with heap := h, toks := tk })

theorem For_trip {prog : Program} {w : World} {A : Around} {E : Value → Shared → Prop} {s : Shared} {env : Env} {Q : Flow → Shared → Prop} {x : Str} {pk pos : Pos} {iter : Expr} {body : List Stmt} {h₀ hx : Heap} {m : Str → Option Value} (_ : Fr h₀ env.locals hx m) (hh : A.handled = none)
    (hxi : env.kindOf x = some .local)
    (hp : (env.scope.kind == .class || (env.scope.kind == .module && env.locals != env.globals)) = false)
    (h : wpAny (model prog w) A (eval iter env) (fun xv s₁ => TripAt prog w A h₀ env x body Q E xv s₁) E s)
    (hs : ∀ x, foldedSetIterable iter env x = pure x)
    (hE : PassesOwn (model prog w) A env E := by passes_own) :
    wpAny (model prog w) A (exec (.For (.Name x pk) iter body [] pos) env) Q E s := by
  refine wpAny_For (wpAny_mono h (fun xv s₁ h₁ => ?_) fun _ _ e => e) hs
  obtain ⟨T, ts, kT, m, news, P, J, rfl, F, N, hT, hts, hj, turn, done⟩ := h₁
  have hTl : s₁.heap.IsTuple T ts.toArray := News.isTup N hT
  refine wpAny_pyIter_tuple hTl ?_
  have hL : env.locals ≠ s₁.heap.objs.size := Nat.ne_of_lt F.ns.lt
  have hI0 := next_is_new F
  have hoff : ∀ p ∈ news, p.1 ≠ s₁.heap.objs.size := fun p hp => Nat.ne_of_lt (Heap.lt_size (N p hp).1)
  have F₁ := F.push { cls := .type "tuple_iterator", data := .fields #[.ref T, .int 0 0] }
  have N₁ : News h₀ env.locals (s₁.heap.push { cls := .type "tuple_iterator", data := .fields #[.ref T, .int 0 0] }) news := fun p hp => ⟨Heap.get?_push_of_some _ (N p hp).1, (N p hp).2⟩
  have hit₁ : (s₁.heap.push { cls := .type "tuple_iterator", data := .fields #[.ref T, .int 0 0] }).IsTupleIter s₁.heap.objs.size T 0 := ⟨_, Heap.get?_push_size _ rfl, rfl, rfl⟩
  revert hL hI0 hoff F₁ N₁ hit₁
  generalize s₁.heap.objs.size = I
  generalize (s₁.heap.push { cls := .type "tuple_iterator", data := .fields #[.ref T, .int 0 0] }) = h₁
  intro hL hI0 hoff F₁ N₁ hit₁
  clear F N hTl
  refine codeAny_forLoop_any (R := fun r s' => match r with | .ok f => Q f s' | .error e => cameBackBy (model prog w) A env E e s')
    (fun k s' => ∃ h' tk m' i, s' = { s₁ with heap := h', toks := tk } ∧ h'.IsTupleIter I T i ∧ Fr h₀ env.locals h' m' ∧ News h₀ env.locals h' news ∧ J m' ∧ i ≤ ts.length ∧ k = ts.length + 1 - i) ?_ (ts.length + 1)
    ⟨h₁, s₁.toks, m, 0, rfl, hit₁, F₁, N₁, hj, Nat.zero_le _, rfl⟩
  rintro k s' ⟨H, tk, m', i, rfl, hit, F', N', hJ, hi, rfl⟩
  have next : ∀ h₂ : Heap, (∀ b o, b ≠ I → H.get? b = some o → h₂.get? b = some o) → Fr h₀ env.locals h₂ m' ∧ News h₀ env.locals h₂ news := fun h₂ hk =>
    ⟨⟨F'.ns.at' fun o e => hk _ o hL e, fun b o e => hk b o (fun q => by rw [q, hI0] at e; cases e) (F'.keep b o e), F'.above⟩, fun p hp => ⟨hk _ _ (hoff p hp) (N' p hp).1, (N' p hp).2⟩⟩
  by_cases hlt : i < ts.length
  · have hP := hts _ (List.getElem_mem hlt)
    refine wpAny_pyNext_tuple_item hit (News.isTup N' hT) (x := ts[i]) (by simp [hlt]) fun h₂ hit₂ hs₂ => ?_
    obtain ⟨F₂, N₂⟩ := next h₂ fun b o hb e => hs₂.extBut b o hb e
    refine letGo_tupleiter hit₂ ?_
    refine wpAny_assign_Name (wpAny_storeName_local hxi F₂.ns (fun h₅ hn₅ hs₅ => ?_) hp)
    replace hs₅ : Heap.SameBut env.locals h₂ h₅ := hs₅
    have F₅ := F₂.set hn₅ hs₅
    have N₅ : News h₀ env.locals h₅ news := N₂.set hs₅
    have hit₅ : h₅.IsTupleIter I T (i + 1) := hit₂.at fun o e => hs₅.extBut I o (fun q => hL q.symm) e
    obtain ⟨oI, hoI, hoc, hod⟩ := hit₅
    have N₆ : News h₀ env.locals h₅ ((I, oI) :: news) := fun p hp => by
      rcases List.mem_cons.mp hp with rfl | hp
      · exact ⟨hoI, fun q => hL q.symm, hI0⟩
      · exact N₅ p hp
    refine wpAny_mono (wpAny_passesOwn hE (turn _ m' h₅ _ I oI hP hJ hoff F₅ N₆)) (fun f s₃ q => ?_) fun _ _ e => e
    have fin : ∀ tk₅, LEnd h₀ env.locals (fun m' nx => nx = news ∧ J m') I oI { s₁ with heap := h₅, toks := tk₅ } s₃ → ∃ m, m < ts.length + 1 - i ∧ ∃ h' tk m'_1 i, s₃ = { s₁ with heap := h', toks := tk } ∧ h'.IsTupleIter I T i ∧ Fr h₀ env.locals h' m'_1 ∧ News h₀ env.locals h' news ∧ J m'_1 ∧ i ≤ ts.length ∧ m = ts.length + 1 - i := by
      rintro tk₅ ⟨h', tk', m₂, news', rfl, F₆, N₇, off', rfl, hj'⟩
      exact ⟨ts.length + 1 - (i + 1), by omega, h', tk', m₂, i + 1, rfl, ⟨oI, (N₇ _ (List.mem_cons_self)).1, hoc, hod⟩, F₆, fun p hp => N₇ p (List.mem_cons_of_mem _ hp), hj', hlt, rfl⟩
    cases f with
    | ret v => exact q
    | brk => exact q
    | cont => exact fin _ q
    | next => exact fin _ q
  · have hin : i = ts.length := by omega
    subst hin
    refine wpAny_pyNext_tuple_end hh hit (News.isTup N' hT) (by simp) fun h₂ he₂ => wpAny_execs_nil ?_
    obtain ⟨F₂, N₂⟩ := next h₂ fun b o hb e => he₂ b o hb e
    exact done m' h₂ tk hJ F₂ N₂
end Mine

namespace Mine
theorem walk_anew_For3 : True := by (w_top off); trivial
end Mine
-- part F6
namespace Mine
open PySem.Calls PySem.Spec

local macro_rules | `(tactic| walk_at "mine_enter") => `(tactic| (
  refine wpAny_call ?_
  k_dflt (refine' enterF ?k1 ?k2 ?k3 ?k5 ?kA ?kF ?kK ?k6 ?k7 ?k8 ?k9 ?kB ?_ ?c2 ?c3 ?c4 ?c5; (case kA => exact rfl); (case kF => exact rfl); (case kK => assumption); (case k1 => k_asm); (case k2 => k_asm); (case k3 => k_asm); (case k5 => k_asm); (case k6 => k_is); (case k7 => k_is); (case k8 => (dsimp only [ktrTop]; omega)); (case k9 => exact BindsTo.of_eq rfl); (case c5 => decide); (case kB => exact locs rfl); (case c2 => exact rfl); (case c3 => exact rfl); (case c4 => exact rfl); k_whole)))
local macro_rules | `(tactic| walk_at "mine_steps") => `(tactic| repeat' (first
  | (k_unfold; (try dsimp only))
  | ((fail_if_success (with_reducible show wpAny _ _ (exec (Stmt.For _ _ _ _ _) _) _ _ _)); (fail_if_success (with_reducible show wpAny _ _ (exec (Stmt.While _ _ _ _) _) _ _ _)); (fail_if_success (with_reducible show wpAny _ _ (call (Value.ref _) _) _ _ _)); (fail_if_success (with_reducible show wpAny _ _ (pyIter _) _ _ _)); (fail_if_success (with_reducible show wpAny _ _ (call (Value.builtin "list.append") _) _ _ _)); (fail_if_success (with_reducible show wpAny _ _ (compareOp CmpOp.NotEq (Value.ref _) (Value.ref _)) _ _ _)); (fail_if_success (with_reducible show wpAny _ _ (call (Value.builtin "str.join") _) _ _ _)); (fail_if_success (with_reducible show wpAny _ _ (subscriptTail _ _ _ (Value.int _ _)) _ _ _)); (fail_if_success (with_reducible show LCg.CompSrc _ _ _ _ _ _ _ _ _ _ _ _ _ _)); (fail_if_success (with_reducible show LCg.CompEnd _ _ _ _ _ _ _ _ _ _ _ _ _ _)); (fail_if_success (with_reducible show wpAny _ _ (eval (Expr.ListComp _ _ _ _) _) _ _ _)); (fail_if_success (with_reducible show wpAny _ _ (exec (Stmt.Assign _ (Expr.ListComp _ _ _ _) _) _) _ _ _)); (first | walk1 | (dsimp only; walk1)))
  | fail "no step"))
local macro_rules | `(tactic| walk_at "mine_one") => `(tactic| repeat' (first
  | (k_unfold; (try dsimp only))
  | ((fail_if_success (with_reducible show wpAny _ _ (exec (Stmt.For _ _ _ _ _) _) _ _ _)); (fail_if_success (with_reducible show wpAny _ _ (exec (Stmt.While _ _ _ _) _) _ _ _)); (fail_if_success (with_reducible show wpAny _ _ (call (Value.ref _) _) _ _ _)); (fail_if_success (with_reducible show wpAny _ _ (pyIter _) _ _ _)); (fail_if_success (with_reducible show wpAny _ _ (call (Value.builtin "list.append") _) _ _ _)); (fail_if_success (with_reducible show wpAny _ _ (compareOp CmpOp.NotEq (Value.ref _) (Value.ref _)) _ _ _)); (fail_if_success (with_reducible show wpAny _ _ (call (Value.builtin "str.join") _) _ _ _)); (fail_if_success (with_reducible show wpAny _ _ (subscriptTail _ _ _ (Value.int _ _)) _ _ _)); (fail_if_success (with_reducible show wpAny _ _ (exec (Stmt.Assign [Expr.Name (Str.ofString "front") _] _ _) _) _ _ _)); (first | walk1 | (dsimp only; walk1)))
  | fail "no step"))
local macro_rules | `(tactic| walk_at "mine_for") => `(tactic| ((with_reducible rename Fr _ _ _ _ => lF'); (with_unfolding_all refine' For_invVF lF' ?k1 ?k2 ?_; (case k1 => exact rfl); (case k2 => exact rfl)); k_whole))
local macro_rules | `(tactic| walk_at "mine_room") => `(tactic| ((try dsimp only [ktrTop]); omega))

local macro_rules | `(tactic| walk_at "mine_roomL") => `(tactic| exact Nat.le_of_ble_eq_true rfl)
theorem strs_snoc : ∀ {vs : List Value} {xs : List Str} {x : Str} {t : Tok}, StrsAre vs xs → StrsAre (vs ++ [.str x t]) (xs ++ [x])
  | _, _, _, _, .nil => .cons _ _ .nil
  | _, _, _, _, .cons a b h => .cons a b (strs_snoc h)
theorem nums_facts (l : List Int) : (List.map (fun k' => k'.fmod 64) (List.take 8 l)).length ≤ 8 ∧ ∀ x ∈ List.map (fun k' => k'.fmod 64) (List.take 8 l), 0 ≤ x ∧ x < 64 := by
  refine ⟨by rw [List.length_map, List.length_take]; omega, fun x hx => ?_⟩
  obtain ⟨y, _, rfl⟩ := List.mem_map.mp hx
  exact ⟨Int.fmod_nonneg_of_pos _ (by decide), Int.fmod_lt_of_pos _ (by decide)⟩
theorem nums_of {ys : List Value} {l : List Int} (h : IntsAre ys (List.map (fun k' => k'.fmod 64) (List.take 8 l))) : ∃ ns, IntsAre ys ns ∧ ns.length ≤ 8 ∧ ∀ x ∈ ns, 0 ≤ x ∧ x < 64 := ⟨_, h, nums_facts l⟩
theorem steps0 : ∀ n : Nat, n < 9 → Builtin.Range.small 0 (n : Int) 2 = true ∧ Builtin.Range.rangeSize 0 (n : Int) 2 = (((n + 1) / 2 : Nat) : Int) := by decide +kernel
theorem steps1 : ∀ n : Nat, n < 9 → Builtin.Range.small 1 (n : Int) 2 = true ∧ Builtin.Range.rangeSize 1 (n : Int) 2 = ((n / 2 : Nat) : Int) := by decide +kernel
/-- a list of texts of one sign each -/
def SignsAre (ys : List Value) (n : Nat) : Prop := ∃ cs : List Nat, StrsAre ys (cs.map fun c => S [c]) ∧ cs.length = n ∧ ∀ c ∈ cs, Sign c
theorem SignsAre.snoc {ys : List Value} {n c : Nat} {t : Tok} (h : SignsAre ys n) (hc : Sign c) : SignsAre (ys ++ [.str (S [c]) t]) (n + 1) := by
  obtain ⟨cs, h1, h2, h3⟩ := h
  refine ⟨cs ++ [c], ?_, by simp [h2], fun d hd => ?_⟩
  · rw [List.map_append]; exact h1.append' (.cons _ _ .nil)
  · rcases List.mem_append.mp hd with hd | hd
    · exact h3 d hd
    · rw [List.mem_singleton.mp hd]; exact hc

theorem join_signs : ∀ cs : List Nat, Txt.join (S []) (cs.map fun c => S [c]) = S cs := by
  have key : ∀ cs : List Nat, Str.join (S []) (cs.map fun c => S [c]) = S cs := by
    intro cs
    induction cs with
    | nil => rfl
    | cons c r ih =>
      cases r with
      | nil => rfl
      | cons d r =>
        show S [c] ++ S [] ++ Str.join (S []) ((d :: r).map fun c => S [c]) = S (c :: d :: r)
        rw [ih, S_add, S_add]
        rfl
  intro cs
  exact (StrLaws.glued_eq_join _ _).trans (key cs)
theorem r_join {prog : Program} {w : World} {A : Around} {E : Value → Shared → Prop} {s : Shared} {Q : Value → Shared → Prop} {D : Addr} {ys : List Value} {n : Nat} {x : Str} {t : Tok} (hx : x = S []) (hl : s.heap.IsList D ys.toArray) (h : SignsAre ys n) (hn : n ≤ 100)
    (hq : ∀ cs t' k, cs.length = n → (∀ c ∈ cs, Sign c) → Q (.str (S cs) t') { s with toks := k }) : wpAny (model prog w) A (call (.builtin "str.join") [.str x t, .ref D]) Q E s := by
  subst hx
  obtain ⟨cs, h1, h2, h3⟩ := h
  refine join_listW hl (ys := cs.map fun c => S [c]) (by simpa using h1) (by rw [S_len]; decide) ?_ fun t' k => ?_
  · have : ((cs.map fun c => S [c]).map (·.length)).sum = cs.length := by
      clear h1 h2 h3
      induction cs with
      | nil => rfl
      | cons c r ih => rw [List.map_cons, List.map_cons, List.sum_cons, ih, S_len]; simp; omega
    rw [this, List.length_map]
    omega
  · rw [join_signs]
    exact hq cs t' k h2 h3
theorem ofs_mid : Str.ofString " A ,\"b,\\\"a\" B" = S [32, 65, 32, 44, 34, 98, 44, 92, 34, 97, 34, 32, 66] := by decide +kernel
theorem ofs_aB : Str.ofString "aB" = S [97, 66] := by decide +kernel
theorem mid_signs : ∀ c ∈ [32, 65, 32, 44, 34, 98, 44, 92, 34, 97, 34, 32, 66], Sign c := by
  intro c hc
  simp only [List.mem_cons, List.not_mem_nil, or_false] at hc
  rcases hc with rfl | rfl | rfl | rfl | rfl | rfl | rfl | rfl | rfl | rfl | rfl | rfl | rfl <;> simp [Sign]

set_option maxRecDepth 100000 in
set_option maxHeartbeats 1000000 in
theorem holds1 : PySem.Challenge.rw_pe0105_01.Holds := hd (by
  w_strict (
    k_go0
    (all_goals try k_fold)
    walk_at "mine_one"
    (rename IntsAre _ (List.map _ _) => hI8)
    obtain ⟨ns, hns, hn1, hn2⟩ := nums_of hI8
    have hnl := hns.length
    k_dflt (refine Assign_comp_steps (by k_asm) (by rfl) (by with_unfolding_all rfl) (by with_unfolding_all rfl) (by decide) (by rfl) (by decide) (by rfl) (by rfl) (by rfl) ?_)
    walk_at "mine_steps"
    (rename Fr _ _ _ _ => Fz); (rename News _ _ _ _ => Nz)
    have hsta := steps0 ns.length (by omega)
    refine ⟨_, 0, _, 2, _, _, _, (ns.length + 1) / 2, _, rfl, rfl, Fz, Nz, by assumption, hsta.1, hsta.2, by rw [PySem.sizeLine_eq]; omega, fun s₂ hs₂ => ?_⟩
    obtain ⟨ga, rfl⟩ := hs₂
    clear Fz
    refine comp_rest (fun i zs => SignsAre zs i) ⟨[], .nil, rfl, by simp⟩ ?_ ?_
    · clear Nz
      intro i zs v I oI C oC D' m₂ h tk E' hi hv hy hC hx F₃ N₃ off ne
      obtain ⟨t, rfl⟩ := hv
      obtain ⟨x, hx₁⟩ : ∃ x, ns[0 + i * 2]? = some x := ⟨_, List.getElem?_eq_getElem (by omega)⟩
      have hx₂ := hn2 x (List.mem_of_getElem? hx₁)
      walk_at "mine_steps"
      refine r_item_ints (ns := ns) (n := x) (News.isList N₃ (by k_mem)) hns (by omega) (by omega) (by rw [show ((0 : Int) + (i : Nat) * 2).toNat = 0 + i * 2 from by omega]; exact hx₁) fun t1 => ?_
      walk_at "mine_steps"
      k_dflt (refine Claim.use (c_sign _ _ _ _ (x.fmod 8) _ (Int.fmod_nonneg_of_pos _ (by decide)) (Int.fmod_lt_of_pos _ (by decide))) (by k_asm) (by k_asm) (by k_asm) (by k_asm) rfl trivial (by walk_at "mine_roomL") (by walk_at "mine_roomL") ?_)
      rintro v₅ h₅ tk₅ nw₅ ⟨rfl, c, t₅, hc, rfl⟩ F₅ - keep₅
      have N₅ := N₃.grown keep₅
      clear F₃ N₃
      try dsimp only
      walk_at "mine_steps"
      exact LCg.CompEnd.intro F₅ N₅ _ (fun _ h => h) off trivial ⟨rfl, hy.snoc hc⟩
    intro ya hya
    unfold LCg.FinA
    intro Da ha tka Fa Na oa
    simp only [LCg.Off1, and_true] at oa
    clear Nz
    try dsimp only
    walk_at "mine_steps"
    k_dflt (refine Assign_comp_steps (by k_asm) (by rfl) (by with_unfolding_all rfl) (by with_unfolding_all rfl) (by decide) (by rfl) (by decide) (by rfl) (by rfl) (by rfl) ?_)
    walk_at "mine_steps"
    (rename Fr _ _ _ _ => Fz); (rename News _ _ _ _ => Nz)
    have hstb := steps1 ns.length (by omega)
    refine ⟨_, 1, _, 2, _, _, _, ns.length / 2, _, rfl, rfl, Fz, Nz, by assumption, hstb.1, hstb.2, by rw [PySem.sizeLine_eq]; omega, fun s₂ hs₂ => ?_⟩
    obtain ⟨gb, rfl⟩ := hs₂
    clear Fz
    refine comp_rest (fun i zs => SignsAre zs i) ⟨[], .nil, rfl, by simp⟩ ?_ ?_
    · clear Nz
      intro i zs v I oI C oC D' m₂ h tk E' hi hv hy hC hx F₃ N₃ off ne
      obtain ⟨t, rfl⟩ := hv
      obtain ⟨x, hx₁⟩ : ∃ x, ns[1 + i * 2]? = some x := ⟨_, List.getElem?_eq_getElem (by omega)⟩
      have hx₂ := hn2 x (List.mem_of_getElem? hx₁)
      walk_at "mine_steps"
      refine r_item_ints (ns := ns) (n := x) (News.isList N₃ (by k_mem)) hns (by omega) (by omega) (by rw [show ((1 : Int) + (i : Nat) * 2).toNat = 1 + i * 2 from by omega]; exact hx₁) fun t1 => ?_
      walk_at "mine_steps"
      k_dflt (refine Claim.use (c_sign _ _ _ _ (x.fmod 8) _ (Int.fmod_nonneg_of_pos _ (by decide)) (Int.fmod_lt_of_pos _ (by decide))) (by k_asm) (by k_asm) (by k_asm) (by k_asm) rfl trivial (by walk_at "mine_roomL") (by walk_at "mine_roomL") ?_)
      rintro v₅ h₅ tk₅ nw₅ ⟨rfl, c, t₅, hc, rfl⟩ F₅ - keep₅
      have N₅ := N₃.grown keep₅
      clear F₃ N₃
      try dsimp only
      walk_at "mine_steps"
      exact LCg.CompEnd.intro F₅ N₅ _ (fun _ h => h) off trivial ⟨rfl, hy.snoc hc⟩
    intro yb hyb
    unfold LCg.FinA
    intro Db hb tkb Fb Nb ob
    simp only [LCg.Off1, and_true] at ob
    clear Nz
    try dsimp only
    walk_at "mine_steps"
    refine r_join ofs_nil (News.isList Nb (by k_mem)) hya (by omega) ?_
    intro fs tf kf hfl hfs
    have hfl' : (S fs).length ≤ 10 := by rw [S_len]; omega
    have hmid : (Str.ofString " A ,\"b,\\\"a\" B").length = 13 := by rw [ofs_mid, S_len]; rfl
    try dsimp only
    walk_at "mine_steps"
    refine r_join ofs_nil (News.isList Nb (by k_mem)) hyb (by omega) ?_
    intro bs tbs kbs hbl hbs
    have hbl' : (S bs).length ≤ 10 := by rw [S_len]; omega
    try dsimp only
    walk_at "mine_steps"
    (rename Fr _ _ _ _ => Fz); (rename News _ _ _ _ => Nz)
    rw [ofs_mid, S_add, S_add] at Fz
    have hhl : (fs ++ [32, 65, 32, 44, 34, 98, 44, 92, 34, 97, 34, 32, 66] ++ bs).length ≤ 30 := by simp only [List.length_append, List.length_cons, List.length_nil]; omega
    have hhs : ∀ c ∈ fs ++ [32, 65, 32, 44, 34, 98, 44, 92, 34, 97, 34, 32, 66] ++ bs, Sign c := by
      intro c hc
      rcases List.mem_append.mp hc with hc | hc
      · rcases List.mem_append.mp hc with hc | hc
        · exact hfs c hc
        · exact mid_signs c hc
      · exact hbs c hc
    generalize fs ++ [32, 65, 32, 44, 34, 98, 44, 92, 34, 97, 34, 32, 66] ++ bs = hdr at Fz hhl hhs
    k_dflt (refine LCg.ListComp_U (F₀ := by k_asm) (by with_unfolding_all rfl) (by decide) (by rfl) (by decide) (by rfl) ?_)
    walk_at "mine_steps"
    (rename IntsAre _ (List.take 2 ns) => hI2)
    have hI2l : (List.take 2 ns).length ≤ 2 := by rw [List.length_take]; omega
    have hI2m := hI2.length
    k_dflt (refine LCg.CompSrc.ledger (by rfl) (by k_asm) (by k_asm) (by k_mem) (by rw [PySem.sizeLine_eq, List.size_toArray]; omega) ?_)
    intro gw
    refine comp_rest (fun i zs => SignsAre zs i) ⟨[], .nil, rfl, by simp⟩ ?_ ?_
    · intro i zs v I oI C oC D' m₂ h tk E' hi hv hy hC hx F₃ N₃ off ne
      obtain ⟨x, t, rfl, hx₁⟩ := IntsAre.at hI2 i v (by simpa using hv)
      have hx₂ := hn2 x (List.mem_of_mem_take (List.mem_of_getElem? hx₁))
      have hx₃ : 0 ≤ x.fdiv 8 ∧ x.fdiv 8 < 8 := by
        rw [Int.fdiv_eq_ediv_of_nonneg _ (by decide)]
        omega
      walk_at "mine_steps"
      k_dflt (refine Claim.use (c_sign _ _ _ _ (x.fdiv 8) _ hx₃.1 hx₃.2) (by k_asm) (by k_asm) (by k_asm) (by k_asm) rfl trivial (by walk_at "mine_roomL") (by walk_at "mine_roomL") ?_)
      rintro v₅ h₅ tk₅ nw₅ ⟨rfl, c, t₅, hc, rfl⟩ F₅ - keep₅
      have N₅ := N₃.grown keep₅
      clear F₃ N₃
      try dsimp only
      walk_at "mine_steps"
      exact LCg.CompEnd.intro F₅ N₅ _ (fun _ h => h) off (Or.inr ⟨_, .head _, rfl, _, rfl⟩) ⟨rfl, hy.snoc hc⟩
    intro yw hyw
    rw [List.size_toArray] at hyw
    unfold LCg.FinE
    intro Dw hw tkw Fw Nw ow
    simp only [LCg.Off1, and_true] at ow
    try dsimp only
    walk_at "mine_steps"
    refine r_join ofs_nil (News.isList Nw (by k_mem)) hyw (by omega) ?_
    intro ws tws kws hwl hws
    have hwl' : (S ws).length ≤ 10 := by rw [S_len]; omega
    have haB : (Str.ofString "aB").length = 2 := by rw [ofs_aB, S_len]; rfl
    try dsimp only
    walk_at "mine_steps"
    (rename Fr _ _ _ _ => Fy); (rename News _ _ _ _ => Ny)
    rw [ofs_aB, S_add] at Fy
    rw [ofs_aB, S_add]
    have hdl : (ws ++ [97, 66]).length ≤ 4 := by simp only [List.length_append, List.length_cons, List.length_nil]; omega
    have hds : ∀ c ∈ ws ++ [97, 66], Sign c := by
      intro c hc
      rcases List.mem_append.mp hc with hc | hc
      · exact hws c hc
      · simp only [List.mem_cons, List.not_mem_nil, or_false] at hc
        rcases hc with rfl | rfl <;> simp [Sign]
    generalize ws ++ [97, 66] = wd at Fy hdl hds ⊢
    k_dflt (refine Claim.use (c_reading _ _ _ _ hdr wd _ _ (by omega) hhs (by omega)) (by k_asm) Fy (by k_asm) (by k_asm) rfl trivial (by walk_at "mine_roomL") (by walk_at "mine_roomL") ?_)
    rintro v₇ h₇ tk₇ nw₇ ⟨T, ts, kT, rfl, hT, htups⟩ F₇ Nn₇ keep₇
    have N₇ : News _ _ h₇ nw₇ := fun p hp => (news_join Fy Ny Nn₇ keep₇).1 p (List.mem_append_left _ hp)
    clear Ny Nn₇ keep₇ Fy
    try dsimp only
    walk_at "mine_steps"
    (rename Fr _ _ _ _ => Fy); (rename News _ _ _ _ => Ny)
    k_dflt (refine Claim.use (c_parse _ _ _ _ hdr _ (by omega) hhs) (by k_asm) Fy (by k_asm) (by k_asm) rfl trivial (by walk_at "mine_roomL") (by walk_at "mine_roomL") ?_)
    rintro v₈ h₈ tk₈ nw₈ ⟨D₈, us, kD, rfl, rfl, hus⟩ F₈ Nn₈ keep₈
    have N₈ := (news_join Fy Ny Nn₈ keep₈).1
    rw [List.singleton_append] at N₈
    clear Ny Nn₈ keep₈ Fy
    try dsimp only
    walk_at "mine_steps"
    k_dflt (refine LCg.ListComp_U (F₀ := by k_asm) (by with_unfolding_all rfl) (by decide) (by rfl) (by decide) (by rfl) ?_)
    walk_at "mine_steps"
    have htl := rOut_num hdr
    k_dflt (refine LCg.CompSrc.ledger (by rfl) (by k_asm) (by k_asm) (List.mem_cons_of_mem _ hT) (by rw [PySem.sizeLine_eq, List.size_toArray, htups.1]; omega) ?_)
    intro gu
    refine comp_rest (fun i zs => StrsAre zs (((rOut hdr).take i).map S)) (by simpa using StrsAre.nil) ?_ ?_
    · intro i zs v I oI C oC D' m₂ h tk E' hi hv hy hC hx F₃ N₃ off ne
      have hi' : i < (rOut hdr).length := by rw [← htups.1]; simpa using hi
      obtain ⟨a, t1, t2, n, ha1, ha2⟩ := htups.2 i _ (List.getElem?_eq_getElem hi')
      obtain rfl : v = .ref a := by
        have hv' : ts[i]? = some v := by simpa using hv
        exact Option.some.inj (hv'.symm.trans ha1)
      walk_at "mine_steps"
      refine item_tupleT (News.isTup N₃ (List.mem_cons_of_mem _ (List.mem_cons_of_mem _ (List.mem_cons_of_mem _ (List.mem_cons_of_mem _ ha2))))) (l := [_, _]) (j := 0) (by decide) (by decide) rfl rfl ?_
      refine LCg.CompEnd.intro F₃ N₃ _ (fun _ h => h) off (Or.inr ⟨_, List.mem_cons_of_mem _ hT, rfl, _, rfl⟩) ⟨rfl, ?_⟩
      rw [List.take_add_one, List.getElem?_eq_getElem hi', List.map_append]
      exact strs_snoc hy
    intro yu hyu
    unfold LCg.FinE
    intro Du hu tku Fu Nu ou
    simp only [LCg.Off1, and_true] at ou
    try dsimp only
    walk_at "mine_steps"
    rw [List.size_toArray, htups.1, List.take_length] at hyu
    rw [items_same hhs] at hus
    refine r_ne_strs (News.isList Nu (by k_mem)) (News.isList Nu (by k_mem)) hus hyu ?_ (by walk_at "mine_roomL") ?_
    · intro x hx
      obtain ⟨k, hk, rfl⟩ := List.mem_map.mp hx
      exact strOk_signs (rOut_facts hhs hk).2
    walk_at "mine_steps"
    (rename Fr _ _ _ _ => Fy); (rename News _ _ _ _ => Ny)
    k_dflt (refine For_pairsF Fy (by rfl) (by rfl) (by rfl) (by rfl) ?_ (by intro _; rfl))
    walk_at "mine_steps"
    refine ⟨T, ts, kT, _, nw₇, fun j v0 v1 => ∃ k t1 t2, (rOut hdr)[j]? = some k ∧ v0 = .str (S k) t1 ∧ v1 = .int (ED k wd : Int) t2,
      fun m => ∃ tw tb u, m = kn (Str.ofString "word") (.str (S wd) tw) (kn (Str.ofString "bound") (.int (ns.sum.fmod 12 - 2) tb) u), rfl, Fy, fun p hp => Ny p (List.mem_cons_of_mem _ (List.mem_cons_of_mem _ hp)), hT, ?_, ⟨_, _, _, kn_eq rfl (kn_eq rfl rfl)⟩, ?_, ?_⟩
    · intro j hj
      have hj' : j < (rOut hdr).length := by rw [← htups.1]; exact hj
      obtain ⟨a, t1, t2, n, ha1, ha2⟩ := htups.2 j _ (List.getElem?_eq_getElem hj')
      exact ⟨a, _, _, n, ha1, ha2, _, t1, t2, List.getElem?_eq_getElem hj', rfl, rfl⟩
    · clear Fy Ny
      rintro i v0 v1 m₁ h tk I oI hi ⟨k, t1, t2, hk, rfl, rfl⟩ ⟨tw, tb, u, rfl⟩ off F₃ N₃
      have hkf := rOut_facts hhs (List.mem_of_getElem? hk)
      walk_at "mine_steps"
      (rename Fr _ _ _ _ => Fy); (rename News _ _ _ _ => Ny)
      k_dflt (refine For_trip Fy (by rfl) (by rfl) (by rfl) ?_ (by intro _; rfl))
      walk_at "mine_steps"
      (rename Fr _ _ _ _ => Fy); (rename News _ _ _ _ => Ny)
      refine ⟨_, [_, _, _], _, _, _, (fun v => ∃ z tz, v = .int z tz),
        (fun m => ∃ ti tp tw tb u, m = kn (Str.ofString "item") (.str (S k) ti) (kn (Str.ofString "price") (.int (ED k wd : Int) tp) (kn (Str.ofString "word") (.str (S wd) tw) (kn (Str.ofString "bound") (.int (ns.sum.fmod 12 - 2) tb) u)))),
        rfl, Fy, Ny, by k_mem, ?_, ⟨_, _, _, _, _, kn_eq rfl (kn_eq rfl (kn_eq rfl (kn_eq rfl rfl)))⟩, ?_, ?_⟩
      · intro v hv
        simp only [List.mem_cons, List.not_mem_nil, or_false] at hv
        rcases hv with rfl | rfl | rfl <;> exact ⟨_, _, rfl⟩
      · clear Fy Ny
        try clear F₃ N₃
        rintro v m₁ h tk I₂ oI₂ ⟨z, tz, rfl⟩ ⟨ti, tp, tw, tb, u, rfl⟩ off₂ F₄ N₄
        walk_at "mine_steps"
        k_dflt (refine Claim.use (c_lev _ _ _ _ wd k z _ _ _ (by omega) (by omega) hds hkf.2) (by k_asm) (by k_asm) (by k_asm) (by k_asm) rfl trivial (by walk_at "mine_roomL") (by walk_at "mine_roomL") ?_)
        rintro v₅ h₅ tk₅ nw₅ ⟨rfl, r, tr, rfl, hlev⟩ F₅ - keep₅
        have N₅ := N₄.grown keep₅
        clear F₄ N₄
        have hlev' : r = (ED k wd : Int) ∨ (r = z + 1 ∧ z + 1 ≤ (ED k wd : Int)) := by rw [ED_comm k wd]; exact hlev
        try dsimp only
        walk_at "mine_steps"
        all_goals first
          | (exfalso; rcases hlev' with h1 | ⟨h1, h2⟩ <;> omega)
          | ((rename Fr _ _ _ _ => Fz); (rename News _ _ _ _ => Nz); exact LEnd.mk' Fz Nz off₂ ⟨rfl, _, _, _, _, _, kn_eq rfl (kn_eq rfl (kn_eq rfl (kn_eq rfl rfl)))⟩)
      · clear Fy Ny
        try clear F₃ N₃
        rintro m₁ h tk ⟨ti, tp, tw, tb, u, rfl⟩ F₄ N₄
        walk_at "mine_steps"
        exact LEnd.mk' F₄ (fun p hp => N₄ p (List.mem_cons_of_mem _ hp)) off ⟨rfl, _, _, _, kn_eq rfl (kn_eq rfl rfl)⟩
    · clear Fy Ny
      rintro m₁ h tk ⟨tw, tb, u, rfl⟩ F₃ N₃
      walk_at "mine_steps"
      dsimp only
      walk_at "mine_steps"
      wrow_close))
end Mine

theorem PySem.Challenge.cw_pe0105_01_holds : PySem.Challenge.rw_pe0105_01.Holds := by
  exact Mine.holds1
