import PyProof.Rows.All
import Wide.All
import OpenK.AllK
import Wide.FinOn
import PySem.Challenge.RW_ft0022_01
set_option Elab.async false
set_option maxRecDepth 100000
set_option maxHeartbeats 8000000
set_option linter.unusedVariables false
set_option linter.unusedSimpArgs false
section
open PySem PySem.W PyProof.Rows
namespace Mine
open_top hd for PySem.Challenge.rw_ft0022_01
end Mine
end
section
open PySem PySem.W PySem.Spec PySem.Calls PyProof.Rows
namespace Mine
theorem fresh_C0 : True := by
  w_top off
  trivial
/-- a goal at which the walk stops -/
def Stop (P : Prop) : Prop := P
theorem stop {P : Prop} (h : Stop P) : P := h
/-- a word at which the walk stops, not opened by it -/
def Hold (P : Prop) : Prop := P
theorem Hold.mk {P : Prop} (h : P) : Hold P := h
theorem Hold.out {P : Prop} (h : Hold P) : P := h
theorem Stop.mk {P : Prop} (h : P) : Stop P := h

section
variable {prog : Program} {w : World} {A : Around} {E : Value → Shared → Prop} {s : Shared} {env : Env} {h₀ : Heap} {x : Str} {body : List Stmt} {Q : Flow → Shared → Prop}

/-- the end of a turn: the iterator's entry in front, then the ledger; the word holds of it -/
def EndL (h₀ : Heap) (L : Addr) (J : (Str → Option Value) → List (Addr × Obj) → Prop) (I : Addr) (oI : Obj) (s₁ s₂ : Shared) : Prop :=
  ∃ h' tk m' news', s₂ = { s₁ with heap := h', toks := tk } ∧ Fr h₀ L h' m' ∧ News h₀ L h' ((I, oI) :: news') ∧ (∀ p ∈ news', p.1 ≠ I) ∧ J m' news'
def PostL (h₀ : Heap) (L : Addr) (J : (Str → Option Value) → List (Addr × Obj) → Prop) (I : Addr) (oI : Obj) (s₁ : Shared) (Q : Flow → Shared → Prop) (f : Flow) (s₂ : Shared) : Prop :=
  match f with
  | .ret v => Q (.ret v) s₂
  | .brk => Q .next s₂
  | _ => EndL h₀ L J I oI s₁ s₂
theorem EndL.intro {h₀ : Heap} {L : Addr} {J : (Str → Option Value) → List (Addr × Obj) → Prop} {I : Addr} {oI : Obj} {s₁ : Shared} {h' : Heap} {tk : Nat} {m' : Str → Option Value} {all : List (Addr × Obj)}
    (F : Fr h₀ L h' m') (N : News h₀ L h' all) (news' : List (Addr × Obj)) (sub : ∀ p ∈ (I, oI) :: news', p ∈ all) (off : ∀ p ∈ news', p.1 ≠ I) (hJ : J m' news') : EndL h₀ L J I oI s₁ { s₁ with heap := h', toks := tk } :=
  ⟨h', tk, m', news', rfl, F, fun p hp => N p (sub p hp), off, hJ⟩

/-- a for over a list of the ledger, by a word over the frame and the ledger -/
theorem iterL {l : Addr} {vs : List Value} {k : Nat} {m₀ : Str → Option Value} {news : List (Addr × Obj)} (J : Nat → (Str → Option Value) → List (Addr × Obj) → Prop)
    (hh : A.handled = none) (F : Fr h₀ env.locals s.heap m₀) (N : News h₀ env.locals s.heap news) (hj : J 0 m₀ news)
    (hl : ∀ i m₁ news₁, J i m₁ news₁ → (l, PySem.W.listOf vs.toArray k) ∈ news₁)
    (turn : ∀ i v m₁ news₁ I oI h tk, vs[i]? = some v → J i m₁ news₁ → (∀ p ∈ news₁, p.1 ≠ I) → Fr h₀ env.locals h (fun y => if y = x then some v else m₁ y) → News h₀ env.locals h ((I, oI) :: news₁) →
      wpAny (model prog w) A (execs body env) (PostL h₀ env.locals (J (i + 1)) I oI { s with heap := h, toks := tk } Q) E { s with heap := h, toks := tk })
    (done : ∀ m₁ news₁ h tk, J vs.length m₁ news₁ → Fr h₀ env.locals h m₁ → News h₀ env.locals h news₁ → Q .next { s with heap := h, toks := tk }) :
    wpAny (model prog w) A (pyIter (.ref l)) (fun it s₂ => LoopAtV prog w A h₀ env x body Q E it s₂) E s := by
  have hm := hl 0 m₀ news hj
  have hls : s.heap.IsList l vs.toArray := ⟨_, (N _ hm).1, rfl, k, rfl⟩
  have hlt : l < s.heap.objs.size := Heap.lt_size (N _ hm).1
  have hne : l ≠ s.heap.objs.size := Nat.ne_of_lt hlt
  refine wpAny_pyIter_list hls ?_
  have WW := Walks.list (prog := prog) (w := w) hh s.heap.objs.size l hne vs.toArray
  have hlen : vs.toArray.size = vs.length := by simp
  rw [hlen] at WW
  refine ⟨_, _, _, vs.length, _, _, m₀, news, J, rfl, WW, ?_, ?_, ?_, ⟨⟨_, Heap.get?_push_size _ rfl, rfl, rfl⟩, hls.at fun o e => Heap.get?_push_of_some _ e⟩, F.push _, (fun p hp => ⟨Heap.get?_push_of_some _ (N p hp).1, (N p hp).2⟩), hj, ?_, ?_⟩
  · intro hm'
    rcases List.mem_cons.mp hm' with e | hm'
    · exact absurd F.ns.lt (e ▸ Nat.lt_irrefl _)
    · exact (N _ hm).2.1 (List.mem_singleton.mp hm').symm
  · intro b hb
    rw [List.mem_singleton.mp hb]
    exact next_is_new F
  · intro p hp hI
    exact absurd (Heap.lt_size (N p hp).1) ((List.mem_singleton.mp hI) ▸ Nat.lt_irrefl _)
  · rintro i v m₁ news₁ s₁ own ⟨hh', tk', rfl⟩ hin hP hJ hoff hown hget hall hst F₁ N₁
    have hoff' : ∀ p ∈ news₁, p.1 ≠ s.heap.objs.size := fun p hp e => hoff p hp (by rw [e]; exact List.mem_singleton.mpr rfl)
    obtain ⟨oI, hoI, _⟩ := hst.1
    have hIn : (s.heap.objs.size, oI) ∈ own := hall _ (.head _) (next_is_new F) _ hoI
    have N₂ : News h₀ env.locals hh' ((s.heap.objs.size, oI) :: news₁) := fun p hp => by
      rcases List.mem_cons.mp hp with rfl | hp
      · exact N₁ _ (List.mem_append_left _ hIn)
      · exact N₁ _ (List.mem_append_right _ hp)
    have hv : vs[i]? = some v := by simpa using hP
    refine wpAny_mono (turn i v m₁ news₁ _ oI hh' tk' hv hJ hoff' F₁ N₂) (fun f s₂ p => ?_) fun _ _ e => e
    have fin : EndL h₀ env.locals (J (i + 1)) s.heap.objs.size oI { s with heap := hh', toks := tk' } s₂ → LoopStepU h₀ env.locals [s.heap.objs.size] own (J (i + 1)) { s with heap := hh', toks := tk' } .next s₂ := by
      rintro ⟨h', tk, m', news', e, F', N', ha, hm'⟩
      refine ⟨rfl, h', tk, m', news', e, F', fun p hp => ?_, fun p hp hq => ha p hp (List.mem_singleton.mp hq), hm'⟩
      rcases List.mem_append.mp hp with hp | hp
      · rcases List.mem_cons.mp (hown p hp) with e1 | e1
        · have e2 : p = (s.heap.objs.size, oI) := by
            have e3 := hget p hp
            rw [e1] at e3
            have e4 := (N₁ _ (List.mem_append_left _ hIn)).1
            have e5 : some p.2 = some oI := e3.symm.trans e4
            cases p; simp only at e1 e5 ⊢; rw [e1, Option.some.inj e5]
          rw [e2]; exact N' _ (.head _)
        · have e1' : p.1 = l := List.mem_singleton.mp e1
          have h1 := hl _ _ _ hJ
          have h2 := hl _ _ _ hm'
          have e2 : p = (l, PySem.W.listOf vs.toArray k) := by
            have e3 := hget p hp
            rw [e1'] at e3
            have e4 := (N₁ _ (List.mem_append_right _ h1)).1
            have e5 := e3.symm.trans e4
            cases p; simp only at e1' e5 ⊢; rw [e1', Option.some.inj e5]
          rw [e2]; exact N' _ (.tail _ h2)
      · exact N' _ (.tail _ hp)
    cases f with
    | ret v => exact .ret p
    | brk => exact .brk p
    | next => exact .next (fin p)
    | cont => exact .cont (fin p)
  · rintro h' tk m' news' F' N' _ hJ
    exact done m' news' h' tk hJ F' N'
end
end Mine
namespace Mine
section
variable {prog : Program} {w : World} {A : Around} {E : Value → Shared → Prop} {s : Shared} {env : Env} {h₀ : Heap} {x : Str} {body : List Stmt} {Q : Flow → Shared → Prop}
theorem ovr (m₀ : Str → Option Value) (x : Str) (u v : Option Value) : (fun y => if y = x then v else (fun z => if z = x then u else m₀ z) y) = fun y => if y = x then v else m₀ y := by
  funext y; by_cases h : y = x <;> simp [h]
theorem ovr0 (m₀ : Str → Option Value) (x : Str) : m₀ = fun z => if z = x then m₀ x else m₀ z := by
  funext y; by_cases h : y = x <;> simp [h]
/-- the frame changes at the loop's name alone; the word over the ledger -/
def EndL0 (h₀ : Heap) (L : Addr) (x : Str) (m₀ : Str → Option Value) (J : List (Addr × Obj) → Prop) (I : Addr) (oI : Obj) (s₁ s₂ : Shared) : Prop :=
  ∃ h' tk u news', s₂ = { s₁ with heap := h', toks := tk } ∧ Fr h₀ L h' (fun z => if z = x then u else m₀ z) ∧ News h₀ L h' ((I, oI) :: news') ∧ (∀ p ∈ news', p.1 ≠ I) ∧ J news'
def PostL0 (h₀ : Heap) (L : Addr) (x : Str) (m₀ : Str → Option Value) (J : List (Addr × Obj) → Prop) (I : Addr) (oI : Obj) (s₁ : Shared) (Q : Flow → Shared → Prop) (f : Flow) (s₂ : Shared) : Prop :=
  match f with
  | .ret v => Q (.ret v) s₂
  | .brk => Q .next s₂
  | _ => EndL0 h₀ L x m₀ J I oI s₁ s₂
theorem EndL0.intro {h₀ : Heap} {L : Addr} {x : Str} {m₀ : Str → Option Value} {J : List (Addr × Obj) → Prop} {I : Addr} {oI : Obj} {s₁ : Shared} {h' : Heap} {tk : Nat} {u : Option Value} {news' : List (Addr × Obj)}
    (F : Fr h₀ L h' (fun z => if z = x then u else m₀ z)) (N : News h₀ L h' ((I, oI) :: news')) (off : ∀ p ∈ news', p.1 ≠ I) (hJ : J news') : EndL0 h₀ L x m₀ J I oI s₁ { s₁ with heap := h', toks := tk } :=
  ⟨h', tk, u, news', rfl, F, N, off, hJ⟩
theorem iterL0 {l : Addr} {vs : List Value} {k : Nat} {m₀ : Str → Option Value} {news : List (Addr × Obj)} (J : Nat → List (Addr × Obj) → Prop)
    (hh : A.handled = none) (F : Fr h₀ env.locals s.heap m₀) (N : News h₀ env.locals s.heap news) (hj : J 0 news)
    (hl : ∀ i news₁, J i news₁ → (l, PySem.W.listOf vs.toArray k) ∈ news₁)
    (turn : ∀ i v news₁ I oI h tk, vs[i]? = some v → J i news₁ → (∀ p ∈ news₁, p.1 ≠ I) → Fr h₀ env.locals h (fun y => if y = x then some v else m₀ y) → News h₀ env.locals h ((I, oI) :: news₁) →
      wpAny (model prog w) A (execs body env) (PostL0 h₀ env.locals x m₀ (J (i + 1)) I oI { s with heap := h, toks := tk } Q) E { s with heap := h, toks := tk })
    (done : ∀ u news₁ h tk, J vs.length news₁ → Fr h₀ env.locals h (fun z => if z = x then u else m₀ z) → News h₀ env.locals h news₁ → Q .next { s with heap := h, toks := tk }) :
    wpAny (model prog w) A (pyIter (.ref l)) (fun it s₂ => LoopAtV prog w A h₀ env x body Q E it s₂) E s := by
  refine iterL (fun i m₁ news₁ => (∃ u, m₁ = fun z => if z = x then u else m₀ z) ∧ J i news₁) hh F N ⟨⟨_, ovr0 m₀ x⟩, hj⟩ (fun i m₁ n₁ h => hl i n₁ h.2) ?_ ?_
  · rintro i v m₁ news₁ I oI h tk hv ⟨⟨u, rfl⟩, hJ⟩ hoff F₁ N₁
    rw [ovr] at F₁
    refine wpAny_mono (turn i v news₁ I oI h tk hv hJ hoff F₁ N₁) (fun f s₂ p => ?_) fun _ _ e => e
    have fin : EndL0 h₀ env.locals x m₀ (J (i + 1)) I oI { s with heap := h, toks := tk } s₂ → EndL h₀ env.locals (fun m₁ news₁ => (∃ u, m₁ = fun z => if z = x then u else m₀ z) ∧ J (i + 1) news₁) I oI { s with heap := h, toks := tk } s₂ := by
      rintro ⟨h', tk', u', news', e, F', N', ha, hJ'⟩
      exact ⟨h', tk', _, news', e, F', N', ha, ⟨u', rfl⟩, hJ'⟩
    cases f with
    | ret v => exact p
    | brk => exact p
    | next => exact fin p
    | cont => exact fin p
  · rintro m₁ news₁ h tk ⟨⟨u, rfl⟩, hJ⟩ F₁ N₁
    exact done u news₁ h tk hJ F₁ N₁
end
end Mine

namespace Mine
abbrev En (w : World) (x : String) (t : Tok) (v : Value) : DictEntry := { hash := PyData.keyHash w.params (Str.ofString x), key := .str (Str.ofString x) t, val := v }

/-- what a call gives back, whatever the caller's frame -/
def Ctr (w : World) (dmax umax : Nat) (f : Value) (args : List Value) (kw : List (Str × Value)) (news : List (Addr × Obj)) (post : Value → List (Addr × Obj) → Prop) : Prop :=
  ∀ (p : Program) (loose : List Str) (mean : ExcName → Option Value) (mg mb : Str → Option Value)
    (dp un : Nat) (gd : Option (List Code)) (cn : Str) (cs : Scope) (a : Addr) (ccd : Value) (cl : List (Str × Addr)) (outer : List Env) (A₀ : Around) (base h₀ : Heap) (L : Addr) (m : Str → Option Value) (s : Shared)
    (Q E : Value → Shared → Prop),
    Below A₀ base outer h₀ → Fr h₀ L s.heap m → (hd.heap_39 w.params).In h₀ → News h₀ L s.heap news → Top p loose mean mg mb h₀ → cs.kind = .function → dp + dmax < recursionLimit → un + umax < cLine →
    (∀ r tl h' tk', Fr h₀ L h' m → News h₀ L h' (tl ++ news) → (∀ q ∈ news, ∀ p ∈ tl, q.1 ≠ p.1) → post r tl → Q r { s with heap := h', toks := tk' }) →
    wpAny (model PySem.Challenge.rw_ft0022_01.row.prog w) (ktrTop dp un gd cn cs L a ccd cl outer) (call f args kw) Q E s
theorem Ctr.use {w : World} {dmax umax : Nat} {f : Value} {args : List Value} {kw : List (Str × Value)} {news : List (Addr × Obj)} {post : Value → List (Addr × Obj) → Prop}
    {p : Program} {loose : List Str} {mean : ExcName → Option Value} {mg mb : Str → Option Value}
    {dp un : Nat} {gd : Option (List Code)} {cn : Str} {cs : Scope} {a : Addr} {ccd : Value} {cl : List (Str × Addr)} {outer : List Env} {A₀ : Around} {base h₀ : Heap} {L : Addr} {m : Str → Option Value} {s : Shared}
    {Q E : Value → Shared → Prop} (B : Below A₀ base outer h₀) (F : Fr h₀ L s.heap m) (X : (hd.heap_39 w.params).In h₀) (N : News h₀ L s.heap news) (T : Top p loose mean mg mb h₀) (hk : cs.kind = .function)
    (C : Ctr w dmax umax f args kw news post) (hd : dp + dmax < recursionLimit) (hu : un + umax < cLine)
    (ret : ∀ r tl h' tk', Fr h₀ L h' m → News h₀ L h' (tl ++ news) → (∀ q ∈ news, ∀ p ∈ tl, q.1 ≠ p.1) → post r tl → Q r { s with heap := h', toks := tk' }) :
    wpAny (model PySem.Challenge.rw_ft0022_01.row.prog w) (ktrTop dp un gd cn cs L a ccd cl outer) (call f args kw) Q E s :=
  C _ _ _ _ _ _ _ _ _ _ _ _ _ _ _ _ _ _ _ _ _ _ B F X N T hk hd hu ret
theorem newsSub {h₀ h : Heap} {L : Addr} {a b : List (Addr × Obj)} (N : News h₀ L h a) (s : ∀ p ∈ b, p ∈ a) : News h₀ L h b := fun p hp => N p (s p hp)

def InfoAt (w : World) (news : List (Addr × Obj)) (x : Addr) (nm : Str) (ms : List Addr) : Prop :=
  ∃ d t1 t2 t3 t4 t5 t6 t7 cd cdd tv tv0 bl ml n1 n2 n3, 
   (x, instObj 92 d) ∈ news ∧ (d, dictOf [En w "fullname" t1 (.str nm t2), En w "defn" t3 (.ref cd), En w "type_vars" t4 (.ref tv), En w "bases" t5 (.ref bl), En w "mro" t6 (.ref ml)] 5) ∈ news ∧
   (cd, instObj 66 cdd) ∈ news ∧ (cdd, dictOf [En w "type_vars" t7 (.ref tv0)] 1) ∈ news ∧ (tv0, PySem.W.listOf #[] n1) ∈ news ∧ (tv, PySem.W.listOf #[] n2) ∈ news ∧ (ml, PySem.W.listOf (ms.map Value.ref).toArray n3) ∈ news
theorem InfoAt.mono {w : World} {news news' : List (Addr × Obj)} {x : Addr} {nm : Str} {ms : List Addr} (h : InfoAt w news x nm ms) (s : ∀ p ∈ news, p ∈ news') : InfoAt w news' x nm ms := by
  obtain ⟨d, t1, t2, t3, t4, t5, t6, t7, cd, cdd, tv, tv0, bl, ml, n1, n2, n3, m1, m2, m3, m4, m5, m6, m7⟩ := h
  exact ⟨d, t1, t2, t3, t4, t5, t6, t7, cd, cdd, tv, tv0, bl, ml, n1, n2, n3, s _ m1, s _ m2, s _ m3, s _ m4, s _ m5, s _ m6, s _ m7⟩
end Mine
namespace Mine
theorem InfoAt.inst {w : World} {news : List (Addr × Obj)} {x : Addr} {nm : Str} {ms : List Addr} (h : InfoAt w news x nm ms) : ∃ d, (x, instObj 92 d) ∈ news := by
  obtain ⟨d, t1, t2, t3, t4, t5, t6, t7, cd, cdd, tv, tv0, bl, ml, n1, n2, n3, m1, m2, m3, m4, m5, m6, m7⟩ := h
  exact ⟨d, m1⟩
def TyAt (w : World) (news : List (Addr × Obj)) (a x : Addr) : Prop :=
  ∃ d t1 t2 tup, (a, instObj 340 d) ∈ news ∧ (d, dictOf [En w "type" t1 (.ref x), En w "args" t2 (.ref tup)] 2) ∈ news ∧ (tup, ({ cls := .type "tuple", data := .seq #[] } : Obj)) ∈ news
theorem TyAt.mono {w : World} {news news' : List (Addr × Obj)} {a x : Addr} (h : TyAt w news a x) (s : ∀ p ∈ news, p ∈ news') : TyAt w news' a x := by
  obtain ⟨d, t1, t2, tup, m1, m2, m3⟩ := h
  exact ⟨d, t1, t2, tup, s _ m1, s _ m2, s _ m3⟩
end Mine
end
section
open PySem PySem.W PySem.Spec PySem.Calls PyProof.Rows
namespace Mine
theorem fresh_C1 : True := by
  w_top off
  trivial
local macro_rules | `(tactic| k_mem) => `(tactic| first | exact List.mem_cons_self | (refine List.mem_cons_of_mem _ ?_; k_mem))
local macro_rules | `(tactic| k_steps) => `(tactic| repeat' (first | (k_unfold; (try dsimp only)) | (k_end; wrow_close) | walk1 | (dsimp only; walk1) | (dsimp only; k_unfold; (try dsimp only)) | (leave1; walk_say "STEP leave1"; try dsimp only) | fail "no step"))
local macro_rules | `(tactic| walk_at "Hold") => `(tactic| refine stop ?_)
local macro_rules | `(tactic| walk_at "PostL0") => `(tactic| (unfold PostL0; try dsimp only))
local macro_rules | `(tactic| walk_at "EndL0") => `(tactic| refine stop ?_)
local macro_rules | `(tactic| walk_at "PostL") => `(tactic| (unfold PostL; try dsimp only))
local macro_rules | `(tactic| walk_at "EndL") => `(tactic| refine stop ?_)
local macro_rules | `(tactic| walk_at "PostM") => `(tactic| (unfold PostM; try dsimp only))
local macro_rules | `(tactic| walk_at "EndM") => `(tactic| refine stop ?_)
local macro_rules | `(tactic| walk_at "PostT") => `(tactic| (unfold PostT; try dsimp only))
local macro_rules | `(tactic| walk_at "EndT") => `(tactic| refine stop ?_)
local macro_rules | `(tactic| walk_at "pyIter ref") => `(tactic| refine stop ?_)
local macro_rules | `(tactic| ktr_call $_x:term $c:term) => `(tactic| (refine' Ctr.use ?k1 ?k2 ?k3 ?k4 ?k5 ?kK ?kC ?kd ?ku ?_; (case k1 => k_asm); (case k2 => k_asm); (case k3 => k_asm); (case k4 => k_asm); (case k5 => k_asm); (case kK => first | exact rfl | assumption); (case kC => exact $c); (case kd => ktr_room); (case ku => ktr_units)))
local macro_rules | `(tactic| k_room) => `(tactic| ktr_room)
local macro_rules | `(tactic| k_units) => `(tactic| ktr_units)
local macro_rules | `(tactic| k_enter) => `(tactic| first
  | (refine' code_def ?k1 ?k2 ?k3 ?k4 ?k5 ?kA ?kF ?kK ?k6 ?k7 ?k8 ?k9 ?kB ?_ ?c2 ?c3 ?c4 ?c5; (case k2 => k_asm); (case k3 => k_asm); (case k6 => k_is); (case k1 => k_asm); (case k4 => k_asm); (case k5 => k_asm); (case kA => exact rfl); (case kF => exact rfl); (case kK => first | exact rfl | assumption); (case k7 => k_is); (case k8 => ktr_room); (case k9 => first | exact BindsTo.of_eq rfl | exact binds_K (by k_in) rfl (by k_is) rfl rfl rfl | fail "k_enter: no rule for these arguments"); (case c5 => decide); (case kB => exact locs rfl); (case c2 => exact rfl); (case c3 => exact rfl); (case c4 => exact rfl); k_whole; intro g' L' h' FG' F' N' B' X' T'; (try dsimp only); (try k_lift B'); (try k_fold))
  | (refine' code_defC ?k1 ?k2 ?k3 ?k4 ?k5 ?kA ?kF ?kK ?k6 ?k7 ?k8 ?k9 ?kB ?kD ?_ ?c2 ?c3 ?c4; (case k2 => k_asm); (case k3 => k_asm); (case k6 => k_is); (case k1 => k_asm); (case k4 => k_asm); (case k5 => k_asm); (case kA => exact rfl); (case kF => exact rfl); (case kK => first | exact rfl | assumption); (case k7 => k_is); (case k8 => ktr_room); (case k9 => first | exact BindsTo.of_eq rfl | exact binds_K (by k_in) rfl (by k_is) rfl rfl rfl | fail "k_enter: no rule for these arguments"); (case kB => exact rfl); (case kD => decide +kernel); (case c2 => exact rfl); (case c3 => exact rfl); (case c4 => exact rfl); k_whole; intro g' L' h' tk' cells' FG' F' N' Y' B' X' T' l1; (try k_lt l1); k_cells Y'; (try simp only [List.cons_append, List.nil_append] at N'); (try dsimp only); (try k_lift B'); (try k_fold)))
local macro_rules | `(tactic| walk_at "truthy ref") => `(tactic| (k_here; (with_reducible show wpAny _ _ (truthy (Value.ref _)) _ _ _); (refine' kgr_truthy ?N ?m ?c ?d ?f ?_; (case N => k_asm); (case m => k_mem); (case c => rfl); (case d => rfl); (case f => first | omega | ((try simp only [List.length_map, List.length_cons, List.length_nil]); omega))); (try simp only [List.isEmpty_cons, List.isEmpty_nil, Bool.not_false, Bool.not_true])))
local macro_rules | `(tactic| ktr_rel) => `(tactic| (intro p hp; (try simp only [List.nil_append, List.cons_append, List.mem_cons, List.mem_append] at hp ⊢); first | exact hp | (simp [hp]; done) | (rcases hp with hp | hp <;> simp [hp])))
local macro_rules | `(tactic| walk_at "eval Name") => `(tactic| (k_here; k_dflt (refine' nameX_B ?F ?X ?T ?e ?v ?n ?_ ?a ?b; (case a => rfl); (case b => rfl); (case F => k_asm); (case X => k_asm); (case T => k_asm); (case e => k_is); (case v => boot_fast); (case n => decide); k_whole)))
local macro_rules | `(tactic| walk_at "eval Name") => `(tactic| (k_here; k_dflt (refine' nameX_K ?F ?X ?T ?e ?_ ?a ?b; (case a => rfl); (case b => rfl); (case F => k_asm); (case X => k_asm); (case T => k_asm); (case e => k_is); k_whole)))
local macro_rules | `(tactic| walk_at "eval Name") => `(tactic| (k_here; k_dflt (refine' nameX_L ?F ?v ?_ ?a ?b; (case F => k_asm); (case a => rfl); (case b => rfl); (case v => rfl); k_whole)))
local macro_rules | `(tactic| walk_at "ite") => `(tactic| ((with_reducible show ite (true = true) _ _); refine ite_pos rfl ?_))
local macro_rules | `(tactic| walk_at "ite") => `(tactic| ((with_reducible show ite (false = true) _ _); refine ite_neg Bool.false_ne_true ?_))
local macro_rules | `(tactic| walk_at "call builtin:isinstance") => `(tactic| (k_here; k_dflt (refine' isi_call ?k1 ?k2 ?k3 ?k4 ?_; (case k1 => k_in); (case k2 => k_types); (case k3 => k_is); (case k4 => intro e; cases e); k_whole)))
local macro_rules | `(tactic| walk_at "call ref") => `(tactic| (k_here; k_dflt (refine' call_cls ?k1 ?k2 ?k3 ?k4 ?k5 ?k6 ?_; (case k1 => k_asm); (case k2 => k_asm); (case k4 => k_is); (case k3 => k_asm); (case k5 => k_is); (case k6 => k_is); k_whole; intro x' d' h' F' N' l1 l2; (try k_lt l1); (try k_lt2 l2); (try k_sweep); k_enter)))
local macro_rules | `(tactic| walk_at "call ref") => `(tactic| (k_here; k_dflt (refine wpAny_call ?_; k_enter)))
local macro_rules | `(tactic| walk_at "call builtin:isinstance") => `(tactic| (k_here; (with_reducible show wpAny _ _ (call _ [Value.ref _, Value.ref _]) _ _ _); k_dflt (refine' kin_callC ?k1 ?k2 ?k3 ?k4 ?k5 ?k6 ?k7 ?k8 ?k9 ?_; (case k1 => k_in); (case k2 => k_inst); (case k3 => kin_no); (case k4 => k_is); (case k5 => k_is); (case k6 => k_is); (case k7 => k_is); (case k8 => k_is); (case k9 => k_is); k_whole)))
local macro_rules | `(tactic| walk_at "eval Name") => `(tactic| (k_here; k_dflt (refine' nameX_C ?N ?c ?m ?d ?_ ?a ?b; (case a => rfl); (case b => rfl); (case N => k_asm); (case c => rfl); (case m => k_mem); (case d => k_asm); k_whole)))
local macro_rules | `(tactic| walk_at "call builtin:list.append") => `(tactic| (k_here; (with_reducible show wpAny _ _ (call (Value.builtin _) [Value.ref _, _]) _ _ _); k_dflt (refine' append_K ?k1 ?k2 ?k3 ?_ ?z; (case k1 => k_asm); (case k2 => k_asm); (case k3 => k_upd); (case z => (simp only [List.size_toArray]; rw [sizeLine_eq]; omega)); k_whole); intro h' F' N'; (try k_sweep)))
theorem has_base_ctr {w : World} {news : List (Addr × Obj)} {x : Addr} {nm0 nm : Str} {ms : List Addr} {t : Tok} (hI : InfoAt w news x nm0 ms) (names : Addr → Str)
    (hms : ∀ m ∈ ms, ∃ ms', InfoAt w news m (names m) ms') :
    Ctr w 2 8 (.ref 89) [.ref x, .str nm t] [] news (fun r tl => r = .bool (ms.any fun m => names m == nm) ∧ tl = []) := by
  unfold Ctr
  k_fill
  intro p loose mean mg mb dp un gd cn cs a ccd cl outer A₀ base h₀ L m s Q E B F X N T hk hd hu hret
  obtain ⟨d, t1, t2, t3, t4, t5, t6, t7, cd, cdd, tv, tv0, bl, ml, n1, n2, n3, m1, m2, m3, m4, m5, m6, m7⟩ := hI
  refine wpAny_call ?_
  k_dflt ktr_enter
  k_steps
  refine Stop.mk ?_
  refine iterL0 (fun i n₁ => n₁ = news ∧ ∀ m ∈ ms.take i, names m ≠ nm) rfl (by k_asm) (by k_asm) ⟨rfl, by simp⟩ (by rintro i n₁ ⟨rfl, _⟩; exact m7) ?_ ?_
  · rintro i v n₁ I oI hh tkk hv ⟨rfl, hprev⟩ hoff F1 N1
    simp only [List.getElem?_map, Option.map_eq_some_iff] at hv
    obtain ⟨mm, hmm, rfl⟩ := hv
    obtain ⟨ms', hmi⟩ := hms mm (List.mem_of_getElem? hmm)
    obtain ⟨d', t1', t2', t3', t4', t5', t6', t7', cd', cdd', tv', tv0', bl', ml', n1', n2', n3', m1', m2', m3', m4', m5', m6', m7'⟩ := hmi
    k_fold
    k_steps
    · rename_i he _
      refine hret _ [] _ _ (by k_asm) (newsSub (by k_asm) fun p hp => List.mem_cons_of_mem _ hp) (fun _ _ _ h => nomatch h) ⟨?_, rfl⟩
      have : (ms.any fun m => names m == nm) = true := List.any_eq_true.mpr ⟨mm, List.mem_of_getElem? hmm, by assumption⟩
      rw [this]
    · refine EndL0.intro (by k_asm) (by k_asm) hoff ⟨rfl, ?_⟩
      intro m hm
      rw [List.take_add_one, hmm] at hm
      rcases List.mem_append.mp hm with h | h
      · exact hprev m h
      · have : m = mm := by simpa using h
        subst this
        exact fun e => by simp_all
  · rintro u n₁ hh tkk ⟨rfl, hJ⟩ F1 N1
    k_steps
    refine hret _ [] _ _ (by k_asm) (newsSub (by k_asm) fun p hp => hp) (fun _ _ _ h => nomatch h) ⟨?_, rfl⟩
    have : (ms.any fun m => names m == nm) = false := by
      rw [List.any_eq_false]
      intro m hm
      have := hJ m (by simpa using hm)
      simpa using this
    rw [this]
end Mine
end
section
open PySem PySem.W PySem.Spec PySem.Calls PyProof.Rows
namespace Mine
theorem fresh_Z0 : True := by
  w_top off
  trivial
section
variable {prog : Program} {w : World} {A : Around} {E : Value → Shared → Prop} {s : Shared}
theorem nextOf_tuple_end {it t : Addr} {i : Nat} {items} {Q : Value → Shared → Prop} (hh : A.handled = none)
    (hit : s.heap.IsTupleIter it t i) (ht : s.heap.IsTuple t items) (hx : items[i]? = none)
    (hE : ∀ h' e, Heap.ExtBut it s.heap h' → (∃ o, h'.get? e = some o ∧ o.cls = .type "StopIteration") → E (.ref e) { s with heap := h' }) :
    wpAny (model prog w) A (Builtin.SmallTypes.nextOf (.ref it)) Q E s := by
  obtain ⟨o, ho, hc, hd⟩ := id hit
  obtain ⟨ol, hol, _, nl, hdl⟩ := ht
  unfold Builtin.SmallTypes.nextOf
  refine wpAny_bind (wpAny_callSpecial?_slot (name := Str.ofString "__next__") hit.typeIs F.slot_tuple_iterator_next
    (wpAny_call_entry F.slot_tuple_iterator_next hit.typeIs F.entry_tuple_iterator_next ?_ (F.args_tuple_iterator_next_1 _)))
  show wpAny _ _ (field (.ref it) 0 >>= _) _ _ s
  refine wpAny_bind (wpAny_field ho hd (x := .ref t) rfl ?_)
  show wpAny _ _ (if (Value.ref t == Value.none) = true then _ else _) _ _ s
  rw [if_neg (show ¬ ((Value.ref t == Value.none) = true) from Bool.false_ne_true)]
  show wpAny _ _ (field (.ref it) 1 >>= _) _ _ s
  refine wpAny_bind (wpAny_field ho hd (x := .int i 0) rfl ?_)
  show wpAny _ _ (seqItems? (.ref t) >>= _) _ _ s
  refine wpAny_bind (wpAny_seqItems hol hdl ?_)
  simp only [Int.toNat_natCast, hx]
  refine wpAny_bind (wpAny_rule (wpAny_bind (wpAny_setField ho hd (by simp) ?_)))
  show wpAny _ _ (newExc (.type "StopIteration") [] >>= _) _ _ _
  refine wpAny_bind ?_
  simp only [newExc, newTuple]
  refine wpAny_bind (wpAny_newObj_type ?_ (by size_fits))
  refine wpAny_bind (m := firstArgMember _ _) (wpAny_of_eq (a := Value.none) (by first | rfl | (simp only [firstArgMember]; rfl)) ?_)
  refine wpAny_newObj_type ?_ (by size_fits)
  simp only [raiseNew]
  refine wpAny_bind (wpAny_handled ?_)
  first | rw [show A.in1.handled = none from hh] | rw [hh]
  refine wpAny_bind (wpAny_pure (wpAny_throw ?_))
  exact hE _ _ (((Heap.SameBut.update ..).extBut.push _).push _) ⟨_, Heap.get?_push_size _ rfl, rfl⟩

/-- a zip whose first iterator stands at an empty tuple -/
def ZipE (h : Heap) (z TI TO i1 T0 : Addr) (rest : List Value) : Prop :=
  IsZip h z TI TO .none ∧ h.get? TI = some { cls := .type "tuple", data := .seq (.ref i1 :: rest).toArray } ∧ h.IsTupleIter i1 T0 0 ∧ h.IsTuple T0 #[]

theorem zipE_next {z TI TO i1 T0 : Addr} {rest : List Value} {Q : Option Value → Shared → Prop} (hh : A.handled = none) (hz : ZipE s.heap z TI TO i1 T0 rest) (hiz : i1 ≠ z) (hTz : T0 ≠ z)
    (hQ : ∀ h', (∀ c o, c ≠ z → c ≠ i1 → s.heap.get? c = some o → h'.get? c = some o) → Q none { s with heap := h' }) : wpAny (model prog w) A (pyNext (.ref z)) Q E s := by
  obtain ⟨hz, hTI, hit, hT⟩ := hz
  have hTy : s.TypeIs (.ref z) "zip" := ⟨_, hz, rfl⟩
  unfold pyNext
  refine wpAny_bind (wpAny_attempt (wpAny_callSpecial?_slot (name := Str.ofString "__next__") hTy F.slot_zip_next
    (wpAny_call_entry F.slot_zip_next hTy F.entry_zip_next ?_ (F.args_zip_next_1 _))))
  show wpAny _ _ (field (.ref z) 2 >>= _) _ _ _
  refine wpAny_bind (wpAny_field hz rfl (x := .bool false) rfl ?_)
  show wpAny _ _ (field (.ref z) 3 >>= _) _ _ _
  refine wpAny_bind (wpAny_field hz rfl (x := .ref TI) rfl ?_)
  refine wpAny_bind (wpAny_seqItems hTI rfl ?_)
  show wpAny _ _ (Builtin.SmallTypes.ownedTupleIsFree (.ref z) >>= _) _ _ _
  refine wpAny_bind ?_
  unfold Builtin.SmallTypes.ownedTupleIsFree
  refine wpAny_bind (wpAny_field hz rfl (x := .none) rfl (wpAny_pure ?_))
  simp only [if_true]
  refine wpAny_bind (wpAny_rule ?_)
  refine wpAny_bind (wpAny_field hz rfl (x := .ref TO) rfl ?_)
  refine wpAny_bind (wpAny_setField_rec hz (by simp) fun h₁ hz₁ hs₁ => ?_)
  replace hz₁ : IsZip h₁ z TI TO .ellipsis := hz₁
  refine wpAny_bind ?_
  simp only [List.zipIdx_cons, List.forIn_cons]
  refine wpAny_bind (wpAny_bind (wpAny_onRaise ?_))
  show wpAny _ _ (Builtin.SmallTypes.nextOf (.ref i1) >>= _) _ _ _
  refine wpAny_bind (nextOf_tuple_end hh (hit.extBut hs₁.extBut hiz) (hT.extBut hs₁.extBut hTz) (by simp) fun h₂ e hs₂ he => ?_)
  obtain ⟨oe, hoe, hce⟩ := he
  have hz₂ : IsZip h₂ z TI TO .ellipsis := hs₂ _ _ hiz.symm hz₁
  have hez : e ≠ z := fun x => by subst x; rw [hz₂] at hoe; cases hoe; simp at hce
  refine wpAny_setField_rec hz₂ (by simp) fun h₃ _ hs₃ => ?_
  refine wpAny_bind (wpAny_isInstance (T := "StopIteration") (b := true) ⟨oe, hs₃.extBut _ _ hez hoe, hce⟩ isSubtype_stop ?_)
  exact wpAny_pure (hQ _ fun c o c1 c3 x => hs₃.extBut _ _ c1 (hs₂ _ _ c3 (hs₁.extBut _ _ c1 x)))

abbrev itT (t : Addr) : Obj := { cls := .type "tuple_iterator", data := .fields #[.ref t, .int 0 0] }
abbrev itL (l : Addr) : Obj := { cls := .type "list_iterator", data := .fields #[.ref l, .int 0 0] }
abbrev tupO (vs : List Value) : Obj := { cls := .type "tuple", data := .seq vs.toArray }
abbrev zipO (TI TO : Addr) : Obj := { cls := .type "zip", data := .fields #[.none, .bool false, .bool false, .ref TI, .ref TO] }

theorem meets_zip_tt (t1 t2 : Addr) (xs ys : Array Value) :
    Meets (Builtin.«zip.__new__» ⟨[.type "zip", .ref t1, .ref t2], []⟩) (fun _ R s => s.heap.IsTuple t1 xs ∧ s.heap.IsTuple t2 ys ∧
      R (.ok (.ret (.ref ((((s.heap.push (itT t1)).push (itT t2)).push (tupO [.ref s.heap.objs.size, .ref (s.heap.push (itT t1)).objs.size])).push (tupO [.none, .none])).objs.size)))
        { s with heap := ((((s.heap.push (itT t1)).push (itT t2)).push (tupO [.ref s.heap.objs.size, .ref (s.heap.push (itT t1)).objs.size])).push (tupO [.none, .none])).push (zipO ((s.heap.push (itT t1)).push (itT t2)).objs.size (((s.heap.push (itT t1)).push (itT t2)).push (tupO [.ref s.heap.objs.size, .ref (s.heap.push (itT t1)).objs.size])).objs.size) }) :=
  .of_wp fun prog w A R s h => by
    obtain ⟨hp, g, d, tk, os⟩ := s; obtain ⟨hl1, hl2, h⟩ := h
    have hsub := sub_zip
    have hL1 : Heap.IsTuple (Shared.heap ⟨hp, g, d, tk, os⟩) t1 xs := hl1
    have hL2 : Heap.IsTuple (Shared.heap ⟨hp.push (itT t1), g, d, tk, os⟩) t2 ys := Heap.IsTuple.push hl2 _
    wp_walk using wpAny_pyIter_tuple hL1, wpAny_pyIter_tuple hL2
    exact ⟨_, rfl, h⟩

theorem typeCall_zip_3 (a b c : Value) : checkTypeCall "zip" ⟨[a, b, c], []⟩ = pure () := by kernel_rfl
theorem newCall_zip_3 (a b c : Value) : checkBuiltinCall "zip.__new__" ⟨[.type "zip", a, b, c], []⟩ = pure () := by kernel_rfl
theorem args_object_init_4 (a b c d : Value) : argsOk "object.__init__" ⟨[a, b, c, d], []⟩ := by
  unfold argsOk; rw [signature?_of (id := "object.__init__") (n := ['_', '_', 't', 'i', 'n', 'i', '_', '_']) (o := ['t', 'c', 'e', 'j', 'b', 'o']) (by kernel_rfl) PySem.F.owner_object]; kernel_rfl
theorem meets_zip_ttl (t1 t2 l3 : Addr) (xs ys zs : Array Value) :
    Meets (Builtin.«zip.__new__» ⟨[.type "zip", .ref t1, .ref t2, .ref l3], []⟩) (fun _ R s => s.heap.IsTuple t1 xs ∧ s.heap.IsTuple t2 ys ∧ s.heap.IsList l3 zs ∧
      R (.ok (.ret (.ref (((((s.heap.push (itT t1)).push (itT t2)).push (itL l3)).push (tupO [.ref s.heap.objs.size, .ref (s.heap.push (itT t1)).objs.size, .ref ((s.heap.push (itT t1)).push (itT t2)).objs.size])).push (tupO [.none, .none, .none])).objs.size)))
        { s with heap := (((((s.heap.push (itT t1)).push (itT t2)).push (itL l3)).push (tupO [.ref s.heap.objs.size, .ref (s.heap.push (itT t1)).objs.size, .ref ((s.heap.push (itT t1)).push (itT t2)).objs.size])).push (tupO [.none, .none, .none])).push (zipO (((s.heap.push (itT t1)).push (itT t2)).push (itL l3)).objs.size ((((s.heap.push (itT t1)).push (itT t2)).push (itL l3)).push (tupO [.ref s.heap.objs.size, .ref (s.heap.push (itT t1)).objs.size, .ref ((s.heap.push (itT t1)).push (itT t2)).objs.size])).objs.size) }) :=
  .of_wp fun prog w A R s h => by
    obtain ⟨hp, g, d, tk, os⟩ := s; obtain ⟨hl1, hl2, hl3, h⟩ := h
    have hsub := sub_zip
    have hL1 : Heap.IsTuple (Shared.heap ⟨hp, g, d, tk, os⟩) t1 xs := hl1
    have hL2 : Heap.IsTuple (Shared.heap ⟨hp.push (itT t1), g, d, tk, os⟩) t2 ys := Heap.IsTuple.push hl2 _
    have hL3 : Heap.IsList (Shared.heap ⟨(hp.push (itT t1)).push (itT t2), g, d, tk, os⟩) l3 zs := Heap.IsList.push (Heap.IsList.push hl3 _) _
    wp_walk using wpAny_pyIter_tuple hL1, wpAny_pyIter_tuple hL2, wpAny_pyIter_list hL3
    exact ⟨_, rfl, h⟩

theorem zip_tt {h₀ : Heap} {L : Addr} {m : Str → Option Value} {news : List (Addr × Obj)} {t1 t2 : Addr} {Q : Value → Shared → Prop} (F : Fr h₀ L s.heap m) (N : News h₀ L s.heap news) (h1 : (t1, tupO []) ∈ news) (h2 : (t2, tupO []) ∈ news)
    (h : ∀ z TI TO i1 i2 h', Fr h₀ L h' m → News h₀ L h' ((z, zipO TI TO) :: (TO, tupO [.none, .none]) :: (TI, tupO [.ref i1, .ref i2]) :: (i2, itT t2) :: (i1, itT t1) :: news) →
      (∀ p ∈ news, p.1 < i1) → @LT.lt Nat _ i1 i2 → @LT.lt Nat _ i2 TI → @LT.lt Nat _ TI TO → @LT.lt Nat _ TO z → Q (.ref z) { s with heap := h' }) : wpAny (model prog w) A (call (.type "zip") [.ref t1, .ref t2]) Q E s := by
  refine callType_new PySem.F.called_zip (by decide) (PySem.F.typeCall_zip_2 _ _) (PySem.F.newCall_zip_2 _ _) (fun obj => PySem.F.args_object_init_3 obj _ _) PySem.F.entry_zip_new
    (meets_zip_tt t1 t2 #[] #[]) ⟨⟨_, (N _ h1).1, rfl, 0, rfl⟩, ⟨_, (N _ h2).1, rfl, 0, rfl⟩, ?_⟩
  have N1 := N.push F (itT t1)
  have F1 := F.push (itT t1)
  have N2 := N1.push F1 (itT t2)
  have F2 := F1.push (itT t2)
  have N3 := N2.push F2 (tupO [.ref s.heap.objs.size, .ref (s.heap.push (itT t1)).objs.size])
  have F3 := F2.push (tupO [.ref s.heap.objs.size, .ref (s.heap.push (itT t1)).objs.size])
  have N4 := N3.push F3 (tupO [.none, .none])
  have F4 := F3.push (tupO [.none, .none])
  have N5 := N4.push F4 (zipO ((s.heap.push (itT t1)).push (itT t2)).objs.size (((s.heap.push (itT t1)).push (itT t2)).push (tupO [.ref s.heap.objs.size, .ref (s.heap.push (itT t1)).objs.size])).objs.size)
  have F5 := F4.push (zipO ((s.heap.push (itT t1)).push (itT t2)).objs.size (((s.heap.push (itT t1)).push (itT t2)).push (tupO [.ref s.heap.objs.size, .ref (s.heap.push (itT t1)).objs.size])).objs.size)
  refine ⟨⟨_, (N5 _ (.head _)).1, rfl⟩, ?_⟩
  refine h _ _ _ _ _ _ F5 N5 (fun p hp => Heap.lt_size (N p hp).1) ?_ ?_ ?_ ?_ <;> simp only [Heap.size_push] <;> omega

theorem zip_ttl {h₀ : Heap} {L : Addr} {m : Str → Option Value} {news : List (Addr × Obj)} {t1 t2 l3 : Addr} {n3 : Nat} {Q : Value → Shared → Prop} (F : Fr h₀ L s.heap m) (N : News h₀ L s.heap news) (h1 : (t1, tupO []) ∈ news) (h2 : (t2, tupO []) ∈ news) (h3 : (l3, PySem.W.listOf #[] n3) ∈ news)
    (h : ∀ z TI TO i1 i2 i3 h', Fr h₀ L h' m → News h₀ L h' ((z, zipO TI TO) :: (TO, tupO [.none, .none, .none]) :: (TI, tupO [.ref i1, .ref i2, .ref i3]) :: (i3, itL l3) :: (i2, itT t2) :: (i1, itT t1) :: news) →
      (∀ p ∈ news, p.1 < i1) → @LT.lt Nat _ i1 i2 → @LT.lt Nat _ i2 i3 → @LT.lt Nat _ i3 TI → @LT.lt Nat _ TI TO → @LT.lt Nat _ TO z → Q (.ref z) { s with heap := h' }) : wpAny (model prog w) A (call (.type "zip") [.ref t1, .ref t2, .ref l3]) Q E s := by
  refine callType_new PySem.F.called_zip (by decide) (typeCall_zip_3 _ _ _) (newCall_zip_3 _ _ _) (fun obj => args_object_init_4 obj _ _ _) PySem.F.entry_zip_new
    (meets_zip_ttl t1 t2 l3 #[] #[] #[]) ⟨⟨_, (N _ h1).1, rfl, 0, rfl⟩, ⟨_, (N _ h2).1, rfl, 0, rfl⟩, ⟨_, (N _ h3).1, rfl, n3, rfl⟩, ?_⟩
  have N1 := N.push F (itT t1)
  have F1 := F.push (itT t1)
  have N2 := N1.push F1 (itT t2)
  have F2 := F1.push (itT t2)
  have N2' := N2.push F2 (itL l3)
  have F2' := F2.push (itL l3)
  have N3 := N2'.push F2' (tupO [.ref s.heap.objs.size, .ref (s.heap.push (itT t1)).objs.size, .ref ((s.heap.push (itT t1)).push (itT t2)).objs.size])
  have F3 := F2'.push (tupO [.ref s.heap.objs.size, .ref (s.heap.push (itT t1)).objs.size, .ref ((s.heap.push (itT t1)).push (itT t2)).objs.size])
  have N4 := N3.push F3 (tupO [.none, .none, .none])
  have F4 := F3.push (tupO [.none, .none, .none])
  have N5 := N4.push F4 (zipO (((s.heap.push (itT t1)).push (itT t2)).push (itL l3)).objs.size ((((s.heap.push (itT t1)).push (itT t2)).push (itL l3)).push (tupO [.ref s.heap.objs.size, .ref (s.heap.push (itT t1)).objs.size, .ref ((s.heap.push (itT t1)).push (itT t2)).objs.size])).objs.size)
  have F5 := F4.push (zipO (((s.heap.push (itT t1)).push (itT t2)).push (itL l3)).objs.size ((((s.heap.push (itT t1)).push (itT t2)).push (itL l3)).push (tupO [.ref s.heap.objs.size, .ref (s.heap.push (itT t1)).objs.size, .ref ((s.heap.push (itT t1)).push (itT t2)).objs.size])).objs.size)
  refine ⟨⟨_, (N5 _ (.head _)).1, rfl⟩, ?_⟩
  refine h _ _ _ _ _ _ _ F5 N5 (fun p hp => Heap.lt_size (N p hp).1) ?_ ?_ ?_ ?_ ?_ <;> simp only [Heap.size_push] <;> omega

/-- a for over such a zip: no turn -/
theorem turnsZip {env : Env} {h₀ : Heap} {target : Expr} {body : List Stmt} {Q : Flow → Shared → Prop} {m : Str → Option Value} {all news : List (Addr × Obj)} {z TI TO i1 T0 : Addr} {rest : List Value}
    (hh : A.handled = none) (F : Fr h₀ env.locals s.heap m) (N : News h₀ env.locals s.heap all) (hz : (z, zipO TI TO) ∈ all) (hTI : (TI, tupO (.ref i1 :: rest)) ∈ all) (hi : (i1, itT T0) ∈ all) (hT : (T0, tupO []) ∈ all)
    (hiz : i1 ≠ z) (hTz : T0 ≠ z) (hsub : ∀ p ∈ news, p ∈ all) (hoff : ∀ p ∈ news, p.1 ≠ z ∧ p.1 ≠ i1)
    (done : ∀ h' tk, Fr h₀ env.locals h' m → News h₀ env.locals h' news → Q .next { s with heap := h', toks := tk }) :
    wpAny (model prog w) A (pyIter (.ref z)) (fun it s₂ => TurnsAt prog w A h₀ env target body Q E it s₂) E s := by
  have Z : ZipE s.heap z TI TO i1 T0 rest := ⟨(N _ hz).1, (N _ hTI).1, ⟨_, (N _ hi).1, rfl, rfl⟩, ⟨_, (N _ hT).1, rfl, 0, rfl⟩⟩
  refine wpAny_pyIter_zip Z.1 ?_
  let KT : KTurns prog w A target z [z, TI, i1, T0] [z, i1] 0 (fun _ _ _ => False) (fun _ _ _ => False) (fun _ h => ZipE h z TI TO i1 T0 rest) :=
    { sub := fun b hb => by simp at hb ⊢; rcases hb with rfl | rfl <;> simp
      frame := fun i h h' st hk => ⟨hk z (by simp) _ st.1, hk TI (by simp) _ st.2.1, (by obtain ⟨o, e, r⟩ := st.2.2.1; exact ⟨o, hk i1 (by simp) _ e, r⟩), (by obtain ⟨o, e, r⟩ := st.2.2.2; exact ⟨o, hk T0 (by simp) _ e, r⟩)⟩
      item := fun i s Q E hi => absurd hi (Nat.not_lt_zero _)
      go := fun i v s Q E h => h.elim
      done := fun s Q E st hQ => zipE_next hh st hiz hTz fun h' hk => hQ h' s.toks fun b o hb e => hk b o (fun x => hb (by simp [x])) (fun x => hb (by simp [x])) e }
  refine ⟨z, _, _, 0, _, _, _, m, news, fun _ m' n' => m' = m ∧ n' = news, rfl, KT, ?_, ?_, ?_, Z, F, fun p hp => N p (hsub p hp), ⟨rfl, rfl⟩, fun i v m₁ news₁ h₁ tk₁ own hi => absurd hi (Nat.not_lt_zero _), ?_⟩
  · intro hm
    simp only [List.mem_cons, List.not_mem_nil, or_false] at hm
    rcases hm with e | e | e | e
    · exact (N _ hz).2.1 e.symm
    · exact (N _ hTI).2.1 e.symm
    · exact (N _ hi).2.1 e.symm
    · exact (N _ hT).2.1 e.symm
  · intro b hb
    simp only [List.mem_cons, List.not_mem_nil, or_false] at hb
    rcases hb with rfl | rfl
    · exact (N _ hz).2.2
    · exact (N _ hi).2.2
  · intro p hp hb
    simp only [List.mem_cons, List.not_mem_nil, or_false] at hb
    exact hb.elim (hoff p hp).1 (hoff p hp).2
  · rintro h' tk m' news' F' N' _ ⟨rfl, rfl⟩
    exact done h' tk F' N'
theorem offZI {news : List (Addr × Obj)} {i1 z : Addr} (h : AllLt i1 news) (hz : @LT.lt Nat _ i1 z) : ∀ p ∈ news, p.1 ≠ z ∧ p.1 ≠ i1 := fun p hp =>
  have := tb_ltOf h p hp
  ⟨Nat.ne_of_lt (Nat.lt_trans this hz), Nat.ne_of_lt this⟩
end
end Mine
end
section
open PySem PySem.W PySem.Spec PySem.Calls PyProof.Rows PyProof.Rows.LCg
namespace Mine
theorem fresh_Z1 : True := by
  w_top off
  trivial
section
variable {prog : Program} {w : World} {A : Around} {E : Value → Shared → Prop} {s : Shared} {h₀ : Heap} {L : Addr} {m : Str → Option Value} {env : Env}
def SrcZ (A : Around) (h₀ : Heap) (L : Addr) (m : Str → Option Value) (Q : Value → Shared → Prop) (xv : Value) (s₁ : Shared) : Prop :=
  ∃ z TI TO i1 T0 rest all news, xv = .ref z ∧ A.handled = none ∧ Fr h₀ L s₁.heap m ∧ News h₀ L s₁.heap all ∧ (z, zipO TI TO) ∈ all ∧ (TI, tupO (.ref i1 :: rest)) ∈ all ∧ (i1, itT T0) ∈ all ∧ (T0, tupO []) ∈ all ∧
    i1 ≠ z ∧ T0 ≠ z ∧ (∀ p ∈ news, p ∈ all) ∧ (∀ p ∈ news, p.1 ≠ z ∧ p.1 ≠ i1) ∧
    ∀ D h' tk, Fr h₀ L h' m → News h₀ L h' ((D, lst []) :: news) → (∀ p ∈ news, p.1 < D) → Q (.ref D) { s₁ with heap := h', toks := tk }
theorem ListComp_zipE {elt iter : Expr} {elts : List Expr} {x1} {tp : Pos} {scope : Scope} {cl : List (Str × Addr)} {pos : Pos} {Q : Value → Shared → Prop} (_F₀ : Fr h₀ L s.heap m)
    (hclos : closureFor scope env = pure cl) (hcell : ∀ y ∈ scope.names, y.2 ≠ .cell) (hkind : scope.kind = .function)
    (hnames : ∀ y ∈ scope.names, y.2 = .local → scope.names.lookup y.1 = some .local)
    (h : wpAny (model prog w) A (eval iter env) (SrcZ A h₀ L m Q) E s)
    (hs : ∀ x, foldedSetIterable iter env x = pure x := by intro _; rfl) :
    wpAny (model prog w) A (eval (.ListComp elt [⟨.Tuple elts x1 tp, iter, [], 0⟩] scope pos) env) Q E s := by
  rw [eval_ListComp]
  refine wpAny_comprehension_free (use := none) rfl hs hclos hkind hnames (wpAny_mono h (fun xv s₁ h₁ => ?_) fun _ _ e => e)
  obtain ⟨z, TI, TO, i1, T0, rest, all, news, rfl, hh, F, N, hz, hTI, hi, hT, hiz, hTz, hsub, hoff, hQ⟩ := h₁
  have Z : ZipE s₁.heap z TI TO i1 T0 rest := ⟨(N _ hz).1, (N _ hTI).1, ⟨_, (N _ hi).1, rfl, rfl⟩, ⟨_, (N _ hT).1, rfl, 0, rfl⟩⟩
  refine wpAny_pyIter_zip Z.1 ?_
  refine wpAny_newObj_type (wpAny_newFunctionEnv hcell (by intro y hy; simp at hy) (fun h₁ hns₁ hsb₁ => ?_) hkind)
  dsimp only at hns₁ hsb₁ ⊢
  generalize hH2 : s₁.heap.push { cls := .type "list", dict := none, data := .seq ([] : List Value).toArray } = H2 at hns₁ hsb₁ ⊢
  have hC : H2.objs.size = s₁.heap.objs.size + 1 := by rw [← hH2, Heap.size_push]
  have hDC : s₁.heap.objs.size ≠ H2.objs.size := by rw [hC]; exact Nat.ne_of_lt (Nat.lt_succ_self _)
  have old : ∀ b o, s₁.heap.get? b = some o → h₁.get? b = some o := fun b o e => hsb₁.extBut b o (by rw [hC]; exact Nat.ne_of_lt (Nat.lt_succ_of_lt (Heap.lt_size e))) (Heap.get?_push_of_some _ (hH2 ▸ Heap.get?_push_of_some _ e))
  have hacc : h₁.get? s₁.heap.objs.size = some (lst []) := hsb₁.extBut _ _ hDC (Heap.get?_push_of_some _ (hH2 ▸ Heap.get?_push_size _ rfl))
  have Z₁ : ZipE h₁ z TI TO i1 T0 rest := ⟨old _ _ Z.1, old _ _ Z.2.1, (by obtain ⟨o, e, r⟩ := Z.2.2.1; exact ⟨o, old _ _ e, r⟩), (by obtain ⟨o, e, r⟩ := Z.2.2.2; exact ⟨o, old _ _ e, r⟩)⟩
  have fresh₀ : ∀ a, s₁.heap.objs.size ≤ a → h₀.get? a = none := fun a ha => by
    cases e : h₀.get? a with
    | none => rfl
    | some o' => exact absurd (Heap.lt_size (F.keep a o' e)) (Nat.not_lt.mpr ha)
  have hD₀ : h₀.get? s₁.heap.objs.size = none := fresh₀ _ (Nat.le_refl _)
  have hC₀ : h₀.get? H2.objs.size = none := fresh₀ _ (by rw [hC]; exact Nat.le_succ _)
  have hLlt : L < s₁.heap.objs.size := F.ns.lt
  have hCL : H2.objs.size ≠ L := Ne.symm (by rw [hC]; exact Nat.ne_of_lt (Nat.lt_succ_of_lt hLlt))
  have hDL : s₁.heap.objs.size ≠ L := Ne.symm (Nat.ne_of_lt hLlt)
  have zlt : z < s₁.heap.objs.size := Heap.lt_size (N _ hz).1
  have ilt : i1 < s₁.heap.objs.size := Heap.lt_size (N _ hi).1
  have loop : ∀ s₃ : Shared, s₃ = { s₁ with heap := h₁, toks := s₁.toks + ([] : List (Str × Value)).length } →
      codeAny (model prog w) A (.compLoop (.ListComp elt [⟨.Tuple elts x1 tp, iter, [], 0⟩] scope pos) 0 (.ref z) (.ref s₁.heap.objs.size) (compEnvC scope cl H2.objs.size env))
        (compPost (model prog w) A E none Q (.ref s₁.heap.objs.size) H2.objs.size) s₃ := by
    rintro s₃ rfl
    refine LCp.codeAny_compLoop_pair (fun _ s' => s' = { s₁ with heap := h₁, toks := s₁.toks + ([] : List (Str × Value)).length }) ?_ 0 rfl
    rintro n s' rfl
    refine zipE_next hh Z₁ hiz hTz fun h₂ hk₂ => ?_
    have kC : ∀ o, h₁.get? H2.objs.size = some o → h₂.get? H2.objs.size = some o := fun o e => hk₂ _ o (by rw [hC]; exact Nat.ne_of_gt (Nat.lt_succ_of_lt zlt)) (by rw [hC]; exact Nat.ne_of_gt (Nat.lt_succ_of_lt ilt)) e
    refine ⟨_, hns₁.at' kC, fun h₃ hs₃ => ?_⟩
    have F₂ : Fr h₀ L h₂ m := ⟨(F.keeps old).ns.at' fun o e => hk₂ L o (fun q => (N _ hz).2.1 q.symm) (fun q => (N _ hi).2.1 q.symm) e, fun b o e => hk₂ b o (fun q => by rw [q, (N _ hz).2.2] at e; cases e) (fun q => by rw [q, (N _ hi).2.2] at e; cases e) (old _ _ (F.keep b o e)), F.above⟩
    refine hQ _ h₃ _ (F₂.change hs₃ hCL hC₀) (fun p hp => ?_) (fun p hp => Heap.lt_size (N p (hsub p hp)).1)
    rcases List.mem_cons.mp hp with rfl | hp
    · exact ⟨hs₃.extBut _ _ hDC (hk₂ _ _ (Nat.ne_of_gt zlt) (Nat.ne_of_gt ilt) hacc), hDL, hD₀⟩
    · have np := N p (hsub p hp)
      refine ⟨hs₃.extBut _ _ (by rw [hC]; exact Nat.ne_of_lt (Nat.lt_succ_of_lt (Heap.lt_size np.1))) (hk₂ _ _ (hoff p hp).1 (hoff p hp).2 (old _ _ np.1)), np.2⟩
  exact codeAny_compStart_list (loop _ rfl) (wpAny_pyIter_zip Z₁.1 (loop _ rfl))
theorem neMem {news : List (Addr × Obj)} {i1 z t : Addr} {o : Obj} (h : AllLt i1 news) (hm : (t, o) ∈ news) (hz : @LT.lt Nat _ i1 z) : t ≠ z := Nat.ne_of_lt (Nat.lt_trans (tb_ltOf h _ hm) hz)
theorem SrcZ.tt {Q : Value → Shared → Prop} {z TI TO i1 T0 : Addr} {rest : List Value} {all : List (Addr × Obj)} (news : List (Addr × Obj)) (hh : A.handled = none) (F : Fr h₀ L s.heap m) (N : News h₀ L s.heap all)
    (hz : (z, zipO TI TO) ∈ all) (hTI : (TI, tupO (.ref i1 :: rest)) ∈ all) (hi : (i1, itT T0) ∈ all) (hT : (T0, tupO []) ∈ news) (hlt : AllLt i1 news) (hiz : @LT.lt Nat _ i1 z) (hsub : ∀ p ∈ news, p ∈ all)
    (h : ∀ D h' tk, Fr h₀ L h' m → News h₀ L h' ((D, lst []) :: news) → (∀ p ∈ news, p.1 < D) → Q (.ref D) { s with heap := h', toks := tk }) : SrcZ A h₀ L m Q (.ref z) s :=
  ⟨z, TI, TO, i1, T0, rest, all, news, rfl, hh, F, N, hz, hTI, hi, hsub _ hT, Nat.ne_of_lt hiz, neMem hlt hT hiz, hsub, offZI hlt hiz, h⟩
end
end Mine
end
section
open PySem PySem.W PySem.Spec PySem.Calls PyProof.Rows PyProof.Rows.LCg PyProof.Rows.LCt
namespace Mine
theorem fresh_R0 : True := by
  w_top off
  trivial
section
variable {prog : Program} {w : World} {A : Around} {E : Value → Shared → Prop} {s : Shared} {env : Env} {h₀ : Heap} {body : List Stmt} {Q : Flow → Shared → Prop}
/-- a for over a list of the ledger, the target a name of any kind -/
theorem iterT {l : Addr} {vs : List Value} {k : Nat} {m₀ : Str → Option Value} {news : List (Addr × Obj)} {x : Str} {px : Pos} (J : Nat → (Str → Option Value) → List (Addr × Obj) → Prop)
    (hh : A.handled = none) (F : Fr h₀ env.locals s.heap m₀) (N : News h₀ env.locals s.heap news) (hj : J 0 m₀ news)
    (hl : ∀ i m₁ news₁, J i m₁ news₁ → (l, PySem.W.listOf vs.toArray k) ∈ news₁)
    (turn : ∀ i v m₁ news₁ I oI h tk, vs[i]? = some v → J i m₁ news₁ → (∀ p ∈ news₁, p.1 ≠ I) → Fr h₀ env.locals h m₁ → News h₀ env.locals h ((I, oI) :: news₁) →
      wpAny (model prog w) A (assign (.Name x px) env v) (fun _ s₃ => wpAny (model prog w) A (execs body env) (PostL h₀ env.locals (J (i + 1)) I oI { s with heap := h, toks := tk } Q) E s₃) E { s with heap := h, toks := tk })
    (done : ∀ m₁ news₁ h tk, J vs.length m₁ news₁ → Fr h₀ env.locals h m₁ → News h₀ env.locals h news₁ → Q .next { s with heap := h, toks := tk }) :
    wpAny (model prog w) A (pyIter (.ref l)) (fun it s₂ => TurnsAt prog w A h₀ env (.Name x px) body Q E it s₂) E s := by
  have hm := hl 0 m₀ news hj
  have hls : s.heap.IsList l vs.toArray := ⟨_, (N _ hm).1, rfl, k, rfl⟩
  have hlt : l < s.heap.objs.size := Heap.lt_size (N _ hm).1
  have hne : l ≠ s.heap.objs.size := Nat.ne_of_lt hlt
  refine wpAny_pyIter_list hls ?_
  have WW := Walks.list (prog := prog) (w := w) hh s.heap.objs.size l hne vs.toArray
  have hlen : vs.toArray.size = vs.length := by simp
  rw [hlen] at WW
  refine ⟨_, _, _, vs.length, _, _, _, m₀, news, J, rfl, KTurns.ofWalks WW (fun _ _ _ _ _ _ q => wpAny_pure q), ?_, ?_, ?_, ⟨⟨_, Heap.get?_push_size _ rfl, rfl, rfl⟩, hls.at fun o e => Heap.get?_push_of_some _ e⟩, F.push _, (fun p hp => ⟨Heap.get?_push_of_some _ (N p hp).1, (N p hp).2⟩), hj, ?_, ?_⟩
  · intro hm'
    rcases List.mem_cons.mp hm' with e | hm'
    · exact absurd F.ns.lt (e ▸ Nat.lt_irrefl _)
    · exact (N _ hm).2.1 (List.mem_singleton.mp hm').symm
  · intro b hb
    rw [List.mem_singleton.mp hb]
    exact next_is_new F
  · intro p hp hI
    exact absurd (Heap.lt_size (N p hp).1) ((List.mem_singleton.mp hI) ▸ Nat.lt_irrefl _)
  · rintro i v m₁ news₁ hh' tk' own hin hP hJ hoff hown hget hall hst F₁ N₁
    have hoff' : ∀ p ∈ news₁, p.1 ≠ s.heap.objs.size := fun p hp e => hoff p hp (by rw [e]; exact List.mem_singleton.mpr rfl)
    obtain ⟨oI, hoI, _⟩ := hst.1
    have hIn : (s.heap.objs.size, oI) ∈ own := hall _ (.head _) (next_is_new F) _ hoI
    have N₂ : News h₀ env.locals hh' ((s.heap.objs.size, oI) :: news₁) := fun p hp => by
      rcases List.mem_cons.mp hp with rfl | hp
      · exact N₁ _ (List.mem_append_left _ hIn)
      · exact N₁ _ (List.mem_append_right _ hp)
    have hv : vs[i]? = some v := by simpa using hP
    refine wpAny_mono (turn i v m₁ news₁ _ oI hh' tk' hv hJ hoff' F₁ N₂) (fun _ s₃ q => wpAny_mono q (fun f s₂ p => ?_) fun _ _ e => e) fun _ _ e => e
    have fin : EndL h₀ env.locals (J (i + 1)) s.heap.objs.size oI { s with heap := hh', toks := tk' } s₂ → LoopStepU h₀ env.locals [s.heap.objs.size] own (J (i + 1)) { s with heap := hh', toks := tk' } .next s₂ := by
      rintro ⟨h', tk, m', news', e, F', N', ha, hm'⟩
      refine ⟨rfl, h', tk, m', news', e, F', fun p hp => ?_, fun p hp hq => ha p hp (List.mem_singleton.mp hq), hm'⟩
      rcases List.mem_append.mp hp with hp | hp
      · rcases List.mem_cons.mp (hown p hp) with e1 | e1
        · have e2 : p = (s.heap.objs.size, oI) := by
            have e3 := hget p hp
            rw [e1] at e3
            have e4 := (N₁ _ (List.mem_append_left _ hIn)).1
            have e5 : some p.2 = some oI := e3.symm.trans e4
            cases p; simp only at e1 e5 ⊢; rw [e1, Option.some.inj e5]
          rw [e2]; exact N' _ (.head _)
        · have e1' : p.1 = l := List.mem_singleton.mp e1
          have h1 := hl _ _ _ hJ
          have h2 := hl _ _ _ hm'
          have e2 : p = (l, PySem.W.listOf vs.toArray k) := by
            have e3 := hget p hp
            rw [e1'] at e3
            have e4 := (N₁ _ (List.mem_append_right _ h1)).1
            have e5 := e3.symm.trans e4
            cases p; simp only at e1' e5 ⊢; rw [e1', Option.some.inj e5]
          rw [e2]; exact N' _ (.tail _ h2)
      · exact N' _ (.tail _ hp)
    cases f with
    | ret v => exact .ret p
    | brk => exact .brk p
    | next => exact .next (fin p)
    | cont => exact .cont (fin p)
  · rintro h' tk m' news' F' N' _ hJ
    exact done m' news' h' tk hJ F' N'
/-- the frame's map stays -/
def EndT (h₀ : Heap) (L : Addr) (m₀ : Str → Option Value) (J : List (Addr × Obj) → Prop) (I : Addr) (oI : Obj) (s₁ s₂ : Shared) : Prop :=
  ∃ h' tk news', s₂ = { s₁ with heap := h', toks := tk } ∧ Fr h₀ L h' m₀ ∧ News h₀ L h' ((I, oI) :: news') ∧ (∀ p ∈ news', p.1 ≠ I) ∧ J news'
def PostT (h₀ : Heap) (L : Addr) (m₀ : Str → Option Value) (J : List (Addr × Obj) → Prop) (I : Addr) (oI : Obj) (s₁ : Shared) (Q : Flow → Shared → Prop) (f : Flow) (s₂ : Shared) : Prop :=
  match f with
  | .ret v => Q (.ret v) s₂
  | .brk => Q .next s₂
  | _ => EndT h₀ L m₀ J I oI s₁ s₂
theorem EndT.intro {h₀ : Heap} {L : Addr} {m₀ : Str → Option Value} {J : List (Addr × Obj) → Prop} {I : Addr} {oI : Obj} {s₁ : Shared} {h' : Heap} {tk : Nat} {news' : List (Addr × Obj)}
    (F : Fr h₀ L h' m₀) (N : News h₀ L h' ((I, oI) :: news')) (off : ∀ p ∈ news', p.1 ≠ I) (hJ : J news') : EndT h₀ L m₀ J I oI s₁ { s₁ with heap := h', toks := tk } := ⟨h', tk, news', rfl, F, N, off, hJ⟩
theorem iterT0 {l : Addr} {vs : List Value} {k : Nat} {m₀ : Str → Option Value} {news : List (Addr × Obj)} {x : Str} {px : Pos} (J : Nat → List (Addr × Obj) → Prop)
    (hh : A.handled = none) (F : Fr h₀ env.locals s.heap m₀) (N : News h₀ env.locals s.heap news) (hj : J 0 news)
    (hl : ∀ i news₁, J i news₁ → (l, PySem.W.listOf vs.toArray k) ∈ news₁)
    (turn : ∀ i v news₁ I oI h tk, vs[i]? = some v → J i news₁ → (∀ p ∈ news₁, p.1 ≠ I) → Fr h₀ env.locals h m₀ → News h₀ env.locals h ((I, oI) :: news₁) →
      wpAny (model prog w) A (assign (.Name x px) env v) (fun _ s₃ => wpAny (model prog w) A (execs body env) (PostT h₀ env.locals m₀ (J (i + 1)) I oI { s with heap := h, toks := tk } Q) E s₃) E { s with heap := h, toks := tk })
    (done : ∀ news₁ h tk, J vs.length news₁ → Fr h₀ env.locals h m₀ → News h₀ env.locals h news₁ → Q .next { s with heap := h, toks := tk }) :
    wpAny (model prog w) A (pyIter (.ref l)) (fun it s₂ => TurnsAt prog w A h₀ env (.Name x px) body Q E it s₂) E s := by
  refine iterT (fun i m₁ n₁ => m₁ = m₀ ∧ J i n₁) hh F N ⟨rfl, hj⟩ (fun i m₁ n₁ h => hl i n₁ h.2) ?_ ?_
  · rintro i v m₁ n₁ I oI h tk hv ⟨rfl, hJ⟩ hoff F₁ N₁
    refine wpAny_mono (turn i v n₁ I oI h tk hv hJ hoff F₁ N₁) (fun _ s₃ q => wpAny_mono q (fun f s₂ p => ?_) fun _ _ e => e) fun _ _ e => e
    have fin : EndT h₀ env.locals m₁ (J (i + 1)) I oI { s with heap := h, toks := tk } s₂ → EndL h₀ env.locals (fun m₂ n₂ => m₂ = m₁ ∧ J (i + 1) n₂) I oI { s with heap := h, toks := tk } s₂ := by
      rintro ⟨h', tk', news', e, F', N', ha, hJ'⟩
      exact ⟨h', tk', _, news', e, F', N', ha, rfl, hJ'⟩
    cases f with
    | ret v => exact p
    | brk => exact p
    | next => exact fin p
    | cont => exact fin p
  · rintro m₁ n₁ h tk ⟨rfl, hJ⟩ F₁ N₁
    exact done n₁ h tk hJ F₁ N₁
end

section
variable {prog : Program} {w : World} {A : Around} {s : Shared} {h₀ : Heap} {L : Addr} {m : Str → Option Value} {env : Env}
theorem endMono {s₁ s₂ : Shared} {I C D : Addr} {oI oC oD : Obj} {S : List (Addr × Obj) → Prop} {rest rest' : Value → List (Addr × Obj) → Prop} {y : Value} (h : CompEnd h₀ L m s₁ I oI C oC D oD S rest y s₂) (hr : ∀ n, rest y n → rest' y n) : CompEnd h₀ L m s₁ I oI C oC D oD S rest' y s₂ := by
  obtain ⟨h', tk, news', e, F, N, o, hS, r⟩ := h
  exact ⟨h', tk, news', e, F, N, o, hS, hr _ r⟩
theorem compAll {elt : Expr} {x : Str} {scope : Scope} {cl : List (Str × Addr)} {S : List (Addr × Obj) → Prop} {P : Nat → Value → Prop} {Fin : List Value → List (Addr × Obj) → Prop} (n : Nat) (J : Nat → List Value → List (Addr × Obj) → Prop)
    (step : ∀ i ys news, i < n → J i ys news → ∀ v I oI C oC D m₂ h tk (E' : Value → Shared → Prop), P i v → NsObj oC m₂ → m₂ x = some v → Fr h₀ L h m → News h₀ L h ((I, oI) :: (C, oC) :: (D, lst ys) :: news) → Off3 I C D news → ((@Ne Nat I C) ∧ (@Ne Nat I D) ∧ (@Ne Nat C D)) →
      wpAny (model prog w) A (eval elt (compEnvC scope cl C env)) (CompEnd h₀ L m { s with heap := h, toks := tk } I oI C oC D (lst ys) S (fun y news' => J (i + 1) (ys ++ [y]) news')) E' { s with heap := h, toks := tk })
    (fin : ∀ ys news, J n ys news → Fin ys news) : ∀ k i ys news, i + k = n → J i ys news → CompRest prog w A h₀ L m env elt x scope cl s S P Fin k i ys news := by
  intro k
  induction k with
  | zero =>
    intro i ys news e hJ
    obtain rfl : i = n := by omega
    exact fin ys news hJ
  | succ k ih =>
    intro i ys news e hJ
    refine CompRest.succ fun v I oI C oC D m₂ h tk E' hP hC hx F N off ne => ?_
    exact wpAny_mono (step i ys news (by omega) hJ v I oI C oC D m₂ h tk E' hP hC hx F N off ne) (fun y s' hy => endMono hy fun n' hn => ih (i + 1) _ n' (by omega) hn) fun _ _ e => e
theorem compAllT {ct elt : Expr} {x : Str} {scope : Scope} {cl : List (Str × Addr)} {S : List (Addr × Obj) → Prop} {P : Nat → Value → Prop} {Fin : List Value → List (Addr × Obj) → Prop} (n : Nat) (J : Nat → List Value → List (Addr × Obj) → Prop)
    (step : ∀ i ys news, i < n → J i ys news → ∀ v I oI C oC D m₂ h tk (E' : Value → Shared → Prop), P i v → NsObj oC m₂ → m₂ x = some v → Fr h₀ L h m → News h₀ L h ((I, oI) :: (C, oC) :: (D, lst ys) :: news) → Off3 I C D news → ((@Ne Nat I C) ∧ (@Ne Nat I D) ∧ (@Ne Nat C D)) →
      wpAny (model prog w) A (isTrue ct (compEnvC scope cl C env) (eval ct (compEnvC scope cl C env))) (fun ok s' => if ok = true then
        wpAny (model prog w) A (eval elt (compEnvC scope cl C env)) (CompEnd h₀ L m { s with heap := h, toks := tk } I oI C oC D (lst ys) S (fun y news' => J (i + 1) (ys ++ [y]) news')) E' s'
        else CompEnd h₀ L m { s with heap := h, toks := tk } I oI C oC D (lst ys) S (fun _ news' => J (i + 1) ys news') Value.none s') E' { s with heap := h, toks := tk })
    (fin : ∀ ys news, J n ys news → Fin ys news) : ∀ k i ys news, i + k = n → J i ys news → CompRestT prog w A h₀ L m env ct elt x scope cl s S P Fin k i ys news := by
  intro k
  induction k with
  | zero =>
    intro i ys news e hJ
    obtain rfl : i = n := by omega
    exact fin ys news hJ
  | succ k ih =>
    intro i ys news e hJ
    refine CompRestT.succ fun v I oI C oC D m₂ h tk E' hP hC hx F N off ne => ?_
    refine wpAny_mono (step i ys news (by omega) hJ v I oI C oC D m₂ h tk E' hP hC hx F N off ne) (fun ok s' hy => ?_) fun _ _ e => e
    cases ok with
    | true => simp only [if_true] at hy ⊢; exact wpAny_mono hy (fun y s' hy => endMono hy fun n' hn => ih (i + 1) _ n' (by omega) hn) fun _ _ e => e
    | false => simp only [Bool.false_eq_true, if_false] at hy ⊢; exact endMono hy fun n' hn => ih (i + 1) _ n' (by omega) hn
/-- a list of the ledger as a comprehension's source, by a word of its turns -/
theorem srcLed {elt : Expr} {x : Str} {scope : Scope} {cl : List (Str × Addr)} {Fin : Shared → List Value → List (Addr × Obj) → Prop} {ax : Addr} {vs : List Value} {k : Nat} {news : List (Addr × Obj)}
    (J : Nat → List Value → List (Addr × Obj) → Prop) (hh : A.handled = none) (F : Fr h₀ L s.heap m) (N : News h₀ L s.heap news) (hm : (ax, PySem.W.listOf vs.toArray k) ∈ news) (hsz : vs.length ≤ sizeLine) (hj : J 0 [] news)
    (step : ∀ i v ys news I oI C oC D m₂ g tk (E' : Value → Shared → Prop), vs[i]? = some v → J i ys news → NsObj oC m₂ → m₂ x = some v → Fr h₀ L g m → News h₀ L g ((I, oI) :: (C, oC) :: (D, lst ys) :: news) → Off3 I C D news → ((@Ne Nat I C) ∧ (@Ne Nat I D) ∧ (@Ne Nat C D)) →
      wpAny (model prog w) A (eval elt (compEnvC scope cl C env)) (CompEnd h₀ L m { s with heap := g, toks := tk } I oI C oC D (lst ys) (SrcAt h₀ ax vs.toArray) (fun y news' => J (i + 1) (ys ++ [y]) news')) E' { s with heap := g, toks := tk })
    (fin : ∀ g ys news, J vs.length ys news → Fin { s with heap := g } ys news) :
    CompSrc prog w A h₀ L m env elt x scope cl Fin (.ref ax) s := by
  refine CompSrc.ledger hh F N hm (by rw [List.size_toArray]; exact hsz) fun g => ?_
  refine compAll vs.length J ?_ (fin g) _ _ _ _ (by simp) hj
  intro i ys news' hi hJ v I oI C oC D m₂ h tk E' hP hC hx F' N' off ne
  exact step i v ys news' I oI C oC D m₂ h tk E' (by simpa using hP) hJ hC hx F' N' off ne
theorem srcLedT {ct elt : Expr} {x : Str} {scope : Scope} {cl : List (Str × Addr)} {Fin : Shared → List Value → List (Addr × Obj) → Prop} {ax : Addr} {vs : List Value} {k : Nat} {news : List (Addr × Obj)}
    (J : Nat → List Value → List (Addr × Obj) → Prop) (hh : A.handled = none) (F : Fr h₀ L s.heap m) (N : News h₀ L s.heap news) (hm : (ax, PySem.W.listOf vs.toArray k) ∈ news) (hsz : vs.length ≤ sizeLine) (hj : J 0 [] news)
    (step : ∀ i v ys news I oI C oC D m₂ g tk (E' : Value → Shared → Prop), vs[i]? = some v → J i ys news → NsObj oC m₂ → m₂ x = some v → Fr h₀ L g m → News h₀ L g ((I, oI) :: (C, oC) :: (D, lst ys) :: news) → Off3 I C D news → ((@Ne Nat I C) ∧ (@Ne Nat I D) ∧ (@Ne Nat C D)) →
      wpAny (model prog w) A (isTrue ct (compEnvC scope cl C env) (eval ct (compEnvC scope cl C env))) (fun ok s' => if ok = true then
        wpAny (model prog w) A (eval elt (compEnvC scope cl C env)) (CompEnd h₀ L m { s with heap := g, toks := tk } I oI C oC D (lst ys) (SrcAt h₀ ax vs.toArray) (fun y news' => J (i + 1) (ys ++ [y]) news')) E' s'
        else CompEnd h₀ L m { s with heap := g, toks := tk } I oI C oC D (lst ys) (SrcAt h₀ ax vs.toArray) (fun _ news' => J (i + 1) ys news') Value.none s') E' { s with heap := g, toks := tk })
    (fin : ∀ g ys news, J vs.length ys news → Fin { s with heap := g } ys news) :
    CompSrcT prog w A h₀ L m env ct elt x scope cl Fin (.ref ax) s := by
  refine CompSrcT.ledger hh F N hm (by rw [List.size_toArray]; exact hsz) fun g => ?_
  refine compAllT vs.length J ?_ (fin g) _ _ _ _ (by simp) hj
  intro i ys news' hi hJ v I oI C oC D m₂ h tk E' hP hC hx F' N' off ne
  exact step i v ys news' I oI C oC D m₂ h tk E' (by simpa using hP) hJ hC hx F' N' off ne
end
end Mine
namespace Mine
theorem boolsMap {α : Type} (xs : List α) (f : α → Bool) : LSm.BoolsAre (xs.map fun q => Value.bool (f q)) (xs.map f) := by
  induction xs with
  | nil => exact .nil
  | cons x xs ih => exact .cons _ ih
theorem boolsMapT {α : Type} (xs : List α) (n : Nat) (f : α → Bool) (hn : xs.length = n) : LSm.BoolsAre ((xs.take n).map fun q => Value.bool (f q)) (xs.map f) := by
  rw [List.take_of_length_le (by omega)]; exact boolsMap xs f
end Mine
namespace Mine
/-- a frame's map with four names laid over -/
def over4 (x1 x2 x3 x4 : Str) (u1 u2 u3 u4 : Option Value) (m : Str → Option Value) : Str → Option Value := fun z => if z = x1 then u1 else if z = x2 then u2 else if z = x3 then u3 else if z = x4 then u4 else m z
theorem over4_of {x1 x2 x3 x4 : Str} {m mm : Str → Option Value} (h : ∀ z, z ≠ x1 → z ≠ x2 → z ≠ x3 → z ≠ x4 → mm z = m z) : mm = over4 x1 x2 x3 x4 (mm x1) (mm x2) (mm x3) (mm x4) m := by
  funext z
  unfold over4
  by_cases h1 : z = x1
  · simp [h1]
  by_cases h2 : z = x2
  · subst h2; simp [h1]
  by_cases h3 : z = x3
  · subst h3; simp [h1, h2]
  by_cases h4 : z = x4
  · subst h4; simp [h1, h2, h3]
  simp [h1, h2, h3, h4, h z h1 h2 h3 h4]
end Mine
namespace Mine
section
variable {prog : Program} {w : World} {A : Around} {E : Value → Shared → Prop} {s : Shared} {env : Env} {h₀ : Heap} {body : List Stmt} {Q : Flow → Shared → Prop}
abbrev W4 := Option Value → Option Value → Option Value → Option Value → List (Addr × Obj) → Prop
def EndM (h₀ : Heap) (L : Addr) (y1 y2 y3 y4 : Str) (m₀ : Str → Option Value) (J : W4) (I : Addr) (oI : Obj) (s₁ s₂ : Shared) : Prop :=
  ∃ h' tk m' news', s₂ = { s₁ with heap := h', toks := tk } ∧ Fr h₀ L h' m' ∧ (∀ z, z ≠ y1 → z ≠ y2 → z ≠ y3 → z ≠ y4 → m' z = m₀ z) ∧ News h₀ L h' ((I, oI) :: news') ∧ (∀ p ∈ news', p.1 ≠ I) ∧ J (m' y1) (m' y2) (m' y3) (m' y4) news'
def PostM (h₀ : Heap) (L : Addr) (y1 y2 y3 y4 : Str) (m₀ : Str → Option Value) (J : W4) (I : Addr) (oI : Obj) (s₁ : Shared) (Q : Flow → Shared → Prop) (f : Flow) (s₂ : Shared) : Prop :=
  match f with
  | .ret v => Q (.ret v) s₂
  | .brk => Q .next s₂
  | _ => EndM h₀ L y1 y2 y3 y4 m₀ J I oI s₁ s₂
theorem EndM.intro {h₀ : Heap} {L : Addr} {y1 y2 y3 y4 : Str} {m₀ m' : Str → Option Value} {J : W4} {I : Addr} {oI : Obj} {s₁ : Shared} {h' : Heap} {tk : Nat} {news' : List (Addr × Obj)}
    (F : Fr h₀ L h' m') (N : News h₀ L h' ((I, oI) :: news')) (hz : ∀ z, z ≠ y1 → z ≠ y2 → z ≠ y3 → z ≠ y4 → m' z = m₀ z) (off : ∀ p ∈ news', p.1 ≠ I) (hJ : J (m' y1) (m' y2) (m' y3) (m' y4) news') : EndM h₀ L y1 y2 y3 y4 m₀ J I oI s₁ { s₁ with heap := h', toks := tk } :=
  ⟨h', tk, m', news', rfl, F, hz, N, off, hJ⟩
theorem iterM {l : Addr} {vs : List Value} {k : Nat} {m₀ : Str → Option Value} {news : List (Addr × Obj)} {x : Str} {px : Pos} (y1 y2 y3 y4 : Str) (J : Nat → W4)
    (hh : A.handled = none) (F : Fr h₀ env.locals s.heap m₀) (N : News h₀ env.locals s.heap news) (hj : J 0 (m₀ y1) (m₀ y2) (m₀ y3) (m₀ y4) news)
    (hl : ∀ i u1 u2 u3 u4 news₁, J i u1 u2 u3 u4 news₁ → (l, PySem.W.listOf vs.toArray k) ∈ news₁)
    (turn : ∀ i v u1 u2 u3 u4 news₁ I oI h tk, vs[i]? = some v → J i u1 u2 u3 u4 news₁ → (∀ p ∈ news₁, p.1 ≠ I) → Fr h₀ env.locals h (over4 y1 y2 y3 y4 u1 u2 u3 u4 m₀) → News h₀ env.locals h ((I, oI) :: news₁) →
      wpAny (model prog w) A (assign (.Name x px) env v) (fun _ s₃ => wpAny (model prog w) A (execs body env) (PostM h₀ env.locals y1 y2 y3 y4 m₀ (J (i + 1)) I oI { s with heap := h, toks := tk } Q) E s₃) E { s with heap := h, toks := tk })
    (done : ∀ u1 u2 u3 u4 news₁ h tk, J vs.length u1 u2 u3 u4 news₁ → Fr h₀ env.locals h (over4 y1 y2 y3 y4 u1 u2 u3 u4 m₀) → News h₀ env.locals h news₁ → Q .next { s with heap := h, toks := tk }) :
    wpAny (model prog w) A (pyIter (.ref l)) (fun it s₂ => TurnsAt prog w A h₀ env (.Name x px) body Q E it s₂) E s := by
  refine iterT (fun i m₁ n₁ => (∀ z, z ≠ y1 → z ≠ y2 → z ≠ y3 → z ≠ y4 → m₁ z = m₀ z) ∧ J i (m₁ y1) (m₁ y2) (m₁ y3) (m₁ y4) n₁) hh F N ⟨fun _ _ _ _ _ => rfl, hj⟩ (fun i m₁ n₁ h => hl _ _ _ _ _ _ h.2) ?_ ?_
  · rintro i v m₁ n₁ I oI h tk hv ⟨hz, hJ⟩ hoff F₁ N₁
    rw [over4_of hz] at F₁
    refine wpAny_mono (turn i v _ _ _ _ n₁ I oI h tk hv hJ hoff F₁ N₁) (fun _ s₃ q => wpAny_mono q (fun f s₂ p => ?_) fun _ _ e => e) fun _ _ e => e
    have fin : EndM h₀ env.locals y1 y2 y3 y4 m₀ (J (i + 1)) I oI { s with heap := h, toks := tk } s₂ → EndL h₀ env.locals (fun m₂ n₂ => (∀ z, z ≠ y1 → z ≠ y2 → z ≠ y3 → z ≠ y4 → m₂ z = m₀ z) ∧ J (i + 1) (m₂ y1) (m₂ y2) (m₂ y3) (m₂ y4) n₂) I oI { s with heap := h, toks := tk } s₂ := by
      rintro ⟨h', tk', m', news', e, F', hz', N', ha, hJ'⟩
      exact ⟨h', tk', m', news', e, F', N', ha, hz', hJ'⟩
    cases f with
    | ret v => exact p
    | brk => exact p
    | next => exact fin p
    | cont => exact fin p
  · rintro m₁ n₁ h tk ⟨hz, hJ⟩ F₁ N₁
    rw [over4_of hz] at F₁
    exact done _ _ _ _ n₁ h tk hJ F₁ N₁
end
end Mine
namespace Mine
theorem off1 {D : Addr} : ∀ {l : List (Addr × Obj)}, PyProof.Rows.LCg.Off1 D l → ∀ p ∈ l, p.1 ≠ D
  | [], _, _, h => nomatch h
  | _ :: _, x, p, h => by
    rcases List.mem_cons.mp h with rfl | h
    · exact x.1
    · exact off1 x.2 p h
end Mine
namespace Mine
theorem frNamed {h₀ h : Heap} {L : Addr} {m : Str → Option Value} (F : Fr h₀ L h m) : ∃ mm, mm = m ∧ Fr h₀ L h mm := ⟨m, rfl, F⟩
end Mine
namespace Mine
theorem slice1 (v : Value) (r : List Value) : (slicePick (v :: r).toArray (some 1) none none).toList = r := by
  have e : sliceBounds (some 1) none none (v :: r).toArray.size = (((1 : Nat) : Int), ((r.length + 1 : Nat) : Int), 1) := by
    simp only [sliceBounds, Option.getD_none, show (1 : Int) > 0 by decide, if_true, List.size_toArray, List.length_cons]
    rw [if_neg (by omega)]
    congr 1
    · omega
  rw [kmk_pick_nat _ e]
  simp
section
variable {prog : Program} {w : World} {A : Around} {E : Value → Shared → Prop} {s : Shared} {h₀ : Heap} {L l : Addr} {news : List (Addr × Obj)}
theorem lenLed {vs : List Value} {n : Nat} {Q : Value → Shared → Prop} (N : News h₀ L s.heap news) (hm : (l, PySem.W.listOf vs.toArray n) ∈ news) (hfit : vs.length < 2 ^ 62)
    (h : Q (.int (vs.length : Nat) (s.toks + 1)) { s with toks := s.toks + 1 + 1 }) : wpAny (model prog w) A (call (.builtin "len") [.ref l]) Q E s := by
  refine len_list (items := vs.toArray) ⟨_, (N _ hm).1, rfl, n, rfl⟩ (by rw [List.size_toArray]; omega) ?_
  rw [List.size_toArray]; exact h
end
end Mine
end
section
open PySem PySem.W PySem.Spec PySem.Calls PyProof.Rows
namespace Mine
theorem fresh_D0 : True := by
  w_top off
  trivial
def VarAt (w : World) (news : List (Addr × Obj)) (v : Addr) (nm : Str) (idv ub : Addr) : Prop :=
  ∃ d t1 t2 t3 t4 t5 t6 t7 vl n, (v, instObj 232 d) ∈ news ∧ (d, dictOf [En w "name" t1 (.str nm t2), En w "id" t3 (.ref idv), En w "upper_bound" t4 (.ref ub), En w "values" t5 (.ref vl), En w "variance" t6 (.int 0 t7)] 5) ∈ news ∧ (vl, PySem.W.listOf #[] n) ∈ news
def IdAt (w : World) (news : List (Addr × Obj)) (i : Addr) (k : Int) : Prop :=
  ∃ d t1 t2 t3 t4, (i, instObj 189 d) ∈ news ∧ (d, dictOf [En w "raw_id" t1 (.int k t2), En w "meta_level" t3 (.int 1 t4)] 2) ∈ news
def ConAt (w : World) (news : List (Addr × Obj)) (a idv v tgt : Addr) (op : Int) : Prop :=
  ∃ d t1 t2 t3 t4 t5, (a, instObj 45 d) ∈ news ∧ (d, dictOf [En w "type_var" t1 (.ref idv), En w "op" t2 (.int op t3), En w "target" t4 (.ref tgt), En w "origin_type_var" t5 (.ref v)] 4) ∈ news
section
variable {w : World} {news news' : List (Addr × Obj)} (s : ∀ p ∈ news, p ∈ news')
include s
theorem VarAt.mono {v idv ub : Addr} {nm : Str} (h : VarAt w news v nm idv ub) : VarAt w news' v nm idv ub := by
  obtain ⟨d, t1, t2, t3, t4, t5, t6, t7, vl, n, m1, m2, m3⟩ := h
  exact ⟨d, t1, t2, t3, t4, t5, t6, t7, vl, n, s _ m1, s _ m2, s _ m3⟩
theorem IdAt.mono {i : Addr} {k : Int} (h : IdAt w news i k) : IdAt w news' i k := by
  obtain ⟨d, t1, t2, t3, t4, m1, m2⟩ := h
  exact ⟨d, t1, t2, t3, t4, s _ m1, s _ m2⟩
theorem ConAt.mono {a idv v tgt : Addr} {op : Int} (h : ConAt w news a idv v tgt op) : ConAt w news' a idv v tgt op := by
  obtain ⟨d, t1, t2, t3, t4, t5, m1, m2⟩ := h
  exact ⟨d, t1, t2, t3, t4, t5, s _ m1, s _ m2⟩
end
end Mine
end
section
open PySem PySem.W PySem.Spec PySem.Calls PyProof.Rows
namespace Mine
theorem fresh_C2 : True := by
  w_top off
  trivial
local macro_rules | `(tactic| k_mem) => `(tactic| first | exact List.mem_cons_self | (refine List.mem_cons_of_mem _ ?_; k_mem))
local macro_rules | `(tactic| k_steps) => `(tactic| repeat' (first | (k_unfold; (try dsimp only)) | (k_end; wrow_close) | walk1 | (dsimp only; walk1) | (dsimp only; k_unfold; (try dsimp only)) | (leave1; walk_say "STEP leave1"; try dsimp only) | fail "no step"))
local macro_rules | `(tactic| walk_at "Hold") => `(tactic| refine stop ?_)
local macro_rules | `(tactic| walk_at "PostL0") => `(tactic| (unfold PostL0; try dsimp only))
local macro_rules | `(tactic| walk_at "EndL0") => `(tactic| refine stop ?_)
local macro_rules | `(tactic| walk_at "PostL") => `(tactic| (unfold PostL; try dsimp only))
local macro_rules | `(tactic| walk_at "EndL") => `(tactic| refine stop ?_)
local macro_rules | `(tactic| walk_at "PostM") => `(tactic| (unfold PostM; try dsimp only))
local macro_rules | `(tactic| walk_at "EndM") => `(tactic| refine stop ?_)
local macro_rules | `(tactic| walk_at "PostT") => `(tactic| (unfold PostT; try dsimp only))
local macro_rules | `(tactic| walk_at "EndT") => `(tactic| refine stop ?_)
local macro_rules | `(tactic| walk_at "pyIter ref") => `(tactic| refine stop ?_)
local macro_rules | `(tactic| ktr_call $_x:term $c:term) => `(tactic| (refine' Ctr.use ?k1 ?k2 ?k3 ?k4 ?k5 ?kK ?kC ?kd ?ku ?_; (case k1 => k_asm); (case k2 => k_asm); (case k3 => k_asm); (case k4 => k_asm); (case k5 => k_asm); (case kK => first | exact rfl | assumption); (case kC => exact $c); (case kd => ktr_room); (case ku => ktr_units)))
local macro_rules | `(tactic| k_room) => `(tactic| ktr_room)
local macro_rules | `(tactic| k_units) => `(tactic| ktr_units)
local macro_rules | `(tactic| k_enter) => `(tactic| first
  | (refine' code_def ?k1 ?k2 ?k3 ?k4 ?k5 ?kA ?kF ?kK ?k6 ?k7 ?k8 ?k9 ?kB ?_ ?c2 ?c3 ?c4 ?c5; (case k2 => k_asm); (case k3 => k_asm); (case k6 => k_is); (case k1 => k_asm); (case k4 => k_asm); (case k5 => k_asm); (case kA => exact rfl); (case kF => exact rfl); (case kK => first | exact rfl | assumption); (case k7 => k_is); (case k8 => ktr_room); (case k9 => first | exact BindsTo.of_eq rfl | exact binds_K (by k_in) rfl (by k_is) rfl rfl rfl | fail "k_enter: no rule for these arguments"); (case c5 => decide); (case kB => exact locs rfl); (case c2 => exact rfl); (case c3 => exact rfl); (case c4 => exact rfl); k_whole; intro g' L' h' FG' F' N' B' X' T'; (try dsimp only); (try k_lift B'); (try k_fold))
  | (refine' code_defC ?k1 ?k2 ?k3 ?k4 ?k5 ?kA ?kF ?kK ?k6 ?k7 ?k8 ?k9 ?kB ?kD ?_ ?c2 ?c3 ?c4; (case k2 => k_asm); (case k3 => k_asm); (case k6 => k_is); (case k1 => k_asm); (case k4 => k_asm); (case k5 => k_asm); (case kA => exact rfl); (case kF => exact rfl); (case kK => first | exact rfl | assumption); (case k7 => k_is); (case k8 => ktr_room); (case k9 => first | exact BindsTo.of_eq rfl | exact binds_K (by k_in) rfl (by k_is) rfl rfl rfl | fail "k_enter: no rule for these arguments"); (case kB => exact rfl); (case kD => decide +kernel); (case c2 => exact rfl); (case c3 => exact rfl); (case c4 => exact rfl); k_whole; intro g' L' h' tk' cells' FG' F' N' Y' B' X' T' l1; (try k_lt l1); k_cells Y'; (try simp only [List.cons_append, List.nil_append] at N'); (try dsimp only); (try k_lift B'); (try k_fold)))
local macro_rules | `(tactic| walk_at "truthy ref") => `(tactic| (k_here; (with_reducible show wpAny _ _ (truthy (Value.ref _)) _ _ _); (refine' kgr_truthy ?N ?m ?c ?d ?f ?_; (case N => k_asm); (case m => k_mem); (case c => rfl); (case d => rfl); (case f => first | omega | ((try simp only [List.length_map, List.length_cons, List.length_nil]); omega))); (try simp only [List.isEmpty_cons, List.isEmpty_nil, Bool.not_false, Bool.not_true])))
local macro_rules | `(tactic| ktr_rel) => `(tactic| (intro p hp; (try simp only [List.nil_append, List.cons_append, List.mem_cons, List.mem_append] at hp ⊢); first | exact hp | (simp [hp]; done) | (rcases hp with hp | hp <;> simp [hp])))
local macro_rules | `(tactic| walk_at "eval Name") => `(tactic| (k_here; k_dflt (refine' nameX_B ?F ?X ?T ?e ?v ?n ?_ ?a ?b; (case a => rfl); (case b => rfl); (case F => k_asm); (case X => k_asm); (case T => k_asm); (case e => k_is); (case v => boot_fast); (case n => decide); k_whole)))
local macro_rules | `(tactic| walk_at "eval Name") => `(tactic| (k_here; k_dflt (refine' nameX_K ?F ?X ?T ?e ?_ ?a ?b; (case a => rfl); (case b => rfl); (case F => k_asm); (case X => k_asm); (case T => k_asm); (case e => k_is); k_whole)))
local macro_rules | `(tactic| walk_at "eval Name") => `(tactic| (k_here; k_dflt (refine' nameX_L ?F ?v ?_ ?a ?b; (case F => k_asm); (case a => rfl); (case b => rfl); (case v => rfl); k_whole)))
local macro_rules | `(tactic| walk_at "ite") => `(tactic| ((with_reducible show ite (true = true) _ _); refine ite_pos rfl ?_))
local macro_rules | `(tactic| walk_at "ite") => `(tactic| ((with_reducible show ite (false = true) _ _); refine ite_neg Bool.false_ne_true ?_))
local macro_rules | `(tactic| walk_at "call builtin:isinstance") => `(tactic| (k_here; k_dflt (refine' isi_call ?k1 ?k2 ?k3 ?k4 ?_; (case k1 => k_in); (case k2 => k_types); (case k3 => k_is); (case k4 => intro e; cases e); k_whole)))
local macro_rules | `(tactic| walk_at "call ref") => `(tactic| (k_here; k_dflt (refine' call_cls ?k1 ?k2 ?k3 ?k4 ?k5 ?k6 ?_; (case k1 => k_asm); (case k2 => k_asm); (case k4 => k_is); (case k3 => k_asm); (case k5 => k_is); (case k6 => k_is); k_whole; intro x' d' h' F' N' l1 l2; (try k_lt l1); (try k_lt2 l2); (try k_sweep); k_enter)))
local macro_rules | `(tactic| walk_at "call ref") => `(tactic| (k_here; k_dflt (refine wpAny_call ?_; k_enter)))
local macro_rules | `(tactic| walk_at "call builtin:isinstance") => `(tactic| (k_here; (with_reducible show wpAny _ _ (call _ [Value.ref _, Value.ref _]) _ _ _); k_dflt (refine' kin_callC ?k1 ?k2 ?k3 ?k4 ?k5 ?k6 ?k7 ?k8 ?k9 ?_; (case k1 => k_in); (case k2 => k_inst); (case k3 => kin_no); (case k4 => k_is); (case k5 => k_is); (case k6 => k_is); (case k7 => k_is); (case k8 => k_is); (case k9 => k_is); k_whole)))
local macro_rules | `(tactic| walk_at "eval Name") => `(tactic| (k_here; k_dflt (refine' nameX_C ?N ?c ?m ?d ?_ ?a ?b; (case a => rfl); (case b => rfl); (case N => k_asm); (case c => rfl); (case m => k_mem); (case d => k_asm); k_whole)))
local macro_rules | `(tactic| walk_at "call builtin:list.append") => `(tactic| (k_here; (with_reducible show wpAny _ _ (call (Value.builtin _) [Value.ref _, _]) _ _ _); k_dflt (refine' append_K ?k1 ?k2 ?k3 ?_ ?z; (case k1 => k_asm); (case k2 => k_asm); (case k3 => k_upd); (case z => (simp only [List.size_toArray]; rw [sizeLine_eq]; omega)); k_whole); intro h' F' N'; (try k_sweep)))
local macro_rules | `(tactic| walk_at "call type:zip") => `(tactic| (k_here; (with_reducible show wpAny _ _ (call (Value.type _) [Value.ref _, Value.ref _, Value.ref _]) _ _ _); k_dflt (refine' zip_ttl ?k1 ?k2 ?k3 ?k4 ?k5 ?_; (case k1 => k_asm); (case k2 => k_asm); (case k3 => k_mem); (case k4 => k_mem); (case k5 => k_mem); k_whole); intro z' TI' TO' i1' i2' i3' h' F' N' l1 l2 l3 l4 l5 l6; (try k_lt l1); (try k_lt2 l2); (try k_lt2 l3); (try k_lt2 l4); (try k_lt2 l5); (try k_lt2 l6); (try k_sweep)))
local macro_rules | `(tactic| walk_at "call type:zip") => `(tactic| (k_here; (with_reducible show wpAny _ _ (call (Value.type _) [Value.ref _, Value.ref _]) _ _ _); k_dflt (refine' zip_tt ?k1 ?k2 ?k3 ?k4 ?_; (case k1 => k_asm); (case k2 => k_asm); (case k3 => k_mem); (case k4 => k_mem); k_whole); intro z' TI' TO' i1' i2' h' F' N' l1 l2 l3 l4 l5; (try k_lt l1); (try k_lt2 l2); (try k_lt2 l3); (try k_lt2 l4); (try k_lt2 l5); (try k_sweep)))
local macro_rules | `(tactic| walk_at "exec For Tuple Name") => `(tactic| (k_here; (rename Fr _ _ _ _ => lF'); (with_unfolding_all refine' For_turns lF' ?_; k_whole)))
local macro_rules | `(tactic| walk_at "eval ListComp") => `(tactic| (k_here; (with_reducible show wpAny _ _ (eval (Expr.ListComp _ [⟨Expr.Tuple _ _ _, _, [], _⟩] _ _) _) _ _ _); k_dflt (refine ListComp_zipE (by k_asm) (by with_unfolding_all rfl) (by decide) (by rfl) (by decide) ?_)))
local macro_rules | `(tactic| walk_at "SrcZ") => `(tactic| refine stop ?_)
local macro_rules | `(tactic| walk_at "call ref") => `(tactic| ((with_reducible show wpAny _ _ (call (Value.ref 89) _ _) _ _ _); refine stop ?_))
theorem visit_ctr {w : World} {news : List (Addr × Obj)} {v dv l r xl xr : Addr} {nl nr : Str} {ml mr : List Addr} {pb : Bool} {tv1 tv2 : Tok} (hv : (v, instObj 643 dv) ∈ news) (hdv : (dv, dictOf [En w "right" tv1 (.ref r), En w "proper_subtype" tv2 (.bool pb)] 2) ∈ news)
    (hl : TyAt w news l xl) (hr : TyAt w news r xr) (hxl : InfoAt w news xl nl ml) (hxr : InfoAt w news xr nr mr) (hne : xl ≠ xr)
    (names : Addr → Str) (hms : ∀ m ∈ ml, ∃ ms', InfoAt w news m (names m) ms') :
    Ctr w 10 100 (.ref 628) [.ref v, .ref l] [] news (fun v tl => v = .bool (ml.any fun m => names m == nr) ∧ tl = []) := by
  unfold Ctr
  k_fill
  intro p loose mean mg mb dp un gd cn cs a ccd cl outer A₀ base h₀ L m s Q E B F X N T hk hd hu hret
  obtain ⟨dl, tl1, tl2, tupl, l1, l2, l3⟩ := hl
  obtain ⟨dr, tr1, tr2, tupr, r1, r2, r3⟩ := hr
  have hxl0 := hxl
  have hxr0 := hxr
  obtain ⟨d, t1, t2, t3, t4, t5, t6, t7, cd, cdd, tv, tv0, bl, mlx, n1, n2, n3, m1, m2, m3, m4, m5, m6, m7⟩ := hxl
  obtain ⟨d', t1', t2', t3', t4', t5', t6', t7', cd', cdd', tv', tv0', bl', ml', n1', n2', n3', m1', m2', m3', m4', m5', m6', m7'⟩ := hxr
  k_steps
  refine Stop.mk ?_
  ktr_call 0 (has_base_ctr hxl0 names hms)
  rintro r9 tl9 h9 tk9 F9 N9 hl9 ⟨rfl, rfl⟩
  replace N9 : News _ _ _ news := N9
  k_steps
  · refine Stop.mk ?_
    refine' turnsZip (news := news) ?a ?F ?N ?z ?T ?i ?t ?o1 ?o2 ?sub ?off ?_
    case a => exact rfl
    case F => k_asm
    case N => k_asm
    case z => k_mem
    case T => k_mem
    case i => k_mem
    case t => k_mem
    case o1 => k_ne
    case o2 => k_ne
    case sub => intro p hp; simp [hp]
    case off => exact offZI (by tbn_find) (by omega)
    intro h1 tk1 F1 N1
    k_steps
    refine hret _ [] _ _ (by k_asm) (by k_asm) (fun _ _ _ h => nomatch h) ⟨?_, rfl⟩
    simp_all
  · refine hret _ [] _ _ (by k_asm) (by k_asm) (fun _ _ _ h => nomatch h) ⟨?_, rfl⟩
    simp_all
end Mine
end
section
open PySem PySem.W PySem.Spec PySem.Calls PyProof.Rows
namespace Mine
theorem fresh_C3 : True := by
  w_top off
  trivial
local macro_rules | `(tactic| walk_at "zz") => `(tactic| fail "zz")
local macro_rules | `(tactic| k_mem) => `(tactic| first | exact List.mem_cons_self | (refine List.mem_cons_of_mem _ ?_; k_mem))
local macro_rules | `(tactic| k_steps) => `(tactic| repeat' (first | (k_unfold; (try dsimp only)) | (k_end; wrow_close) | walk1 | (dsimp only; walk1) | (dsimp only; k_unfold; (try dsimp only)) | (leave1; walk_say "STEP leave1"; try dsimp only) | fail "no step"))
local macro_rules | `(tactic| walk_at "Hold") => `(tactic| refine stop ?_)
local macro_rules | `(tactic| walk_at "PostL0") => `(tactic| (unfold PostL0; try dsimp only))
local macro_rules | `(tactic| walk_at "EndL0") => `(tactic| refine stop ?_)
local macro_rules | `(tactic| walk_at "PostL") => `(tactic| (unfold PostL; try dsimp only))
local macro_rules | `(tactic| walk_at "EndL") => `(tactic| refine stop ?_)
local macro_rules | `(tactic| walk_at "PostM") => `(tactic| (unfold PostM; try dsimp only))
local macro_rules | `(tactic| walk_at "EndM") => `(tactic| refine stop ?_)
local macro_rules | `(tactic| walk_at "PostT") => `(tactic| (unfold PostT; try dsimp only))
local macro_rules | `(tactic| walk_at "EndT") => `(tactic| refine stop ?_)
local macro_rules | `(tactic| walk_at "pyIter ref") => `(tactic| refine stop ?_)
local macro_rules | `(tactic| ktr_call $_x:term $c:term) => `(tactic| (refine' Ctr.use ?k1 ?k2 ?k3 ?k4 ?k5 ?kK ?kC ?kd ?ku ?_; (case k1 => k_asm); (case k2 => k_asm); (case k3 => k_asm); (case k4 => k_asm); (case k5 => k_asm); (case kK => first | exact rfl | assumption); (case kC => exact $c); (case kd => ktr_room); (case ku => ktr_units)))
local macro_rules | `(tactic| k_room) => `(tactic| ktr_room)
local macro_rules | `(tactic| k_units) => `(tactic| ktr_units)
local macro_rules | `(tactic| k_enter) => `(tactic| first
  | (refine' code_def ?k1 ?k2 ?k3 ?k4 ?k5 ?kA ?kF ?kK ?k6 ?k7 ?k8 ?k9 ?kB ?_ ?c2 ?c3 ?c4 ?c5; (case k2 => k_asm); (case k3 => k_asm); (case k6 => k_is); (case k1 => k_asm); (case k4 => k_asm); (case k5 => k_asm); (case kA => exact rfl); (case kF => exact rfl); (case kK => first | exact rfl | assumption); (case k7 => k_is); (case k8 => ktr_room); (case k9 => first | exact BindsTo.of_eq rfl | exact binds_K (by k_in) rfl (by k_is) rfl rfl rfl | fail "k_enter: no rule for these arguments"); (case c5 => decide); (case kB => exact locs rfl); (case c2 => exact rfl); (case c3 => exact rfl); (case c4 => exact rfl); k_whole; intro g' L' h' FG' F' N' B' X' T'; (try dsimp only); (try k_lift B'); (try k_fold))
  | (refine' code_defC ?k1 ?k2 ?k3 ?k4 ?k5 ?kA ?kF ?kK ?k6 ?k7 ?k8 ?k9 ?kB ?kD ?_ ?c2 ?c3 ?c4; (case k2 => k_asm); (case k3 => k_asm); (case k6 => k_is); (case k1 => k_asm); (case k4 => k_asm); (case k5 => k_asm); (case kA => exact rfl); (case kF => exact rfl); (case kK => first | exact rfl | assumption); (case k7 => k_is); (case k8 => ktr_room); (case k9 => first | exact BindsTo.of_eq rfl | exact binds_K (by k_in) rfl (by k_is) rfl rfl rfl | fail "k_enter: no rule for these arguments"); (case kB => exact rfl); (case kD => decide +kernel); (case c2 => exact rfl); (case c3 => exact rfl); (case c4 => exact rfl); k_whole; intro g' L' h' tk' cells' FG' F' N' Y' B' X' T' l1; (try k_lt l1); k_cells Y'; (try simp only [List.cons_append, List.nil_append] at N'); (try dsimp only); (try k_lift B'); (try k_fold)))
local macro_rules | `(tactic| walk_at "truthy ref") => `(tactic| (k_here; (with_reducible show wpAny _ _ (truthy (Value.ref _)) _ _ _); (refine' kgr_truthy ?N ?m ?c ?d ?f ?_; (case N => k_asm); (case m => k_mem); (case c => rfl); (case d => rfl); (case f => first | omega | ((try simp only [List.length_map, List.length_cons, List.length_nil]); omega))); (try simp only [List.isEmpty_cons, List.isEmpty_nil, Bool.not_false, Bool.not_true])))
local macro_rules | `(tactic| ktr_rel) => `(tactic| (intro p hp; (try simp only [List.nil_append, List.cons_append, List.mem_cons, List.mem_append] at hp ⊢); first | exact hp | (simp [hp]; done) | (rcases hp with hp | hp <;> simp [hp])))
local macro_rules | `(tactic| walk_at "eval Name") => `(tactic| (k_here; k_dflt (refine' nameX_B ?F ?X ?T ?e ?v ?n ?_ ?a ?b; (case a => rfl); (case b => rfl); (case F => k_asm); (case X => k_asm); (case T => k_asm); (case e => k_is); (case v => boot_fast); (case n => decide); k_whole)))
local macro_rules | `(tactic| walk_at "eval Name") => `(tactic| (k_here; k_dflt (refine' nameX_K ?F ?X ?T ?e ?_ ?a ?b; (case a => rfl); (case b => rfl); (case F => k_asm); (case X => k_asm); (case T => k_asm); (case e => k_is); k_whole)))
local macro_rules | `(tactic| walk_at "eval Name") => `(tactic| (k_here; k_dflt (refine' nameX_L ?F ?v ?_ ?a ?b; (case F => k_asm); (case a => rfl); (case b => rfl); (case v => rfl); k_whole)))
local macro_rules | `(tactic| walk_at "ite") => `(tactic| ((with_reducible show ite (true = true) _ _); refine ite_pos rfl ?_))
local macro_rules | `(tactic| walk_at "ite") => `(tactic| ((with_reducible show ite (false = true) _ _); refine ite_neg Bool.false_ne_true ?_))
local macro_rules | `(tactic| walk_at "call builtin:isinstance") => `(tactic| (k_here; k_dflt (refine' isi_call ?k1 ?k2 ?k3 ?k4 ?_; (case k1 => k_in); (case k2 => k_types); (case k3 => k_is); (case k4 => intro e; cases e); k_whole)))
local macro_rules | `(tactic| walk_at "call ref") => `(tactic| (k_here; k_dflt (refine' call_cls ?k1 ?k2 ?k3 ?k4 ?k5 ?k6 ?_; (case k1 => k_asm); (case k2 => k_asm); (case k4 => k_is); (case k3 => k_asm); (case k5 => k_is); (case k6 => k_is); k_whole; intro x' d' h' F' N' l1 l2; (try k_lt l1); (try k_lt2 l2); (try k_sweep); k_enter)))
local macro_rules | `(tactic| walk_at "call ref") => `(tactic| (k_here; k_dflt (refine wpAny_call ?_; k_enter)))
local macro_rules | `(tactic| walk_at "call builtin:isinstance") => `(tactic| (k_here; (with_reducible show wpAny _ _ (call _ [Value.ref _, Value.ref _]) _ _ _); k_dflt (refine' kin_callC ?k1 ?k2 ?k3 ?k4 ?k5 ?k6 ?k7 ?k8 ?k9 ?_; (case k1 => k_in); (case k2 => k_inst); (case k3 => kin_no); (case k4 => k_is); (case k5 => k_is); (case k6 => k_is); (case k7 => k_is); (case k8 => k_is); (case k9 => k_is); k_whole)))
local macro_rules | `(tactic| walk_at "eval Name") => `(tactic| (k_here; k_dflt (refine' nameX_C ?N ?c ?m ?d ?_ ?a ?b; (case a => rfl); (case b => rfl); (case N => k_asm); (case c => rfl); (case m => k_mem); (case d => k_asm); k_whole)))
local macro_rules | `(tactic| walk_at "call builtin:list.append") => `(tactic| (k_here; (with_reducible show wpAny _ _ (call (Value.builtin _) [Value.ref _, _]) _ _ _); k_dflt (refine' append_K ?k1 ?k2 ?k3 ?_ ?z; (case k1 => k_asm); (case k2 => k_asm); (case k3 => k_upd); (case z => (simp only [List.size_toArray]; rw [sizeLine_eq]; omega)); k_whole); intro h' F' N'; (try k_sweep)))
local macro_rules | `(tactic| walk_at "call type:zip") => `(tactic| (k_here; (with_reducible show wpAny _ _ (call (Value.type _) [Value.ref _, Value.ref _, Value.ref _]) _ _ _); k_dflt (refine' zip_ttl ?k1 ?k2 ?k3 ?k4 ?k5 ?_; (case k1 => k_asm); (case k2 => k_asm); (case k3 => k_mem); (case k4 => k_mem); (case k5 => k_mem); k_whole); intro z' TI' TO' i1' i2' i3' h' F' N' l1 l2 l3 l4 l5 l6; (try k_lt l1); (try k_lt2 l2); (try k_lt2 l3); (try k_lt2 l4); (try k_lt2 l5); (try k_lt2 l6); (try k_sweep)))
local macro_rules | `(tactic| walk_at "call type:zip") => `(tactic| (k_here; (with_reducible show wpAny _ _ (call (Value.type _) [Value.ref _, Value.ref _]) _ _ _); k_dflt (refine' zip_tt ?k1 ?k2 ?k3 ?k4 ?_; (case k1 => k_asm); (case k2 => k_asm); (case k3 => k_mem); (case k4 => k_mem); k_whole); intro z' TI' TO' i1' i2' h' F' N' l1 l2 l3 l4 l5; (try k_lt l1); (try k_lt2 l2); (try k_lt2 l3); (try k_lt2 l4); (try k_lt2 l5); (try k_sweep)))
local macro_rules | `(tactic| walk_at "exec For Tuple Name") => `(tactic| (k_here; (rename Fr _ _ _ _ => lF'); (with_unfolding_all refine' For_turns lF' ?_; k_whole)))
local macro_rules | `(tactic| walk_at "eval ListComp") => `(tactic| (k_here; (with_reducible show wpAny _ _ (eval (Expr.ListComp _ [⟨Expr.Tuple _ _ _, _, [], _⟩] _ _) _) _ _ _); k_dflt (refine ListComp_zipE (by k_asm) (by with_unfolding_all rfl) (by decide) (by rfl) (by decide) ?_)))
local macro_rules | `(tactic| walk_at "SrcZ") => `(tactic| refine stop ?_)
local macro_rules | `(tactic| walk_at "call ref") => `(tactic| ((with_reducible show wpAny _ _ (call (Value.ref 628) _ _) _ _ _); refine stop ?_))
theorem sub1_ctr {w : World} {news : List (Addr × Obj)} {l r xl xr : Addr} {nl nr : Str} {ml mr : List Addr} (pb : Bool) (hl : TyAt w news l xl) (hr : TyAt w news r xr) (hxl : InfoAt w news xl nl ml) (hxr : InfoAt w news xr nr mr) (hne : xl ≠ xr)
    (names : Addr → Str) (hms : ∀ m ∈ ml, ∃ ms', InfoAt w news m (names m) ms') :
    Ctr w 20 200 (.ref 572) [.ref l, .ref r, .bool pb] [] news (fun v tl => v = .bool (ml.any fun m => names m == nr) ∧ tl = []) := by
  unfold Ctr
  k_fill
  intro p loose mean mg mb dp un gd cn cs a ccd cl outer A₀ base h₀ L m s Q E B F X N T hk hd hu hret
  have hl0 := hl
  have hr0 := hr
  have hxl0 := hxl
  have hxr0 := hxr
  obtain ⟨dl, tl1, tl2, tupl, l1, l2, l3⟩ := hl
  obtain ⟨dr, tr1, tr2, tupr, r1, r2, r3⟩ := hr
  k_steps
  all_goals (
    refine Stop.mk ?_
    ktr_call 0 (visit_ctr (by k_mem) (by k_mem) (hl0.mono (by ktr_rel)) (hr0.mono (by ktr_rel)) (hxl0.mono (by ktr_rel)) (hxr0.mono (by ktr_rel)) hne names (fun m hm => (hms m hm).imp fun _ h => h.mono (by ktr_rel)))
    rintro r9 tl9 h9 tk9 F9 N9 hl9 ⟨rfl, rfl⟩
    simp only [List.nil_append] at N9
    k_steps
    exact hret _ [] _ _ (by k_asm) (newsSub (by k_asm) (by ktr_rel)) (fun _ _ _ h => nomatch h) ⟨rfl, rfl⟩)
end Mine
end
section
open PySem PySem.W PySem.Spec PySem.Calls PyProof.Rows
namespace Mine
theorem fresh_C4 : True := by
  w_top off
  trivial
local macro_rules | `(tactic| k_mem) => `(tactic| first | exact List.mem_cons_self | (refine List.mem_cons_of_mem _ ?_; k_mem))
local macro_rules | `(tactic| k_steps) => `(tactic| repeat' (first | (k_unfold; (try dsimp only)) | (k_end; wrow_close) | walk1 | (dsimp only; walk1) | (dsimp only; k_unfold; (try dsimp only)) | (leave1; walk_say "STEP leave1"; try dsimp only) | fail "no step"))
local macro_rules | `(tactic| walk_at "Hold") => `(tactic| refine stop ?_)
local macro_rules | `(tactic| walk_at "PostL0") => `(tactic| (unfold PostL0; try dsimp only))
local macro_rules | `(tactic| walk_at "EndL0") => `(tactic| refine stop ?_)
local macro_rules | `(tactic| walk_at "PostL") => `(tactic| (unfold PostL; try dsimp only))
local macro_rules | `(tactic| walk_at "EndL") => `(tactic| refine stop ?_)
local macro_rules | `(tactic| walk_at "PostM") => `(tactic| (unfold PostM; try dsimp only))
local macro_rules | `(tactic| walk_at "EndM") => `(tactic| refine stop ?_)
local macro_rules | `(tactic| walk_at "PostT") => `(tactic| (unfold PostT; try dsimp only))
local macro_rules | `(tactic| walk_at "EndT") => `(tactic| refine stop ?_)
local macro_rules | `(tactic| walk_at "pyIter ref") => `(tactic| refine stop ?_)
local macro_rules | `(tactic| ktr_call $_x:term $c:term) => `(tactic| (refine' Ctr.use ?k1 ?k2 ?k3 ?k4 ?k5 ?kK ?kC ?kd ?ku ?_; (case k1 => k_asm); (case k2 => k_asm); (case k3 => k_asm); (case k4 => k_asm); (case k5 => k_asm); (case kK => first | exact rfl | assumption); (case kC => exact $c); (case kd => ktr_room); (case ku => ktr_units)))
local macro_rules | `(tactic| k_room) => `(tactic| ktr_room)
local macro_rules | `(tactic| k_units) => `(tactic| ktr_units)
local macro_rules | `(tactic| k_enter) => `(tactic| first
  | (refine' code_def ?k1 ?k2 ?k3 ?k4 ?k5 ?kA ?kF ?kK ?k6 ?k7 ?k8 ?k9 ?kB ?_ ?c2 ?c3 ?c4 ?c5; (case k2 => k_asm); (case k3 => k_asm); (case k6 => k_is); (case k1 => k_asm); (case k4 => k_asm); (case k5 => k_asm); (case kA => exact rfl); (case kF => exact rfl); (case kK => first | exact rfl | assumption); (case k7 => k_is); (case k8 => ktr_room); (case k9 => first | exact BindsTo.of_eq rfl | exact binds_K (by k_in) rfl (by k_is) rfl rfl rfl | fail "k_enter: no rule for these arguments"); (case c5 => decide); (case kB => exact locs rfl); (case c2 => exact rfl); (case c3 => exact rfl); (case c4 => exact rfl); k_whole; intro g' L' h' FG' F' N' B' X' T'; (try dsimp only); (try k_lift B'); (try k_fold))
  | (refine' code_defC ?k1 ?k2 ?k3 ?k4 ?k5 ?kA ?kF ?kK ?k6 ?k7 ?k8 ?k9 ?kB ?kD ?_ ?c2 ?c3 ?c4; (case k2 => k_asm); (case k3 => k_asm); (case k6 => k_is); (case k1 => k_asm); (case k4 => k_asm); (case k5 => k_asm); (case kA => exact rfl); (case kF => exact rfl); (case kK => first | exact rfl | assumption); (case k7 => k_is); (case k8 => ktr_room); (case k9 => first | exact BindsTo.of_eq rfl | exact binds_K (by k_in) rfl (by k_is) rfl rfl rfl | fail "k_enter: no rule for these arguments"); (case kB => exact rfl); (case kD => decide +kernel); (case c2 => exact rfl); (case c3 => exact rfl); (case c4 => exact rfl); k_whole; intro g' L' h' tk' cells' FG' F' N' Y' B' X' T' l1; (try k_lt l1); k_cells Y'; (try simp only [List.cons_append, List.nil_append] at N'); (try dsimp only); (try k_lift B'); (try k_fold)))
local macro_rules | `(tactic| walk_at "truthy ref") => `(tactic| (k_here; (with_reducible show wpAny _ _ (truthy (Value.ref _)) _ _ _); (refine' kgr_truthy ?N ?m ?c ?d ?f ?_; (case N => k_asm); (case m => k_mem); (case c => rfl); (case d => rfl); (case f => first | omega | ((try simp only [List.length_map, List.length_cons, List.length_nil]); omega))); (try simp only [List.isEmpty_cons, List.isEmpty_nil, Bool.not_false, Bool.not_true])))
local macro_rules | `(tactic| ktr_rel) => `(tactic| (intro p hp; (try simp only [List.nil_append, List.cons_append, List.mem_cons, List.mem_append] at hp ⊢); first | exact hp | (simp [hp]; done) | (rcases hp with hp | hp <;> simp [hp])))
local macro_rules | `(tactic| walk_at "eval Name") => `(tactic| (k_here; k_dflt (refine' nameX_B ?F ?X ?T ?e ?v ?n ?_ ?a ?b; (case a => rfl); (case b => rfl); (case F => k_asm); (case X => k_asm); (case T => k_asm); (case e => k_is); (case v => boot_fast); (case n => decide); k_whole)))
local macro_rules | `(tactic| walk_at "eval Name") => `(tactic| (k_here; k_dflt (refine' nameX_K ?F ?X ?T ?e ?_ ?a ?b; (case a => rfl); (case b => rfl); (case F => k_asm); (case X => k_asm); (case T => k_asm); (case e => k_is); k_whole)))
local macro_rules | `(tactic| walk_at "eval Name") => `(tactic| (k_here; k_dflt (refine' nameX_L ?F ?v ?_ ?a ?b; (case F => k_asm); (case a => rfl); (case b => rfl); (case v => rfl); k_whole)))
local macro_rules | `(tactic| walk_at "ite") => `(tactic| ((with_reducible show ite (true = true) _ _); refine ite_pos rfl ?_))
local macro_rules | `(tactic| walk_at "ite") => `(tactic| ((with_reducible show ite (false = true) _ _); refine ite_neg Bool.false_ne_true ?_))
local macro_rules | `(tactic| walk_at "call builtin:isinstance") => `(tactic| (k_here; k_dflt (refine' isi_call ?k1 ?k2 ?k3 ?k4 ?_; (case k1 => k_in); (case k2 => k_types); (case k3 => k_is); (case k4 => intro e; cases e); k_whole)))
local macro_rules | `(tactic| walk_at "call ref") => `(tactic| (k_here; k_dflt (refine' call_cls ?k1 ?k2 ?k3 ?k4 ?k5 ?k6 ?_; (case k1 => k_asm); (case k2 => k_asm); (case k4 => k_is); (case k3 => k_asm); (case k5 => k_is); (case k6 => k_is); k_whole; intro x' d' h' F' N' l1 l2; (try k_lt l1); (try k_lt2 l2); (try k_sweep); k_enter)))
local macro_rules | `(tactic| walk_at "call ref") => `(tactic| (k_here; k_dflt (refine wpAny_call ?_; k_enter)))
local macro_rules | `(tactic| walk_at "call builtin:isinstance") => `(tactic| (k_here; (with_reducible show wpAny _ _ (call _ [Value.ref _, Value.ref _]) _ _ _); k_dflt (refine' kin_callC ?k1 ?k2 ?k3 ?k4 ?k5 ?k6 ?k7 ?k8 ?k9 ?_; (case k1 => k_in); (case k2 => k_inst); (case k3 => kin_no); (case k4 => k_is); (case k5 => k_is); (case k6 => k_is); (case k7 => k_is); (case k8 => k_is); (case k9 => k_is); k_whole)))
local macro_rules | `(tactic| walk_at "eval Name") => `(tactic| (k_here; k_dflt (refine' nameX_C ?N ?c ?m ?d ?_ ?a ?b; (case a => rfl); (case b => rfl); (case N => k_asm); (case c => rfl); (case m => k_mem); (case d => k_asm); k_whole)))
local macro_rules | `(tactic| walk_at "call builtin:list.append") => `(tactic| (k_here; (with_reducible show wpAny _ _ (call (Value.builtin _) [Value.ref _, _]) _ _ _); k_dflt (refine' append_K ?k1 ?k2 ?k3 ?_ ?z; (case k1 => k_asm); (case k2 => k_asm); (case k3 => k_upd); (case z => (simp only [List.size_toArray]; rw [sizeLine_eq]; omega)); k_whole); intro h' F' N'; (try k_sweep)))
local macro_rules | `(tactic| walk_at "call type:zip") => `(tactic| (k_here; (with_reducible show wpAny _ _ (call (Value.type _) [Value.ref _, Value.ref _, Value.ref _]) _ _ _); k_dflt (refine' zip_ttl ?k1 ?k2 ?k3 ?k4 ?k5 ?_; (case k1 => k_asm); (case k2 => k_asm); (case k3 => k_mem); (case k4 => k_mem); (case k5 => k_mem); k_whole); intro z' TI' TO' i1' i2' i3' h' F' N' l1 l2 l3 l4 l5 l6; (try k_lt l1); (try k_lt2 l2); (try k_lt2 l3); (try k_lt2 l4); (try k_lt2 l5); (try k_lt2 l6); (try k_sweep)))
local macro_rules | `(tactic| walk_at "call type:zip") => `(tactic| (k_here; (with_reducible show wpAny _ _ (call (Value.type _) [Value.ref _, Value.ref _]) _ _ _); k_dflt (refine' zip_tt ?k1 ?k2 ?k3 ?k4 ?_; (case k1 => k_asm); (case k2 => k_asm); (case k3 => k_mem); (case k4 => k_mem); k_whole); intro z' TI' TO' i1' i2' h' F' N' l1 l2 l3 l4 l5; (try k_lt l1); (try k_lt2 l2); (try k_lt2 l3); (try k_lt2 l4); (try k_lt2 l5); (try k_sweep)))
local macro_rules | `(tactic| walk_at "exec For Tuple Name") => `(tactic| (k_here; (rename Fr _ _ _ _ => lF'); (with_unfolding_all refine' For_turns lF' ?_; k_whole)))
local macro_rules | `(tactic| walk_at "eval ListComp") => `(tactic| (k_here; (with_reducible show wpAny _ _ (eval (Expr.ListComp _ [⟨Expr.Tuple _ _ _, _, [], _⟩] _ _) _) _ _ _); k_dflt (refine ListComp_zipE (by k_asm) (by with_unfolding_all rfl) (by decide) (by rfl) (by decide) ?_)))
local macro_rules | `(tactic| walk_at "SrcZ") => `(tactic| refine stop ?_)
local macro_rules | `(tactic| walk_at "call ref") => `(tactic| ((with_reducible show wpAny _ _ (call (Value.ref 572) _ _) _ _ _); refine stop ?_))
theorem sub_ctr {w : World} {news : List (Addr × Obj)} {l r xl xr : Addr} {nl nr : Str} {ml mr : List Addr} (hl : TyAt w news l xl) (hr : TyAt w news r xr) (hxl : InfoAt w news xl nl ml) (hxr : InfoAt w news xr nr mr)
    (names : Addr → Str) (hms : ∀ m ∈ ml, ∃ ms', InfoAt w news m (names m) ms') :
    Ctr w 30 300 (.ref 548) [.ref l, .ref r] [] news (fun v tl => v = .bool (decide (xl = xr) || ml.any fun m => names m == nr) ∧ tl = []) := by
  unfold Ctr
  k_fill
  intro p loose mean mg mb dp un gd cn cs a ccd cl outer A₀ base h₀ L m s Q E B F X N T hk hd hu hret
  by_cases hx : xl = xr
  · subst hx
    obtain ⟨dl, tl1, tl2, tupl, l1, l2, l3⟩ := hl
    obtain ⟨dr, tr1, tr2, tupr, r1, r2, r3⟩ := hr
    k_steps
    refine hret _ [] _ _ (by k_asm) (newsSub (by k_asm) (by ktr_rel)) (fun _ _ _ h => nomatch h) ⟨by simp, rfl⟩
  · have hne : xl ≠ xr := hx
    clear hx
    obtain ⟨dxl, ixl⟩ := hxl.inst
    obtain ⟨dxr, ixr⟩ := hxr.inst
    have hl0 := hl
    have hr0 := hr
    obtain ⟨dl, tl1, tl2, tupl, l1, l2, l3⟩ := hl
    obtain ⟨dr, tr1, tr2, tupr, r1, r2, r3⟩ := hr
    k_steps
    refine Stop.mk ?_
    ktr_call 0 (sub1_ctr false (hl0.mono (by ktr_rel)) (hr0.mono (by ktr_rel)) (hxl.mono (by ktr_rel)) (hxr.mono (by ktr_rel)) hne names (fun m hm => (hms m hm).imp fun _ h => h.mono (by ktr_rel)))
    rintro r9 tl9 h9 tk9 F9 N9 hl9 ⟨rfl, rfl⟩
    simp only [List.nil_append] at N9
    k_steps
    exact hret _ [] _ _ (by k_asm) (newsSub (by k_asm) (by ktr_rel)) (fun _ _ _ h => nomatch h) ⟨by simp [hne], rfl⟩

theorem psub_ctr {w : World} {news : List (Addr × Obj)} {l r xl xr : Addr} {nl nr : Str} {ml mr : List Addr} (hl : TyAt w news l xl) (hr : TyAt w news r xr) (hxl : InfoAt w news xl nl ml) (hxr : InfoAt w news xr nr mr)
    (names : Addr → Str) (hms : ∀ m ∈ ml, ∃ ms', InfoAt w news m (names m) ms') (hne : xl ≠ xr) :
    Ctr w 31 310 (.ref 555) [.ref l, .ref r] [] news (fun v tl => v = .bool (ml.any fun m => names m == nr) ∧ tl = []) := by
  unfold Ctr
  k_fill
  intro p loose mean mg mb dp un gd cn cs a ccd cl outer A₀ base h₀ L m s Q E B F X N T hk hd hu hret
  obtain ⟨dxl, ixl⟩ := hxl.inst
  obtain ⟨dxr, ixr⟩ := hxr.inst
  have hl0 := hl
  have hr0 := hr
  obtain ⟨dl, tl1, tl2, tupl, l1, l2, l3⟩ := hl
  obtain ⟨dr, tr1, tr2, tupr, r1, r2, r3⟩ := hr
  k_steps
  refine Stop.mk ?_
  ktr_call 0 (sub1_ctr true (hl0.mono (by ktr_rel)) (hr0.mono (by ktr_rel)) (hxl.mono (by ktr_rel)) (hxr.mono (by ktr_rel)) hne names (fun m hm => (hms m hm).imp fun _ h => h.mono (by ktr_rel)))
  rintro r9 tl9 h9 tk9 F9 N9 hl9 ⟨rfl, rfl⟩
  simp only [List.nil_append] at N9
  k_steps
  exact hret _ [] _ _ (by k_asm) (newsSub (by k_asm) (by ktr_rel)) (fun _ _ _ h => nomatch h) ⟨rfl, rfl⟩
end Mine
end
section
open PySem PySem.W PySem.Spec PySem.Calls PyProof.Rows
namespace Mine
theorem fresh_C5 : True := by
  w_top off
  trivial
local macro_rules | `(tactic| walk_at "zz") => `(tactic| fail "zz")
local macro_rules | `(tactic| k_mem) => `(tactic| first | exact List.mem_cons_self | (refine List.mem_cons_of_mem _ ?_; k_mem))
local macro_rules | `(tactic| k_steps) => `(tactic| repeat' (first | (k_unfold; (try dsimp only)) | (k_end; wrow_close) | walk1 | (dsimp only; walk1) | (dsimp only; k_unfold; (try dsimp only)) | (leave1; walk_say "STEP leave1"; try dsimp only) | fail "no step"))
local macro_rules | `(tactic| walk_at "Hold") => `(tactic| refine stop ?_)
local macro_rules | `(tactic| walk_at "PostL0") => `(tactic| (unfold PostL0; try dsimp only))
local macro_rules | `(tactic| walk_at "EndL0") => `(tactic| refine stop ?_)
local macro_rules | `(tactic| walk_at "PostL") => `(tactic| (unfold PostL; try dsimp only))
local macro_rules | `(tactic| walk_at "EndL") => `(tactic| refine stop ?_)
local macro_rules | `(tactic| walk_at "PostM") => `(tactic| (unfold PostM; try dsimp only))
local macro_rules | `(tactic| walk_at "EndM") => `(tactic| refine stop ?_)
local macro_rules | `(tactic| walk_at "PostT") => `(tactic| (unfold PostT; try dsimp only))
local macro_rules | `(tactic| walk_at "EndT") => `(tactic| refine stop ?_)
local macro_rules | `(tactic| walk_at "pyIter ref") => `(tactic| refine stop ?_)
local macro_rules | `(tactic| ktr_call $_x:term $c:term) => `(tactic| (refine' Ctr.use ?k1 ?k2 ?k3 ?k4 ?k5 ?kK ?kC ?kd ?ku ?_; (case k1 => k_asm); (case k2 => k_asm); (case k3 => k_asm); (case k4 => k_asm); (case k5 => k_asm); (case kK => first | exact rfl | assumption); (case kC => exact $c); (case kd => ktr_room); (case ku => ktr_units)))
local macro_rules | `(tactic| k_room) => `(tactic| ktr_room)
local macro_rules | `(tactic| k_units) => `(tactic| ktr_units)
local macro_rules | `(tactic| k_enter) => `(tactic| first
  | (refine' code_def ?k1 ?k2 ?k3 ?k4 ?k5 ?kA ?kF ?kK ?k6 ?k7 ?k8 ?k9 ?kB ?_ ?c2 ?c3 ?c4 ?c5; (case k2 => k_asm); (case k3 => k_asm); (case k6 => k_is); (case k1 => k_asm); (case k4 => k_asm); (case k5 => k_asm); (case kA => exact rfl); (case kF => exact rfl); (case kK => first | exact rfl | assumption); (case k7 => k_is); (case k8 => ktr_room); (case k9 => first | exact BindsTo.of_eq rfl | exact binds_K (by k_in) rfl (by k_is) rfl rfl rfl | fail "k_enter: no rule for these arguments"); (case c5 => decide); (case kB => exact locs rfl); (case c2 => exact rfl); (case c3 => exact rfl); (case c4 => exact rfl); k_whole; intro g' L' h' FG' F' N' B' X' T'; (try dsimp only); (try k_lift B'); (try k_fold))
  | (refine' code_defC ?k1 ?k2 ?k3 ?k4 ?k5 ?kA ?kF ?kK ?k6 ?k7 ?k8 ?k9 ?kB ?kD ?_ ?c2 ?c3 ?c4; (case k2 => k_asm); (case k3 => k_asm); (case k6 => k_is); (case k1 => k_asm); (case k4 => k_asm); (case k5 => k_asm); (case kA => exact rfl); (case kF => exact rfl); (case kK => first | exact rfl | assumption); (case k7 => k_is); (case k8 => ktr_room); (case k9 => first | exact BindsTo.of_eq rfl | exact binds_K (by k_in) rfl (by k_is) rfl rfl rfl | fail "k_enter: no rule for these arguments"); (case kB => exact rfl); (case kD => decide +kernel); (case c2 => exact rfl); (case c3 => exact rfl); (case c4 => exact rfl); k_whole; intro g' L' h' tk' cells' FG' F' N' Y' B' X' T' l1; (try k_lt l1); k_cells Y'; (try simp only [List.cons_append, List.nil_append] at N'); (try dsimp only); (try k_lift B'); (try k_fold)))
local macro_rules | `(tactic| walk_at "truthy ref") => `(tactic| (k_here; (with_reducible show wpAny _ _ (truthy (Value.ref _)) _ _ _); (refine' kgr_truthy ?N ?m ?c ?d ?f ?_; (case N => k_asm); (case m => k_mem); (case c => rfl); (case d => rfl); (case f => first | omega | ((try simp only [List.length_map, List.length_cons, List.length_nil]); omega))); (try simp only [List.isEmpty_cons, List.isEmpty_nil, Bool.not_false, Bool.not_true])))
local macro_rules | `(tactic| ktr_rel) => `(tactic| (intro p hp; (try simp only [List.nil_append, List.cons_append, List.mem_cons, List.mem_append] at hp ⊢); first | exact hp | (simp [hp]; done) | (rcases hp with hp | hp <;> simp [hp])))
local macro_rules | `(tactic| walk_at "eval Name") => `(tactic| (k_here; k_dflt (refine' nameX_B ?F ?X ?T ?e ?v ?n ?_ ?a ?b; (case a => rfl); (case b => rfl); (case F => k_asm); (case X => k_asm); (case T => k_asm); (case e => k_is); (case v => boot_fast); (case n => decide); k_whole)))
local macro_rules | `(tactic| walk_at "eval Name") => `(tactic| (k_here; k_dflt (refine' nameX_K ?F ?X ?T ?e ?_ ?a ?b; (case a => rfl); (case b => rfl); (case F => k_asm); (case X => k_asm); (case T => k_asm); (case e => k_is); k_whole)))
local macro_rules | `(tactic| walk_at "eval Name") => `(tactic| (k_here; k_dflt (refine' nameX_L ?F ?v ?_ ?a ?b; (case F => k_asm); (case a => rfl); (case b => rfl); (case v => rfl); k_whole)))
local macro_rules | `(tactic| walk_at "ite") => `(tactic| ((with_reducible show ite (true = true) _ _); refine ite_pos rfl ?_))
local macro_rules | `(tactic| walk_at "ite") => `(tactic| ((with_reducible show ite (false = true) _ _); refine ite_neg Bool.false_ne_true ?_))
local macro_rules | `(tactic| walk_at "call builtin:isinstance") => `(tactic| (k_here; k_dflt (refine' isi_call ?k1 ?k2 ?k3 ?k4 ?_; (case k1 => k_in); (case k2 => k_types); (case k3 => k_is); (case k4 => intro e; cases e); k_whole)))
local macro_rules | `(tactic| walk_at "call ref") => `(tactic| (k_here; k_dflt (refine' call_cls ?k1 ?k2 ?k3 ?k4 ?k5 ?k6 ?_; (case k1 => k_asm); (case k2 => k_asm); (case k4 => k_is); (case k3 => k_asm); (case k5 => k_is); (case k6 => k_is); k_whole; intro x' d' h' F' N' l1 l2; (try k_lt l1); (try k_lt2 l2); (try k_sweep); k_enter)))
local macro_rules | `(tactic| walk_at "call ref") => `(tactic| (k_here; k_dflt (refine wpAny_call ?_; k_enter)))
local macro_rules | `(tactic| walk_at "call builtin:isinstance") => `(tactic| (k_here; (with_reducible show wpAny _ _ (call _ [Value.ref _, Value.ref _]) _ _ _); k_dflt (refine' kin_callC ?k1 ?k2 ?k3 ?k4 ?k5 ?k6 ?k7 ?k8 ?k9 ?_; (case k1 => k_in); (case k2 => k_inst); (case k3 => kin_no); (case k4 => k_is); (case k5 => k_is); (case k6 => k_is); (case k7 => k_is); (case k8 => k_is); (case k9 => k_is); k_whole)))
local macro_rules | `(tactic| walk_at "eval Name") => `(tactic| (k_here; k_dflt (refine' nameX_C ?N ?c ?m ?d ?_ ?a ?b; (case a => rfl); (case b => rfl); (case N => k_asm); (case c => rfl); (case m => k_mem); (case d => k_asm); k_whole)))
local macro_rules | `(tactic| walk_at "call builtin:list.append") => `(tactic| (k_here; (with_reducible show wpAny _ _ (call (Value.builtin _) [Value.ref _, _]) _ _ _); k_dflt (refine' append_K ?k1 ?k2 ?k3 ?_ ?z; (case k1 => k_asm); (case k2 => k_asm); (case k3 => k_upd); (case z => (simp only [List.size_toArray]; rw [sizeLine_eq]; omega)); k_whole); intro h' F' N'; (try k_sweep)))
local macro_rules | `(tactic| walk_at "call type:zip") => `(tactic| (k_here; (with_reducible show wpAny _ _ (call (Value.type _) [Value.ref _, Value.ref _, Value.ref _]) _ _ _); k_dflt (refine' zip_ttl ?k1 ?k2 ?k3 ?k4 ?k5 ?_; (case k1 => k_asm); (case k2 => k_asm); (case k3 => k_mem); (case k4 => k_mem); (case k5 => k_mem); k_whole); intro z' TI' TO' i1' i2' i3' h' F' N' l1 l2 l3 l4 l5 l6; (try k_lt l1); (try k_lt2 l2); (try k_lt2 l3); (try k_lt2 l4); (try k_lt2 l5); (try k_lt2 l6); (try k_sweep)))
local macro_rules | `(tactic| walk_at "call type:zip") => `(tactic| (k_here; (with_reducible show wpAny _ _ (call (Value.type _) [Value.ref _, Value.ref _]) _ _ _); k_dflt (refine' zip_tt ?k1 ?k2 ?k3 ?k4 ?_; (case k1 => k_asm); (case k2 => k_asm); (case k3 => k_mem); (case k4 => k_mem); k_whole); intro z' TI' TO' i1' i2' h' F' N' l1 l2 l3 l4 l5; (try k_lt l1); (try k_lt2 l2); (try k_lt2 l3); (try k_lt2 l4); (try k_lt2 l5); (try k_sweep)))
local macro_rules | `(tactic| walk_at "exec For Tuple Name") => `(tactic| (k_here; (rename Fr _ _ _ _ => lF'); (with_unfolding_all refine' For_turns lF' ?_; k_whole)))
local macro_rules | `(tactic| walk_at "eval ListComp") => `(tactic| (k_here; (with_reducible show wpAny _ _ (eval (Expr.ListComp _ [⟨Expr.Tuple _ _ _, _, [], _⟩] _ _) _) _ _ _); k_dflt (refine ListComp_zipE (by k_asm) (by with_unfolding_all rfl) (by decide) (by rfl) (by decide) ?_)))
local macro_rules | `(tactic| walk_at "SrcZ") => `(tactic| refine stop ?_)
local macro_rules | `(tactic| walk_at "call ref") => `(tactic| ((with_reducible show wpAny _ _ (call (Value.ref 555) _ _) _ _ _); refine stop ?_))
theorem same_ctr {w : World} {news : List (Addr × Obj)} {l r xl xr : Addr} {nl nr : Str} {ml mr : List Addr} (hl : TyAt w news l xl) (hr : TyAt w news r xr) (hxl : InfoAt w news xl nl ml) (hxr : InfoAt w news xr nr mr)
    (names : Addr → Str) (hml : ∀ m ∈ ml, ∃ ms', InfoAt w news m (names m) ms') (hmr : ∀ m ∈ mr, ∃ ms', InfoAt w news m (names m) ms') (hanti : xl ≠ xr → ((ml.any fun m => names m == nr) && (mr.any fun m => names m == nl)) = false) :
    Ctr w 35 350 (.ref 567) [.ref l, .ref r] [] news (fun v tl => v = .bool (decide (xl = xr)) ∧ tl = []) := by
  unfold Ctr
  k_fill
  intro p loose mean mg mb dp un gd cn cs a ccd cl outer A₀ base h₀ L m s Q E B F X N T hk hd hu hret
  by_cases hx : xl = xr
  · subst hx
    obtain ⟨dl, tl1, tl2, tupl, l1, l2, l3⟩ := hl
    obtain ⟨dr, tr1, tr2, tupr, r1, r2, r3⟩ := hr
    k_steps
    refine Stop.mk ?_
    refine' SrcZ.tt news ?a ?F ?N ?z ?T ?i ?t ?lt ?iz ?sub ?_
    case a => exact rfl
    case F => k_asm
    case N => k_asm
    case z => k_mem
    case T => k_mem
    case i => k_mem
    case t => k_mem
    case lt => tbn_lt
    case iz => omega
    case sub => ktr_rel
    intro D h1 tk1 F1 N1 lD
    k_steps
    refine hret _ [] _ _ (by k_asm) (newsSub (by k_asm) (by ktr_rel)) (fun _ _ _ h => nomatch h) ⟨by simp, rfl⟩
  · have hne : xl ≠ xr := hx
    clear hx
    obtain ⟨dxl, ixl⟩ := hxl.inst
    obtain ⟨dxr, ixr⟩ := hxr.inst
    have hl0 := hl
    have hr0 := hr
    obtain ⟨dl, tl1, tl2, tupl, l1, l2, l3⟩ := hl
    obtain ⟨dr, tr1, tr2, tupr, r1, r2, r3⟩ := hr
    k_steps
    refine Stop.mk ?_
    ktr_call 0 (psub_ctr (hl0.mono (by ktr_rel)) (hr0.mono (by ktr_rel)) (hxl.mono (by ktr_rel)) (hxr.mono (by ktr_rel)) names (fun m hm => (hml m hm).imp fun _ h => h.mono (by ktr_rel)) hne)
    rintro r9 tl9 h9 tk9 F9 N9 hl9 ⟨rfl, rfl⟩
    simp only [List.nil_append] at N9
    k_steps
    · refine Stop.mk ?_
      ktr_call 0 (psub_ctr (hr0.mono (by ktr_rel)) (hl0.mono (by ktr_rel)) (hxr.mono (by ktr_rel)) (hxl.mono (by ktr_rel)) names (fun m hm => (hmr m hm).imp fun _ h => h.mono (by ktr_rel)) hne.symm)
      rintro r9 tl9 h9 tk9 F9 N9 hl9 ⟨rfl, rfl⟩
      simp only [List.nil_append] at N9
      k_steps
      refine hret _ [] _ _ (by k_asm) (newsSub (by k_asm) (by ktr_rel)) (fun _ _ _ h => nomatch h) ⟨?_, rfl⟩
      have hA := hanti hne
      simp_all
    · refine hret _ [] _ _ (by k_asm) (newsSub (by k_asm) (by ktr_rel)) (fun _ _ _ h => nomatch h) ⟨?_, rfl⟩
      simp_all
end Mine
end
section
open PySem PySem.W PySem.Spec PySem.Calls PyProof.Rows
namespace Mine
theorem fresh_C6 : True := by
  w_top off
  trivial
local macro_rules | `(tactic| k_mem) => `(tactic| first | exact List.mem_cons_self | (refine List.mem_cons_of_mem _ ?_; k_mem))
local macro_rules | `(tactic| k_steps) => `(tactic| repeat' (first | (k_unfold; (try dsimp only)) | (k_end; wrow_close) | walk1 | (dsimp only; walk1) | (dsimp only; k_unfold; (try dsimp only)) | (leave1; walk_say "STEP leave1"; try dsimp only) | fail "no step"))
local macro_rules | `(tactic| walk_at "Hold") => `(tactic| refine stop ?_)
local macro_rules | `(tactic| walk_at "PostL0") => `(tactic| (unfold PostL0; try dsimp only))
local macro_rules | `(tactic| walk_at "EndL0") => `(tactic| refine stop ?_)
local macro_rules | `(tactic| walk_at "PostL") => `(tactic| (unfold PostL; try dsimp only))
local macro_rules | `(tactic| walk_at "EndL") => `(tactic| refine stop ?_)
local macro_rules | `(tactic| walk_at "PostM") => `(tactic| (unfold PostM; try dsimp only))
local macro_rules | `(tactic| walk_at "EndM") => `(tactic| refine stop ?_)
local macro_rules | `(tactic| walk_at "PostT") => `(tactic| (unfold PostT; try dsimp only))
local macro_rules | `(tactic| walk_at "EndT") => `(tactic| refine stop ?_)
local macro_rules | `(tactic| walk_at "pyIter ref") => `(tactic| refine stop ?_)
local macro_rules | `(tactic| ktr_call $_x:term $c:term) => `(tactic| (refine' Ctr.use ?k1 ?k2 ?k3 ?k4 ?k5 ?kK ?kC ?kd ?ku ?_; (case k1 => k_asm); (case k2 => k_asm); (case k3 => k_asm); (case k4 => k_asm); (case k5 => k_asm); (case kK => first | exact rfl | assumption); (case kC => exact $c); (case kd => ktr_room); (case ku => ktr_units)))
local macro_rules | `(tactic| k_room) => `(tactic| ktr_room)
local macro_rules | `(tactic| k_units) => `(tactic| ktr_units)
local macro_rules | `(tactic| k_enter) => `(tactic| first
  | (refine' code_def ?k1 ?k2 ?k3 ?k4 ?k5 ?kA ?kF ?kK ?k6 ?k7 ?k8 ?k9 ?kB ?_ ?c2 ?c3 ?c4 ?c5; (case k2 => k_asm); (case k3 => k_asm); (case k6 => k_is); (case k1 => k_asm); (case k4 => k_asm); (case k5 => k_asm); (case kA => exact rfl); (case kF => exact rfl); (case kK => first | exact rfl | assumption); (case k7 => k_is); (case k8 => ktr_room); (case k9 => first | exact BindsTo.of_eq rfl | exact binds_K (by k_in) rfl (by k_is) rfl rfl rfl | fail "k_enter: no rule for these arguments"); (case c5 => decide); (case kB => exact locs rfl); (case c2 => exact rfl); (case c3 => exact rfl); (case c4 => exact rfl); k_whole; intro g' L' h' FG' F' N' B' X' T'; (try dsimp only); (try k_lift B'); (try k_fold))
  | (refine' code_defC ?k1 ?k2 ?k3 ?k4 ?k5 ?kA ?kF ?kK ?k6 ?k7 ?k8 ?k9 ?kB ?kD ?_ ?c2 ?c3 ?c4; (case k2 => k_asm); (case k3 => k_asm); (case k6 => k_is); (case k1 => k_asm); (case k4 => k_asm); (case k5 => k_asm); (case kA => exact rfl); (case kF => exact rfl); (case kK => first | exact rfl | assumption); (case k7 => k_is); (case k8 => ktr_room); (case k9 => first | exact BindsTo.of_eq rfl | exact binds_K (by k_in) rfl (by k_is) rfl rfl rfl | fail "k_enter: no rule for these arguments"); (case kB => exact rfl); (case kD => decide +kernel); (case c2 => exact rfl); (case c3 => exact rfl); (case c4 => exact rfl); k_whole; intro g' L' h' tk' cells' FG' F' N' Y' B' X' T' l1; (try k_lt l1); k_cells Y'; (try simp only [List.cons_append, List.nil_append] at N'); (try dsimp only); (try k_lift B'); (try k_fold)))
local macro_rules | `(tactic| walk_at "truthy ref") => `(tactic| (k_here; (with_reducible show wpAny _ _ (truthy (Value.ref _)) _ _ _); (refine' kgr_truthy ?N ?m ?c ?d ?f ?_; (case N => k_asm); (case m => k_mem); (case c => rfl); (case d => rfl); (case f => first | omega | ((try simp only [List.length_map, List.length_cons, List.length_nil]); omega))); (try simp only [List.isEmpty_cons, List.isEmpty_nil, Bool.not_false, Bool.not_true])))
local macro_rules | `(tactic| ktr_rel) => `(tactic| (intro p hp; (try simp only [List.nil_append, List.cons_append, List.mem_cons, List.mem_append] at hp ⊢); first | exact hp | (simp [hp]; done) | (rcases hp with hp | hp <;> simp [hp])))
local macro_rules | `(tactic| walk_at "eval Name") => `(tactic| (k_here; k_dflt (refine' nameX_B ?F ?X ?T ?e ?v ?n ?_ ?a ?b; (case a => rfl); (case b => rfl); (case F => k_asm); (case X => k_asm); (case T => k_asm); (case e => k_is); (case v => boot_fast); (case n => decide); k_whole)))
local macro_rules | `(tactic| walk_at "eval Name") => `(tactic| (k_here; k_dflt (refine' nameX_K ?F ?X ?T ?e ?_ ?a ?b; (case a => rfl); (case b => rfl); (case F => k_asm); (case X => k_asm); (case T => k_asm); (case e => k_is); k_whole)))
local macro_rules | `(tactic| walk_at "eval Name") => `(tactic| (k_here; k_dflt (refine' nameX_L ?F ?v ?_ ?a ?b; (case F => k_asm); (case a => rfl); (case b => rfl); (case v => rfl); k_whole)))
local macro_rules | `(tactic| walk_at "ite") => `(tactic| ((with_reducible show ite (true = true) _ _); refine ite_pos rfl ?_))
local macro_rules | `(tactic| walk_at "ite") => `(tactic| ((with_reducible show ite (false = true) _ _); refine ite_neg Bool.false_ne_true ?_))
local macro_rules | `(tactic| walk_at "call builtin:isinstance") => `(tactic| (k_here; k_dflt (refine' isi_call ?k1 ?k2 ?k3 ?k4 ?_; (case k1 => k_in); (case k2 => k_types); (case k3 => k_is); (case k4 => intro e; cases e); k_whole)))
local macro_rules | `(tactic| walk_at "call ref") => `(tactic| (k_here; k_dflt (refine' call_cls ?k1 ?k2 ?k3 ?k4 ?k5 ?k6 ?_; (case k1 => k_asm); (case k2 => k_asm); (case k4 => k_is); (case k3 => k_asm); (case k5 => k_is); (case k6 => k_is); k_whole; intro x' d' h' F' N' l1 l2; (try k_lt l1); (try k_lt2 l2); (try k_sweep); k_enter)))
local macro_rules | `(tactic| walk_at "call ref") => `(tactic| (k_here; k_dflt (refine wpAny_call ?_; k_enter)))
local macro_rules | `(tactic| walk_at "call builtin:isinstance") => `(tactic| (k_here; (with_reducible show wpAny _ _ (call _ [Value.ref _, Value.ref _]) _ _ _); k_dflt (refine' kin_callC ?k1 ?k2 ?k3 ?k4 ?k5 ?k6 ?k7 ?k8 ?k9 ?_; (case k1 => k_in); (case k2 => k_inst); (case k3 => kin_no); (case k4 => k_is); (case k5 => k_is); (case k6 => k_is); (case k7 => k_is); (case k8 => k_is); (case k9 => k_is); k_whole)))
local macro_rules | `(tactic| walk_at "eval Name") => `(tactic| (k_here; k_dflt (refine' nameX_C ?N ?c ?m ?d ?_ ?a ?b; (case a => rfl); (case b => rfl); (case N => k_asm); (case c => rfl); (case m => k_mem); (case d => k_asm); k_whole)))
local macro_rules | `(tactic| walk_at "call builtin:list.append") => `(tactic| (k_here; (with_reducible show wpAny _ _ (call (Value.builtin _) [Value.ref _, _]) _ _ _); k_dflt (refine' append_K ?k1 ?k2 ?k3 ?_ ?z; (case k1 => k_asm); (case k2 => k_asm); (case k3 => k_upd); (case z => (simp only [List.size_toArray]; rw [sizeLine_eq]; omega)); k_whole); intro h' F' N'; (try k_sweep)))
local macro_rules | `(tactic| walk_at "call ref") => `(tactic| ((with_reducible show wpAny _ _ (call (Value.ref 567) _ _) _ _ _); refine stop ?_))
theorem sameC_ctr {w : World} {news : List (Addr × Obj)} {c1 c2 i1 i2 v1 v2 g1 g2 x1 x2 : Addr} {k1 k2 o1 o2 : Int} {n1 n2 : Str} {ms1 ms2 : List Addr} (h1 : ConAt w news c1 i1 v1 g1 o1) (h2 : ConAt w news c2 i2 v2 g2 o2)
    (hi1 : IdAt w news i1 k1) (hi2 : IdAt w news i2 k2) (hg1 : TyAt w news g1 x1) (hg2 : TyAt w news g2 x2) (hx1 : InfoAt w news x1 n1 ms1) (hx2 : InfoAt w news x2 n2 ms2)
    (names : Addr → Str) (hm1 : ∀ m ∈ ms1, ∃ ms', InfoAt w news m (names m) ms') (hm2 : ∀ m ∈ ms2, ∃ ms', InfoAt w news m (names m) ms') (hanti : x1 ≠ x2 → ((ms1.any fun m => names m == n2) && (ms2.any fun m => names m == n1)) = false) :
    Ctr w 40 400 (.ref 691) [.ref c1, .ref c2] [] news (fun v tl => v = .bool (decide (k1 = k2) && (decide (o1 = o2) && decide (x1 = x2))) ∧ tl = []) := by
  unfold Ctr
  k_fill
  intro p loose mean mg mb dp un gd cn cs a ccd cl outer A₀ base h₀ L m s Q E B F X N T hk hd hu hret
  have hg10 := hg1
  have hg20 := hg2
  obtain ⟨dc1, s1, s2, s3, s4, s5, a1, a2⟩ := h1
  obtain ⟨dc2, s1', s2', s3', s4', s5', b1, b2⟩ := h2
  obtain ⟨di1, r1, r2, r3, r4, e1, e2⟩ := hi1
  obtain ⟨di2, r1', r2', r3', r4', f1, f2⟩ := hi2
  obtain ⟨dl, tl1, tl2, tupl, l1, l2, l3⟩ := hg1
  obtain ⟨dr, tr1, tr2, tupr, q1, q2, q3⟩ := hg2
  k_steps
  all_goals first
    | (refine Stop.mk ?_
       ktr_call 0 (same_ctr (hg10.mono (by ktr_rel)) (hg20.mono (by ktr_rel)) (hx1.mono (by ktr_rel)) (hx2.mono (by ktr_rel)) names (fun m hm => (hm1 m hm).imp fun _ h => h.mono (by ktr_rel)) (fun m hm => (hm2 m hm).imp fun _ h => h.mono (by ktr_rel)) hanti)
       rintro r9 tl9 h9 tk9 F9 N9 hl9 ⟨rfl, rfl⟩
       simp only [List.nil_append] at N9
       k_steps
       refine hret _ [] _ _ (by k_asm) (newsSub (by k_asm) (by ktr_rel)) (fun _ _ _ h => nomatch h) ⟨?_, rfl⟩
       simp_all)
    | (refine hret _ [] _ _ (by k_asm) (newsSub (by k_asm) (by ktr_rel)) (fun _ _ _ h => nomatch h) ⟨?_, rfl⟩
       simp_all)
end Mine
end
section
open PySem PySem.W PySem.Spec PySem.Calls PyProof.Rows
set_option linter.unusedSimpArgs false
namespace Mine
theorem fresh_D1 : True := by
  w_top off
  trivial
/-- a constraint's data: the variable (T, S), the sign, the class (A, B, C) -/
abbrev Con := Bool × Bool × _root_.Fin 3
structure WA where
  (root xA xB xC top iA iB iC vT vS idT idS : Addr)
def WA.var (a : WA) (v : Bool) : Addr := if v = true then a.vS else a.vT
def WA.idv (a : WA) (v : Bool) : Addr := if v = true then a.idS else a.idT
def WA.ub (a : WA) (v : Bool) : Addr := if v = true then a.iA else a.top
def WA.cls (a : WA) (k : _root_.Fin 3) : Addr := match k with | 0 => a.xA | 1 => a.xB | 2 => a.xC
def WA.ins (a : WA) (k : _root_.Fin 3) : Addr := match k with | 0 => a.iA | 1 => a.iB | 2 => a.iC
def WA.mro (a : WA) (k : _root_.Fin 3) : List Addr := match k with | 0 => [a.xA, a.root] | 1 => [a.xB, a.xA, a.root] | 2 => [a.xC, a.root]
def clsName (k : _root_.Fin 3) : Str := match k with | 0 => Str.ofString "m.A" | 1 => Str.ofString "m.B" | 2 => Str.ofString "m.C"
def varName (v : Bool) : Str := if v = true then Str.ofString "S" else Str.ofString "T"
def opInt (o : Bool) : Int := if o = true then 1 else 0
def idInt (v : Bool) : Int := if v = true then 2 else 1
def WA.names (a : WA) (x : Addr) : Str := if x = a.root then Str.ofString "builtins.object" else if x = a.xA then Str.ofString "m.A" else if x = a.xB then Str.ofString "m.B" else Str.ofString "m.C"
structure WorldAt (w : World) (news : List (Addr × Obj)) (a : WA) : Prop where
  root : InfoAt w news a.root (Str.ofString "builtins.object") [a.root]
  cls : ∀ k, InfoAt w news (a.cls k) (clsName k) (a.mro k)
  top : TyAt w news a.top a.root
  ins : ∀ k, TyAt w news (a.ins k) (a.cls k)
  var : ∀ v, VarAt w news (a.var v) (varName v) (a.idv v) (a.ub v)
  id : ∀ v, IdAt w news (a.idv v) (idInt v)
  nA : a.xA ≠ a.root
  nB : a.xB ≠ a.root
  nC : a.xC ≠ a.root
  nAB : a.xA ≠ a.xB
  nAC : a.xA ≠ a.xC
  nBC : a.xB ≠ a.xC
def ConRel (w : World) (news : List (Addr × Obj)) (a : WA) (x : Addr) (c : Con) : Prop := ConAt w news x (a.idv c.1) (a.var c.1) (a.ins c.2.2) (opInt c.2.1)
section
variable {w : World} {news news' : List (Addr × Obj)} {a : WA}
theorem WorldAt.mono (W : WorldAt w news a) (s : ∀ p ∈ news, p ∈ news') : WorldAt w news' a :=
  { root := W.root.mono s, cls := fun k => (W.cls k).mono s, top := W.top.mono s, ins := fun k => (W.ins k).mono s, var := fun v => (W.var v).mono s, id := fun v => (W.id v).mono s,
    nA := W.nA, nB := W.nB, nC := W.nC, nAB := W.nAB, nAC := W.nAC, nBC := W.nBC }
theorem ConRel.mono {x : Addr} {c : Con} (h : ConRel w news a x c) (s : ∀ p ∈ news, p ∈ news') : ConRel w news' a x c := ConAt.mono s h
theorem WorldAt.nmRoot (_W : WorldAt w news a) : a.names a.root = Str.ofString "builtins.object" := by simp [WA.names]
theorem WorldAt.nmCls (W : WorldAt w news a) (k : _root_.Fin 3) : a.names (a.cls k) = clsName k := by
  have h1 := W.nA; have h2 := W.nB; have h3 := W.nC; have h4 := W.nAB; have h5 := W.nAC; have h6 := W.nBC
  match k with
  | 0 => simp [WA.names, WA.cls, clsName, h1]
  | 1 => simp [WA.names, WA.cls, clsName, h2, h4.symm]
  | 2 => simp [WA.names, WA.cls, clsName, h3, h5.symm, h6.symm]
theorem WorldAt.mroInfo (W : WorldAt w news a) (k : _root_.Fin 3) : ∀ m ∈ a.mro k, ∃ ms', InfoAt w news m (a.names m) ms' := by
  have r : ∃ ms', InfoAt w news a.root (a.names a.root) ms' := ⟨_, by rw [W.nmRoot]; exact W.root⟩
  have c : ∀ k, ∃ ms', InfoAt w news (a.cls k) (a.names (a.cls k)) ms' := fun k => ⟨_, by rw [W.nmCls k]; exact W.cls k⟩
  have c0 := c 0
  have c1 := c 1
  have c2 := c 2
  intro m hm
  match k with
  | 0 => simp only [WA.mro, List.mem_cons, List.not_mem_nil, or_false] at hm; exact hm.elim (fun e => e ▸ c0) fun e => e ▸ r
  | 1 => simp only [WA.mro, List.mem_cons, List.not_mem_nil, or_false] at hm; exact hm.elim (fun e => e ▸ c1) fun e => e.elim (fun e => e ▸ c0) fun e => e ▸ r
  | 2 => simp only [WA.mro, List.mem_cons, List.not_mem_nil, or_false] at hm; exact hm.elim (fun e => e ▸ c2) fun e => e ▸ r
theorem ofStr_ne {x y : String} (h : (Str.ofString x == Str.ofString y) = false) : Str.ofString x ≠ Str.ofString y := fun e => by rw [e] at h; simp at h
theorem WorldAt.nm0 (W : WorldAt w news a) : a.names a.xA = Str.ofString "m.A" := W.nmCls 0
theorem WorldAt.nm1 (W : WorldAt w news a) : a.names a.xB = Str.ofString "m.B" := W.nmCls 1
theorem WorldAt.nm2 (W : WorldAt w news a) : a.names a.xC = Str.ofString "m.C" := W.nmCls 2
theorem WorldAt.anti (W : WorldAt w news a) (j k : _root_.Fin 3) : a.cls j ≠ a.cls k → (((a.mro j).any fun m => a.names m == clsName k) && ((a.mro k).any fun m => a.names m == clsName j)) = false := by
  intro hne
  have e1 : (Str.ofString "m.A" == Str.ofString "m.B") = false := by decide
  have e2 : (Str.ofString "m.A" == Str.ofString "m.C") = false := by decide
  have e3 : (Str.ofString "m.B" == Str.ofString "m.C") = false := by decide
  have e4 : (Str.ofString "m.B" == Str.ofString "m.A") = false := by decide
  have e5 : (Str.ofString "m.C" == Str.ofString "m.A") = false := by decide
  have e6 : (Str.ofString "m.C" == Str.ofString "m.B") = false := by decide
  have e7 : (Str.ofString "builtins.object" == Str.ofString "m.A") = false := by decide
  have e8 : (Str.ofString "builtins.object" == Str.ofString "m.B") = false := by decide
  have e9 : (Str.ofString "builtins.object" == Str.ofString "m.C") = false := by decide
  match j, k with
  | 0, 0 | 1, 1 | 2, 2 => exact absurd rfl hne
  | 0, 1 | 0, 2 | 1, 0 | 1, 2 | 2, 0 | 2, 1 => simp only [WA.mro, List.any_cons, List.any_nil, W.nm0, W.nm1, W.nm2, W.nmRoot, clsName, e1, e2, e3, e4, e5, e6, e7, e8, e9, Bool.or_false, Bool.or_true, Bool.true_or, Bool.false_or, Bool.and_false, Bool.false_and]
theorem WorldAt.clsInj (W : WorldAt w news a) (j k : _root_.Fin 3) : a.cls j = a.cls k ↔ j = k := by
  have h4 := W.nAB; have h5 := W.nAC; have h6 := W.nBC
  match j, k with
  | 0, 0 | 1, 1 | 2, 2 => simp
  | 0, 1 => simp [WA.cls, h4]
  | 0, 2 => simp [WA.cls, h5]
  | 1, 0 => simp [WA.cls, h4.symm]
  | 1, 2 => simp [WA.cls, h6]
  | 2, 0 => simp [WA.cls, h5.symm]
  | 2, 1 => simp [WA.cls, h6.symm]

theorem sameW_ctr {x y : Addr} {c d : Con} (W : WorldAt w news a) (h1 : ConRel w news a x c) (h2 : ConRel w news a y d) :
    Ctr w 40 400 (.ref 691) [.ref x, .ref y] [] news (fun v tl => v = .bool (decide (c = d)) ∧ tl = []) := by
  have e : (decide (idInt c.1 = idInt d.1) && (decide (opInt c.2.1 = opInt d.2.1) && decide (a.cls c.2.2 = a.cls d.2.2))) = decide (c = d) := by
    obtain ⟨v, o, k⟩ := c
    obtain ⟨v', o', k'⟩ := d
    have := W.clsInj k k'
    cases v <;> cases v' <;> cases o <;> cases o' <;> simp [idInt, opInt, this]
  rw [← e]
  exact sameC_ctr h1 h2 (W.id _) (W.id _) (W.ins _) (W.ins _) (W.cls _) (W.cls _) a.names (W.mroInfo _) (W.mroInfo _) (W.anti _ _)

/-- the type lies within the variable's bound -/
def okC (c : Con) : Bool := !c.1 || c.2.2 != 2
theorem subW_ctr (W : WorldAt w news a) (c : Con) : Ctr w 30 300 (.ref 548) [.ref (a.ins c.2.2), .ref (a.ub c.1)] [] news (fun v tl => v = .bool (okC c) ∧ tl = []) := by
  obtain ⟨v, o, k⟩ := c
  have e2 : (Str.ofString "m.C" == Str.ofString "m.A") = false := by decide
  have e7 : (Str.ofString "builtins.object" == Str.ofString "m.A") = false := by decide
  have r0 : (Str.ofString "builtins.object" == Str.ofString "builtins.object") = true := by decide
  have a0 : (Str.ofString "m.A" == Str.ofString "m.A") = true := by decide
  cases v with
  | false =>
    have h := sub_ctr (W.ins k) W.top (W.cls k) W.root a.names (W.mroInfo k)
    have e : (decide (a.cls k = a.root) || (a.mro k).any fun m => a.names m == Str.ofString "builtins.object") = okC (false, o, k) := by
      match k with
      | 0 | 1 | 2 => simp only [WA.mro, List.any_cons, List.any_nil, W.nmRoot, r0, okC, Bool.or_true, Bool.true_or, Bool.not_false]
    rw [e] at h
    exact h
  | true =>
    have h := sub_ctr (W.ins k) (W.ins 0) (W.cls k) (W.cls 0) a.names (W.mroInfo k)
    have e : (decide (a.cls k = a.cls 0) || (a.mro k).any fun m => a.names m == clsName 0) = okC (true, o, k) := by
      match k with
      | 0 => simp [okC]
      | 1 => simp only [WA.mro, List.any_cons, List.any_nil, W.nm0, clsName, a0, okC, Bool.or_true, Bool.true_or, Bool.not_true, Bool.false_or]; rfl
      | 2 =>
        have : a.cls 2 ≠ a.cls 0 := W.nAC.symm
        simp only [WA.mro, List.any_cons, List.any_nil, W.nm2, W.nmRoot, clsName, e2, e7, okC, Bool.or_false, Bool.not_true, Bool.false_or, decide_eq_false this]; rfl
    rw [e] at h
    exact h
end

/-- constraints with their addresses; a way; what is written of them -/
abbrev PC := Addr × Con
abbrev WayV := Option (Addr × List PC)
def pcVals (ps : List PC) : List Value := ps.map fun p => Value.ref p.1
def ConsAt (w : World) (news : List (Addr × Obj)) (a : WA) (l : Addr) (ps : List PC) : Prop := (∃ n, (l, PySem.W.listOf (pcVals ps).toArray n) ∈ news) ∧ ∀ p ∈ ps, ConRel w news a p.1 p.2
theorem ConsAt.mono {w : World} {news news' : List (Addr × Obj)} {a : WA} {l : Addr} {ps : List PC} (h : ConsAt w news a l ps) (s : ∀ p ∈ news, p ∈ news') : ConsAt w news' a l ps :=
  ⟨h.1.imp fun _ m => s _ m, fun p hp => (h.2 p hp).mono s⟩
def wayVal : WayV → Value
  | none => .none
  | some x => .ref x.1
def WayIn (w : World) (news : List (Addr × Obj)) (a : WA) : WayV → Prop
  | none => True
  | some x => ConsAt w news a x.1 x.2
theorem WayIn.mono {w : World} {news news' : List (Addr × Obj)} {a : WA} {v : WayV} (h : WayIn w news a v) (s : ∀ p ∈ news, p ∈ news') : WayIn w news' a v := by
  cases v with
  | none => trivial
  | some x => exact ConsAt.mono h s
def WaysAt (w : World) (news : List (Addr × Obj)) (a : WA) (l : Addr) (ws : List WayV) : Prop := (∃ n, (l, PySem.W.listOf (ws.map wayVal).toArray n) ∈ news) ∧ ∀ v ∈ ws, WayIn w news a v
theorem WaysAt.mono {w : World} {news news' : List (Addr × Obj)} {a : WA} {l : Addr} {ws : List WayV} (h : WaysAt w news a l ws) (s : ∀ p ∈ news, p ∈ news') : WaysAt w news' a l ws :=
  ⟨h.1.imp fun _ m => s _ m, fun v hv => (h.2 v hv).mono s⟩
end Mine
end
section
open PySem PySem.W PySem.Spec PySem.Calls PyProof.Rows
namespace Mine
theorem fresh_C7 : True := by
  w_top off
  trivial
local macro_rules | `(tactic| k_mem) => `(tactic| first | exact List.mem_cons_self | (refine List.mem_cons_of_mem _ ?_; k_mem))
local macro_rules | `(tactic| k_steps) => `(tactic| repeat' (first | (k_unfold; (try dsimp only)) | (k_end; wrow_close) | walk1 | (dsimp only; walk1) | (dsimp only; k_unfold; (try dsimp only)) | (leave1; walk_say "STEP leave1"; try dsimp only) | fail "no step"))
local macro_rules | `(tactic| walk_at "Hold") => `(tactic| refine stop ?_)
local macro_rules | `(tactic| walk_at "PostL0") => `(tactic| (unfold PostL0; try dsimp only))
local macro_rules | `(tactic| walk_at "EndL0") => `(tactic| refine stop ?_)
local macro_rules | `(tactic| walk_at "PostL") => `(tactic| (unfold PostL; try dsimp only))
local macro_rules | `(tactic| walk_at "EndL") => `(tactic| refine stop ?_)
local macro_rules | `(tactic| walk_at "PostM") => `(tactic| (unfold PostM; try dsimp only))
local macro_rules | `(tactic| walk_at "EndM") => `(tactic| refine stop ?_)
local macro_rules | `(tactic| walk_at "PostT") => `(tactic| (unfold PostT; try dsimp only))
local macro_rules | `(tactic| walk_at "EndT") => `(tactic| refine stop ?_)
local macro_rules | `(tactic| walk_at "pyIter ref") => `(tactic| refine stop ?_)
local macro_rules | `(tactic| ktr_call $_x:term $c:term) => `(tactic| (refine' Ctr.use ?k1 ?k2 ?k3 ?k4 ?k5 ?kK ?kC ?kd ?ku ?_; (case k1 => k_asm); (case k2 => k_asm); (case k3 => k_asm); (case k4 => k_asm); (case k5 => k_asm); (case kK => first | exact rfl | assumption); (case kC => exact $c); (case kd => ktr_room); (case ku => ktr_units)))
local macro_rules | `(tactic| k_room) => `(tactic| ktr_room)
local macro_rules | `(tactic| k_units) => `(tactic| ktr_units)
local macro_rules | `(tactic| k_enter) => `(tactic| first
  | (refine' code_def ?k1 ?k2 ?k3 ?k4 ?k5 ?kA ?kF ?kK ?k6 ?k7 ?k8 ?k9 ?kB ?_ ?c2 ?c3 ?c4 ?c5; (case k2 => k_asm); (case k3 => k_asm); (case k6 => k_is); (case k1 => k_asm); (case k4 => k_asm); (case k5 => k_asm); (case kA => exact rfl); (case kF => exact rfl); (case kK => first | exact rfl | assumption); (case k7 => k_is); (case k8 => ktr_room); (case k9 => first | exact BindsTo.of_eq rfl | exact binds_K (by k_in) rfl (by k_is) rfl rfl rfl | fail "k_enter: no rule for these arguments"); (case c5 => decide); (case kB => exact locs rfl); (case c2 => exact rfl); (case c3 => exact rfl); (case c4 => exact rfl); k_whole; intro g' L' h' FG' F' N' B' X' T'; (try dsimp only); (try k_lift B'); (try k_fold))
  | (refine' code_defC ?k1 ?k2 ?k3 ?k4 ?k5 ?kA ?kF ?kK ?k6 ?k7 ?k8 ?k9 ?kB ?kD ?_ ?c2 ?c3 ?c4; (case k2 => k_asm); (case k3 => k_asm); (case k6 => k_is); (case k1 => k_asm); (case k4 => k_asm); (case k5 => k_asm); (case kA => exact rfl); (case kF => exact rfl); (case kK => first | exact rfl | assumption); (case k7 => k_is); (case k8 => ktr_room); (case k9 => first | exact BindsTo.of_eq rfl | exact binds_K (by k_in) rfl (by k_is) rfl rfl rfl | fail "k_enter: no rule for these arguments"); (case kB => exact rfl); (case kD => decide +kernel); (case c2 => exact rfl); (case c3 => exact rfl); (case c4 => exact rfl); k_whole; intro g' L' h' tk' cells' FG' F' N' Y' B' X' T' l1; (try k_lt l1); k_cells Y'; (try simp only [List.cons_append, List.nil_append] at N'); (try dsimp only); (try k_lift B'); (try k_fold)))
local macro_rules | `(tactic| walk_at "truthy ref") => `(tactic| (k_here; (with_reducible show wpAny _ _ (truthy (Value.ref _)) _ _ _); (refine' kgr_truthy ?N ?m ?c ?d ?f ?_; (case N => k_asm); (case m => k_mem); (case c => rfl); (case d => rfl); (case f => first | omega | ((try simp only [List.length_map, List.length_cons, List.length_nil]); omega))); (try simp only [List.isEmpty_cons, List.isEmpty_nil, Bool.not_false, Bool.not_true])))
local macro_rules | `(tactic| ktr_rel) => `(tactic| (intro p hp; (try simp only [List.nil_append, List.cons_append, List.mem_cons, List.mem_append] at hp ⊢); first | exact hp | (simp [hp]; done) | (rcases hp with hp | hp <;> simp [hp])))
local macro_rules | `(tactic| walk_at "eval Name") => `(tactic| (k_here; k_dflt (refine' nameX_B ?F ?X ?T ?e ?v ?n ?_ ?a ?b; (case a => rfl); (case b => rfl); (case F => k_asm); (case X => k_asm); (case T => k_asm); (case e => k_is); (case v => boot_fast); (case n => decide); k_whole)))
local macro_rules | `(tactic| walk_at "eval Name") => `(tactic| (k_here; k_dflt (refine' nameX_K ?F ?X ?T ?e ?_ ?a ?b; (case a => rfl); (case b => rfl); (case F => k_asm); (case X => k_asm); (case T => k_asm); (case e => k_is); k_whole)))
local macro_rules | `(tactic| walk_at "eval Name") => `(tactic| (k_here; k_dflt (refine' nameX_L ?F ?v ?_ ?a ?b; (case F => k_asm); (case a => rfl); (case b => rfl); (case v => rfl); k_whole)))
local macro_rules | `(tactic| walk_at "ite") => `(tactic| ((with_reducible show ite (true = true) _ _); refine ite_pos rfl ?_))
local macro_rules | `(tactic| walk_at "ite") => `(tactic| ((with_reducible show ite (false = true) _ _); refine ite_neg Bool.false_ne_true ?_))
local macro_rules | `(tactic| walk_at "call builtin:isinstance") => `(tactic| (k_here; k_dflt (refine' isi_call ?k1 ?k2 ?k3 ?k4 ?_; (case k1 => k_in); (case k2 => k_types); (case k3 => k_is); (case k4 => intro e; cases e); k_whole)))
local macro_rules | `(tactic| walk_at "call ref") => `(tactic| (k_here; k_dflt (refine' call_cls ?k1 ?k2 ?k3 ?k4 ?k5 ?k6 ?_; (case k1 => k_asm); (case k2 => k_asm); (case k4 => k_is); (case k3 => k_asm); (case k5 => k_is); (case k6 => k_is); k_whole; intro x' d' h' F' N' l1 l2; (try k_lt l1); (try k_lt2 l2); (try k_sweep); k_enter)))
local macro_rules | `(tactic| walk_at "call ref") => `(tactic| (k_here; k_dflt (refine wpAny_call ?_; k_enter)))
local macro_rules | `(tactic| walk_at "call builtin:isinstance") => `(tactic| (k_here; (with_reducible show wpAny _ _ (call _ [Value.ref _, Value.ref _]) _ _ _); k_dflt (refine' kin_callC ?k1 ?k2 ?k3 ?k4 ?k5 ?k6 ?k7 ?k8 ?k9 ?_; (case k1 => k_in); (case k2 => k_inst); (case k3 => kin_no); (case k4 => k_is); (case k5 => k_is); (case k6 => k_is); (case k7 => k_is); (case k8 => k_is); (case k9 => k_is); k_whole)))
local macro_rules | `(tactic| walk_at "eval Name") => `(tactic| (k_here; k_dflt (refine' nameX_C ?N ?c ?m ?d ?_ ?a ?b; (case a => rfl); (case b => rfl); (case N => k_asm); (case c => rfl); (case m => k_mem); (case d => k_asm); k_whole)))
local macro_rules | `(tactic| walk_at "call builtin:list.append") => `(tactic| (k_here; (with_reducible show wpAny _ _ (call (Value.builtin _) [Value.ref _, _]) _ _ _); k_dflt (refine' append_K ?k1 ?k2 ?k3 ?_ ?z; (case k1 => k_asm); (case k2 => k_asm); (case k3 => k_upd); (case z => (simp only [List.size_toArray]; rw [sizeLine_eq]; omega)); k_whole); intro h' F' N'; (try k_sweep)))
local macro_rules | `(tactic| walk_at "eval ListComp") => `(tactic| (k_here; (with_reducible show wpAny _ _ (eval (Expr.ListComp _ [⟨Expr.Name _ _, _, [], _⟩] _ _) _) _ _ _); k_dflt (refine LCg.ListComp_U (F₀ := by k_asm) (by with_unfolding_all rfl) (by decide) (by rfl) (by decide) (by rfl) ?_)))
local macro_rules | `(tactic| walk_at "eval ListComp") => `(tactic| (k_here; (with_reducible show wpAny _ _ (eval (Expr.ListComp _ [⟨Expr.Name _ _, _, [_], _⟩] _ _) _) _ _ _); k_dflt (refine LCt.ListComp_T (F₀ := by k_asm) (by with_unfolding_all rfl) (by decide) (by rfl) (by decide) (by rfl) ?_)))
local macro_rules | `(tactic| walk_at "CompSrc") => `(tactic| refine stop ?_)
local macro_rules | `(tactic| walk_at "CompSrcT") => `(tactic| refine stop ?_)
local macro_rules | `(tactic| walk_at "CompEnd") => `(tactic| refine stop ?_)
local macro_rules | `(tactic| lsm_bools) => `(tactic| exact boolsMap _ _)
local macro_rules | `(tactic| lsm_list) => `(tactic| exact News.isList (by k_asm) (by k_mem))
local macro_rules | `(tactic| walk_at "exec For Name Name cons nil") => `(tactic| (k_here; (rename Fr _ _ _ _ => lF'); (with_unfolding_all refine' For_turns lF' ?_; k_whole)))
local macro_rules | `(tactic| walk_at "call builtin:len") => `(tactic| (k_here; (with_reducible show wpAny _ _ (call (Value.builtin "len") [Value.ref _]) _ _ _); (refine' lenLed ?N ?m ?f ?_; (case N => k_asm); (case m => k_mem); (case f => first | omega | ((try simp only [List.length_map, List.length_cons, List.length_nil]); omega))); (try simp only [List.length_cons, List.length_nil])))
local macro_rules | `(tactic| walk_at "subscriptTail Name Slice ref ref") => `(tactic| (k_here; (with_reducible show wpAny _ _ (subscriptTail _ (PySem.Expr.Slice _ _ none _) (Value.ref _) (Value.ref _)) _ _ _); k_dflt (refine' kmk_slice_lit ?F ?N ?l ?p ?q ?e ?_ ?s ?t ?z; (case F => k_asm); (case N => k_asm); (case l => exact News.isList (by k_asm) (by k_mem)); (case p => kmk_part); (case q => kmk_part); (case e => exact slice1 _ _); (case s => with_unfolding_all rfl); (case t => kmk_pure); (case z => (simp only [List.size_toArray, List.length_cons]; rw [sizeLine_eq]; omega))); intro D' h' F' N' l1; (try k_lt l1); (try k_sweep)))
local macro_rules | `(tactic| walk_at "call ref") => `(tactic| ((with_reducible show wpAny _ _ (call (Value.ref 691) _ _) _ _ _); refine stop ?_))
def subC (ps qs : List PC) : Bool := ps.all fun p => qs.any fun q => decide (p.2 = q.2)
theorem sameCs_ctr {w : World} {news : List (Addr × Obj)} {a : WA} {x y : Addr} {ps qs : List PC} (W : WorldAt w news a) (hx : ConsAt w news a x ps) (hy : ConsAt w news a y qs) (hlp : ps.length ≤ 1000) (hlq : qs.length ≤ 1000) :
    Ctr w 50 500 (.ref 684) [.ref x, .ref y] [] news (fun v tl => v = .bool (subC ps qs && subC qs ps) ∧ tl = []) := by
  unfold Ctr
  k_fill
  intro p loose mean mg mb dp un gd cn cs ad ccd cl outer A₀ base h₀ L m s Q E B F X N T hk hd hu hret
  obtain ⟨⟨nx, hx1⟩, hx2⟩ := hx
  obtain ⟨⟨ny, hy1⟩, hy2⟩ := hy
  k_steps
  rename_i g1 L1 h1 tk1 FG lF B1 X1 T1 l1 o1 d1 N1
  have lC : ∀ p ∈ news, p.1 < L1 + 1 := fun p hp => Nat.lt_succ_of_lt (l1 p hp)
  refine Stop.mk ?_
  refine iterT0 (fun i n₁ => (∃ oc v, n₁ = (L1 + 1, oc) :: news ∧ oc.data = .cell v) ∧ ∀ p ∈ ps.take i, (qs.any fun q => decide (p.2 = q.2)) = true) rfl (by k_asm) (by k_asm) ⟨⟨_, _, rfl, d1⟩, by simp⟩ (by rintro i n₁ ⟨⟨oc, v, rfl, hd⟩, _⟩; exact .tail _ hx1) ?_ ?_
  · rintro i v n₁ I oI h2 tk2 hv ⟨⟨oc, v0, rfl, hoc⟩, hprev⟩ hoff F2 N2
    simp only [pcVals, List.getElem?_map, Option.map_eq_some_iff] at hv
    obtain ⟨pc, hpc, rfl⟩ := hv
    have hpm := List.mem_of_getElem? hpc
    have hI1 : @Ne Nat I (L1 + 1) := fun e => hoff _ (.head _) e.symm
    (try dsimp only)
    (try k_fold)
    k_steps
    rename_i h3 o3 F3 N3 d3
    refine Stop.mk ?_
    refine srcLed (vs := pcVals qs) (k := ny) (fun i ys n₁ => n₁ = (I, oI) :: (L1 + 1, o3) :: news ∧ ys = (qs.take i).map fun q => Value.bool (decide (pc.2 = q.2))) rfl (by k_asm) (by k_asm) (.tail _ (.tail _ hy1)) ?_ ⟨rfl, by simp⟩ ?_ ?_
    · simp only [pcVals, List.length_map, sizeLine_eq]; omega
    · rintro i v ys n₁ I5 oI5 C5 oC5 D5 m5 g5 tk5 E5 hv ⟨rfl, rfl⟩ hC5 hx5 F5 N5 off5 ne5
      simp only [pcVals, List.getElem?_map, Option.map_eq_some_iff] at hv
      obtain ⟨qc, hqc, rfl⟩ := hv
      have hqm := List.mem_of_getElem? hqc
      (try dsimp only)
      (try k_fold)
      k_steps
      refine Stop.mk ?_
      ktr_call 0 (sameW_ctr (W.mono (by ktr_rel)) ((hx2 _ hpm).mono (by ktr_rel)) ((hy2 _ hqm).mono (by ktr_rel)))
      rintro r9 tl9 h9 tk9 F9 N9 hl9 ⟨rfl, rfl⟩
      simp only [List.nil_append] at N9
      k_steps
      refine Stop.mk ?_
      refine LCg.CompEnd.intro (by k_asm) (by k_asm) _ (fun p hp => hp) off5 (.inr ⟨_, .tail _ (.tail _ hy1), rfl, _, rfl⟩) ⟨rfl, ?_⟩
      rw [List.take_add_one, hqc]; simp
    · rintro g ys n₁ ⟨rfl, rfl⟩
      rw [show (pcVals qs).length = qs.length by simp [pcVals], List.take_length]
      unfold LCg.FinE
      intro D5 h5 tk5 F5 N5 o5
      k_steps
      · refine Stop.mk ?_
        refine EndT.intro (by k_asm) (newsSub (by k_asm) (by ktr_rel)) ?_ ⟨⟨_, _, rfl, d3⟩, ?_⟩
        · intro p hp
          rcases List.mem_cons.mp hp with rfl | hp
          · exact hoff (L1 + 1, oc) (.head _)
          · exact hoff _ (.tail _ hp)
        · intro p hp
          rw [List.take_add_one, hpc] at hp
          rcases List.mem_append.mp hp with h | h
          · exact hprev p h
          · have : p = pc := by simpa using h
            subst this
            assumption
      · refine hret _ [] _ _ (by k_asm) (newsSub (by k_asm) (by ktr_rel)) (fun _ _ _ h => nomatch h) ⟨?_, rfl⟩
        have hf : subC ps qs = false := by
          unfold subC
          rw [List.all_eq_false]
          exact ⟨pc, hpm, by rw [Bool.not_eq_true]; assumption⟩
        rw [hf]; rfl
  · rintro n₁ h6 tk6 ⟨⟨oc, v, rfl, hoc⟩, hall⟩ F6 N6
    have h1 : subC ps qs = true := by
      unfold subC
      rw [List.all_eq_true]
      intro p hp
      exact hall p (by simpa [pcVals] using hp)
    k_steps
    refine Stop.mk ?_
    refine iterT0 (fun i n₁ => (∃ oc v, n₁ = (L1 + 1, oc) :: news ∧ oc.data = .cell v) ∧ ∀ p ∈ qs.take i, (ps.any fun q => decide (p.2 = q.2)) = true) rfl (by k_asm) (by k_asm) ⟨⟨_, _, rfl, hoc⟩, by simp⟩ (by rintro i n₁ ⟨⟨oc, v, rfl, hd⟩, _⟩; exact .tail _ hy1) ?_ ?_
    · rintro i v n₁ I oI h2 tk2 hv ⟨⟨oc, v0, rfl, hoc⟩, hprev⟩ hoff F2 N2
      simp only [pcVals, List.getElem?_map, Option.map_eq_some_iff] at hv
      obtain ⟨pc, hpc, rfl⟩ := hv
      have hpm := List.mem_of_getElem? hpc
      have hI1 : @Ne Nat I (L1 + 1) := fun e => hoff _ (.head _) e.symm
      (try dsimp only)
      (try k_fold)
      k_steps
      rename_i h3 o3 F3 N3 d3
      refine Stop.mk ?_
      refine srcLed (vs := pcVals ps) (k := nx) (fun i ys n₁ => n₁ = (I, oI) :: (L1 + 1, o3) :: news ∧ ys = (ps.take i).map fun q => Value.bool (decide (pc.2 = q.2))) rfl (by k_asm) (by k_asm) (.tail _ (.tail _ hx1)) ?_ ⟨rfl, by simp⟩ ?_ ?_
      · simp only [pcVals, List.length_map, sizeLine_eq]; omega
      · rintro i v ys n₁ I5 oI5 C5 oC5 D5 m5 g5 tk5 E5 hv ⟨rfl, rfl⟩ hC5 hx5 F5 N5 off5 ne5
        simp only [pcVals, List.getElem?_map, Option.map_eq_some_iff] at hv
        obtain ⟨qc, hqc, rfl⟩ := hv
        have hqm := List.mem_of_getElem? hqc
        (try dsimp only)
        (try k_fold)
        k_steps
        refine Stop.mk ?_
        ktr_call 0 (sameW_ctr (W.mono (by ktr_rel)) ((hy2 _ hpm).mono (by ktr_rel)) ((hx2 _ hqm).mono (by ktr_rel)))
        rintro r9 tl9 h9 tk9 F9 N9 hl9 ⟨rfl, rfl⟩
        simp only [List.nil_append] at N9
        k_steps
        refine Stop.mk ?_
        refine LCg.CompEnd.intro (by k_asm) (by k_asm) _ (fun p hp => hp) off5 (.inr ⟨_, .tail _ (.tail _ hx1), rfl, _, rfl⟩) ⟨rfl, ?_⟩
        rw [List.take_add_one, hqc]; simp
      · rintro g ys n₁ ⟨rfl, rfl⟩
        rw [show (pcVals ps).length = ps.length by simp [pcVals], List.take_length]
        unfold LCg.FinE
        intro D5 h5 tk5 F5 N5 o5
        k_steps
        · rename_i hany _ _ _
          refine Stop.mk ?_
          refine EndT.intro (by k_asm) (newsSub (by k_asm) (by ktr_rel)) ?_ ⟨⟨_, _, rfl, d3⟩, ?_⟩
          · intro p hp
            rcases List.mem_cons.mp hp with rfl | hp
            · exact hoff (L1 + 1, oc) (.head _)
            · exact hoff _ (.tail _ hp)
          · intro p hp
            rw [List.take_add_one, hpc] at hp
            rcases List.mem_append.mp hp with h | h
            · exact hprev p h
            · have : p = pc := by simpa using h
              subst this
              assumption
        · refine hret _ [] _ _ (by k_asm) (newsSub (by k_asm) (by ktr_rel)) (fun _ _ _ h => nomatch h) ⟨?_, rfl⟩
          have hf : subC qs ps = false := by
            unfold subC
            rw [List.all_eq_false]
            exact ⟨pc, hpm, by rw [Bool.not_eq_true]; assumption⟩
          rw [hf, Bool.and_false]
    · rintro n₁ h7 tk7 ⟨⟨oc7, v7, rfl, hoc7⟩, hall7⟩ F7 N7
      have h2 : subC qs ps = true := by
        unfold subC
        rw [List.all_eq_true]
        intro p hp
        exact hall7 p (by simpa [pcVals] using hp)
      k_steps
      refine hret _ [] _ _ (by k_asm) (newsSub (by k_asm) (by ktr_rel)) (fun _ _ _ h => nomatch h) ⟨?_, rfl⟩
      rw [h1, h2]; rfl
end Mine
end
section
open PySem PySem.W PySem.Spec PySem.Calls PyProof.Rows
namespace Mine
theorem fresh_C8 : True := by
  w_top off
  trivial
local macro_rules | `(tactic| k_mem) => `(tactic| first | exact List.mem_cons_self | (refine List.mem_cons_of_mem _ ?_; k_mem))
local macro_rules | `(tactic| k_steps) => `(tactic| repeat' (first | (k_unfold; (try dsimp only)) | (k_end; wrow_close) | walk1 | (dsimp only; walk1) | (dsimp only; k_unfold; (try dsimp only)) | (leave1; walk_say "STEP leave1"; try dsimp only) | fail "no step"))
local macro_rules | `(tactic| walk_at "Hold") => `(tactic| refine stop ?_)
local macro_rules | `(tactic| walk_at "PostL0") => `(tactic| (unfold PostL0; try dsimp only))
local macro_rules | `(tactic| walk_at "EndL0") => `(tactic| refine stop ?_)
local macro_rules | `(tactic| walk_at "PostL") => `(tactic| (unfold PostL; try dsimp only))
local macro_rules | `(tactic| walk_at "EndL") => `(tactic| refine stop ?_)
local macro_rules | `(tactic| walk_at "PostM") => `(tactic| (unfold PostM; try dsimp only))
local macro_rules | `(tactic| walk_at "EndM") => `(tactic| refine stop ?_)
local macro_rules | `(tactic| walk_at "PostT") => `(tactic| (unfold PostT; try dsimp only))
local macro_rules | `(tactic| walk_at "EndT") => `(tactic| refine stop ?_)
local macro_rules | `(tactic| walk_at "pyIter ref") => `(tactic| refine stop ?_)
local macro_rules | `(tactic| ktr_call $_x:term $c:term) => `(tactic| (refine' Ctr.use ?k1 ?k2 ?k3 ?k4 ?k5 ?kK ?kC ?kd ?ku ?_; (case k1 => k_asm); (case k2 => k_asm); (case k3 => k_asm); (case k4 => k_asm); (case k5 => k_asm); (case kK => first | exact rfl | assumption); (case kC => exact $c); (case kd => ktr_room); (case ku => ktr_units)))
local macro_rules | `(tactic| k_room) => `(tactic| ktr_room)
local macro_rules | `(tactic| k_units) => `(tactic| ktr_units)
local macro_rules | `(tactic| k_enter) => `(tactic| first
  | (refine' code_def ?k1 ?k2 ?k3 ?k4 ?k5 ?kA ?kF ?kK ?k6 ?k7 ?k8 ?k9 ?kB ?_ ?c2 ?c3 ?c4 ?c5; (case k2 => k_asm); (case k3 => k_asm); (case k6 => k_is); (case k1 => k_asm); (case k4 => k_asm); (case k5 => k_asm); (case kA => exact rfl); (case kF => exact rfl); (case kK => first | exact rfl | assumption); (case k7 => k_is); (case k8 => ktr_room); (case k9 => first | exact BindsTo.of_eq rfl | exact binds_K (by k_in) rfl (by k_is) rfl rfl rfl | fail "k_enter: no rule for these arguments"); (case c5 => decide); (case kB => exact locs rfl); (case c2 => exact rfl); (case c3 => exact rfl); (case c4 => exact rfl); k_whole; intro g' L' h' FG' F' N' B' X' T'; (try dsimp only); (try k_lift B'); (try k_fold))
  | (refine' code_defC ?k1 ?k2 ?k3 ?k4 ?k5 ?kA ?kF ?kK ?k6 ?k7 ?k8 ?k9 ?kB ?kD ?_ ?c2 ?c3 ?c4; (case k2 => k_asm); (case k3 => k_asm); (case k6 => k_is); (case k1 => k_asm); (case k4 => k_asm); (case k5 => k_asm); (case kA => exact rfl); (case kF => exact rfl); (case kK => first | exact rfl | assumption); (case k7 => k_is); (case k8 => ktr_room); (case k9 => first | exact BindsTo.of_eq rfl | exact binds_K (by k_in) rfl (by k_is) rfl rfl rfl | fail "k_enter: no rule for these arguments"); (case kB => exact rfl); (case kD => decide +kernel); (case c2 => exact rfl); (case c3 => exact rfl); (case c4 => exact rfl); k_whole; intro g' L' h' tk' cells' FG' F' N' Y' B' X' T' l1; (try k_lt l1); k_cells Y'; (try simp only [List.cons_append, List.nil_append] at N'); (try dsimp only); (try k_lift B'); (try k_fold)))
local macro_rules | `(tactic| walk_at "truthy ref") => `(tactic| (k_here; (with_reducible show wpAny _ _ (truthy (Value.ref _)) _ _ _); (refine' kgr_truthy ?N ?m ?c ?d ?f ?_; (case N => k_asm); (case m => k_mem); (case c => rfl); (case d => rfl); (case f => first | omega | ((try simp only [List.length_map, List.length_cons, List.length_nil]); omega))); (try simp only [List.isEmpty_cons, List.isEmpty_nil, Bool.not_false, Bool.not_true])))
local macro_rules | `(tactic| ktr_rel) => `(tactic| (intro p hp; (try simp only [List.nil_append, List.cons_append, List.mem_cons, List.mem_append] at hp ⊢); first | exact hp | (simp [hp]; done) | (rcases hp with hp | hp <;> simp [hp])))
local macro_rules | `(tactic| walk_at "eval Name") => `(tactic| (k_here; k_dflt (refine' nameX_B ?F ?X ?T ?e ?v ?n ?_ ?a ?b; (case a => rfl); (case b => rfl); (case F => k_asm); (case X => k_asm); (case T => k_asm); (case e => k_is); (case v => boot_fast); (case n => decide); k_whole)))
local macro_rules | `(tactic| walk_at "eval Name") => `(tactic| (k_here; k_dflt (refine' nameX_K ?F ?X ?T ?e ?_ ?a ?b; (case a => rfl); (case b => rfl); (case F => k_asm); (case X => k_asm); (case T => k_asm); (case e => k_is); k_whole)))
local macro_rules | `(tactic| walk_at "eval Name") => `(tactic| (k_here; k_dflt (refine' nameX_L ?F ?v ?_ ?a ?b; (case F => k_asm); (case a => rfl); (case b => rfl); (case v => rfl); k_whole)))
local macro_rules | `(tactic| walk_at "ite") => `(tactic| ((with_reducible show ite (true = true) _ _); refine ite_pos rfl ?_))
local macro_rules | `(tactic| walk_at "ite") => `(tactic| ((with_reducible show ite (false = true) _ _); refine ite_neg Bool.false_ne_true ?_))
local macro_rules | `(tactic| walk_at "call builtin:isinstance") => `(tactic| (k_here; k_dflt (refine' isi_call ?k1 ?k2 ?k3 ?k4 ?_; (case k1 => k_in); (case k2 => k_types); (case k3 => k_is); (case k4 => intro e; cases e); k_whole)))
local macro_rules | `(tactic| walk_at "call ref") => `(tactic| (k_here; k_dflt (refine' call_cls ?k1 ?k2 ?k3 ?k4 ?k5 ?k6 ?_; (case k1 => k_asm); (case k2 => k_asm); (case k4 => k_is); (case k3 => k_asm); (case k5 => k_is); (case k6 => k_is); k_whole; intro x' d' h' F' N' l1 l2; (try k_lt l1); (try k_lt2 l2); (try k_sweep); k_enter)))
local macro_rules | `(tactic| walk_at "call ref") => `(tactic| (k_here; k_dflt (refine wpAny_call ?_; k_enter)))
local macro_rules | `(tactic| walk_at "call builtin:isinstance") => `(tactic| (k_here; (with_reducible show wpAny _ _ (call _ [Value.ref _, Value.ref _]) _ _ _); k_dflt (refine' kin_callC ?k1 ?k2 ?k3 ?k4 ?k5 ?k6 ?k7 ?k8 ?k9 ?_; (case k1 => k_in); (case k2 => k_inst); (case k3 => kin_no); (case k4 => k_is); (case k5 => k_is); (case k6 => k_is); (case k7 => k_is); (case k8 => k_is); (case k9 => k_is); k_whole)))
local macro_rules | `(tactic| walk_at "eval Name") => `(tactic| (k_here; k_dflt (refine' nameX_C ?N ?c ?m ?d ?_ ?a ?b; (case a => rfl); (case b => rfl); (case N => k_asm); (case c => rfl); (case m => k_mem); (case d => k_asm); k_whole)))
local macro_rules | `(tactic| walk_at "call builtin:list.append") => `(tactic| (k_here; (with_reducible show wpAny _ _ (call (Value.builtin _) [Value.ref _, _]) _ _ _); k_dflt (refine' append_K ?k1 ?k2 ?k3 ?_ ?z; (case k1 => k_asm); (case k2 => k_asm); (case k3 => k_upd); (case z => (simp only [List.size_toArray]; rw [sizeLine_eq]; omega)); k_whole); intro h' F' N'; (try k_sweep)))
local macro_rules | `(tactic| walk_at "eval ListComp") => `(tactic| (k_here; (with_reducible show wpAny _ _ (eval (Expr.ListComp _ [⟨Expr.Name _ _, _, [], _⟩] _ _) _) _ _ _); k_dflt (refine LCg.ListComp_U (F₀ := by k_asm) (by with_unfolding_all rfl) (by decide) (by rfl) (by decide) (by rfl) ?_)))
local macro_rules | `(tactic| walk_at "eval ListComp") => `(tactic| (k_here; (with_reducible show wpAny _ _ (eval (Expr.ListComp _ [⟨Expr.Name _ _, _, [_], _⟩] _ _) _) _ _ _); k_dflt (refine LCt.ListComp_T (F₀ := by k_asm) (by with_unfolding_all rfl) (by decide) (by rfl) (by decide) (by rfl) ?_)))
local macro_rules | `(tactic| walk_at "CompSrc") => `(tactic| refine stop ?_)
local macro_rules | `(tactic| walk_at "CompSrcT") => `(tactic| refine stop ?_)
local macro_rules | `(tactic| walk_at "CompEnd") => `(tactic| refine stop ?_)
local macro_rules | `(tactic| lsm_bools) => `(tactic| exact boolsMap _ _)
local macro_rules | `(tactic| lsm_list) => `(tactic| exact News.isList (by k_asm) (by k_mem))
local macro_rules | `(tactic| walk_at "exec For Name Name cons nil") => `(tactic| (k_here; (rename Fr _ _ _ _ => lF'); (with_unfolding_all refine' For_turns lF' ?_; k_whole)))
local macro_rules | `(tactic| walk_at "call builtin:len") => `(tactic| (k_here; (with_reducible show wpAny _ _ (call (Value.builtin "len") [Value.ref _]) _ _ _); (refine' lenLed ?N ?m ?f ?_; (case N => k_asm); (case m => k_mem); (case f => first | omega | ((try simp only [List.length_map, List.length_cons, List.length_nil]); omega))); (try simp only [List.length_cons, List.length_nil])))
local macro_rules | `(tactic| walk_at "subscriptTail Name Slice ref ref") => `(tactic| (k_here; (with_reducible show wpAny _ _ (subscriptTail _ (PySem.Expr.Slice _ _ none _) (Value.ref _) (Value.ref _)) _ _ _); k_dflt (refine' kmk_slice_lit ?F ?N ?l ?p ?q ?e ?_ ?s ?t ?z; (case F => k_asm); (case N => k_asm); (case l => exact News.isList (by k_asm) (by k_mem)); (case p => kmk_part); (case q => kmk_part); (case e => exact slice1 _ _); (case s => with_unfolding_all rfl); (case t => kmk_pure); (case z => (simp only [List.size_toArray, List.length_cons]; rw [sizeLine_eq]; omega))); intro D' h' F' N' l1; (try k_lt l1); (try k_sweep)))
theorem sim1_ctr {w : World} {news : List (Addr × Obj)} {a : WA} {x y : Addr} {ps qs : List PC} (W : WorldAt w news a) (hx : ConsAt w news a x ps) (hy : ConsAt w news a y qs) :
    Ctr w 50 500 (.ref 705) [.ref x, .ref y] [] news (fun v tl => (∃ b : Bool, v = .bool b ∧ (b = true → ps ≠ [] → qs ≠ [])) ∧ tl = []) := by
  unfold Ctr
  k_fill
  intro p loose mean mg mb dp un gd cn cs ad ccd cl outer A₀ base h₀ L m s Q E B F X N T hk hd hu hret
  obtain ⟨⟨nx, hx1⟩, hx2⟩ := hx
  obtain ⟨⟨ny, hy1⟩, hy2⟩ := hy
  k_steps
  refine Stop.mk ?_
  refine iterM (Str.ofString "c1") (Str.ofString "has_similar") (Str.ofString "c2") (Str.ofString "skip_op_check") (fun i _ _ _ _ n₁ => n₁ = news ∧ (i ≠ 0 → qs ≠ [])) rfl (by k_asm) (by k_asm) ⟨rfl, by simp⟩ (by rintro i _ _ _ _ n₁ ⟨rfl, _⟩; exact hx1) ?_ ?_
  · rintro i v u1 u2 u3 u4 n₁ I oI h2 tk2 hv ⟨rfl, hprev⟩ hoff F2 N2
    simp only [pcVals, List.getElem?_map, Option.map_eq_some_iff] at hv
    obtain ⟨pc, hpc, rfl⟩ := hv
    have hpm := List.mem_of_getElem? hpc
    (try dsimp only)
    (try k_fold)
    k_steps
    refine Stop.mk ?_
    refine iterM (Str.ofString "c2") (Str.ofString "skip_op_check") (Str.ofString "c2") (Str.ofString "skip_op_check") (fun i _ _ _ _ n₂ => n₂ = (I, oI) :: n₁) rfl (by k_asm) (by k_asm) rfl (by rintro i _ _ _ _ n₂ rfl; exact .tail _ hy1) ?_ ?_
    · rintro j v v1 v2 v3 v4 n₂ I3 oI3 h3 tk3 hv rfl hoff3 F3 N3
      simp only [pcVals, List.getElem?_map, Option.map_eq_some_iff] at hv
      obtain ⟨qc, hqc, rfl⟩ := hv
      have hqm := List.mem_of_getElem? hqc
      have hqs : qs ≠ [] := List.ne_nil_of_mem hqm
      obtain ⟨dc1, s1, s2, s3, s4, s5, a1, a2⟩ := hx2 _ hpm
      obtain ⟨dc2, s1', s2', s3', s4', s5', b1, b2⟩ := hy2 _ hqm
      obtain ⟨di1, r1, r2, r3, r4, e1, e2⟩ := W.id pc.2.1
      obtain ⟨di2, r1', r2', r3', r4', f1, f2⟩ := W.id qc.2.1
      obtain ⟨dl, tl1, tl2, tupl, l1, l2, l3⟩ := W.ins pc.2.2.2
      obtain ⟨dr, tr1, tr2, tupr, q1, q2, q3⟩ := W.ins qc.2.2.2
      (try dsimp only)
      (try k_fold)
      k_steps
      all_goals (
        refine Stop.mk ?_
        (try dsimp only)
        first
          | exact EndM.intro (by k_asm) (newsSub (by k_asm) (by ktr_rel)) (by intro z h1 h2 h3 h4; simp [over4, h1, h2, h3, h4]) hoff ⟨rfl, fun _ => hqs⟩
          | exact EndM.intro (by k_asm) (newsSub (by k_asm) (by ktr_rel)) (by intro z h1 h2 h3 h4; simp [over4, h1, h2, h3, h4]) hoff3 rfl)
    · rintro v1 v2 v3 v4 n₂ h3 tk3 rfl F3 N3
      k_steps
      exact hret _ [] _ _ (by k_asm) (newsSub (by k_asm) (by ktr_rel)) (fun _ _ _ h => nomatch h) ⟨⟨false, rfl, by simp⟩, rfl⟩
  · rintro u1 u2 u3 u4 n₁ h3 tk3 ⟨rfl, hJ⟩ F3 N3
    k_steps
    refine hret _ [] _ _ (by k_asm) (newsSub (by k_asm) (by ktr_rel)) (fun _ _ _ h => nomatch h) ⟨⟨true, rfl, fun _ hp => hJ ?_⟩, rfl⟩
    intro e
    exact hp (List.eq_nil_of_length_eq_zero (by simpa [pcVals] using e))

local macro_rules | `(tactic| walk_at "call ref") => `(tactic| ((with_reducible show wpAny _ _ (call (Value.ref 705) _ _) _ _ _); refine stop ?_))
theorem sim_ctr {w : World} {news : List (Addr × Obj)} {a : WA} {x y : Addr} {ps qs : List PC} (W : WorldAt w news a) (hx : ConsAt w news a x ps) (hy : ConsAt w news a y qs) :
    Ctr w 52 520 (.ref 698) [.ref x, .ref y] [] news (fun v tl => (∃ b : Bool, v = .bool b ∧ (b = true → (ps = [] ↔ qs = []))) ∧ tl = []) := by
  unfold Ctr
  k_fill
  intro p loose mean mg mb dp un gd cn cs ad ccd cl outer A₀ base h₀ L m s Q E B F X N T hk hd hu hret
  k_steps
  refine Stop.mk ?_
  ktr_call 0 (sim1_ctr W hx hy)
  rintro r9 tl9 h9 tk9 F9 N9 hl9 ⟨⟨b1, rfl, hb1⟩, rfl⟩
  simp only [List.nil_append] at N9
  k_steps
  · refine Stop.mk ?_
    ktr_call 0 (sim1_ctr W hy hx)
    rintro r9 tl9 h9 tk9 F9 N9 hl9 ⟨⟨b2, rfl, hb2⟩, rfl⟩
    simp only [List.nil_append] at N9
    k_steps
    refine hret _ [] _ _ (by k_asm) (newsSub (by k_asm) (by ktr_rel)) (fun _ _ _ h => nomatch h) ⟨⟨b2, rfl, fun h2 => ?_⟩, rfl⟩
    have h1 : b1 = true := by assumption
    have q1 := hb1 h1
    have q2 := hb2 h2
    constructor
    · intro e; exact Classical.byContradiction fun n => q2 n e
    · intro e; exact Classical.byContradiction fun n => q1 n e
  · exact hret _ [] _ _ (by k_asm) (newsSub (by k_asm) (by ktr_rel)) (fun _ _ _ h => nomatch h) ⟨⟨b1, rfl, fun h => by simp_all⟩, rfl⟩
end Mine
end
section
open PySem PySem.W PySem.Spec PySem.Calls PyProof.Rows
namespace Mine
theorem fresh_C9 : True := by
  w_top off
  trivial
local macro_rules | `(tactic| k_mem) => `(tactic| first | exact List.mem_cons_self | (refine List.mem_cons_of_mem _ ?_; k_mem))
local macro_rules | `(tactic| k_steps) => `(tactic| repeat' (first | (k_unfold; (try dsimp only)) | (k_end; wrow_close) | walk1 | (dsimp only; walk1) | (dsimp only; k_unfold; (try dsimp only)) | (leave1; walk_say "STEP leave1"; try dsimp only) | fail "no step"))
local macro_rules | `(tactic| walk_at "Hold") => `(tactic| refine stop ?_)
local macro_rules | `(tactic| walk_at "PostL0") => `(tactic| (unfold PostL0; try dsimp only))
local macro_rules | `(tactic| walk_at "EndL0") => `(tactic| refine stop ?_)
local macro_rules | `(tactic| walk_at "PostL") => `(tactic| (unfold PostL; try dsimp only))
local macro_rules | `(tactic| walk_at "EndL") => `(tactic| refine stop ?_)
local macro_rules | `(tactic| walk_at "PostM") => `(tactic| (unfold PostM; try dsimp only))
local macro_rules | `(tactic| walk_at "EndM") => `(tactic| refine stop ?_)
local macro_rules | `(tactic| walk_at "PostT") => `(tactic| (unfold PostT; try dsimp only))
local macro_rules | `(tactic| walk_at "EndT") => `(tactic| refine stop ?_)
local macro_rules | `(tactic| walk_at "pyIter ref") => `(tactic| refine stop ?_)
local macro_rules | `(tactic| ktr_call $_x:term $c:term) => `(tactic| (refine' Ctr.use ?k1 ?k2 ?k3 ?k4 ?k5 ?kK ?kC ?kd ?ku ?_; (case k1 => k_asm); (case k2 => k_asm); (case k3 => k_asm); (case k4 => k_asm); (case k5 => k_asm); (case kK => first | exact rfl | assumption); (case kC => exact $c); (case kd => ktr_room); (case ku => ktr_units)))
local macro_rules | `(tactic| k_room) => `(tactic| ktr_room)
local macro_rules | `(tactic| k_units) => `(tactic| ktr_units)
local macro_rules | `(tactic| k_enter) => `(tactic| first
  | (refine' code_def ?k1 ?k2 ?k3 ?k4 ?k5 ?kA ?kF ?kK ?k6 ?k7 ?k8 ?k9 ?kB ?_ ?c2 ?c3 ?c4 ?c5; (case k2 => k_asm); (case k3 => k_asm); (case k6 => k_is); (case k1 => k_asm); (case k4 => k_asm); (case k5 => k_asm); (case kA => exact rfl); (case kF => exact rfl); (case kK => first | exact rfl | assumption); (case k7 => k_is); (case k8 => ktr_room); (case k9 => first | exact BindsTo.of_eq rfl | exact binds_K (by k_in) rfl (by k_is) rfl rfl rfl | fail "k_enter: no rule for these arguments"); (case c5 => decide); (case kB => exact locs rfl); (case c2 => exact rfl); (case c3 => exact rfl); (case c4 => exact rfl); k_whole; intro g' L' h' FG' F' N' B' X' T'; (try dsimp only); (try k_lift B'); (try k_fold))
  | (refine' code_defC ?k1 ?k2 ?k3 ?k4 ?k5 ?kA ?kF ?kK ?k6 ?k7 ?k8 ?k9 ?kB ?kD ?_ ?c2 ?c3 ?c4; (case k2 => k_asm); (case k3 => k_asm); (case k6 => k_is); (case k1 => k_asm); (case k4 => k_asm); (case k5 => k_asm); (case kA => exact rfl); (case kF => exact rfl); (case kK => first | exact rfl | assumption); (case k7 => k_is); (case k8 => ktr_room); (case k9 => first | exact BindsTo.of_eq rfl | exact binds_K (by k_in) rfl (by k_is) rfl rfl rfl | fail "k_enter: no rule for these arguments"); (case kB => exact rfl); (case kD => decide +kernel); (case c2 => exact rfl); (case c3 => exact rfl); (case c4 => exact rfl); k_whole; intro g' L' h' tk' cells' FG' F' N' Y' B' X' T' l1; (try k_lt l1); k_cells Y'; (try simp only [List.cons_append, List.nil_append] at N'); (try dsimp only); (try k_lift B'); (try k_fold)))
local macro_rules | `(tactic| walk_at "truthy ref") => `(tactic| (k_here; (with_reducible show wpAny _ _ (truthy (Value.ref _)) _ _ _); (refine' kgr_truthy ?N ?m ?c ?d ?f ?_; (case N => k_asm); (case m => k_mem); (case c => rfl); (case d => rfl); (case f => first | omega | ((try simp only [List.length_map, List.length_cons, List.length_nil]); omega))); (try simp only [List.isEmpty_cons, List.isEmpty_nil, Bool.not_false, Bool.not_true])))
local macro_rules | `(tactic| ktr_rel) => `(tactic| (intro p hp; (try simp only [List.nil_append, List.cons_append, List.mem_cons, List.mem_append] at hp ⊢); first | exact hp | (simp [hp]; done) | (rcases hp with hp | hp <;> simp [hp])))
local macro_rules | `(tactic| walk_at "eval Name") => `(tactic| (k_here; k_dflt (refine' nameX_B ?F ?X ?T ?e ?v ?n ?_ ?a ?b; (case a => rfl); (case b => rfl); (case F => k_asm); (case X => k_asm); (case T => k_asm); (case e => k_is); (case v => boot_fast); (case n => decide); k_whole)))
local macro_rules | `(tactic| walk_at "eval Name") => `(tactic| (k_here; k_dflt (refine' nameX_K ?F ?X ?T ?e ?_ ?a ?b; (case a => rfl); (case b => rfl); (case F => k_asm); (case X => k_asm); (case T => k_asm); (case e => k_is); k_whole)))
local macro_rules | `(tactic| walk_at "eval Name") => `(tactic| (k_here; k_dflt (refine' nameX_L ?F ?v ?_ ?a ?b; (case F => k_asm); (case a => rfl); (case b => rfl); (case v => rfl); k_whole)))
local macro_rules | `(tactic| walk_at "ite") => `(tactic| ((with_reducible show ite (true = true) _ _); refine ite_pos rfl ?_))
local macro_rules | `(tactic| walk_at "ite") => `(tactic| ((with_reducible show ite (false = true) _ _); refine ite_neg Bool.false_ne_true ?_))
local macro_rules | `(tactic| walk_at "call builtin:isinstance") => `(tactic| (k_here; k_dflt (refine' isi_call ?k1 ?k2 ?k3 ?k4 ?_; (case k1 => k_in); (case k2 => k_types); (case k3 => k_is); (case k4 => intro e; cases e); k_whole)))
local macro_rules | `(tactic| walk_at "call ref") => `(tactic| (k_here; k_dflt (refine' call_cls ?k1 ?k2 ?k3 ?k4 ?k5 ?k6 ?_; (case k1 => k_asm); (case k2 => k_asm); (case k4 => k_is); (case k3 => k_asm); (case k5 => k_is); (case k6 => k_is); k_whole; intro x' d' h' F' N' l1 l2; (try k_lt l1); (try k_lt2 l2); (try k_sweep); k_enter)))
local macro_rules | `(tactic| walk_at "call ref") => `(tactic| (k_here; k_dflt (refine wpAny_call ?_; k_enter)))
local macro_rules | `(tactic| walk_at "call builtin:isinstance") => `(tactic| (k_here; (with_reducible show wpAny _ _ (call _ [Value.ref _, Value.ref _]) _ _ _); k_dflt (refine' kin_callC ?k1 ?k2 ?k3 ?k4 ?k5 ?k6 ?k7 ?k8 ?k9 ?_; (case k1 => k_in); (case k2 => k_inst); (case k3 => kin_no); (case k4 => k_is); (case k5 => k_is); (case k6 => k_is); (case k7 => k_is); (case k8 => k_is); (case k9 => k_is); k_whole)))
local macro_rules | `(tactic| walk_at "eval Name") => `(tactic| (k_here; k_dflt (refine' nameX_C ?N ?c ?m ?d ?_ ?a ?b; (case a => rfl); (case b => rfl); (case N => k_asm); (case c => rfl); (case m => k_mem); (case d => k_asm); k_whole)))
local macro_rules | `(tactic| walk_at "call builtin:list.append") => `(tactic| (k_here; (with_reducible show wpAny _ _ (call (Value.builtin _) [Value.ref _, _]) _ _ _); k_dflt (refine' append_K ?k1 ?k2 ?k3 ?_ ?z; (case k1 => k_asm); (case k2 => k_asm); (case k3 => k_upd); (case z => (simp only [List.size_toArray]; rw [sizeLine_eq]; omega)); k_whole); intro h' F' N'; (try k_sweep)))
local macro_rules | `(tactic| walk_at "eval ListComp") => `(tactic| (k_here; (with_reducible show wpAny _ _ (eval (Expr.ListComp _ [⟨Expr.Name _ _, _, [], _⟩] _ _) _) _ _ _); k_dflt (refine LCg.ListComp_U (F₀ := by k_asm) (by with_unfolding_all rfl) (by decide) (by rfl) (by decide) (by rfl) ?_)))
local macro_rules | `(tactic| walk_at "eval ListComp") => `(tactic| (k_here; (with_reducible show wpAny _ _ (eval (Expr.ListComp _ [⟨Expr.Name _ _, _, [_], _⟩] _ _) _) _ _ _); k_dflt (refine LCt.ListComp_T (F₀ := by k_asm) (by with_unfolding_all rfl) (by decide) (by rfl) (by decide) (by rfl) ?_)))
local macro_rules | `(tactic| walk_at "CompSrc") => `(tactic| refine stop ?_)
local macro_rules | `(tactic| walk_at "CompSrcT") => `(tactic| refine stop ?_)
local macro_rules | `(tactic| walk_at "CompEnd") => `(tactic| refine stop ?_)
local macro_rules | `(tactic| lsm_bools) => `(tactic| exact boolsMap _ _)
local macro_rules | `(tactic| lsm_list) => `(tactic| exact News.isList (by k_asm) (by k_mem))
local macro_rules | `(tactic| walk_at "exec For Name Name cons nil") => `(tactic| (k_here; (rename Fr _ _ _ _ => lF'); (with_unfolding_all refine' For_turns lF' ?_; k_whole)))
local macro_rules | `(tactic| walk_at "call builtin:len") => `(tactic| (k_here; (with_reducible show wpAny _ _ (call (Value.builtin "len") [Value.ref _]) _ _ _); (refine' lenLed ?N ?m ?f ?_; (case N => k_asm); (case m => k_mem); (case f => first | omega | ((try simp only [List.length_map, List.length_cons, List.length_nil]); omega))); (try simp only [List.length_cons, List.length_nil])))
local macro_rules | `(tactic| walk_at "subscriptTail Name Slice ref ref") => `(tactic| (k_here; (with_reducible show wpAny _ _ (subscriptTail _ (PySem.Expr.Slice _ _ none _) (Value.ref _) (Value.ref _)) _ _ _); k_dflt (refine' kmk_slice_lit ?F ?N ?l ?p ?q ?e ?_ ?s ?t ?z; (case F => k_asm); (case N => k_asm); (case l => exact News.isList (by k_asm) (by k_mem)); (case p => kmk_part); (case q => kmk_part); (case e => exact slice1 _ _); (case s => with_unfolding_all rfl); (case t => kmk_pure); (case z => (simp only [List.size_toArray, List.length_cons]; rw [sizeLine_eq]; omega))); intro D' h' F' N' l1; (try k_lt l1); (try k_sweep)))
theorem triv_ctr {w : World} {news : List (Addr × Obj)} {a : WA} {l : Addr} {ws : List WayV} (W : WorldAt w news a) (hw : WaysAt w news a l ws) (hne : ∀ v ∈ ws, ∃ x, v = some x ∧ x.2 ≠ [] ∧ x.2.length ≤ 1000) :
    Ctr w 20 200 (.ref 652) [.ref l] [] news (fun v tl => ∃ D n, v = .ref D ∧ tl = [(D, PySem.W.listOf #[] n)]) := by
  unfold Ctr
  k_fill
  intro p loose mean mg mb dp un gd cn cs ad ccd cl outer A₀ base h₀ L m s Q E B F X N T hk hd hu hret
  obtain ⟨⟨nl, hl1⟩, hl2⟩ := hw
  k_steps
  rename_i D _ lD _ _ _
  refine Stop.mk ?_
  refine iterM (Str.ofString "option") (Str.ofString "option") (Str.ofString "option") (Str.ofString "option") (fun i _ _ _ _ n₁ => n₁ = (D, PySem.W.listOf #[] 0) :: news) rfl (by k_asm) (by k_asm) rfl (by rintro i _ _ _ _ n₁ rfl; exact .tail _ hl1) ?_ ?_
  · rintro i v u1 u2 u3 u4 n₁ I oI h2 tk2 hv rfl hoff F2 N2
    simp only [List.getElem?_map, Option.map_eq_some_iff] at hv
    obtain ⟨wv, hwv, rfl⟩ := hv
    have hwm := List.mem_of_getElem? hwv
    obtain ⟨⟨o, ps⟩, rfl, hps, hpl⟩ := hne _ hwm
    obtain ⟨⟨no, ho1⟩, ho2⟩ := hl2 _ hwm
    dsimp only at hps hpl ho1 ho2
    (try dsimp only [wayVal])
    (try k_fold)
    k_steps
    refine Stop.mk ?_
    refine srcLed (vs := pcVals ps) (k := no) (fun i ys n₁ => n₁ = (I, oI) :: (D, PySem.W.listOf #[] 0) :: news ∧ ys = (ps.take i).map fun _ => Value.bool false) rfl (by k_asm) (by k_asm) (.tail _ (.tail _ ho1)) ?_ ⟨rfl, by simp⟩ ?_ ?_
    · simp only [pcVals, List.length_map, sizeLine_eq]; omega
    · rintro i v ys n₁ I5 oI5 C5 oC5 D5 m5 g5 tk5 E5 hv ⟨rfl, rfl⟩ hC5 hx5 F5 N5 off5 ne5
      simp only [pcVals, List.getElem?_map, Option.map_eq_some_iff] at hv
      obtain ⟨pc, hpc, rfl⟩ := hv
      obtain ⟨dc1, s1, s2, s3, s4, s5, a1, a2⟩ := ho2 _ (List.mem_of_getElem? hpc)
      obtain ⟨dl, tl1, tl2, tupl, l1, l2, l3⟩ := W.ins pc.2.2.2
      (try dsimp only)
      (try k_fold)
      k_steps
      refine Stop.mk ?_
      refine LCg.CompEnd.intro (by k_asm) (by k_asm) _ (fun p hp => hp) off5 (.inr ⟨_, .tail _ (.tail _ ho1), rfl, _, rfl⟩) ⟨rfl, ?_⟩
      rw [List.take_add_one, hpc]; simp
    · rintro g ys n₁ ⟨rfl, rfl⟩
      rw [show (pcVals ps).length = ps.length by simp [pcVals], List.take_length]
      unfold LCg.FinE
      intro D5 h5 tk5 F5 N5 o5
      have hany : (ps.all fun _ => false) = false := by
        obtain ⟨q, r, rfl⟩ := List.exists_cons_of_ne_nil hps
        simp
      k_steps
      refine Stop.mk ?_
      (try dsimp only)
      exact EndM.intro (by k_asm) (newsSub (by k_asm) (by ktr_rel)) (by intro z h1 h2 h3 h4; simp [over4, h1]) hoff rfl
  · rintro u1 u2 u3 u4 n₁ h3 tk3 rfl F3 N3
    k_steps
    exact hret _ [_] _ _ (by k_asm) (newsSub (by k_asm) (by ktr_rel)) (by intro q hq p hp; rw [List.mem_singleton.mp hp]; exact Nat.ne_of_lt (lD q hq)) ⟨D, 0, rfl, rfl⟩
end Mine
end
section
open PySem PySem.W PySem.Spec PySem.Calls PyProof.Rows
namespace Mine
theorem fresh_C10 : True := by
  w_top off
  trivial
local macro_rules | `(tactic| k_mem) => `(tactic| first | exact List.mem_cons_self | (refine List.mem_cons_of_mem _ ?_; k_mem))
local macro_rules | `(tactic| k_steps) => `(tactic| repeat' (first | (k_unfold; (try dsimp only)) | (k_end; wrow_close) | walk1 | (dsimp only; walk1) | (dsimp only; k_unfold; (try dsimp only)) | (leave1; walk_say "STEP leave1"; try dsimp only) | fail "no step"))
local macro_rules | `(tactic| walk_at "Hold") => `(tactic| refine stop ?_)
local macro_rules | `(tactic| walk_at "PostL0") => `(tactic| (unfold PostL0; try dsimp only))
local macro_rules | `(tactic| walk_at "EndL0") => `(tactic| refine stop ?_)
local macro_rules | `(tactic| walk_at "PostL") => `(tactic| (unfold PostL; try dsimp only))
local macro_rules | `(tactic| walk_at "EndL") => `(tactic| refine stop ?_)
local macro_rules | `(tactic| walk_at "PostM") => `(tactic| (unfold PostM; try dsimp only))
local macro_rules | `(tactic| walk_at "EndM") => `(tactic| refine stop ?_)
local macro_rules | `(tactic| walk_at "PostT") => `(tactic| (unfold PostT; try dsimp only))
local macro_rules | `(tactic| walk_at "EndT") => `(tactic| refine stop ?_)
local macro_rules | `(tactic| walk_at "pyIter ref") => `(tactic| refine stop ?_)
local macro_rules | `(tactic| ktr_call $_x:term $c:term) => `(tactic| (refine' Ctr.use ?k1 ?k2 ?k3 ?k4 ?k5 ?kK ?kC ?kd ?ku ?_; (case k1 => k_asm); (case k2 => k_asm); (case k3 => k_asm); (case k4 => k_asm); (case k5 => k_asm); (case kK => first | exact rfl | assumption); (case kC => exact $c); (case kd => ktr_room); (case ku => ktr_units)))
local macro_rules | `(tactic| k_room) => `(tactic| ktr_room)
local macro_rules | `(tactic| k_units) => `(tactic| ktr_units)
local macro_rules | `(tactic| k_enter) => `(tactic| first
  | (refine' code_def ?k1 ?k2 ?k3 ?k4 ?k5 ?kA ?kF ?kK ?k6 ?k7 ?k8 ?k9 ?kB ?_ ?c2 ?c3 ?c4 ?c5; (case k2 => k_asm); (case k3 => k_asm); (case k6 => k_is); (case k1 => k_asm); (case k4 => k_asm); (case k5 => k_asm); (case kA => exact rfl); (case kF => exact rfl); (case kK => first | exact rfl | assumption); (case k7 => k_is); (case k8 => ktr_room); (case k9 => first | exact BindsTo.of_eq rfl | exact binds_K (by k_in) rfl (by k_is) rfl rfl rfl | fail "k_enter: no rule for these arguments"); (case c5 => decide); (case kB => exact locs rfl); (case c2 => exact rfl); (case c3 => exact rfl); (case c4 => exact rfl); k_whole; intro g' L' h' FG' F' N' B' X' T'; (try dsimp only); (try k_lift B'); (try k_fold))
  | (refine' code_defC ?k1 ?k2 ?k3 ?k4 ?k5 ?kA ?kF ?kK ?k6 ?k7 ?k8 ?k9 ?kB ?kD ?_ ?c2 ?c3 ?c4; (case k2 => k_asm); (case k3 => k_asm); (case k6 => k_is); (case k1 => k_asm); (case k4 => k_asm); (case k5 => k_asm); (case kA => exact rfl); (case kF => exact rfl); (case kK => first | exact rfl | assumption); (case k7 => k_is); (case k8 => ktr_room); (case k9 => first | exact BindsTo.of_eq rfl | exact binds_K (by k_in) rfl (by k_is) rfl rfl rfl | fail "k_enter: no rule for these arguments"); (case kB => exact rfl); (case kD => decide +kernel); (case c2 => exact rfl); (case c3 => exact rfl); (case c4 => exact rfl); k_whole; intro g' L' h' tk' cells' FG' F' N' Y' B' X' T' l1; (try k_lt l1); k_cells Y'; (try simp only [List.cons_append, List.nil_append] at N'); (try dsimp only); (try k_lift B'); (try k_fold)))
local macro_rules | `(tactic| walk_at "truthy ref") => `(tactic| (k_here; (with_reducible show wpAny _ _ (truthy (Value.ref _)) _ _ _); (refine' kgr_truthy ?N ?m ?c ?d ?f ?_; (case N => k_asm); (case m => k_mem); (case c => rfl); (case d => rfl); (case f => first | omega | ((try simp only [List.length_map, List.length_cons, List.length_nil]); omega))); (try simp only [List.isEmpty_cons, List.isEmpty_nil, Bool.not_false, Bool.not_true])))
local macro_rules | `(tactic| ktr_rel) => `(tactic| (intro p hp; (try simp only [List.nil_append, List.cons_append, List.mem_cons, List.mem_append] at hp ⊢); first | exact hp | (simp [hp]; done) | (rcases hp with hp | hp <;> simp [hp])))
local macro_rules | `(tactic| walk_at "eval Name") => `(tactic| (k_here; k_dflt (refine' nameX_B ?F ?X ?T ?e ?v ?n ?_ ?a ?b; (case a => rfl); (case b => rfl); (case F => k_asm); (case X => k_asm); (case T => k_asm); (case e => k_is); (case v => boot_fast); (case n => decide); k_whole)))
local macro_rules | `(tactic| walk_at "eval Name") => `(tactic| (k_here; k_dflt (refine' nameX_K ?F ?X ?T ?e ?_ ?a ?b; (case a => rfl); (case b => rfl); (case F => k_asm); (case X => k_asm); (case T => k_asm); (case e => k_is); k_whole)))
local macro_rules | `(tactic| walk_at "eval Name") => `(tactic| (k_here; k_dflt (refine' nameX_L ?F ?v ?_ ?a ?b; (case F => k_asm); (case a => rfl); (case b => rfl); (case v => rfl); k_whole)))
local macro_rules | `(tactic| walk_at "ite") => `(tactic| ((with_reducible show ite (true = true) _ _); refine ite_pos rfl ?_))
local macro_rules | `(tactic| walk_at "ite") => `(tactic| ((with_reducible show ite (false = true) _ _); refine ite_neg Bool.false_ne_true ?_))
local macro_rules | `(tactic| walk_at "call builtin:isinstance") => `(tactic| (k_here; k_dflt (refine' isi_call ?k1 ?k2 ?k3 ?k4 ?_; (case k1 => k_in); (case k2 => k_types); (case k3 => k_is); (case k4 => intro e; cases e); k_whole)))
local macro_rules | `(tactic| walk_at "call ref") => `(tactic| (k_here; k_dflt (refine' call_cls ?k1 ?k2 ?k3 ?k4 ?k5 ?k6 ?_; (case k1 => k_asm); (case k2 => k_asm); (case k4 => k_is); (case k3 => k_asm); (case k5 => k_is); (case k6 => k_is); k_whole; intro x' d' h' F' N' l1 l2; (try k_lt l1); (try k_lt2 l2); (try k_sweep); k_enter)))
local macro_rules | `(tactic| walk_at "call ref") => `(tactic| (k_here; k_dflt (refine wpAny_call ?_; k_enter)))
local macro_rules | `(tactic| walk_at "call builtin:isinstance") => `(tactic| (k_here; (with_reducible show wpAny _ _ (call _ [Value.ref _, Value.ref _]) _ _ _); k_dflt (refine' kin_callC ?k1 ?k2 ?k3 ?k4 ?k5 ?k6 ?k7 ?k8 ?k9 ?_; (case k1 => k_in); (case k2 => k_inst); (case k3 => kin_no); (case k4 => k_is); (case k5 => k_is); (case k6 => k_is); (case k7 => k_is); (case k8 => k_is); (case k9 => k_is); k_whole)))
local macro_rules | `(tactic| walk_at "eval Name") => `(tactic| (k_here; k_dflt (refine' nameX_C ?N ?c ?m ?d ?_ ?a ?b; (case a => rfl); (case b => rfl); (case N => k_asm); (case c => rfl); (case m => k_mem); (case d => k_asm); k_whole)))
local macro_rules | `(tactic| walk_at "call builtin:list.append") => `(tactic| (k_here; (with_reducible show wpAny _ _ (call (Value.builtin _) [Value.ref _, _]) _ _ _); k_dflt (refine' append_K ?k1 ?k2 ?k3 ?_ ?z; (case k1 => k_asm); (case k2 => k_asm); (case k3 => k_upd); (case z => (simp only [List.size_toArray]; rw [sizeLine_eq]; omega)); k_whole); intro h' F' N'; (try k_sweep)))
local macro_rules | `(tactic| walk_at "eval ListComp") => `(tactic| (k_here; (with_reducible show wpAny _ _ (eval (Expr.ListComp _ [⟨Expr.Name _ _, _, [], _⟩] _ _) _) _ _ _); k_dflt (refine LCg.ListComp_U (F₀ := by k_asm) (by with_unfolding_all rfl) (by decide) (by rfl) (by decide) (by rfl) ?_)))
local macro_rules | `(tactic| walk_at "eval ListComp") => `(tactic| (k_here; (with_reducible show wpAny _ _ (eval (Expr.ListComp _ [⟨Expr.Name _ _, _, [_], _⟩] _ _) _) _ _ _); k_dflt (refine LCt.ListComp_T (F₀ := by k_asm) (by with_unfolding_all rfl) (by decide) (by rfl) (by decide) (by rfl) ?_)))
local macro_rules | `(tactic| walk_at "CompSrc") => `(tactic| refine stop ?_)
local macro_rules | `(tactic| walk_at "CompSrcT") => `(tactic| refine stop ?_)
local macro_rules | `(tactic| walk_at "CompEnd") => `(tactic| refine stop ?_)
local macro_rules | `(tactic| lsm_bools) => `(tactic| exact boolsMap _ _)
local macro_rules | `(tactic| lsm_list) => `(tactic| exact News.isList (by k_asm) (by k_mem))
local macro_rules | `(tactic| walk_at "exec For Name Name cons nil") => `(tactic| (k_here; (rename Fr _ _ _ _ => lF'); (with_unfolding_all refine' For_turns lF' ?_; k_whole)))
local macro_rules | `(tactic| walk_at "call builtin:len") => `(tactic| (k_here; (with_reducible show wpAny _ _ (call (Value.builtin "len") [Value.ref _]) _ _ _); (refine' lenLed ?N ?m ?f ?_; (case N => k_asm); (case m => k_mem); (case f => first | omega | ((try simp only [List.length_map, List.length_cons, List.length_nil]); omega))); (try simp only [List.length_cons, List.length_nil])))
local macro_rules | `(tactic| walk_at "subscriptTail Name Slice ref ref") => `(tactic| (k_here; (with_reducible show wpAny _ _ (subscriptTail _ (PySem.Expr.Slice _ _ none _) (Value.ref _) (Value.ref _)) _ _ _); k_dflt (refine' kmk_slice_lit ?F ?N ?l ?p ?q ?e ?_ ?s ?t ?z; (case F => k_asm); (case N => k_asm); (case l => exact News.isList (by k_asm) (by k_mem)); (case p => kmk_part); (case q => kmk_part); (case e => exact slice1 _ _); (case s => with_unfolding_all rfl); (case t => kmk_pure); (case z => (simp only [List.size_toArray, List.length_cons]; rw [sizeLine_eq]; omega))); intro D' h' F' N' l1; (try k_lt l1); (try k_sweep)))
local macro_rules | `(tactic| walk_at "call ref") => `(tactic| ((with_reducible show wpAny _ _ (call (Value.ref 548) _ _) _ _ _); refine stop ?_))
def FiltOf (v v' : WayV) : Prop := match v with
  | none => v' = none
  | some x => if x.2 = [] then v' = some x else if x.2.filter (fun p => okC p.2) = [] then v' = none else ∃ l', v' = some (l', x.2.filter fun p => okC p.2)
theorem filt_ctr {w : World} {n0 news : List (Addr × Obj)} {a : WA} {wv : WayV} (sub : ∀ p ∈ n0, p ∈ news) (W0 : WorldAt w n0 a) (hw : WayIn w n0 a wv) (hlen : ∀ x, wv = some x → x.2.length ≤ 1000) :
    Ctr w 40 400 (.ref 674) [wayVal wv] [] news (fun v tl => ∃ wv', v = wayVal wv' ∧ FiltOf wv wv' ∧ WayIn w (tl ++ n0) a wv') := by
  have W := W0.mono sub
  unfold Ctr
  k_fill
  intro p loose mean mg mb dp un gd cn cs ad ccd cl outer A₀ base h₀ L m s Q E B F X N T hk hd hu hret
  match wv, hw, hlen with
  | none, hw, hlen =>
    dsimp only [wayVal]
    k_steps
    exact hret _ [] _ _ (by k_asm) (newsSub (by k_asm) (by ktr_rel)) (fun _ _ _ h => nomatch h) ⟨none, rfl, rfl, trivial⟩
  | some (l, ps), hw, hlen =>
    dsimp only [wayVal]
    have hpl := hlen _ rfl
    obtain ⟨⟨nl, hl0⟩, hl02⟩ := hw
    dsimp only at hl0 hl02 hpl
    have hl1 := sub _ hl0
    have hl2 := fun p hp => (hl02 p hp).mono sub
    by_cases hps : ps = []
    · subst hps
      replace hl1 : (l, PySem.W.listOf ([] : List Value).toArray nl) ∈ news := hl1
      k_steps
      exact hret _ [] _ _ (by k_asm) (newsSub (by k_asm) (by ktr_rel)) (fun _ _ _ h => nomatch h) ⟨some (l, []), rfl, by simp [FiltOf], ⟨nl, hl0⟩, by simp⟩
    · obtain ⟨p0, pr, rfl⟩ := List.exists_cons_of_ne_nil hps
      replace hl1 : (l, PySem.W.listOf (Value.ref p0.1 :: pcVals pr).toArray nl) ∈ news := hl1
      have hlpr : (pcVals pr).length ≤ 1000 := by simp only [pcVals, List.length_map]; simp only [List.length_cons] at hpl; omega
      k_steps
      rename_i g1 L1 h1 tk1 FG B1 X1 T1 l1 o1 d1 tkx D h2 lD h3 lF N1
      have lC : ∀ p ∈ news, p.1 < L1 + 1 := fun p hp => Nat.lt_succ_of_lt (l1 p hp)
      have hDC : @Ne Nat D (L1 + 1) := Nat.ne_of_gt lD.1
      generalize hps2 : (p0 :: pr) = ps at *
      have hl1' : (l, PySem.W.listOf (pcVals ps).toArray nl) ∈ news := by rw [← hps2]; exact hl1
      clear hl1
      refine Stop.mk ?_
      refine iterT0 (fun i n₁ => ∃ oc v n, n₁ = (D, PySem.W.listOf (pcVals ((ps.take i).filter fun p => okC p.2)).toArray n) :: (L1 + 1, oc) :: news ∧ oc.data = .cell v) rfl (by k_asm) (by k_asm) ⟨_, _, 0, rfl, d1⟩ (by rintro i n₁ ⟨oc, v, n, rfl, hd⟩; exact .tail _ (.tail _ hl1')) ?_ ?_
      · rintro i v n₁ I oI h5 tk5 hv ⟨oc, v0, n5, rfl, hoc⟩ hoff F5 N5
        simp only [pcVals, List.getElem?_map, Option.map_eq_some_iff] at hv
        obtain ⟨pc, hpc, rfl⟩ := hv
        have hI1 : @Ne Nat I (L1 + 1) := fun e => hoff (L1 + 1, oc) (.tail _ (.head _)) e.symm
        have hI2 : @Ne Nat I D := fun e => hoff _ (.head _) e.symm
        obtain ⟨dc1, s1, s2, s3, s4, s5, a1, a2⟩ := hl2 _ (List.mem_of_getElem? hpc)
        obtain ⟨dv, v1, v2, v3, v4, v5, v6, v7, vl, vn, b1, b2, b3⟩ := W.var pc.2.1
        have hsz5 : (pcVals ((ps.take i).filter fun p => okC p.2)).length ≤ 1000 := by
          have h6 := List.length_filter_le (fun p : PC => okC p.2) (ps.take i)
          have h7 := List.length_take_le' i ps
          simp only [pcVals, List.length_map]
          omega
        (try dsimp only)
        (try k_fold)
        k_steps
        refine Stop.mk ?_
        ktr_call 0 (subW_ctr (W.mono (by ktr_rel)) pc.2)
        rintro r9 tl9 h9 tk9 F9 N9 hl9 ⟨rfl, rfl⟩
        simp only [List.nil_append] at N9
        have hoff' : ∀ (oc' : Obj) (o9 : Obj), ∀ p ∈ (D, o9) :: (L1 + 1, oc') :: news, p.1 ≠ I := by
          intro oc' o9 p hp
          rcases List.mem_cons.mp hp with rfl | hp
          · exact hI2.symm
          · rcases List.mem_cons.mp hp with rfl | hp
            · exact hI1.symm
            · exact hoff _ (.tail _ (.tail _ hp))
        k_steps
        · refine Stop.mk ?_
          (try dsimp only)
          have hok : okC pc.2 = true := by assumption
          refine' EndT.intro ?eF ?eN ?eO ?eJ
          case eF => k_asm
          case eN => k_asm
          case eO => exact hoff' _ _
          case eJ => exact ⟨_, _, n5 + 1, by rw [List.take_add_one, hpc]; simp [hok, pcVals]; rfl, by assumption⟩
        · refine Stop.mk ?_
          (try dsimp only)
          have hok : okC pc.2 = false := by assumption
          refine' EndT.intro ?eF ?eN ?eO ?eJ
          case eF => k_asm
          case eN => k_asm
          case eO => exact hoff' _ _
          case eJ => exact ⟨_, _, n5, by rw [List.take_add_one, hpc]; simp [hok]; rfl, by assumption⟩
      · rintro n₁ h5 tk5 ⟨oc, v, n, rfl, hoc⟩ F5 N5
        rw [show (pcVals ps).length = ps.length by simp [pcVals], List.take_length] at N5
        have hps3 : ps ≠ [] := hps
        cases hq : ps.filter fun p => okC p.2 with
        | nil =>
          rw [hq] at N5
          replace N5 : News _ _ h5 ((D, PySem.W.listOf ([] : List Value).toArray n) :: (L1 + 1, oc) :: news) := N5
          k_steps
          exact hret _ [] _ _ (by k_asm) (newsSub (by k_asm) (by ktr_rel)) (fun _ _ _ h => nomatch h) ⟨none, rfl, by simp [FiltOf, hps3, hq], trivial⟩
        | cons q0 qr =>
          rw [hq] at N5
          have hlen2 : (pcVals qr).length ≤ 1000 := by
            have h6 := List.length_filter_le (fun p : PC => okC p.2) ps
            rw [hq] at h6
            simp only [pcVals, List.length_map]
            simp only [List.length_cons] at h6
            omega
          replace N5 : News _ _ h5 ((D, PySem.W.listOf (Value.ref q0.1 :: pcVals qr).toArray n) :: (L1 + 1, oc) :: news) := N5
          k_steps
          refine hret _ [(D, PySem.W.listOf (Value.ref q0.1 :: pcVals qr).toArray n)] _ _ (by k_asm) (newsSub (by k_asm) (by ktr_rel)) (by intro q hq p hp; rw [List.mem_singleton.mp hp]; exact Nat.ne_of_lt (tb_ltOf lD.2 q hq)) ⟨some (D, q0 :: qr), rfl, ?_, ⟨n, .head _⟩, fun p hp => (hl02 p (by rw [← hq] at hp; exact (List.mem_filter.mp hp).1)).mono (by ktr_rel)⟩
          simp [FiltOf, hps3, hq]
end Mine
end
section
open PySem PySem.W PySem.Spec PySem.Calls PyProof.Rows
namespace Mine
theorem fresh_C11 : True := by
  w_top off
  trivial
local macro_rules | `(tactic| k_mem) => `(tactic| first | exact List.mem_cons_self | (refine List.mem_cons_of_mem _ ?_; k_mem))
local macro_rules | `(tactic| k_steps) => `(tactic| repeat' (first | (k_unfold; (try dsimp only)) | (k_end; wrow_close) | walk1 | (dsimp only; walk1) | (dsimp only; k_unfold; (try dsimp only)) | (leave1; walk_say "STEP leave1"; try dsimp only) | fail "no step"))
local macro_rules | `(tactic| walk_at "Hold") => `(tactic| refine stop ?_)
local macro_rules | `(tactic| walk_at "PostL0") => `(tactic| (unfold PostL0; try dsimp only))
local macro_rules | `(tactic| walk_at "EndL0") => `(tactic| refine stop ?_)
local macro_rules | `(tactic| walk_at "PostL") => `(tactic| (unfold PostL; try dsimp only))
local macro_rules | `(tactic| walk_at "EndL") => `(tactic| refine stop ?_)
local macro_rules | `(tactic| walk_at "PostM") => `(tactic| (unfold PostM; try dsimp only))
local macro_rules | `(tactic| walk_at "EndM") => `(tactic| refine stop ?_)
local macro_rules | `(tactic| walk_at "PostT") => `(tactic| (unfold PostT; try dsimp only))
local macro_rules | `(tactic| walk_at "EndT") => `(tactic| refine stop ?_)
local macro_rules | `(tactic| walk_at "pyIter ref") => `(tactic| refine stop ?_)
local macro_rules | `(tactic| ktr_call $_x:term $c:term) => `(tactic| (refine' Ctr.use ?k1 ?k2 ?k3 ?k4 ?k5 ?kK ?kC ?kd ?ku ?_; (case k1 => k_asm); (case k2 => k_asm); (case k3 => k_asm); (case k4 => k_asm); (case k5 => k_asm); (case kK => first | exact rfl | assumption); (case kC => exact $c); (case kd => ktr_room); (case ku => ktr_units)))
local macro_rules | `(tactic| k_room) => `(tactic| ktr_room)
local macro_rules | `(tactic| k_units) => `(tactic| ktr_units)
local macro_rules | `(tactic| k_enter) => `(tactic| first
  | (refine' code_def ?k1 ?k2 ?k3 ?k4 ?k5 ?kA ?kF ?kK ?k6 ?k7 ?k8 ?k9 ?kB ?_ ?c2 ?c3 ?c4 ?c5; (case k2 => k_asm); (case k3 => k_asm); (case k6 => k_is); (case k1 => k_asm); (case k4 => k_asm); (case k5 => k_asm); (case kA => exact rfl); (case kF => exact rfl); (case kK => first | exact rfl | assumption); (case k7 => k_is); (case k8 => ktr_room); (case k9 => first | exact BindsTo.of_eq rfl | exact binds_K (by k_in) rfl (by k_is) rfl rfl rfl | fail "k_enter: no rule for these arguments"); (case c5 => decide); (case kB => exact locs rfl); (case c2 => exact rfl); (case c3 => exact rfl); (case c4 => exact rfl); k_whole; intro g' L' h' FG' F' N' B' X' T'; (try dsimp only); (try k_lift B'); (try k_fold))
  | (refine' code_defC ?k1 ?k2 ?k3 ?k4 ?k5 ?kA ?kF ?kK ?k6 ?k7 ?k8 ?k9 ?kB ?kD ?_ ?c2 ?c3 ?c4; (case k2 => k_asm); (case k3 => k_asm); (case k6 => k_is); (case k1 => k_asm); (case k4 => k_asm); (case k5 => k_asm); (case kA => exact rfl); (case kF => exact rfl); (case kK => first | exact rfl | assumption); (case k7 => k_is); (case k8 => ktr_room); (case k9 => first | exact BindsTo.of_eq rfl | exact binds_K (by k_in) rfl (by k_is) rfl rfl rfl | fail "k_enter: no rule for these arguments"); (case kB => exact rfl); (case kD => decide +kernel); (case c2 => exact rfl); (case c3 => exact rfl); (case c4 => exact rfl); k_whole; intro g' L' h' tk' cells' FG' F' N' Y' B' X' T' l1; (try k_lt l1); k_cells Y'; (try simp only [List.cons_append, List.nil_append] at N'); (try dsimp only); (try k_lift B'); (try k_fold)))
local macro_rules | `(tactic| walk_at "truthy ref") => `(tactic| (k_here; (with_reducible show wpAny _ _ (truthy (Value.ref _)) _ _ _); (refine' kgr_truthy ?N ?m ?c ?d ?f ?_; (case N => k_asm); (case m => k_mem); (case c => rfl); (case d => rfl); (case f => first | omega | ((try simp only [List.length_map, List.length_cons, List.length_nil]); omega))); (try simp only [List.isEmpty_cons, List.isEmpty_nil, Bool.not_false, Bool.not_true])))
local macro_rules | `(tactic| ktr_rel) => `(tactic| (intro p hp; (try simp only [List.nil_append, List.cons_append, List.mem_cons, List.mem_append] at hp ⊢); first | exact hp | (simp [hp]; done) | (rcases hp with hp | hp <;> simp [hp])))
local macro_rules | `(tactic| walk_at "eval Name") => `(tactic| (k_here; k_dflt (refine' nameX_B ?F ?X ?T ?e ?v ?n ?_ ?a ?b; (case a => rfl); (case b => rfl); (case F => k_asm); (case X => k_asm); (case T => k_asm); (case e => k_is); (case v => boot_fast); (case n => decide); k_whole)))
local macro_rules | `(tactic| walk_at "eval Name") => `(tactic| (k_here; k_dflt (refine' nameX_K ?F ?X ?T ?e ?_ ?a ?b; (case a => rfl); (case b => rfl); (case F => k_asm); (case X => k_asm); (case T => k_asm); (case e => k_is); k_whole)))
local macro_rules | `(tactic| walk_at "eval Name") => `(tactic| (k_here; k_dflt (refine' nameX_L ?F ?v ?_ ?a ?b; (case F => k_asm); (case a => rfl); (case b => rfl); (case v => rfl); k_whole)))
local macro_rules | `(tactic| walk_at "ite") => `(tactic| ((with_reducible show ite (true = true) _ _); refine ite_pos rfl ?_))
local macro_rules | `(tactic| walk_at "ite") => `(tactic| ((with_reducible show ite (false = true) _ _); refine ite_neg Bool.false_ne_true ?_))
local macro_rules | `(tactic| walk_at "call builtin:isinstance") => `(tactic| (k_here; k_dflt (refine' isi_call ?k1 ?k2 ?k3 ?k4 ?_; (case k1 => k_in); (case k2 => k_types); (case k3 => k_is); (case k4 => intro e; cases e); k_whole)))
local macro_rules | `(tactic| walk_at "call ref") => `(tactic| (k_here; k_dflt (refine' call_cls ?k1 ?k2 ?k3 ?k4 ?k5 ?k6 ?_; (case k1 => k_asm); (case k2 => k_asm); (case k4 => k_is); (case k3 => k_asm); (case k5 => k_is); (case k6 => k_is); k_whole; intro x' d' h' F' N' l1 l2; (try k_lt l1); (try k_lt2 l2); (try k_sweep); k_enter)))
local macro_rules | `(tactic| walk_at "call ref") => `(tactic| (k_here; k_dflt (refine wpAny_call ?_; k_enter)))
local macro_rules | `(tactic| walk_at "call builtin:isinstance") => `(tactic| (k_here; (with_reducible show wpAny _ _ (call _ [Value.ref _, Value.ref _]) _ _ _); k_dflt (refine' kin_callC ?k1 ?k2 ?k3 ?k4 ?k5 ?k6 ?k7 ?k8 ?k9 ?_; (case k1 => k_in); (case k2 => k_inst); (case k3 => kin_no); (case k4 => k_is); (case k5 => k_is); (case k6 => k_is); (case k7 => k_is); (case k8 => k_is); (case k9 => k_is); k_whole)))
local macro_rules | `(tactic| walk_at "eval Name") => `(tactic| (k_here; k_dflt (refine' nameX_C ?N ?c ?m ?d ?_ ?a ?b; (case a => rfl); (case b => rfl); (case N => k_asm); (case c => rfl); (case m => k_mem); (case d => k_asm); k_whole)))
local macro_rules | `(tactic| walk_at "call builtin:list.append") => `(tactic| (k_here; (with_reducible show wpAny _ _ (call (Value.builtin _) [Value.ref _, _]) _ _ _); k_dflt (refine' append_K ?k1 ?k2 ?k3 ?_ ?z; (case k1 => k_asm); (case k2 => k_asm); (case k3 => k_upd); (case z => (simp only [List.size_toArray]; rw [sizeLine_eq]; omega)); k_whole); intro h' F' N'; (try k_sweep)))
local macro_rules | `(tactic| walk_at "eval ListComp") => `(tactic| (k_here; (with_reducible show wpAny _ _ (eval (Expr.ListComp _ [⟨Expr.Name _ _, _, [], _⟩] _ _) _) _ _ _); k_dflt (refine LCg.ListComp_U (F₀ := by k_asm) (by with_unfolding_all rfl) (by decide) (by rfl) (by decide) (by rfl) ?_)))
local macro_rules | `(tactic| walk_at "eval ListComp") => `(tactic| (k_here; (with_reducible show wpAny _ _ (eval (Expr.ListComp _ [⟨Expr.Name _ _, _, [_], _⟩] _ _) _) _ _ _); k_dflt (refine LCt.ListComp_T (F₀ := by k_asm) (by with_unfolding_all rfl) (by decide) (by rfl) (by decide) (by rfl) ?_)))
local macro_rules | `(tactic| walk_at "CompSrc") => `(tactic| refine stop ?_)
local macro_rules | `(tactic| walk_at "CompSrcT") => `(tactic| refine stop ?_)
local macro_rules | `(tactic| walk_at "CompEnd") => `(tactic| refine stop ?_)
local macro_rules | `(tactic| lsm_bools) => `(tactic| exact boolsMap _ _)
local macro_rules | `(tactic| lsm_list) => `(tactic| exact News.isList (by k_asm) (by k_mem))
local macro_rules | `(tactic| walk_at "exec For Name Name cons nil") => `(tactic| (k_here; (rename Fr _ _ _ _ => lF'); (with_unfolding_all refine' For_turns lF' ?_; k_whole)))
local macro_rules | `(tactic| walk_at "call builtin:len") => `(tactic| (k_here; (with_reducible show wpAny _ _ (call (Value.builtin "len") [Value.ref _]) _ _ _); (refine' lenLed ?N ?m ?f ?_; (case N => k_asm); (case m => k_mem); (case f => first | omega | ((try simp only [List.length_map, List.length_cons, List.length_nil]); omega))); (try simp only [List.length_cons, List.length_nil])))
local macro_rules | `(tactic| walk_at "subscriptTail Name Slice ref ref") => `(tactic| (k_here; (with_reducible show wpAny _ _ (subscriptTail _ (PySem.Expr.Slice _ _ none _) (Value.ref _) (Value.ref _)) _ _ _); k_dflt (refine' kmk_slice_lit ?F ?N ?l ?p ?q ?e ?_ ?s ?t ?z; (case F => k_asm); (case N => k_asm); (case l => exact News.isList (by k_asm) (by k_mem)); (case p => kmk_part); (case q => kmk_part); (case e => exact slice1 _ _); (case s => with_unfolding_all rfl); (case t => kmk_pure); (case z => (simp only [List.size_toArray, List.length_cons]; rw [sizeLine_eq]; omega))); intro D' h' F' N' l1; (try k_lt l1); (try k_sweep)))
def SameOf (v v' : WayV) : Prop := match v with
  | none => v' = none
  | some x => ∃ l', v' = some (l', x.2)
theorem excl_ctr {w : World} {n0 news : List (Addr × Obj)} {a : WA} {wv : WayV} (sub : ∀ p ∈ n0, p ∈ news) (W0 : WorldAt w n0 a) (hw : WayIn w n0 a wv) (hlen : ∀ x, wv = some x → x.2.length ≤ 1000) :
    Ctr w 40 400 (.ref 679) [wayVal wv] [] news (fun v tl => ∃ wv', v = wayVal wv' ∧ SameOf wv wv' ∧ WayIn w (tl ++ n0) a wv') := by
  have W := W0.mono sub
  unfold Ctr
  k_fill
  intro p loose mean mg mb dp un gd cn cs ad ccd cl outer A₀ base h₀ L m s Q E B F X N T hk hd hu hret
  match wv, hw, hlen with
  | none, hw, hlen =>
    dsimp only [wayVal]
    k_steps
    exact hret _ [] _ _ (by k_asm) (newsSub (by k_asm) (by ktr_rel)) (fun _ _ _ h => nomatch h) ⟨none, rfl, rfl, trivial⟩
  | some (l, ps), hw, hlen =>
    dsimp only [wayVal]
    have hpl := hlen _ rfl
    obtain ⟨⟨nl, hl0⟩, hl02⟩ := hw
    dsimp only at hl0 hl02 hpl
    have hl1 := sub _ hl0
    have hl2 := fun p hp => (hl02 p hp).mono sub
    by_cases hps : ps = []
    · subst hps
      replace hl1 : (l, PySem.W.listOf ([] : List Value).toArray nl) ∈ news := hl1
      k_steps
      exact hret _ [] _ _ (by k_asm) (newsSub (by k_asm) (by ktr_rel)) (fun _ _ _ h => nomatch h) ⟨some (l, []), rfl, ⟨l, rfl⟩, ⟨nl, hl0⟩, by simp⟩
    · obtain ⟨p0, pr, rfl⟩ := List.exists_cons_of_ne_nil hps
      replace hl1 : (l, PySem.W.listOf (Value.ref p0.1 :: pcVals pr).toArray nl) ∈ news := hl1
      have hlpr : (pcVals pr).length ≤ 1000 := by simp only [pcVals, List.length_map]; simp only [List.length_cons] at hpl; omega
      k_steps
      refine Stop.mk ?_
      refine srcLedT (vs := pcVals (p0 :: pr)) (k := nl) (fun i ys n₁ => n₁ = news ∧ ys = pcVals ((p0 :: pr).take i)) rfl (by k_asm) (by k_asm) hl1 ?_ ⟨rfl, by simp [pcVals]⟩ ?_ ?_
      · simp only [pcVals, List.length_map, sizeLine_eq]; omega
      · rintro i v ys n₁ I5 oI5 C5 oC5 D5 m5 g5 tk5 E5 hv ⟨rfl, rfl⟩ hC5 hx5 F5 N5 off5 ne5
        simp only [pcVals, List.getElem?_map, Option.map_eq_some_iff] at hv
        obtain ⟨pc, hpc, rfl⟩ := hv
        obtain ⟨dc1, s1, s2, s3, s4, s5, a1, a2⟩ := hl2 _ (List.mem_of_getElem? hpc)
        obtain ⟨di1, r1, r2, r3, r4, e1, e2⟩ := W.id pc.2.1
        (try dsimp only)
        (try k_fold)
        k_steps
        refine Stop.mk ?_
        refine LCg.CompEnd.intro (by k_asm) (by k_asm) _ (fun p hp => hp) off5 (.inr ⟨_, hl1, rfl, _, rfl⟩) ⟨rfl, ?_⟩
        rw [List.take_add_one, hpc]; simp [pcVals]
      · rintro g ys n₁ ⟨rfl, rfl⟩
        rw [show (pcVals (p0 :: pr)).length = (p0 :: pr).length by simp [pcVals], List.take_length]
        unfold LCg.FinE
        intro D5 h5 tk5 F5 N5 o5
        replace N5 : News _ _ h5 ((D5, PySem.W.listOf (Value.ref p0.1 :: pcVals pr).toArray (pcVals (p0 :: pr)).length) :: n₁) := N5
        k_steps
        exact hret _ [(D5, PySem.W.listOf (pcVals (p0 :: pr)).toArray (pcVals (p0 :: pr)).length)] _ _ (by k_asm) (newsSub (by k_asm) (by ktr_rel)) (by intro q hq p hp; rw [List.mem_singleton.mp hp]; exact off1 o5 q hq)
          ⟨some (D5, p0 :: pr), rfl, ⟨D5, rfl⟩, ⟨_, .head _⟩, fun p hp => (hl02 p hp).mono (by ktr_rel)⟩
end Mine
end
section
open PySem PySem.W PySem.Spec PySem.Calls PyProof.Rows
namespace Mine
theorem fresh_D2 : True := by
  w_top off
  trivial
/-- the ways that count -/
def keepV (eager : Bool) : WayV → Option (Addr × List PC)
  | none => none
  | some x => if (eager && x.2.isEmpty) = true then none else some x
def validV (eager : Bool) (ws : List WayV) : List (Addr × List PC) := ws.filterMap (keepV eager)
def addrVals (xs : List (Addr × List PC)) : List Value := xs.map fun x => Value.ref x.1
theorem validV_take (eager : Bool) (ws : List WayV) {i : Nat} {v : WayV} (h : ws[i]? = some v) : validV eager (ws.take (i + 1)) = validV eager (ws.take i) ++ (keepV eager v).toList := by
  unfold validV
  rw [List.take_add_one, h, List.filterMap_append]
  cases hk : keepV eager v <;> simp [hk]
theorem validV_mem {eager : Bool} {ws : List WayV} {z : Addr × List PC} (h : z ∈ validV eager ws) : some z ∈ ws := by
  unfold validV at h
  obtain ⟨v, hv, e⟩ := List.mem_filterMap.mp h
  cases v with
  | none => simp [keepV] at e
  | some x =>
    simp only [keepV] at e
    split at e
    · cases e
    · cases e; exact hv
def setEq (ps qs : List PC) : Bool := subC ps qs && subC qs ps
end Mine
end
section
open PySem PySem.W PySem.Spec PySem.Calls PyProof.Rows
namespace Mine
theorem fresh_D3 : True := by
  w_top off
  trivial
/-- what is written of a way, no address in sight -/
abbrev CV := Option (List Con)
def ct (v : WayV) : CV := v.map fun x => x.2.map (·.2)
def keepC (eager : Bool) : CV → Option (List Con)
  | none => none
  | some c => if (eager && c.isEmpty) = true then none else some c
def valC (eager : Bool) (ks : List CV) : List (List Con) := ks.filterMap (keepC eager)
def eqC (p q : List Con) : Bool := (p.all fun x => q.any fun y => decide (x = y)) && (q.all fun x => p.any fun y => decide (x = y))
def filC : CV → CV
  | none => none
  | some c => if c = [] then some [] else if c.filter okC = [] then none else some (c.filter okC)
def anyR : List (List Con) → Option (List Con)
  | [] => some []
  | c :: r => if (r.all (eqC c)) = true then some c else none
def anyC (eager : Bool) (ks : List CV) : List Con :=
  match anyR (valC eager ks) with
  | some c => c
  | none => match anyR (valC eager (ks.map filC)) with
    | some c => c
    | none => []
def csOf (x : Addr × List PC) : List Con := x.2.map (·.2)
theorem valC_ct (eager : Bool) (ws : List WayV) : valC eager (ws.map ct) = (validV eager ws).map csOf := by
  unfold valC validV
  rw [List.filterMap_map, List.map_filterMap]
  congr 1
  funext v
  cases v with
  | none => rfl
  | some x =>
    simp only [Function.comp, ct, keepC, keepV, Option.map_some, List.isEmpty_map]
    by_cases h : (eager && x.2.isEmpty) = true
    · rw [if_pos h, if_pos h]; rfl
    · rw [if_neg h, if_neg h]; rfl
theorem setEq_eqC (x y : Addr × List PC) : setEq x.2 y.2 = eqC (csOf x) (csOf y) := by
  unfold setEq subC eqC csOf
  simp only [List.all_map, List.any_map]
  rfl
theorem filC_ct {v v' : WayV} (h : FiltOf v v') : ct v' = filC (ct v) := by
  cases v with
  | none => cases h; rfl
  | some x =>
    simp only [FiltOf] at h
    simp only [ct, filC, Option.map_some]
    have hf : (x.2.map (·.2)).filter okC = (x.2.filter fun p => okC p.2).map (·.2) := by rw [List.filter_map]; rfl
    by_cases h1 : x.2 = []
    · rw [if_pos h1] at h
      subst h
      simp [h1]
    · rw [if_neg h1] at h
      rw [if_neg (by simpa using h1), hf]
      by_cases h2 : (x.2.filter fun p => okC p.2) = []
      · rw [if_pos h2] at h
        subst h
        rw [if_pos (by simp [h2])]; rfl
      · rw [if_neg h2] at h
        obtain ⟨l', rfl⟩ := h
        rw [if_neg (by simpa using h2)]; rfl
theorem same_ct {v v' : WayV} (h : SameOf v v') : ct v' = ct v := by
  cases v with
  | none => cases h; rfl
  | some x => obtain ⟨l', rfl⟩ := h; rfl
theorem filC_idem (k : CV) : filC (filC k) = filC k := by
  cases k with
  | none => rfl
  | some c =>
    simp only [filC]
    by_cases h1 : c = []
    · simp [h1]
    · rw [if_neg h1]
      by_cases h2 : c.filter okC = []
      · rw [if_pos h2]
      · rw [if_neg h2]; simp only [filC, if_neg h2]
        rw [List.filter_filter]; simp [h2]
/-- if the sizes agree the rows agree -/
def NearOf (v v' : WayV) : Prop := ∀ x x', v = some x → v' = some x' → x'.2.length = x.2.length → x'.2 = x.2
theorem FiltOf.near {v v' : WayV} (h : FiltOf v v') : NearOf v v' := by
  rintro x x' rfl rfl hl
  simp only [FiltOf] at h
  split at h
  · cases h; rfl
  · split at h
    · cases h
    · obtain ⟨l', e⟩ := h
      cases e
      exact List.filter_eq_self.mpr (List.length_filter_eq_length_iff.mp hl)
theorem SameOf.near {v v' : WayV} (h : SameOf v v') : NearOf v v' := by
  rintro x x' rfl rfl hl
  obtain ⟨l', e⟩ := h
  cases e
  rfl

/-- pointwise -/
def Rel2 (R : WayV → WayV → Prop) (ws ws1 : List WayV) : Prop := ws1.length = ws.length ∧ ∀ (i : Nat) (v v' : WayV), ws[i]? = some v → ws1[i]? = some v' → R v v'
theorem Rel2.nil (R : WayV → WayV → Prop) : Rel2 R [] [] := ⟨rfl, fun i v v' h => by simp at h⟩
theorem Rel2.snoc {R : WayV → WayV → Prop} {ws ws1 : List WayV} {i : Nat} {v v' : WayV} (h : Rel2 R (ws.take i) ws1) (hv : ws[i]? = some v) (r : R v v') : Rel2 R (ws.take (i + 1)) (ws1 ++ [v']) := by
  obtain ⟨h1, h2⟩ := h
  have hi : i < ws.length := (List.getElem?_eq_some_iff.mp hv).1
  have hl : ws1.length = i := by rw [h1, List.length_take]; omega
  refine ⟨by simp only [List.length_append, List.length_take, List.length_singleton, hl]; omega, fun j u u' hu hu' => ?_⟩
  rcases Nat.lt_trichotomy j i with hj | hj | hj
  · rw [List.getElem?_append_left (by omega)] at hu'
    refine h2 j u u' ?_ hu'
    rw [List.getElem?_take] at hu ⊢
    rw [if_pos (by omega)] at hu
    rw [if_pos hj]; exact hu
  · subst hj
    rw [List.getElem?_take, if_pos (by omega), hv] at hu
    rw [List.getElem?_append_right (by omega), hl, Nat.sub_self] at hu'
    cases hu; cases hu'; exact r
  · rw [List.getElem?_take, if_neg (by omega)] at hu
    cases hu
theorem Rel2.mono {R S : WayV → WayV → Prop} {ws ws1 : List WayV} (h : Rel2 R ws ws1) (g : ∀ v v', R v v' → S v v') : Rel2 S ws ws1 := ⟨h.1, fun i v v' a b => g _ _ (h.2 i v v' a b)⟩
theorem Rel2.filC {ws ws1 : List WayV} (h : Rel2 FiltOf ws ws1) : ws1.map ct = (ws.map ct).map filC := by
  refine List.ext_getElem (by simp [h.1]) fun j j1 j2 => ?_
  simp only [List.getElem_map]
  have k1 : j < ws1.length := by simpa using j1
  have k2 : j < ws.length := by simpa using j2
  exact filC_ct (h.2 j _ _ (List.getElem?_eq_getElem k2) (List.getElem?_eq_getElem k1))
theorem Rel2.same {ws ws1 : List WayV} (h : Rel2 SameOf ws ws1) : ws1.map ct = ws.map ct := by
  refine List.ext_getElem (by simp [h.1]) fun j j1 j2 => ?_
  simp only [List.getElem_map]
  have k1 : j < ws1.length := by simpa using j1
  have k2 : j < ws.length := by simpa using j2
  exact same_ct (h.2 j _ _ (List.getElem?_eq_getElem k2) (List.getElem?_eq_getElem k1))
theorem FiltOf.len {v v' : WayV} (h : FiltOf v v') {n : Nat} (hl : ∀ x, v = some x → x.2.length ≤ n) : ∀ x, v' = some x → x.2.length ≤ n := by
  rintro x rfl
  cases v with
  | none => cases h
  | some y =>
    simp only [FiltOf] at h
    have hy := hl y rfl
    split at h
    · cases h; exact hy
    · split at h
      · cases h
      · obtain ⟨l', e⟩ := h
        cases e
        exact Nat.le_trans (List.length_filter_le _ _) hy
theorem Rel2.len {ws ws1 : List WayV} (h : Rel2 FiltOf ws ws1) {n : Nat} (hl : ∀ x, some x ∈ ws → x.2.length ≤ n) : ∀ x, some x ∈ ws1 → x.2.length ≤ n := by
  intro x hx
  obtain ⟨j, j1, e⟩ := List.getElem_of_mem hx
  have k2 : j < ws.length := by rw [← h.1]; exact j1
  exact (h.2 j ws[j] (some x) (List.getElem?_eq_getElem k2) (by rw [List.getElem?_eq_getElem j1, e])).len (fun y hy => hl y (hy ▸ List.getElem_mem _)) x rfl
theorem anyR_same {x : Addr × List PC} {v : List (Addr × List PC)} (h : (v.all fun z => setEq x.2 z.2) = true) : anyR ((x :: v).map csOf) = some (csOf x) := by
  simp only [List.map_cons, anyR]
  rw [if_pos]
  rw [List.all_map]
  rw [← h]
  congr 1
  funext z
  exact (setEq_eqC x z).symm
theorem anyR_diff {x : Addr × List PC} {v : List (Addr × List PC)} (h : (v.all fun z => setEq x.2 z.2) = false) : anyR ((x :: v).map csOf) = none := by
  simp only [List.map_cons, anyR]
  rw [if_neg]
  rw [List.all_map]
  intro e
  rw [show (eqC (csOf x) ∘ csOf) = fun z => setEq x.2 z.2 from funext fun z => (setEq_eqC x z).symm, h] at e
  cases e
theorem filC_map_idem (ks : List CV) : (ks.map filC).map filC = ks.map filC := by
  rw [List.map_map]
  exact List.map_congr_left fun k _ => filC_idem k
theorem anyC_rec {eager : Bool} {ks : List CV} (h : anyR (valC eager ks) = none) : anyC eager (ks.map filC) = anyC eager ks := by
  unfold anyC
  rw [h, filC_map_idem]
  cases hr : anyR (valC eager (ks.map filC)) with
  | some c => rfl
  | none => rfl
theorem anyC_fix {eager : Bool} {ks : List CV} (h : anyR (valC eager ks) = none) (hf : ks.map filC = ks) : anyC eager ks = [] := by
  unfold anyC
  rw [hf, h]
section
open PySem.SeqAt
variable {w : World} {A : Around} {s : Shared} {h₀ : Heap} {L : Addr} {news : List (Addr × Obj)} {a : WA}
theorem pcVals_inj {ps qs : List PC} (h : (PySem.W.listOf (pcVals ps).toArray n) = PySem.W.listOf (pcVals qs).toArray m) : ps.length = qs.length := by
  have h2 : (pcVals ps).toArray = (pcVals qs).toArray := by
    have h3 := congrArg Obj.data h
    injection h3
  have h4 : pcVals ps = pcVals qs := by simpa using h2
  have h5 := congrArg List.length h4
  simpa [pcVals] using h5
theorem way_eqAt {v v' : WayV} (N : News h₀ L s.heap news) (h1 : WayIn w news a v) (h2 : WayIn w news a v') (hn : NearOf v v') (hu : A.units < cLine) :
    EqAt A s (wayVal v') (wayVal v) (decide (ct v' = ct v)) := by
  match v, v', h1, h2, hn with
  | none, none, _, _, _ => exact EqAt.same _
  | some (l, ps), none, ⟨⟨n, h1⟩, _⟩, _, _ => exact EqAt.none_list (News.isList N h1) hu
  | none, some (l, ps), _, ⟨⟨n, h1⟩, _⟩, _ => exact EqAt.list_none (News.isList N h1) hu
  | some (l, ps), some (l', ps'), ⟨⟨n, h1⟩, _⟩, ⟨⟨n', h2⟩, _⟩, hn =>
    have hn2 := hn _ _ rfl rfl
    dsimp only at h1 h2 hn2
    by_cases hl : l' = l
    · subst hl
      have e3 := (N _ h1).1.symm.trans (N _ h2).1
      have e4 := pcVals_inj (Option.some.inj e3)
      rw [hn2 e4.symm]
      rw [show decide (ct (some (l', ps)) = ct (some (l', ps))) = true from decide_eq_true rfl]
      exact EqAt.same _
    · refine EqAt.of_refs hl ?_
      by_cases hz : ps'.length = ps.length
      · have e := hn2 hz
        subst e
        rw [show decide (ct (some (l', ps')) = ct (some (l, ps'))) = true from decide_eq_true rfl]
        have h := RcAt.lists (A := A) (s := s) (e := fun _ => true) (News.isList N h2) (News.isList N h1) rfl hu (fun j _ _ => EqAt.same _)
        rw [show ((List.range (pcVals ps').toArray.size).all fun _ => true) = true from List.all_eq_true.mpr fun _ _ => rfl] at h
        exact h
      · rw [show decide (ct (some (l', ps')) = ct (some (l, ps))) = false from decide_eq_false fun e => hz (by
          have e2 := Option.some.inj e
          simpa using congrArg List.length e2)]
        exact RcAt.lists_lengths (News.isList N h2) (News.isList N h1) (by simpa [pcVals] using hz) hu
theorem ne_ways {prog : Program} {E Q : Value → Shared → Prop} {l l' : Addr} {ws ws' : List WayV} (N : News h₀ L s.heap news) (h1 : WaysAt w news a l ws) (h2 : WaysAt w news a l' ws') (hlen : ws'.length = ws.length)
    (hn : ∀ (i : Nat) (v v' : WayV), ws[i]? = some v → ws'[i]? = some v' → NearOf v v') (hu : A.units + 1 < cLine) (hq : Q (.bool (decide (ws'.map ct ≠ ws.map ct))) s) :
    wpAny (model prog w) A (compareOp .NotEq (.ref l') (.ref l)) Q E s := by
  obtain ⟨⟨n, h1⟩, h3⟩ := h1
  obtain ⟨⟨n', h2⟩, h4⟩ := h2
  have h := RcNeAt.lists (A := A) (s := s) (e := fun j => decide (ws'[j]?.map ct = ws[j]?.map ct)) (News.isList N h2) (News.isList N h1) (by simp [hlen]) (by omega) (fun j j1 j2 => by
    have k1 : j < ws'.length := by simpa using j1
    have k2 : j < ws.length := by simpa using j2
    have g := way_eqAt (A := A.in1) (s := s) (v := ws[j]) (v' := ws'[j]) N (h3 _ (List.getElem_mem _)) (h4 _ (List.getElem_mem _)) (hn j _ _ (by simp [k2]) (by simp [k1])) hu
    simpa [k1, k2] using g)
  refine h prog w E Q ?_
  have e : (!(List.range (ws'.map wayVal).toArray.size).all fun j => decide (ws'[j]?.map ct = ws[j]?.map ct)) = decide (ws'.map ct ≠ ws.map ct) := by
    rw [show (ws'.map wayVal).toArray.size = ws'.length by simp]
    by_cases hx : ws'.map ct = ws.map ct
    · have : ((List.range ws'.length).all fun j => decide (ws'[j]?.map ct = ws[j]?.map ct)) = true := by
        rw [List.all_eq_true]
        intro j _
        have := congrArg (fun l => l[j]?) hx
        simpa using this
      rw [this]; simp [hx]
    · have : ((List.range ws'.length).all fun j => decide (ws'[j]?.map ct = ws[j]?.map ct)) = false := by
        rw [← Bool.not_eq_true]
        intro hall
        rw [List.all_eq_true] at hall
        apply hx
        refine List.ext_getElem? fun j => ?_
        rw [List.getElem?_map, List.getElem?_map]
        by_cases hj : j < ws'.length
        · exact of_decide_eq_true (hall j (List.mem_range.mpr hj))
        · rw [List.getElem?_eq_none (by omega), List.getElem?_eq_none (by omega)]
      rw [this]; simp [hx]
  rw [e]; exact hq
end
end Mine
end
section
open PySem PySem.W PySem.Spec PySem.Calls PyProof.Rows
namespace Mine
theorem fresh_C12 : True := by
  w_top off
  trivial
local macro_rules | `(tactic| k_mem) => `(tactic| first | exact List.mem_cons_self | (refine List.mem_cons_of_mem _ ?_; k_mem))
local macro_rules | `(tactic| k_steps) => `(tactic| repeat' (first | (k_unfold; (try dsimp only)) | (k_end; wrow_close) | walk1 | (dsimp only; walk1) | (dsimp only; k_unfold; (try dsimp only)) | (leave1; walk_say "STEP leave1"; try dsimp only) | fail "no step"))
local macro_rules | `(tactic| walk_at "Hold") => `(tactic| refine stop ?_)
local macro_rules | `(tactic| walk_at "PostL0") => `(tactic| (unfold PostL0; try dsimp only))
local macro_rules | `(tactic| walk_at "EndL0") => `(tactic| refine stop ?_)
local macro_rules | `(tactic| walk_at "PostL") => `(tactic| (unfold PostL; try dsimp only))
local macro_rules | `(tactic| walk_at "EndL") => `(tactic| refine stop ?_)
local macro_rules | `(tactic| walk_at "PostM") => `(tactic| (unfold PostM; try dsimp only))
local macro_rules | `(tactic| walk_at "EndM") => `(tactic| refine stop ?_)
local macro_rules | `(tactic| walk_at "PostT") => `(tactic| (unfold PostT; try dsimp only))
local macro_rules | `(tactic| walk_at "EndT") => `(tactic| refine stop ?_)
local macro_rules | `(tactic| walk_at "pyIter ref") => `(tactic| refine stop ?_)
local macro_rules | `(tactic| ktr_call $_x:term $c:term) => `(tactic| (refine' Ctr.use ?k1 ?k2 ?k3 ?k4 ?k5 ?kK ?kC ?kd ?ku ?_; (case k1 => k_asm); (case k2 => k_asm); (case k3 => k_asm); (case k4 => k_asm); (case k5 => k_asm); (case kK => first | exact rfl | assumption); (case kC => exact $c); (case kd => ktr_room); (case ku => ktr_units)))
local macro_rules | `(tactic| k_room) => `(tactic| ktr_room)
local macro_rules | `(tactic| k_units) => `(tactic| ktr_units)
local macro_rules | `(tactic| k_enter) => `(tactic| first
  | (refine' code_def ?k1 ?k2 ?k3 ?k4 ?k5 ?kA ?kF ?kK ?k6 ?k7 ?k8 ?k9 ?kB ?_ ?c2 ?c3 ?c4 ?c5; (case k2 => k_asm); (case k3 => k_asm); (case k6 => k_is); (case k1 => k_asm); (case k4 => k_asm); (case k5 => k_asm); (case kA => exact rfl); (case kF => exact rfl); (case kK => first | exact rfl | assumption); (case k7 => k_is); (case k8 => ktr_room); (case k9 => first | exact BindsTo.of_eq rfl | exact binds_K (by k_in) rfl (by k_is) rfl rfl rfl | fail "k_enter: no rule for these arguments"); (case c5 => decide); (case kB => exact locs rfl); (case c2 => exact rfl); (case c3 => exact rfl); (case c4 => exact rfl); k_whole; intro g' L' h' FG' F' N' B' X' T'; (try dsimp only); (try k_lift B'); (try k_fold))
  | (refine' code_defC ?k1 ?k2 ?k3 ?k4 ?k5 ?kA ?kF ?kK ?k6 ?k7 ?k8 ?k9 ?kB ?kD ?_ ?c2 ?c3 ?c4; (case k2 => k_asm); (case k3 => k_asm); (case k6 => k_is); (case k1 => k_asm); (case k4 => k_asm); (case k5 => k_asm); (case kA => exact rfl); (case kF => exact rfl); (case kK => first | exact rfl | assumption); (case k7 => k_is); (case k8 => ktr_room); (case k9 => first | exact BindsTo.of_eq rfl | exact binds_K (by k_in) rfl (by k_is) rfl rfl rfl | fail "k_enter: no rule for these arguments"); (case kB => exact rfl); (case kD => decide +kernel); (case c2 => exact rfl); (case c3 => exact rfl); (case c4 => exact rfl); k_whole; intro g' L' h' tk' cells' FG' F' N' Y' B' X' T' l1; (try k_lt l1); k_cells Y'; (try simp only [List.cons_append, List.nil_append] at N'); (try dsimp only); (try k_lift B'); (try k_fold)))
local macro_rules | `(tactic| walk_at "truthy ref") => `(tactic| (k_here; (with_reducible show wpAny _ _ (truthy (Value.ref _)) _ _ _); (refine' kgr_truthy ?N ?m ?c ?d ?f ?_; (case N => k_asm); (case m => k_mem); (case c => rfl); (case d => rfl); (case f => first | omega | ((try simp only [List.length_map, List.length_cons, List.length_nil]); omega))); (try simp only [List.isEmpty_cons, List.isEmpty_nil, Bool.not_false, Bool.not_true])))
local macro_rules | `(tactic| ktr_rel) => `(tactic| (intro p hp; (try simp only [List.nil_append, List.cons_append, List.mem_cons, List.mem_append] at hp ⊢); first | exact hp | (simp [hp]; done) | (rcases hp with hp | hp <;> simp [hp])))
local macro_rules | `(tactic| walk_at "eval Name") => `(tactic| (k_here; k_dflt (refine' nameX_B ?F ?X ?T ?e ?v ?n ?_ ?a ?b; (case a => rfl); (case b => rfl); (case F => k_asm); (case X => k_asm); (case T => k_asm); (case e => k_is); (case v => boot_fast); (case n => decide); k_whole)))
local macro_rules | `(tactic| walk_at "eval Name") => `(tactic| (k_here; k_dflt (refine' nameX_K ?F ?X ?T ?e ?_ ?a ?b; (case a => rfl); (case b => rfl); (case F => k_asm); (case X => k_asm); (case T => k_asm); (case e => k_is); k_whole)))
local macro_rules | `(tactic| walk_at "eval Name") => `(tactic| (k_here; k_dflt (refine' nameX_L ?F ?v ?_ ?a ?b; (case F => k_asm); (case a => rfl); (case b => rfl); (case v => rfl); k_whole)))
local macro_rules | `(tactic| walk_at "ite") => `(tactic| ((with_reducible show ite (true = true) _ _); refine ite_pos rfl ?_))
local macro_rules | `(tactic| walk_at "ite") => `(tactic| ((with_reducible show ite (false = true) _ _); refine ite_neg Bool.false_ne_true ?_))
local macro_rules | `(tactic| walk_at "call builtin:isinstance") => `(tactic| (k_here; k_dflt (refine' isi_call ?k1 ?k2 ?k3 ?k4 ?_; (case k1 => k_in); (case k2 => k_types); (case k3 => k_is); (case k4 => intro e; cases e); k_whole)))
local macro_rules | `(tactic| walk_at "call ref") => `(tactic| (k_here; k_dflt (refine' call_cls ?k1 ?k2 ?k3 ?k4 ?k5 ?k6 ?_; (case k1 => k_asm); (case k2 => k_asm); (case k4 => k_is); (case k3 => k_asm); (case k5 => k_is); (case k6 => k_is); k_whole; intro x' d' h' F' N' l1 l2; (try k_lt l1); (try k_lt2 l2); (try k_sweep); k_enter)))
local macro_rules | `(tactic| walk_at "call ref") => `(tactic| (k_here; k_dflt (refine wpAny_call ?_; k_enter)))
local macro_rules | `(tactic| walk_at "call builtin:isinstance") => `(tactic| (k_here; (with_reducible show wpAny _ _ (call _ [Value.ref _, Value.ref _]) _ _ _); k_dflt (refine' kin_callC ?k1 ?k2 ?k3 ?k4 ?k5 ?k6 ?k7 ?k8 ?k9 ?_; (case k1 => k_in); (case k2 => k_inst); (case k3 => kin_no); (case k4 => k_is); (case k5 => k_is); (case k6 => k_is); (case k7 => k_is); (case k8 => k_is); (case k9 => k_is); k_whole)))
local macro_rules | `(tactic| walk_at "eval Name") => `(tactic| (k_here; k_dflt (refine' nameX_C ?N ?c ?m ?d ?_ ?a ?b; (case a => rfl); (case b => rfl); (case N => k_asm); (case c => rfl); (case m => k_mem); (case d => k_asm); k_whole)))
local macro_rules | `(tactic| walk_at "call builtin:list.append") => `(tactic| (k_here; (with_reducible show wpAny _ _ (call (Value.builtin _) [Value.ref _, _]) _ _ _); k_dflt (refine' append_K ?k1 ?k2 ?k3 ?_ ?z; (case k1 => k_asm); (case k2 => k_asm); (case k3 => k_upd); (case z => (simp only [List.size_toArray]; rw [sizeLine_eq]; omega)); k_whole); intro h' F' N'; (try k_sweep)))
local macro_rules | `(tactic| walk_at "eval ListComp") => `(tactic| (k_here; (with_reducible show wpAny _ _ (eval (Expr.ListComp _ [⟨Expr.Name _ _, _, [], _⟩] _ _) _) _ _ _); k_dflt (refine LCg.ListComp_U (F₀ := by k_asm) (by with_unfolding_all rfl) (by decide) (by rfl) (by decide) (by rfl) ?_)))
local macro_rules | `(tactic| walk_at "eval ListComp") => `(tactic| (k_here; (with_reducible show wpAny _ _ (eval (Expr.ListComp _ [⟨Expr.Name _ _, _, [_], _⟩] _ _) _) _ _ _); k_dflt (refine LCt.ListComp_T (F₀ := by k_asm) (by with_unfolding_all rfl) (by decide) (by rfl) (by decide) (by rfl) ?_)))
local macro_rules | `(tactic| walk_at "CompSrc") => `(tactic| refine stop ?_)
local macro_rules | `(tactic| walk_at "CompSrcT") => `(tactic| refine stop ?_)
local macro_rules | `(tactic| walk_at "CompEnd") => `(tactic| refine stop ?_)
local macro_rules | `(tactic| lsm_bools) => `(tactic| exact boolsMap _ _)
local macro_rules | `(tactic| lsm_list) => `(tactic| exact News.isList (by k_asm) (by k_mem))
local macro_rules | `(tactic| walk_at "exec For Name Name cons nil") => `(tactic| (k_here; (rename Fr _ _ _ _ => lF'); (with_unfolding_all refine' For_turns lF' ?_; k_whole)))
local macro_rules | `(tactic| walk_at "call builtin:len") => `(tactic| (k_here; (with_reducible show wpAny _ _ (call (Value.builtin "len") [Value.ref _]) _ _ _); (refine' lenLed ?N ?m ?f ?_; (case N => k_asm); (case m => k_mem); (case f => first | omega | ((try simp only [List.length_map, List.length_cons, List.length_nil]); omega))); (try simp only [List.length_cons, List.length_nil])))
local macro_rules | `(tactic| walk_at "subscriptTail Name Slice ref ref") => `(tactic| (k_here; (with_reducible show wpAny _ _ (subscriptTail _ (PySem.Expr.Slice _ _ none _) (Value.ref _) (Value.ref _)) _ _ _); k_dflt (refine' kmk_slice_lit ?F ?N ?l ?p ?q ?e ?_ ?s ?t ?z; (case F => k_asm); (case N => k_asm); (case l => exact News.isList (by k_asm) (by k_mem)); (case p => kmk_part); (case q => kmk_part); (case e => exact slice1 _ _); (case s => with_unfolding_all rfl); (case t => kmk_pure); (case z => (simp only [List.size_toArray, List.length_cons]; rw [sizeLine_eq]; omega))); intro D' h' F' N' l1; (try k_lt l1); (try k_sweep)))
local macro_rules | `(tactic| walk_at "exec If") => `(tactic| ((with_reducible show wpAny _ _ (exec (Stmt.If (Expr.Name _ _) _ _ _) _) _ _ _); refine stop ?_))
local macro_rules | `(tactic| walk_at "call ref") => `(tactic| ((with_reducible show wpAny _ _ (call (Value.ref 684) _ _) _ _ _); refine stop ?_))
local macro_rules | `(tactic| walk_at "exec If") => `(tactic| ((with_reducible show wpAny _ _ (exec (Stmt.If (Expr.Call _ _ _ _) (Stmt.Assign _ _ _ :: _) _ _) _) _ _ _); refine stop ?_))
local macro_rules | `(tactic| walk_at "exec Assign cons ListComp") => `(tactic| (k_here; (with_reducible show wpAny _ _ (exec (Stmt.Assign [Expr.Name _ _] (Expr.ListComp _ [⟨Expr.Name _ _, _, [], _⟩] _ _) _) _) _ _ _); k_dflt (refine LCg.Assign_ListComp_U (F₀ := by k_asm) (by rfl) (by with_unfolding_all rfl) (by with_unfolding_all rfl) (by decide) (by rfl) (by decide) (by rfl) (by rfl) (by rfl) ?_)))
local macro_rules | `(tactic| walk_at "call ref") => `(tactic| ((with_reducible show wpAny _ _ (call (Value.ref 698) _ _) _ _ _); refine stop ?_))
local macro_rules | `(tactic| walk_at "call ref") => `(tactic| ((with_reducible show wpAny _ _ (call (Value.ref 652) _ _) _ _ _); refine stop ?_))
local macro_rules | `(tactic| walk_at "call ref") => `(tactic| ((with_reducible show wpAny _ _ (call (Value.ref 674) _ _) _ _ _); refine stop ?_))
local macro_rules | `(tactic| walk_at "call ref") => `(tactic| ((with_reducible show wpAny _ _ (call (Value.ref 679) _ _) _ _ _); refine stop ?_))
local macro_rules | `(tactic| walk_at "call ref") => `(tactic| ((with_reducible show wpAny _ _ (call (Value.ref 669) _ _) _ _ _); refine stop ?_))
local macro_rules | `(tactic| walk_at "compareOp NotEq ref ref") => `(tactic| refine stop ?_)
theorem fr_same {h₀ h : Heap} {L : Addr} {m : Str → Option Value} {x : Str} (F : Fr h₀ L h m) : Fr h₀ L h (fun z => if z = x then m x else m z) := by rw [← ovr0]; exact F
def AnyPost (w : World) (news : List (Addr × Obj)) (a : WA) (eager : Bool) (ws : List WayV) (v : Value) (tl : List (Addr × Obj)) : Prop := ∃ l ps, v = .ref l ∧ ConsAt w (tl ++ news) a l ps ∧ ps.map (·.2) = anyC eager (ws.map ct)
theorem any_step {w : World} {news : List (Addr × Obj)} {a : WA} {o : Addr} {ws : List WayV} {eager : Bool} (W : WorldAt w news a) (hw : WaysAt w news a o ws) (hlen : ws.length ≤ 1000) (hlens : ∀ x, some x ∈ ws → x.2.length ≤ 1000) (d u : Nat) (hd0 : 60 ≤ d) (hu0 : 600 ≤ u)
    (hrec : ∀ (nw : List (Addr × Obj)) (o' : Addr) (ws' : List WayV), WorldAt w nw a → WaysAt w nw a o' ws' → ws'.map ct = (ws.map ct).map filC → ws'.map ct ≠ ws.map ct → ws'.length ≤ 1000 → (∀ x, some x ∈ ws' → x.2.length ≤ 1000) →
      Ctr w d u (.ref 669) [.ref o'] [(Str.ofString "eager", .bool eager)] nw (AnyPost w nw a eager ws')) :
    Ctr w (d + 5) (u + 50) (.ref 669) [.ref o] [(Str.ofString "eager", .bool eager)] news (AnyPost w news a eager ws) := by
  unfold Ctr
  k_fill
  intro p loose mean mg mb dp un gd cn cs ad ccd cl outer A₀ base h₀ L m s Q E B F X N T hk hd hu hret
  obtain ⟨⟨no, ho1⟩, ho2⟩ := hw
  (k_here; k_dflt (refine wpAny_call ?_; k_enter))
  k_steps
  rename_i g1 L1 h1 tk1 FG F1 B1 X1 T1 l1 o1 d1 N1
  have lC : ∀ p ∈ news, p.1 < L1 + 1 := fun p hp => Nat.lt_succ_of_lt (l1 p hp)
  obtain ⟨mm, hmm, F2⟩ := frNamed F1
  clear F1
  refine Stop.mk ?_
  refine wpAny_mono (Q := fun f s' => Hold (f = .next ∧ ∃ h' tk D oc, s' = { s with heap := h', toks := tk } ∧ Fr g1 L1 h' mm ∧ News g1 L1 h' ((D, PyProof.Rows.LCg.lst (addrVals (validV eager ws))) :: (L1 + 1, oc) :: news) ∧ oc.data = .cell (some (.ref D)) ∧ (∀ p ∈ (L1 + 1, oc) :: news, p.1 ≠ D))) ?_ ?_ (fun _ _ e => e)
  · subst hmm
    refine wpAny_If ?_
    cases eager with
    | true =>
      k_steps
      refine Stop.mk ?_
      refine srcLedT (vs := ws.map wayVal) (k := no) (fun i ys n₁ => n₁ = (L1 + 1, o1) :: news ∧ ys = addrVals (validV true (ws.take i))) rfl (by k_asm) (by k_asm) (.tail _ ho1) ?_ ⟨rfl, by simp [addrVals, validV]⟩ ?_ ?_
      · simp only [List.length_map, sizeLine_eq]; omega
      · rintro i v ys n₁ I5 oI5 C5 oC5 D5 m5 g5 tk5 E5 hv ⟨rfl, rfl⟩ hC5 hx5 F5 N5 off5 ne5
        simp only [List.getElem?_map, Option.map_eq_some_iff] at hv
        obtain ⟨wv, hwv, rfl⟩ := hv
        have hwm := List.mem_of_getElem? hwv
        have hk := validV_take true ws hwv
        match wv, hwm, hk with
        | none, hwm, hk =>
          dsimp only [wayVal] at hx5
          (try dsimp only)
          k_steps
          refine Stop.mk ?_
          refine LCg.CompEnd.intro (by k_asm) (by k_asm) _ (fun p hp => hp) off5 (.inr ⟨_, .tail _ ho1, rfl, _, rfl⟩) ⟨rfl, ?_⟩
          rw [hk]; simp [keepV]
        | some (l, ps), hwm, hk =>
          obtain ⟨⟨nl, hl1⟩, hl2⟩ := ho2 _ hwm
          have hpl := hlens _ hwm
          dsimp only [wayVal] at hx5 hl1 hl2 hpl
          cases ps with
          | nil =>
            replace hl1 : (l, PySem.W.listOf ([] : List Value).toArray nl) ∈ news := hl1
            (try dsimp only)
            k_steps
            refine Stop.mk ?_
            refine LCg.CompEnd.intro (by k_asm) (by k_asm) _ (fun p hp => hp) off5 (.inr ⟨_, .tail _ ho1, rfl, _, rfl⟩) ⟨rfl, ?_⟩
            rw [hk]; simp [keepV]
          | cons q0 qr =>
            replace hl1 : (l, PySem.W.listOf (Value.ref q0.1 :: pcVals qr).toArray nl) ∈ news := hl1
            have hlq : (pcVals qr).length ≤ 1000 := by simp only [pcVals, List.length_map]; simp only [List.length_cons] at hpl; omega
            (try dsimp only)
            k_steps
            refine Stop.mk ?_
            refine LCg.CompEnd.intro (by k_asm) (by k_asm) _ (fun p hp => hp) off5 (.inr ⟨_, .tail _ ho1, rfl, _, rfl⟩) ⟨rfl, ?_⟩
            rw [hk]; simp [keepV, addrVals]
      · rintro g ys n₁ ⟨rfl, rfl⟩
        rw [show (ws.map wayVal).length = ws.length by simp, List.take_length]
        unfold LCg.FinE
        intro D5 h5 tk5 F5 N5 o5
        have o6 : @Ne Nat D5 (L1 + 1) := fun e => off1 o5 (L1 + 1, o1) (.head _) e.symm
        k_steps
        rename_i h8 o8 F8 N8 d8
        refine Stop.mk (Hold.mk ?_)
        refine ⟨rfl, h8, _, D5, o8, rfl, by k_asm, by k_asm, by k_asm, ?_⟩
        intro p hp
        rcases List.mem_cons.mp hp with rfl | hp
        · exact o6.symm
        · exact off1 o5 p (.tail _ hp)
    | false =>
      k_steps
      refine Stop.mk ?_
      refine srcLedT (vs := ws.map wayVal) (k := no) (fun i ys n₁ => n₁ = (L1 + 1, o1) :: news ∧ ys = addrVals (validV false (ws.take i))) rfl (by k_asm) (by k_asm) (.tail _ ho1) ?_ ⟨rfl, by simp [addrVals, validV]⟩ ?_ ?_
      · simp only [List.length_map, sizeLine_eq]; omega
      · rintro i v ys n₁ I5 oI5 C5 oC5 D5 m5 g5 tk5 E5 hv ⟨rfl, rfl⟩ hC5 hx5 F5 N5 off5 ne5
        simp only [List.getElem?_map, Option.map_eq_some_iff] at hv
        obtain ⟨wv, hwv, rfl⟩ := hv
        have hwm := List.mem_of_getElem? hwv
        have hk := validV_take false ws hwv
        match wv, hwm, hk with
        | none, hwm, hk =>
          dsimp only [wayVal] at hx5
          (try dsimp only)
          k_steps
          refine Stop.mk ?_
          refine LCg.CompEnd.intro (by k_asm) (by k_asm) _ (fun p hp => hp) off5 (.inr ⟨_, .tail _ ho1, rfl, _, rfl⟩) ⟨rfl, ?_⟩
          rw [hk]; simp [keepV]
        | some (l, ps), hwm, hk =>
          obtain ⟨⟨nl, hl1⟩, hl2⟩ := ho2 _ hwm
          have hpl := hlens _ hwm
          dsimp only [wayVal] at hx5 hl1 hl2 hpl
          (try dsimp only)
          k_steps
          refine Stop.mk ?_
          refine LCg.CompEnd.intro (by k_asm) (by k_asm) _ (fun p hp => hp) off5 (.inr ⟨_, .tail _ ho1, rfl, _, rfl⟩) ⟨rfl, ?_⟩
          rw [hk]; simp [keepV, addrVals]
      · rintro g ys n₁ ⟨rfl, rfl⟩
        rw [show (ws.map wayVal).length = ws.length by simp, List.take_length]
        unfold LCg.FinE
        intro D5 h5 tk5 F5 N5 o5
        have o6 : @Ne Nat D5 (L1 + 1) := fun e => off1 o5 (L1 + 1, o1) (.head _) e.symm
        k_steps
        rename_i h8 o8 F8 N8 d8
        refine Stop.mk (Hold.mk ?_)
        refine ⟨rfl, h8, _, D5, o8, rfl, by k_asm, by k_asm, by k_asm, ?_⟩
        intro p hp
        rcases List.mem_cons.mp hp with rfl | hp
        · exact o6.symm
        · exact off1 o5 p (.tail _ hp)
  · rintro f s' ⟨rfl, h4, tk4, D, oc, rfl, F4, N4, hoc, hDn⟩
    subst hmm
    have hDC : @Ne Nat D (L1 + 1) := fun e => hDn (L1 + 1, oc) (.head _) e.symm
    cases hv : validV eager ws with
    | nil =>
      rw [hv] at N4
      replace N4 : News g1 L1 h4 ((D, PySem.W.listOf ([] : List Value).toArray 0) :: (L1 + 1, oc) :: news) := N4
      k_steps
      rename_i lR hR FR NR l1R kFR kNR TcR kXR
      refine hret _ [(lR, PySem.W.listOf #[] 0)] _ _ (by k_asm) (newsSub (by k_asm) (by ktr_rel)) ?_ ⟨lR, [], rfl, ⟨⟨0, .head _⟩, nofun⟩, ?_⟩
      · intro q hq p hp; rw [List.mem_singleton.mp hp]; exact Nat.ne_of_lt (tb_ltOf l1R.2.2 q hq)
      · unfold anyC; rw [valC_ct, hv]; rfl
    | cons x r =>
      cases r with
      | nil =>
        rw [hv] at N4
        replace N4 : News g1 L1 h4 ((D, PySem.W.listOf [Value.ref x.1].toArray 1) :: (L1 + 1, oc) :: news) := N4
        k_steps
        refine hret _ [] _ _ (by k_asm) (newsSub (by k_asm) (by ktr_rel)) (fun _ _ _ h => nomatch h) ⟨x.1, x.2, rfl, ho2 _ (validV_mem (eager := eager) (by rw [hv]; exact .head _)), ?_⟩
        unfold anyC; rw [valC_ct, hv]; rfl
      | cons y r =>
        have hvl : (addrVals r).length ≤ 1000 := by
          have h6 := List.length_filterMap_le (keepV eager) ws
          unfold validV at hv
          rw [hv] at h6
          simp only [List.length_cons] at h6
          simp only [addrVals, List.length_map]
          omega
        rw [hv] at N4
        replace N4 : News g1 L1 h4 ((D, PySem.W.listOf (Value.ref x.1 :: Value.ref y.1 :: addrVals r).toArray (addrVals (x :: y :: r)).length) :: (L1 + 1, oc) :: news) := N4
        have hval : ∀ z ∈ x :: y :: r, ConsAt w news a z.1 z.2 ∧ z.2.length ≤ 1000 := by
          intro z hz
          have hz2 := validV_mem (hv ▸ hz)
          exact ⟨ho2 _ hz2, hlens _ hz2⟩
        k_steps
        · exfalso; omega
        rename_i DS hS lS FS NS
        refine Stop.mk ?_
        refine srcLed (vs := addrVals (y :: r)) (k := 0) (fun i ys n₁ => n₁ = (DS, PySem.W.listOf (addrVals (y :: r)).toArray 0) :: (D, PySem.W.listOf (Value.ref x.1 :: Value.ref y.1 :: addrVals r).toArray (addrVals (x :: y :: r)).length) :: (L1 + 1, oc) :: news ∧ ys = ((y :: r).take i).map fun z => Value.bool (setEq x.2 z.2)) rfl (by k_asm) (by k_asm) (.head _) ?_ ⟨rfl, by simp⟩ ?_ ?_
        · simp only [addrVals, List.length_map, sizeLine_eq, List.length_cons] at hvl ⊢; omega
        · rintro i v ys n₁ I5 oI5 C5 oC5 D5 m5 g5 tk5 E5 hv5 ⟨rfl, rfl⟩ hC5 hx5 F5 N5 off5 ne5
          simp only [addrVals, List.getElem?_map, Option.map_eq_some_iff] at hv5
          obtain ⟨z, hz, rfl⟩ := hv5
          have hzv := hval z (.tail _ (List.mem_of_getElem? hz))
          have hxv := hval x (.head _)
          (try dsimp only)
          (try k_fold)
          k_steps
          refine Stop.mk ?_
          ktr_call 0 (sameCs_ctr (W.mono (by ktr_rel)) (hxv.1.mono (by ktr_rel)) (hzv.1.mono (by ktr_rel)) hxv.2 hzv.2)
          rintro r9 tl9 h9 tk9 F9 N9 hl9 ⟨rfl, rfl⟩
          simp only [List.nil_append] at N9
          k_steps
          refine Stop.mk ?_
          refine LCg.CompEnd.intro (by k_asm) (by k_asm) _ (fun p hp => hp) off5 (.inr ⟨_, .head _, rfl, _, rfl⟩) ⟨rfl, ?_⟩
          rw [List.take_add_one, hz]; simp [setEq]
        · rintro g ys n₁ ⟨rfl, rfl⟩
          rw [show (addrVals (y :: r)).length = (y :: r).length by simp [addrVals], List.take_length]
          unfold LCg.FinE
          intro D5 h5 tk5 F5 N5 o5
          obtain ⟨mm2, hmm2, F6⟩ := frNamed F5
          have hD5 : ∀ p ∈ (DS, PySem.W.listOf (addrVals (y :: r)).toArray 0) :: (D, PySem.W.listOf (Value.ref x.1 :: Value.ref y.1 :: addrVals r).toArray (addrVals (x :: y :: r)).length) :: (L1 + 1, oc) :: news, p.1 ≠ D5 := off1 o5
          subst hmm2
          have hdiff : anyR (valC eager (ws.map ct)) = if ((y :: r).all fun z => setEq x.2 z.2) = true then some (csOf x) else none := by
            rw [valC_ct, hv]
            by_cases hs : ((y :: r).all fun z => setEq x.2 z.2) = true
            · rw [if_pos hs, anyR_same hs]
            · rw [if_neg hs, anyR_diff (by simpa using hs)]
          k_steps
          · -- all the same: the first
            have hsame : (setEq x.2 y.2 && r.all fun z => setEq x.2 z.2) = true := by assumption
            refine hret _ [] _ _ (by k_asm) (newsSub (by k_asm) (by ktr_rel)) (fun _ _ _ h => nomatch h) ⟨x.1, x.2, rfl, (hval x (.head _)).1, ?_⟩
            unfold anyC; rw [hdiff, if_pos (by simpa using hsame)]; rfl
          · rename_i h6 tk6 F6' N6 hne6
            rw [if_neg (by simpa using hne6)] at hdiff
            clear F6
            obtain ⟨mm3, hmm3, F7⟩ := frNamed F6'
            clear F6'
            refine Stop.mk ?_
            refine wpAny_mono (Q := fun f s' => Hold (f = .next ∧ ∃ h' tk u, s' = { s with heap := h', toks := tk } ∧ Fr g1 L1 h' (fun z => if z = Str.ofString "trivial_options" then u else mm3 z) ∧ News g1 L1 h' ((D, PySem.W.listOf (Value.ref x.1 :: Value.ref y.1 :: addrVals r).toArray (addrVals (x :: y :: r)).length) :: (L1 + 1, oc) :: news))) ?_ ?_ (fun _ _ e => e)
            · refine wpAny_If ?_
              subst hmm3
              k_steps
              rename_i DS2 hS2 FS2 NS2 lS2
              have NS3 : News g1 L1 _ ((DS2, PySem.W.listOf (addrVals (y :: r)).toArray 0) :: (D, PySem.W.listOf (Value.ref x.1 :: Value.ref y.1 :: addrVals r).toArray (addrVals (x :: y :: r)).length) :: (L1 + 1, oc) :: news) := newsSub NS2 (by
                intro p hp
                rcases List.mem_cons.mp hp with rfl | hp
                · exact .head _
                · exact .tail _ (.tail _ (.tail _ hp)))
              refine Stop.mk ?_
              refine srcLed (vs := addrVals (y :: r)) (k := 0) (fun i ys n₁ => n₁ = (DS2, PySem.W.listOf (addrVals (y :: r)).toArray 0) :: (D, PySem.W.listOf (Value.ref x.1 :: Value.ref y.1 :: addrVals r).toArray (addrVals (x :: y :: r)).length) :: (L1 + 1, oc) :: news ∧ ∃ bs : List Bool, ys = (bs.map fun b => Value.bool b) ∧ (bs.all (fun b => b) = true → ∀ z ∈ (y :: r).take i, (x.2 = [] ↔ z.2 = []))) rfl (by k_asm) NS3 (.head _) ?_ ⟨rfl, [], rfl, fun _ z hz => by simp at hz⟩ ?_ ?_
              · simp only [addrVals, List.length_map, sizeLine_eq, List.length_cons] at hvl ⊢; omega
              · rintro i v ys n₁ I5 oI5 C5 oC5 D5 m5 g5 tk5 E5 hv5 ⟨rfl, bs, rfl, hbs⟩ hC5 hx5 F5 N5 off5 ne5
                simp only [addrVals, List.getElem?_map, Option.map_eq_some_iff] at hv5
                obtain ⟨z, hz, rfl⟩ := hv5
                have hzv := hval z (.tail _ (List.mem_of_getElem? hz))
                have hxv := hval x (.head _)
                (try dsimp only)
                (try k_fold)
                k_steps
                refine Stop.mk ?_
                ktr_call 0 (sim_ctr (W.mono (by ktr_rel)) (hxv.1.mono (by ktr_rel)) (hzv.1.mono (by ktr_rel)))
                rintro r9 tl9 h9 tk9 F9 N9 hl9 ⟨⟨b9, rfl, hb9⟩, rfl⟩
                simp only [List.nil_append] at N9
                k_steps
                refine Stop.mk ?_
                refine LCg.CompEnd.intro (by k_asm) (by k_asm) _ (fun p hp => hp) off5 (.inr ⟨_, .head _, rfl, _, rfl⟩) ⟨rfl, bs ++ [b9], by simp, ?_⟩
                intro hall q hq
                rw [List.all_append, Bool.and_eq_true] at hall
                rw [List.take_add_one, hz, List.mem_append] at hq
                rcases hq with hq | hq
                · exact hbs hall.1 q hq
                · have e : q = z := by simpa using hq
                  subst e
                  exact hb9 (by simpa using hall.2)
              · rintro g ys n₁ ⟨rfl, bs, rfl, hbs⟩
                rw [show (addrVals (y :: r)).length = (y :: r).length by simp [addrVals], List.take_length] at hbs
                unfold LCg.FinE
                intro D5 h5 tk5 F5 N5 o5
                cases hball : bs.all fun b => b with
                | false =>
                  k_steps
                  refine Stop.mk (Hold.mk ⟨rfl, _, _, _, rfl, fr_same (by k_asm), newsSub (by k_asm) (by ktr_rel)⟩)
                | true =>
                  have hb := hbs hball
                  have hne : ∀ z ∈ x :: y :: r, z.2 ≠ [] := by
                    have hx0 : x.2 ≠ [] := by
                      intro e
                      have hall : (setEq x.2 y.2 && r.all fun z => setEq x.2 z.2) = true := by
                        have e1 : ∀ z ∈ y :: r, setEq x.2 z.2 = true := by
                          intro z hz
                          rw [e, (hb z hz).mp e]; rfl
                        rw [Bool.and_eq_true, List.all_eq_true]
                        exact ⟨e1 y (.head _), fun z hz => e1 z (.tail _ hz)⟩
                      rw [hne6] at hall
                      cases hall
                    intro z hz
                    rcases List.mem_cons.mp hz with rfl | hz
                    · exact hx0
                    · intro e; exact hx0 ((hb z hz).mpr e)
                  k_steps
                  refine Stop.mk ?_
                  ktr_call 0 (triv_ctr (a := a) (ws := (x :: y :: r).map some) (W.mono (by ktr_rel)) (by
                    refine ⟨⟨(addrVals (x :: y :: r)).length, ?_⟩, ?_⟩
                    · rw [show ((x :: y :: r).map some).map wayVal = Value.ref x.1 :: Value.ref y.1 :: addrVals r by simp [addrVals, wayVal]]
                      k_mem
                    · intro v hv
                      obtain ⟨z, hz, rfl⟩ := List.mem_map.mp hv
                      exact (hval z hz).1.mono (by ktr_rel)) (by
                    intro v hv
                    obtain ⟨z, hz, rfl⟩ := List.mem_map.mp hv
                    exact ⟨z, rfl, hne z hz, (hval z hz).2⟩))
                  rintro r9 tl9 h9 tk9 F9 N9 hl9 ⟨Dt, nt, rfl, rfl⟩
                  simp only [List.nil_append, List.cons_append] at N9
                  k_steps
                  refine Stop.mk (Hold.mk ⟨rfl, _, _, _, rfl, (by k_asm), newsSub (by k_asm) (by ktr_rel)⟩)
            · rintro f s' ⟨rfl, h7, tk7, u7, rfl, F7, N7⟩
              subst hmm3
              k_steps
              obtain ⟨mm4, hmm4, F8⟩ := frNamed F7
              generalize hnb : (D, PySem.W.listOf (Value.ref x.1 :: Value.ref y.1 :: addrVals r).toArray (addrVals (x :: y :: r)).length) :: (L1 + 1, oc) :: news = nb at N7
              have hnbm : ∀ p ∈ news, p ∈ nb := fun p hp => by rw [← hnb]; exact .tail _ (.tail _ hp)
              have hnbo : ∀ q ∈ news, q.1 ≠ D ∧ q.1 ≠ L1 + 1 := fun q hq => ⟨hDn q (.tail _ hq), Nat.ne_of_lt (lC q hq)⟩
              refine Stop.mk ?_
              refine srcLed (vs := ws.map wayVal) (k := no) (fun i ys n₁ => ∃ tl ws1, n₁ = tl ++ nb ∧ ys = ws1.map wayVal ∧ Rel2 FiltOf (ws.take i) ws1 ∧ (∀ v ∈ ws1, WayIn w n₁ a v) ∧ (∀ q ∈ nb, ∀ p ∈ tl, q.1 ≠ p.1)) rfl (by k_asm) (by k_asm) (hnbm _ ho1) ?_ ⟨[], [], rfl, rfl, by simpa using Rel2.nil FiltOf, nofun, fun _ _ _ h => nomatch h⟩ ?_ ?_
              · simp only [List.length_map, sizeLine_eq]; omega
              · rintro i v ys n₁ I5 oI5 C5 oC5 D5 m5 g5 tk5 E5 hv5 ⟨tl1, ws1, rfl, rfl, hr1, hi1, hq1⟩ hC5 hx5 F5 N5 off5 ne5
                simp only [List.getElem?_map, Option.map_eq_some_iff] at hv5
                obtain ⟨wv, hwv, rfl⟩ := hv5
                have hwm := List.mem_of_getElem? hwv
                have sub5 : ∀ p ∈ news, p ∈ (I5, oI5) :: (C5, oC5) :: (D5, LCg.lst (ws1.map wayVal)) :: (tl1 ++ nb) := fun p hp => .tail _ (.tail _ (.tail _ (List.mem_append_right _ (hnbm p hp))))
                (try dsimp only)
                (try k_fold)
                k_steps
                refine Stop.mk ?_
                ktr_call 0 (filt_ctr (n0 := tl1 ++ nb) (fun p hp => .tail _ (.tail _ (.tail _ hp))) (W.mono fun p hp => List.mem_append_right _ (hnbm p hp)) ((ho2 _ hwm).mono fun p hp => List.mem_append_right _ (hnbm p hp)) (fun x hx => hlens x (hx ▸ hwm)))
                rintro r9 tl9 h9 tk9 F9 N9 hl9 ⟨wv', rfl, hf9, hin9⟩
                k_steps
                refine Stop.mk ?_
                have sub9 : ∀ p ∈ tl9 ++ (I5, oI5) :: (C5, oC5) :: (D5, LCg.lst (ws1.map wayVal)) :: (tl1 ++ nb), p = (I5, oI5) ∨ p = (C5, oC5) ∨ p = (D5, LCg.lst (ws1.map wayVal)) ∨ p ∈ (tl9 ++ tl1) ++ nb := by
                  intro p hp
                  simp only [List.mem_append, List.mem_cons] at hp ⊢
                  rcases hp with hp | hp | hp | hp | hp | hp <;> simp [hp]
                refine LCg.CompEnd.intro (by k_asm) (by k_asm) ((tl9 ++ tl1) ++ nb) ?_ ?_ (.inr ⟨_, List.mem_append_right _ (hnbm _ ho1), rfl, _, rfl⟩) ⟨tl9 ++ tl1, ws1 ++ [wv'], rfl, by simp, hr1.snoc hwv hf9, ?_, ?_⟩
                · intro p hp
                  simp only [List.mem_append, List.mem_cons] at hp ⊢
                  rcases hp with hp | hp | hp | (hp | hp) | hp <;> simp [hp]
                · refine LCg.Off3.of ?_
                  intro p hp
                  rw [List.append_assoc] at hp
                  rcases List.mem_append.mp hp with hp | hp
                  · exact ⟨(hl9 _ (.head _) p hp).symm, (hl9 _ (.tail _ (.head _)) p hp).symm, (hl9 _ (.tail _ (.tail _ (.head _))) p hp).symm⟩
                  · exact off5.mem p hp
                · intro v hv
                  rcases List.mem_append.mp hv with hv | hv
                  · exact (hi1 v hv).mono fun p hp => by rw [List.append_assoc]; exact List.mem_append_right _ hp
                  · rw [List.mem_singleton.mp hv, List.append_assoc]; exact hin9
                · intro q hq p hp
                  rcases List.mem_append.mp hp with hp | hp
                  · exact hl9 q (.tail _ (.tail _ (.tail _ (List.mem_append_right _ hq)))) p hp
                  · exact hq1 q hq p hp
              · rintro g ys n₁ ⟨tl1, ws1, rfl, rfl, hr1, hi1, hq1⟩
                rw [show (ws.map wayVal).length = ws.length by simp, List.take_length] at hr1
                unfold LCg.FinA
                intro D5 h5 tk5 F5 N5 o5
                subst hmm4
                have hW5 : ∀ p ∈ tl1 ++ nb, p ∈ (D5, LCg.lst (ws1.map wayVal)) :: (tl1 ++ nb) := fun p hp => .tail _ hp
                have sub5 : ∀ p ∈ news, p ∈ (D5, LCg.lst (ws1.map wayVal)) :: (tl1 ++ nb) := fun p hp => hW5 p (List.mem_append_right _ (hnbm p hp))
                have hws1 : WaysAt w ((D5, LCg.lst (ws1.map wayVal)) :: (tl1 ++ nb)) a D5 ws1 := ⟨⟨_, .head _⟩, fun v hv => (hi1 v hv).mono hW5⟩
                have hws0 : WaysAt w ((D5, LCg.lst (ws1.map wayVal)) :: (tl1 ++ nb)) a o ws := ⟨⟨no, sub5 _ ho1⟩, fun v hv => (ho2 v hv).mono sub5⟩
                have hordF : ∀ q ∈ news, ∀ p ∈ (D5, LCg.lst (ws1.map wayVal)) :: (tl1 ++ [(D, PySem.W.listOf (Value.ref x.1 :: Value.ref y.1 :: addrVals r).toArray (addrVals (x :: y :: r)).length), (L1 + 1, oc)]), q.1 ≠ p.1 := by
                  intro q hq p hp
                  rcases List.mem_cons.mp hp with rfl | hp
                  · exact off1 o5 q (List.mem_append_right _ (hnbm q hq))
                  rcases List.mem_append.mp hp with hp | hp
                  · exact hq1 q (hnbm q hq) p hp
                  rcases List.mem_cons.mp hp with rfl | hp
                  · exact (hnbo q hq).1
                  rw [List.mem_singleton.mp hp]
                  exact (hnbo q hq).2
                k_steps
                refine Stop.mk ?_
                refine ne_ways N5 hws0 hws1 hr1.1 (fun i v v' h1 h2 => (hr1.2 i v v' h1 h2).near) (by ktr_units) ?_
                have hrf := hr1.filC
                by_cases hch : ws1.map ct = ws.map ct
                · rw [show decide (ws1.map ct ≠ ws.map ct) = false by simp [hch]]
                  k_steps
                  obtain ⟨mm5, hmm5, F9⟩ := frNamed F5
                  generalize hnc : (D5, LCg.lst (ws1.map wayVal)) :: (tl1 ++ nb) = nc at N5 sub5
                  refine Stop.mk ?_
                  refine srcLed (vs := ws.map wayVal) (k := no) (fun i ys n₁ => ∃ tl ws2, n₁ = tl ++ nc ∧ ys = ws2.map wayVal ∧ Rel2 SameOf (ws.take i) ws2 ∧ (∀ v ∈ ws2, WayIn w n₁ a v) ∧ (∀ q ∈ nc, ∀ p ∈ tl, q.1 ≠ p.1)) rfl (by k_asm) (by k_asm) (sub5 _ ho1) ?_ ⟨[], [], rfl, rfl, by simpa using Rel2.nil SameOf, nofun, fun _ _ _ h => nomatch h⟩ ?_ ?_
                  · simp only [List.length_map, sizeLine_eq]; omega
                  · rintro i v ys n₁ I6 oI6 C6 oC6 D6 m6 g6 tk6 E6 hv6 ⟨tl2, ws2, rfl, rfl, hr2, hi2, hq2⟩ hC6 hx6 F6 N6 off6 ne6
                    simp only [List.getElem?_map, Option.map_eq_some_iff] at hv6
                    obtain ⟨wv, hwv, rfl⟩ := hv6
                    have hwm := List.mem_of_getElem? hwv
                    (try dsimp only)
                    (try k_fold)
                    k_steps
                    refine Stop.mk ?_
                    ktr_call 0 (excl_ctr (n0 := tl2 ++ nc) (fun p hp => .tail _ (.tail _ (.tail _ hp))) (W.mono fun p hp => List.mem_append_right _ (sub5 p hp)) ((ho2 _ hwm).mono fun p hp => List.mem_append_right _ (sub5 p hp)) (fun x hx => hlens x (hx ▸ hwm)))
                    rintro r9 tl9 h9 tk9 F9 N9 hl9 ⟨wv', rfl, hf9, hin9⟩
                    k_steps
                    refine Stop.mk ?_
                    refine LCg.CompEnd.intro (by k_asm) (by k_asm) ((tl9 ++ tl2) ++ nc) ?_ ?_ (.inr ⟨_, List.mem_append_right _ (sub5 _ ho1), rfl, _, rfl⟩) ⟨tl9 ++ tl2, ws2 ++ [wv'], rfl, by simp, hr2.snoc hwv hf9, ?_, ?_⟩
                    · intro p hp
                      simp only [List.mem_append, List.mem_cons] at hp ⊢
                      rcases hp with hp | hp | hp | (hp | hp) | hp <;> simp [hp]
                    · refine LCg.Off3.of ?_
                      intro p hp
                      rw [List.append_assoc] at hp
                      rcases List.mem_append.mp hp with hp | hp
                      · exact ⟨(hl9 _ (.head _) p hp).symm, (hl9 _ (.tail _ (.head _)) p hp).symm, (hl9 _ (.tail _ (.tail _ (.head _))) p hp).symm⟩
                      · exact off6.mem p hp
                    · intro v hv
                      rcases List.mem_append.mp hv with hv | hv
                      · exact (hi2 v hv).mono fun p hp => by rw [List.append_assoc]; exact List.mem_append_right _ hp
                      · rw [List.mem_singleton.mp hv, List.append_assoc]; exact hin9
                    · intro q hq p hp
                      rcases List.mem_append.mp hp with hp | hp
                      · exact hl9 q (.tail _ (.tail _ (.tail _ (List.mem_append_right _ hq)))) p hp
                      · exact hq2 q hq p hp
                  · rintro g ys n₁ ⟨tl2, ws2, rfl, rfl, hr2, hi2, hq2⟩
                    rw [show (ws.map wayVal).length = ws.length by simp, List.take_length] at hr2
                    unfold LCg.FinA
                    intro D6 h6 tk6 F6 N6 o6
                    subst hmm5
                    have hW6 : ∀ p ∈ tl2 ++ nc, p ∈ (D6, LCg.lst (ws2.map wayVal)) :: (tl2 ++ nc) := fun p hp => .tail _ hp
                    have sub6 : ∀ p ∈ news, p ∈ (D6, LCg.lst (ws2.map wayVal)) :: (tl2 ++ nc) := fun p hp => hW6 p (List.mem_append_right _ (sub5 p hp))
                    have hws2 : WaysAt w ((D6, LCg.lst (ws2.map wayVal)) :: (tl2 ++ nc)) a D6 ws2 := ⟨⟨_, .head _⟩, fun v hv => (hi2 v hv).mono hW6⟩
                    have hws3 : WaysAt w ((D6, LCg.lst (ws2.map wayVal)) :: (tl2 ++ nc)) a o ws := ⟨⟨no, sub6 _ ho1⟩, fun v hv => (ho2 v hv).mono sub6⟩
                    k_steps
                    refine Stop.mk ?_
                    refine ne_ways N6 hws3 hws2 hr2.1 (fun i v v' h1 h2 => (hr2.2 i v v' h1 h2).near) (by ktr_units) ?_
                    rw [show decide (ws2.map ct ≠ ws.map ct) = false by simp [hr2.same]]
                    k_steps
                    rename_i lR hR FR NR l1R kFR kNR TcR kXR
                    refine hret _ [(lR, PySem.W.listOf #[] 0)] _ _ (by k_asm) ?_ ?_ ⟨lR, [], rfl, ⟨⟨0, .head _⟩, nofun⟩, ?_⟩
                    · refine newsSub kNR ?_
                      intro p hp
                      rcases List.mem_cons.mp hp with rfl | hp
                      · exact .head _
                      · exact .tail _ (sub6 p hp)
                    · intro q hq p hp; rw [List.mem_singleton.mp hp]
                      exact Nat.ne_of_lt (tb_ltOf l1R.2 q (List.mem_append_right _ (sub5 q hq)))
                    · rw [anyC_fix hdiff (by rw [← hrf, hch])]; rfl
                · rw [show decide (ws1.map ct ≠ ws.map ct) = true by simp [hch]]
                  k_steps
                  refine Stop.mk ?_
                  ktr_call 0 (hrec _ D5 ws1 (W.mono sub5) hws1 hrf hch (by rw [hr1.1]; exact hlen) (hr1.len hlens))
                  rintro r9 tl9 h9 tk9 F9 N9 hl9 ⟨lz, pz, rfl, hz1, hz2⟩
                  k_steps
                  have eF : (tl9 ++ (D5, LCg.lst (ws1.map wayVal)) :: (tl1 ++ [(D, PySem.W.listOf (Value.ref x.1 :: Value.ref y.1 :: addrVals r).toArray (addrVals (x :: y :: r)).length), (L1 + 1, oc)])) ++ news = tl9 ++ (D5, LCg.lst (ws1.map wayVal)) :: (tl1 ++ nb) := by rw [← hnb]; simp
                  refine hret _ (tl9 ++ (D5, LCg.lst (ws1.map wayVal)) :: (tl1 ++ [(D, PySem.W.listOf (Value.ref x.1 :: Value.ref y.1 :: addrVals r).toArray (addrVals (x :: y :: r)).length), (L1 + 1, oc)])) _ _ (by k_asm) (by rw [eF]; k_asm) ?_ ⟨lz, pz, rfl, by rw [eF]; exact hz1, by rw [hz2, hrf]; exact anyC_rec hdiff⟩
                  intro q hq p hp
                  rcases List.mem_append.mp hp with hp | hp
                  · exact hl9 q (sub5 q hq) p hp
                  · exact hordF q hq p hp
end Mine
end
section
open PySem PySem.W PySem.Spec PySem.Calls PyProof.Rows
namespace Mine
theorem fresh_C13 : True := by
  w_top off
  trivial
theorem any_fixed {w : World} {news : List (Addr × Obj)} {a : WA} {o : Addr} {ws : List WayV} {eager : Bool} (W : WorldAt w news a) (hw : WaysAt w news a o ws) (hlen : ws.length ≤ 1000) (hlens : ∀ x, some x ∈ ws → x.2.length ≤ 1000)
    (hfix : (ws.map ct).map filC = ws.map ct) : Ctr w 65 650 (.ref 669) [.ref o] [(Str.ofString "eager", .bool eager)] news (AnyPost w news a eager ws) :=
  any_step W hw hlen hlens 60 600 (Nat.le_refl _) (Nat.le_refl _) fun nw o' ws' _ _ h1 h2 _ _ => absurd (h1.trans hfix) h2
theorem any_all {w : World} {news : List (Addr × Obj)} {a : WA} {o : Addr} {ws : List WayV} {eager : Bool} (W : WorldAt w news a) (hw : WaysAt w news a o ws) (hlen : ws.length ≤ 1000) (hlens : ∀ x, some x ∈ ws → x.2.length ≤ 1000) :
    Ctr w 70 700 (.ref 669) [.ref o] [(Str.ofString "eager", .bool eager)] news (AnyPost w news a eager ws) :=
  any_step W hw hlen hlens 65 650 (by omega) (by omega) fun nw o' ws' W' hw' h1 _ hl hls => any_fixed W' hw' hl hls (by rw [h1, filC_map_idem])
end Mine
end
section
open PySem PySem.W PySem.Spec PySem.Calls PyProof.Rows
namespace Mine
theorem fresh_S0 : True := by
  w_top off
  trivial
local macro_rules | `(tactic| k_mem) => `(tactic| first | exact List.mem_cons_self | (refine List.mem_cons_of_mem _ ?_; k_mem))
local macro_rules | `(tactic| k_steps) => `(tactic| repeat' (first | (k_unfold; (try dsimp only)) | (k_end; wrow_close) | walk1 | (dsimp only; walk1) | (dsimp only; k_unfold; (try dsimp only)) | (leave1; walk_say "STEP leave1"; try dsimp only) | fail "no step"))
local macro_rules | `(tactic| walk_at "Hold") => `(tactic| refine stop ?_)
local macro_rules | `(tactic| walk_at "PostL0") => `(tactic| (unfold PostL0; try dsimp only))
local macro_rules | `(tactic| walk_at "EndL0") => `(tactic| refine stop ?_)
local macro_rules | `(tactic| walk_at "PostL") => `(tactic| (unfold PostL; try dsimp only))
local macro_rules | `(tactic| walk_at "EndL") => `(tactic| refine stop ?_)
local macro_rules | `(tactic| walk_at "PostM") => `(tactic| (unfold PostM; try dsimp only))
local macro_rules | `(tactic| walk_at "EndM") => `(tactic| refine stop ?_)
local macro_rules | `(tactic| walk_at "PostT") => `(tactic| (unfold PostT; try dsimp only))
local macro_rules | `(tactic| walk_at "EndT") => `(tactic| refine stop ?_)
local macro_rules | `(tactic| walk_at "pyIter ref") => `(tactic| refine stop ?_)
local macro_rules | `(tactic| ktr_call $_x:term $c:term) => `(tactic| (refine' Ctr.use ?k1 ?k2 ?k3 ?k4 ?k5 ?kK ?kC ?kd ?ku ?_; (case k1 => k_asm); (case k2 => k_asm); (case k3 => k_asm); (case k4 => k_asm); (case k5 => k_asm); (case kK => first | exact rfl | assumption); (case kC => exact $c); (case kd => ktr_room); (case ku => ktr_units)))
local macro_rules | `(tactic| k_room) => `(tactic| ktr_room)
local macro_rules | `(tactic| k_units) => `(tactic| ktr_units)
local macro_rules | `(tactic| k_enter) => `(tactic| first
  | (refine' code_def ?k1 ?k2 ?k3 ?k4 ?k5 ?kA ?kF ?kK ?k6 ?k7 ?k8 ?k9 ?kB ?_ ?c2 ?c3 ?c4 ?c5; (case k2 => k_asm); (case k3 => k_asm); (case k6 => k_is); (case k1 => k_asm); (case k4 => k_asm); (case k5 => k_asm); (case kA => exact rfl); (case kF => exact rfl); (case kK => first | exact rfl | assumption); (case k7 => k_is); (case k8 => ktr_room); (case k9 => first | exact BindsTo.of_eq rfl | exact binds_K (by k_in) rfl (by k_is) rfl rfl rfl | fail "k_enter: no rule for these arguments"); (case c5 => decide); (case kB => exact locs rfl); (case c2 => exact rfl); (case c3 => exact rfl); (case c4 => exact rfl); k_whole; intro g' L' h' FG' F' N' B' X' T'; (try dsimp only); (try k_lift B'); (try k_fold))
  | (refine' code_defC ?k1 ?k2 ?k3 ?k4 ?k5 ?kA ?kF ?kK ?k6 ?k7 ?k8 ?k9 ?kB ?kD ?_ ?c2 ?c3 ?c4; (case k2 => k_asm); (case k3 => k_asm); (case k6 => k_is); (case k1 => k_asm); (case k4 => k_asm); (case k5 => k_asm); (case kA => exact rfl); (case kF => exact rfl); (case kK => first | exact rfl | assumption); (case k7 => k_is); (case k8 => ktr_room); (case k9 => first | exact BindsTo.of_eq rfl | exact binds_K (by k_in) rfl (by k_is) rfl rfl rfl | fail "k_enter: no rule for these arguments"); (case kB => exact rfl); (case kD => decide +kernel); (case c2 => exact rfl); (case c3 => exact rfl); (case c4 => exact rfl); k_whole; intro g' L' h' tk' cells' FG' F' N' Y' B' X' T' l1; (try k_lt l1); k_cells Y'; (try simp only [List.cons_append, List.nil_append] at N'); (try dsimp only); (try k_lift B'); (try k_fold)))
local macro_rules | `(tactic| walk_at "truthy ref") => `(tactic| (k_here; (with_reducible show wpAny _ _ (truthy (Value.ref _)) _ _ _); (refine' kgr_truthy ?N ?m ?c ?d ?f ?_; (case N => k_asm); (case m => k_mem); (case c => rfl); (case d => rfl); (case f => first | omega | ((try simp only [List.length_map, List.length_cons, List.length_nil]); omega))); (try simp only [List.isEmpty_cons, List.isEmpty_nil, Bool.not_false, Bool.not_true])))
local macro_rules | `(tactic| ktr_rel) => `(tactic| (intro p hp; (try simp only [List.nil_append, List.cons_append, List.mem_cons, List.mem_append] at hp ⊢); first | exact hp | (simp [hp]; done) | (rcases hp with hp | hp <;> simp [hp])))
local macro_rules | `(tactic| walk_at "eval Name") => `(tactic| (k_here; k_dflt (refine' nameX_B ?F ?X ?T ?e ?v ?n ?_ ?a ?b; (case a => rfl); (case b => rfl); (case F => k_asm); (case X => k_asm); (case T => k_asm); (case e => k_is); (case v => boot_fast); (case n => decide); k_whole)))
local macro_rules | `(tactic| walk_at "eval Name") => `(tactic| (k_here; k_dflt (refine' nameX_K ?F ?X ?T ?e ?_ ?a ?b; (case a => rfl); (case b => rfl); (case F => k_asm); (case X => k_asm); (case T => k_asm); (case e => k_is); k_whole)))
local macro_rules | `(tactic| walk_at "eval Name") => `(tactic| (k_here; k_dflt (refine' nameX_L ?F ?v ?_ ?a ?b; (case F => k_asm); (case a => rfl); (case b => rfl); (case v => rfl); k_whole)))
local macro_rules | `(tactic| walk_at "ite") => `(tactic| ((with_reducible show ite (true = true) _ _); refine ite_pos rfl ?_))
local macro_rules | `(tactic| walk_at "ite") => `(tactic| ((with_reducible show ite (false = true) _ _); refine ite_neg Bool.false_ne_true ?_))
local macro_rules | `(tactic| walk_at "call builtin:isinstance") => `(tactic| (k_here; k_dflt (refine' isi_call ?k1 ?k2 ?k3 ?k4 ?_; (case k1 => k_in); (case k2 => k_types); (case k3 => k_is); (case k4 => intro e; cases e); k_whole)))
local macro_rules | `(tactic| walk_at "call ref") => `(tactic| (k_here; k_dflt (refine' call_cls ?k1 ?k2 ?k3 ?k4 ?k5 ?k6 ?_; (case k1 => k_asm); (case k2 => k_asm); (case k4 => k_is); (case k3 => k_asm); (case k5 => k_is); (case k6 => k_is); k_whole; intro x' d' h' F' N' l1 l2; (try k_lt l1); (try k_lt2 l2); (try k_sweep); k_enter)))
local macro_rules | `(tactic| walk_at "call ref") => `(tactic| (k_here; k_dflt (refine wpAny_call ?_; k_enter)))
local macro_rules | `(tactic| walk_at "call builtin:isinstance") => `(tactic| (k_here; (with_reducible show wpAny _ _ (call _ [Value.ref _, Value.ref _]) _ _ _); k_dflt (refine' kin_callC ?k1 ?k2 ?k3 ?k4 ?k5 ?k6 ?k7 ?k8 ?k9 ?_; (case k1 => k_in); (case k2 => k_inst); (case k3 => kin_no); (case k4 => k_is); (case k5 => k_is); (case k6 => k_is); (case k7 => k_is); (case k8 => k_is); (case k9 => k_is); k_whole)))
local macro_rules | `(tactic| walk_at "eval Name") => `(tactic| (k_here; k_dflt (refine' nameX_C ?N ?c ?m ?d ?_ ?a ?b; (case a => rfl); (case b => rfl); (case N => k_asm); (case c => rfl); (case m => k_mem); (case d => k_asm); k_whole)))
local macro_rules | `(tactic| walk_at "call builtin:list.append") => `(tactic| (k_here; (with_reducible show wpAny _ _ (call (Value.builtin _) [Value.ref _, _]) _ _ _); k_dflt (refine' append_K ?k1 ?k2 ?k3 ?_ ?z; (case k1 => k_asm); (case k2 => k_asm); (case k3 => k_upd); (case z => (simp only [List.size_toArray]; rw [sizeLine_eq]; omega)); k_whole); intro h' F' N'; (try k_sweep)))
local macro_rules | `(tactic| walk_at "eval ListComp") => `(tactic| (k_here; (with_reducible show wpAny _ _ (eval (Expr.ListComp _ [⟨Expr.Name _ _, _, [], _⟩] _ _) _) _ _ _); k_dflt (refine LCg.ListComp_U (F₀ := by k_asm) (by with_unfolding_all rfl) (by decide) (by rfl) (by decide) (by rfl) ?_)))
local macro_rules | `(tactic| walk_at "eval ListComp") => `(tactic| (k_here; (with_reducible show wpAny _ _ (eval (Expr.ListComp _ [⟨Expr.Name _ _, _, [_], _⟩] _ _) _) _ _ _); k_dflt (refine LCt.ListComp_T (F₀ := by k_asm) (by with_unfolding_all rfl) (by decide) (by rfl) (by decide) (by rfl) ?_)))
local macro_rules | `(tactic| walk_at "CompSrc") => `(tactic| refine stop ?_)
local macro_rules | `(tactic| walk_at "CompSrcT") => `(tactic| refine stop ?_)
local macro_rules | `(tactic| walk_at "CompEnd") => `(tactic| refine stop ?_)
local macro_rules | `(tactic| lsm_bools) => `(tactic| exact boolsMap _ _)
local macro_rules | `(tactic| lsm_list) => `(tactic| exact News.isList (by k_asm) (by k_mem))
local macro_rules | `(tactic| walk_at "exec For Name Name cons nil") => `(tactic| (k_here; (rename Fr _ _ _ _ => lF'); (with_unfolding_all refine' For_turns lF' ?_; k_whole)))
local macro_rules | `(tactic| walk_at "call builtin:len") => `(tactic| (k_here; (with_reducible show wpAny _ _ (call (Value.builtin "len") [Value.ref _]) _ _ _); (refine' lenLed ?N ?m ?f ?_; (case N => k_asm); (case m => k_mem); (case f => first | omega | ((try simp only [List.length_map, List.length_cons, List.length_nil]); omega))); (try simp only [List.length_cons, List.length_nil])))
local macro_rules | `(tactic| walk_at "subscriptTail Name Slice ref ref") => `(tactic| (k_here; (with_reducible show wpAny _ _ (subscriptTail _ (PySem.Expr.Slice _ _ none _) (Value.ref _) (Value.ref _)) _ _ _); k_dflt (refine' kmk_slice_lit ?F ?N ?l ?p ?q ?e ?_ ?s ?t ?z; (case F => k_asm); (case N => k_asm); (case l => exact News.isList (by k_asm) (by k_mem)); (case p => kmk_part); (case q => kmk_part); (case e => exact slice1 _ _); (case s => with_unfolding_all rfl); (case t => kmk_pure); (case z => (simp only [List.size_toArray, List.length_cons]; rw [sizeLine_eq]; omega))); intro D' h' F' N' l1; (try k_lt l1); (try k_sweep)))
section
open PyProof.Rows.LCg PyProof.Rows.LCt
variable {prog : Program} {w : World} {A : Around} {E : Value → Shared → Prop} {s : Shared} {h₀ : Heap} {L : Addr} {m : Str → Option Value} {env : Env}
theorem srcNil {elt : Expr} {x : Str} {scope : Scope} {cl : List (Str × Addr)} {Fin : Shared → List Value → List (Addr × Obj) → Prop} {ax : Addr} {k : Nat} {news : List (Addr × Obj)}
    (hh : A.handled = none) (F : Fr h₀ L s.heap m) (N : News h₀ L s.heap news) (hm : (ax, PySem.W.listOf ([] : List Value).toArray k) ∈ news) (fin : ∀ g, Fin { s with heap := g } [] news) :
    CompSrc prog w A h₀ L m env elt x scope cl Fin (.ref ax) s :=
  srcLed (vs := []) (fun _ ys n₁ => ys = [] ∧ n₁ = news) hh F N hm (by simp [sizeLine_eq]) ⟨rfl, rfl⟩ (fun i v _ _ _ _ _ _ _ _ _ _ _ h => by simp at h) (by rintro g ys n₁ ⟨rfl, rfl⟩; exact fin g)
theorem srcNilT {ct elt : Expr} {x : Str} {scope : Scope} {cl : List (Str × Addr)} {Fin : Shared → List Value → List (Addr × Obj) → Prop} {ax : Addr} {k : Nat} {news : List (Addr × Obj)}
    (hh : A.handled = none) (F : Fr h₀ L s.heap m) (N : News h₀ L s.heap news) (hm : (ax, PySem.W.listOf ([] : List Value).toArray k) ∈ news) (fin : ∀ g, Fin { s with heap := g } [] news) :
    CompSrcT prog w A h₀ L m env ct elt x scope cl Fin (.ref ax) s :=
  srcLedT (vs := []) (fun _ ys n₁ => ys = [] ∧ n₁ = news) hh F N hm (by simp [sizeLine_eq]) ⟨rfl, rfl⟩ (fun i v _ _ _ _ _ _ _ _ _ _ _ h => by simp at h) (by rintro g ys n₁ ⟨rfl, rfl⟩; exact fin g)
end
section
variable {prog : Program} {w : World} {A : Around} {E : Value → Shared → Prop} {s : Shared} {env : Env} {h₀ : Heap} {x : Str} {body : List Stmt} {Q : Flow → Shared → Prop}
theorem iterNil {l : Addr} {k : Nat} {m₀ : Str → Option Value} {news : List (Addr × Obj)} {px : Pos} (hh : A.handled = none) (F : Fr h₀ env.locals s.heap m₀) (N : News h₀ env.locals s.heap news) (hm : (l, PySem.W.listOf ([] : List Value).toArray k) ∈ news)
    (done : ∀ h tk, Fr h₀ env.locals h m₀ → News h₀ env.locals h news → Q .next { s with heap := h, toks := tk }) :
    wpAny (model prog w) A (pyIter (.ref l)) (fun it s₂ => TurnsAt prog w A h₀ env (.Name x px) body Q E it s₂) E s :=
  iterT (vs := []) (fun _ m₁ n₁ => m₁ = m₀ ∧ n₁ = news) hh F N ⟨rfl, rfl⟩ (by rintro i m₁ n₁ ⟨rfl, rfl⟩; exact hm) (fun i v _ _ _ _ _ _ h => by simp at h) (by rintro m₁ n₁ h tk ⟨rfl, rfl⟩ F N; exact done h tk F N)
end
inductive Pre (news : List (Addr × Obj)) : List (Addr × Obj) → List (Addr × Obj) → Prop
  | nil : Pre news news []
  | cons {a l t} : (∀ q ∈ news, q.1 ≠ a.1) → Pre news l t → Pre news (a :: l) (a :: t)
theorem Pre.eq {news : List (Addr × Obj)} : ∀ {l t : List (Addr × Obj)}, Pre news l t → l = t ++ news
  | _, _, .nil => rfl
  | _, _, .cons _ r => by rw [r.eq]; rfl
theorem Pre.ne {news : List (Addr × Obj)} : ∀ {l t : List (Addr × Obj)}, Pre news l t → ∀ q ∈ news, ∀ p ∈ t, q.1 ≠ p.1
  | _, _, .nil, _, _, _, h => nomatch h
  | _, _, .cons a r, q, hq, p, hp => by
    rcases List.mem_cons.mp hp with rfl | hp
    · exact a q hq
    · exact r.ne q hq p hp
theorem Pre.mem {news l t : List (Addr × Obj)} (h : Pre news l t) {p : Addr × Obj} (hp : p ∈ l) (hn : ∀ q ∈ news, q.1 ≠ p.1) : p ∈ t := by
  rw [h.eq] at hp
  rcases List.mem_append.mp hp with hp | hp
  · exact hp
  · exact absurd rfl (hn p hp)
theorem Pre.nil' {news : List (Addr × Obj)} : ∃ t, Pre news news t := ⟨[], .nil⟩
theorem Pre.cons' {news : List (Addr × Obj)} {a l} (h : ∀ q ∈ news, q.1 ≠ a.1) : (∃ t, Pre news l t) → ∃ t, Pre news (a :: l) t := fun ⟨t, x⟩ => ⟨_, .cons h x⟩
theorem allLt2 {news : List (Addr × Obj)} {d x : Addr} (h : d < x) (g : ∀ q ∈ news, q.1 < d) : ∀ q ∈ news, q.1 ≠ x := fun q hq => Nat.ne_of_lt (Nat.lt_trans (g q hq) h)
theorem allLt3 {news : List (Addr × Obj)} {L : Addr} (g : ∀ q ∈ news, q.1 < L) : ∀ q ∈ news, q.1 ≠ L + 1 := fun q hq => Nat.ne_of_lt (Nat.lt_succ_of_lt (g q hq))
local macro_rules | `(tactic| lcg_sub) => `(tactic| first | assumption | (refine List.mem_cons_of_mem _ ?_; lcg_sub))
local macro_rules | `(tactic| lcg_off) => `(tactic| ((try dsimp only); first | assumption | k_all | exact allLt3 (by assumption) | exact allLt3 (tb_ltOf (‹_ ∧ AllLt _ _›).2) | exact allLt3 (tb_ltOf (‹_ ∧ _ ∧ AllLt _ _›).2.2) | exact allLt3 (tb_ltOf (‹_ ∧ _ ∧ _ ∧ AllLt _ _›).2.2.2) | exact allLt2 (by assumption) (by assumption) | exact allLt2 (by assumption) (tb_ltOf (‹_ ∧ AllLt _ _›).2) | exact allLt2 (by assumption) (tb_ltOf (‹_ ∧ _ ∧ AllLt _ _›).2.2) | exact allLt2 (by assumption) (tb_ltOf (‹_ ∧ _ ∧ _ ∧ AllLt _ _›).2.2.2)))
local macro_rules | `(tactic| lcg_src) => `(tactic| first | exact Pre.nil' | (refine Pre.cons' ?_ ?_; lcg_off; lcg_src))
theorem Pre.give {news l : List (Addr × Obj)} {h₀ h : Heap} {L : Addr} (_ : News h₀ L h l) (p : ∃ t, Pre news l t) : ∃ t, Pre news l t := p
def InfoB (w : World) (news : List (Addr × Obj)) (x : Addr) (nm : Str) (ms : List Addr) (bs : List Value) : Prop :=
  ∃ d t1 t2 t3 t4 t5 t6 t7 cd cdd tv tv0 bl ml n1 n2 n3 n4, 
   (x, instObj 92 d) ∈ news ∧ (d, dictOf [En w "fullname" t1 (.str nm t2), En w "defn" t3 (.ref cd), En w "type_vars" t4 (.ref tv), En w "bases" t5 (.ref bl), En w "mro" t6 (.ref ml)] 5) ∈ news ∧
   (cd, instObj 66 cdd) ∈ news ∧ (cdd, dictOf [En w "type_vars" t7 (.ref tv0)] 1) ∈ news ∧ (tv0, PySem.W.listOf #[] n1) ∈ news ∧ (tv, PySem.W.listOf #[] n2) ∈ news ∧ (ml, PySem.W.listOf (ms.map Value.ref).toArray n3) ∈ news ∧ (bl, PySem.W.listOf bs.toArray n4) ∈ news
theorem InfoB.at {w : World} {news : List (Addr × Obj)} {x : Addr} {nm : Str} {ms : List Addr} {bs : List Value} (h : InfoB w news x nm ms bs) : InfoAt w news x nm ms := by
  obtain ⟨d, t1, t2, t3, t4, t5, t6, t7, cd, cdd, tv, tv0, bl, ml, n1, n2, n3, n4, m1, m2, m3, m4, m5, m6, m7, m8⟩ := h
  exact ⟨d, t1, t2, t3, t4, t5, t6, t7, cd, cdd, tv, tv0, bl, ml, n1, n2, n3, m1, m2, m3, m4, m5, m6, m7⟩
theorem InfoB.mono {w : World} {news news' : List (Addr × Obj)} {x : Addr} {nm : Str} {ms : List Addr} {bs : List Value} (h : InfoB w news x nm ms bs) (s : ∀ p ∈ news, p ∈ news') : InfoB w news' x nm ms bs := by
  obtain ⟨d, t1, t2, t3, t4, t5, t6, t7, cd, cdd, tv, tv0, bl, ml, n1, n2, n3, n4, m1, m2, m3, m4, m5, m6, m7, m8⟩ := h
  exact ⟨d, t1, t2, t3, t4, t5, t6, t7, cd, cdd, tv, tv0, bl, ml, n1, n2, n3, n4, s _ m1, s _ m2, s _ m3, s _ m4, s _ m5, s _ m6, s _ m7, s _ m8⟩
theorem info0_ctr {w : World} {news : List (Addr × Obj)} {nm : Str} {t : Tok} {tv bl : Addr} {n1 n2 : Nat} (h1 : (tv, PySem.W.listOf ([] : List Value).toArray n1) ∈ news) (h2 : (bl, PySem.W.listOf ([] : List Value).toArray n2) ∈ news) :
    Ctr w 20 200 (.ref 92) [.str nm t, .ref tv, .ref bl] [] news (fun v tl => ∃ x, v = .ref x ∧ InfoB w (tl ++ news) x nm [x] [] ∧ ∀ q ∈ news, q.1 ≠ x) := by
  unfold Ctr
  k_fill
  intro p loose mean mg mb dp un gd cn cs ad ccd cl outer A₀ base h₀ L m s Q E B F X N T hk hd hu hret
  k_steps
  refine Stop.mk (srcNil rfl (by k_asm) (by k_asm) (by k_mem) fun g => ?_)
  unfold LCg.FinE
  intro D5 h5 tk5 F5 N5 o5
  have oD5 : ∀ q ∈ news, q.1 ≠ D5 := fun q hq => off1 o5 q (by lcg_sub)
  simp only [LCg.Off1] at o5
  (try dsimp only)
  k_steps
  refine Stop.mk ?_
  refine iterNil rfl (by k_asm) (by k_asm) (by k_mem) fun h6 tk6 F6 N6 => ?_
  (try dsimp only)
  k_steps
  refine Stop.mk (srcNilT rfl (by k_asm) (by k_asm) (by k_mem) fun g => ?_)
  unfold LCg.FinE
  intro D7 h7 tk7 F7 N7 o7
  have oD7 : ∀ q ∈ news, q.1 ≠ D7 := fun q hq => off1 o7 q (by lcg_sub)
  simp only [LCg.Off1] at o7
  (try dsimp only)
  k_steps
  refine Stop.mk (srcNilT rfl (by k_asm) (by k_asm) (by k_mem) fun g => ?_)
  unfold LCg.FinE
  intro D8 h8 tk8 F8 N8 o8
  have oD8 : ∀ q ∈ news, q.1 ≠ D8 := fun q hq => off1 o8 q (by lcg_sub)
  simp only [LCg.Off1] at o8
  (try dsimp only)
  k_steps
  rename_i kF kN _ _
  obtain ⟨tl, hp⟩ := Pre.give (news := news) kN (by lcg_src)
  refine hret _ tl _ _ (by k_asm) (by rw [← hp.eq]; k_asm) hp.ne ⟨_, rfl, ?_, ?_⟩
  · rw [← hp.eq]
    refine ⟨_, _, _, _, _, _, _, _, _, _, _, _, _, _, _, _, _, _, by k_mem, by k_mem, by k_mem, by k_mem, by k_mem, by k_mem, by k_mem, by k_mem⟩
  · lcg_off
end Mine
end
section
open PySem PySem.W PySem.Spec PySem.Calls PyProof.Rows
namespace Mine
theorem fresh_S1 : True := by
  w_top off
  trivial
local macro_rules | `(tactic| k_mem) => `(tactic| first | exact List.mem_cons_self | (refine List.mem_cons_of_mem _ ?_; k_mem))
local macro_rules | `(tactic| k_steps) => `(tactic| repeat' (first | (k_unfold; (try dsimp only)) | (k_end; wrow_close) | walk1 | (dsimp only; walk1) | (dsimp only; k_unfold; (try dsimp only)) | (leave1; walk_say "STEP leave1"; try dsimp only) | fail "no step"))
local macro_rules | `(tactic| walk_at "Hold") => `(tactic| refine stop ?_)
local macro_rules | `(tactic| walk_at "PostL0") => `(tactic| (unfold PostL0; try dsimp only))
local macro_rules | `(tactic| walk_at "EndL0") => `(tactic| refine stop ?_)
local macro_rules | `(tactic| walk_at "PostL") => `(tactic| (unfold PostL; try dsimp only))
local macro_rules | `(tactic| walk_at "EndL") => `(tactic| refine stop ?_)
local macro_rules | `(tactic| walk_at "PostM") => `(tactic| (unfold PostM; try dsimp only))
local macro_rules | `(tactic| walk_at "EndM") => `(tactic| refine stop ?_)
local macro_rules | `(tactic| walk_at "PostT") => `(tactic| (unfold PostT; try dsimp only))
local macro_rules | `(tactic| walk_at "EndT") => `(tactic| refine stop ?_)
local macro_rules | `(tactic| walk_at "pyIter ref") => `(tactic| refine stop ?_)
local macro_rules | `(tactic| ktr_call $_x:term $c:term) => `(tactic| (refine' Ctr.use ?k1 ?k2 ?k3 ?k4 ?k5 ?kK ?kC ?kd ?ku ?_; (case k1 => k_asm); (case k2 => k_asm); (case k3 => k_asm); (case k4 => k_asm); (case k5 => k_asm); (case kK => first | exact rfl | assumption); (case kC => exact $c); (case kd => ktr_room); (case ku => ktr_units)))
local macro_rules | `(tactic| k_room) => `(tactic| ktr_room)
local macro_rules | `(tactic| k_units) => `(tactic| ktr_units)
local macro_rules | `(tactic| k_enter) => `(tactic| first
  | (refine' code_def ?k1 ?k2 ?k3 ?k4 ?k5 ?kA ?kF ?kK ?k6 ?k7 ?k8 ?k9 ?kB ?_ ?c2 ?c3 ?c4 ?c5; (case k2 => k_asm); (case k3 => k_asm); (case k6 => k_is); (case k1 => k_asm); (case k4 => k_asm); (case k5 => k_asm); (case kA => exact rfl); (case kF => exact rfl); (case kK => first | exact rfl | assumption); (case k7 => k_is); (case k8 => ktr_room); (case k9 => first | exact BindsTo.of_eq rfl | exact binds_K (by k_in) rfl (by k_is) rfl rfl rfl | fail "k_enter: no rule for these arguments"); (case c5 => decide); (case kB => exact locs rfl); (case c2 => exact rfl); (case c3 => exact rfl); (case c4 => exact rfl); k_whole; intro g' L' h' FG' F' N' B' X' T'; (try dsimp only); (try k_lift B'); (try k_fold))
  | (refine' code_defC ?k1 ?k2 ?k3 ?k4 ?k5 ?kA ?kF ?kK ?k6 ?k7 ?k8 ?k9 ?kB ?kD ?_ ?c2 ?c3 ?c4; (case k2 => k_asm); (case k3 => k_asm); (case k6 => k_is); (case k1 => k_asm); (case k4 => k_asm); (case k5 => k_asm); (case kA => exact rfl); (case kF => exact rfl); (case kK => first | exact rfl | assumption); (case k7 => k_is); (case k8 => ktr_room); (case k9 => first | exact BindsTo.of_eq rfl | exact binds_K (by k_in) rfl (by k_is) rfl rfl rfl | fail "k_enter: no rule for these arguments"); (case kB => exact rfl); (case kD => decide +kernel); (case c2 => exact rfl); (case c3 => exact rfl); (case c4 => exact rfl); k_whole; intro g' L' h' tk' cells' FG' F' N' Y' B' X' T' l1; (try k_lt l1); k_cells Y'; (try simp only [List.cons_append, List.nil_append] at N'); (try dsimp only); (try k_lift B'); (try k_fold)))
local macro_rules | `(tactic| walk_at "truthy ref") => `(tactic| (k_here; (with_reducible show wpAny _ _ (truthy (Value.ref _)) _ _ _); (refine' kgr_truthy ?N ?m ?c ?d ?f ?_; (case N => k_asm); (case m => k_mem); (case c => rfl); (case d => rfl); (case f => first | omega | ((try simp only [List.length_map, List.length_cons, List.length_nil]); omega))); (try simp only [List.isEmpty_cons, List.isEmpty_nil, Bool.not_false, Bool.not_true])))
local macro_rules | `(tactic| ktr_rel) => `(tactic| (intro p hp; (try simp only [List.nil_append, List.cons_append, List.mem_cons, List.mem_append] at hp ⊢); first | exact hp | (simp [hp]; done) | (rcases hp with hp | hp <;> simp [hp])))
local macro_rules | `(tactic| walk_at "eval Name") => `(tactic| (k_here; k_dflt (refine' nameX_B ?F ?X ?T ?e ?v ?n ?_ ?a ?b; (case a => rfl); (case b => rfl); (case F => k_asm); (case X => k_asm); (case T => k_asm); (case e => k_is); (case v => boot_fast); (case n => decide); k_whole)))
local macro_rules | `(tactic| walk_at "eval Name") => `(tactic| (k_here; k_dflt (refine' nameX_K ?F ?X ?T ?e ?_ ?a ?b; (case a => rfl); (case b => rfl); (case F => k_asm); (case X => k_asm); (case T => k_asm); (case e => k_is); k_whole)))
local macro_rules | `(tactic| walk_at "eval Name") => `(tactic| (k_here; k_dflt (refine' nameX_L ?F ?v ?_ ?a ?b; (case F => k_asm); (case a => rfl); (case b => rfl); (case v => rfl); k_whole)))
local macro_rules | `(tactic| walk_at "ite") => `(tactic| ((with_reducible show ite (true = true) _ _); refine ite_pos rfl ?_))
local macro_rules | `(tactic| walk_at "ite") => `(tactic| ((with_reducible show ite (false = true) _ _); refine ite_neg Bool.false_ne_true ?_))
local macro_rules | `(tactic| walk_at "call builtin:isinstance") => `(tactic| (k_here; k_dflt (refine' isi_call ?k1 ?k2 ?k3 ?k4 ?_; (case k1 => k_in); (case k2 => k_types); (case k3 => k_is); (case k4 => intro e; cases e); k_whole)))
local macro_rules | `(tactic| walk_at "call ref") => `(tactic| (k_here; k_dflt (refine' call_cls ?k1 ?k2 ?k3 ?k4 ?k5 ?k6 ?_; (case k1 => k_asm); (case k2 => k_asm); (case k4 => k_is); (case k3 => k_asm); (case k5 => k_is); (case k6 => k_is); k_whole; intro x' d' h' F' N' l1 l2; (try k_lt l1); (try k_lt2 l2); (try k_sweep); k_enter)))
local macro_rules | `(tactic| walk_at "call ref") => `(tactic| (k_here; k_dflt (refine wpAny_call ?_; k_enter)))
local macro_rules | `(tactic| walk_at "call builtin:isinstance") => `(tactic| (k_here; (with_reducible show wpAny _ _ (call _ [Value.ref _, Value.ref _]) _ _ _); k_dflt (refine' kin_callC ?k1 ?k2 ?k3 ?k4 ?k5 ?k6 ?k7 ?k8 ?k9 ?_; (case k1 => k_in); (case k2 => k_inst); (case k3 => kin_no); (case k4 => k_is); (case k5 => k_is); (case k6 => k_is); (case k7 => k_is); (case k8 => k_is); (case k9 => k_is); k_whole)))
local macro_rules | `(tactic| walk_at "eval Name") => `(tactic| (k_here; k_dflt (refine' nameX_C ?N ?c ?m ?d ?_ ?a ?b; (case a => rfl); (case b => rfl); (case N => k_asm); (case c => rfl); (case m => k_mem); (case d => k_asm); k_whole)))
local macro_rules | `(tactic| walk_at "call builtin:list.append") => `(tactic| (k_here; (with_reducible show wpAny _ _ (call (Value.builtin _) [Value.ref _, _]) _ _ _); k_dflt (refine' append_K ?k1 ?k2 ?k3 ?_ ?z; (case k1 => k_asm); (case k2 => k_asm); (case k3 => k_upd); (case z => (simp only [List.size_toArray]; rw [sizeLine_eq]; omega)); k_whole); intro h' F' N'; (try k_sweep)))
local macro_rules | `(tactic| walk_at "eval ListComp") => `(tactic| (k_here; (with_reducible show wpAny _ _ (eval (Expr.ListComp _ [⟨Expr.Name _ _, _, [], _⟩] _ _) _) _ _ _); k_dflt (refine LCg.ListComp_U (F₀ := by k_asm) (by with_unfolding_all rfl) (by decide) (by rfl) (by decide) (by rfl) ?_)))
local macro_rules | `(tactic| walk_at "eval ListComp") => `(tactic| (k_here; (with_reducible show wpAny _ _ (eval (Expr.ListComp _ [⟨Expr.Name _ _, _, [_], _⟩] _ _) _) _ _ _); k_dflt (refine LCt.ListComp_T (F₀ := by k_asm) (by with_unfolding_all rfl) (by decide) (by rfl) (by decide) (by rfl) ?_)))
local macro_rules | `(tactic| walk_at "CompSrc") => `(tactic| refine stop ?_)
local macro_rules | `(tactic| walk_at "CompSrcT") => `(tactic| refine stop ?_)
local macro_rules | `(tactic| walk_at "CompEnd") => `(tactic| refine stop ?_)
local macro_rules | `(tactic| lsm_bools) => `(tactic| exact boolsMap _ _)
local macro_rules | `(tactic| lsm_list) => `(tactic| exact News.isList (by k_asm) (by k_mem))
local macro_rules | `(tactic| walk_at "exec For Name Name cons nil") => `(tactic| (k_here; (rename Fr _ _ _ _ => lF'); (with_unfolding_all refine' For_turns lF' ?_; k_whole)))
local macro_rules | `(tactic| walk_at "call builtin:len") => `(tactic| (k_here; (with_reducible show wpAny _ _ (call (Value.builtin "len") [Value.ref _]) _ _ _); (refine' lenLed ?N ?m ?f ?_; (case N => k_asm); (case m => k_mem); (case f => first | omega | ((try simp only [List.length_map, List.length_cons, List.length_nil]); omega))); (try simp only [List.length_cons, List.length_nil])))
local macro_rules | `(tactic| walk_at "subscriptTail Name Slice ref ref") => `(tactic| (k_here; (with_reducible show wpAny _ _ (subscriptTail _ (PySem.Expr.Slice _ _ none _) (Value.ref _) (Value.ref _)) _ _ _); k_dflt (refine' kmk_slice_lit ?F ?N ?l ?p ?q ?e ?_ ?s ?t ?z; (case F => k_asm); (case N => k_asm); (case l => exact News.isList (by k_asm) (by k_mem)); (case p => kmk_part); (case q => kmk_part); (case e => exact slice1 _ _); (case s => with_unfolding_all rfl); (case t => kmk_pure); (case z => (simp only [List.size_toArray, List.length_cons]; rw [sizeLine_eq]; omega))); intro D' h' F' N' l1; (try k_lt l1); (try k_sweep)))
local macro_rules | `(tactic| lcg_sub) => `(tactic| first | assumption | (refine List.mem_cons_of_mem _ ?_; lcg_sub))
local macro_rules | `(tactic| lcg_off) => `(tactic| ((try dsimp only); first | assumption | k_all | exact allLt3 (by assumption) | exact allLt3 (tb_ltOf (‹_ ∧ AllLt _ _›).2) | exact allLt3 (tb_ltOf (‹_ ∧ _ ∧ AllLt _ _›).2.2) | exact allLt3 (tb_ltOf (‹_ ∧ _ ∧ _ ∧ AllLt _ _›).2.2.2) | exact allLt2 (by assumption) (by assumption) | exact allLt2 (by assumption) (tb_ltOf (‹_ ∧ AllLt _ _›).2) | exact allLt2 (by assumption) (tb_ltOf (‹_ ∧ _ ∧ AllLt _ _›).2.2) | exact allLt2 (by assumption) (tb_ltOf (‹_ ∧ _ ∧ _ ∧ AllLt _ _›).2.2.2)))
local macro_rules | `(tactic| lcg_src) => `(tactic| first | exact Pre.nil' | (refine Pre.cons' ?_ ?_; lcg_off; lcg_src))
local macro_rules | `(tactic| walk_at "exec For Name Attribute cons nil") => `(tactic| (k_here; (rename Fr _ _ _ _ => lF'); (with_unfolding_all refine' For_turns lF' ?_; k_whole)))
local macro_rules | `(tactic| walk_at "binaryOp Add ref ref") => `(tactic| refine stop ?_)
section
variable {prog : Program} {w : World} {A : Around} {E : Value → Shared → Prop} {s : Shared} {h₀ : Heap} {L : Addr} {m : Str → Option Value} {Q : Value → Shared → Prop}
theorem addLed {a b : Addr} {vs ws : List Value} {i j : Nat} {news : List (Addr × Obj)} (F : Fr h₀ L s.heap m) (N : News h₀ L s.heap news) (ha : (a, PySem.W.listOf vs.toArray i) ∈ news) (hb : (b, PySem.W.listOf ws.toArray j) ∈ news) (hz : vs.length + ws.length ≤ 100000)
    (h : ∀ D h', Fr h₀ L h' m → News h₀ L h' ((D, PySem.W.listOf (vs ++ ws).toArray 0) :: news) → (∀ p ∈ news, p.1 < D) → Q (.ref D) { s with heap := h' }) : wpAny (model prog w) A (binaryOp .Add (.ref a) (.ref b)) Q E s :=
  kmk_add_lit (its := vs.toArray) (its2 := ws.toArray) (zs := vs ++ ws) F N (News.isList N ha) (News.isList N hb) (by simp) h (by rw [sizeLine_eq]; simpa using Nat.le_trans hz (by decide))
end
theorem nodup_get : ∀ {l : List Addr} {i j : Nat} {x : Addr}, l.Nodup → l[i]? = some x → l[j]? = some x → i = j
  | [], _, _, _, _, h, _ => by simp at h
  | y :: r, 0, 0, _, _, _, _ => rfl
  | y :: r, 0, j + 1, x, n, h, g => by
    simp at h g; subst h
    exact absurd (List.mem_of_getElem? g) (List.nodup_cons.mp n).1
  | y :: r, i + 1, 0, x, n, h, g => by
    simp at h g; subst g
    exact absurd (List.mem_of_getElem? h) (List.nodup_cons.mp n).1
  | y :: r, i + 1, j + 1, x, n, h, g => by
    simp at h g
    rw [nodup_get (List.nodup_cons.mp n).2 h g]
theorem info1_ctr {w : World} {news : List (Addr × Obj)} {nm nm' : Str} {t : Tok} {tv bl inst y : Addr} {n1 n2 : Nat} {ms : List Addr} {bs' : List Value} (hb : Addr → Bool) (h1 : (tv, PySem.W.listOf ([] : List Value).toArray n1) ∈ news) (h2 : (bl, PySem.W.listOf [Value.ref inst].toArray n2) ∈ news)
    (h3 : TyAt w news inst y) (h4 : InfoB w news y nm' ms bs') (h5 : ∀ m ∈ ms, ∃ nm ms' bs, InfoB w news m nm ms' bs ∧ bs.isEmpty = !hb m ∧ bs.length ≤ 1) (h6 : ms.Nodup) (h7 : ms.length ≤ 10) :
    Ctr w 20 200 (.ref 92) [.str nm t, .ref tv, .ref bl] [] news (fun v tl => ∃ x, v = .ref x ∧ InfoB w (tl ++ news) x nm (x :: (ms.filter hb ++ ms.filter fun m => !hb m)) [.ref inst] ∧ ∀ q ∈ news, q.1 ≠ x) := by
  unfold Ctr
  k_fill
  intro p loose mean mg mb dp un gd cn cs ad ccd cl outer A₀ base h₀ L m s Q E B F X N T hk hd hu hret
  obtain ⟨d, t1, t2, tup, g1, g2, g3⟩ := h3
  obtain ⟨d', r1, r2, r3, r4, r5, r6, r7, cd, cdd, tv', tv0, bl', ml, n1', n2', n3, n4, m1, m2, m3, m4, m5, m6, m7, m8⟩ := h4
  k_steps
  refine Stop.mk (srcNil rfl (by k_asm) (by k_asm) (by k_mem) fun g => ?_)
  unfold LCg.FinE
  intro D5 hq5 tq5 F5 N5 o5
  have oD5 : ∀ q ∈ news, q.1 ≠ D5 := fun q hq => off1 o5 q (by lcg_sub)
  simp only [LCg.Off1] at o5
  (try dsimp only)
  k_steps
  rename_i x92 d92 hA FA NA lA1 lA2 gI L2 hB tkB FGB BB XB TB lB1 oC dC hC x66 d66 hD lD1 lD2 gJ L3 hE BE XE TE tkC hF FF NF TcF kX hG tkD hH tkE hI above hJ lJ1 hK FK NK
  obtain ⟨k1, k3, k4, k5, k7, NK2⟩ : ∃ k1 k3 k4 k5 k7, News gI L2 hK ((above, PySem.W.listOf #[] 0) :: (D5, LCg.lst []) :: (x66, instObj 66 d66) :: (d66, dictOf [En w "type_vars" k7 (.ref tv)] 1) :: (L2 + 1, oC) :: (x92, instObj 92 d92) :: (d92, dictOf [En w "fullname" k1 (.str nm t), En w "defn" k3 (.ref x66), En w "type_vars" k4 (.ref D5), En w "bases" k5 (.ref bl)] 4) :: news) := ⟨_, _, _, _, _, NK⟩
  clear NK
  have lC : ∀ p ∈ news, p.1 < L2 + 1 := fun p hp => Nat.lt_succ_of_lt (tb_ltOf lB1.2.2 p hp)
  refine Stop.mk ?_
  refine iterM (Str.ofString "base") (Str.ofString "base") (Str.ofString "base") (Str.ofString "base") (fun i _ _ _ _ n₁ => ∃ oc v n, n₁ = (above, PySem.W.listOf (if i = 0 then [] else ms.map Value.ref).toArray n) :: (D5, LCg.lst []) :: (x66, instObj 66 d66) :: (d66, dictOf [En w "type_vars" k7 (.ref tv)] 1) :: (L2 + 1, oc) :: (x92, instObj 92 d92) :: (d92, dictOf [En w "fullname" k1 (.str nm t), En w "defn" k3 (.ref x66), En w "type_vars" k4 (.ref D5), En w "bases" k5 (.ref bl)] 4) :: news ∧ oc.data = .cell v) rfl (by k_asm) (by k_asm) ⟨oC, _, 0, rfl, dC⟩ (by rintro i _ _ _ _ n₁ ⟨oc, v, n, rfl, hoc⟩; k_mem) ?_ ?_
  · --[[
    rintro i v u1 u2 u3 u4 n₁ I oI h2 tk2 hv ⟨oc, v0, n, rfl, hoc⟩ hoff F2 N2
    have hi : i = 0 := by
      rcases i with _ | i
      · rfl
      · simp at hv
    subst hi
    have e : v = .ref inst := by simpa using hv.symm
    subst e
    rw [if_pos rfl] at N2 hoff
    simp only [List.mem_cons, forall_eq_or_imp] at hoff
    have hN : (@Ne Nat above I) ∧ (@Ne Nat D5 I) ∧ (@Ne Nat x66 I) ∧ (@Ne Nat d66 I) ∧ (@Ne Nat (L2 + 1) I) ∧ (@Ne Nat x92 I) ∧ (@Ne Nat d92 I) := ⟨hoff.1, hoff.2.1, hoff.2.2.1, hoff.2.2.2.1, hoff.2.2.2.2.1, hoff.2.2.2.2.2.1, hoff.2.2.2.2.2.2.1⟩
    (try dsimp only)
    (try k_fold)
    k_steps
    refine Stop.mk ?_
    refine iterT0 (fun i n₂ => ∃ oc v n, n₂ = (I, oI) :: (above, PySem.W.listOf ((ms.map Value.ref).take i).toArray n) :: (D5, LCg.lst []) :: (x66, instObj 66 d66) :: (d66, dictOf [En w "type_vars" k7 (.ref tv)] 1) :: (L2 + 1, oc) :: (x92, instObj 92 d92) :: (d92, dictOf [En w "fullname" k1 (.str nm t), En w "defn" k3 (.ref x66), En w "type_vars" k4 (.ref D5), En w "bases" k5 (.ref bl)] 4) :: news ∧ oc.data = .cell v) rfl (by k_asm) (by k_asm) ⟨oc, v0, n, rfl, hoc⟩ (by rintro i n₂ ⟨oc, v, n, rfl, hd⟩; k_mem) ?_ ?_
    · rintro i v n₂ I3 oI3 h3 tk3 hv3 ⟨oc3, v3, n3', rfl, hoc3⟩ hoff3 F3 N3
      simp only [List.getElem?_map, Option.map_eq_some_iff] at hv3
      obtain ⟨m9, hm9, rfl⟩ := hv3
      simp only [List.mem_cons, forall_eq_or_imp] at hoff3
      have hN3 : (@Ne Nat I I3) ∧ (@Ne Nat above I3) ∧ (@Ne Nat D5 I3) ∧ (@Ne Nat x66 I3) ∧ (@Ne Nat d66 I3) ∧ (@Ne Nat (L2 + 1) I3) ∧ (@Ne Nat x92 I3) ∧ (@Ne Nat d92 I3) := ⟨hoff3.1, hoff3.2.1, hoff3.2.2.1, hoff3.2.2.2.1, hoff3.2.2.2.2.1, hoff3.2.2.2.2.2.1, hoff3.2.2.2.2.2.2.1, hoff3.2.2.2.2.2.2.2.1⟩
      (try dsimp only)
      (try k_fold)
      k_steps
      rename Obj => oc4
      rename oc4.data = _ => d4
      refine Stop.mk ?_
      refine srcLedT (vs := (ms.map Value.ref).take i) (k := n3') (fun j ys n₃ => ys = [] ∧ n₃ = (I3, oI3) :: (I, oI) :: (above, PySem.W.listOf ((ms.map Value.ref).take i).toArray n3') :: (D5, LCg.lst []) :: (x66, instObj 66 d66) :: (d66, dictOf [En w "type_vars" k7 (.ref tv)] 1) :: (L2 + 1, oc4) :: (x92, instObj 92 d92) :: (d92, dictOf [En w "fullname" k1 (.str nm t), En w "defn" k3 (.ref x66), En w "type_vars" k4 (.ref D5), En w "bases" k5 (.ref bl)] 4) :: news) rfl (by k_asm) (by k_asm) (by k_mem) ?_ ⟨rfl, rfl⟩ ?_ ?_
      · simp only [List.length_take, List.length_map, sizeLine_eq]; omega
      · rintro j v5 ys n₃ I5 oI5 C5 oC5 D6 m5 g5 tk5 E5 hv5 ⟨rfl, rfl⟩ hC5 hx5 F5 N5 off5 ne5
        rw [List.getElem?_take] at hv5
        have hj : j < i := by
          rcases Nat.lt_or_ge j i with h | h
          · exact h
          · rw [if_neg (by omega)] at hv5; cases hv5
        rw [if_pos hj, List.getElem?_map, Option.map_eq_some_iff] at hv5
        obtain ⟨m8, hm8, rfl⟩ := hv5
        have hne : m8 ≠ m9 := by
          rintro rfl
          exact absurd (nodup_get h6 hm8 hm9) (Nat.ne_of_lt hj)
        replace hne : @Ne Nat m8 m9 := hne
        obtain ⟨a8, b8, c8, i8, _⟩ := h5 m8 (List.mem_of_getElem? hm8)
        obtain ⟨a9, b9, c9, i9, _⟩ := h5 m9 (List.mem_of_getElem? hm9)
        obtain ⟨d8, e8⟩ := i8.at.inst
        obtain ⟨d9, e9⟩ := i9.at.inst
        (try dsimp only)
        (try k_fold)
        k_steps
        refine Stop.mk ?_
        exact LCg.CompEnd.intro (by k_asm) (by k_asm) _ (fun p hp => hp) off5 (.inr ⟨_, .tail _ (.tail _ (.head _)), rfl, _, rfl⟩) ⟨rfl, rfl⟩
      · rintro g ys n₃ ⟨rfl, rfl⟩
        unfold LCg.FinE
        intro D6 h6' tk6 F6 N6 o6
        have oD6 : ∀ q ∈ news, q.1 ≠ D6 := fun q hq => off1 o6 q (by lcg_sub)
        simp only [LCg.Off1] at o6
        (try dsimp only)
        k_steps
        refine Stop.mk ?_
        refine EndT.intro (news' := (I, oI) :: (above, PySem.W.listOf (((ms.map Value.ref).take i).toArray.push (.ref m9)) (n3' + 1)) :: (D5, LCg.lst []) :: (x66, instObj 66 d66) :: (d66, dictOf [En w "type_vars" k7 (.ref tv)] 1) :: (L2 + 1, oc4) :: (x92, instObj 92 d92) :: (d92, dictOf [En w "fullname" k1 (.str nm t), En w "defn" k3 (.ref x66), En w "type_vars" k4 (.ref D5), En w "bases" k5 (.ref bl)] 4) :: news) (by k_asm) (newsSub (by k_asm) fun p hp => .tail _ hp) (by simp only [List.mem_cons, forall_eq_or_imp]; exact hoff3) ⟨oc4, _, n3' + 1, ?_, d4⟩
        rw [List.take_add_one, List.getElem?_map, hm9]; simp
    · rintro n₂ h3 tk3 ⟨oc3, v3, n3', rfl, hoc3⟩ F3 N3
      rw [List.take_length] at N3
      k_steps
      refine Stop.mk ?_
      refine EndM.intro (by k_asm) N3 (by intro z h1 h2 h3 h4; simp [over4, h1]) (by simp only [List.mem_cons, forall_eq_or_imp]; exact hoff) ⟨oc3, _, n3', by simp, hoc3⟩
  · rintro u1 u2 u3 u4 n₁ h3 tk3 ⟨oc, v0, n, rfl, hoc⟩ F3 N3
    rw [if_neg (by simp)] at N3
    k_steps
    rename_i lS hS FS NS lS1
    refine Stop.mk ?_
    refine srcLedT (vs := ms.map Value.ref) (k := n) (fun i ys n₃ => n₃ = (lS, PySem.W.listOf [Value.ref x92].toArray 0) :: (above, PySem.W.listOf (ms.map Value.ref).toArray n) :: (D5, LCg.lst []) :: (x66, instObj 66 d66) :: (d66, dictOf [En w "type_vars" k7 (.ref tv)] 1) :: (L2 + 1, oc) :: (x92, instObj 92 d92) :: (d92, dictOf [En w "fullname" k1 (.str nm t), En w "defn" k3 (.ref x66), En w "type_vars" k4 (.ref D5), En w "bases" k5 (.ref bl)] 4) :: news ∧ ys = ((ms.take i).filter hb).map Value.ref) rfl (by k_asm) (by k_asm) (.tail _ (.head _)) ?_ ⟨rfl, by simp⟩ ?_ ?_
    · simp only [List.length_map, sizeLine_eq]; omega
    · rintro i v5 ys n₃ I5 oI5 C5 oC5 D6 m5 g5 tk5 E5 hv5 ⟨rfl, rfl⟩ hC5 hx5 F5 N5 off5 ne5
      simp only [List.getElem?_map, Option.map_eq_some_iff] at hv5
      obtain ⟨m8, hm8, rfl⟩ := hv5
      obtain ⟨a8, b8, c8, i8, e8, f8⟩ := h5 m8 (List.mem_of_getElem? hm8)
      obtain ⟨dz, z1, z2, z3, z4, z5, z6, z7, cdz, cddz, tvz, tv0z, blz, mlz, nz1, nz2, nz3, nz4, y1, y2, y3, y4, y5, y6, y7, y8⟩ := i8
      (try dsimp only)
      (try k_fold)
      rcases c8 with _ | ⟨b8', _ | ⟨b8'', c8'⟩⟩
      · have hbm : hb m8 = false := by simpa using e8.symm
        k_steps
        refine Stop.mk ?_
        refine LCg.CompEnd.intro (by k_asm) (by k_asm) _ (fun p hp => hp) off5 (.inr ⟨_, .tail _ (.head _), rfl, _, rfl⟩) ⟨rfl, ?_⟩
        rw [List.take_add_one, hm8]; simp [hbm]
      · have hbm : hb m8 = true := by simpa using e8.symm
        replace y8 : (blz, PySem.W.listOf [b8'].toArray nz4) ∈ news := y8
        k_steps
        refine Stop.mk ?_
        refine LCg.CompEnd.intro (by k_asm) (by k_asm) _ (fun p hp => hp) off5 (.inr ⟨_, .tail _ (.head _), rfl, _, rfl⟩) ⟨rfl, ?_⟩
        rw [List.take_add_one, hm8]; simp [hbm]
      · exact absurd f8 (by simp)
    · rintro g ys n₃ ⟨rfl, rfl⟩
      rw [show (ms.map Value.ref).length = ms.length by simp, List.take_length]
      unfold LCg.FinE
      intro D7 h7' tk7 F7 N7 o7
      have oD7 : ∀ q ∈ news, q.1 ≠ D7 := fun q hq => off1 o7 q (by lcg_sub)
      simp only [LCg.Off1] at o7
      (try dsimp only)
      k_steps
      refine Stop.mk ?_
      refine addLed (vs := [Value.ref x92]) (ws := (ms.filter hb).map Value.ref) (by k_asm) (by k_asm) (.tail _ (.head _)) (.head _) ?_ ?_
      · have := List.length_filter_le hb ms
        simp only [List.length_map, List.length_singleton]; omega
      intro DA hA2 FA2 NA2 lA3
      have oA : @LT.lt Nat _ D7 DA ∧ @LT.lt Nat _ lS DA ∧ AllLt DA news := ⟨lA3 _ (.head _), lA3 _ (.tail _ (.head _)), allLt_of fun q hq => lA3 q (by lcg_sub)⟩
      have oA2 : @LT.lt Nat _ above DA ∧ @LT.lt Nat _ D5 DA ∧ @LT.lt Nat _ x66 DA ∧ @LT.lt Nat _ d66 DA ∧ @LT.lt Nat _ (L2 + 1) DA ∧ @LT.lt Nat _ x92 DA ∧ @LT.lt Nat _ d92 DA := ⟨lA3 (above, _) (by k_mem), lA3 (D5, _) (by k_mem), lA3 (x66, _) (by k_mem), lA3 (d66, _) (by k_mem), lA3 (L2 + 1, _) (by k_mem), lA3 (x92, _) (by k_mem), lA3 (d92, _) (by k_mem)⟩
      (try dsimp only)
      k_steps
      refine Stop.mk ?_
      refine srcLedT (vs := ms.map Value.ref) (k := n) (fun i ys n₃ => n₃ = (DA, PySem.W.listOf ([Value.ref x92] ++ (ms.filter hb).map Value.ref).toArray 0) :: (D7, LCg.lst ((ms.filter hb).map Value.ref)) :: (lS, PySem.W.listOf [Value.ref x92].toArray 0) :: (above, PySem.W.listOf (ms.map Value.ref).toArray n) :: (D5, LCg.lst []) :: (x66, instObj 66 d66) :: (d66, dictOf [En w "type_vars" k7 (.ref tv)] 1) :: (L2 + 1, oc) :: (x92, instObj 92 d92) :: (d92, dictOf [En w "fullname" k1 (.str nm t), En w "defn" k3 (.ref x66), En w "type_vars" k4 (.ref D5), En w "bases" k5 (.ref bl)] 4) :: news ∧ ys = ((ms.take i).filter fun m => !hb m).map Value.ref) rfl (by k_asm) (by k_asm) (.tail _ (.tail _ (.tail _ (.head _)))) ?_ ⟨rfl, by simp⟩ ?_ ?_
      · simp only [List.length_map, sizeLine_eq]; omega
      · rintro i v5 ys n₃ I5 oI5 C5 oC5 D6 m5 g5 tk5 E5 hv5 ⟨rfl, rfl⟩ hC5 hx5 F5 N5 off5 ne5
        simp only [List.getElem?_map, Option.map_eq_some_iff] at hv5
        obtain ⟨m8, hm8, rfl⟩ := hv5
        obtain ⟨a8, b8, c8, i8, e8, f8⟩ := h5 m8 (List.mem_of_getElem? hm8)
        obtain ⟨dz, z1, z2, z3, z4, z5, z6, z7, cdz, cddz, tvz, tv0z, blz, mlz, nz1, nz2, nz3, nz4, y1, y2, y3, y4, y5, y6, y7, y8⟩ := i8
        (try dsimp only)
        (try k_fold)
        rcases c8 with _ | ⟨b8', _ | ⟨b8'', c8'⟩⟩
        · have hbm : hb m8 = false := by simpa using e8.symm
          k_steps
          refine Stop.mk ?_
          refine LCg.CompEnd.intro (by k_asm) (by k_asm) _ (fun p hp => hp) off5 (.inr ⟨_, .tail _ (.tail _ (.tail _ (.head _))), rfl, _, rfl⟩) ⟨rfl, ?_⟩
          rw [List.take_add_one, hm8]; simp [hbm]
        · have hbm : hb m8 = true := by simpa using e8.symm
          replace y8 : (blz, PySem.W.listOf [b8'].toArray nz4) ∈ news := y8
          k_steps
          refine Stop.mk ?_
          refine LCg.CompEnd.intro (by k_asm) (by k_asm) _ (fun p hp => hp) off5 (.inr ⟨_, .tail _ (.tail _ (.tail _ (.head _))), rfl, _, rfl⟩) ⟨rfl, ?_⟩
          rw [List.take_add_one, hm8]; simp [hbm]
        · exact absurd f8 (by simp)
      · rintro g ys n₃ ⟨rfl, rfl⟩
        rw [show (ms.map Value.ref).length = ms.length by simp, List.take_length]
        unfold LCg.FinE
        intro D8 h8' tk8 F8 N8 o8
        have oD8 : ∀ q ∈ news, q.1 ≠ D8 := fun q hq => off1 o8 q (by lcg_sub)
        simp only [LCg.Off1] at o8
        (try dsimp only)
        k_steps
        refine Stop.mk ?_
        refine addLed (vs := [Value.ref x92] ++ (ms.filter hb).map Value.ref) (ws := (ms.filter fun m => !hb m).map Value.ref) (by k_asm) (by k_asm) (.tail _ (.head _)) (.head _) ?_ ?_
        · have e1 := List.length_filter_le hb ms
          have e2 := List.length_filter_le (fun m => !hb m) ms
          simp only [List.length_append, List.length_map, List.length_singleton]; omega
        intro DB hB2 FB2 NB2 lB3
        have oB : @LT.lt Nat _ D8 DB ∧ @LT.lt Nat _ DA DB ∧ @LT.lt Nat _ D7 DB ∧ @LT.lt Nat _ lS DB ∧ AllLt DB news := ⟨lB3 (D8, _) (by k_mem), lB3 (DA, _) (by k_mem), lB3 (D7, _) (by k_mem), lB3 (lS, _) (by k_mem), allLt_of fun q hq => lB3 q (by lcg_sub)⟩
        have oB2 : @LT.lt Nat _ above DB ∧ @LT.lt Nat _ D5 DB ∧ @LT.lt Nat _ x66 DB ∧ @LT.lt Nat _ d66 DB ∧ @LT.lt Nat _ (L2 + 1) DB ∧ @LT.lt Nat _ x92 DB ∧ @LT.lt Nat _ d92 DB := ⟨lB3 (above, _) (by k_mem), lB3 (D5, _) (by k_mem), lB3 (x66, _) (by k_mem), lB3 (d66, _) (by k_mem), lB3 (L2 + 1, _) (by k_mem), lB3 (x92, _) (by k_mem), lB3 (d92, _) (by k_mem)⟩
        (try dsimp only)
        k_steps
        rename_i kF kN _ _
        obtain ⟨tl, hp⟩ := Pre.give (news := news) kN (by lcg_src)
        refine hret _ tl _ _ (by k_asm) (by rw [← hp.eq]; k_asm) hp.ne ⟨x92, rfl, ?_, ?_⟩
        · rw [← hp.eq, show Value.ref x92 = Value.ref x92 from rfl]
          have eM : (x92 :: (ms.filter hb ++ ms.filter fun m => !hb m)).map Value.ref = [Value.ref x92] ++ (ms.filter hb).map Value.ref ++ (ms.filter fun m => !hb m).map Value.ref := by simp
          unfold InfoB
          rw [eM]
          refine ⟨_, _, _, _, _, _, _, _, _, _, _, _, _, _, _, _, _, _, by k_mem, by k_mem, by k_mem, by k_mem, by lcg_sub, by k_mem, by k_mem, by lcg_sub⟩
        · lcg_off
end Mine
end
section
open PySem PySem.W PySem.Spec PySem.Calls PyProof.Rows
namespace Mine
theorem fresh_S2 : True := by
  w_top off
  trivial
local macro_rules | `(tactic| k_mem) => `(tactic| first | exact List.mem_cons_self | (refine List.mem_cons_of_mem _ ?_; k_mem))
local macro_rules | `(tactic| k_steps) => `(tactic| repeat' (first | (k_unfold; (try dsimp only)) | (k_end; wrow_close) | walk1 | (dsimp only; walk1) | (dsimp only; k_unfold; (try dsimp only)) | (leave1; walk_say "STEP leave1"; try dsimp only) | fail "no step"))
local macro_rules | `(tactic| walk_at "Hold") => `(tactic| refine stop ?_)
local macro_rules | `(tactic| walk_at "PostL0") => `(tactic| (unfold PostL0; try dsimp only))
local macro_rules | `(tactic| walk_at "EndL0") => `(tactic| refine stop ?_)
local macro_rules | `(tactic| walk_at "PostL") => `(tactic| (unfold PostL; try dsimp only))
local macro_rules | `(tactic| walk_at "EndL") => `(tactic| refine stop ?_)
local macro_rules | `(tactic| walk_at "PostM") => `(tactic| (unfold PostM; try dsimp only))
local macro_rules | `(tactic| walk_at "EndM") => `(tactic| refine stop ?_)
local macro_rules | `(tactic| walk_at "PostT") => `(tactic| (unfold PostT; try dsimp only))
local macro_rules | `(tactic| walk_at "EndT") => `(tactic| refine stop ?_)
local macro_rules | `(tactic| walk_at "pyIter ref") => `(tactic| refine stop ?_)
local macro_rules | `(tactic| ktr_call $_x:term $c:term) => `(tactic| (refine' Ctr.use ?k1 ?k2 ?k3 ?k4 ?k5 ?kK ?kC ?kd ?ku ?_; (case k1 => k_asm); (case k2 => k_asm); (case k3 => k_asm); (case k4 => k_asm); (case k5 => k_asm); (case kK => first | exact rfl | assumption); (case kC => exact $c); (case kd => ktr_room); (case ku => ktr_units)))
local macro_rules | `(tactic| k_room) => `(tactic| ktr_room)
local macro_rules | `(tactic| k_units) => `(tactic| ktr_units)
local macro_rules | `(tactic| k_enter) => `(tactic| first
  | (refine' code_def ?k1 ?k2 ?k3 ?k4 ?k5 ?kA ?kF ?kK ?k6 ?k7 ?k8 ?k9 ?kB ?_ ?c2 ?c3 ?c4 ?c5; (case k2 => k_asm); (case k3 => k_asm); (case k6 => k_is); (case k1 => k_asm); (case k4 => k_asm); (case k5 => k_asm); (case kA => exact rfl); (case kF => exact rfl); (case kK => first | exact rfl | assumption); (case k7 => k_is); (case k8 => ktr_room); (case k9 => first | exact BindsTo.of_eq rfl | exact binds_K (by k_in) rfl (by k_is) rfl rfl rfl | fail "k_enter: no rule for these arguments"); (case c5 => decide); (case kB => exact locs rfl); (case c2 => exact rfl); (case c3 => exact rfl); (case c4 => exact rfl); k_whole; intro g' L' h' FG' F' N' B' X' T'; (try dsimp only); (try k_lift B'); (try k_fold))
  | (refine' code_defC ?k1 ?k2 ?k3 ?k4 ?k5 ?kA ?kF ?kK ?k6 ?k7 ?k8 ?k9 ?kB ?kD ?_ ?c2 ?c3 ?c4; (case k2 => k_asm); (case k3 => k_asm); (case k6 => k_is); (case k1 => k_asm); (case k4 => k_asm); (case k5 => k_asm); (case kA => exact rfl); (case kF => exact rfl); (case kK => first | exact rfl | assumption); (case k7 => k_is); (case k8 => ktr_room); (case k9 => first | exact BindsTo.of_eq rfl | exact binds_K (by k_in) rfl (by k_is) rfl rfl rfl | fail "k_enter: no rule for these arguments"); (case kB => exact rfl); (case kD => decide +kernel); (case c2 => exact rfl); (case c3 => exact rfl); (case c4 => exact rfl); k_whole; intro g' L' h' tk' cells' FG' F' N' Y' B' X' T' l1; (try k_lt l1); k_cells Y'; (try simp only [List.cons_append, List.nil_append] at N'); (try dsimp only); (try k_lift B'); (try k_fold)))
local macro_rules | `(tactic| walk_at "truthy ref") => `(tactic| (k_here; (with_reducible show wpAny _ _ (truthy (Value.ref _)) _ _ _); (refine' kgr_truthy ?N ?m ?c ?d ?f ?_; (case N => k_asm); (case m => k_mem); (case c => rfl); (case d => rfl); (case f => first | omega | ((try simp only [List.length_map, List.length_cons, List.length_nil]); omega))); (try simp only [List.isEmpty_cons, List.isEmpty_nil, Bool.not_false, Bool.not_true])))
local macro_rules | `(tactic| ktr_rel) => `(tactic| (intro p hp; (try simp only [List.nil_append, List.cons_append, List.mem_cons, List.mem_append] at hp ⊢); first | exact hp | (simp [hp]; done) | (rcases hp with hp | hp <;> simp [hp])))
local macro_rules | `(tactic| walk_at "eval Name") => `(tactic| (k_here; k_dflt (refine' nameX_B ?F ?X ?T ?e ?v ?n ?_ ?a ?b; (case a => rfl); (case b => rfl); (case F => k_asm); (case X => k_asm); (case T => k_asm); (case e => k_is); (case v => boot_fast); (case n => decide); k_whole)))
local macro_rules | `(tactic| walk_at "eval Name") => `(tactic| (k_here; k_dflt (refine' nameX_K ?F ?X ?T ?e ?_ ?a ?b; (case a => rfl); (case b => rfl); (case F => k_asm); (case X => k_asm); (case T => k_asm); (case e => k_is); k_whole)))
local macro_rules | `(tactic| walk_at "eval Name") => `(tactic| (k_here; k_dflt (refine' nameX_L ?F ?v ?_ ?a ?b; (case F => k_asm); (case a => rfl); (case b => rfl); (case v => rfl); k_whole)))
local macro_rules | `(tactic| walk_at "ite") => `(tactic| ((with_reducible show ite (true = true) _ _); refine ite_pos rfl ?_))
local macro_rules | `(tactic| walk_at "ite") => `(tactic| ((with_reducible show ite (false = true) _ _); refine ite_neg Bool.false_ne_true ?_))
local macro_rules | `(tactic| walk_at "call builtin:isinstance") => `(tactic| (k_here; k_dflt (refine' isi_call ?k1 ?k2 ?k3 ?k4 ?_; (case k1 => k_in); (case k2 => k_types); (case k3 => k_is); (case k4 => intro e; cases e); k_whole)))
local macro_rules | `(tactic| walk_at "call ref") => `(tactic| (k_here; k_dflt (refine' call_cls ?k1 ?k2 ?k3 ?k4 ?k5 ?k6 ?_; (case k1 => k_asm); (case k2 => k_asm); (case k4 => k_is); (case k3 => k_asm); (case k5 => k_is); (case k6 => k_is); k_whole; intro x' d' h' F' N' l1 l2; (try k_lt l1); (try k_lt2 l2); (try k_sweep); k_enter)))
local macro_rules | `(tactic| walk_at "call ref") => `(tactic| (k_here; k_dflt (refine wpAny_call ?_; k_enter)))
local macro_rules | `(tactic| walk_at "call builtin:isinstance") => `(tactic| (k_here; (with_reducible show wpAny _ _ (call _ [Value.ref _, Value.ref _]) _ _ _); k_dflt (refine' kin_callC ?k1 ?k2 ?k3 ?k4 ?k5 ?k6 ?k7 ?k8 ?k9 ?_; (case k1 => k_in); (case k2 => k_inst); (case k3 => kin_no); (case k4 => k_is); (case k5 => k_is); (case k6 => k_is); (case k7 => k_is); (case k8 => k_is); (case k9 => k_is); k_whole)))
local macro_rules | `(tactic| walk_at "eval Name") => `(tactic| (k_here; k_dflt (refine' nameX_C ?N ?c ?m ?d ?_ ?a ?b; (case a => rfl); (case b => rfl); (case N => k_asm); (case c => rfl); (case m => k_mem); (case d => k_asm); k_whole)))
local macro_rules | `(tactic| walk_at "call builtin:list.append") => `(tactic| (k_here; (with_reducible show wpAny _ _ (call (Value.builtin _) [Value.ref _, _]) _ _ _); k_dflt (refine' append_K ?k1 ?k2 ?k3 ?_ ?z; (case k1 => k_asm); (case k2 => k_asm); (case k3 => k_upd); (case z => (simp only [List.size_toArray]; rw [sizeLine_eq]; omega)); k_whole); intro h' F' N'; (try k_sweep)))
local macro_rules | `(tactic| walk_at "eval ListComp") => `(tactic| (k_here; (with_reducible show wpAny _ _ (eval (Expr.ListComp _ [⟨Expr.Name _ _, _, [], _⟩] _ _) _) _ _ _); k_dflt (refine LCg.ListComp_U (F₀ := by k_asm) (by with_unfolding_all rfl) (by decide) (by rfl) (by decide) (by rfl) ?_)))
local macro_rules | `(tactic| walk_at "eval ListComp") => `(tactic| (k_here; (with_reducible show wpAny _ _ (eval (Expr.ListComp _ [⟨Expr.Name _ _, _, [_], _⟩] _ _) _) _ _ _); k_dflt (refine LCt.ListComp_T (F₀ := by k_asm) (by with_unfolding_all rfl) (by decide) (by rfl) (by decide) (by rfl) ?_)))
local macro_rules | `(tactic| walk_at "CompSrc") => `(tactic| refine stop ?_)
local macro_rules | `(tactic| walk_at "CompSrcT") => `(tactic| refine stop ?_)
local macro_rules | `(tactic| walk_at "CompEnd") => `(tactic| refine stop ?_)
local macro_rules | `(tactic| lsm_bools) => `(tactic| exact boolsMap _ _)
local macro_rules | `(tactic| lsm_list) => `(tactic| exact News.isList (by k_asm) (by k_mem))
local macro_rules | `(tactic| walk_at "exec For Name Name cons nil") => `(tactic| (k_here; (rename Fr _ _ _ _ => lF'); (with_unfolding_all refine' For_turns lF' ?_; k_whole)))
local macro_rules | `(tactic| walk_at "call builtin:len") => `(tactic| (k_here; (with_reducible show wpAny _ _ (call (Value.builtin "len") [Value.ref _]) _ _ _); (refine' lenLed ?N ?m ?f ?_; (case N => k_asm); (case m => k_mem); (case f => first | omega | ((try simp only [List.length_map, List.length_cons, List.length_nil]); omega))); (try simp only [List.length_cons, List.length_nil])))
local macro_rules | `(tactic| walk_at "subscriptTail Name Slice ref ref") => `(tactic| (k_here; (with_reducible show wpAny _ _ (subscriptTail _ (PySem.Expr.Slice _ _ none _) (Value.ref _) (Value.ref _)) _ _ _); k_dflt (refine' kmk_slice_lit ?F ?N ?l ?p ?q ?e ?_ ?s ?t ?z; (case F => k_asm); (case N => k_asm); (case l => exact News.isList (by k_asm) (by k_mem)); (case p => kmk_part); (case q => kmk_part); (case e => exact slice1 _ _); (case s => with_unfolding_all rfl); (case t => kmk_pure); (case z => (simp only [List.size_toArray, List.length_cons]; rw [sizeLine_eq]; omega))); intro D' h' F' N' l1; (try k_lt l1); (try k_sweep)))
local macro_rules | `(tactic| lcg_sub) => `(tactic| first | assumption | (refine List.mem_cons_of_mem _ ?_; lcg_sub))
local macro_rules | `(tactic| lcg_off) => `(tactic| ((try dsimp only); first | assumption | k_all | exact allLt3 (by assumption) | exact allLt3 (tb_ltOf (‹_ ∧ AllLt _ _›).2) | exact allLt3 (tb_ltOf (‹_ ∧ _ ∧ AllLt _ _›).2.2) | exact allLt3 (tb_ltOf (‹_ ∧ _ ∧ _ ∧ AllLt _ _›).2.2.2) | exact allLt2 (by assumption) (by assumption) | exact allLt2 (by assumption) (tb_ltOf (‹_ ∧ AllLt _ _›).2) | exact allLt2 (by assumption) (tb_ltOf (‹_ ∧ _ ∧ AllLt _ _›).2.2) | exact allLt2 (by assumption) (tb_ltOf (‹_ ∧ _ ∧ _ ∧ AllLt _ _›).2.2.2)))
local macro_rules | `(tactic| lcg_src) => `(tactic| first | exact Pre.nil' | (refine Pre.cons' ?_ ?_; lcg_off; lcg_src))
theorem inst_ctr {w : World} {news : List (Addr × Obj)} {x l : Addr} {n : Nat} (h2 : (l, PySem.W.listOf ([] : List Value).toArray n) ∈ news) :
    Ctr w 20 200 (.ref 340) [.ref x, .ref l] [] news (fun v tl => ∃ a, v = .ref a ∧ TyAt w (tl ++ news) a x ∧ ∀ q ∈ news, q.1 ≠ a) := by
  unfold Ctr
  k_fill
  intro p loose mean mg mb dp un gd cn cs ad ccd cl outer A₀ base h₀ L m s Q E B F X N T hk hd hu hret
  k_steps
  rename_i kF kN _ _
  obtain ⟨tl, hp⟩ := Pre.give (news := news) kN (by lcg_src)
  refine hret _ tl _ _ (by k_asm) (by rw [← hp.eq]; k_asm) hp.ne ⟨_, rfl, ?_, ?_⟩
  · rw [← hp.eq]
    exact ⟨_, _, _, _, by k_mem, by k_mem, by k_mem⟩
  · lcg_off
theorem id_ctr {w : World} {news : List (Addr × Obj)} (k : Int) (t1 t2 : Tok) :
    Ctr w 20 200 (.ref 189) [.int k t1, .int 1 t2] [] news (fun v tl => ∃ a, v = .ref a ∧ IdAt w (tl ++ news) a k ∧ ∀ q ∈ news, q.1 ≠ a) := by
  unfold Ctr
  k_fill
  intro p loose mean mg mb dp un gd cn cs ad ccd cl outer A₀ base h₀ L m s Q E B F X N T hk hd hu hret
  k_steps
  rename_i kF kN _ _
  obtain ⟨tl, hp⟩ := Pre.give (news := news) kN (by lcg_src)
  refine hret _ tl _ _ (by k_asm) (by rw [← hp.eq]; k_asm) hp.ne ⟨_, rfl, ?_, ?_⟩
  · rw [← hp.eq]
    exact ⟨_, _, _, _, _, by k_mem, by k_mem⟩
  · lcg_off
theorem var_ctr {w : World} {news : List (Addr × Obj)} {i l ub : Addr} {nm : Str} {t : Tok} {n : Nat} (h2 : (l, PySem.W.listOf ([] : List Value).toArray n) ∈ news) :
    Ctr w 20 200 (.ref 232) [.str nm t, .ref i, .ref l, .ref ub] [] news (fun v tl => ∃ a, v = .ref a ∧ VarAt w (tl ++ news) a nm i ub ∧ ∀ q ∈ news, q.1 ≠ a) := by
  unfold Ctr
  k_fill
  intro p loose mean mg mb dp un gd cn cs ad ccd cl outer A₀ base h₀ L m s Q E B F X N T hk hd hu hret
  k_steps
  rename_i kF kN _ _
  obtain ⟨tl, hp⟩ := Pre.give (news := news) kN (by lcg_src)
  refine hret _ tl _ _ (by k_asm) (by rw [← hp.eq]; k_asm) hp.ne ⟨_, rfl, ?_, ?_⟩
  · rw [← hp.eq]
    exact ⟨_, _, _, _, _, _, _, _, _, _, by k_mem, by k_mem, by lcg_sub⟩
  · lcg_off
theorem Pre.own {news : List (Addr × Obj)} {e : Addr × Obj} : ∀ {l t : List (Addr × Obj)}, Pre news l t → e ∈ l → (∀ q ∈ news, q.1 ≠ e.1) → e ∈ t
  | _, _, .nil, h, g => absurd rfl (g _ h)
  | _, _, .cons _ r, h, g => by
    rcases List.mem_cons.mp h with rfl | h
    · exact .head _
    · exact .tail _ (Pre.own r h g)
theorem con_ctr {w : World} {news : List (Addr × Obj)} {v i ub tgt : Addr} {nm : Str} {t : Tok} {op : Int} (h2 : VarAt w news v nm i ub) :
    Ctr w 20 200 (.ref 45) [.ref v, .int op t, .ref tgt] [] news (fun r tl => ∃ a, r = .ref a ∧ ConAt w tl a i v tgt op) := by
  unfold Ctr
  k_fill
  intro p loose mean mg mb dp un gd cn cs ad ccd cl outer A₀ base h₀ L m s Q E B F X N T hk hd hu hret
  obtain ⟨d, t1, t2, t3, t4, t5, t6, t7, vl, n, m1, m2, m3⟩ := h2
  k_steps
  rename_i kF kN _ _
  obtain ⟨tl, hp⟩ := Pre.give (news := news) kN (by lcg_src)
  refine hret _ tl _ _ (by k_asm) (by rw [← hp.eq]; k_asm) hp.ne ⟨_, rfl, ?_⟩
  refine ⟨_, _, _, _, _, _, hp.own (by k_mem) ?_, hp.own (by k_mem) ?_⟩
  · lcg_off
  · lcg_off
end Mine
end
section
open PySem PySem.W PySem.Spec PySem.Calls PyProof.Rows
namespace Mine
theorem fresh_A0 : True := by
  w_top off
  trivial
local macro_rules | `(tactic| k_mem) => `(tactic| first | exact List.mem_cons_self | (refine List.mem_cons_of_mem _ ?_; k_mem))
local macro_rules | `(tactic| k_steps) => `(tactic| repeat' (first | (k_unfold; (try dsimp only)) | (k_end; wrow_close) | walk1 | (dsimp only; walk1) | (dsimp only; k_unfold; (try dsimp only)) | (leave1; walk_say "STEP leave1"; try dsimp only) | fail "no step"))
local macro_rules | `(tactic| walk_at "Hold") => `(tactic| refine stop ?_)
local macro_rules | `(tactic| walk_at "PostL0") => `(tactic| (unfold PostL0; try dsimp only))
local macro_rules | `(tactic| walk_at "EndL0") => `(tactic| refine stop ?_)
local macro_rules | `(tactic| walk_at "PostL") => `(tactic| (unfold PostL; try dsimp only))
local macro_rules | `(tactic| walk_at "EndL") => `(tactic| refine stop ?_)
local macro_rules | `(tactic| walk_at "PostM") => `(tactic| (unfold PostM; try dsimp only))
local macro_rules | `(tactic| walk_at "EndM") => `(tactic| refine stop ?_)
local macro_rules | `(tactic| walk_at "PostT") => `(tactic| (unfold PostT; try dsimp only))
local macro_rules | `(tactic| walk_at "EndT") => `(tactic| refine stop ?_)
local macro_rules | `(tactic| walk_at "pyIter ref") => `(tactic| refine stop ?_)
local macro_rules | `(tactic| ktr_call $_x:term $c:term) => `(tactic| (refine' Ctr.use ?k1 ?k2 ?k3 ?k4 ?k5 ?kK ?kC ?kd ?ku ?_; (case k1 => k_asm); (case k2 => k_asm); (case k3 => k_asm); (case k4 => k_asm); (case k5 => k_asm); (case kK => first | exact rfl | assumption); (case kC => exact $c); (case kd => ktr_room); (case ku => ktr_units)))
local macro_rules | `(tactic| k_room) => `(tactic| ktr_room)
local macro_rules | `(tactic| k_units) => `(tactic| ktr_units)
local macro_rules | `(tactic| k_enter) => `(tactic| first
  | (refine' code_def ?k1 ?k2 ?k3 ?k4 ?k5 ?kA ?kF ?kK ?k6 ?k7 ?k8 ?k9 ?kB ?_ ?c2 ?c3 ?c4 ?c5; (case k2 => k_asm); (case k3 => k_asm); (case k6 => k_is); (case k1 => k_asm); (case k4 => k_asm); (case k5 => k_asm); (case kA => exact rfl); (case kF => exact rfl); (case kK => first | exact rfl | assumption); (case k7 => k_is); (case k8 => ktr_room); (case k9 => first | exact BindsTo.of_eq rfl | exact binds_K (by k_in) rfl (by k_is) rfl rfl rfl | fail "k_enter: no rule for these arguments"); (case c5 => decide); (case kB => exact locs rfl); (case c2 => exact rfl); (case c3 => exact rfl); (case c4 => exact rfl); k_whole; intro g' L' h' FG' F' N' B' X' T'; (try dsimp only); (try k_lift B'); (try k_fold))
  | (refine' code_defC ?k1 ?k2 ?k3 ?k4 ?k5 ?kA ?kF ?kK ?k6 ?k7 ?k8 ?k9 ?kB ?kD ?_ ?c2 ?c3 ?c4; (case k2 => k_asm); (case k3 => k_asm); (case k6 => k_is); (case k1 => k_asm); (case k4 => k_asm); (case k5 => k_asm); (case kA => exact rfl); (case kF => exact rfl); (case kK => first | exact rfl | assumption); (case k7 => k_is); (case k8 => ktr_room); (case k9 => first | exact BindsTo.of_eq rfl | exact binds_K (by k_in) rfl (by k_is) rfl rfl rfl | fail "k_enter: no rule for these arguments"); (case kB => exact rfl); (case kD => decide +kernel); (case c2 => exact rfl); (case c3 => exact rfl); (case c4 => exact rfl); k_whole; intro g' L' h' tk' cells' FG' F' N' Y' B' X' T' l1; (try k_lt l1); k_cells Y'; (try simp only [List.cons_append, List.nil_append] at N'); (try dsimp only); (try k_lift B'); (try k_fold)))
local macro_rules | `(tactic| walk_at "truthy ref") => `(tactic| (k_here; (with_reducible show wpAny _ _ (truthy (Value.ref _)) _ _ _); (refine' kgr_truthy ?N ?m ?c ?d ?f ?_; (case N => k_asm); (case m => k_mem); (case c => rfl); (case d => rfl); (case f => first | omega | ((try simp only [List.length_map, List.length_cons, List.length_nil]); omega))); (try simp only [List.isEmpty_cons, List.isEmpty_nil, Bool.not_false, Bool.not_true])))
local macro_rules | `(tactic| ktr_rel) => `(tactic| (intro p hp; (try simp only [List.nil_append, List.cons_append, List.mem_cons, List.mem_append] at hp ⊢); first | exact hp | (simp [hp]; done) | (rcases hp with hp | hp <;> simp [hp])))
local macro_rules | `(tactic| walk_at "eval Name") => `(tactic| (k_here; k_dflt (refine' nameX_B ?F ?X ?T ?e ?v ?n ?_ ?a ?b; (case a => rfl); (case b => rfl); (case F => k_asm); (case X => k_asm); (case T => k_asm); (case e => k_is); (case v => boot_fast); (case n => decide); k_whole)))
local macro_rules | `(tactic| walk_at "eval Name") => `(tactic| (k_here; k_dflt (refine' nameX_K ?F ?X ?T ?e ?_ ?a ?b; (case a => rfl); (case b => rfl); (case F => k_asm); (case X => k_asm); (case T => k_asm); (case e => k_is); k_whole)))
local macro_rules | `(tactic| walk_at "eval Name") => `(tactic| (k_here; k_dflt (refine' nameX_L ?F ?v ?_ ?a ?b; (case F => k_asm); (case a => rfl); (case b => rfl); (case v => rfl); k_whole)))
local macro_rules | `(tactic| walk_at "ite") => `(tactic| ((with_reducible show ite (true = true) _ _); refine ite_pos rfl ?_))
local macro_rules | `(tactic| walk_at "ite") => `(tactic| ((with_reducible show ite (false = true) _ _); refine ite_neg Bool.false_ne_true ?_))
local macro_rules | `(tactic| walk_at "call builtin:isinstance") => `(tactic| (k_here; k_dflt (refine' isi_call ?k1 ?k2 ?k3 ?k4 ?_; (case k1 => k_in); (case k2 => k_types); (case k3 => k_is); (case k4 => intro e; cases e); k_whole)))
local macro_rules | `(tactic| walk_at "call ref") => `(tactic| (k_here; k_dflt (refine' call_cls ?k1 ?k2 ?k3 ?k4 ?k5 ?k6 ?_; (case k1 => k_asm); (case k2 => k_asm); (case k4 => k_is); (case k3 => k_asm); (case k5 => k_is); (case k6 => k_is); k_whole; intro x' d' h' F' N' l1 l2; (try k_lt l1); (try k_lt2 l2); (try k_sweep); k_enter)))
local macro_rules | `(tactic| walk_at "call ref") => `(tactic| (k_here; k_dflt (refine wpAny_call ?_; k_enter)))
local macro_rules | `(tactic| walk_at "call builtin:isinstance") => `(tactic| (k_here; (with_reducible show wpAny _ _ (call _ [Value.ref _, Value.ref _]) _ _ _); k_dflt (refine' kin_callC ?k1 ?k2 ?k3 ?k4 ?k5 ?k6 ?k7 ?k8 ?k9 ?_; (case k1 => k_in); (case k2 => k_inst); (case k3 => kin_no); (case k4 => k_is); (case k5 => k_is); (case k6 => k_is); (case k7 => k_is); (case k8 => k_is); (case k9 => k_is); k_whole)))
local macro_rules | `(tactic| walk_at "eval Name") => `(tactic| (k_here; k_dflt (refine' nameX_C ?N ?c ?m ?d ?_ ?a ?b; (case a => rfl); (case b => rfl); (case N => k_asm); (case c => rfl); (case m => k_mem); (case d => k_asm); k_whole)))
local macro_rules | `(tactic| walk_at "call builtin:list.append") => `(tactic| (k_here; (with_reducible show wpAny _ _ (call (Value.builtin _) [Value.ref _, _]) _ _ _); k_dflt (refine' append_K ?k1 ?k2 ?k3 ?_ ?z; (case k1 => k_asm); (case k2 => k_asm); (case k3 => k_upd); (case z => (simp only [List.size_toArray]; rw [sizeLine_eq]; omega)); k_whole); intro h' F' N'; (try k_sweep)))
/-- a read of the script -/
def atZ (zs : List Int) (k : Nat) (o : Int) : Int := (zs[k]?).getD o
def AtCall (w : World) (zs : List Int) (vs : List Value) (sc : Addr) (k : Nat) (other : Int) (t1 t2 : Tok) : Prop :=
  ∀ (p : Program) (loose : List Str) (mean : ExcName → Option Value) (mg mb : Str → Option Value)
    (dp un : Nat) (gd : Option (List Code)) (cn : Str) (cs : Scope) (ad : Addr) (ccd : Value) (cl : List (Str × Addr)) (outer : List Env) (A₀ : Around) (base h₀ : Heap) (L : Addr) (m : Str → Option Value) (s : Shared) (news : List (Addr × Obj))
    (Q E : Value → Shared → Prop),
    Below A₀ base outer h₀ → Fr h₀ L s.heap m → (hd.heap_39 w.params).In h₀ → News h₀ L s.heap news → Top p loose mean mg mb h₀ → cs.kind = .function → dp + 10 < recursionLimit → un + 100 < cLine →
    h₀.IsList sc vs.toArray → IntsAre vs zs → zs.length ≤ 63 →
    (∀ h' tk' t, Fr h₀ L h' m → News h₀ L h' news → Q (.int (atZ zs k other) t) { s with heap := h', toks := tk' }) →
    wpAny (model PySem.Challenge.rw_ft0022_01.row.prog w) (ktrTop dp un gd cn cs L ad ccd cl outer) (call (.ref 712) [.ref sc, .int k t1, .int other t2] []) Q E s
theorem at_call {w : World} {zs : List Int} {vs : List Value} {sc : Addr} (k : Nat) (other : Int) (t1 t2 : Tok) : AtCall w zs vs sc k other t1 t2 := by
  unfold AtCall
  k_fill
  intro p loose mean mg mb dp un gd cn cs ad ccd cl outer A₀ base h₀ L m s news Q E B F X N T hk hd hu lifted hI hz hret
  have hlen : vs.length = zs.length := hI.length
  (k_here; k_dflt (refine wpAny_call ?_; k_enter))
  rename_i g1 L1 h1 FG F1 N1 B1 X1 T1
  have l2 := lifted.at fun o e => FG.keep _ o e
  clear lifted
  k_steps
  · have e : zs.getD (k : Int).toNat 0 = atZ zs k other := by
      have h3 : k < zs.length := by omega
      simp [atZ, h3]
    rw [e]
    exact hret h1 _ _ (by k_asm) (by k_asm)
  · have e : other = atZ zs k other := by
      have h3 : zs.length ≤ k := by omega
      simp [atZ, h3]
    generalize hz9 : Value.int other t2 = v9
    rw [e] at hz9
    subst hz9
    exact hret h1 _ t2 (by k_asm) (by k_asm)
end Mine
end
section
open PySem PySem.W PySem.Spec PySem.Calls PyProof.Rows PyProof.Rows.LCg PyProof.Rows.LCt
namespace Mine
theorem fresh_A1 : True := by
  w_top off
  trivial
section
variable {prog : Program} {w : World} {A : Around} {E : Value → Shared → Prop} {s : Shared} {env : Env} {h₀ : Heap} {body : List Stmt} {Q : Flow → Shared → Prop}
/-- a for over range(n), the target a name of any kind -/
theorem iterR {r : Addr} {n : Nat} {t u v : Tok} {m₀ : Str → Option Value} {news : List (Addr × Obj)} {x : Str} {px : Pos} (J : Nat → (Str → Option Value) → List (Addr × Obj) → Prop)
    (hh : A.handled = none) (F : Fr h₀ env.locals s.heap m₀) (N : News h₀ env.locals s.heap news) (hr : IsRange s.heap r 0 (n : Int) 1 t u v) (hsm : Builtin.Range.small 0 (n : Int) 1 = true) (hrn : Builtin.Range.rangeSize 0 (n : Int) 1 = (n : Int)) (hj : J 0 m₀ news)
    (turn : ∀ i t m₁ news₁ I oI h tk, i < n → J i m₁ news₁ → (∀ p ∈ news₁, p.1 ≠ I) → Fr h₀ env.locals h m₁ → News h₀ env.locals h ((I, oI) :: news₁) →
      wpAny (model prog w) A (assign (.Name x px) env (.int (i : Int) t)) (fun _ s₃ => wpAny (model prog w) A (execs body env) (PostL h₀ env.locals (J (i + 1)) I oI { s with heap := h, toks := tk } Q) E s₃) E { s with heap := h, toks := tk })
    (done : ∀ m₁ news₁ h tk, J n m₁ news₁ → Fr h₀ env.locals h m₁ → News h₀ env.locals h news₁ → Q .next { s with heap := h, toks := tk }) :
    wpAny (model prog w) A (pyIter (.ref r)) (fun it s₂ => TurnsAt prog w A h₀ env (.Name x px) body Q E it s₂) E s := by
  refine wpAny_pyIter_range hr hsm ?_
  have WW := (Walks.range (prog := prog) (w := w) hh s.heap.objs.size 0 1 n).bound
  refine ⟨_, _, _, n, _, _, _, m₀, news, J, rfl, KTurns.ofWalks WW (fun _ _ _ _ _ _ q => wpAny_pure q), ?_, ?_, ?_, ?_, F.push _, (fun p hp => ⟨Heap.get?_push_of_some _ (N p hp).1, (N p hp).2⟩), hj, ?_, ?_⟩
  · intro hm'
    rw [List.mem_singleton] at hm'
    exact absurd F.ns.lt (hm' ▸ Nat.lt_irrefl _)
  · intro b hb
    rw [List.mem_singleton.mp hb]
    exact next_is_new F
  · intro p hp hI
    exact absurd (Heap.lt_size (N p hp).1) ((List.mem_singleton.mp hI) ▸ Nat.lt_irrefl _)
  · show IsRangeIter _ _ _ _ _
    rw [hrn]
    simpa using Heap.get?_push_size _ rfl
  · rintro i v m₁ news₁ hh' tk' own hin hP hJ hoff hown hget hall hst F₁ N₁
    have hoff' : ∀ p ∈ news₁, p.1 ≠ s.heap.objs.size := fun p hp e => hoff p hp (by rw [e]; exact List.mem_singleton.mpr rfl)
    obtain ⟨oI, hoI⟩ : ∃ oI, hh'.get? s.heap.objs.size = some oI := ⟨_, hst⟩
    have hIn : (s.heap.objs.size, oI) ∈ own := hall _ (.head _) (next_is_new F) _ hoI
    have N₂ : News h₀ env.locals hh' ((s.heap.objs.size, oI) :: news₁) := fun p hp => by
      rcases List.mem_cons.mp hp with rfl | hp
      · exact N₁ _ (List.mem_append_left _ hIn)
      · exact N₁ _ (List.mem_append_right _ hp)
    obtain ⟨hi, t9, hv⟩ := hP
    have hv' : v = .int (i : Int) t9 := by rw [hv]; simp
    subst hv'
    refine wpAny_mono (turn i t9 m₁ news₁ _ oI hh' tk' hi hJ hoff' F₁ N₂) (fun _ s₃ q => wpAny_mono q (fun f s₂ p => ?_) fun _ _ e => e) fun _ _ e => e
    have fin : EndL h₀ env.locals (J (i + 1)) s.heap.objs.size oI { s with heap := hh', toks := tk' } s₂ → LoopStepU h₀ env.locals [s.heap.objs.size] own (J (i + 1)) { s with heap := hh', toks := tk' } .next s₂ := by
      rintro ⟨h', tk, m', news', e, F', N', ha, hm'⟩
      refine ⟨rfl, h', tk, m', news', e, F', fun p hp => ?_, fun p hp hq => ha p hp (List.mem_singleton.mp hq), hm'⟩
      rcases List.mem_append.mp hp with hp | hp
      · have e1 := List.mem_singleton.mp (hown p hp)
        have e3 := hget p hp
        rw [e1] at e3
        have e5 : some p.2 = some oI := e3.symm.trans hoI
        have e2 : p = (s.heap.objs.size, oI) := by
          cases p; simp only at e1 e5 ⊢; rw [e1, Option.some.inj e5]
        rw [e2]; exact N' _ (.head _)
      · exact N' _ (.tail _ hp)
    cases f with
    | ret v => exact .ret p
    | brk => exact .brk p
    | next => exact .next (fin p)
    | cont => exact .cont (fin p)
  · rintro h' tk m' news' F' N' _ hJ
    exact done m' news' h' tk hJ F' N'
/-- the frame's map changes at the names of a list alone -/
def EndN (h₀ : Heap) (L : Addr) (ys : List Str) (m₀ : Str → Option Value) (J : List (Addr × Obj) → Prop) (I : Addr) (oI : Obj) (s₁ s₂ : Shared) : Prop :=
  ∃ h' tk m' news', s₂ = { s₁ with heap := h', toks := tk } ∧ Fr h₀ L h' m' ∧ (∀ z, z ∉ ys → m' z = m₀ z) ∧ News h₀ L h' ((I, oI) :: news') ∧ (∀ p ∈ news', p.1 ≠ I) ∧ J news'
def PostN (h₀ : Heap) (L : Addr) (ys : List Str) (m₀ : Str → Option Value) (J : List (Addr × Obj) → Prop) (I : Addr) (oI : Obj) (s₁ : Shared) (Q : Flow → Shared → Prop) (f : Flow) (s₂ : Shared) : Prop :=
  match f with
  | .ret v => Q (.ret v) s₂
  | .brk => Q .next s₂
  | _ => EndN h₀ L ys m₀ J I oI s₁ s₂
theorem EndN.intro {h₀ : Heap} {L : Addr} {ys : List Str} {m₀ m' : Str → Option Value} {J : List (Addr × Obj) → Prop} {I : Addr} {oI : Obj} {s₁ : Shared} {h' : Heap} {tk : Nat} {news' : List (Addr × Obj)}
    (F : Fr h₀ L h' m') (N : News h₀ L h' ((I, oI) :: news')) (hz : ∀ z, z ∉ ys → m' z = m₀ z) (off : ∀ p ∈ news', p.1 ≠ I) (hJ : J news') : EndN h₀ L ys m₀ J I oI s₁ { s₁ with heap := h', toks := tk } :=
  ⟨h', tk, m', news', rfl, F, hz, N, off, hJ⟩
theorem iterRN {r : Addr} {n : Nat} {t u v : Tok} {m₀ : Str → Option Value} {news : List (Addr × Obj)} {x : Str} {px : Pos} (ys : List Str) (J : Nat → List (Addr × Obj) → Prop)
    (hh : A.handled = none) (F : Fr h₀ env.locals s.heap m₀) (N : News h₀ env.locals s.heap news) (hr : IsRange s.heap r 0 (n : Int) 1 t u v) (hsm : Builtin.Range.small 0 (n : Int) 1 = true) (hrn : Builtin.Range.rangeSize 0 (n : Int) 1 = n) (hj : J 0 news)
    (turn : ∀ i t m₁ news₁ I oI h tk, i < n → J i news₁ → (∀ z, z ∉ ys → m₁ z = m₀ z) → (∀ p ∈ news₁, p.1 ≠ I) → Fr h₀ env.locals h m₁ → News h₀ env.locals h ((I, oI) :: news₁) →
      wpAny (model prog w) A (assign (.Name x px) env (.int (i : Int) t)) (fun _ s₃ => wpAny (model prog w) A (execs body env) (PostN h₀ env.locals ys m₀ (J (i + 1)) I oI { s with heap := h, toks := tk } Q) E s₃) E { s with heap := h, toks := tk })
    (done : ∀ m₁ news₁ h tk, J n news₁ → (∀ z, z ∉ ys → m₁ z = m₀ z) → Fr h₀ env.locals h m₁ → News h₀ env.locals h news₁ → Q .next { s with heap := h, toks := tk }) :
    wpAny (model prog w) A (pyIter (.ref r)) (fun it s₂ => TurnsAt prog w A h₀ env (.Name x px) body Q E it s₂) E s := by
  refine iterR (fun i m₁ n₁ => (∀ z, z ∉ ys → m₁ z = m₀ z) ∧ J i n₁) hh F N hr hsm hrn ⟨fun _ _ => rfl, hj⟩ ?_ ?_
  · rintro i t m₁ n₁ I oI h tk hi ⟨hz, hJ⟩ hoff F₁ N₁
    refine wpAny_mono (turn i t m₁ n₁ I oI h tk hi hJ hz hoff F₁ N₁) (fun _ s₃ q => wpAny_mono q (fun f s₂ p => ?_) fun _ _ e => e) fun _ _ e => e
    have fin : EndN h₀ env.locals ys m₀ (J (i + 1)) I oI { s with heap := h, toks := tk } s₂ → EndL h₀ env.locals (fun m₂ n₂ => (∀ z, z ∉ ys → m₂ z = m₀ z) ∧ J (i + 1) n₂) I oI { s with heap := h, toks := tk } s₂ := by
      rintro ⟨h', tk', m', news', e, F', hz', N', ha, hJ'⟩
      exact ⟨h', tk', m', news', e, F', N', ha, hz', hJ'⟩
    cases f with
    | ret v => exact p
    | brk => exact p
    | next => exact fin p
    | cont => exact fin p
  · rintro m₁ n₁ h tk ⟨hz, hJ⟩ F₁ N₁
    exact done m₁ n₁ h tk hJ hz F₁ N₁
theorem iterTN {l : Addr} {vs : List Value} {k : Nat} {m₀ : Str → Option Value} {news : List (Addr × Obj)} {x : Str} {px : Pos} (ys : List Str) (J : Nat → List (Addr × Obj) → Prop)
    (hh : A.handled = none) (F : Fr h₀ env.locals s.heap m₀) (N : News h₀ env.locals s.heap news) (hj : J 0 news)
    (hl : ∀ i news₁, J i news₁ → (l, PySem.W.listOf vs.toArray k) ∈ news₁)
    (turn : ∀ i v m₁ news₁ I oI h tk, vs[i]? = some v → J i news₁ → (∀ z, z ∉ ys → m₁ z = m₀ z) → (∀ p ∈ news₁, p.1 ≠ I) → Fr h₀ env.locals h m₁ → News h₀ env.locals h ((I, oI) :: news₁) →
      wpAny (model prog w) A (assign (.Name x px) env v) (fun _ s₃ => wpAny (model prog w) A (execs body env) (PostN h₀ env.locals ys m₀ (J (i + 1)) I oI { s with heap := h, toks := tk } Q) E s₃) E { s with heap := h, toks := tk })
    (done : ∀ m₁ news₁ h tk, J vs.length news₁ → (∀ z, z ∉ ys → m₁ z = m₀ z) → Fr h₀ env.locals h m₁ → News h₀ env.locals h news₁ → Q .next { s with heap := h, toks := tk }) :
    wpAny (model prog w) A (pyIter (.ref l)) (fun it s₂ => TurnsAt prog w A h₀ env (.Name x px) body Q E it s₂) E s := by
  refine iterT (fun i m₁ n₁ => (∀ z, z ∉ ys → m₁ z = m₀ z) ∧ J i n₁) hh F N ⟨fun _ _ => rfl, hj⟩ (fun i m₁ n₁ h => hl i n₁ h.2) ?_ ?_
  · rintro i v m₁ n₁ I oI h tk hv ⟨hz, hJ⟩ hoff F₁ N₁
    refine wpAny_mono (turn i v m₁ n₁ I oI h tk hv hJ hz hoff F₁ N₁) (fun _ s₃ q => wpAny_mono q (fun f s₂ p => ?_) fun _ _ e => e) fun _ _ e => e
    have fin : EndN h₀ env.locals ys m₀ (J (i + 1)) I oI { s with heap := h, toks := tk } s₂ → EndL h₀ env.locals (fun m₂ n₂ => (∀ z, z ∉ ys → m₂ z = m₀ z) ∧ J (i + 1) n₂) I oI { s with heap := h, toks := tk } s₂ := by
      rintro ⟨h', tk', m', news', e, F', hz', N', ha, hJ'⟩
      exact ⟨h', tk', m', news', e, F', N', ha, hz', hJ'⟩
    cases f with
    | ret v => exact p
    | brk => exact p
    | next => exact fin p
    | cont => exact fin p
  · rintro m₁ n₁ h tk ⟨hz, hJ⟩ F₁ N₁
    exact done m₁ n₁ h tk hJ hz F₁ N₁
theorem callRange {L : Addr} {m : Str → Option Value} {n : Nat} {t : Tok} {news : List (Addr × Obj)} {Q : Value → Shared → Prop} (F : Fr h₀ L s.heap m) (N : News h₀ L s.heap news)
    (h : ∀ r h' u v w', Fr h₀ L h' m → News h₀ L h' news → IsRange h' r 0 (n : Int) 1 u v w' → Q (.ref r) { s with heap := h', toks := s.toks + 1 + 1 }) :
    wpAny (model prog w) A (call (.type "range") [.int (n : Int) t]) Q E s :=
  call_range_1 (h _ _ _ _ _ (F.push _) (fun p hp => ⟨Heap.get?_push_of_some _ (N p hp).1, (N p hp).2⟩) (IsRange.new _ _ _ _ _ _ _))
theorem smallN {n : Nat} (h : n ≤ 1000) : Builtin.Range.small 0 (n : Int) 1 = true := small_one (by omega) (by omega) (by omega) (by omega)
theorem sizeN (n : Nat) : Builtin.Range.rangeSize 0 (n : Int) 1 = n := by rw [rangeSize_one]; split <;> omega
theorem itemNat {value slice : PySem.Expr} {l : Addr} {items : Array Value} {k : Int} {t : Tok} {x : Value} {Q : Value → Shared → Prop} (hl : s.heap.IsList l items) (h0 : 0 ≤ k) (hfit : k < 2 ^ 63) (hx : items[k.toNat]? = some x) (h : Q x s)
    (hs : subscripted slice false (.ref l) (.int k t) = operate [.ref l, .int k t] (getItem (.ref l) (.int k t)) := by with_unfolding_all rfl) :
    wpAny (model prog w) A (subscriptTail value slice (.ref l) (.int k t)) Q E s :=
  tail_any hl.typeIs slot_list_getitem.lookup (wpAny_getItem_list hl h0 hfit hx h) hs
theorem item2 {value slice : PySem.Expr} {l : Addr} {v0 v1 : Value} {k : Int} {t : Tok} {Q : Value → Shared → Prop} (f : Bool → Value) (hl : s.heap.IsList l #[v0, v1]) (h0 : 0 ≤ k) (h2 : k < 2) (e0 : v0 = f false) (e1 : v1 = f true) (h : ∀ b, Q (f b) s)
    (hs : subscripted slice false (.ref l) (.int k t) = operate [.ref l, .int k t] (getItem (.ref l) (.int k t)) := by with_unfolding_all rfl) :
    wpAny (model prog w) A (subscriptTail value slice (.ref l) (.int k t)) Q E s := by
  subst e0 e1
  have e : k = 0 ∨ k = 1 := by omega
  rcases e with rfl | rfl
  · exact itemNat hl (by omega) (by omega) rfl (h false) hs
  · exact itemNat hl (by omega) (by omega) rfl (h true) hs
theorem item3 {value slice : PySem.Expr} {l : Addr} {v0 v1 v2 : Value} {k : Int} {t : Tok} {Q : Value → Shared → Prop} (f : _root_.Fin 3 → Value) (hl : s.heap.IsList l #[v0, v1, v2]) (h0 : 0 ≤ k) (h2 : k < 3) (e0 : v0 = f 0) (e1 : v1 = f 1) (e2 : v2 = f 2) (h : ∀ b, Q (f b) s)
    (hs : subscripted slice false (.ref l) (.int k t) = operate [.ref l, .int k t] (getItem (.ref l) (.int k t)) := by with_unfolding_all rfl) :
    wpAny (model prog w) A (subscriptTail value slice (.ref l) (.int k t)) Q E s := by
  subst e0 e1 e2
  have e : k = 0 ∨ k = 1 ∨ k = 2 := by omega
  rcases e with rfl | rfl | rfl
  · exact itemNat hl (by omega) (by omega) rfl (h 0) hs
  · exact itemNat hl (by omega) (by omega) rfl (h 1) hs
  · exact itemNat hl (by omega) (by omega) rfl (h 2) hs
end
end Mine
end
section
open PySem PySem.W PySem.Spec PySem.Calls PyProof.Rows
namespace Mine
theorem fresh_B0 : True := by
  w_top off
  trivial
/-- the law's body and scope, as the heap has them -/
def LawIs (w : World) (lb : List Stmt) (ls : Scope) : Prop := ∃ oc od osl n q ps cl dV kV doc pm an cdv ct, (hd.heap_39 w.params).lookup 722 = some ⟨oc, od, .func (fnX n q ps lb ls cl dV kV doc pm an cdv ct), osl⟩
theorem LawIs.elim {P : Prop} {w : World} {lb lb' : List Stmt} {ls ls' : Scope} {oc : Value} {od : Option Addr} {osl : Array (Option Value)} {n q : Str} {ps : Arguments} {cl : List (Str × Addr)} {dV kV doc pm cdv ct : Value} {an : Option Addr}
    (h : LawIs w lb ls) (hk : (hd.heap_39 w.params).lookup 722 = some ⟨oc, od, .func (fnX n q ps lb' ls' cl dV kV doc pm an cdv ct), osl⟩) (g : lb = lb' → ls = ls' → P) : P := by
  obtain ⟨oc1, od1, osl1, n1, q1, ps1, cl1, dV1, kV1, doc1, pm1, an1, cdv1, ct1, e⟩ := h
  rw [hk] at e
  injection e with e
  injection e with e1 e2 e3 e4
  injection e3 with e3
  injection e3 with f1 f2 f3 f4 f5
  injection f4 with f4
  exact g f4.symm f5.symm
theorem LawIs.intro {P : Prop} {w : World} {lb' : List Stmt} {ls' : Scope} {oc : Value} {od : Option Addr} {osl : Array (Option Value)} {n q : Str} {ps : Arguments} {cl : List (Str × Addr)} {dV kV doc pm cdv ct : Value} {an : Option Addr}
    (hk : (hd.heap_39 w.params).lookup 722 = some ⟨oc, od, .func (fnX n q ps lb' ls' cl dV kV doc pm an cdv ct), osl⟩) (g : LawIs w lb' ls' → P) : P := g ⟨_, _, _, _, _, _, _, _, _, _, _, _, _, _, hk⟩
section
open PyProof.Rows.LCg PyProof.Rows.LCt
variable {prog : Program} {w : World} {A : Around} {E : Value → Shared → Prop} {s : Shared}
theorem item2i {value slice : PySem.Expr} {l : Addr} {t0 t1 : Tok} {k : Int} {t : Tok} {Q : Value → Shared → Prop} (hl : s.heap.IsList l #[.int 0 t0, .int 1 t1]) (h0 : 0 ≤ k) (h2 : k < 2) (h : ∀ b t, Q (.int (opInt b) t) s)
    (hs : subscripted slice false (.ref l) (.int k t) = operate [.ref l, .int k t] (getItem (.ref l) (.int k t)) := by with_unfolding_all rfl) :
    wpAny (model prog w) A (subscriptTail value slice (.ref l) (.int k t)) Q E s := by
  have e : k = 0 ∨ k = 1 := by omega
  rcases e with rfl | rfl
  · exact itemNat hl (by omega) (by omega) rfl (h false t0) hs
  · exact itemNat hl (by omega) (by omega) rfl (h true t1) hs
end
/-- the ledger laid anew: the kept entries in front -/
theorem ledMove {h₀ h : Heap} {L : Addr} {tl nb : List (Addr × Obj)} (pre keep : List (Addr × Obj)) (N : News h₀ L h (tl ++ (pre ++ (keep ++ nb)))) (hl : ∀ q ∈ pre ++ (keep ++ nb), ∀ p ∈ tl, q.1 ≠ p.1)
    (hp : ∀ q ∈ pre, ∀ c ∈ keep, q.1 ≠ c.1) (hn : ∀ q ∈ nb, ∀ c ∈ keep, q.1 ≠ c.1) :
    ∃ nc, News h₀ L h (keep ++ nc) ∧ (∀ q ∈ nc, ∀ c ∈ keep, q.1 ≠ c.1) ∧ (∀ q ∈ nb, q ∈ nc) ∧ (∀ q ∈ tl, q ∈ nc) ∧ ∀ q ∈ pre, q ∈ nc := by
  refine ⟨tl ++ (pre ++ nb), fun q hq => N q ?_, fun q hq c hc => ?_, fun q hq => ?_, fun q hq => ?_, fun q hq => ?_⟩
  · simp only [List.mem_append] at hq ⊢
    rcases hq with hq | hq | hq | hq <;> simp [hq]
  · simp only [List.mem_append] at hq
    rcases hq with hq | hq | hq
    · exact fun e => hl c (List.mem_append_right _ (List.mem_append_left _ hc)) q hq e.symm
    · exact hp q hq c hc
    · exact hn q hq c hc
  · simp [hq]
  · simp [hq]
  · simp [hq]
end Mine
end
section
open PySem PySem.W PySem.Spec PySem.Calls PyProof.Rows PyProof.Rows.LCg PyProof.Rows.LCt
namespace Mine
theorem fresh_B1 : True := by
  w_top off
  trivial
local macro_rules | `(tactic| k_mem) => `(tactic| first | exact List.mem_cons_self | (refine List.mem_cons_of_mem _ ?_; k_mem))
local macro_rules | `(tactic| k_steps) => `(tactic| repeat' (first | (k_unfold; (try dsimp only)) | (k_end; wrow_close) | walk1 | (dsimp only; walk1) | (dsimp only; k_unfold; (try dsimp only)) | (leave1; walk_say "STEP leave1"; try dsimp only) | fail "no step"))
local macro_rules | `(tactic| walk_at "Hold") => `(tactic| refine stop ?_)
local macro_rules | `(tactic| walk_at "PostL0") => `(tactic| (unfold PostL0; try dsimp only))
local macro_rules | `(tactic| walk_at "EndL0") => `(tactic| refine stop ?_)
local macro_rules | `(tactic| walk_at "PostL") => `(tactic| (unfold PostL; try dsimp only))
local macro_rules | `(tactic| walk_at "EndL") => `(tactic| refine stop ?_)
local macro_rules | `(tactic| walk_at "PostM") => `(tactic| (unfold PostM; try dsimp only))
local macro_rules | `(tactic| walk_at "EndM") => `(tactic| refine stop ?_)
local macro_rules | `(tactic| walk_at "PostT") => `(tactic| (unfold PostT; try dsimp only))
local macro_rules | `(tactic| walk_at "EndT") => `(tactic| refine stop ?_)
local macro_rules | `(tactic| walk_at "pyIter ref") => `(tactic| refine stop ?_)
local macro_rules | `(tactic| ktr_call $_x:term $c:term) => `(tactic| (refine' Ctr.use ?k1 ?k2 ?k3 ?k4 ?k5 ?kK ?kC ?kd ?ku ?_; (case k1 => k_asm); (case k2 => k_asm); (case k3 => k_asm); (case k4 => k_asm); (case k5 => k_asm); (case kK => first | exact rfl | assumption); (case kC => exact $c); (case kd => ktr_room); (case ku => ktr_units)))
local macro_rules | `(tactic| k_room) => `(tactic| ktr_room)
local macro_rules | `(tactic| k_units) => `(tactic| ktr_units)
local macro_rules | `(tactic| k_enter) => `(tactic| first
  | (refine' code_def ?k1 ?k2 ?k3 ?k4 ?k5 ?kA ?kF ?kK ?k6 ?k7 ?k8 ?k9 ?kB ?_ ?c2 ?c3 ?c4 ?c5; (case k2 => k_asm); (case k3 => k_asm); (case k6 => k_is); (case k1 => k_asm); (case k4 => k_asm); (case k5 => k_asm); (case kA => exact rfl); (case kF => exact rfl); (case kK => first | exact rfl | assumption); (case k7 => k_is); (case k8 => ktr_room); (case k9 => first | exact BindsTo.of_eq rfl | exact binds_K (by k_in) rfl (by k_is) rfl rfl rfl | fail "k_enter: no rule for these arguments"); (case c5 => decide); (case kB => exact locs rfl); (case c2 => exact rfl); (case c3 => exact rfl); (case c4 => exact rfl); k_whole; intro g' L' h' FG' F' N' B' X' T'; (try dsimp only); (try k_lift B'); (try k_fold))
  | (refine' code_defC ?k1 ?k2 ?k3 ?k4 ?k5 ?kA ?kF ?kK ?k6 ?k7 ?k8 ?k9 ?kB ?kD ?_ ?c2 ?c3 ?c4; (case k2 => k_asm); (case k3 => k_asm); (case k6 => k_is); (case k1 => k_asm); (case k4 => k_asm); (case k5 => k_asm); (case kA => exact rfl); (case kF => exact rfl); (case kK => first | exact rfl | assumption); (case k7 => k_is); (case k8 => ktr_room); (case k9 => first | exact BindsTo.of_eq rfl | exact binds_K (by k_in) rfl (by k_is) rfl rfl rfl | fail "k_enter: no rule for these arguments"); (case kB => exact rfl); (case kD => decide +kernel); (case c2 => exact rfl); (case c3 => exact rfl); (case c4 => exact rfl); k_whole; intro g' L' h' tk' cells' FG' F' N' Y' B' X' T' l1; (try k_lt l1); k_cells Y'; (try simp only [List.cons_append, List.nil_append] at N'); (try dsimp only); (try k_lift B'); (try k_fold)))
local macro_rules | `(tactic| walk_at "truthy ref") => `(tactic| (k_here; (with_reducible show wpAny _ _ (truthy (Value.ref _)) _ _ _); (refine' kgr_truthy ?N ?m ?c ?d ?f ?_; (case N => k_asm); (case m => k_mem); (case c => rfl); (case d => rfl); (case f => first | omega | ((try simp only [List.length_map, List.length_cons, List.length_nil]); omega))); (try simp only [List.isEmpty_cons, List.isEmpty_nil, Bool.not_false, Bool.not_true])))
local macro_rules | `(tactic| ktr_rel) => `(tactic| (intro p hp; (try simp only [List.nil_append, List.cons_append, List.mem_cons, List.mem_append] at hp ⊢); first | exact hp | (simp [hp]; done) | (rcases hp with hp | hp <;> simp [hp])))
local macro_rules | `(tactic| walk_at "eval Name") => `(tactic| (k_here; k_dflt (refine' nameX_B ?F ?X ?T ?e ?v ?n ?_ ?a ?b; (case a => rfl); (case b => rfl); (case F => k_asm); (case X => k_asm); (case T => k_asm); (case e => k_is); (case v => boot_fast); (case n => decide); k_whole)))
local macro_rules | `(tactic| walk_at "eval Name") => `(tactic| (k_here; k_dflt (refine' nameX_K ?F ?X ?T ?e ?_ ?a ?b; (case a => rfl); (case b => rfl); (case F => k_asm); (case X => k_asm); (case T => k_asm); (case e => k_is); k_whole)))
local macro_rules | `(tactic| walk_at "eval Name") => `(tactic| (k_here; k_dflt (refine' nameX_L ?F ?v ?_ ?a ?b; (case F => k_asm); (case a => rfl); (case b => rfl); (case v => rfl); k_whole)))
local macro_rules | `(tactic| walk_at "ite") => `(tactic| ((with_reducible show ite (true = true) _ _); refine ite_pos rfl ?_))
local macro_rules | `(tactic| walk_at "ite") => `(tactic| ((with_reducible show ite (false = true) _ _); refine ite_neg Bool.false_ne_true ?_))
local macro_rules | `(tactic| walk_at "call builtin:isinstance") => `(tactic| (k_here; k_dflt (refine' isi_call ?k1 ?k2 ?k3 ?k4 ?_; (case k1 => k_in); (case k2 => k_types); (case k3 => k_is); (case k4 => intro e; cases e); k_whole)))
local macro_rules | `(tactic| walk_at "call ref") => `(tactic| (k_here; k_dflt (refine' call_cls ?k1 ?k2 ?k3 ?k4 ?k5 ?k6 ?_; (case k1 => k_asm); (case k2 => k_asm); (case k4 => k_is); (case k3 => k_asm); (case k5 => k_is); (case k6 => k_is); k_whole; intro x' d' h' F' N' l1 l2; (try k_lt l1); (try k_lt2 l2); (try k_sweep); k_enter)))
local macro_rules | `(tactic| walk_at "call ref") => `(tactic| (k_here; k_dflt (refine wpAny_call ?_; k_enter)))
local macro_rules | `(tactic| walk_at "call builtin:isinstance") => `(tactic| (k_here; (with_reducible show wpAny _ _ (call _ [Value.ref _, Value.ref _]) _ _ _); k_dflt (refine' kin_callC ?k1 ?k2 ?k3 ?k4 ?k5 ?k6 ?k7 ?k8 ?k9 ?_; (case k1 => k_in); (case k2 => k_inst); (case k3 => kin_no); (case k4 => k_is); (case k5 => k_is); (case k6 => k_is); (case k7 => k_is); (case k8 => k_is); (case k9 => k_is); k_whole)))
local macro_rules | `(tactic| walk_at "eval Name") => `(tactic| (k_here; k_dflt (refine' nameX_C ?N ?c ?m ?d ?_ ?a ?b; (case a => rfl); (case b => rfl); (case N => k_asm); (case c => rfl); (case m => k_mem); (case d => k_asm); k_whole)))
local macro_rules | `(tactic| walk_at "call builtin:list.append") => `(tactic| (k_here; (with_reducible show wpAny _ _ (call (Value.builtin _) [Value.ref _, _]) _ _ _); k_dflt (refine' append_K ?k1 ?k2 ?k3 ?_ ?z; (case k1 => k_asm); (case k2 => k_asm); (case k3 => k_upd); (case z => (simp only [List.size_toArray]; rw [sizeLine_eq]; omega)); k_whole); intro h' F' N'; (try k_sweep)))
local macro_rules | `(tactic| walk_at "eval ListComp") => `(tactic| (k_here; (with_reducible show wpAny _ _ (eval (Expr.ListComp _ [⟨Expr.Name _ _, _, [], _⟩] _ _) _) _ _ _); k_dflt (refine LCg.ListComp_U (F₀ := by k_asm) (by with_unfolding_all rfl) (by decide) (by rfl) (by decide) (by rfl) ?_)))
local macro_rules | `(tactic| walk_at "eval ListComp") => `(tactic| (k_here; (with_reducible show wpAny _ _ (eval (Expr.ListComp _ [⟨Expr.Name _ _, _, [_], _⟩] _ _) _) _ _ _); k_dflt (refine LCt.ListComp_T (F₀ := by k_asm) (by with_unfolding_all rfl) (by decide) (by rfl) (by decide) (by rfl) ?_)))
local macro_rules | `(tactic| walk_at "CompSrc") => `(tactic| refine stop ?_)
local macro_rules | `(tactic| walk_at "CompSrcT") => `(tactic| refine stop ?_)
local macro_rules | `(tactic| walk_at "CompEnd") => `(tactic| refine stop ?_)
local macro_rules | `(tactic| lsm_bools) => `(tactic| exact boolsMap _ _)
local macro_rules | `(tactic| lsm_list) => `(tactic| exact News.isList (by k_asm) (by k_mem))
local macro_rules | `(tactic| walk_at "exec For Name Name cons nil") => `(tactic| (k_here; (rename Fr _ _ _ _ => lF'); (with_unfolding_all refine' For_turns lF' ?_; k_whole)))
local macro_rules | `(tactic| walk_at "call builtin:len") => `(tactic| (k_here; (with_reducible show wpAny _ _ (call (Value.builtin "len") [Value.ref _]) _ _ _); (refine' lenLed ?N ?m ?f ?_; (case N => k_asm); (case m => k_mem); (case f => first | omega | ((try simp only [List.length_map, List.length_cons, List.length_nil]); omega))); (try simp only [List.length_cons, List.length_nil])))
local macro_rules | `(tactic| walk_at "subscriptTail Name Slice ref ref") => `(tactic| (k_here; (with_reducible show wpAny _ _ (subscriptTail _ (PySem.Expr.Slice _ _ none _) (Value.ref _) (Value.ref _)) _ _ _); k_dflt (refine' kmk_slice_lit ?F ?N ?l ?p ?q ?e ?_ ?s ?t ?z; (case F => k_asm); (case N => k_asm); (case l => exact News.isList (by k_asm) (by k_mem)); (case p => kmk_part); (case q => kmk_part); (case e => exact slice1 _ _); (case s => with_unfolding_all rfl); (case t => kmk_pure); (case z => (simp only [List.size_toArray, List.length_cons]; rw [sizeLine_eq]; omega))); intro D' h' F' N' l1; (try k_lt l1); (try k_sweep)))
local macro_rules | `(tactic| lcg_sub) => `(tactic| first | assumption | (refine List.mem_cons_of_mem _ ?_; lcg_sub))
local macro_rules | `(tactic| lcg_off) => `(tactic| ((try dsimp only); first | assumption | k_all | exact allLt3 (by assumption) | exact allLt3 (tb_ltOf (‹_ ∧ AllLt _ _›).2) | exact allLt3 (tb_ltOf (‹_ ∧ _ ∧ AllLt _ _›).2.2) | exact allLt3 (tb_ltOf (‹_ ∧ _ ∧ _ ∧ AllLt _ _›).2.2.2) | exact allLt2 (by assumption) (by assumption) | exact allLt2 (by assumption) (tb_ltOf (‹_ ∧ AllLt _ _›).2) | exact allLt2 (by assumption) (tb_ltOf (‹_ ∧ _ ∧ AllLt _ _›).2.2) | exact allLt2 (by assumption) (tb_ltOf (‹_ ∧ _ ∧ _ ∧ AllLt _ _›).2.2.2)))
local macro_rules | `(tactic| lcg_src) => `(tactic| first | exact Pre.nil' | (refine Pre.cons' ?_ ?_; lcg_off; lcg_src))
local macro_rules | `(tactic| walk_at "PostN") => `(tactic| (unfold PostN; try dsimp only))
local macro_rules | `(tactic| walk_at "EndN") => `(tactic| refine stop ?_)
local macro_rules | `(tactic| k_all) => `(tactic| assumption)
local macro_rules | `(tactic| walk_at "eval Call") => `(tactic| ((with_reducible show wpAny _ _ (eval (Expr.Call (Expr.Name _ _) [_, _, _] [] _) _) _ _ _); k_dflt (refine Call_ ?_)))
local macro_rules | `(tactic| walk_at "call ref") => `(tactic| ((with_reducible show wpAny _ _ (call (Value.ref 45) _ _) _ _ _); refine stop ?_))
local macro_rules | `(tactic| walk_at "call ref") => `(tactic| ((with_reducible show wpAny _ _ (call (Value.ref 669) _ _) _ _ _); refine stop ?_))
local macro_rules | `(tactic| walk_at "call ref") => `(tactic| ((with_reducible show wpAny _ _ (call (Value.ref 712) _ _) _ _ _); refine stop ?_))
local macro_rules | `(tactic| walk_at "call ref") => `(tactic| ((with_reducible show wpAny _ _ (call (Value.ref 717) _ _) _ _ _); refine stop ?_))
local macro_rules | `(tactic| walk_at "call ref") => `(tactic| ((with_reducible show wpAny _ _ (call (Value.ref 548) _ _) _ _ _); refine stop ?_))
local macro_rules | `(tactic| walk_at "call type:range") => `(tactic| refine stop ?_)
local macro_rules | `(tactic| walk_at "eval Name") => `(tactic| (k_here; k_dflt (refine' nameX_L ?F ?v ?_ ?a ?b; (case F => k_asm); (case a => rfl); (case b => rfl); (case v => assumption); k_whole)))
local macro_rules | `(tactic| walk_at "exec For Name Call cons nil") => `(tactic| (k_here; (rename Fr _ _ _ _ => lF'); (with_unfolding_all refine' For_turns lF' ?_; k_whole)))
local macro_rules | `(tactic| walk_at "subscriptTail") => `(tactic| ((with_reducible show wpAny _ _ (subscriptTail _ _ (Value.ref _) (Value.int _ _)) _ _ _); refine stop ?_))
abbrev bNames : List Str := [Str.ofString "k", Str.ofString "number", Str.ofString "way", Str.ofString "j", Str.ofString "rest"]
theorem lcgTail6 {p a b c d e f : Addr × Obj} {l : List (Addr × Obj)} (h : p ∈ l) : p ∈ a :: b :: c :: d :: e :: f :: l := .tail _ (.tail _ (.tail _ (.tail _ (.tail _ (.tail _ h)))))
def BuildSt (w : World) (zs : List Int) (vs : List Value) (sc : Addr) (a : WA) : Prop :=
  ∀ (lb : List Stmt) (ls : Scope) (st : Stmt) (p : Program) (loose : List Str) (mean : ExcName → Option Value) (mg mb : Str → Option Value) (fa : Addr) (h₀ : Heap) (L : Addr) (m : Str → Option Value) (s : Shared)
    (lways lvar lcls : Addr) (k1 k2 : Nat) (oc : Obj) (nb : List (Addr × Obj)) (Q : Flow → Shared → Prop) (E : Value → Shared → Prop),
    LawIs w lb ls → lb[7]? = some st → PassesOwn (model PySem.Challenge.rw_ft0022_01.row.prog w) (callerA.deeper (envOfC (Str.ofString "law") ls L fa (.ref 721))) (envOfC (Str.ofString "law") ls L fa (.ref 721)) E → Below callerA h₀ [] h₀ → Fr h₀ L s.heap m → (hd.heap_39 w.params).In h₀ → News h₀ L s.heap ((lways, PySem.W.listOf #[] 0) :: (L + 1, oc) :: (719, tabObj #[]) :: nb) → Top p loose mean mg mb h₀ →
    h₀.IsList sc vs.toArray → IntsAre vs zs → zs.length ≤ 63 →
    m (Str.ofString "script") = some (.ref sc) → m (Str.ofString "ways") = some (.ref lways) → m (Str.ofString "variables") = some (.ref lvar) → m (Str.ofString "classes") = some (.ref lcls) →
    WorldAt w nb a → (lvar, PySem.W.listOf #[.ref a.vT, .ref a.vS] k1) ∈ nb → (lcls, PySem.W.listOf #[.ref a.iA, .ref a.iB, .ref a.iC] k2) ∈ nb →
    (∀ q ∈ nb, @Ne Nat q.1 lways ∧ @Ne Nat q.1 (L + 1) ∧ @Ne Nat q.1 719) → @Ne Nat lways (L + 1) → @Ne Nat lways 719 → @Ne Nat (L + 1) 719 →
    (∀ (h' : Heap) (tk' : Nat) (m' : Str → Option Value) (ws : List WayV) (nb' : List (Addr × Obj)) (k : Nat), Fr h₀ L h' m' → (∀ z, z ∉ bNames → m' z = m z) → News h₀ L h' ((lways, PySem.W.listOf (ws.map wayVal).toArray k) :: (L + 1, oc) :: (719, tabObj #[]) :: nb') → (∀ q ∈ nb', @Ne Nat q.1 lways ∧ @Ne Nat q.1 (L + 1) ∧ @Ne Nat q.1 719) →
      (∀ q ∈ nb, q ∈ nb') → (∀ v ∈ ws, WayIn w nb' a v ∧ ∀ x, v = some x → x.2.length ≤ 2) → ws.length ≤ 4 → Q .next { s with heap := h', toks := tk' }) →
    wpAny (model PySem.Challenge.rw_ft0022_01.row.prog w) (callerA.deeper (envOfC (Str.ofString "law") ls L fa (.ref 721))) (exec st (envOfC (Str.ofString "law") ls L fa (.ref 721))) Q E s
def BuildJ (w : World) (a : WA) (lways L : Addr) (oc : Obj) (nb : List (Addr × Obj)) (i : Nat) (n₁ : List (Addr × Obj)) : Prop := ∃ (ws : List WayV) (nb1 : List (Addr × Obj)) (k : Nat), n₁ = (lways, PySem.W.listOf (ws.map wayVal).toArray k) :: (L + 1, oc) :: (719, tabObj #[]) :: nb1 ∧ ws.length = i ∧ (∀ q ∈ nb1, @Ne Nat q.1 lways ∧ @Ne Nat q.1 (L + 1) ∧ @Ne Nat q.1 719) ∧ (∀ q ∈ nb, q ∈ nb1) ∧ ∀ v ∈ ws, WayIn w nb1 a v ∧ ∀ x, v = some x → x.2.length ≤ 2
def BuildI (w : World) (a : WA) (lway I : Addr) (oI : Obj) (lways : Addr) (ow : Obj) (L : Addr) (oc : Obj) (nb : List (Addr × Obj)) (i : Nat) (n₁ : List (Addr × Obj)) : Prop :=
  ∃ (ps : List PC) (nb1 : List (Addr × Obj)) (k : Nat), n₁ = (lway, PySem.W.listOf (pcVals ps).toArray k) :: (I, oI) :: (lways, ow) :: (L + 1, oc) :: (719, tabObj #[]) :: nb1 ∧ ps.length = i ∧ (∀ q ∈ nb1, @Ne Nat q.1 lway ∧ @Ne Nat q.1 I ∧ @Ne Nat q.1 lways ∧ @Ne Nat q.1 (L + 1) ∧ @Ne Nat q.1 719) ∧ (∀ q ∈ nb, q ∈ nb1) ∧ ∀ p ∈ ps, ConRel w nb1 a p.1 p.2
theorem build_st {w : World} {zs : List Int} {vs : List Value} {sc : Addr} {a : WA} : BuildSt w zs vs sc a := by
  unfold BuildSt
  k_fill
  intro lb ls st p loose mean mg mb fa h₀ L m s lways lvar lcls k1 k2 oc nb Q E hlaw hst hE B F X N T lifted hI hzl hm1 hm2 hm3 hm4 W hv1 hc1 hnb hne1 hne2 hne3 hret
  refine' LawIs.elim hlaw ?k6 ?_
  (case k6 => k_is)
  rintro rfl rfl
  clear hlaw
  cases hst
  have hnb1 : ∀ q ∈ nb, q.1 ≠ lways := fun q hq => (hnb q hq).1
  have hnb2 : ∀ q ∈ nb, q.1 ≠ L + 1 := fun q hq => (hnb q hq).2.1
  have hnb3 : ∀ q ∈ nb, q.1 ≠ 719 := fun q hq => (hnb q hq).2.2
  k_steps
  refine Stop.mk ?_
  refine at_call (zs := zs) 0 3 _ _ _ _ _ _ _ _ _ _ _ _ _ _ _ _ _ _ _ _ _ _ _ _ _ (by k_asm) (by k_asm) (by k_asm) (by k_asm) (by k_asm) (by first | exact rfl | assumption) (by ktr_room) (by ktr_units) lifted hI hzl ?_
  intro hX2 tkX2 tX2 FX2 NX2
  obtain ⟨n, hn, hn4⟩ : ∃ n : Nat, (atZ zs 0 3).fmod 5 = (n : Int) ∧ n ≤ 4 := ⟨((atZ zs 0 3).fmod 5).toNat, by have := fmod_lo (atZ zs 0 3) (n := 5) (by decide); omega, by have := fmod_hi (atZ zs 0 3) (n := 5) (by decide); omega⟩
  k_steps
  rw [hn]
  refine Stop.mk ?_
  refine callRange (by k_asm) (by k_asm) ?_
  intro r3 h3 u3 v3 w3 F3 N3 R3
  dsimp only
  refine iterRN bNames (BuildJ w a lways L oc nb)
    rfl F3 N3 R3 (smallN (by omega)) (sizeN _) ⟨[], nb, 0, rfl, rfl, hnb, fun _ h => h, by simp⟩ ?_ ?_
  · rintro i t5 m5 n₁ I5 oI5 h5 tk5 hi ⟨ws, nb1, k5, rfl, hwl, hb5, hs5, hw5⟩ hz5 hoff5 F5 N5
    have c1 : m5 (Str.ofString "script") = some (.ref sc) := (hz5 _ (by decide)).trans hm1
    have c2 : m5 (Str.ofString "ways") = some (.ref lways) := (hz5 _ (by decide)).trans hm2
    have c3 : m5 (Str.ofString "variables") = some (.ref lvar) := (hz5 _ (by decide)).trans hm3
    have c4 : m5 (Str.ofString "classes") = some (.ref lcls) := (hz5 _ (by decide)).trans hm4
    k_steps
    refine Stop.mk ?_
    refine at_call (zs := zs) (2 + i) (13 * i + 1) _ _ _ _ _ _ _ _ _ _ _ _ _ _ _ _ _ _ _ _ _ _ _ _ _ (by k_asm) (by k_asm) (by k_asm) (by k_asm) (by k_asm) (by first | exact rfl | assumption) (by ktr_room) (by ktr_units) lifted hI hzl ?_
    intro hX6 tkX6 tX6 FX6 NX6
    have hl1 : ∀ q ∈ nb1, q.1 ≠ lways := fun q hq => (hb5 q hq).1
    have hl2 : ∀ q ∈ nb1, q.1 ≠ L + 1 := fun q hq => (hb5 q hq).2.1
    have hl3 : ∀ q ∈ nb1, q.1 ≠ 719 := fun q hq => (hb5 q hq).2.2
    have hI1 : @Ne Nat lways I5 := hoff5 _ (.head _)
    have hI2 : @Ne Nat (L + 1) I5 := hoff5 _ (.tail _ (.head _))
    have hI3 : @Ne Nat 719 I5 := hoff5 _ (.tail _ (.tail _ (.head _)))
    have hI4 : ∀ q ∈ nb1, q.1 ≠ I5 := fun q hq => hoff5 q (.tail _ (.tail _ (.tail _ hq)))
    k_steps
    · refine Stop.mk ?_
      refine EndN.intro (by k_asm) (by k_asm) ?_ (List.forall_mem_cons.mpr ⟨hI1, List.forall_mem_cons.mpr ⟨hI2, List.forall_mem_cons.mpr ⟨hI3, hI4⟩⟩⟩) ?_
      · intro z hz
        have h9 := hz5 z hz
        simp only [bNames, List.mem_cons, List.not_mem_nil, or_false, not_or] at hz
        simp only [hz.1, hz.2.1, if_false]
        exact h9
      · refine ⟨ws ++ [none], nb1, k5 + 1, by simp [wayVal], by simp [hwl], hb5, hs5, fun v hv => ?_⟩
        rcases List.mem_append.mp hv with hv | hv
        · exact hw5 v hv
        · rw [List.mem_singleton.mp hv]; exact ⟨trivial, nofun⟩
    · refine Stop.mk ?_
      have hlo := fmod_lo (((atZ zs (2 + i) (13 * ↑i + 1)).fmod 10000).fmod 8) (n := 3) (by decide)
      have hhi := fmod_hi (((atZ zs (2 + i) (13 * ↑i + 1)).fmod 10000).fmod 8) (n := 3) (by decide)
      obtain ⟨n2, hn2, hn24⟩ : ∃ n : Nat, (((atZ zs (2 + i) (13 * ↑i + 1)).fmod 10000).fmod 8).fmod 3 = (n : Int) ∧ n ≤ 2 := ⟨((((atZ zs (2 + i) (13 * ↑i + 1)).fmod 10000).fmod 8).fmod 3).toNat, by omega, by omega⟩
      rw [hn2]
      refine callRange (by k_asm) (by k_asm) ?_
      intro r4 h4 u4 v4 w4 F4 N4 R4
      dsimp only
      generalize (atZ zs (2 + i) (13 * ↑i + 1)).fmod 10000 = num at F4
      rename_i lway _ _ _ _ _
      have hW1 : @Ne Nat I5 lway := by k_ne
      have hW2 : @Ne Nat lways lway := by k_ne
      have hW3 : @Ne Nat (L + 1) lway := by k_ne
      have hW4 : @Ne Nat 719 lway := by k_ne
      have hW5 : ∀ q ∈ nb1, q.1 ≠ lway := by k_all
      refine iterRN [Str.ofString "j", Str.ofString "rest"] (BuildI w a lway I5 oI5 lways (PySem.W.listOf (ws.map wayVal).toArray k5) L oc nb1)
        rfl F4 N4 R4 (smallN (by omega)) (sizeN _) ⟨[], nb1, 0, rfl, rfl, fun q hq => ⟨hW5 q hq, hI4 q hq, hb5 q hq⟩, fun _ h => h, by simp⟩ ?_ ?_
      · rintro i7 t7 m7 n₂ I7 oI7 h7 tk7 hi7 ⟨ps, nb2, k7, rfl, hpl, hb7, hs7, hw7⟩ hz7 hoff7 F7 N7
        change (∀ q ∈ nb1, q ∈ nb2) at hs7
        have d3 : m7 (Str.ofString "variables") = some (.ref lvar) := (hz7 _ (by decide)).trans c3
        have d4 : m7 (Str.ofString "classes") = some (.ref lcls) := (hz7 _ (by decide)).trans c4
        have d5 : m7 (Str.ofString "way") = some (.ref lway) := hz7 _ (by decide)
        obtain ⟨t8, d6⟩ : ∃ t, m7 (Str.ofString "number") = some (.int num t) := ⟨_, hz7 _ (by decide)⟩
        k_steps
        have hpw : (0 : Int) < 12 ^ ((i7 : Int)).toNat ∧ (12 : Int) ^ ((i7 : Int)).toNat ≤ 12 := by
          have e1 : i7 = 0 ∨ i7 = 1 := by omega
          rcases e1 with rfl | rfl <;> decide
        generalize (12 : Int) ^ ((i7 : Int)).toNat = pw at hpw ⊢
        obtain ⟨hpw1, hpw2⟩ := hpw
        k_steps
        refine Stop.mk ?_
        (k_dflt (refine' item2 (fun b => .ref (a.var b)) ?l1 ?l2 ?l3 ?l4 ?l5 ?_ ?l6; (case l1 => exact News.isList (by k_asm) (lcgTail6 (hs7 _ (hs5 _ hv1)))); (case l2 => exact fmod_lo _ (by decide)); (case l3 => exact fmod_hi _ (by decide)); (case l4 => exact rfl); (case l5 => exact rfl); (case l6 => with_unfolding_all rfl)))
        intro bv
        dsimp only
        k_steps
        rename_i ld _ _ _ ll1
        refine Stop.mk ?_
        (k_dflt (refine' item2i ?l1 ?l2 ?l3 ?_ ?l6; (case l1 => exact News.isList (by k_asm) (.head _)); (case l2 => exact fmod_lo _ (by decide)); (case l3 => exact fmod_hi _ (by decide)); (case l6 => with_unfolding_all rfl)))
        intro bo tbo
        dsimp only
        k_steps
        refine Stop.mk ?_
        (k_dflt (refine' item3 (fun b => .ref (a.ins b)) ?l1 ?l2 ?l3 ?l4 ?l5 ?l7 ?_ ?l6; (case l1 => exact News.isList (by k_asm) (.tail _ (lcgTail6 (hs7 _ (hs5 _ hc1))))); (case l2 => exact fmod_lo _ (by decide)); (case l3 => exact fmod_hi _ (by decide)); (case l4 => exact rfl); (case l5 => exact rfl); (case l7 => exact rfl); (case l6 => with_unfolding_all rfl)))
        intro bk
        dsimp only
        k_steps
        refine Stop.mk ?_
        ktr_call 0 (con_ctr ((W.var bv).mono fun q hq => .tail _ (lcgTail6 (hs7 _ (hs5 _ hq)))))
        rintro rX tlX hX tkX FX NX hlX ⟨xc, rfl, Cx⟩
        obtain ⟨nb3, N3, ap3, s3, t3, p3⟩ := ledMove [(ld, _)] [(I7, oI7), (lway, _), (I5, oI5), (lways, _), (L + 1, oc), (719, tabObj #[])] (nb := nb2) NX hlX (by
            intro q hq c hc
            rw [List.mem_singleton.mp hq]
            simp only [List.mem_cons, List.not_mem_nil, or_false] at hc
            rcases hc with rfl | rfl | rfl | rfl | rfl | rfl <;> k_ne) (by
            intro q hq c hc
            have g := hb7 q hq
            simp only [List.mem_cons, List.not_mem_nil, or_false] at hc
            rcases hc with rfl | rfl | rfl | rfl | rfl | rfl
            · exact hoff7 q (.tail _ (.tail _ (.tail _ (.tail _ (.tail _ hq)))))
            · exact g.1
            · exact g.2.1
            · exact g.2.2.1
            · exact g.2.2.2.1
            · exact g.2.2.2.2)
        simp only [List.cons_append, List.nil_append] at N3
        have g1 : ∀ q ∈ nb3, q.1 ≠ I7 := fun q hq => ap3 q hq _ (.head _)
        have g2 : ∀ q ∈ nb3, q.1 ≠ lway := fun q hq => ap3 q hq _ (.tail _ (.head _))
        have g3 : ∀ q ∈ nb3, q.1 ≠ I5 := fun q hq => ap3 q hq _ (.tail _ (.tail _ (.head _)))
        have g4 : ∀ q ∈ nb3, q.1 ≠ lways := fun q hq => ap3 q hq _ (.tail _ (.tail _ (.tail _ (.head _))))
        have g5 : ∀ q ∈ nb3, q.1 ≠ L + 1 := fun q hq => ap3 q hq _ (.tail _ (.tail _ (.tail _ (.tail _ (.head _)))))
        have g6 : ∀ q ∈ nb3, q.1 ≠ 719 := fun q hq => ap3 q hq _ (.tail _ (.tail _ (.tail _ (.tail _ (.tail _ (.head _))))))
        have v1 : @Ne Nat lway I7 := hoff7 _ (.head _)
        have v2 : @Ne Nat I5 I7 := hoff7 _ (.tail _ (.head _))
        have v3 : @Ne Nat lways I7 := hoff7 _ (.tail _ (.tail _ (.head _)))
        have v4 : @Ne Nat (L + 1) I7 := hoff7 _ (.tail _ (.tail _ (.tail _ (.head _))))
        have v5 : @Ne Nat 719 I7 := hoff7 _ (.tail _ (.tail _ (.tail _ (.tail _ (.head _)))))
        clear NX
        have hpl1 : (pcVals ps).length ≤ 2 := by simp only [pcVals, List.length_map]; omega
        k_steps
        refine Stop.mk ?_
        rename_i N9
        refine EndN.intro (by k_asm) N9 ?_ (List.forall_mem_cons.mpr ⟨v1, List.forall_mem_cons.mpr ⟨v2, List.forall_mem_cons.mpr ⟨v3, List.forall_mem_cons.mpr ⟨v4, List.forall_mem_cons.mpr ⟨v5, g1⟩⟩⟩⟩⟩) ?_
        · intro z hz
          have h9 := hz7 z hz
          simp only [List.mem_cons, List.not_mem_nil, or_false, not_or] at hz
          simp only [hz.1, hz.2, if_false]
          exact h9
        · refine ⟨ps ++ [(xc, (bv, bo, bk))], nb3, k7 + 1, by simp [pcVals], by simp [hpl], fun q hq => ⟨g2 q hq, g3 q hq, g4 q hq, g5 q hq, g6 q hq⟩, fun q hq => s3 q (hs7 q hq), fun p hp => ?_⟩
          rcases List.mem_append.mp hp with hp | hp
          · exact (hw7 p hp).mono s3
          · rw [List.mem_singleton.mp hp]
            exact ConAt.mono t3 Cx
      · rintro m7 n₂ h7 tk7 ⟨ps, nb2, k7, rfl, hpl, hb7, hs7, hw7⟩ hz7 F7 N7
        change (∀ q ∈ nb1, q ∈ nb2) at hs7
        have d1 : m7 (Str.ofString "ways") = some (.ref lways) := (hz7 _ (by decide)).trans c2
        have d5 : m7 (Str.ofString "way") = some (.ref lway) := hz7 _ (by decide)
        have g2 : ∀ q ∈ nb2, q.1 ≠ lway := fun q hq => (hb7 q hq).1
        have g3 : ∀ q ∈ nb2, q.1 ≠ I5 := fun q hq => (hb7 q hq).2.1
        have g4 : ∀ q ∈ nb2, q.1 ≠ lways := fun q hq => (hb7 q hq).2.2.1
        have g5 : ∀ q ∈ nb2, q.1 ≠ L + 1 := fun q hq => (hb7 q hq).2.2.2.1
        have g6 : ∀ q ∈ nb2, q.1 ≠ 719 := fun q hq => (hb7 q hq).2.2.2.2
        k_steps
        refine Stop.mk ?_
        rename_i N9
        have N10 := newsSub N9 (b := (I5, oI5) :: (lways, PySem.W.listOf ((ws.map wayVal).toArray.push (.ref lway)) (k5 + 1)) :: (L + 1, oc) :: (719, tabObj #[]) :: (lway, PySem.W.listOf (pcVals ps).toArray k7) :: nb2) (fun q hq => by
          simp only [List.mem_cons] at hq ⊢
          rcases hq with hq | hq | hq | hq | hq | hq <;> simp [hq])
        refine EndN.intro (by k_asm) N10 ?_ (List.forall_mem_cons.mpr ⟨hI1, List.forall_mem_cons.mpr ⟨hI2, List.forall_mem_cons.mpr ⟨hI3, List.forall_mem_cons.mpr ⟨hW1.symm, g3⟩⟩⟩⟩) ?_
        · intro z hz
          have h9 := hz5 z hz
          simp only [bNames, List.mem_cons, List.not_mem_nil, or_false, not_or] at hz
          have h10 := hz7 z (by simp [hz])
          simp only [hz, if_false] at h10
          exact h10.trans h9
        · refine ⟨ws ++ [some (lway, ps)], (lway, PySem.W.listOf (pcVals ps).toArray k7) :: nb2, k5 + 1, by simp [wayVal], by simp [hwl], List.forall_mem_cons.mpr ⟨⟨hW2.symm, hW3.symm, hW4.symm⟩, fun q hq => ⟨g4 q hq, g5 q hq, g6 q hq⟩⟩, fun q hq => .tail _ (hs7 q (hs5 q hq)), fun v hv => ?_⟩
          rcases List.mem_append.mp hv with hv | hv
          · exact ⟨(hw5 v hv).1.mono fun q hq => .tail _ (hs7 q hq), (hw5 v hv).2⟩
          · rw [List.mem_singleton.mp hv]
            refine ⟨⟨⟨_, .head _⟩, fun p hp => (hw7 p hp).mono fun q hq => .tail _ hq⟩, fun x hx => ?_⟩
            cases hx
            dsimp only
            omega
  · rintro m5 n₁ h5 tk5 ⟨ws, nb1, k5, rfl, hwl, hb5, hs5, hw5⟩ hz5 F5 N5
    exact hret _ _ _ ws nb1 k5 F5 hz5 N5 hb5 hs5 hw5 (by omega)
end Mine
end
section
open PySem PySem.W PySem.Spec PySem.Calls PyProof.Rows
namespace Mine
theorem fresh_Z2 : True := by
  w_top off
  trivial
section
variable {prog : Program} {w : World} {A : Around} {E : Value → Shared → Prop} {s : Shared} {h₀ : Heap} {L : Addr} {m : Str → Option Value} {news : List (Addr × Obj)}
/-- sorted of one item, of whatever kind -/
theorem sortedOne {l : Addr} {v : Value} {Q : Value → Shared → Prop} (F : Fr h₀ L s.heap m) (N : News h₀ L s.heap news) (hl : s.heap.IsList l [v].toArray)
    (h : ∀ D h' n, Fr h₀ L h' m → News h₀ L h' ((D, listOf #[v] n) :: news) → (∀ q ∈ news, q.1 < D) → Q (.ref D) { s with heap := h' }) :
    wpAny (model prog w) A (call (.builtin "sorted") [.ref l]) Q E s := by
  refine Calls.call_function_entry kind_sorted plain_sorted entry_sorted (args_sorted1 _) ?_
  unfold Builtin.«sorted»
  refine wpAny_bind (m := checkCount "sorted" 1 1 _) (wpAny_pure ?_)
  refine wpAny_bind (collect_list hl ?_ (by rw [sizeLine_eq]; show 1 ≤ _; omega))
  refine wpAny_bind (wpAny_newList ?_ (by rw [sizeLine_eq]; show 1 ≤ _; omega))
  generalize hg1 : (s.heap.push (seqObj "list" #[] 0)).update s.heap.objs.size (Obj.mapSeq (· ++ [v].toArray)) = g1
  have hsz : g1.objs.size = s.heap.objs.size + 1 := by
    rw [← hg1, Heap.size_update, size_push']
  have hoL : (g1.push (seqObj "list" [v].toArray 0)).get? (s.heap.objs.size + 1) = some (seqObj "list" [v].toArray 0) := by
    rw [← hsz]; exact Heap.get?_push_size _ rfl
  have keep1 : ∀ b o, s.heap.get? b = some o → g1.get? b = some o := fun b o q => by
    have hlt : b < s.heap.objs.size := Heap.lt_size q
    rw [← hg1, Heap.get?_update_ne _ _ _ _ (Nat.ne_of_lt hlt), Heap.get?_push_ne _ _ _ (Nat.ne_of_lt hlt)]
    exact q
  have hL : L < s.heap.objs.size := F.ns.lt
  show wpAny _ _ _ _ _ { s with heap := g1.push (seqObj "list" [v].toArray 0) }
  rw [hsz]
  refine wpAny_bind (wpAny_holding (wpAny_call_entry slot_list_sort ⟨_, hoL, rfl⟩ entry_list_sort ?body (args_list_sort _)))
  case body =>
    have keep2 : ∀ b o, s.heap.get? b = some o → (g1.push (seqObj "list" [v].toArray 0)).get? b = some o := fun b o q => Heap.get?_push_of_some _ (keep1 b o q)
    have F2 := F.kept keep2
    have N2 := N.grown keep2
    have haL : s.heap.objs.size + 1 ≠ L := Nat.ne_of_gt (Nat.lt_succ_of_lt hL)
    have ha0 : h₀.get? (s.heap.objs.size + 1) = none := Heap.get?_none_of_le (Nat.le_trans F.above (Nat.le_succ_of_le (Nat.le_of_lt hL)))
    have hna : ∀ p ∈ news, p.1 ≠ s.heap.objs.size + 1 := fun p hp => Nat.ne_of_lt (Nat.lt_succ_of_lt (Heap.lt_size (N p hp).1))
    have hlt : ∀ p ∈ news, p.1 < s.heap.objs.size + 1 := fun p hp => Nat.lt_succ_of_lt (Heap.lt_size (N p hp).1)
    generalize hg2 : g1.push (seqObj "list" [v].toArray 0) = g2 at *
    generalize s.heap.objs.size + 1 = a at *
    rw [list_sort_plain]
    refine wpAny_bind (listItems_at hoL rfl ?_)
    refine wpAny_bind (listUpdate_at hoL rfl ?_ (by show 1 ≤ _; rw [sizeLine_eq]; omega) (Nat.zero_le _))
    obtain ⟨e1, ho1⟩ : ∃ e1, (g2.update a (Obj.mapSeq fun _ => (#[] : Array Value))).get? a = some (seqObj "list" #[] e1) := ⟨_, get?_update_seq hoL fun _ => #[]⟩
    have s1 := Heap.SameBut.update g2 a (Obj.mapSeq fun _ => (#[] : Array Value))
    have F3 := kas_fr F2 s1 haL ha0
    have N3 := kas_news N2 s1 hna
    refine wpAny_bind (seqEpoch_at ho1 rfl ?_)
    generalize g2.update a (Obj.mapSeq fun _ => (#[] : Array Value)) = g3 at *
    refine wpAny_bind (wpAny_newTuple ?_ (by show 1 ≤ _; rw [sizeLine_eq]; omega))
    refine wpAny_bind (wpAny_newList ?_ (Nat.zero_le _))
    refine wpAny_holding ?_
    show wpAny (model prog w) _ _ _ _ { s with heap := (g3.push (seqObj "tuple" [v].toArray 0)).push (seqObj "list" #[] 0) }
    have keep4 : ∀ b o, g3.get? b = some o → ((g3.push (seqObj "tuple" [v].toArray 0)).push (seqObj "list" #[] 0)).get? b = some o := fun b o q => Heap.get?_push_of_some _ (Heap.get?_push_of_some _ q)
    have ho6 := keep4 _ _ ho1
    have F4 := F3.kept keep4
    have N4 := N3.grown keep4
    generalize (g3.push (seqObj "tuple" [v].toArray 0)).push (seqObj "list" #[] 0) = g4 at *
    dsimp only
    have h2 : [v].toArray.size < 2 := by show 1 < 2; decide
    rw [if_pos h2, if_pos h2]
    refine wpAny_bind (wpAny_pure ?_)
    rw [StateT.run_pure]
    refine wpAny_bind (wpAny_pure ?_)
    dsimp only
    refine wpAny_bind (seqEpoch_at ho6 rfl ?_)
    have harr : Array.map (fun x => x.snd) (arrOf (SortSt.mk' general' ([v].toArray.zip [v].toArray) #[] 7 none)) = #[v] := by simp [arrOf]
    rw [harr]
    refine wpAny_bind (listUpdate_at ho6 rfl ?_ (by show 0 ≤ _; exact Nat.zero_le _) (by show 1 ≤ _; rw [sizeLine_eq]; omega))
    obtain ⟨e2, ho7⟩ : ∃ e2, (g4.update a (Obj.mapSeq fun _ => (#[v] : Array Value))).get? a = some (seqObj "list" #[v] e2) := ⟨_, get?_update_seq ho6 fun _ => #[v]⟩
    have s2 := Heap.SameBut.update g4 a (Obj.mapSeq fun _ => (#[v] : Array Value))
    have F5 := kas_fr F4 s2 haL ha0
    have N5 := kas_news N4 s2 hna
    simp only [bne_self_eq_false, Bool.false_eq_true, if_false]
    refine wpAny_pure ⟨_, rfl, wpAny_pure ⟨_, rfl, ?_⟩⟩
    refine h _ _ e2 F5 (fun p hp => ?_) ?_
    · rcases List.mem_cons.mp hp with rfl | hp
      · exact ⟨ho7, haL, ha0⟩
      · exact N5 p hp
    · exact hlt
/-- sorted of no item -/
theorem sortedNil {l : Addr} {Q : Value → Shared → Prop} (F : Fr h₀ L s.heap m) (N : News h₀ L s.heap news) (hl : s.heap.IsList l ([] : List Value).toArray)
    (h : ∀ D h' n, Fr h₀ L h' m → News h₀ L h' ((D, listOf #[] n) :: news) → (∀ q ∈ news, q.1 < D) → Q (.ref D) { s with heap := h' }) :
    wpAny (model prog w) A (call (.builtin "sorted") [.ref l]) Q E s := by
  refine Calls.call_function_entry kind_sorted plain_sorted entry_sorted (args_sorted1 _) ?_
  unfold Builtin.«sorted»
  refine wpAny_bind (m := checkCount "sorted" 1 1 _) (wpAny_pure ?_)
  refine wpAny_bind (collect_list hl ?_ (by rw [sizeLine_eq]; show 0 ≤ _; omega))
  refine wpAny_bind (wpAny_newList ?_ (by rw [sizeLine_eq]; show 0 ≤ _; omega))
  generalize hg1 : (s.heap.push (seqObj "list" #[] 0)).update s.heap.objs.size (Obj.mapSeq (· ++ ([] : List Value).toArray)) = g1
  have hsz : g1.objs.size = s.heap.objs.size + 1 := by
    rw [← hg1, Heap.size_update, size_push']
  have hoL : (g1.push (seqObj "list" ([] : List Value).toArray 0)).get? (s.heap.objs.size + 1) = some (seqObj "list" ([] : List Value).toArray 0) := by
    rw [← hsz]; exact Heap.get?_push_size _ rfl
  have keep1 : ∀ b o, s.heap.get? b = some o → g1.get? b = some o := fun b o q => by
    have hlt : b < s.heap.objs.size := Heap.lt_size q
    rw [← hg1, Heap.get?_update_ne _ _ _ _ (Nat.ne_of_lt hlt), Heap.get?_push_ne _ _ _ (Nat.ne_of_lt hlt)]
    exact q
  have hL : L < s.heap.objs.size := F.ns.lt
  show wpAny _ _ _ _ _ { s with heap := g1.push (seqObj "list" ([] : List Value).toArray 0) }
  rw [hsz]
  refine wpAny_bind (wpAny_holding (wpAny_call_entry slot_list_sort ⟨_, hoL, rfl⟩ entry_list_sort ?body (args_list_sort _)))
  case body =>
    have keep2 : ∀ b o, s.heap.get? b = some o → (g1.push (seqObj "list" ([] : List Value).toArray 0)).get? b = some o := fun b o q => Heap.get?_push_of_some _ (keep1 b o q)
    have F2 := F.kept keep2
    have N2 := N.grown keep2
    have haL : s.heap.objs.size + 1 ≠ L := Nat.ne_of_gt (Nat.lt_succ_of_lt hL)
    have ha0 : h₀.get? (s.heap.objs.size + 1) = none := Heap.get?_none_of_le (Nat.le_trans F.above (Nat.le_succ_of_le (Nat.le_of_lt hL)))
    have hna : ∀ p ∈ news, p.1 ≠ s.heap.objs.size + 1 := fun p hp => Nat.ne_of_lt (Nat.lt_succ_of_lt (Heap.lt_size (N p hp).1))
    have hlt : ∀ p ∈ news, p.1 < s.heap.objs.size + 1 := fun p hp => Nat.lt_succ_of_lt (Heap.lt_size (N p hp).1)
    generalize hg2 : g1.push (seqObj "list" ([] : List Value).toArray 0) = g2 at *
    generalize s.heap.objs.size + 1 = a at *
    rw [list_sort_plain]
    refine wpAny_bind (listItems_at hoL rfl ?_)
    refine wpAny_bind (listUpdate_at hoL rfl ?_ (by show 0 ≤ _; rw [sizeLine_eq]; omega) (Nat.zero_le _))
    obtain ⟨e1, ho1⟩ : ∃ e1, (g2.update a (Obj.mapSeq fun _ => (#[] : Array Value))).get? a = some (seqObj "list" #[] e1) := ⟨_, get?_update_seq hoL fun _ => #[]⟩
    have s1 := Heap.SameBut.update g2 a (Obj.mapSeq fun _ => (#[] : Array Value))
    have F3 := kas_fr F2 s1 haL ha0
    have N3 := kas_news N2 s1 hna
    refine wpAny_bind (seqEpoch_at ho1 rfl ?_)
    generalize g2.update a (Obj.mapSeq fun _ => (#[] : Array Value)) = g3 at *
    refine wpAny_bind (wpAny_newTuple ?_ (by show 0 ≤ _; rw [sizeLine_eq]; omega))
    refine wpAny_bind (wpAny_newList ?_ (Nat.zero_le _))
    refine wpAny_holding ?_
    show wpAny (model prog w) _ _ _ _ { s with heap := (g3.push (seqObj "tuple" ([] : List Value).toArray 0)).push (seqObj "list" #[] 0) }
    have keep4 : ∀ b o, g3.get? b = some o → ((g3.push (seqObj "tuple" ([] : List Value).toArray 0)).push (seqObj "list" #[] 0)).get? b = some o := fun b o q => Heap.get?_push_of_some _ (Heap.get?_push_of_some _ q)
    have ho6 := keep4 _ _ ho1
    have F4 := F3.kept keep4
    have N4 := N3.grown keep4
    generalize (g3.push (seqObj "tuple" ([] : List Value).toArray 0)).push (seqObj "list" #[] 0) = g4 at *
    dsimp only
    have h2 : ([] : List Value).toArray.size < 2 := by show 0 < 2; decide
    rw [if_pos h2, if_pos h2]
    refine wpAny_bind (wpAny_pure ?_)
    rw [StateT.run_pure]
    refine wpAny_bind (wpAny_pure ?_)
    dsimp only
    refine wpAny_bind (seqEpoch_at ho6 rfl ?_)
    have harr : Array.map (fun x => x.snd) (arrOf (SortSt.mk' general' (([] : List Value).toArray.zip ([] : List Value).toArray) #[] 7 none)) = #[] := by first | rfl | simp [arrOf]
    rw [harr]
    refine wpAny_bind (listUpdate_at ho6 rfl ?_ (by show 0 ≤ _; exact Nat.zero_le _) (by show 0 ≤ _; rw [sizeLine_eq]; omega))
    obtain ⟨e2, ho7⟩ : ∃ e2, (g4.update a (Obj.mapSeq fun _ => (#[] : Array Value))).get? a = some (seqObj "list" #[] e2) := ⟨_, get?_update_seq ho6 fun _ => #[]⟩
    have s2 := Heap.SameBut.update g4 a (Obj.mapSeq fun _ => (#[] : Array Value))
    have F5 := kas_fr F4 s2 haL ha0
    have N5 := kas_news N4 s2 hna
    simp only [bne_self_eq_false, Bool.false_eq_true, if_false]
    refine wpAny_pure ⟨_, rfl, wpAny_pure ⟨_, rfl, ?_⟩⟩
    refine h _ _ e2 F5 (fun p hp => ?_) ?_
    · rcases List.mem_cons.mp hp with rfl | hp
      · exact ⟨ho7, haL, ha0⟩
      · exact N5 p hp
    · exact hlt
end
end Mine
end
section
open PySem PySem.W PySem.Spec PySem.Calls PyProof.Rows
namespace Mine
theorem fresh_U0 : True := by
  w_top off
  trivial
local macro_rules | `(tactic| k_mem) => `(tactic| first | exact List.mem_cons_self | (refine List.mem_cons_of_mem _ ?_; k_mem))
local macro_rules | `(tactic| k_steps) => `(tactic| repeat' (first | (k_unfold; (try dsimp only)) | (k_end; wrow_close) | walk1 | (dsimp only; walk1) | (dsimp only; k_unfold; (try dsimp only)) | (leave1; walk_say "STEP leave1"; try dsimp only) | fail "no step"))
local macro_rules | `(tactic| walk_at "Hold") => `(tactic| refine stop ?_)
local macro_rules | `(tactic| walk_at "PostL0") => `(tactic| (unfold PostL0; try dsimp only))
local macro_rules | `(tactic| walk_at "EndL0") => `(tactic| refine stop ?_)
local macro_rules | `(tactic| walk_at "PostL") => `(tactic| (unfold PostL; try dsimp only))
local macro_rules | `(tactic| walk_at "EndL") => `(tactic| refine stop ?_)
local macro_rules | `(tactic| walk_at "PostM") => `(tactic| (unfold PostM; try dsimp only))
local macro_rules | `(tactic| walk_at "EndM") => `(tactic| refine stop ?_)
local macro_rules | `(tactic| walk_at "PostT") => `(tactic| (unfold PostT; try dsimp only))
local macro_rules | `(tactic| walk_at "EndT") => `(tactic| refine stop ?_)
local macro_rules | `(tactic| walk_at "pyIter ref") => `(tactic| refine stop ?_)
local macro_rules | `(tactic| ktr_call $_x:term $c:term) => `(tactic| (refine' Ctr.use ?k1 ?k2 ?k3 ?k4 ?k5 ?kK ?kC ?kd ?ku ?_; (case k1 => k_asm); (case k2 => k_asm); (case k3 => k_asm); (case k4 => k_asm); (case k5 => k_asm); (case kK => first | exact rfl | assumption); (case kC => exact $c); (case kd => ktr_room); (case ku => ktr_units)))
local macro_rules | `(tactic| k_room) => `(tactic| ktr_room)
local macro_rules | `(tactic| k_units) => `(tactic| ktr_units)
local macro_rules | `(tactic| k_enter) => `(tactic| first
  | (refine' code_def ?k1 ?k2 ?k3 ?k4 ?k5 ?kA ?kF ?kK ?k6 ?k7 ?k8 ?k9 ?kB ?_ ?c2 ?c3 ?c4 ?c5; (case k2 => k_asm); (case k3 => k_asm); (case k6 => k_is); (case k1 => k_asm); (case k4 => k_asm); (case k5 => k_asm); (case kA => exact rfl); (case kF => exact rfl); (case kK => first | exact rfl | assumption); (case k7 => k_is); (case k8 => ktr_room); (case k9 => first | exact BindsTo.of_eq rfl | exact binds_K (by k_in) rfl (by k_is) rfl rfl rfl | fail "k_enter: no rule for these arguments"); (case c5 => decide); (case kB => exact locs rfl); (case c2 => exact rfl); (case c3 => exact rfl); (case c4 => exact rfl); k_whole; intro g' L' h' FG' F' N' B' X' T'; (try dsimp only); (try k_lift B'); (try k_fold))
  | (refine' code_defC ?k1 ?k2 ?k3 ?k4 ?k5 ?kA ?kF ?kK ?k6 ?k7 ?k8 ?k9 ?kB ?kD ?_ ?c2 ?c3 ?c4; (case k2 => k_asm); (case k3 => k_asm); (case k6 => k_is); (case k1 => k_asm); (case k4 => k_asm); (case k5 => k_asm); (case kA => exact rfl); (case kF => exact rfl); (case kK => first | exact rfl | assumption); (case k7 => k_is); (case k8 => ktr_room); (case k9 => first | exact BindsTo.of_eq rfl | exact binds_K (by k_in) rfl (by k_is) rfl rfl rfl | fail "k_enter: no rule for these arguments"); (case kB => exact rfl); (case kD => decide +kernel); (case c2 => exact rfl); (case c3 => exact rfl); (case c4 => exact rfl); k_whole; intro g' L' h' tk' cells' FG' F' N' Y' B' X' T' l1; (try k_lt l1); k_cells Y'; (try simp only [List.cons_append, List.nil_append] at N'); (try dsimp only); (try k_lift B'); (try k_fold)))
local macro_rules | `(tactic| walk_at "truthy ref") => `(tactic| (k_here; (with_reducible show wpAny _ _ (truthy (Value.ref _)) _ _ _); (refine' kgr_truthy ?N ?m ?c ?d ?f ?_; (case N => k_asm); (case m => k_mem); (case c => rfl); (case d => rfl); (case f => first | omega | ((try simp only [List.length_map, List.length_cons, List.length_nil]); omega))); (try simp only [List.isEmpty_cons, List.isEmpty_nil, Bool.not_false, Bool.not_true])))
local macro_rules | `(tactic| ktr_rel) => `(tactic| (intro p hp; (try simp only [List.nil_append, List.cons_append, List.mem_cons, List.mem_append] at hp ⊢); first | exact hp | (simp [hp]; done) | (rcases hp with hp | hp <;> simp [hp])))
local macro_rules | `(tactic| walk_at "eval Name") => `(tactic| (k_here; k_dflt (refine' nameX_B ?F ?X ?T ?e ?v ?n ?_ ?a ?b; (case a => rfl); (case b => rfl); (case F => k_asm); (case X => k_asm); (case T => k_asm); (case e => k_is); (case v => boot_fast); (case n => decide); k_whole)))
local macro_rules | `(tactic| walk_at "eval Name") => `(tactic| (k_here; k_dflt (refine' nameX_K ?F ?X ?T ?e ?_ ?a ?b; (case a => rfl); (case b => rfl); (case F => k_asm); (case X => k_asm); (case T => k_asm); (case e => k_is); k_whole)))
local macro_rules | `(tactic| walk_at "eval Name") => `(tactic| (k_here; k_dflt (refine' nameX_L ?F ?v ?_ ?a ?b; (case F => k_asm); (case a => rfl); (case b => rfl); (case v => rfl); k_whole)))
local macro_rules | `(tactic| walk_at "ite") => `(tactic| ((with_reducible show ite (true = true) _ _); refine ite_pos rfl ?_))
local macro_rules | `(tactic| walk_at "ite") => `(tactic| ((with_reducible show ite (false = true) _ _); refine ite_neg Bool.false_ne_true ?_))
local macro_rules | `(tactic| walk_at "call builtin:isinstance") => `(tactic| (k_here; k_dflt (refine' isi_call ?k1 ?k2 ?k3 ?k4 ?_; (case k1 => k_in); (case k2 => k_types); (case k3 => k_is); (case k4 => intro e; cases e); k_whole)))
local macro_rules | `(tactic| walk_at "call ref") => `(tactic| (k_here; k_dflt (refine' call_cls ?k1 ?k2 ?k3 ?k4 ?k5 ?k6 ?_; (case k1 => k_asm); (case k2 => k_asm); (case k4 => k_is); (case k3 => k_asm); (case k5 => k_is); (case k6 => k_is); k_whole; intro x' d' h' F' N' l1 l2; (try k_lt l1); (try k_lt2 l2); (try k_sweep); k_enter)))
local macro_rules | `(tactic| walk_at "call ref") => `(tactic| (k_here; k_dflt (refine wpAny_call ?_; k_enter)))
local macro_rules | `(tactic| walk_at "call builtin:isinstance") => `(tactic| (k_here; (with_reducible show wpAny _ _ (call _ [Value.ref _, Value.ref _]) _ _ _); k_dflt (refine' kin_callC ?k1 ?k2 ?k3 ?k4 ?k5 ?k6 ?k7 ?k8 ?k9 ?_; (case k1 => k_in); (case k2 => k_inst); (case k3 => kin_no); (case k4 => k_is); (case k5 => k_is); (case k6 => k_is); (case k7 => k_is); (case k8 => k_is); (case k9 => k_is); k_whole)))
local macro_rules | `(tactic| walk_at "eval Name") => `(tactic| (k_here; k_dflt (refine' nameX_C ?N ?c ?m ?d ?_ ?a ?b; (case a => rfl); (case b => rfl); (case N => k_asm); (case c => rfl); (case m => k_mem); (case d => k_asm); k_whole)))
local macro_rules | `(tactic| walk_at "call builtin:list.append") => `(tactic| (k_here; (with_reducible show wpAny _ _ (call (Value.builtin _) [Value.ref _, _]) _ _ _); k_dflt (refine' append_K ?k1 ?k2 ?k3 ?_ ?z; (case k1 => k_asm); (case k2 => k_asm); (case k3 => k_upd); (case z => (simp only [List.size_toArray]; rw [sizeLine_eq]; omega)); k_whole); intro h' F' N'; (try k_sweep)))
local macro_rules | `(tactic| walk_at "eval ListComp") => `(tactic| (k_here; (with_reducible show wpAny _ _ (eval (Expr.ListComp _ [⟨Expr.Name _ _, _, [], _⟩] _ _) _) _ _ _); k_dflt (refine LCg.ListComp_U (F₀ := by k_asm) (by with_unfolding_all rfl) (by decide) (by rfl) (by decide) (by rfl) ?_)))
local macro_rules | `(tactic| walk_at "eval ListComp") => `(tactic| (k_here; (with_reducible show wpAny _ _ (eval (Expr.ListComp _ [⟨Expr.Name _ _, _, [_], _⟩] _ _) _) _ _ _); k_dflt (refine LCt.ListComp_T (F₀ := by k_asm) (by with_unfolding_all rfl) (by decide) (by rfl) (by decide) (by rfl) ?_)))
local macro_rules | `(tactic| walk_at "CompSrc") => `(tactic| refine stop ?_)
local macro_rules | `(tactic| walk_at "CompSrcT") => `(tactic| refine stop ?_)
local macro_rules | `(tactic| walk_at "CompEnd") => `(tactic| refine stop ?_)
local macro_rules | `(tactic| lsm_bools) => `(tactic| exact boolsMap _ _)
local macro_rules | `(tactic| lsm_list) => `(tactic| exact News.isList (by k_asm) (by k_mem))
local macro_rules | `(tactic| walk_at "exec For Name Name cons nil") => `(tactic| (k_here; (rename Fr _ _ _ _ => lF'); (with_unfolding_all refine' For_turns lF' ?_; k_whole)))
local macro_rules | `(tactic| walk_at "call builtin:len") => `(tactic| (k_here; (with_reducible show wpAny _ _ (call (Value.builtin "len") [Value.ref _]) _ _ _); (refine' lenLed ?N ?m ?f ?_; (case N => k_asm); (case m => k_mem); (case f => first | omega | ((try simp only [List.length_map, List.length_cons, List.length_nil]); omega))); (try simp only [List.length_cons, List.length_nil])))
local macro_rules | `(tactic| walk_at "subscriptTail Name Slice ref ref") => `(tactic| (k_here; (with_reducible show wpAny _ _ (subscriptTail _ (PySem.Expr.Slice _ _ none _) (Value.ref _) (Value.ref _)) _ _ _); k_dflt (refine' kmk_slice_lit ?F ?N ?l ?p ?q ?e ?_ ?s ?t ?z; (case F => k_asm); (case N => k_asm); (case l => exact News.isList (by k_asm) (by k_mem)); (case p => kmk_part); (case q => kmk_part); (case e => exact slice1 _ _); (case s => with_unfolding_all rfl); (case t => kmk_pure); (case z => (simp only [List.size_toArray, List.length_cons]; rw [sizeLine_eq]; omega))); intro D' h' F' N' l1; (try k_lt l1); (try k_sweep)))
local macro_rules | `(tactic| walk_at "call builtin:sorted") => `(tactic| refine stop ?_)
/-- a constraint as it is shown: a tuple of its names -/
def tupObj (c : Con) (t1 t2 t3 : Tok) : Obj := { cls := .type "tuple", data := .seq #[.str (varName c.1) t1, .int (opInt c.2.1) t2, .str (clsName c.2.2) t3] }
def TupAt (news : List (Addr × Obj)) (x : Addr) (c : Con) : Prop := ∃ t1 t2 t3, (x, tupObj c t1 t2 t3) ∈ news
theorem TupAt.mono {news news' : List (Addr × Obj)} {x : Addr} {c : Con} (h : TupAt news x c) (s : ∀ p ∈ news, p ∈ news') : TupAt news' x c := by
  obtain ⟨t1, t2, t3, m⟩ := h
  exact ⟨t1, t2, t3, s _ m⟩
def KeyAt (news : List (Addr × Obj)) (l : Addr) (ks : List PC) : Prop := (∃ n, (l, PySem.W.listOf (pcVals ks).toArray n) ∈ news) ∧ ∀ p ∈ ks, TupAt news p.1 p.2
theorem KeyAt.mono {news news' : List (Addr × Obj)} {l : Addr} {ks : List PC} (h : KeyAt news l ks) (s : ∀ p ∈ news, p ∈ news') : KeyAt news' l ks :=
  ⟨h.1.imp fun _ m => s _ m, fun p hp => (h.2 p hp).mono s⟩
def ltC (c d : Con) : Bool :=
  if varName c.1 = varName d.1 then (if opInt c.2.1 = opInt d.2.1 then decide ((clsName c.2.2).cps.toList < (clsName d.2.2).cps.toList) else decide (opInt c.2.1 < opInt d.2.1)) else decide ((varName c.1).cps.toList < (varName d.1).cps.toList)
theorem clsIrr (k : _root_.Fin 3) : ¬ (clsName k).cps.toList < (clsName k).cps.toList := by revert k; decide
def sortC : List Con → List Con
  | [a, b] => if ltC b a = true then [b, a] else [a, b]
  | l => l
abbrev TupE := Addr × Con × Tok × Tok × Tok
def entOf (e : TupE) : Addr × Obj := (e.1, tupObj e.2.1 e.2.2.1 e.2.2.2.1 e.2.2.2.2)
theorem shown_ctr {w : World} {news : List (Addr × Obj)} {a : WA} {l : Addr} {ps : List PC} (W : WorldAt w news a) (hw : ConsAt w news a l ps) (hlen : ps.length ≤ 2) :
    Ctr w 20 200 (.ref 717) [.ref l] [] news (fun v tl => ∃ r ks, v = .ref r ∧ KeyAt tl r ks ∧ ks.map (·.2) = sortC (ps.map (·.2))) := by
  unfold Ctr
  k_fill
  intro p loose mean mg mb dp un gd cn cs ad ccd cl outer A₀ base h₀ L m s Q E B F X N T hk hd hu hret
  obtain ⟨⟨nl, hl1⟩, hl2⟩ := hw
  (k_here; k_dflt (refine wpAny_call ?_; k_enter))
  k_steps
  refine Stop.mk ?_
  refine srcLed (vs := pcVals ps) (k := nl) (fun i ys n₁ => ∃ es : List TupE, n₁ = (es.map entOf).reverse ++ news ∧ ys = es.map (fun e => Value.ref e.1) ∧ es.map (·.2.1) = (ps.take i).map (·.2) ∧ ∀ e ∈ es, ∀ q ∈ news, q.1 ≠ e.1) rfl (by k_asm) (by k_asm) hl1 ?_ ⟨[], by simp⟩ ?_ ?_
  · simp only [pcVals, List.length_map, sizeLine_eq]; omega
  · rintro i v ys n₁ I5 oI5 C5 oC5 D5 m5 g5 tk5 E5 hv ⟨es, rfl, rfl, he1, he2⟩ hC5 hx5 F5 N5 off5 ne5
    simp only [pcVals, List.getElem?_map, Option.map_eq_some_iff] at hv
    obtain ⟨pc, hpc, rfl⟩ := hv
    obtain ⟨dc1, s1, s2, s3, s4, s5, a1, a2⟩ := hl2 _ (List.mem_of_getElem? hpc)
    obtain ⟨dv, v1, v2, v3, v4, v5, v6, v7, vl, vn, b1, b2, b3⟩ := W.var pc.2.1
    obtain ⟨dt, z1, z2, tupz, x1, x2, x3⟩ := W.ins pc.2.2.2
    obtain ⟨di, y1, y2, y3, y4, y5, y6, y7, cdy, cddy, tvy, tv0y, bly, mly, ny1, ny2, ny3, w1, w2, w3, w4, w5, w6, w7⟩ := W.cls pc.2.2.2
    have M : ∀ q ∈ news, q ∈ (I5, oI5) :: (C5, oC5) :: (D5, PyProof.Rows.LCg.lst (es.map fun e => Value.ref e.1)) :: ((es.map entOf).reverse ++ news) := fun q hq => .tail _ (.tail _ (.tail _ (List.mem_append_right _ hq)))
    replace a1 := M _ a1
    replace a2 := M _ a2
    replace b1 := M _ b1
    replace b2 := M _ b2
    replace x1 := M _ x1
    replace x2 := M _ x2
    replace w1 := M _ w1
    replace w2 := M _ w2
    k_steps
    rename_i xt _ _ N6 lt
    refine Stop.mk ?_
    obtain ⟨lt1, lt2, lt3, lt4⟩ := lt
    have lt5 := tb_ltOf lt4
    refine LCg.CompEnd.intro (by k_asm) N6 ((xt, tupObj pc.2 v2 s3 y2) :: ((es.map entOf).reverse ++ news)) (fun q hq => ?_) ⟨⟨Nat.ne_of_gt lt1, Nat.ne_of_gt lt2, Nat.ne_of_gt lt3⟩, off5⟩ (.inr ⟨_, .tail _ (List.mem_append_right _ hl1), rfl, _, rfl⟩) ⟨es ++ [(xt, pc.2, v2, s3, y2)], by simp [entOf], by simp, ?_, ?_⟩
    · simp only [List.mem_cons] at hq ⊢
      rcases hq with hq | hq | hq | hq | hq <;> simp [hq, tupObj]
    · rw [List.take_add_one, hpc, List.map_append, List.map_append, he1]; simp
    · intro e he q hq
      rcases List.mem_append.mp he with he | he
      · exact he2 e he q hq
      · rw [List.mem_singleton.mp he]
        exact Nat.ne_of_lt (lt5 q (List.mem_append_right _ hq))
  · rintro g ys n₁ ⟨es, rfl, rfl, he1, he2⟩
    rw [show (pcVals ps).length = ps.length by simp [pcVals], List.take_length] at he1
    have hel : es.length ≤ 2 := by
      have h9 := congrArg List.length he1
      simp only [List.length_map] at h9
      omega
    unfold LCg.FinE
    intro D h5 tk5 F5 N5 o5
    replace o5 := off1 o5
    match es, he1, he2, hel with
    | [], he1, he2, hel =>
      simp only [List.map_nil, List.reverse_nil, List.nil_append] at N5 o5
      k_steps
      refine Stop.mk ?_
      refine sortedNil F5 N5 (News.isList N5 (.head _)) ?_
      intro D2 h6 n6 F6 N6 l6
      k_steps
      refine hret _ [(D2, PySem.W.listOf #[] n6)] _ _ (by k_asm) (newsSub (by k_asm) (by ktr_rel)) (by intro q hq p hp; rw [List.mem_singleton.mp hp]; exact Nat.ne_of_lt (l6 q (.tail _ hq))) ⟨D2, [], rfl, ⟨⟨_, .head _⟩, by simp⟩, ?_⟩
      rw [← he1]; rfl
    | [e1], he1, he2, hel =>
      simp only [List.map_nil, List.map_cons, List.reverse_cons, List.reverse_nil, List.nil_append, List.cons_append] at N5 o5
      k_steps
      refine Stop.mk ?_
      refine sortedOne F5 N5 (News.isList N5 (.head _)) ?_
      intro D2 h6 n6 F6 N6 l6
      k_steps
      refine hret _ [(D2, PySem.W.listOf #[Value.ref e1.1] n6), entOf e1] _ _ (by k_asm) (newsSub (by k_asm) (by ktr_rel)) ?_ ⟨D2, [(e1.1, e1.2.1)], rfl, ⟨⟨_, .head _⟩, ?_⟩, ?_⟩
      · intro q hq p hp
        simp only [List.mem_cons, List.not_mem_nil, or_false] at hp
        rcases hp with rfl | rfl
        · exact Nat.ne_of_lt (l6 q (.tail _ (.tail _ hq)))
        · exact he2 e1 (.head _) q hq
      · intro p hp
        rw [List.mem_singleton.mp hp]
        exact ⟨_, _, _, .tail _ (.head _)⟩
      · rw [← he1]; rfl
    | [e1, e2], he1, he2, hel =>
      simp only [List.map_nil, List.map_cons, List.reverse_cons, List.reverse_nil, List.nil_append, List.cons_append, entOf, tupObj] at N5 o5
      obtain ⟨x1, c1, t1, t2, t3⟩ := e1
      obtain ⟨x2, c2, t4, t5, t6⟩ := e2
      dsimp only at N5 o5
      have f1 : @Ne Nat x1 D := o5 _ (.tail _ (.head _))
      have f2 : @Ne Nat x2 D := o5 _ (.head _)
      have f0 : ∀ q ∈ news, q.1 ≠ D := fun q hq => o5 q (.tail _ (.tail _ hq))
      k_steps
      refine Stop.mk ?_
      (with_unfolding_all refine' kat_sorted ?k1 ?k2 ?k3 ?k4 ?k5 ?_; (case k1 => exact F5); (case k2 => exact N5); (case k3 => kso_list); (case k4 => exact Nat.le_of_ble_eq_true rfl); (case k5 => exact Nat.le_of_ble_eq_true rfl); k_whole)
      intro D2 e6 h6 F6 N6 l6
      (try k_lt l6); (try k_sweep)
      kat_kinds
      have hap : ∀ n (y1 y2 : Addr), ∀ q ∈ news, ∀ p ∈ [(D2, PySem.W.listOf #[Value.ref y1, Value.ref y2] n), (x2, tupObj c2 t4 t5 t6), (x1, tupObj c1 t1 t2 t3)], q.1 ≠ p.1 := by
        intro n y1 y2 q hq p hp
        have l7 := tb_ltOf l6.2.2.2 q hq
        simp only [List.mem_cons, List.not_mem_nil, or_false] at hp
        rcases hp with rfl | rfl | rfl
        · exact Nat.ne_of_lt l7
        · exact he2 _ (.tail _ (.head _)) q hq
        · exact he2 _ (.head _) q hq
      have fA : ∀ h7 n all, ltC c2 c1 = false → Fr h₀ L h7 m → News h₀ L h7 all → (D2, PySem.W.listOf #[Value.ref x1, Value.ref x2] n) ∈ all → (x2, tupObj c2 t4 t5 t6) ∈ all → (x1, tupObj c1 t1 t2 t3) ∈ all → (∀ q ∈ news, q ∈ all) → Q (.ref D2) { s with heap := h7, toks := tk5 } := by
        intro h7 n all hlt F7 N0 i1 i2 i3 i4
        have N7 : News h₀ L h7 ((D2, PySem.W.listOf #[Value.ref x1, Value.ref x2] n) :: (x2, tupObj c2 t4 t5 t6) :: (x1, tupObj c1 t1 t2 t3) :: news) := newsSub N0 (List.forall_mem_cons.mpr ⟨i1, List.forall_mem_cons.mpr ⟨i2, List.forall_mem_cons.mpr ⟨i3, i4⟩⟩⟩)
        refine hret _ [(D2, PySem.W.listOf #[Value.ref x1, Value.ref x2] n), (x2, tupObj c2 t4 t5 t6), (x1, tupObj c1 t1 t2 t3)] _ _ F7 N7 (hap _ _ _) ⟨D2, [(x1, c1), (x2, c2)], rfl, ⟨⟨n, .head _⟩, ?_⟩, ?_⟩
        · exact List.forall_mem_cons.mpr ⟨⟨_, _, _, .tail _ (.tail _ (.head _))⟩, List.forall_mem_cons.mpr ⟨⟨_, _, _, .tail _ (.head _)⟩, by simp⟩⟩
        · rw [← he1]; simp [sortC, hlt]
      have fB : ∀ h7 n all, ltC c2 c1 = true → Fr h₀ L h7 m → News h₀ L h7 all → (D2, PySem.W.listOf #[Value.ref x2, Value.ref x1] n) ∈ all → (x2, tupObj c2 t4 t5 t6) ∈ all → (x1, tupObj c1 t1 t2 t3) ∈ all → (∀ q ∈ news, q ∈ all) → Q (.ref D2) { s with heap := h7, toks := tk5 } := by
        intro h7 n all hlt F7 N0 i1 i2 i3 i4
        have N7 : News h₀ L h7 ((D2, PySem.W.listOf #[Value.ref x2, Value.ref x1] n) :: (x2, tupObj c2 t4 t5 t6) :: (x1, tupObj c1 t1 t2 t3) :: news) := newsSub N0 (List.forall_mem_cons.mpr ⟨i1, List.forall_mem_cons.mpr ⟨i2, List.forall_mem_cons.mpr ⟨i3, i4⟩⟩⟩)
        refine hret _ [(D2, PySem.W.listOf #[Value.ref x2, Value.ref x1] n), (x2, tupObj c2 t4 t5 t6), (x1, tupObj c1 t1 t2 t3)] _ _ F7 N7 (hap _ _ _) ⟨D2, [(x2, c2), (x1, c1)], rfl, ⟨⟨n, .head _⟩, ?_⟩, ?_⟩
        · exact List.forall_mem_cons.mpr ⟨⟨_, _, _, .tail _ (.head _)⟩, List.forall_mem_cons.mpr ⟨⟨_, _, _, .tail _ (.tail _ (.head _))⟩, by simp⟩⟩
        · rw [← he1]; simp [sortC, hlt]
      k_steps
      all_goals first
        | (refine fA _ _ _ ?_ (by k_asm) (by k_asm) (by k_mem) (by k_mem) (by k_mem) (by ktr_rel); unfold ltC; first
          | (rw [if_pos (by assumption), if_pos (by assumption)]; first | exact decide_eq_false (by assumption) | (rename clsName _ = clsName _ => hq; rw [hq]; exact decide_eq_false (clsIrr _)))
          | (rw [if_pos (by assumption), if_neg (by assumption)]; exact decide_eq_false (by omega))
          | (rw [if_neg (by assumption)]; exact decide_eq_false (by assumption)))
        | (refine fB _ _ _ ?_ (by k_asm) (by k_asm) (by k_mem) (by k_mem) (by k_mem) (by ktr_rel); unfold ltC; first
          | (rw [if_pos (by assumption), if_pos (by assumption)]; exact decide_eq_true (by assumption))
          | (rw [if_pos (by assumption), if_neg (by assumption)]; exact decide_eq_true (by assumption))
          | (rw [if_neg (by assumption)]; exact decide_eq_true (by assumption)))
end Mine
end
section
open PySem PySem.W PySem.Spec PySem.Calls PyProof.Rows PySem.SeqAt
namespace Mine
theorem fresh_U1 : True := by
  w_top off
  trivial
def keyD (c : Con) : PyData := .tuple [.str (varName c.1), .int (opInt c.2.1), .str (clsName c.2.2)]
def keysD (cs : List Con) : PyData := .list (cs.map keyD)
def foundD (fs : List (List Con)) : PyData := .list (fs.map keysD)
theorem varOk (v : Bool) : PyData.strOk (varName v) = true := by cases v <;> decide +kernel
theorem clsOk (k : _root_.Fin 3) : PyData.strOk (clsName k) = true := by revert k; decide +kernel
theorem keyD_ok (c : Con) : (keyD c).canLay0 = true := by simp [keyD, PyData.canLay0, PyData.canLayAll0, varOk, clsOk]
theorem canAll {α : Type} (f : α → PyData) (h : ∀ a, (f a).canLay0 = true) : ∀ l : List α, PyData.canLayAll0 (l.map f) = true
  | [] => rfl
  | a :: l => by simp [PyData.canLayAll0, h, canAll f h l]
theorem keysD_ok (cs : List Con) : (keysD cs).canLay0 = true := by rw [keysD, PyData.canLay0]; exact canAll _ keyD_ok cs
theorem foundD_ok (fs : List (List Con)) : (foundD fs).canLay0 = true := by rw [foundD, PyData.canLay0]; exact canAll _ keysD_ok fs
theorem depAll {α : Type} (f : α → PyData) (n : Nat) (h : ∀ a, (f a).depth ≤ n) : ∀ l : List α, PyData.depthAll (l.map f) ≤ n
  | [] => Nat.zero_le _
  | a :: l => by
    have h1 := h a
    have h2 := depAll f n h l
    simp only [List.map_cons, PyData.depthAll]
    omega
theorem keyD_dep (c : Con) : (keyD c).depth ≤ 1 := by simp [keyD, PyData.depth, PyData.depthAll]
theorem keysD_dep (cs : List Con) : (keysD cs).depth ≤ 2 := by
  have := depAll keyD 1 keyD_dep cs
  rw [keysD, PyData.depth]; omega
theorem foundD_dep (fs : List (List Con)) : (foundD fs).depth ≤ 3 := by
  have := depAll keysD 2 keysD_dep fs
  rw [foundD, PyData.depth]; omega
theorem varInj (a b : Bool) : (varName a == varName b) = decide (a = b) := by cases a <;> cases b <;> decide
theorem opInj (a b : Bool) : (opInt a == opInt b) = decide (a = b) := by cases a <;> cases b <;> decide
theorem clsInj3 (a b : _root_.Fin 3) : (clsName a == clsName b) = decide (a = b) := by revert a b; decide
theorem keyD_eqv (c d : Con) : PyData.eqv (keyD c) (keyD d) = decide (c = d) := by
  obtain ⟨v, o, k⟩ := c
  obtain ⟨v', o', k'⟩ := d
  simp only [keyD, PyData.eqv, PyData.eqvAll, varInj, opInj, clsInj3, Bool.and_true]
  by_cases h1 : v = v' <;> by_cases h2 : o = o' <;> by_cases h3 : k = k' <;> simp [h1, h2, h3]
theorem eqvMap {α : Type} [DecidableEq α] (f : α → PyData) (h : ∀ a b, PyData.eqv (f a) (f b) = decide (a = b)) : ∀ l l' : List α, PyData.eqvAll (l.map f) (l'.map f) = decide (l = l')
  | [], [] => by simp [PyData.eqvAll]
  | [], _ :: _ => by simp [PyData.eqvAll]
  | _ :: _, [] => by simp [PyData.eqvAll]
  | a :: l, b :: l' => by
    simp only [List.map_cons, PyData.eqvAll, h, eqvMap f h l l']
    by_cases h1 : a = b <;> by_cases h2 : l = l' <;> simp [h1, h2]
theorem keysD_eqv (c d : List Con) : PyData.eqv (keysD c) (keysD d) = decide (c = d) := by
  rw [keysD, keysD, PyData.eqv]; exact eqvMap keyD keyD_eqv c d
theorem foundD_eqv (c d : List (List Con)) : PyData.eqv (foundD c) (foundD d) = decide (c = d) := by
  rw [foundD, foundD, PyData.eqv]; exact eqvMap keysD keysD_eqv c d
theorem anyMap {α : Type} [DecidableEq α] (f : α → PyData) (h : ∀ a b, PyData.eqv (f a) (f b) = decide (a = b)) (l : List α) (x : α) [Decidable (x ∉ l)] : (!(l.map f).any fun y => PyData.eqv y (f x)) = decide (x ∉ l) := by
  rw [List.any_map]
  by_cases hx : x ∈ l
  · rw [decide_eq_false (by simpa using hx)]
    have : (l.any ((fun y => PyData.eqv y (f x)) ∘ f)) = true := List.any_eq_true.mpr ⟨x, hx, by simp [h]⟩
    rw [this]; rfl
  · rw [decide_eq_true hx]
    have : (l.any ((fun y => PyData.eqv y (f x)) ∘ f)) = false := by
      rw [← Bool.not_eq_true, List.any_eq_true]
      rintro ⟨y, hy, e⟩
      simp only [Function.comp, h, decide_eq_true_eq] at e
      exact hx (e ▸ hy)
    rw [this]; rfl
def FoundAt (news : List (Addr × Obj)) (l : Addr) (fs : List (Addr × List PC)) : Prop := (∃ n, (l, PySem.W.listOf (fs.map fun f => Value.ref f.1).toArray n) ∈ news) ∧ ∀ f ∈ fs, KeyAt news f.1 f.2
theorem FoundAt.mono {news news' : List (Addr × Obj)} {l : Addr} {fs : List (Addr × List PC)} (h : FoundAt news l fs) (s : ∀ p ∈ news, p ∈ news') : FoundAt news' l fs :=
  ⟨h.1.imp fun _ m => s _ m, fun f hf => (h.2 f hf).mono s⟩
section
variable {h₀ h : Heap} {L : Addr} {news : List (Addr × Obj)}
theorem tupReads {x : Addr} {c : Con} (N : News h₀ L h news) (t : TupAt news x c) : ∃ as, Reads h (.ref x) (keyD c) as := by
  obtain ⟨t1, t2, t3, m⟩ := t
  exact ⟨_, .tuple (N _ m).1 rfl rfl (.cons (.str _ _) (.cons (.int _ _) (.cons (.str _ _) .nil)))⟩
theorem allReads {α : Type} (f : α → Value) (g : α → PyData) : ∀ l : List α, (∀ a ∈ l, ∃ as, Reads h (f a) (g a) as) → ∃ as, ReadsAll h (l.map f) (l.map g) as
  | [], _ => ⟨_, .nil⟩
  | a :: l, H => by
    obtain ⟨as, r⟩ := H a (.head _)
    obtain ⟨bs, r2⟩ := allReads f g l fun b hb => H b (.tail _ hb)
    exact ⟨_, .cons r r2⟩
theorem keyReads {l : Addr} {ks : List PC} (N : News h₀ L h news) (t : KeyAt news l ks) : ∃ as, Reads h (.ref l) (keysD (ks.map (·.2))) as := by
  obtain ⟨⟨n, m⟩, k⟩ := t
  obtain ⟨as, r⟩ := allReads (h := h) (fun p : PC => Value.ref p.1) (fun p => keyD p.2) ks fun p hp => tupReads N (k p hp)
  rw [keysD, List.map_map]
  exact ⟨_, .list (N _ m).1 rfl rfl r⟩
theorem foundReads {l : Addr} {fs : List (Addr × List PC)} (N : News h₀ L h news) (t : FoundAt news l fs) : ∃ as, Reads h (.ref l) (foundD (fs.map fun f => f.2.map (·.2))) as := by
  obtain ⟨⟨n, m⟩, k⟩ := t
  obtain ⟨as, r⟩ := allReads (h := h) (fun p : Addr × List PC => Value.ref p.1) (fun p => keysD (p.2.map (·.2))) fs fun p hp => keyReads N (k p hp)
  rw [foundD, List.map_map]
  exact ⟨_, .list (N _ m).1 rfl rfl r⟩
end
section
variable {prog : Program} {w : World} {A : Around} {E : Value → Shared → Prop} {s : Shared} {h₀ : Heap} {L : Addr} {news : List (Addr × Obj)}
theorem notIn_key {l x : Addr} {ks : List PC} {c : Con} {Q : Value → Shared → Prop} (N : News h₀ L s.heap news) (k : KeyAt news l ks) (t : TupAt news x c) (hu : A.units + 10 < cLine)
    (h : Q (.bool (decide (c ∉ ks.map (·.2)))) s) : wpAny (model prog w) A (compareOp .NotIn (.ref x) (.ref l)) Q E s := by
  obtain ⟨as, r1⟩ := keyReads N k
  obtain ⟨bs, r2⟩ := tupReads N t
  refine notIn_list_reads r1 r2 (canAll _ keyD_ok _) (keyD_ok c) ?_ ?_
  · have := keyD_dep c; omega
  · rw [anyMap keyD keyD_eqv]; exact h
theorem notIn_found {l x : Addr} {fs : List (Addr × List PC)} {ks : List PC} {Q : Value → Shared → Prop} (N : News h₀ L s.heap news) (k : FoundAt news l fs) (t : KeyAt news x ks) (hu : A.units + 10 < cLine)
    (h : Q (.bool (decide (ks.map (·.2) ∉ fs.map fun f => f.2.map (·.2)))) s) : wpAny (model prog w) A (compareOp .NotIn (.ref x) (.ref l)) Q E s := by
  obtain ⟨as, r1⟩ := foundReads N k
  obtain ⟨bs, r2⟩ := keyReads N t
  refine notIn_list_reads r1 r2 (canAll _ keysD_ok _) (keysD_ok _) ?_ ?_
  · have := keysD_dep (ks.map (·.2)); omega
  · rw [anyMap keysD keysD_eqv]; exact h
theorem ne_found {l x : Addr} {fs gs : List (Addr × List PC)} {Q : Value → Shared → Prop} (N : News h₀ L s.heap news) (k : FoundAt news l fs) (t : FoundAt news x gs) (hu : A.units + 10 < cLine)
    (h : Q (.bool (decide (gs.map (fun f => f.2.map (·.2)) ≠ fs.map fun f => f.2.map (·.2)))) s) : wpAny (model prog w) A (compareOp .NotEq (.ref x) (.ref l)) Q E s := by
  obtain ⟨as, r1⟩ := foundReads N k
  obtain ⟨bs, r2⟩ := foundReads N t
  refine compareNe_reads r2 r1 (foundD_ok _) (foundD_ok _) ?_ ?_
  · have := foundD_dep (gs.map fun f => f.2.map (·.2)); omega
  · rw [foundD_eqv]
    simpa using h
end
def dedC (l : List Con) : List Con := l.foldl (fun acc c => if c ∈ acc then acc else acc ++ [c]) []
def keyC (l : List Con) : List Con := dedC (sortC l)
def unC (rows : List (List Con)) : List (List Con) := rows.foldl (fun f c => if keyC c ∈ f then f else f ++ [keyC c]) []
theorem foldTake {α β : Type} (f : β → α → β) (b : β) (l : List α) (i : Nat) (x : α) (hx : l[i]? = some x) : (l.take (i + 1)).foldl f b = f ((l.take i).foldl f b) x := by
  rw [List.take_add_one, hx, List.foldl_append]; rfl
end Mine
end
section
open PySem PySem.W PySem.Spec PySem.Calls PyProof.Rows PyProof.Rows.LCg PyProof.Rows.LCt
namespace Mine
theorem fresh_U2 : True := by
  w_top off
  trivial
local macro_rules | `(tactic| k_mem) => `(tactic| first | exact List.mem_cons_self | (refine List.mem_cons_of_mem _ ?_; k_mem))
local macro_rules | `(tactic| k_steps) => `(tactic| repeat' (first | (k_unfold; (try dsimp only)) | (k_end; wrow_close) | walk1 | (dsimp only; walk1) | (dsimp only; k_unfold; (try dsimp only)) | (leave1; walk_say "STEP leave1"; try dsimp only) | fail "no step"))
local macro_rules | `(tactic| walk_at "Hold") => `(tactic| refine stop ?_)
local macro_rules | `(tactic| walk_at "PostL0") => `(tactic| (unfold PostL0; try dsimp only))
local macro_rules | `(tactic| walk_at "EndL0") => `(tactic| refine stop ?_)
local macro_rules | `(tactic| walk_at "PostL") => `(tactic| (unfold PostL; try dsimp only))
local macro_rules | `(tactic| walk_at "EndL") => `(tactic| refine stop ?_)
local macro_rules | `(tactic| walk_at "PostM") => `(tactic| (unfold PostM; try dsimp only))
local macro_rules | `(tactic| walk_at "EndM") => `(tactic| refine stop ?_)
local macro_rules | `(tactic| walk_at "PostT") => `(tactic| (unfold PostT; try dsimp only))
local macro_rules | `(tactic| walk_at "EndT") => `(tactic| refine stop ?_)
local macro_rules | `(tactic| walk_at "pyIter ref") => `(tactic| refine stop ?_)
local macro_rules | `(tactic| ktr_call $_x:term $c:term) => `(tactic| (refine' Ctr.use ?k1 ?k2 ?k3 ?k4 ?k5 ?kK ?kC ?kd ?ku ?_; (case k1 => k_asm); (case k2 => k_asm); (case k3 => k_asm); (case k4 => k_asm); (case k5 => k_asm); (case kK => first | exact rfl | assumption); (case kC => exact $c); (case kd => ktr_room); (case ku => ktr_units)))
local macro_rules | `(tactic| k_room) => `(tactic| ktr_room)
local macro_rules | `(tactic| k_units) => `(tactic| ktr_units)
local macro_rules | `(tactic| k_enter) => `(tactic| first
  | (refine' code_def ?k1 ?k2 ?k3 ?k4 ?k5 ?kA ?kF ?kK ?k6 ?k7 ?k8 ?k9 ?kB ?_ ?c2 ?c3 ?c4 ?c5; (case k2 => k_asm); (case k3 => k_asm); (case k6 => k_is); (case k1 => k_asm); (case k4 => k_asm); (case k5 => k_asm); (case kA => exact rfl); (case kF => exact rfl); (case kK => first | exact rfl | assumption); (case k7 => k_is); (case k8 => ktr_room); (case k9 => first | exact BindsTo.of_eq rfl | exact binds_K (by k_in) rfl (by k_is) rfl rfl rfl | fail "k_enter: no rule for these arguments"); (case c5 => decide); (case kB => exact locs rfl); (case c2 => exact rfl); (case c3 => exact rfl); (case c4 => exact rfl); k_whole; intro g' L' h' FG' F' N' B' X' T'; (try dsimp only); (try k_lift B'); (try k_fold))
  | (refine' code_defC ?k1 ?k2 ?k3 ?k4 ?k5 ?kA ?kF ?kK ?k6 ?k7 ?k8 ?k9 ?kB ?kD ?_ ?c2 ?c3 ?c4; (case k2 => k_asm); (case k3 => k_asm); (case k6 => k_is); (case k1 => k_asm); (case k4 => k_asm); (case k5 => k_asm); (case kA => exact rfl); (case kF => exact rfl); (case kK => first | exact rfl | assumption); (case k7 => k_is); (case k8 => ktr_room); (case k9 => first | exact BindsTo.of_eq rfl | exact binds_K (by k_in) rfl (by k_is) rfl rfl rfl | fail "k_enter: no rule for these arguments"); (case kB => exact rfl); (case kD => decide +kernel); (case c2 => exact rfl); (case c3 => exact rfl); (case c4 => exact rfl); k_whole; intro g' L' h' tk' cells' FG' F' N' Y' B' X' T' l1; (try k_lt l1); k_cells Y'; (try simp only [List.cons_append, List.nil_append] at N'); (try dsimp only); (try k_lift B'); (try k_fold)))
local macro_rules | `(tactic| walk_at "truthy ref") => `(tactic| (k_here; (with_reducible show wpAny _ _ (truthy (Value.ref _)) _ _ _); (refine' kgr_truthy ?N ?m ?c ?d ?f ?_; (case N => k_asm); (case m => k_mem); (case c => rfl); (case d => rfl); (case f => first | omega | ((try simp only [List.length_map, List.length_cons, List.length_nil]); omega))); (try simp only [List.isEmpty_cons, List.isEmpty_nil, Bool.not_false, Bool.not_true])))
local macro_rules | `(tactic| ktr_rel) => `(tactic| (intro p hp; (try simp only [List.nil_append, List.cons_append, List.mem_cons, List.mem_append] at hp ⊢); first | exact hp | (simp [hp]; done) | (rcases hp with hp | hp <;> simp [hp])))
local macro_rules | `(tactic| walk_at "eval Name") => `(tactic| (k_here; k_dflt (refine' nameX_B ?F ?X ?T ?e ?v ?n ?_ ?a ?b; (case a => rfl); (case b => rfl); (case F => k_asm); (case X => k_asm); (case T => k_asm); (case e => k_is); (case v => boot_fast); (case n => decide); k_whole)))
local macro_rules | `(tactic| walk_at "eval Name") => `(tactic| (k_here; k_dflt (refine' nameX_K ?F ?X ?T ?e ?_ ?a ?b; (case a => rfl); (case b => rfl); (case F => k_asm); (case X => k_asm); (case T => k_asm); (case e => k_is); k_whole)))
local macro_rules | `(tactic| walk_at "eval Name") => `(tactic| (k_here; k_dflt (refine' nameX_L ?F ?v ?_ ?a ?b; (case F => k_asm); (case a => rfl); (case b => rfl); (case v => rfl); k_whole)))
local macro_rules | `(tactic| walk_at "ite") => `(tactic| ((with_reducible show ite (true = true) _ _); refine ite_pos rfl ?_))
local macro_rules | `(tactic| walk_at "ite") => `(tactic| ((with_reducible show ite (false = true) _ _); refine ite_neg Bool.false_ne_true ?_))
local macro_rules | `(tactic| walk_at "call builtin:isinstance") => `(tactic| (k_here; k_dflt (refine' isi_call ?k1 ?k2 ?k3 ?k4 ?_; (case k1 => k_in); (case k2 => k_types); (case k3 => k_is); (case k4 => intro e; cases e); k_whole)))
local macro_rules | `(tactic| walk_at "call ref") => `(tactic| (k_here; k_dflt (refine' call_cls ?k1 ?k2 ?k3 ?k4 ?k5 ?k6 ?_; (case k1 => k_asm); (case k2 => k_asm); (case k4 => k_is); (case k3 => k_asm); (case k5 => k_is); (case k6 => k_is); k_whole; intro x' d' h' F' N' l1 l2; (try k_lt l1); (try k_lt2 l2); (try k_sweep); k_enter)))
local macro_rules | `(tactic| walk_at "call ref") => `(tactic| (k_here; k_dflt (refine wpAny_call ?_; k_enter)))
local macro_rules | `(tactic| walk_at "call builtin:isinstance") => `(tactic| (k_here; (with_reducible show wpAny _ _ (call _ [Value.ref _, Value.ref _]) _ _ _); k_dflt (refine' kin_callC ?k1 ?k2 ?k3 ?k4 ?k5 ?k6 ?k7 ?k8 ?k9 ?_; (case k1 => k_in); (case k2 => k_inst); (case k3 => kin_no); (case k4 => k_is); (case k5 => k_is); (case k6 => k_is); (case k7 => k_is); (case k8 => k_is); (case k9 => k_is); k_whole)))
local macro_rules | `(tactic| walk_at "eval Name") => `(tactic| (k_here; k_dflt (refine' nameX_C ?N ?c ?m ?d ?_ ?a ?b; (case a => rfl); (case b => rfl); (case N => k_asm); (case c => rfl); (case m => k_mem); (case d => k_asm); k_whole)))
local macro_rules | `(tactic| walk_at "call builtin:list.append") => `(tactic| (k_here; (with_reducible show wpAny _ _ (call (Value.builtin _) [Value.ref _, _]) _ _ _); k_dflt (refine' append_K ?k1 ?k2 ?k3 ?_ ?z; (case k1 => k_asm); (case k2 => k_asm); (case k3 => k_upd); (case z => (simp only [List.size_toArray]; rw [sizeLine_eq]; omega)); k_whole); intro h' F' N'; (try k_sweep)))
local macro_rules | `(tactic| walk_at "eval ListComp") => `(tactic| (k_here; (with_reducible show wpAny _ _ (eval (Expr.ListComp _ [⟨Expr.Name _ _, _, [], _⟩] _ _) _) _ _ _); k_dflt (refine LCg.ListComp_U (F₀ := by k_asm) (by with_unfolding_all rfl) (by decide) (by rfl) (by decide) (by rfl) ?_)))
local macro_rules | `(tactic| walk_at "eval ListComp") => `(tactic| (k_here; (with_reducible show wpAny _ _ (eval (Expr.ListComp _ [⟨Expr.Name _ _, _, [_], _⟩] _ _) _) _ _ _); k_dflt (refine LCt.ListComp_T (F₀ := by k_asm) (by with_unfolding_all rfl) (by decide) (by rfl) (by decide) (by rfl) ?_)))
local macro_rules | `(tactic| walk_at "CompSrc") => `(tactic| refine stop ?_)
local macro_rules | `(tactic| walk_at "CompSrcT") => `(tactic| refine stop ?_)
local macro_rules | `(tactic| walk_at "CompEnd") => `(tactic| refine stop ?_)
local macro_rules | `(tactic| lsm_bools) => `(tactic| exact boolsMap _ _)
local macro_rules | `(tactic| lsm_list) => `(tactic| exact News.isList (by k_asm) (by k_mem))
local macro_rules | `(tactic| walk_at "exec For Name Name cons nil") => `(tactic| (k_here; (rename Fr _ _ _ _ => lF'); (with_unfolding_all refine' For_turns lF' ?_; k_whole)))
local macro_rules | `(tactic| walk_at "call builtin:len") => `(tactic| (k_here; (with_reducible show wpAny _ _ (call (Value.builtin "len") [Value.ref _]) _ _ _); (refine' lenLed ?N ?m ?f ?_; (case N => k_asm); (case m => k_mem); (case f => first | omega | ((try simp only [List.length_map, List.length_cons, List.length_nil]); omega))); (try simp only [List.length_cons, List.length_nil])))
local macro_rules | `(tactic| walk_at "subscriptTail Name Slice ref ref") => `(tactic| (k_here; (with_reducible show wpAny _ _ (subscriptTail _ (PySem.Expr.Slice _ _ none _) (Value.ref _) (Value.ref _)) _ _ _); k_dflt (refine' kmk_slice_lit ?F ?N ?l ?p ?q ?e ?_ ?s ?t ?z; (case F => k_asm); (case N => k_asm); (case l => exact News.isList (by k_asm) (by k_mem)); (case p => kmk_part); (case q => kmk_part); (case e => exact slice1 _ _); (case s => with_unfolding_all rfl); (case t => kmk_pure); (case z => (simp only [List.size_toArray, List.length_cons]; rw [sizeLine_eq]; omega))); intro D' h' F' N' l1; (try k_lt l1); (try k_sweep)))
local macro_rules | `(tactic| lcg_sub) => `(tactic| first | assumption | (refine List.mem_cons_of_mem _ ?_; lcg_sub))
local macro_rules | `(tactic| lcg_off) => `(tactic| ((try dsimp only); first | assumption | k_all | exact allLt3 (by assumption) | exact allLt3 (tb_ltOf (‹_ ∧ AllLt _ _›).2) | exact allLt3 (tb_ltOf (‹_ ∧ _ ∧ AllLt _ _›).2.2) | exact allLt3 (tb_ltOf (‹_ ∧ _ ∧ _ ∧ AllLt _ _›).2.2.2) | exact allLt2 (by assumption) (by assumption) | exact allLt2 (by assumption) (tb_ltOf (‹_ ∧ AllLt _ _›).2) | exact allLt2 (by assumption) (tb_ltOf (‹_ ∧ _ ∧ AllLt _ _›).2.2) | exact allLt2 (by assumption) (tb_ltOf (‹_ ∧ _ ∧ _ ∧ AllLt _ _›).2.2.2)))
local macro_rules | `(tactic| lcg_src) => `(tactic| first | exact Pre.nil' | (refine Pre.cons' ?_ ?_; lcg_off; lcg_src))
local macro_rules | `(tactic| walk_at "PostN") => `(tactic| (unfold PostN; try dsimp only))
local macro_rules | `(tactic| walk_at "EndN") => `(tactic| refine stop ?_)
local macro_rules | `(tactic| k_all) => `(tactic| assumption)
local macro_rules | `(tactic| walk_at "eval Call") => `(tactic| ((with_reducible show wpAny _ _ (eval (Expr.Call (Expr.Name _ _) [_, _, _] [] _) _) _ _ _); k_dflt (refine Call_ ?_)))
local macro_rules | `(tactic| walk_at "call ref") => `(tactic| ((with_reducible show wpAny _ _ (call (Value.ref 45) _ _) _ _ _); refine stop ?_))
local macro_rules | `(tactic| walk_at "call ref") => `(tactic| ((with_reducible show wpAny _ _ (call (Value.ref 669) _ _) _ _ _); refine stop ?_))
local macro_rules | `(tactic| walk_at "call ref") => `(tactic| ((with_reducible show wpAny _ _ (call (Value.ref 712) _ _) _ _ _); refine stop ?_))
local macro_rules | `(tactic| walk_at "call ref") => `(tactic| ((with_reducible show wpAny _ _ (call (Value.ref 717) _ _) _ _ _); refine stop ?_))
local macro_rules | `(tactic| walk_at "call ref") => `(tactic| ((with_reducible show wpAny _ _ (call (Value.ref 548) _ _) _ _ _); refine stop ?_))
local macro_rules | `(tactic| walk_at "call type:range") => `(tactic| refine stop ?_)
local macro_rules | `(tactic| walk_at "eval Name") => `(tactic| (k_here; k_dflt (refine' nameX_L ?F ?v ?_ ?a ?b; (case F => k_asm); (case a => rfl); (case b => rfl); (case v => assumption); k_whole)))
local macro_rules | `(tactic| walk_at "exec For Name Call cons nil") => `(tactic| (k_here; (rename Fr _ _ _ _ => lF'); (with_unfolding_all refine' For_turns lF' ?_; k_whole)))
local macro_rules | `(tactic| walk_at "subscriptTail") => `(tactic| ((with_reducible show wpAny _ _ (subscriptTail _ _ (Value.ref _) (Value.int _ _)) _ _ _); refine stop ?_))
local macro_rules | `(tactic| walk_at "compareOp NotIn ref ref") => `(tactic| refine stop ?_)
/-- the function that the law makes -/
def UnFn (w : World) (news : List (Addr × Obj)) (f : Addr) : Prop :=
  ∃ lb ls nm ps bd sc x1 x2 x3 x4 pos qual doc pm c' ctv oc vs t, LawIs w lb ls ∧ lb[13]? = some (.FunctionDef nm ps bd [] x1 x2 sc x3 x4 pos) ∧ qual = Str.ofString "law.<locals>.unlike" ∧
    (f, fnMade nm qual ps bd sc [] doc pm c' ctv) ∈ news ∧ (c', oc) ∈ news ∧ oc.data = .fields vs ∧ vs[1]? = some (.str qual t)
theorem UnFn.mono {w : World} {news news' : List (Addr × Obj)} {f : Addr} (h : UnFn w news f) (s : ∀ p ∈ news, p ∈ news') : UnFn w news' f := by
  obtain ⟨lb, ls, nm, ps, bd, sc, x1, x2, x3, x4, pos, qual, doc, pm, c', ctv, oc, vs, t, h1, h2, h3, h4, h5, h6, h7⟩ := h
  exact ⟨lb, ls, nm, ps, bd, sc, x1, x2, x3, x4, pos, qual, doc, pm, c', ctv, oc, vs, t, h1, h2, h3, s _ h4, s _ h5, h6, h7⟩
def UnJ (lf : Addr) (news : List (Addr × Obj)) (rows : List (Addr × List PC)) (i : Nat) (n₁ : List (Addr × Obj)) : Prop :=
  ∃ (fs : List (Addr × List PC)) (n : Nat) (tl1 : List (Addr × Obj)), n₁ = (lf, PySem.W.listOf (fs.map fun f => Value.ref f.1).toArray n) :: (tl1 ++ news) ∧ (∀ q ∈ news, ∀ p ∈ tl1, q.1 ≠ p.1) ∧ (∀ q ∈ tl1 ++ news, @Ne Nat q.1 lf) ∧
    (∀ x ∈ fs, KeyAt tl1 x.1 x.2) ∧ fs.map (fun x => x.2.map (·.2)) = unC ((rows.take i).map fun r => r.2.map (·.2))
def InJ (lk I : Addr) (oI : Obj) (lf : Addr) (ol : Obj) (nb : List (Addr × Obj)) (ks : List PC) (j : Nat) (n₁ : List (Addr × Obj)) : Prop :=
  ∃ (kk : List PC) (n : Nat), n₁ = (lk, PySem.W.listOf (pcVals kk).toArray n) :: (I, oI) :: (lf, ol) :: nb ∧ kk.map (·.2) = dedC ((ks.take j).map (·.2)) ∧ (∀ p ∈ kk, p ∈ ks) ∧ kk.length ≤ j
theorem sortC_len (l : List Con) : (sortC l).length = l.length := by
  unfold sortC
  split
  · split <;> rfl
  · rfl
theorem unC_len (rows : List (List Con)) : (unC rows).length ≤ rows.length := by
  have key : ∀ (rows : List (List Con)) (f : List (List Con)), (rows.foldl (fun f c => if keyC c ∈ f then f else f ++ [keyC c]) f).length ≤ f.length + rows.length := by
    intro rows
    induction rows with
    | nil => intro f; simp
    | cons r rows ih =>
      intro f
      rw [List.foldl_cons]
      refine Nat.le_trans (ih _) ?_
      split <;> simp <;> omega
  have := key rows []
  rw [List.length_nil, Nat.zero_add] at this
  exact this
theorem unlike_ctr {w : World} {news : List (Addr × Obj)} {a : WA} {f l : Addr} {rows : List (Addr × List PC)} {nr : Nat} (U : UnFn w news f) (W : WorldAt w news a) (hl : (l, PySem.W.listOf (rows.map fun r => Value.ref r.1).toArray nr) ∈ news)
    (hw : ∀ r ∈ rows, ConsAt w news a r.1 r.2 ∧ r.2.length ≤ 2) (hlen : rows.length ≤ 10) :
    Ctr w 40 400 (.ref f) [.ref l] [] news (fun v tl => ∃ r fs, v = .ref r ∧ FoundAt tl r fs ∧ fs.map (fun x => x.2.map (·.2)) = unC (rows.map fun r => r.2.map (·.2))) := by
  unfold Ctr
  k_fill
  intro p loose mean mg mb dp un gd cn cs ad ccd cl outer A₀ base h₀ L m s Q E B F X N T hk hd hu hret
  obtain ⟨lb, ls, nm, ps, bd, sc, x1, x2, x3, x4, pos, qual, doc, pm, c', ctv, oc, vs, t, hlaw, hst, rfl, hf1, hf2, hf3, hf4⟩ := U
  refine' LawIs.elim hlaw ?k6 ?_
  (case k6 => k_is)
  rintro rfl rfl
  clear hlaw
  cases hst
  (k_dflt (refine wpAny_call ?_; (refine' code_nest ?k1 ?k2 ?k3 ?k4 ?k5 ?kA ?kF ?kK ?k6 ?k7 ?k8 ?k9 ?kB ?_ ?c2 ?c3 ?c4 ?c5; (case kA => exact rfl); (case kF => exact rfl); (case kK => exact hk); (case k1 => k_asm); (case k2 => k_asm); (case k3 => k_asm); (case k4 => k_asm); (case k5 => k_asm); (case k6 => exact hf1); (case k7 => exact codeRec_news (by k_asm) hf2 hf3 hf4); (case k8 => k_room); (case k9 => exact BindsTo.of_eq rfl); (case c5 => decide); (case kB => exact locs rfl); (case c2 => exact rfl); (case c3 => exact rfl); (case c4 => exact rfl); k_whole; intro g1 L1 h1 FG F0 N0 B1 X1 T1; (try dsimp only); (try k_lift B1); (try k_fold))))
  k_steps
  rename_i lf _ llf _ F1 N1
  have hlf : ∀ q ∈ news, q.1 ≠ lf := fun q hq => Nat.ne_of_lt (llf q hq)
  refine Stop.mk ?_
  refine iterTN [Str.ofString "way", Str.ofString "key", Str.ofString "one"] (UnJ lf news rows) rfl F1 N1 ⟨[], 0, [], rfl, fun _ _ _ h => (nomatch h), hlf, fun _ h => (nomatch h), rfl⟩ (fun i n₁ ⟨fs, n, tl1, e, _⟩ => by rw [e]; exact .tail _ (List.mem_append_right _ hl)) ?_ ?_
  · rintro i v m₁ n₁ I oI h2 tk2 hv ⟨fs, n, tl1, rfl, ap1, ol1, hk1, he1⟩ hz1 hoff F2 N2
    simp only [List.getElem?_map, Option.map_eq_some_iff] at hv
    obtain ⟨⟨l2, ps2⟩, hr, rfl⟩ := hv
    obtain ⟨hc, hps⟩ := hw _ (List.mem_of_getElem? hr)
    dsimp only at hc hps
    have c1 : m₁ (Str.ofString "found") = some (.ref lf) := hz1 _ (by decide)
    have hI1 : @Ne Nat lf I := hoff _ (.head _)
    have hI2 : ∀ q ∈ tl1 ++ news, q.1 ≠ I := fun q hq => hoff q (.tail _ hq)
    k_steps
    rename_i lk _ llk _ F3 N3
    obtain ⟨lk1, lk2, lk3⟩ := llk
    have lk4 := tb_ltOf lk3
    refine Stop.mk ?_
    have M : ∀ q ∈ news, q ∈ (lk, PySem.W.listOf #[] 0) :: (I, oI) :: (lf, PySem.W.listOf (fs.map fun f => Value.ref f.1).toArray n) :: (tl1 ++ news) := fun q hq => .tail _ (.tail _ (.tail _ (List.mem_append_right _ hq)))
    ktr_call 0 (shown_ctr (W.mono M) (hc.mono M) hps)
    rintro rX tl2 hX tkX FX NX hlX ⟨r2, ks, rfl, hkk, hks⟩
    obtain ⟨nb, hnb⟩ : ∃ nb, nb = (tl2 ++ tl1) ++ news := ⟨_, rfl⟩
    have N4 : News g1 L1 hX ((lk, PySem.W.listOf #[] 0) :: (I, oI) :: (lf, PySem.W.listOf (fs.map fun f => Value.ref f.1).toArray n) :: nb) := newsSub NX (by
      rw [hnb]
      intro q hq
      simp only [List.mem_cons, List.mem_append] at hq ⊢
      rcases hq with hq | hq | hq | (hq | hq) | hq <;> simp [hq])
    have v1 : @Ne Nat lk I := Nat.ne_of_gt lk1
    have v2 : @Ne Nat lk lf := Nat.ne_of_gt lk2
    have w1 : ∀ q ∈ nb, q.1 ≠ lk := by
      rw [hnb]
      intro q hq
      rcases List.mem_append.mp hq with hq | hq
      · rcases List.mem_append.mp hq with hq | hq
        · exact fun e => hlX _ (.head _) q hq e.symm
        · exact Nat.ne_of_lt (lk4 q (List.mem_append_left _ hq))
      · exact Nat.ne_of_lt (lk4 q (List.mem_append_right _ hq))
    have w2 : ∀ q ∈ nb, q.1 ≠ I := by
      rw [hnb]
      intro q hq
      rcases List.mem_append.mp hq with hq | hq
      · rcases List.mem_append.mp hq with hq | hq
        · exact fun e => hlX _ (.tail _ (.head _)) q hq e.symm
        · exact hI2 q (List.mem_append_left _ hq)
      · exact hI2 q (List.mem_append_right _ hq)
    have w3 : ∀ q ∈ nb, q.1 ≠ lf := by
      rw [hnb]
      intro q hq
      rcases List.mem_append.mp hq with hq | hq
      · rcases List.mem_append.mp hq with hq | hq
        · exact fun e => hlX _ (.tail _ (.tail _ (.head _))) q hq e.symm
        · exact ol1 q (List.mem_append_left _ hq)
      · exact ol1 q (List.mem_append_right _ hq)
    have x1 : KeyAt nb r2 ks := hkk.mono fun q hq => by rw [hnb]; exact List.mem_append_left _ (List.mem_append_left _ hq)
    have x2 : ∀ x ∈ fs, KeyAt nb x.1 x.2 := fun x hx => (hk1 x hx).mono fun q hq => by rw [hnb]; exact List.mem_append_left _ (List.mem_append_right _ hq)
    obtain ⟨⟨nk, hr2⟩, hks2⟩ := x1
    have hksl : ks.length ≤ 2 := by
      have h9 := congrArg List.length hks
      rw [sortC_len] at h9
      simp only [List.length_map] at h9
      omega
    clear NX N3
    refine iterTN [Str.ofString "one"] (InJ lk I oI lf (PySem.W.listOf (fs.map fun f => Value.ref f.1).toArray n) nb ks) rfl FX N4 ⟨[], 0, rfl, rfl, fun _ h => (nomatch h), Nat.zero_le _⟩ (fun i n₁ ⟨kk, n, e, _⟩ => by rw [e]; exact .tail _ (.tail _ (.tail _ hr2))) ?_ ?_
    · rintro j v3 m₃ n₃ I3 oI3 h3 tk3 hv3 ⟨kk, n3, rfl, hk3, ht3, hl3⟩ hz3 hoff3 F5 N5
      simp only [pcVals, List.getElem?_map, Option.map_eq_some_iff] at hv3
      obtain ⟨pc, hpc, rfl⟩ := hv3
      have d1 : m₃ (Str.ofString "key") = some (.ref lk) := hz3 _ (by decide)
      have u1 : @Ne Nat lk I3 := hoff3 _ (.head _)
      have u2 : @Ne Nat I I3 := hoff3 _ (.tail _ (.head _))
      have u3 : @Ne Nat lf I3 := hoff3 _ (.tail _ (.tail _ (.head _)))
      have u4 : ∀ q ∈ nb, q.1 ≠ I3 := fun q hq => hoff3 q (.tail _ (.tail _ (.tail _ hq)))
      have hjl : j < ks.length := (List.getElem?_eq_some_iff.mp hpc).1
      have hkl : (pcVals kk).length ≤ 2 := by simp only [pcVals, List.length_map]; omega
      have hstep : dedC ((ks.take (j + 1)).map (·.2)) = if pc.2 ∈ dedC ((ks.take j).map (·.2)) then dedC ((ks.take j).map (·.2)) else dedC ((ks.take j).map (·.2)) ++ [pc.2] := by
        unfold dedC
        rw [List.map_take, List.map_take]
        exact foldTake _ _ _ _ _ (by rw [List.getElem?_map, hpc]; rfl)
      k_steps
      rename_i F6 N6
      refine Stop.mk ?_
      refine notIn_key N6 (l := lk) (x := pc.1) (ks := kk) (c := pc.2) ⟨⟨n3, .tail _ (.head _)⟩, fun p hp => (hks2 p (ht3 p hp)).mono fun q hq => .tail _ (.tail _ (.tail _ (.tail _ hq)))⟩ ((hks2 _ (List.mem_of_getElem? hpc)).mono fun q hq => .tail _ (.tail _ (.tail _ (.tail _ hq)))) (by ktr_units) ?_
      by_cases hin : pc.2 ∈ kk.map (·.2)
      · rw [decide_eq_false (fun h => h hin)]
        k_steps
        refine Stop.mk ?_
        refine EndN.intro (by k_asm) (by k_asm) ?_ (List.forall_mem_cons.mpr ⟨u1, List.forall_mem_cons.mpr ⟨u2, List.forall_mem_cons.mpr ⟨u3, u4⟩⟩⟩) ⟨kk, n3, rfl, ?_, ht3, by omega⟩
        · intro z hz
          have h9 := hz3 z hz
          simp only [List.mem_cons, List.not_mem_nil, or_false] at hz
          simp only [hz, if_false]
          exact h9
        · rw [hstep, if_pos (by rw [← hk3]; exact hin)]
          exact hk3
      · rw [decide_eq_true hin]
        k_steps
        refine Stop.mk ?_
        rename_i N8
        refine EndN.intro (by k_asm) N8 ?_ (List.forall_mem_cons.mpr ⟨u1, List.forall_mem_cons.mpr ⟨u2, List.forall_mem_cons.mpr ⟨u3, u4⟩⟩⟩) ⟨kk ++ [pc], n3 + 1, by simp [pcVals], ?_, ?_, by simp; omega⟩
        · intro z hz
          have h9 := hz3 z hz
          simp only [List.mem_cons, List.not_mem_nil, or_false] at hz
          simp only [hz, if_false]
          exact h9
        · rw [hstep, if_neg (by rw [← hk3]; exact hin)]
          simp [hk3]
        · intro p hp
          rcases List.mem_append.mp hp with hp | hp
          · exact ht3 p hp
          · rw [List.mem_singleton.mp hp]; exact List.mem_of_getElem? hpc
    · rintro m₃ n₃ h3 tk3 ⟨kk, n3, rfl, hk3, ht3, hl3⟩ hz3 F5 N5
      have d1 : m₃ (Str.ofString "key") = some (.ref lk) := hz3 _ (by decide)
      have d2 : m₃ (Str.ofString "found") = some (.ref lf) := (hz3 _ (by decide)).trans c1
      rw [show (pcVals ks).length = ks.length by simp [pcVals], List.take_length, hks] at hk3
      have hil : i < rows.length := (List.getElem?_eq_some_iff.mp hr).1
      have hfl : fs.length ≤ i := by
        have h9 := congrArg List.length he1
        simp only [List.length_map] at h9
        have h8 := unC_len ((rows.take i).map fun r => r.2.map (·.2))
        simp only [List.length_map, List.length_take] at h8
        omega
      have hfl2 : (fs.map fun f => Value.ref f.1).length ≤ 10 := by rw [List.length_map]; omega
      have hstep : unC ((rows.take (i + 1)).map fun r => r.2.map (·.2)) = if keyC (ps2.map (·.2)) ∈ unC ((rows.take i).map fun r => r.2.map (·.2)) then unC ((rows.take i).map fun r => r.2.map (·.2)) else unC ((rows.take i).map fun r => r.2.map (·.2)) ++ [keyC (ps2.map (·.2))] := by
        unfold unC
        rw [List.map_take, List.map_take]
        exact foldTake _ _ _ _ _ (by rw [List.getElem?_map, hr]; rfl)
      have hkeq : kk.map (·.2) = keyC (ps2.map (·.2)) := hk3
      have hzz : ∀ m₄ : Str → Option Value, (∀ z, z ∉ [Str.ofString "one"] → m₄ z = m₃ z) → ∀ z, z ∉ [Str.ofString "way", Str.ofString "key", Str.ofString "one"] → m₄ z = m₁ z := by
        intro m₄ h4 z hz
        simp only [List.mem_cons, List.not_mem_nil, or_false, not_or] at hz
        rw [h4 z (by simp [hz]), hz3 z (by simp [hz])]
        simp [hz]
      have hD : KeyAt ((lk, PySem.W.listOf (pcVals kk).toArray n3) :: (tl2 ++ tl1)) lk kk := ⟨⟨n3, .head _⟩, fun p hp => (hkk.2 p (ht3 p hp)).mono fun q hq => .tail _ (List.mem_append_left _ hq)⟩
      have hap : ∀ q ∈ news, ∀ p ∈ (lk, PySem.W.listOf (pcVals kk).toArray n3) :: (tl2 ++ tl1), q.1 ≠ p.1 := by
        intro q hq p hp
        rcases List.mem_cons.mp hp with rfl | hp
        · exact Nat.ne_of_lt (lk4 q (List.mem_append_right _ hq))
        · rcases List.mem_append.mp hp with hp | hp
          · exact hlX q (M q hq) p hp
          · exact ap1 q hq p hp
      have hS : ∀ q, q ∈ ((lk, PySem.W.listOf (pcVals kk).toArray n3) :: (tl2 ++ tl1)) ++ news → q = (lk, PySem.W.listOf (pcVals kk).toArray n3) ∨ q ∈ nb := by
        intro q hq
        rw [hnb]
        exact List.mem_cons.mp hq
      k_steps
      refine Stop.mk ?_
      refine notIn_found N5 (l := lf) (x := lk) (fs := fs) (ks := kk) ⟨⟨n, .tail _ (.tail _ (.head _))⟩, fun x hx => (x2 x hx).mono fun q hq => .tail _ (.tail _ (.tail _ hq))⟩ (hD.mono fun q hq => by
        rcases List.mem_cons.mp hq with rfl | hq
        · exact .head _
        · exact .tail _ (.tail _ (.tail _ (by rw [hnb]; exact List.mem_append_left _ hq)))) (by ktr_units) ?_
      rw [hkeq, he1]
      by_cases hin : keyC (ps2.map (·.2)) ∈ unC ((rows.take i).map fun r => r.2.map (·.2))
      · rw [decide_eq_false (fun h => h hin)]
        rw [if_pos hin] at hstep
        k_steps
        refine Stop.mk ?_
        refine EndN.intro (by k_asm) (newsSub N5 (b := (I, oI) :: (lf, PySem.W.listOf (fs.map fun f => Value.ref f.1).toArray n) :: (((lk, PySem.W.listOf (pcVals kk).toArray n3) :: (tl2 ++ tl1)) ++ news)) ?_) (fun z hz => (hzz _ (fun _ _ => rfl) z hz).trans (hz1 z hz)) (List.forall_mem_cons.mpr ⟨hI1, ?_⟩) ⟨fs, n, _, rfl, hap, ?_, fun x hx => (hk1 x hx).mono fun q hq => .tail _ (List.mem_append_right _ hq), ?_⟩
        · intro q hq
          rcases List.mem_cons.mp hq with rfl | hq
          · exact .tail _ (.head _)
          rcases List.mem_cons.mp hq with rfl | hq
          · exact .tail _ (.tail _ (.head _))
          rcases hS q hq with rfl | hq
          · exact .head _
          · exact .tail _ (.tail _ (.tail _ hq))
        · intro q hq
          rcases hS q hq with rfl | hq
          · exact v1
          · exact w2 q hq
        · intro q hq
          rcases hS q hq with rfl | hq
          · exact v2
          · exact w3 q hq
        · rw [hstep]; exact he1
      · rw [decide_eq_true hin]
        rw [if_neg hin] at hstep
        k_steps
        rename_i N8
        refine Stop.mk ?_
        refine EndN.intro (by k_asm) (newsSub N8 (b := (I, oI) :: (lf, PySem.W.listOf ((fs.map fun f => Value.ref f.1).toArray.push (.ref lk)) (n + 1)) :: (((lk, PySem.W.listOf (pcVals kk).toArray n3) :: (tl2 ++ tl1)) ++ news)) ?_) (fun z hz => (hzz _ (fun _ _ => rfl) z hz).trans (hz1 z hz)) (List.forall_mem_cons.mpr ⟨hI1, ?_⟩) ⟨fs ++ [(lk, kk)], n + 1, _, by simp, hap, ?_, ?_, ?_⟩
        · intro q hq
          rcases List.mem_cons.mp hq with rfl | hq
          · exact .tail _ (.head _)
          rcases List.mem_cons.mp hq with rfl | hq
          · exact .tail _ (.tail _ (.head _))
          rcases hS q hq with rfl | hq
          · exact .head _
          · exact .tail _ (.tail _ (.tail _ hq))
        · intro q hq
          rcases hS q hq with rfl | hq
          · exact v1
          · exact w2 q hq
        · intro q hq
          rcases hS q hq with rfl | hq
          · exact v2
          · exact w3 q hq
        · intro x hx
          rcases List.mem_append.mp hx with hx | hx
          · exact (hk1 x hx).mono fun q hq => .tail _ (List.mem_append_right _ hq)
          · rw [List.mem_singleton.mp hx]; exact hD
        · rw [hstep, List.map_append, he1]
          simp [hkeq]
  · rintro m₁ n₁ h2 tk2 ⟨fs, n, tl1, rfl, ap1, ol1, hk1, he1⟩ hz1 F2 N2
    have c1 : m₁ (Str.ofString "found") = some (.ref lf) := hz1 _ (by decide)
    rw [show (rows.map fun r => Value.ref r.1).length = rows.length by simp, List.take_length] at he1
    k_steps
    refine hret _ ((lf, PySem.W.listOf (fs.map fun f => Value.ref f.1).toArray n) :: tl1) _ _ (by k_asm) (by k_asm) ?_ ⟨lf, fs, rfl, ⟨⟨n, .head _⟩, fun x hx => (hk1 x hx).mono fun q hq => .tail _ hq⟩, he1⟩
    intro q hq p hp
    rcases List.mem_cons.mp hp with rfl | hp
    · exact hlf q hq
    · exact ap1 q hq p hp
end Mine
end
section
open PySem PySem.W PySem.Spec PySem.Calls PyProof.Rows PyProof.Rows.LCg PyProof.Rows.LCt
namespace Mine
theorem fresh_V0 : True := by
  w_top off
  trivial
local macro_rules | `(tactic| walk_at "zz") => `(tactic| fail "zz")
local macro_rules | `(tactic| k_mem) => `(tactic| first | exact List.mem_cons_self | (refine List.mem_cons_of_mem _ ?_; k_mem))
local macro_rules | `(tactic| k_steps) => `(tactic| repeat' (first | (k_unfold; (try dsimp only)) | (k_end; wrow_close) | walk1 | (dsimp only; walk1) | (dsimp only; k_unfold; (try dsimp only)) | (leave1; walk_say "STEP leave1"; try dsimp only) | fail "no step"))
local macro_rules | `(tactic| walk_at "Hold") => `(tactic| refine stop ?_)
local macro_rules | `(tactic| walk_at "PostL0") => `(tactic| (unfold PostL0; try dsimp only))
local macro_rules | `(tactic| walk_at "EndL0") => `(tactic| refine stop ?_)
local macro_rules | `(tactic| walk_at "PostL") => `(tactic| (unfold PostL; try dsimp only))
local macro_rules | `(tactic| walk_at "EndL") => `(tactic| refine stop ?_)
local macro_rules | `(tactic| walk_at "PostM") => `(tactic| (unfold PostM; try dsimp only))
local macro_rules | `(tactic| walk_at "EndM") => `(tactic| refine stop ?_)
local macro_rules | `(tactic| walk_at "PostT") => `(tactic| (unfold PostT; try dsimp only))
local macro_rules | `(tactic| walk_at "EndT") => `(tactic| refine stop ?_)
local macro_rules | `(tactic| walk_at "pyIter ref") => `(tactic| refine stop ?_)
local macro_rules | `(tactic| ktr_call $_x:term $c:term) => `(tactic| (refine' Ctr.use ?k1 ?k2 ?k3 ?k4 ?k5 ?kK ?kC ?kd ?ku ?_; (case k1 => k_asm); (case k2 => k_asm); (case k3 => k_asm); (case k4 => k_asm); (case k5 => k_asm); (case kK => first | exact rfl | assumption); (case kC => exact $c); (case kd => ktr_room); (case ku => ktr_units)))
local macro_rules | `(tactic| k_room) => `(tactic| ktr_room)
local macro_rules | `(tactic| k_units) => `(tactic| ktr_units)
local macro_rules | `(tactic| k_enter) => `(tactic| first
  | (refine' code_def ?k1 ?k2 ?k3 ?k4 ?k5 ?kA ?kF ?kK ?k6 ?k7 ?k8 ?k9 ?kB ?_ ?c2 ?c3 ?c4 ?c5; (case k2 => k_asm); (case k3 => k_asm); (case k6 => k_is); (case k1 => k_asm); (case k4 => k_asm); (case k5 => k_asm); (case kA => exact rfl); (case kF => exact rfl); (case kK => first | exact rfl | assumption); (case k7 => k_is); (case k8 => ktr_room); (case k9 => first | exact BindsTo.of_eq rfl | exact binds_K (by k_in) rfl (by k_is) rfl rfl rfl | fail "k_enter: no rule for these arguments"); (case c5 => decide); (case kB => exact locs rfl); (case c2 => exact rfl); (case c3 => exact rfl); (case c4 => exact rfl); k_whole; intro g' L' h' FG' F' N' B' X' T'; (try dsimp only); (try k_lift B'); (try k_fold))
  | (refine' code_defC ?k1 ?k2 ?k3 ?k4 ?k5 ?kA ?kF ?kK ?k6 ?k7 ?k8 ?k9 ?kB ?kD ?_ ?c2 ?c3 ?c4; (case k2 => k_asm); (case k3 => k_asm); (case k6 => k_is); (case k1 => k_asm); (case k4 => k_asm); (case k5 => k_asm); (case kA => exact rfl); (case kF => exact rfl); (case kK => first | exact rfl | assumption); (case k7 => k_is); (case k8 => ktr_room); (case k9 => first | exact BindsTo.of_eq rfl | exact binds_K (by k_in) rfl (by k_is) rfl rfl rfl | fail "k_enter: no rule for these arguments"); (case kB => exact rfl); (case kD => decide +kernel); (case c2 => exact rfl); (case c3 => exact rfl); (case c4 => exact rfl); k_whole; intro g' L' h' tk' cells' FG' F' N' Y' B' X' T' l1; (try k_lt l1); k_cells Y'; (try simp only [List.cons_append, List.nil_append] at N'); (try dsimp only); (try k_lift B'); (try k_fold)))
local macro_rules | `(tactic| walk_at "truthy ref") => `(tactic| (k_here; (with_reducible show wpAny _ _ (truthy (Value.ref _)) _ _ _); (refine' kgr_truthy ?N ?m ?c ?d ?f ?_; (case N => k_asm); (case m => k_mem); (case c => rfl); (case d => rfl); (case f => first | omega | ((try simp only [List.length_map, List.length_cons, List.length_nil]); omega))); (try simp only [List.isEmpty_cons, List.isEmpty_nil, Bool.not_false, Bool.not_true])))
local macro_rules | `(tactic| ktr_rel) => `(tactic| (intro p hp; (try simp only [List.nil_append, List.cons_append, List.mem_cons, List.mem_append] at hp ⊢); first | exact hp | (simp [hp]; done) | (rcases hp with hp | hp <;> simp [hp])))
local macro_rules | `(tactic| walk_at "eval Name") => `(tactic| (k_here; k_dflt (refine' nameX_B ?F ?X ?T ?e ?v ?n ?_ ?a ?b; (case a => rfl); (case b => rfl); (case F => k_asm); (case X => k_asm); (case T => k_asm); (case e => k_is); (case v => boot_fast); (case n => decide); k_whole)))
local macro_rules | `(tactic| walk_at "eval Name") => `(tactic| (k_here; k_dflt (refine' nameX_K ?F ?X ?T ?e ?_ ?a ?b; (case a => rfl); (case b => rfl); (case F => k_asm); (case X => k_asm); (case T => k_asm); (case e => k_is); k_whole)))
local macro_rules | `(tactic| walk_at "eval Name") => `(tactic| (k_here; k_dflt (refine' nameX_L ?F ?v ?_ ?a ?b; (case F => k_asm); (case a => rfl); (case b => rfl); (case v => rfl); k_whole)))
local macro_rules | `(tactic| walk_at "ite") => `(tactic| ((with_reducible show ite (true = true) _ _); refine ite_pos rfl ?_))
local macro_rules | `(tactic| walk_at "ite") => `(tactic| ((with_reducible show ite (false = true) _ _); refine ite_neg Bool.false_ne_true ?_))
local macro_rules | `(tactic| walk_at "call builtin:isinstance") => `(tactic| (k_here; k_dflt (refine' isi_call ?k1 ?k2 ?k3 ?k4 ?_; (case k1 => k_in); (case k2 => k_types); (case k3 => k_is); (case k4 => intro e; cases e); k_whole)))
local macro_rules | `(tactic| walk_at "call ref") => `(tactic| (k_here; k_dflt (refine' call_cls ?k1 ?k2 ?k3 ?k4 ?k5 ?k6 ?_; (case k1 => k_asm); (case k2 => k_asm); (case k4 => k_is); (case k3 => k_asm); (case k5 => k_is); (case k6 => k_is); k_whole; intro x' d' h' F' N' l1 l2; (try k_lt l1); (try k_lt2 l2); (try k_sweep); k_enter)))
local macro_rules | `(tactic| walk_at "call ref") => `(tactic| (k_here; k_dflt (refine wpAny_call ?_; k_enter)))
local macro_rules | `(tactic| walk_at "call builtin:isinstance") => `(tactic| (k_here; (with_reducible show wpAny _ _ (call _ [Value.ref _, Value.ref _]) _ _ _); k_dflt (refine' kin_callC ?k1 ?k2 ?k3 ?k4 ?k5 ?k6 ?k7 ?k8 ?k9 ?_; (case k1 => k_in); (case k2 => k_inst); (case k3 => kin_no); (case k4 => k_is); (case k5 => k_is); (case k6 => k_is); (case k7 => k_is); (case k8 => k_is); (case k9 => k_is); k_whole)))
local macro_rules | `(tactic| walk_at "eval Name") => `(tactic| (k_here; k_dflt (refine' nameX_C ?N ?c ?m ?d ?_ ?a ?b; (case a => rfl); (case b => rfl); (case N => k_asm); (case c => rfl); (case m => k_mem); (case d => k_asm); k_whole)))
local macro_rules | `(tactic| walk_at "call builtin:list.append") => `(tactic| (k_here; (with_reducible show wpAny _ _ (call (Value.builtin _) [Value.ref _, _]) _ _ _); k_dflt (refine' append_K ?k1 ?k2 ?k3 ?_ ?z; (case k1 => k_asm); (case k2 => k_asm); (case k3 => k_upd); (case z => (simp only [List.size_toArray]; rw [sizeLine_eq]; omega)); k_whole); intro h' F' N'; (try k_sweep)))
local macro_rules | `(tactic| walk_at "eval ListComp") => `(tactic| (k_here; (with_reducible show wpAny _ _ (eval (Expr.ListComp _ [⟨Expr.Name _ _, _, [], _⟩] _ _) _) _ _ _); k_dflt (refine LCg.ListComp_U (F₀ := by k_asm) (by with_unfolding_all rfl) (by decide) (by rfl) (by decide) (by rfl) ?_)))
local macro_rules | `(tactic| walk_at "eval ListComp") => `(tactic| (k_here; (with_reducible show wpAny _ _ (eval (Expr.ListComp _ [⟨Expr.Name _ _, _, [_], _⟩] _ _) _) _ _ _); k_dflt (refine LCt.ListComp_T (F₀ := by k_asm) (by with_unfolding_all rfl) (by decide) (by rfl) (by decide) (by rfl) ?_)))
local macro_rules | `(tactic| walk_at "CompSrc") => `(tactic| refine stop ?_)
local macro_rules | `(tactic| walk_at "CompSrcT") => `(tactic| refine stop ?_)
local macro_rules | `(tactic| walk_at "CompEnd") => `(tactic| refine stop ?_)
local macro_rules | `(tactic| lsm_bools) => `(tactic| exact boolsMap _ _)
local macro_rules | `(tactic| lsm_list) => `(tactic| exact News.isList (by k_asm) (by k_mem))
local macro_rules | `(tactic| walk_at "exec For Name Name cons nil") => `(tactic| (k_here; (rename Fr _ _ _ _ => lF'); (with_unfolding_all refine' For_turns lF' ?_; k_whole)))
local macro_rules | `(tactic| walk_at "call builtin:len") => `(tactic| (k_here; (with_reducible show wpAny _ _ (call (Value.builtin "len") [Value.ref _]) _ _ _); (refine' lenLed ?N ?m ?f ?_; (case N => k_asm); (case m => k_mem); (case f => first | omega | ((try simp only [List.length_map, List.length_cons, List.length_nil]); omega))); (try simp only [List.length_cons, List.length_nil])))
local macro_rules | `(tactic| walk_at "subscriptTail Name Slice ref ref") => `(tactic| (k_here; (with_reducible show wpAny _ _ (subscriptTail _ (PySem.Expr.Slice _ _ none _) (Value.ref _) (Value.ref _)) _ _ _); k_dflt (refine' kmk_slice_lit ?F ?N ?l ?p ?q ?e ?_ ?s ?t ?z; (case F => k_asm); (case N => k_asm); (case l => exact News.isList (by k_asm) (by k_mem)); (case p => kmk_part); (case q => kmk_part); (case e => exact slice1 _ _); (case s => with_unfolding_all rfl); (case t => kmk_pure); (case z => (simp only [List.size_toArray, List.length_cons]; rw [sizeLine_eq]; omega))); intro D' h' F' N' l1; (try k_lt l1); (try k_sweep)))
local macro_rules | `(tactic| lcg_sub) => `(tactic| first | assumption | (refine List.mem_cons_of_mem _ ?_; lcg_sub))
local macro_rules | `(tactic| lcg_off) => `(tactic| ((try dsimp only); first | assumption | k_all | exact allLt3 (by assumption) | exact allLt3 (tb_ltOf (‹_ ∧ AllLt _ _›).2) | exact allLt3 (tb_ltOf (‹_ ∧ _ ∧ AllLt _ _›).2.2) | exact allLt3 (tb_ltOf (‹_ ∧ _ ∧ _ ∧ AllLt _ _›).2.2.2) | exact allLt2 (by assumption) (by assumption) | exact allLt2 (by assumption) (tb_ltOf (‹_ ∧ AllLt _ _›).2) | exact allLt2 (by assumption) (tb_ltOf (‹_ ∧ _ ∧ AllLt _ _›).2.2) | exact allLt2 (by assumption) (tb_ltOf (‹_ ∧ _ ∧ _ ∧ AllLt _ _›).2.2.2)))
local macro_rules | `(tactic| lcg_src) => `(tactic| first | exact Pre.nil' | (refine Pre.cons' ?_ ?_; lcg_off; lcg_src))
local macro_rules | `(tactic| walk_at "PostN") => `(tactic| (unfold PostN; try dsimp only))
local macro_rules | `(tactic| walk_at "EndN") => `(tactic| refine stop ?_)
local macro_rules | `(tactic| k_all) => `(tactic| assumption)
local macro_rules | `(tactic| walk_at "eval Call") => `(tactic| ((with_reducible show wpAny _ _ (eval (Expr.Call (Expr.Name _ _) [_, _, _] [] _) _) _ _ _); k_dflt (refine Call_ ?_)))
local macro_rules | `(tactic| walk_at "call ref") => `(tactic| ((with_reducible show wpAny _ _ (call (Value.ref 45) _ _) _ _ _); refine stop ?_))
local macro_rules | `(tactic| walk_at "call ref") => `(tactic| ((with_reducible show wpAny _ _ (call (Value.ref 669) _ _) _ _ _); refine stop ?_))
local macro_rules | `(tactic| walk_at "call ref") => `(tactic| ((with_reducible show wpAny _ _ (call (Value.ref 712) _ _) _ _ _); refine stop ?_))
local macro_rules | `(tactic| walk_at "call ref") => `(tactic| ((with_reducible show wpAny _ _ (call (Value.ref 717) _ _) _ _ _); refine stop ?_))
local macro_rules | `(tactic| walk_at "call ref") => `(tactic| ((with_reducible show wpAny _ _ (call (Value.ref 548) _ _) _ _ _); refine stop ?_))
local macro_rules | `(tactic| walk_at "call type:range") => `(tactic| refine stop ?_)
local macro_rules | `(tactic| walk_at "eval Name") => `(tactic| (k_here; k_dflt (refine' nameX_L ?F ?v ?_ ?a ?b; (case F => k_asm); (case a => rfl); (case b => rfl); (case v => assumption); k_whole)))
local macro_rules | `(tactic| walk_at "exec For Name Call cons nil") => `(tactic| (k_here; (rename Fr _ _ _ _ => lF'); (with_unfolding_all refine' For_turns lF' ?_; k_whole)))
local macro_rules | `(tactic| walk_at "subscriptTail") => `(tactic| ((with_reducible show wpAny _ _ (subscriptTail _ _ (Value.ref _) (Value.int _ _)) _ _ _); refine stop ?_))
abbrev lawA (ls : Scope) (L fa : Addr) : Around := callerA.deeper (envOfC (Str.ofString "law") ls L fa (.ref 721))
abbrev lawE (ls : Scope) (L fa : Addr) : Env := envOfC (Str.ofString "law") ls L fa (.ref 721)
/-- a statement of the law's body that changes no entry of the ledger -/
def Pc (w : World) (i : Nat) (names : List Str) (news : List (Addr × Obj)) (pre : Addr → (Str → Option Value) → Prop) (post : (Str → Option Value) → List (Addr × Obj) → Prop) : Prop :=
  ∀ (lb : List Stmt) (ls : Scope) (st : Stmt) (p : Program) (loose : List Str) (mean : ExcName → Option Value) (mg mb : Str → Option Value) (fa : Addr) (h₀ : Heap) (L : Addr) (m : Str → Option Value) (s : Shared) (Q : Flow → Shared → Prop) (E : Value → Shared → Prop),
    LawIs w lb ls → lb[i]? = some st → PassesOwn (model PySem.Challenge.rw_ft0022_01.row.prog w) (lawA ls L fa) (lawE ls L fa) E → Below callerA h₀ [] h₀ → Fr h₀ L s.heap m → (hd.heap_39 w.params).In h₀ → News h₀ L s.heap news → Top p loose mean mg mb h₀ → pre L m →
    (∀ (tl : List (Addr × Obj)) (h' : Heap) (tk' : Nat) (m' : Str → Option Value), Fr h₀ L h' m' → (∀ z, z ∉ names → m' z = m z) → News h₀ L h' (tl ++ news) → (∀ q ∈ news, ∀ p ∈ tl, q.1 ≠ p.1) → post m' tl → Q .next { s with heap := h', toks := tk' }) →
    wpAny (model PySem.Challenge.rw_ft0022_01.row.prog w) (lawA ls L fa) (exec st (lawE ls L fa)) Q E s
def EagerAt (news : List (Addr × Obj)) (L : Addr) (eager : Bool) : Prop := ∃ oc : Obj, (L + 1, oc) ∈ news ∧ oc.data = .cell (some (.bool eager))
section
open PySem.SeqAt
variable {prog : Program} {w : World} {A : Around} {E : Value → Shared → Prop} {s : Shared}
theorem neNil {l b : Addr} {vs : List Value} {Q : Value → Shared → Prop} (hl : s.heap.IsList l vs.toArray) (hb : s.heap.IsList b #[]) (hu : A.units < cLine) (h : Q (.bool (!vs.isEmpty)) s) :
    wpAny (model prog w) A (compareOp .NotEq (.ref l) (.ref b)) Q E s := by
  cases vs with
  | nil =>
    have g := RcNeAt.lists (A := A) (s := s) (e := fun _ => true) hl hb rfl hu (fun j j1 => absurd j1 (Nat.not_lt_zero _))
    exact g prog w E Q h
  | cons v vs =>
    have g := RcNeAt.lists_lengths (A := A) (s := s) hl hb (by simp) hu
    exact g prog w E Q h
end
section
open PySem.SeqAt
variable {prog : Program} {w : World} {A : Around} {E : Value → Shared → Prop} {s : Shared}
theorem eqNil {l b : Addr} {vs : List Value} {Q : Value → Shared → Prop} (hl : s.heap.IsList l vs.toArray) (hb : s.heap.IsList b #[]) (hu : A.units < cLine) (h : Q (.bool vs.isEmpty) s) :
    wpAny (model prog w) A (compareOp .Eq (.ref l) (.ref b)) Q E s := by
  cases vs with
  | nil =>
    have g := RcAt.lists (A := A) (s := s) (e := fun _ => true) hl hb rfl hu (fun j j1 => absurd j1 (Nat.not_lt_zero _))
    exact g prog w E Q h
  | cons v vs =>
    have g := RcAt.lists_lengths (A := A) (s := s) hl hb (by simp) hu
    exact g prog w E Q h
end
local macro_rules | `(tactic| k_mem) => `(tactic| first | exact List.mem_cons_self | (refine List.mem_cons_of_mem _ ?_; k_mem) | assumption)
local macro_rules | `(tactic| walk_at "compareOp NotEq ref ref") => `(tactic| refine stop ?_)
theorem valid_pc {w : World} {news : List (Addr × Obj)} {a : WA} {o : Addr} {ws : List WayV} {eager : Bool} (hw : WaysAt w news a o ws) (hlen : ws.length ≤ 10) (hlens : ∀ x, some x ∈ ws → x.2.length ≤ 2) :
    Pc w 9 [Str.ofString "valid"] news (fun L m => m (Str.ofString "ways") = some (.ref o) ∧ EagerAt news L eager) (fun m' tl => ∃ D n, m' (Str.ofString "valid") = some (.ref D) ∧ (D, PySem.W.listOf (addrVals (validV eager ws)).toArray n) ∈ tl) := by
  unfold Pc
  k_fill
  intro lb ls st p loose mean mg mb fa h₀ L m s Q E hlaw hst hE B F X N T ⟨hm1, oc, he1, he2⟩ hret
  refine' LawIs.elim hlaw ?k6 ?_
  (case k6 => k_is)
  rintro rfl rfl
  clear hlaw
  cases hst
  obtain ⟨⟨no, ho1⟩, ho2⟩ := hw
  k_steps
  refine Stop.mk ?_
  refine srcLedT (vs := ws.map wayVal) (k := no) (fun i ys n₁ => n₁ = news ∧ ys = addrVals (validV eager (ws.take i))) rfl (by k_asm) (by k_asm) ho1 ?_ ⟨rfl, by simp [addrVals, validV]⟩ ?_ ?_
  · simp only [List.length_map, sizeLine_eq]; omega
  · rintro i v ys n₁ I5 oI5 C5 oC5 D5 m5 g5 tk5 E5 hv ⟨rfl, rfl⟩ hC5 hx5 F5 N5 off5 ne5
    simp only [List.getElem?_map, Option.map_eq_some_iff] at hv
    obtain ⟨wv, hwv, rfl⟩ := hv
    have hwm := List.mem_of_getElem? hwv
    have hk := validV_take eager ws hwv
    have he3 : (L + 1, oc) ∈ (I5, oI5) :: (C5, oC5) :: (D5, lst (addrVals (validV eager (ws.take i)))) :: n₁ := .tail _ (.tail _ (.tail _ he1))
    match wv, hwm, hk with
    | none, hwm, hk =>
      dsimp only [wayVal] at hx5
      (try dsimp only)
      k_steps
      refine Stop.mk ?_
      refine LCg.CompEnd.intro (by k_asm) (by k_asm) _ (fun p hp => hp) off5 (.inr ⟨_, ho1, rfl, _, rfl⟩) ⟨rfl, ?_⟩
      rw [hk]; simp [keepV]
    | some (l, ps), hwm, hk =>
      obtain ⟨⟨nl, hl1⟩, hl2⟩ := ho2 _ hwm
      have hpl := hlens _ hwm
      dsimp only [wayVal] at hx5 hl1 hl2 hpl
      (try dsimp only)
      k_steps
      rename_i b9 _ F9 N9 lb9
      refine Stop.mk ?_
      refine neNil (vs := pcVals ps) (News.isList N9 (.tail _ (.tail _ (.tail _ (.tail _ hl1))))) (News.isList N9 (.head _)) (by ktr_units) ?_
      rw [show (pcVals ps).isEmpty = ps.isEmpty by simp [pcVals]]
      have sub9 : ∀ q ∈ (I5, oI5) :: (C5, oC5) :: (D5, lst (addrVals (validV eager (ws.take i)))) :: n₁, q ∈ (b9, PySem.W.listOf #[] 0) :: (I5, oI5) :: (C5, oC5) :: (D5, lst (addrVals (validV eager (ws.take i)))) :: n₁ := fun q hq => .tail _ hq
      cases ps with
      | nil =>
        cases eager with
        | true =>
          k_steps
          refine Stop.mk ?_
          refine LCg.CompEnd.intro (by k_asm) N9 _ sub9 off5 (.inr ⟨_, ho1, rfl, _, rfl⟩) ⟨rfl, ?_⟩
          rw [hk]; simp [keepV]
        | false =>
          k_steps
          refine Stop.mk ?_
          refine LCg.CompEnd.intro (by k_asm) N9 _ sub9 off5 (.inr ⟨_, ho1, rfl, _, rfl⟩) ⟨rfl, ?_⟩
          rw [hk]; simp [keepV, addrVals]
      | cons q0 qr =>
        simp only [List.isEmpty_cons, Bool.not_false]
        k_steps
        refine Stop.mk ?_
        refine LCg.CompEnd.intro (by k_asm) N9 _ sub9 off5 (.inr ⟨_, ho1, rfl, _, rfl⟩) ⟨rfl, ?_⟩
        rw [hk]; simp [keepV, addrVals]
  · rintro g ys n₁ ⟨rfl, rfl⟩
    rw [show (ws.map wayVal).length = ws.length by simp, List.take_length]
    unfold LCg.FinA
    intro D5 h5 tk5 F5 N5 o5
    refine hret [(D5, lst (addrVals (validV eager ws)))] _ _ _ F5 (fun z hz => ?_) N5 ?_ ⟨D5, _, by simp, .head _⟩
    · simp only [List.mem_cons, List.not_mem_nil, or_false] at hz
      simp only [hz, if_false]
    · intro q hq p hp
      rw [List.mem_singleton.mp hp]
      exact off1 o5 q hq
theorem again_pc {w : World} {news : List (Addr × Obj)} {a : WA} {o : Addr} {ws : List WayV} {eager : Bool} (hw : WaysAt w news a o ws) (hlen : ws.length ≤ 10) (hlens : ∀ x, some x ∈ ws → x.2.length ≤ 2) :
    Pc w 12 [Str.ofString "again"] news (fun L m => m (Str.ofString "within") = some (.ref o) ∧ EagerAt news L eager) (fun m' tl => ∃ D n, m' (Str.ofString "again") = some (.ref D) ∧ (D, PySem.W.listOf (addrVals (validV eager ws)).toArray n) ∈ tl) := by
  unfold Pc
  k_fill
  intro lb ls st p loose mean mg mb fa h₀ L m s Q E hlaw hst hE B F X N T ⟨hm1, oc, he1, he2⟩ hret
  refine' LawIs.elim hlaw ?k6 ?_
  (case k6 => k_is)
  rintro rfl rfl
  clear hlaw
  cases hst
  obtain ⟨⟨no, ho1⟩, ho2⟩ := hw
  k_steps
  refine Stop.mk ?_
  refine srcLedT (vs := ws.map wayVal) (k := no) (fun i ys n₁ => n₁ = news ∧ ys = addrVals (validV eager (ws.take i))) rfl (by k_asm) (by k_asm) ho1 ?_ ⟨rfl, by simp [addrVals, validV]⟩ ?_ ?_
  · simp only [List.length_map, sizeLine_eq]; omega
  · rintro i v ys n₁ I5 oI5 C5 oC5 D5 m5 g5 tk5 E5 hv ⟨rfl, rfl⟩ hC5 hx5 F5 N5 off5 ne5
    simp only [List.getElem?_map, Option.map_eq_some_iff] at hv
    obtain ⟨wv, hwv, rfl⟩ := hv
    have hwm := List.mem_of_getElem? hwv
    have hk := validV_take eager ws hwv
    have he3 : (L + 1, oc) ∈ (I5, oI5) :: (C5, oC5) :: (D5, lst (addrVals (validV eager (ws.take i)))) :: n₁ := .tail _ (.tail _ (.tail _ he1))
    match wv, hwm, hk with
    | none, hwm, hk =>
      dsimp only [wayVal] at hx5
      (try dsimp only)
      k_steps
      refine Stop.mk ?_
      refine LCg.CompEnd.intro (by k_asm) (by k_asm) _ (fun p hp => hp) off5 (.inr ⟨_, ho1, rfl, _, rfl⟩) ⟨rfl, ?_⟩
      rw [hk]; simp [keepV]
    | some (l, ps), hwm, hk =>
      obtain ⟨⟨nl, hl1⟩, hl2⟩ := ho2 _ hwm
      have hpl := hlens _ hwm
      dsimp only [wayVal] at hx5 hl1 hl2 hpl
      (try dsimp only)
      k_steps
      rename_i b9 _ F9 N9 lb9
      refine Stop.mk ?_
      refine neNil (vs := pcVals ps) (News.isList N9 (.tail _ (.tail _ (.tail _ (.tail _ hl1))))) (News.isList N9 (.head _)) (by ktr_units) ?_
      rw [show (pcVals ps).isEmpty = ps.isEmpty by simp [pcVals]]
      have sub9 : ∀ q ∈ (I5, oI5) :: (C5, oC5) :: (D5, lst (addrVals (validV eager (ws.take i)))) :: n₁, q ∈ (b9, PySem.W.listOf #[] 0) :: (I5, oI5) :: (C5, oC5) :: (D5, lst (addrVals (validV eager (ws.take i)))) :: n₁ := fun q hq => .tail _ hq
      cases ps with
      | nil =>
        cases eager with
        | true =>
          k_steps
          refine Stop.mk ?_
          refine LCg.CompEnd.intro (by k_asm) N9 _ sub9 off5 (.inr ⟨_, ho1, rfl, _, rfl⟩) ⟨rfl, ?_⟩
          rw [hk]; simp [keepV]
        | false =>
          k_steps
          refine Stop.mk ?_
          refine LCg.CompEnd.intro (by k_asm) N9 _ sub9 off5 (.inr ⟨_, ho1, rfl, _, rfl⟩) ⟨rfl, ?_⟩
          rw [hk]; simp [keepV, addrVals]
      | cons q0 qr =>
        simp only [List.isEmpty_cons, Bool.not_false]
        k_steps
        refine Stop.mk ?_
        refine LCg.CompEnd.intro (by k_asm) N9 _ sub9 off5 (.inr ⟨_, ho1, rfl, _, rfl⟩) ⟨rfl, ?_⟩
        rw [hk]; simp [keepV, addrVals]
  · rintro g ys n₁ ⟨rfl, rfl⟩
    rw [show (ws.map wayVal).length = ws.length by simp, List.take_length]
    unfold LCg.FinA
    intro D5 h5 tk5 F5 N5 o5
    refine hret [(D5, lst (addrVals (validV eager ws)))] _ _ _ F5 (fun z hz => ?_) N5 ?_ ⟨D5, _, by simp, .head _⟩
    · simp only [List.mem_cons, List.not_mem_nil, or_false] at hz
      simp only [hz, if_false]
    · intro q hq p hp
      rw [List.mem_singleton.mp hp]
      exact off1 o5 q hq
end Mine
end
section
open PySem PySem.W PySem.Spec PySem.Calls PyProof.Rows PyProof.Rows.LCg PyProof.Rows.LCt
namespace Mine
theorem fresh_V1 : True := by
  w_top off
  trivial
local macro_rules | `(tactic| k_mem) => `(tactic| first | exact List.mem_cons_self | (refine List.mem_cons_of_mem _ ?_; k_mem))
local macro_rules | `(tactic| k_steps) => `(tactic| repeat' (first | (k_unfold; (try dsimp only)) | (k_end; wrow_close) | walk1 | (dsimp only; walk1) | (dsimp only; k_unfold; (try dsimp only)) | (leave1; walk_say "STEP leave1"; try dsimp only) | fail "no step"))
local macro_rules | `(tactic| walk_at "Hold") => `(tactic| refine stop ?_)
local macro_rules | `(tactic| walk_at "PostL0") => `(tactic| (unfold PostL0; try dsimp only))
local macro_rules | `(tactic| walk_at "EndL0") => `(tactic| refine stop ?_)
local macro_rules | `(tactic| walk_at "PostL") => `(tactic| (unfold PostL; try dsimp only))
local macro_rules | `(tactic| walk_at "EndL") => `(tactic| refine stop ?_)
local macro_rules | `(tactic| walk_at "PostM") => `(tactic| (unfold PostM; try dsimp only))
local macro_rules | `(tactic| walk_at "EndM") => `(tactic| refine stop ?_)
local macro_rules | `(tactic| walk_at "PostT") => `(tactic| (unfold PostT; try dsimp only))
local macro_rules | `(tactic| walk_at "EndT") => `(tactic| refine stop ?_)
local macro_rules | `(tactic| walk_at "pyIter ref") => `(tactic| refine stop ?_)
local macro_rules | `(tactic| ktr_call $_x:term $c:term) => `(tactic| (refine' Ctr.use ?k1 ?k2 ?k3 ?k4 ?k5 ?kK ?kC ?kd ?ku ?_; (case k1 => k_asm); (case k2 => k_asm); (case k3 => k_asm); (case k4 => k_asm); (case k5 => k_asm); (case kK => first | exact rfl | assumption); (case kC => exact $c); (case kd => ktr_room); (case ku => ktr_units)))
local macro_rules | `(tactic| k_room) => `(tactic| ktr_room)
local macro_rules | `(tactic| k_units) => `(tactic| ktr_units)
local macro_rules | `(tactic| k_enter) => `(tactic| first
  | (refine' code_def ?k1 ?k2 ?k3 ?k4 ?k5 ?kA ?kF ?kK ?k6 ?k7 ?k8 ?k9 ?kB ?_ ?c2 ?c3 ?c4 ?c5; (case k2 => k_asm); (case k3 => k_asm); (case k6 => k_is); (case k1 => k_asm); (case k4 => k_asm); (case k5 => k_asm); (case kA => exact rfl); (case kF => exact rfl); (case kK => first | exact rfl | assumption); (case k7 => k_is); (case k8 => ktr_room); (case k9 => first | exact BindsTo.of_eq rfl | exact binds_K (by k_in) rfl (by k_is) rfl rfl rfl | fail "k_enter: no rule for these arguments"); (case c5 => decide); (case kB => exact locs rfl); (case c2 => exact rfl); (case c3 => exact rfl); (case c4 => exact rfl); k_whole; intro g' L' h' FG' F' N' B' X' T'; (try dsimp only); (try k_lift B'); (try k_fold))
  | (refine' code_defC ?k1 ?k2 ?k3 ?k4 ?k5 ?kA ?kF ?kK ?k6 ?k7 ?k8 ?k9 ?kB ?kD ?_ ?c2 ?c3 ?c4; (case k2 => k_asm); (case k3 => k_asm); (case k6 => k_is); (case k1 => k_asm); (case k4 => k_asm); (case k5 => k_asm); (case kA => exact rfl); (case kF => exact rfl); (case kK => first | exact rfl | assumption); (case k7 => k_is); (case k8 => ktr_room); (case k9 => first | exact BindsTo.of_eq rfl | exact binds_K (by k_in) rfl (by k_is) rfl rfl rfl | fail "k_enter: no rule for these arguments"); (case kB => exact rfl); (case kD => decide +kernel); (case c2 => exact rfl); (case c3 => exact rfl); (case c4 => exact rfl); k_whole; intro g' L' h' tk' cells' FG' F' N' Y' B' X' T' l1; (try k_lt l1); k_cells Y'; (try simp only [List.cons_append, List.nil_append] at N'); (try dsimp only); (try k_lift B'); (try k_fold)))
local macro_rules | `(tactic| walk_at "truthy ref") => `(tactic| (k_here; (with_reducible show wpAny _ _ (truthy (Value.ref _)) _ _ _); (refine' kgr_truthy ?N ?m ?c ?d ?f ?_; (case N => k_asm); (case m => k_mem); (case c => rfl); (case d => rfl); (case f => first | omega | ((try simp only [List.length_map, List.length_cons, List.length_nil]); omega))); (try simp only [List.isEmpty_cons, List.isEmpty_nil, Bool.not_false, Bool.not_true])))
local macro_rules | `(tactic| ktr_rel) => `(tactic| (intro p hp; (try simp only [List.nil_append, List.cons_append, List.mem_cons, List.mem_append] at hp ⊢); first | exact hp | (simp [hp]; done) | (rcases hp with hp | hp <;> simp [hp])))
local macro_rules | `(tactic| walk_at "eval Name") => `(tactic| (k_here; k_dflt (refine' nameX_B ?F ?X ?T ?e ?v ?n ?_ ?a ?b; (case a => rfl); (case b => rfl); (case F => k_asm); (case X => k_asm); (case T => k_asm); (case e => k_is); (case v => boot_fast); (case n => decide); k_whole)))
local macro_rules | `(tactic| walk_at "eval Name") => `(tactic| (k_here; k_dflt (refine' nameX_K ?F ?X ?T ?e ?_ ?a ?b; (case a => rfl); (case b => rfl); (case F => k_asm); (case X => k_asm); (case T => k_asm); (case e => k_is); k_whole)))
local macro_rules | `(tactic| walk_at "eval Name") => `(tactic| (k_here; k_dflt (refine' nameX_L ?F ?v ?_ ?a ?b; (case F => k_asm); (case a => rfl); (case b => rfl); (case v => rfl); k_whole)))
local macro_rules | `(tactic| walk_at "ite") => `(tactic| ((with_reducible show ite (true = true) _ _); refine ite_pos rfl ?_))
local macro_rules | `(tactic| walk_at "ite") => `(tactic| ((with_reducible show ite (false = true) _ _); refine ite_neg Bool.false_ne_true ?_))
local macro_rules | `(tactic| walk_at "call builtin:isinstance") => `(tactic| (k_here; k_dflt (refine' isi_call ?k1 ?k2 ?k3 ?k4 ?_; (case k1 => k_in); (case k2 => k_types); (case k3 => k_is); (case k4 => intro e; cases e); k_whole)))
local macro_rules | `(tactic| walk_at "call ref") => `(tactic| (k_here; k_dflt (refine' call_cls ?k1 ?k2 ?k3 ?k4 ?k5 ?k6 ?_; (case k1 => k_asm); (case k2 => k_asm); (case k4 => k_is); (case k3 => k_asm); (case k5 => k_is); (case k6 => k_is); k_whole; intro x' d' h' F' N' l1 l2; (try k_lt l1); (try k_lt2 l2); (try k_sweep); k_enter)))
local macro_rules | `(tactic| walk_at "call ref") => `(tactic| (k_here; k_dflt (refine wpAny_call ?_; k_enter)))
local macro_rules | `(tactic| walk_at "call builtin:isinstance") => `(tactic| (k_here; (with_reducible show wpAny _ _ (call _ [Value.ref _, Value.ref _]) _ _ _); k_dflt (refine' kin_callC ?k1 ?k2 ?k3 ?k4 ?k5 ?k6 ?k7 ?k8 ?k9 ?_; (case k1 => k_in); (case k2 => k_inst); (case k3 => kin_no); (case k4 => k_is); (case k5 => k_is); (case k6 => k_is); (case k7 => k_is); (case k8 => k_is); (case k9 => k_is); k_whole)))
local macro_rules | `(tactic| walk_at "eval Name") => `(tactic| (k_here; k_dflt (refine' nameX_C ?N ?c ?m ?d ?_ ?a ?b; (case a => rfl); (case b => rfl); (case N => k_asm); (case c => rfl); (case m => k_mem); (case d => k_asm); k_whole)))
local macro_rules | `(tactic| walk_at "call builtin:list.append") => `(tactic| (k_here; (with_reducible show wpAny _ _ (call (Value.builtin _) [Value.ref _, _]) _ _ _); k_dflt (refine' append_K ?k1 ?k2 ?k3 ?_ ?z; (case k1 => k_asm); (case k2 => k_asm); (case k3 => k_upd); (case z => (simp only [List.size_toArray]; rw [sizeLine_eq]; omega)); k_whole); intro h' F' N'; (try k_sweep)))
local macro_rules | `(tactic| walk_at "eval ListComp") => `(tactic| (k_here; (with_reducible show wpAny _ _ (eval (Expr.ListComp _ [⟨Expr.Name _ _, _, [], _⟩] _ _) _) _ _ _); k_dflt (refine LCg.ListComp_U (F₀ := by k_asm) (by with_unfolding_all rfl) (by decide) (by rfl) (by decide) (by rfl) ?_)))
local macro_rules | `(tactic| walk_at "eval ListComp") => `(tactic| (k_here; (with_reducible show wpAny _ _ (eval (Expr.ListComp _ [⟨Expr.Name _ _, _, [_], _⟩] _ _) _) _ _ _); k_dflt (refine LCt.ListComp_T (F₀ := by k_asm) (by with_unfolding_all rfl) (by decide) (by rfl) (by decide) (by rfl) ?_)))
local macro_rules | `(tactic| walk_at "CompSrc") => `(tactic| refine stop ?_)
local macro_rules | `(tactic| walk_at "CompSrcT") => `(tactic| refine stop ?_)
local macro_rules | `(tactic| walk_at "CompEnd") => `(tactic| refine stop ?_)
local macro_rules | `(tactic| lsm_bools) => `(tactic| exact boolsMap _ _)
local macro_rules | `(tactic| lsm_list) => `(tactic| exact News.isList (by k_asm) (by k_mem))
local macro_rules | `(tactic| walk_at "exec For Name Name cons nil") => `(tactic| (k_here; (rename Fr _ _ _ _ => lF'); (with_unfolding_all refine' For_turns lF' ?_; k_whole)))
local macro_rules | `(tactic| walk_at "call builtin:len") => `(tactic| (k_here; (with_reducible show wpAny _ _ (call (Value.builtin "len") [Value.ref _]) _ _ _); (refine' lenLed ?N ?m ?f ?_; (case N => k_asm); (case m => k_mem); (case f => first | omega | ((try simp only [List.length_map, List.length_cons, List.length_nil]); omega))); (try simp only [List.length_cons, List.length_nil])))
local macro_rules | `(tactic| walk_at "subscriptTail Name Slice ref ref") => `(tactic| (k_here; (with_reducible show wpAny _ _ (subscriptTail _ (PySem.Expr.Slice _ _ none _) (Value.ref _) (Value.ref _)) _ _ _); k_dflt (refine' kmk_slice_lit ?F ?N ?l ?p ?q ?e ?_ ?s ?t ?z; (case F => k_asm); (case N => k_asm); (case l => exact News.isList (by k_asm) (by k_mem)); (case p => kmk_part); (case q => kmk_part); (case e => exact slice1 _ _); (case s => with_unfolding_all rfl); (case t => kmk_pure); (case z => (simp only [List.size_toArray, List.length_cons]; rw [sizeLine_eq]; omega))); intro D' h' F' N' l1; (try k_lt l1); (try k_sweep)))
local macro_rules | `(tactic| lcg_sub) => `(tactic| first | assumption | (refine List.mem_cons_of_mem _ ?_; lcg_sub))
local macro_rules | `(tactic| lcg_off) => `(tactic| ((try dsimp only); first | assumption | k_all | exact allLt3 (by assumption) | exact allLt3 (tb_ltOf (‹_ ∧ AllLt _ _›).2) | exact allLt3 (tb_ltOf (‹_ ∧ _ ∧ AllLt _ _›).2.2) | exact allLt3 (tb_ltOf (‹_ ∧ _ ∧ _ ∧ AllLt _ _›).2.2.2) | exact allLt2 (by assumption) (by assumption) | exact allLt2 (by assumption) (tb_ltOf (‹_ ∧ AllLt _ _›).2) | exact allLt2 (by assumption) (tb_ltOf (‹_ ∧ _ ∧ AllLt _ _›).2.2) | exact allLt2 (by assumption) (tb_ltOf (‹_ ∧ _ ∧ _ ∧ AllLt _ _›).2.2.2)))
local macro_rules | `(tactic| lcg_src) => `(tactic| first | exact Pre.nil' | (refine Pre.cons' ?_ ?_; lcg_off; lcg_src))
local macro_rules | `(tactic| walk_at "PostN") => `(tactic| (unfold PostN; try dsimp only))
local macro_rules | `(tactic| walk_at "EndN") => `(tactic| refine stop ?_)
local macro_rules | `(tactic| k_all) => `(tactic| assumption)
local macro_rules | `(tactic| walk_at "eval Call") => `(tactic| ((with_reducible show wpAny _ _ (eval (Expr.Call (Expr.Name _ _) [_, _, _] [] _) _) _ _ _); k_dflt (refine Call_ ?_)))
local macro_rules | `(tactic| walk_at "call ref") => `(tactic| ((with_reducible show wpAny _ _ (call (Value.ref 45) _ _) _ _ _); refine stop ?_))
local macro_rules | `(tactic| walk_at "call ref") => `(tactic| ((with_reducible show wpAny _ _ (call (Value.ref 669) _ _) _ _ _); refine stop ?_))
local macro_rules | `(tactic| walk_at "call ref") => `(tactic| ((with_reducible show wpAny _ _ (call (Value.ref 712) _ _) _ _ _); refine stop ?_))
local macro_rules | `(tactic| walk_at "call ref") => `(tactic| ((with_reducible show wpAny _ _ (call (Value.ref 717) _ _) _ _ _); refine stop ?_))
local macro_rules | `(tactic| walk_at "call ref") => `(tactic| ((with_reducible show wpAny _ _ (call (Value.ref 548) _ _) _ _ _); refine stop ?_))
local macro_rules | `(tactic| walk_at "call type:range") => `(tactic| refine stop ?_)
local macro_rules | `(tactic| walk_at "eval Name") => `(tactic| (k_here; k_dflt (refine' nameX_L ?F ?v ?_ ?a ?b; (case F => k_asm); (case a => rfl); (case b => rfl); (case v => assumption); k_whole)))
local macro_rules | `(tactic| walk_at "exec For Name Call cons nil") => `(tactic| (k_here; (rename Fr _ _ _ _ => lF'); (with_unfolding_all refine' For_turns lF' ?_; k_whole)))
local macro_rules | `(tactic| walk_at "subscriptTail") => `(tactic| ((with_reducible show wpAny _ _ (subscriptTail _ _ (Value.ref _) (Value.int _ _)) _ _ _); refine stop ?_))
local macro_rules | `(tactic| k_mem) => `(tactic| first | exact List.mem_cons_self | (refine List.mem_cons_of_mem _ ?_; k_mem) | assumption)
local macro_rules | `(tactic| walk_at "compareOp NotEq ref ref") => `(tactic| refine stop ?_)
local macro_rules | `(tactic| walk_at "compareOp Eq ref ref") => `(tactic| refine stop ?_)
local macro_rules | `(tactic| walk_at "call ref") => `(tactic| ((with_reducible show wpAny _ _ (call (Value.ref _) [Value.ref _] []) _ _ _); refine stop ?_))
def WithinSt (w : World) (a : WA) (news : List (Addr × Obj)) (o : Addr) (ws : List WayV) : Prop :=
  ∀ (lb : List Stmt) (ls : Scope) (st : Stmt) (p : Program) (loose : List Str) (mean : ExcName → Option Value) (mg mb : Str → Option Value) (fa : Addr) (h₀ : Heap) (L : Addr) (m : Str → Option Value) (s : Shared) (Q : Flow → Shared → Prop) (E : Value → Shared → Prop) (lwi : Addr),
    LawIs w lb ls → lb[11]? = some st → PassesOwn (model PySem.Challenge.rw_ft0022_01.row.prog w) (lawA ls L fa) (lawE ls L fa) E → Below callerA h₀ [] h₀ → Fr h₀ L s.heap m → (hd.heap_39 w.params).In h₀ → News h₀ L s.heap ((lwi, PySem.W.listOf #[] 0) :: news) → Top p loose mean mg mb h₀ →
    m (Str.ofString "ways") = some (.ref o) → m (Str.ofString "within") = some (.ref lwi) → (∀ q ∈ news, @Ne Nat q.1 lwi) →
    (∀ (tl : List (Addr × Obj)) (h' : Heap) (tk' : Nat) (m' : Str → Option Value) (wv : List WayV) (n : Nat), Fr h₀ L h' m' → (∀ z, z ∉ [Str.ofString "way", Str.ofString "kept"] → m' z = m z) → News h₀ L h' ((lwi, PySem.W.listOf (wv.map wayVal).toArray n) :: (tl ++ news)) → (∀ q ∈ news, ∀ p ∈ tl, q.1 ≠ p.1) → (∀ q ∈ tl ++ news, @Ne Nat q.1 lwi) →
      (∀ v ∈ wv, WayIn w (tl ++ news) a v ∧ ∀ x, v = some x → x.2.length ≤ 2) → wv.map ct = (ws.map ct).map filC → Q .next { s with heap := h', toks := tk' }) →
    wpAny (model PySem.Challenge.rw_ft0022_01.row.prog w) (lawA ls L fa) (exec st (lawE ls L fa)) Q E s
def WiJ (w : World) (a : WA) (lwi : Addr) (news : List (Addr × Obj)) (ws : List WayV) (i : Nat) (n₁ : List (Addr × Obj)) : Prop :=
  ∃ (wv : List WayV) (n : Nat) (tl : List (Addr × Obj)), n₁ = (lwi, PySem.W.listOf (wv.map wayVal).toArray n) :: (tl ++ news) ∧ (∀ q ∈ news, ∀ p ∈ tl, q.1 ≠ p.1) ∧ (∀ q ∈ tl ++ news, @Ne Nat q.1 lwi) ∧
    (∀ v ∈ wv, WayIn w (tl ++ news) a v ∧ ∀ x, v = some x → x.2.length ≤ 2) ∧ wv.map ct = ((ws.take i).map ct).map filC
theorem within_st {w : World} {a : WA} {news : List (Addr × Obj)} {o : Addr} {ws : List WayV} (W : WorldAt w news a) (hw : WaysAt w news a o ws) (hlen : ws.length ≤ 10) (hlens : ∀ x, some x ∈ ws → x.2.length ≤ 2) : WithinSt w a news o ws := by
  unfold WithinSt
  k_fill
  intro lb ls st p loose mean mg mb fa h₀ L m s Q E lwi hlaw hst hE B F X N T hm1 hm2 hne hret
  refine' LawIs.elim hlaw ?k6 ?_
  (case k6 => k_is)
  rintro rfl rfl
  clear hlaw
  cases hst
  obtain ⟨⟨no, ho1⟩, ho2⟩ := hw
  k_steps
  refine Stop.mk ?_
  refine iterTN [Str.ofString "way", Str.ofString "kept"] (WiJ w a lwi news ws) rfl (by k_asm) (by k_asm) ⟨[], 0, [], rfl, fun _ _ _ h => (nomatch h), hne, fun _ h => (nomatch h), rfl⟩ (fun i n₁ ⟨wv, n, tl, e, _⟩ => by rw [e]; exact .tail _ (List.mem_append_right _ ho1)) ?_ ?_
  · rintro i v m₁ n₁ I oI h2 tk2 hv ⟨wv, n, tl1, rfl, ap1, ol1, hk1, he1⟩ hz1 hoff F2 N2
    simp only [List.getElem?_map, Option.map_eq_some_iff] at hv
    obtain ⟨wy, hwv, rfl⟩ := hv
    have hwm := List.mem_of_getElem? hwv
    have hil : i < ws.length := (List.getElem?_eq_some_iff.mp hwv).1
    have hvl : wv.length ≤ 10 := by
      have h9 := congrArg List.length he1
      simp only [List.length_map, List.length_take] at h9
      omega
    have hvl2 : (wv.map wayVal).length ≤ 10 := by rw [List.length_map]; exact hvl
    have c1 : m₁ (Str.ofString "within") = some (.ref lwi) := (hz1 _ (by decide)).trans hm2
    have hI1 : @Ne Nat lwi I := hoff _ (.head _)
    have hI2 : ∀ q ∈ tl1 ++ news, q.1 ≠ I := fun q hq => hoff q (.tail _ hq)
    have hstep : ((ws.take (i + 1)).map ct).map filC = ((ws.take i).map ct).map filC ++ [filC (ct wy)] := by
      rw [List.take_add_one, hwv]; simp
    match wy, hwm, hstep with
    | none, hwm, hstep =>
      dsimp only [wayVal]
      k_steps
      rename_i N9
      refine Stop.mk ?_
      refine EndN.intro (by k_asm) (newsSub N9 (b := (I, oI) :: (lwi, PySem.W.listOf ((wv.map wayVal).toArray.push .none) (n + 1)) :: (tl1 ++ news)) (fun q hq => .tail _ hq)) ?_ (List.forall_mem_cons.mpr ⟨hI1, hI2⟩) ⟨wv ++ [none], n + 1, tl1, by simp [wayVal], ap1, ol1, ?_, ?_⟩
      · intro z hz
        have h9 := hz1 z hz
        simp only [List.mem_cons, List.not_mem_nil, or_false, not_or] at hz
        simp only [hz.1, hz.2, if_false]
        exact h9
      · intro v hv
        rcases List.mem_append.mp hv with hv | hv
        · exact hk1 v hv
        · rw [List.mem_singleton.mp hv]; exact ⟨trivial, nofun⟩
      · rw [hstep, List.map_append, he1]; rfl
    | some (l, ps), hwm, hstep =>
      obtain ⟨⟨nl, hl1⟩, hl2⟩ := ho2 _ hwm
      have hpl := hlens _ hwm
      dsimp only [wayVal] at hl1 hl2 hpl ⊢
      have K : ∀ q ∈ news, q ∈ (I, oI) :: (lwi, PySem.W.listOf (wv.map wayVal).toArray n) :: (tl1 ++ news) := fun q hq => .tail _ (.tail _ (List.mem_append_right _ hq))
      k_steps
      refine Stop.mk ?_
      refine srcLedT (vs := pcVals ps) (k := nl) (fun j ys n₁ => n₁ = (I, oI) :: (lwi, PySem.W.listOf (wv.map wayVal).toArray n) :: (tl1 ++ news) ∧ ys = pcVals ((ps.take j).filter fun p => okC p.2)) rfl (by k_asm) (by k_asm) (K _ hl1) ?_ ⟨rfl, by simp [pcVals]⟩ ?_ ?_
      · simp only [pcVals, List.length_map, sizeLine_eq]; omega
      · rintro j v ys n₁ I5 oI5 C5 oC5 D5 m5 g5 tk5 E5 hv ⟨rfl, rfl⟩ hC5 hx5 F5 N5 off5 ne5
        simp only [pcVals, List.getElem?_map, Option.map_eq_some_iff] at hv
        obtain ⟨pc, hpc, rfl⟩ := hv
        obtain ⟨dc1, s1, s2, s3, s4, s5, a1, a2⟩ := hl2 _ (List.mem_of_getElem? hpc)
        obtain ⟨dv, v1, v2, v3, v4, v5, v6, v7, vl, vn, b1, b2, b3⟩ := W.var pc.2.1
        have M : ∀ q ∈ news, q ∈ (I5, oI5) :: (C5, oC5) :: (D5, lst (pcVals ((ps.take j).filter fun p => okC p.2))) :: (I, oI) :: (lwi, PySem.W.listOf (wv.map wayVal).toArray n) :: (tl1 ++ news) := fun q hq => .tail _ (.tail _ (.tail _ (K q hq)))
        replace a1 := M _ a1
        replace a2 := M _ a2
        replace b1 := M _ b1
        replace b2 := M _ b2
        k_steps
        refine Stop.mk ?_
        ktr_call 0 (subW_ctr (W.mono M) pc.2)
        rintro r9 tl9 h9 tk9 F9 N9 hl9 ⟨rfl, rfl⟩
        simp only [List.nil_append] at N9
        cases hok : okC pc.2 with
        | true =>
          k_steps
          refine Stop.mk ?_
          refine LCg.CompEnd.intro (by k_asm) N9 _ (fun p hp => hp) off5 (.inr ⟨_, K _ hl1, rfl, _, rfl⟩) ⟨rfl, ?_⟩
          rw [List.take_add_one, hpc]; simp [hok, pcVals]
        | false =>
          k_steps
          refine Stop.mk ?_
          refine LCg.CompEnd.intro (by k_asm) N9 _ (fun p hp => hp) off5 (.inr ⟨_, K _ hl1, rfl, _, rfl⟩) ⟨rfl, ?_⟩
          rw [List.take_add_one, hpc]; simp [hok]
      · rintro g ys n₁ ⟨rfl, rfl⟩
        rw [show (pcVals ps).length = ps.length by simp [pcVals], List.take_length]
        unfold LCg.FinE
        intro D5 h5 tk5 F5 N5 o5
        have o6 := off1 o5
        have hD1 : @Ne Nat I D5 := o6 _ (.head _)
        have hD2 : @Ne Nat lwi D5 := o6 _ (.tail _ (.head _))
        have hD3 : ∀ q ∈ tl1 ++ news, q.1 ≠ D5 := fun q hq => o6 q (.tail _ (.tail _ hq))
        have hl3 := K _ hl1
        k_steps
        rename_i b9 _ F9 N9 lb9
        refine Stop.mk ?_
        refine neNil (vs := pcVals ps) (News.isList N9 (.tail _ (.tail _ hl3))) (News.isList N9 (.head _)) (by ktr_units) ?_
        rw [show (pcVals ps).isEmpty = ps.isEmpty by simp [pcVals]]
        have hfz : ∀ m₄ : Str → Option Value, (∀ z, m₄ z = if z = Str.ofString "kept" then some (Value.ref D5) else if z = Str.ofString "way" then some (Value.ref l) else m₁ z) → ∀ z, z ∉ [Str.ofString "way", Str.ofString "kept"] → m₄ z = m z := by
          intro m₄ h4 z hz
          have h9 := hz1 z hz
          simp only [List.mem_cons, List.not_mem_nil, or_false, not_or] at hz
          rw [h4]
          simp only [hz.1, hz.2, if_false]
          exact h9
        have hflen : (ps.filter fun p => okC p.2).length ≤ 2 := Nat.le_trans (List.length_filter_le _ _) hpl
        have kin : ∀ wy', (wy' = none ∨ wy' = some (D5, ps.filter fun p => okC p.2)) → WayIn w ((D5, lst (pcVals (ps.filter fun p => okC p.2))) :: tl1 ++ news) a wy' ∧ ∀ x, wy' = some x → x.2.length ≤ 2 := by
          rintro wy' (rfl | rfl)
          · exact ⟨trivial, nofun⟩
          · refine ⟨⟨⟨_, .head _⟩, fun p hp => ?_⟩, fun x hx => by cases hx; exact hflen⟩
            exact (hl2 p (List.mem_filter.mp hp).1).mono fun q hq => .tail _ (List.mem_append_right _ hq)
        have fin9 : ∀ (wy' : WayV) (h' : Heap) (tk' : Nat) (m₄ : Str → Option Value) (all : List (Addr × Obj)), (wy' = none ∨ wy' = some (D5, ps.filter fun p => okC p.2)) → ct wy' = filC (ct (some (l, ps))) → Fr h₀ L h' m₄ → (∀ z, m₄ z = if z = Str.ofString "kept" then some (Value.ref D5) else if z = Str.ofString "way" then some (Value.ref l) else m₁ z) →
            News h₀ L h' all → (lwi, PySem.W.listOf ((wv.map wayVal).toArray.push (wayVal wy')) (n + 1)) ∈ all → (∀ q, q ∈ (D5, lst (pcVals (ps.filter fun p => okC p.2))) :: (I, oI) :: (tl1 ++ news) → q ∈ all) →
            EndN h₀ L [Str.ofString "way", Str.ofString "kept"] m (WiJ w a lwi news ws (i + 1)) I oI { s with heap := h2, toks := tk2 } { s with heap := h', toks := tk' } := by
          intro wy' h' tk' m₄ all hwy hct F7 hm4 N7 i1 i2
          refine EndN.intro F7 (newsSub N7 (b := (I, oI) :: (lwi, PySem.W.listOf ((wv.map wayVal).toArray.push (wayVal wy')) (n + 1)) :: (((D5, lst (pcVals (ps.filter fun p => okC p.2))) :: tl1) ++ news)) ?_) (hfz m₄ hm4) (List.forall_mem_cons.mpr ⟨hI1, List.forall_mem_cons.mpr ⟨hD1.symm, hI2⟩⟩) ⟨wv ++ [wy'], n + 1, (D5, lst (pcVals (ps.filter fun p => okC p.2))) :: tl1, by simp, ?_, List.forall_mem_cons.mpr ⟨hD2.symm, ol1⟩, ?_, ?_⟩
          · intro q hq
            rcases List.mem_cons.mp hq with rfl | hq
            · exact i2 _ (.tail _ (.head _))
            rcases List.mem_cons.mp hq with rfl | hq
            · exact i1
            rcases List.mem_cons.mp hq with rfl | hq
            · exact i2 _ (.head _)
            · exact i2 _ (.tail _ (.tail _ hq))
          · intro q hq p hp
            rcases List.mem_cons.mp hp with rfl | hp
            · exact hD3 q (List.mem_append_right _ hq)
            · exact ap1 q hq p hp
          · intro v hv
            rcases List.mem_append.mp hv with hv | hv
            · exact ⟨(hk1 v hv).1.mono fun q hq => .tail _ hq, (hk1 v hv).2⟩
            · rw [List.mem_singleton.mp hv]; exact kin wy' hwy
          · rw [hstep, List.map_append, he1]
            simp [hct]
        cases ps with
        | nil =>
          simp only [List.isEmpty_nil, Bool.not_true]
          k_steps
          refine Stop.mk ?_
          exact fin9 (some (D5, [])) _ _ _ _ (.inr rfl) rfl (by k_asm) (fun _ => rfl) (by k_asm) (by k_mem) (fun q hq => by
            rcases List.mem_cons.mp hq with rfl | hq
            · k_mem
            rcases List.mem_cons.mp hq with rfl | hq
            · k_mem
            · exact .tail _ (.tail _ (.tail _ (.tail _ hq))))
        | cons q0 qr =>
          simp only [List.isEmpty_cons, Bool.not_false]
          k_steps
          rename_i b8 _ F8 N8 lb8
          refine Stop.mk ?_
          refine eqNil (vs := pcVals ((q0 :: qr).filter fun p => okC p.2)) (News.isList N8 (.tail _ (.tail _ (.head _)))) (News.isList N8 (.head _)) (by ktr_units) ?_
          have hff : ((q0 :: qr).map (·.2)).filter okC = ((q0 :: qr).filter fun p => okC p.2).map (·.2) := by rw [List.filter_map]; rfl
          cases hfl : ((q0 :: qr).filter fun p => okC p.2).isEmpty with
          | true =>
            rw [show (pcVals ((q0 :: qr).filter fun p => okC p.2)).isEmpty = true by rw [← hfl]; simp [pcVals]]
            k_steps
            refine Stop.mk ?_
            refine fin9 none _ _ _ _ (.inl rfl) ?_ (by k_asm) (fun _ => rfl) (by k_asm) (by k_mem) (fun q hq => by
              rcases List.mem_cons.mp hq with rfl | hq
              · k_mem
              rcases List.mem_cons.mp hq with rfl | hq
              · k_mem
              · exact .tail _ (.tail _ (.tail _ (.tail _ (.tail _ hq)))))
            simp only [ct, filC, Option.map_some, Option.map_none]
            rw [if_neg (by simp), hff, if_pos (by simpa using hfl)]
          | false =>
            rw [show (pcVals ((q0 :: qr).filter fun p => okC p.2)).isEmpty = false by rw [← hfl]; simp [pcVals]]
            k_steps
            refine Stop.mk ?_
            refine fin9 (some (D5, (q0 :: qr).filter fun p => okC p.2)) _ _ _ _ (.inr rfl) ?_ (by k_asm) (fun _ => rfl) (by k_asm) (by k_mem) (fun q hq => by
              rcases List.mem_cons.mp hq with rfl | hq
              · k_mem
              rcases List.mem_cons.mp hq with rfl | hq
              · k_mem
              · exact .tail _ (.tail _ (.tail _ (.tail _ (.tail _ hq)))))
            simp only [ct, filC, Option.map_some]
            rw [if_neg (by simp), hff, if_neg (by
              intro e
              rw [List.map_eq_nil_iff] at e
              rw [e] at hfl
              cases hfl)]
  · rintro m₁ n₁ h2 tk2 ⟨wv, n, tl1, rfl, ap1, ol1, hk1, he1⟩ hz1 F2 N2
    rw [show (ws.map wayVal).length = ws.length by simp, List.take_length] at he1
    exact hret tl1 _ _ _ wv n F2 hz1 N2 ap1 ol1 hk1 he1
end Mine
end
section
open PySem PySem.W PySem.Spec PySem.Calls PyProof.Rows
namespace Mine
theorem fresh_P0 : True := by
  w_top off
  trivial
theorem varLt (a b : Bool) : decide ((varName a).cps.toList < (varName b).cps.toList) = (a && !b) := by cases a <;> cases b <;> decide
theorem opLt (a b : Bool) : decide (opInt a < opInt b) = (!a && b) := by cases a <;> cases b <;> decide
theorem clsLt (a b : _root_.Fin 3) : decide ((clsName a).cps.toList < (clsName b).cps.toList) = decide (a < b) := by revert a b; decide
theorem varEqI (a b : Bool) : (varName a = varName b) ↔ a = b := by cases a <;> cases b <;> decide
theorem opEqI (a b : Bool) : (opInt a = opInt b) ↔ a = b := by cases a <;> cases b <;> decide
theorem ltC_eq (c d : Con) : ltC c d = if c.1 = d.1 then (if c.2.1 = d.2.1 then decide (c.2.2 < d.2.2) else (!c.2.1 && d.2.1)) else (c.1 && !d.1) := by
  unfold ltC
  rw [varLt, opLt, clsLt]
  simp only [varEqI, opEqI]
theorem ltC_irr (c : Con) : ltC c c = false := by
  rw [ltC_eq]; simp
theorem ltC_tri {c d : Con} (h : c ≠ d) : ltC c d = !ltC d c := by
  rw [ltC_eq, ltC_eq]
  obtain ⟨v, o, k⟩ := c
  obtain ⟨v', o', k'⟩ := d
  dsimp only
  by_cases h1 : v = v'
  · subst h1
    by_cases h2 : o = o'
    · subst h2
      have h3 : k ≠ k' := fun e => h (by rw [e])
      clear h
      simp only [if_true]
      rcases Nat.lt_trichotomy k.1 k'.1 with g | g | g
      · rw [decide_eq_true (show k < k' from g), decide_eq_false (show ¬ k' < k from Nat.lt_asymm g)]; rfl
      · exact absurd (_root_.Fin.ext g) h3
      · rw [decide_eq_false (show ¬ k < k' from Nat.lt_asymm g), decide_eq_true (show k' < k from g)]; rfl
    · rw [if_pos rfl, if_pos rfl, if_neg h2, if_neg (Ne.symm h2)]
      cases o <;> cases o' <;> simp at h2 ⊢
  · rw [if_neg h1, if_neg (Ne.symm h1)]
    cases v <;> cases v' <;> simp at h1 ⊢
theorem ded2 (a b : Con) : dedC [a, b] = if a = b then [a] else [a, b] := by
  unfold dedC
  simp only [List.foldl_cons, List.foldl_nil, List.not_mem_nil, if_false, List.nil_append, List.mem_singleton, List.cons_append]
  by_cases h : a = b
  · simp [h]
  · simp [h, Ne.symm h]
theorem key0 : keyC [] = [] := rfl
theorem key1 (a : Con) : keyC [a] = [a] := rfl
theorem key2 (a b : Con) : keyC [a, b] = if a = b then [a] else if ltC b a = true then [b, a] else [a, b] := by
  show dedC (if ltC b a = true then [b, a] else [a, b]) = _
  by_cases h : a = b
  · subst h
    rw [ltC_irr, if_neg (by decide), ded2]
  · rw [if_neg h]
    by_cases h2 : ltC b a = true
    · simp only [h2, if_true]; rw [ded2, if_neg (Ne.symm h)]
    · simp only [h2]; rw [if_neg (by decide), ded2, if_neg h]
theorem key_mem (l : List Con) (hl : l.length ≤ 2) (x : Con) : x ∈ keyC l ↔ x ∈ l := by
  match l, hl with
  | [], _ => rw [key0]
  | [a], _ => rw [key1]
  | [a, b], _ =>
    rw [key2]
    by_cases h : a = b
    · subst h; simp
    · rw [if_neg h]
      split
      · simp [or_comm]
      · rfl
theorem eqC_iff (p q : List Con) : eqC p q = true ↔ ∀ x, x ∈ p ↔ x ∈ q := by
  unfold eqC
  simp only [Bool.and_eq_true, List.all_eq_true, List.any_eq_true, decide_eq_true_eq]
  constructor
  · rintro ⟨h1, h2⟩ x
    constructor
    · intro hx
      obtain ⟨y, hy, rfl⟩ := h1 x hx
      exact hy
    · intro hx
      obtain ⟨y, hy, rfl⟩ := h2 x hx
      exact hy
  · intro h
    exact ⟨fun x hx => ⟨x, (h x).mp hx, rfl⟩, fun x hx => ⟨x, (h x).mpr hx, rfl⟩⟩
/-- a key's form: in order, without doubles -/
theorem key_form (l : List Con) (hl : l.length ≤ 2) : keyC l = [] ∨ (∃ a, keyC l = [a]) ∨ ∃ a b, keyC l = [a, b] ∧ a ≠ b ∧ ltC a b = true := by
  match l, hl with
  | [], _ => exact .inl rfl
  | [a], _ => exact .inr (.inl ⟨a, rfl⟩)
  | [a, b], _ =>
    rw [key2]
    by_cases h : a = b
    · rw [if_pos h]; exact .inr (.inl ⟨a, rfl⟩)
    · rw [if_neg h]
      by_cases h2 : ltC b a = true
      · rw [if_pos h2]; exact .inr (.inr ⟨b, a, rfl, Ne.symm h, h2⟩)
      · rw [if_neg h2]
        refine .inr (.inr ⟨a, b, rfl, h, ?_⟩)
        rw [ltC_tri h]
        simpa using h2
theorem key_eqC {p q : List Con} (hp : p.length ≤ 2) (hq : q.length ≤ 2) : keyC p = keyC q ↔ eqC p q = true := by
  rw [eqC_iff]
  constructor
  · intro h x
    rw [← key_mem p hp, ← key_mem q hq, h]
  · intro h
    have h2 : ∀ x, x ∈ keyC p ↔ x ∈ keyC q := fun x => by rw [key_mem p hp, key_mem q hq]; exact h x
    rcases key_form p hp with e1 | ⟨a, e1⟩ | ⟨a, b, e1, n1, l1⟩ <;> rcases key_form q hq with e2 | ⟨c, e2⟩ | ⟨c, d, e2, n2, l2⟩ <;> rw [e1, e2] at h2 ⊢
    · have := (h2 c).mpr (by simp); simp at this
    · have := (h2 c).mpr (by simp); simp at this
    · have := (h2 a).mp (by simp); simp at this
    · have := (h2 a).mp (by simp); simp at this; rw [this]
    · have g1 := (h2 c).mpr (by simp); have g2 := (h2 d).mpr (by simp)
      simp only [List.mem_singleton] at g1 g2
      exact absurd (g1.trans g2.symm) n2
    · have := (h2 a).mp (by simp); simp at this
    · have g1 := (h2 a).mp (by simp); have g2 := (h2 b).mp (by simp)
      simp only [List.mem_singleton] at g1 g2
      exact absurd (g1.trans g2.symm) n1
    · have g1 := (h2 a).mp (by simp); have g2 := (h2 b).mp (by simp)
      simp only [List.mem_cons, List.not_mem_nil, or_false] at g1 g2
      rcases g1 with rfl | rfl
      · rcases g2 with rfl | rfl
        · exact absurd rfl n1
        · rfl
      · rcases g2 with rfl | rfl
        · rw [ltC_tri n1, l2] at l1
          cases l1
        · exact absurd rfl n1
/-- the answer that the law expects -/
def dueC (eager : Bool) (ks : List CV) : List (List Con) :=
  if (unC (valC eager ks)).length = 1 then unC (valC eager ks) else if valC eager ks = [] then [[]] else if (unC (valC eager (ks.map filC))).length = 1 then unC (valC eager (ks.map filC)) else [[]]
theorem unC_mem (v : List (List Con)) (k : List Con) : k ∈ unC v ↔ ∃ c ∈ v, keyC c = k := by
  have key : ∀ (v f : List (List Con)), k ∈ v.foldl (fun f c => if keyC c ∈ f then f else f ++ [keyC c]) f ↔ k ∈ f ∨ ∃ c ∈ v, keyC c = k := by
    intro v
    induction v with
    | nil => intro f; simp
    | cons c v ih =>
      intro f
      rw [List.foldl_cons, ih]
      by_cases h : keyC c ∈ f
      · rw [if_pos h]
        constructor
        · rintro (h1 | ⟨d, h1, h2⟩)
          · exact .inl h1
          · exact .inr ⟨d, .tail _ h1, h2⟩
        · rintro (h1 | ⟨d, h1, h2⟩)
          · exact .inl h1
          · rcases List.mem_cons.mp h1 with rfl | h1
            · exact .inl (h2 ▸ h)
            · exact .inr ⟨d, h1, h2⟩
      · rw [if_neg h]
        simp only [List.mem_append, List.mem_singleton]
        constructor
        · rintro ((h1 | h1) | ⟨d, h1, h2⟩)
          · exact .inl h1
          · exact .inr ⟨c, .head _, h1.symm⟩
          · exact .inr ⟨d, .tail _ h1, h2⟩
        · rintro (h1 | ⟨d, h1, h2⟩)
          · exact .inl (.inl h1)
          · rcases List.mem_cons.mp h1 with rfl | h1
            · exact .inl (.inr h2.symm)
            · exact .inr ⟨d, h1, h2⟩
  have := key v []
  simpa [unC] using this
theorem unC_nodup (v : List (List Con)) : (unC v).Nodup := by
  have key : ∀ (v f : List (List Con)), f.Nodup → (v.foldl (fun f c => if keyC c ∈ f then f else f ++ [keyC c]) f).Nodup := by
    intro v
    induction v with
    | nil => intro f h; exact h
    | cons c v ih =>
      intro f h
      rw [List.foldl_cons]
      refine ih _ ?_
      by_cases h2 : keyC c ∈ f
      · rw [if_pos h2]; exact h
      · rw [if_neg h2, List.nodup_append]
        refine ⟨h, by simp, ?_⟩
        intro x hx y hy
        rw [List.mem_singleton.mp hy]
        exact fun e => h2 (e ▸ hx)
  exact key v [] List.nodup_nil
theorem unC_one (v : List (List Con)) : (unC v).length = 1 ↔ ∃ c, c ∈ v ∧ ∀ d ∈ v, keyC d = keyC c := by
  constructor
  · intro h
    obtain ⟨k, hk⟩ := List.length_eq_one_iff.mp h
    have h1 : k ∈ unC v := by rw [hk]; simp
    obtain ⟨c, hc, rfl⟩ := (unC_mem v k).mp h1
    refine ⟨c, hc, fun d hd => ?_⟩
    have h2 : keyC d ∈ unC v := (unC_mem v _).mpr ⟨d, hd, rfl⟩
    rw [hk] at h2
    exact List.mem_singleton.mp h2
  · rintro ⟨c, hc, h⟩
    have h1 : keyC c ∈ unC v := (unC_mem v _).mpr ⟨c, hc, rfl⟩
    have h2 : ∀ k ∈ unC v, k = keyC c := fun k hk => by
      obtain ⟨d, hd, rfl⟩ := (unC_mem v k).mp hk
      exact h d hd
    have h3 := unC_nodup v
    match hu : unC v, h1, h2, h3 with
    | [k], _, _, _ => rfl
    | k :: k' :: r, _, h2, h3 =>
      have e1 := h2 k (by simp)
      have e2 := h2 k' (by simp)
      rw [List.nodup_cons] at h3
      exact absurd (by rw [e1, e2]; simp) h3.1
theorem unC_val {v : List (List Con)} {c : List Con} (hc : c ∈ v) (h : ∀ d ∈ v, keyC d = keyC c) : unC v = [keyC c] := by
  have h1 := (unC_one v).mpr ⟨c, hc, h⟩
  obtain ⟨k, hk⟩ := List.length_eq_one_iff.mp h1
  have h2 : keyC c ∈ unC v := (unC_mem v _).mpr ⟨c, hc, rfl⟩
  rw [hk] at h2 ⊢
  rw [List.mem_singleton.mp h2]
theorem unC_sing (c : List Con) : unC [c] = [keyC c] := rfl
theorem anyR_some {v : List (List Con)} (hv : ∀ c ∈ v, c.length ≤ 2) (h : (unC v).length = 1) : ∃ c, anyR v = some c ∧ unC v = [keyC c] := by
  obtain ⟨c, hc, hall⟩ := (unC_one v).mp h
  match v, hc, hall, hv with
  | d :: r, hc, hall, hv =>
    have hd := hall d (by simp)
    refine ⟨d, ?_, ?_⟩
    · show (if (r.all (eqC d)) = true then some d else none) = some d
      rw [if_pos]
      rw [List.all_eq_true]
      intro x hx
      exact (key_eqC (hv d (by simp)) (hv x (.tail _ hx))).mp (by rw [hd, hall x (.tail _ hx)])
    · rw [unC_val hc hall, hd]
theorem anyR_none {v : List (List Con)} (hv : ∀ c ∈ v, c.length ≤ 2) (hn : v ≠ []) (h : ¬ (unC v).length = 1) : anyR v = none := by
  match v, hn, hv, h with
  | d :: r, _, hv, h =>
    show (if (r.all (eqC d)) = true then some d else none) = none
    rw [if_neg]
    intro hall
    rw [List.all_eq_true] at hall
    apply h
    refine (unC_one _).mpr ⟨d, by simp, fun x hx => ?_⟩
    rcases List.mem_cons.mp hx with rfl | hx
    · rfl
    · exact ((key_eqC (hv d (by simp)) (hv x (.tail _ hx))).mpr (hall x hx)).symm
theorem valC_mem (eager : Bool) (ks : List CV) (c : List Con) : c ∈ valC eager ks ↔ ∃ k ∈ ks, keepC eager k = some c := by
  unfold valC; rw [List.mem_filterMap]
theorem keepC_len {eager : Bool} {k : CV} {c : List Con} (h : keepC eager k = some c) : k = some c := by
  cases k with
  | none => cases h
  | some d =>
    simp only [keepC] at h
    split at h
    · cases h
    · exact h
theorem filC_len {k : CV} (h : ∀ c, k = some c → c.length ≤ 2) : ∀ c, filC k = some c → c.length ≤ 2 := by
  intro c hc
  cases k with
  | none => cases hc
  | some d =>
    have hd := h d rfl
    simp only [filC] at hc
    split at hc
    · cases hc; simp
    · split at hc
      · cases hc
      · cases hc; exact Nat.le_trans (List.length_filter_le _ _) hd
theorem valC_len {eager : Bool} {ks : List CV} (h : ∀ c, some c ∈ ks → c.length ≤ 2) : ∀ c ∈ valC eager ks, c.length ≤ 2 := by
  intro c hc
  obtain ⟨k, hk, e⟩ := (valC_mem _ _ _).mp hc
  exact h c (keepC_len e ▸ hk)
theorem valF_len {eager : Bool} {ks : List CV} (h : ∀ c, some c ∈ ks → c.length ≤ 2) : ∀ c ∈ valC eager (ks.map filC), c.length ≤ 2 := by
  refine valC_len fun c hc => ?_
  obtain ⟨k, hk, e⟩ := List.mem_map.mp hc
  exact filC_len (fun d hd => h d (hd ▸ hk)) c e
theorem anyR_mem {v : List (List Con)} {c : List Con} (h : anyR v = some c) : c = [] ∨ c ∈ v := by
  match v, h with
  | [], h => cases h; exact .inl rfl
  | d :: r, h =>
    replace h : (if (r.all (eqC d)) = true then some d else none) = some c := h
    split at h
    · cases h; exact .inr (.head _)
    · cases h
theorem anyC_len {eager : Bool} {ks : List CV} (h : ∀ c, some c ∈ ks → c.length ≤ 2) : (anyC eager ks).length ≤ 2 := by
  unfold anyC
  cases h1 : anyR (valC eager ks) with
  | some c =>
    rcases anyR_mem h1 with rfl | hc
    · simp
    · exact valC_len h c hc
  | none =>
    dsimp only
    cases h2 : anyR (valC eager (ks.map filC)) with
    | some c =>
      rcases anyR_mem h2 with rfl | hc
      · simp
      · exact valF_len h c hc
    | none => simp
/-- what is told is what the law expects -/
theorem any_due {eager : Bool} {ks : List CV} (h : ∀ c, some c ∈ ks → c.length ≤ 2) : unC [anyC eager ks] = dueC eager ks := by
  unfold dueC anyC
  by_cases h1 : (unC (valC eager ks)).length = 1
  · obtain ⟨c, e1, e2⟩ := anyR_some (valC_len h) h1
    rw [if_pos h1, e1, e2]; rfl
  · rw [if_neg h1]
    by_cases h2 : valC eager ks = []
    · rw [if_pos h2, h2]; rfl
    · rw [if_neg h2, anyR_none (valC_len h) h2 h1]
      dsimp only
      by_cases h3 : (unC (valC eager (ks.map filC))).length = 1
      · obtain ⟨c, e1, e2⟩ := anyR_some (valF_len h) h3
        rw [if_pos h3, e1, e2]; rfl
      · rw [if_neg h3]
        by_cases h4 : valC eager (ks.map filC) = []
        · rw [h4]; rfl
        · rw [anyR_none (valF_len h) h4 h3]; rfl
theorem unC_congr {v v' : List (List Con)} (h : ∀ c, c ∈ v' ↔ c ∈ v) : ((unC v').length = 1 ↔ (unC v).length = 1) ∧ ((unC v).length = 1 → unC v' = unC v) := by
  constructor
  · rw [unC_one, unC_one]
    constructor
    · rintro ⟨c, hc, g⟩
      exact ⟨c, (h c).mp hc, fun d hd => g d ((h d).mpr hd)⟩
    · rintro ⟨c, hc, g⟩
      exact ⟨c, (h c).mpr hc, fun d hd => g d ((h d).mp hd)⟩
  · intro h1
    obtain ⟨c, hc, g⟩ := (unC_one v).mp h1
    rw [unC_val hc g, unC_val ((h c).mpr hc) fun d hd => g d ((h d).mp hd)]
theorem due_congr {eager : Bool} {ks ks' : List CV} (h1 : ∀ k ∈ ks, k ∈ ks') (h2 : ∀ k ∈ ks', k ∈ ks ∨ (keepC eager k = none ∧ keepC eager (filC k) = none)) : dueC eager ks' = dueC eager ks := by
  have a1 : ∀ c, c ∈ valC eager ks' ↔ c ∈ valC eager ks := by
    intro c
    rw [valC_mem, valC_mem]
    constructor
    · rintro ⟨k, hk, e⟩
      rcases h2 k hk with hk | ⟨g, _⟩
      · exact ⟨k, hk, e⟩
      · rw [g] at e; cases e
    · rintro ⟨k, hk, e⟩
      exact ⟨k, h1 k hk, e⟩
  have a2 : ∀ c, c ∈ valC eager (ks'.map filC) ↔ c ∈ valC eager (ks.map filC) := by
    intro c
    rw [valC_mem, valC_mem]
    constructor
    · rintro ⟨k0, hk0, e⟩
      obtain ⟨k, hk, rfl⟩ := List.mem_map.mp hk0
      rcases h2 k hk with hk | ⟨_, g⟩
      · exact ⟨filC k, List.mem_map_of_mem hk, e⟩
      · rw [g] at e; cases e
    · rintro ⟨k0, hk0, e⟩
      obtain ⟨k, hk, rfl⟩ := List.mem_map.mp hk0
      exact ⟨filC k, List.mem_map_of_mem (h1 k hk), e⟩
  have b1 := unC_congr a1
  have b2 := unC_congr a2
  have b3 : valC eager ks' = [] ↔ valC eager ks = [] := by
    simp only [List.eq_nil_iff_forall_not_mem]
    exact ⟨fun g c hc => g c ((a1 c).mpr hc), fun g c hc => g c ((a1 c).mp hc)⟩
  unfold dueC
  by_cases e1 : (unC (valC eager ks)).length = 1
  · rw [if_pos e1, if_pos (b1.1.mpr e1), b1.2 e1]
  · rw [if_neg e1, if_neg (fun g => e1 (b1.1.mp g))]
    by_cases e2 : valC eager ks = []
    · rw [if_pos e2, if_pos (b3.mpr e2)]
    · rw [if_neg e2, if_neg (fun g => e2 (b3.mp g))]
      by_cases e3 : (unC (valC eager (ks.map filC))).length = 1
      · rw [if_pos e3, if_pos (b2.1.mpr e3), b2.2 e3]
      · rw [if_neg e3, if_neg (fun g => e3 (b2.1.mp g))]
end Mine
end
section
open PySem PySem.W PySem.Spec PySem.Calls PyProof.Rows PyProof.Rows.LCg PyProof.Rows.LCt
namespace Mine
theorem fresh_W1 : True := by
  w_top off
  trivial
local macro_rules | `(tactic| k_mem) => `(tactic| first | exact List.mem_cons_self | (refine List.mem_cons_of_mem _ ?_; k_mem))
local macro_rules | `(tactic| k_steps) => `(tactic| repeat' (first | (k_unfold; (try dsimp only)) | (k_end; wrow_close) | walk1 | (dsimp only; walk1) | (dsimp only; k_unfold; (try dsimp only)) | (leave1; walk_say "STEP leave1"; try dsimp only) | fail "no step"))
local macro_rules | `(tactic| walk_at "Hold") => `(tactic| refine stop ?_)
local macro_rules | `(tactic| walk_at "PostL0") => `(tactic| (unfold PostL0; try dsimp only))
local macro_rules | `(tactic| walk_at "EndL0") => `(tactic| refine stop ?_)
local macro_rules | `(tactic| walk_at "PostL") => `(tactic| (unfold PostL; try dsimp only))
local macro_rules | `(tactic| walk_at "EndL") => `(tactic| refine stop ?_)
local macro_rules | `(tactic| walk_at "PostM") => `(tactic| (unfold PostM; try dsimp only))
local macro_rules | `(tactic| walk_at "EndM") => `(tactic| refine stop ?_)
local macro_rules | `(tactic| walk_at "PostT") => `(tactic| (unfold PostT; try dsimp only))
local macro_rules | `(tactic| walk_at "EndT") => `(tactic| refine stop ?_)
local macro_rules | `(tactic| walk_at "pyIter ref") => `(tactic| refine stop ?_)
local macro_rules | `(tactic| ktr_call $_x:term $c:term) => `(tactic| (refine' Ctr.use ?k1 ?k2 ?k3 ?k4 ?k5 ?kK ?kC ?kd ?ku ?_; (case k1 => k_asm); (case k2 => k_asm); (case k3 => k_asm); (case k4 => k_asm); (case k5 => k_asm); (case kK => first | exact rfl | assumption); (case kC => exact $c); (case kd => ktr_room); (case ku => ktr_units)))
local macro_rules | `(tactic| k_room) => `(tactic| ktr_room)
local macro_rules | `(tactic| k_units) => `(tactic| ktr_units)
local macro_rules | `(tactic| k_enter) => `(tactic| first
  | (refine' code_def ?k1 ?k2 ?k3 ?k4 ?k5 ?kA ?kF ?kK ?k6 ?k7 ?k8 ?k9 ?kB ?_ ?c2 ?c3 ?c4 ?c5; (case k2 => k_asm); (case k3 => k_asm); (case k6 => k_is); (case k1 => k_asm); (case k4 => k_asm); (case k5 => k_asm); (case kA => exact rfl); (case kF => exact rfl); (case kK => first | exact rfl | assumption); (case k7 => k_is); (case k8 => ktr_room); (case k9 => first | exact BindsTo.of_eq rfl | exact binds_K (by k_in) rfl (by k_is) rfl rfl rfl | fail "k_enter: no rule for these arguments"); (case c5 => decide); (case kB => exact locs rfl); (case c2 => exact rfl); (case c3 => exact rfl); (case c4 => exact rfl); k_whole; intro g' L' h' FG' F' N' B' X' T'; (try dsimp only); (try k_lift B'); (try k_fold))
  | (refine' code_defC ?k1 ?k2 ?k3 ?k4 ?k5 ?kA ?kF ?kK ?k6 ?k7 ?k8 ?k9 ?kB ?kD ?_ ?c2 ?c3 ?c4; (case k2 => k_asm); (case k3 => k_asm); (case k6 => k_is); (case k1 => k_asm); (case k4 => k_asm); (case k5 => k_asm); (case kA => exact rfl); (case kF => exact rfl); (case kK => first | exact rfl | assumption); (case k7 => k_is); (case k8 => ktr_room); (case k9 => first | exact BindsTo.of_eq rfl | exact binds_K (by k_in) rfl (by k_is) rfl rfl rfl | fail "k_enter: no rule for these arguments"); (case kB => exact rfl); (case kD => decide +kernel); (case c2 => exact rfl); (case c3 => exact rfl); (case c4 => exact rfl); k_whole; intro g' L' h' tk' cells' FG' F' N' Y' B' X' T' l1; (try k_lt l1); k_cells Y'; (try simp only [List.cons_append, List.nil_append] at N'); (try dsimp only); (try k_lift B'); (try k_fold)))
local macro_rules | `(tactic| walk_at "truthy ref") => `(tactic| (k_here; (with_reducible show wpAny _ _ (truthy (Value.ref _)) _ _ _); (refine' kgr_truthy ?N ?m ?c ?d ?f ?_; (case N => k_asm); (case m => k_mem); (case c => rfl); (case d => rfl); (case f => first | omega | ((try simp only [List.length_map, List.length_cons, List.length_nil]); omega))); (try simp only [List.isEmpty_cons, List.isEmpty_nil, Bool.not_false, Bool.not_true])))
local macro_rules | `(tactic| ktr_rel) => `(tactic| (intro p hp; (try simp only [List.nil_append, List.cons_append, List.mem_cons, List.mem_append] at hp ⊢); first | exact hp | (simp [hp]; done) | (rcases hp with hp | hp <;> simp [hp])))
local macro_rules | `(tactic| walk_at "eval Name") => `(tactic| (k_here; k_dflt (refine' nameX_B ?F ?X ?T ?e ?v ?n ?_ ?a ?b; (case a => rfl); (case b => rfl); (case F => k_asm); (case X => k_asm); (case T => k_asm); (case e => k_is); (case v => boot_fast); (case n => decide); k_whole)))
local macro_rules | `(tactic| walk_at "eval Name") => `(tactic| (k_here; k_dflt (refine' nameX_K ?F ?X ?T ?e ?_ ?a ?b; (case a => rfl); (case b => rfl); (case F => k_asm); (case X => k_asm); (case T => k_asm); (case e => k_is); k_whole)))
local macro_rules | `(tactic| walk_at "eval Name") => `(tactic| (k_here; k_dflt (refine' nameX_L ?F ?v ?_ ?a ?b; (case F => k_asm); (case a => rfl); (case b => rfl); (case v => rfl); k_whole)))
local macro_rules | `(tactic| walk_at "ite") => `(tactic| ((with_reducible show ite (true = true) _ _); refine ite_pos rfl ?_))
local macro_rules | `(tactic| walk_at "ite") => `(tactic| ((with_reducible show ite (false = true) _ _); refine ite_neg Bool.false_ne_true ?_))
local macro_rules | `(tactic| walk_at "call builtin:isinstance") => `(tactic| (k_here; k_dflt (refine' isi_call ?k1 ?k2 ?k3 ?k4 ?_; (case k1 => k_in); (case k2 => k_types); (case k3 => k_is); (case k4 => intro e; cases e); k_whole)))
local macro_rules | `(tactic| walk_at "call ref") => `(tactic| (k_here; k_dflt (refine' call_cls ?k1 ?k2 ?k3 ?k4 ?k5 ?k6 ?_; (case k1 => k_asm); (case k2 => k_asm); (case k4 => k_is); (case k3 => k_asm); (case k5 => k_is); (case k6 => k_is); k_whole; intro x' d' h' F' N' l1 l2; (try k_lt l1); (try k_lt2 l2); (try k_sweep); k_enter)))
local macro_rules | `(tactic| walk_at "call ref") => `(tactic| (k_here; k_dflt (refine wpAny_call ?_; k_enter)))
local macro_rules | `(tactic| walk_at "call builtin:isinstance") => `(tactic| (k_here; (with_reducible show wpAny _ _ (call _ [Value.ref _, Value.ref _]) _ _ _); k_dflt (refine' kin_callC ?k1 ?k2 ?k3 ?k4 ?k5 ?k6 ?k7 ?k8 ?k9 ?_; (case k1 => k_in); (case k2 => k_inst); (case k3 => kin_no); (case k4 => k_is); (case k5 => k_is); (case k6 => k_is); (case k7 => k_is); (case k8 => k_is); (case k9 => k_is); k_whole)))
local macro_rules | `(tactic| walk_at "eval Name") => `(tactic| (k_here; k_dflt (refine' nameX_C ?N ?c ?m ?d ?_ ?a ?b; (case a => rfl); (case b => rfl); (case N => k_asm); (case c => rfl); (case m => k_mem); (case d => k_asm); k_whole)))
local macro_rules | `(tactic| walk_at "call builtin:list.append") => `(tactic| (k_here; (with_reducible show wpAny _ _ (call (Value.builtin _) [Value.ref _, _]) _ _ _); k_dflt (refine' append_K ?k1 ?k2 ?k3 ?_ ?z; (case k1 => k_asm); (case k2 => k_asm); (case k3 => k_upd); (case z => (simp only [List.size_toArray]; rw [sizeLine_eq]; omega)); k_whole); intro h' F' N'; (try k_sweep)))
local macro_rules | `(tactic| walk_at "eval ListComp") => `(tactic| (k_here; (with_reducible show wpAny _ _ (eval (Expr.ListComp _ [⟨Expr.Name _ _, _, [], _⟩] _ _) _) _ _ _); k_dflt (refine LCg.ListComp_U (F₀ := by k_asm) (by with_unfolding_all rfl) (by decide) (by rfl) (by decide) (by rfl) ?_)))
local macro_rules | `(tactic| walk_at "eval ListComp") => `(tactic| (k_here; (with_reducible show wpAny _ _ (eval (Expr.ListComp _ [⟨Expr.Name _ _, _, [_], _⟩] _ _) _) _ _ _); k_dflt (refine LCt.ListComp_T (F₀ := by k_asm) (by with_unfolding_all rfl) (by decide) (by rfl) (by decide) (by rfl) ?_)))
local macro_rules | `(tactic| walk_at "CompSrc") => `(tactic| refine stop ?_)
local macro_rules | `(tactic| walk_at "CompSrcT") => `(tactic| refine stop ?_)
local macro_rules | `(tactic| walk_at "CompEnd") => `(tactic| refine stop ?_)
local macro_rules | `(tactic| lsm_bools) => `(tactic| exact boolsMap _ _)
local macro_rules | `(tactic| lsm_list) => `(tactic| exact News.isList (by k_asm) (by k_mem))
local macro_rules | `(tactic| walk_at "exec For Name Name cons nil") => `(tactic| (k_here; (rename Fr _ _ _ _ => lF'); (with_unfolding_all refine' For_turns lF' ?_; k_whole)))
local macro_rules | `(tactic| walk_at "call builtin:len") => `(tactic| (k_here; (with_reducible show wpAny _ _ (call (Value.builtin "len") [Value.ref _]) _ _ _); (refine' lenLed ?N ?m ?f ?_; (case N => k_asm); (case m => k_mem); (case f => first | omega | ((try simp only [List.length_map, List.length_cons, List.length_nil]); omega))); (try simp only [List.length_cons, List.length_nil])))
local macro_rules | `(tactic| walk_at "subscriptTail Name Slice ref ref") => `(tactic| (k_here; (with_reducible show wpAny _ _ (subscriptTail _ (PySem.Expr.Slice _ _ none _) (Value.ref _) (Value.ref _)) _ _ _); k_dflt (refine' kmk_slice_lit ?F ?N ?l ?p ?q ?e ?_ ?s ?t ?z; (case F => k_asm); (case N => k_asm); (case l => exact News.isList (by k_asm) (by k_mem)); (case p => kmk_part); (case q => kmk_part); (case e => exact slice1 _ _); (case s => with_unfolding_all rfl); (case t => kmk_pure); (case z => (simp only [List.size_toArray, List.length_cons]; rw [sizeLine_eq]; omega))); intro D' h' F' N' l1; (try k_lt l1); (try k_sweep)))
local macro_rules | `(tactic| lcg_sub) => `(tactic| first | assumption | (refine List.mem_cons_of_mem _ ?_; lcg_sub))
local macro_rules | `(tactic| lcg_off) => `(tactic| ((try dsimp only); first | assumption | k_all | exact allLt3 (by assumption) | exact allLt3 (tb_ltOf (‹_ ∧ AllLt _ _›).2) | exact allLt3 (tb_ltOf (‹_ ∧ _ ∧ AllLt _ _›).2.2) | exact allLt3 (tb_ltOf (‹_ ∧ _ ∧ _ ∧ AllLt _ _›).2.2.2) | exact allLt2 (by assumption) (by assumption) | exact allLt2 (by assumption) (tb_ltOf (‹_ ∧ AllLt _ _›).2) | exact allLt2 (by assumption) (tb_ltOf (‹_ ∧ _ ∧ AllLt _ _›).2.2) | exact allLt2 (by assumption) (tb_ltOf (‹_ ∧ _ ∧ _ ∧ AllLt _ _›).2.2.2)))
local macro_rules | `(tactic| lcg_src) => `(tactic| first | exact Pre.nil' | (refine Pre.cons' ?_ ?_; lcg_off; lcg_src))
local macro_rules | `(tactic| walk_at "PostN") => `(tactic| (unfold PostN; try dsimp only))
local macro_rules | `(tactic| walk_at "EndN") => `(tactic| refine stop ?_)
local macro_rules | `(tactic| k_all) => `(tactic| assumption)
local macro_rules | `(tactic| walk_at "eval Call") => `(tactic| ((with_reducible show wpAny _ _ (eval (Expr.Call (Expr.Name _ _) [_, _, _] [] _) _) _ _ _); k_dflt (refine Call_ ?_)))
local macro_rules | `(tactic| walk_at "call ref") => `(tactic| ((with_reducible show wpAny _ _ (call (Value.ref 45) _ _) _ _ _); refine stop ?_))
local macro_rules | `(tactic| walk_at "call ref") => `(tactic| ((with_reducible show wpAny _ _ (call (Value.ref 669) _ _) _ _ _); refine stop ?_))
local macro_rules | `(tactic| walk_at "call ref") => `(tactic| ((with_reducible show wpAny _ _ (call (Value.ref 712) _ _) _ _ _); refine stop ?_))
local macro_rules | `(tactic| walk_at "call ref") => `(tactic| ((with_reducible show wpAny _ _ (call (Value.ref 717) _ _) _ _ _); refine stop ?_))
local macro_rules | `(tactic| walk_at "call ref") => `(tactic| ((with_reducible show wpAny _ _ (call (Value.ref 548) _ _) _ _ _); refine stop ?_))
local macro_rules | `(tactic| walk_at "call type:range") => `(tactic| refine stop ?_)
local macro_rules | `(tactic| walk_at "eval Name") => `(tactic| (k_here; k_dflt (refine' nameX_L ?F ?v ?_ ?a ?b; (case F => k_asm); (case a => rfl); (case b => rfl); (case v => assumption); k_whole)))
local macro_rules | `(tactic| walk_at "exec For Name Call cons nil") => `(tactic| (k_here; (rename Fr _ _ _ _ => lF'); (with_unfolding_all refine' For_turns lF' ?_; k_whole)))
local macro_rules | `(tactic| walk_at "subscriptTail") => `(tactic| ((with_reducible show wpAny _ _ (subscriptTail _ _ (Value.ref _) (Value.int _ _)) _ _ _); refine stop ?_))
local macro_rules | `(tactic| k_mem) => `(tactic| first | exact List.mem_cons_self | (refine List.mem_cons_of_mem _ ?_; k_mem) | assumption)
local macro_rules | `(tactic| walk_at "compareOp NotEq ref ref") => `(tactic| refine stop ?_)
local macro_rules | `(tactic| walk_at "compareOp Eq ref ref") => `(tactic| refine stop ?_)
local macro_rules | `(tactic| walk_at "call ref") => `(tactic| ((with_reducible show wpAny _ _ (call (Value.ref _) [Value.ref _] []) _ _ _); refine stop ?_))
theorem UnFn.fnAt {w : World} {h₀ h : Heap} {L f : Addr} {news : List (Addr × Obj)} (N : News h₀ L h news) (U : UnFn w news f) : FnAt f h := by
  obtain ⟨lb, ls, nm, ps, bd, sc, x1, x2, x3, x4, pos, qual, doc, pm, c', ctv, oc, vs, t, h1, h2, h3, h4, h5, h6, h7⟩ := U
  exact FnAt.of N h4
local macro_rules | `(tactic| walk_at "callWith ref") => `(tactic| (k_here; k_dflt (refine' callWith_F ?k1 ?_; (case k1 => exact UnFn.fnAt (by k_asm) (by assumption)); k_whole)))
local macro_rules | `(tactic| walk_at "FnAt") => `(tactic| (k_dflt (exact UnFn.fnAt (by k_asm) (by assumption))))
local macro_rules | `(tactic| walk_at "call builtin:len") => `(tactic| refine stop ?_)
theorem due_pc {w : World} {news : List (Addr × Obj)} {a : WA} {f lv la : Addr} {rv ra : List (Addr × List PC)} {nv na : Nat} (U : UnFn w news f) (W : WorldAt w news a)
    (V1 : (lv, PySem.W.listOf (addrVals rv).toArray nv) ∈ news) (R1 : ∀ r ∈ rv, ConsAt w news a r.1 r.2 ∧ r.2.length ≤ 2) (n1 : rv.length ≤ 10)
    (V2 : (la, PySem.W.listOf (addrVals ra).toArray na) ∈ news) (R2 : ∀ r ∈ ra, ConsAt w news a r.1 r.2 ∧ r.2.length ≤ 2) (n2 : ra.length ≤ 10) :
    Pc w 14 [Str.ofString "due"] news (fun L m => m (Str.ofString "valid") = some (.ref lv) ∧ m (Str.ofString "again") = some (.ref la) ∧ m (Str.ofString "unlike") = some (.ref f))
      (fun m' tl => ∃ rd fd, m' (Str.ofString "due") = some (.ref rd) ∧ FoundAt tl rd fd ∧ fd.map (fun x => x.2.map (·.2)) = (if (unC (rv.map csOf)).length = 1 then unC (rv.map csOf) else if rv.map csOf = [] then [[]] else if (unC (ra.map csOf)).length = 1 then unC (ra.map csOf) else [[]])) := by
  unfold Pc
  k_fill
  intro lb ls st p loose mean mg mb fa h₀ L m s Q E hlaw hst hE B F X N T ⟨hm1, hm2, hm3⟩ hret
  refine' LawIs.elim hlaw ?k6 ?_
  (case k6 => k_is)
  rintro rfl rfl
  clear hlaw
  cases hst
  k_steps
  refine Stop.mk ?_
  ktr_call 0 (unlike_ctr U W V1 R1 n1)
  rintro rX tl1 h1 tk1 F1 N1 hl1 ⟨r1, fs, rfl, ⟨⟨k1, q1⟩, q2⟩, he1⟩
  have q3 := List.mem_append_left news q1
  have hfl : fs.length ≤ 10 := by
    have h9 := congrArg List.length he1
    have h8 := unC_len (rv.map fun r => r.2.map (·.2))
    simp only [List.length_map] at h9 h8
    omega
  have hfe : (unC (rv.map csOf)).length = fs.length := by
    have h9 := congrArg List.length he1
    simp only [List.length_map] at h9
    exact h9.symm
  k_steps
  refine Stop.mk ?_
  (refine' lenLed ?N ?m ?f ?_; (case N => exact N1); (case m => exact q3); (case f => rw [List.length_map]; omega))
  rw [List.length_map]
  have S1 : ∀ q ∈ news, q ∈ tl1 ++ news := fun q hq => List.mem_append_right _ hq
  have U2 := U.mono S1
  have fin9 : ∀ (tl9 : List (Addr × Obj)) (h9 : Heap) (tk9 : Nat) (m9 : Str → Option Value) (all : List (Addr × Obj)) (rd : Addr) (fd : List (Addr × List PC)), (∀ q, q ∈ tl9 ++ news → q ∈ all) → News h₀ L h9 all → Fr h₀ L h9 m9 → (∀ z, m9 z = if z = Str.ofString "due" then some (.ref rd) else m z) → (∀ q ∈ news, ∀ p ∈ tl9, q.1 ≠ p.1) → FoundAt tl9 rd fd →
      fd.map (fun x => x.2.map (·.2)) = (if (unC (rv.map csOf)).length = 1 then unC (rv.map csOf) else if rv.map csOf = [] then [[]] else if (unC (ra.map csOf)).length = 1 then unC (ra.map csOf) else [[]]) → Q .next { s with heap := h9, toks := tk9 } := by
    intro tl9 h9 tk9 m9 all rd fd i1 N9 F9 e9 ap9 fo9 eq9
    refine hret tl9 h9 tk9 m9 F9 (fun z hz => ?_) (newsSub N9 i1) ap9 ⟨rd, fd, by rw [e9]; simp, fo9, eq9⟩
    simp only [List.mem_cons, List.not_mem_nil, or_false] at hz
    rw [e9, if_neg hz]
  k_steps
  · rename_i hone
    refine Stop.mk ?_
    ktr_call 0 (unlike_ctr U2 (W.mono S1) (S1 _ V1) (fun r hr => ⟨(R1 r hr).1.mono S1, (R1 r hr).2⟩) n1)
    rintro rX tl2 h2 tk2 F2 N2 hl2 ⟨r2, fs2, rfl, fo2, he2⟩
    k_steps
    refine fin9 (tl2 ++ tl1) _ _ _ _ r2 fs2 (fun q hq => by rw [List.append_assoc] at hq; exact hq) (by k_asm) (by k_asm) (fun _ => rfl) (fun q hq p hp => ?_) (fo2.mono fun q hq => List.mem_append_left _ hq) ?_
    · rcases List.mem_append.mp hp with hp | hp
      · exact hl2 q (S1 q hq) p hp
      · exact hl1 q hq p hp
    · rw [if_pos (by rw [hfe]; omega)]; exact he2
  · rename_i hone b9 _ F9 N9 lb9
    have hq1 : ¬ (unC (rv.map csOf)).length = 1 := by rw [hfe]; omega
    refine Stop.mk ?_
    refine eqNil (vs := addrVals rv) (News.isList N9 (.tail _ (S1 _ V1))) (News.isList N9 (.head _)) (by ktr_units) ?_
    have T1 : ∀ q ∈ news, q ∈ ((b9, PySem.W.listOf #[] 0) :: tl1) ++ news := fun q hq => List.mem_append_right _ hq
    have a1 : ∀ q ∈ news, ∀ p ∈ (b9, PySem.W.listOf #[] 0) :: tl1, q.1 ≠ p.1 := by
      intro q hq p hp
      rcases List.mem_cons.mp hp with rfl | hp
      · exact Nat.ne_of_lt (lb9 q (S1 q hq))
      · exact hl1 q hq p hp
    have b1 : ∀ q ∈ tl1 ++ news, q.1 < b9 := lb9
    have N10 : News h₀ L _ (((b9, PySem.W.listOf #[] 0) :: tl1) ++ news) := N9
    have hre : (addrVals rv).isEmpty = true ↔ rv.map csOf = [] := by
      cases rv <;> simp [addrVals]
    have U4 := U.mono T1
    cases hrv : (addrVals rv).isEmpty with
    | true =>
      k_steps
      rename_i x1 _ lx1 x2 _ lx2 _ F11 N11
      refine fin9 ((x2, PySem.W.listOf #[Value.ref x1] 0) :: (x1, PySem.W.listOf #[] 0) :: (b9, PySem.W.listOf #[] 0) :: tl1) _ _ _ _ x2 [(x1, [])] (fun q hq => hq) N11 F11 (fun _ => rfl) ?_ ⟨⟨0, .head _⟩, ?_⟩ ?_
      · intro q hq p hp
        rcases List.mem_cons.mp hp with rfl | hp
        · exact Nat.ne_of_lt (tb_ltOf lx2.2 q (T1 q hq))
        rcases List.mem_cons.mp hp with rfl | hp
        · exact Nat.ne_of_lt (lx1 q (T1 q hq))
        · exact a1 q hq p hp
      · intro x hx
        rw [List.mem_singleton.mp hx]
        exact ⟨⟨0, .tail _ (.head _)⟩, fun _ h => (nomatch h)⟩
      · rw [if_neg hq1, if_pos (hre.mp hrv)]; rfl
    | false =>
      have hrn : ¬ rv.map csOf = [] := by rw [← hre, hrv]; decide
      k_steps
      refine Stop.mk ?_
      ktr_call 0 (unlike_ctr (U.mono T1) (W.mono T1) (T1 _ V2) (fun r hr => ⟨(R2 r hr).1.mono T1, (R2 r hr).2⟩) n2)
      rintro rX tl2 h2 tk2 F2 N2 hl2 ⟨r2, fs2, rfl, ⟨⟨k2, q21⟩, q22⟩, he2⟩
      have q23 := List.mem_append_left (((b9, PySem.W.listOf #[] 0) :: tl1) ++ news) q21
      have hfl2 : fs2.length ≤ 10 := by
        have h9 := congrArg List.length he2
        have h8 := unC_len (ra.map fun r => r.2.map (·.2))
        simp only [List.length_map] at h9 h8
        omega
      have hfe2 : (unC (ra.map csOf)).length = fs2.length := by
        have h9 := congrArg List.length he2
        simp only [List.length_map] at h9
        exact h9.symm
      have T2 : ∀ q ∈ news, q ∈ tl2 ++ (((b9, PySem.W.listOf #[] 0) :: tl1) ++ news) := fun q hq => List.mem_append_right _ (T1 q hq)
      have U3 := U.mono T2
      have a2 : ∀ q ∈ news, ∀ p ∈ tl2 ++ ((b9, PySem.W.listOf #[] 0) :: tl1), q.1 ≠ p.1 := by
        intro q hq p hp
        rcases List.mem_append.mp hp with hp | hp
        · exact hl2 q (T1 q hq) p hp
        · exact a1 q hq p hp
      k_steps
      refine Stop.mk ?_
      (refine' lenLed ?N ?m ?f ?_; (case N => exact N2); (case m => exact q23); (case f => rw [List.length_map]; omega))
      rw [List.length_map]
      k_steps
      · rename_i htwo
        refine Stop.mk ?_
        ktr_call 0 (unlike_ctr U3 (W.mono T2) (T2 _ V2) (fun r hr => ⟨(R2 r hr).1.mono T2, (R2 r hr).2⟩) n2)
        rintro rX tl3 h3 tk3 F3 N3 hl3 ⟨r3, fs3, rfl, fo3, he3⟩
        k_steps
        refine fin9 (tl3 ++ (tl2 ++ ((b9, PySem.W.listOf #[] 0) :: tl1))) _ _ _ _ r3 fs3 (fun q hq => by
          rw [List.append_assoc, List.append_assoc] at hq; exact hq) (by k_asm) (by k_asm) (fun _ => rfl) (fun q hq p hp => ?_) (fo3.mono fun q hq => List.mem_append_left _ hq) ?_
        · rcases List.mem_append.mp hp with hp | hp
          · exact hl3 q (T2 q hq) p hp
          · exact a2 q hq p hp
        · rw [if_neg hq1, if_neg hrn, if_pos (by rw [hfe2]; omega)]; exact he3
      · rename_i htwo x1 _ lx1 x2 _ lx2 _ F11 N11
        refine fin9 ((x2, PySem.W.listOf #[Value.ref x1] 0) :: (x1, PySem.W.listOf #[] 0) :: (tl2 ++ ((b9, PySem.W.listOf #[] 0) :: tl1))) _ _ _ _ x2 [(x1, [])] (fun q hq => by
          rw [List.cons_append, List.cons_append, List.append_assoc] at hq; exact hq) N11 F11 (fun _ => rfl) ?_ ⟨⟨0, .head _⟩, ?_⟩ ?_
        · intro q hq p hp
          rcases List.mem_cons.mp hp with rfl | hp
          · exact Nat.ne_of_lt (tb_ltOf lx2.2 q (T2 q hq))
          rcases List.mem_cons.mp hp with rfl | hp
          · exact Nat.ne_of_lt (lx1 q (T2 q hq))
          · exact a2 q hq p hp
        · intro x hx
          rw [List.mem_singleton.mp hx]
          exact ⟨⟨0, .tail _ (.head _)⟩, fun _ h => (nomatch h)⟩
        · rw [if_neg hq1, if_neg hrn, if_neg (by rw [hfe2]; omega)]; rfl
end Mine
end
section
open PySem PySem.W PySem.Spec PySem.Calls PyProof.Rows
namespace Mine
theorem fresh_Z3 : True := by
  w_top off
  trivial
theorem noLenRev : typeLookup (.type "list_reverseiterator") "__len__" = pure none := by rw [typeLookup_type, builtinLookup_eq_fast]; kernel_rfl
theorem hintRev : typeLookup (.type "list_reverseiterator") "__length_hint__" = pure (some (.builtin "list_reverseiterator.__length_hint__")) := by rw [typeLookup_type, builtinLookup_eq_fast]; kernel_rfl
section
variable {prog : Program} {w : World} {A : Around} {E : Value → Shared → Prop} {s : Shared} {h₀ : Heap} {L : Addr} {m : Str → Option Value} {news : List (Addr × Obj)}
theorem hint_rev {r : Addr} {Q : Bool → Shared → Prop} (hT : s.TypeIs (.ref r) "list_reverseiterator") (h : Q false s) : wpAny (model prog w) A (Builtin.List.listLengthHint (.ref r)) Q E s := by
  unfold Builtin.List.listLengthHint
  refine wpAny_bind (wpAny_specialOf hT noLenRev ?_)
  show wpAny _ A (specialOf (Value.ref r) (Str.ofString "__length_hint__") >>= _) _ _ _
  refine wpAny_bind (wpAny_specialOf hT hintRev ?_)
  generalize hid : ("list_reverseiterator.__length_hint__" : String) = id0
  wp_delta
  rw [show splitId id0 = some ("list_reverseiterator", "__length_hint__") from by subst hid; decide +kernel]
  subst hid
  refine wpAny_bind (wpAny_isInstance (b := true) hT (by rw [isSubtype_type]; kernel_rfl) ?_)
  exact wpAny_pure h
theorem listRev {D l : Addr} {vs : List Value} {k : Nat} {Q : Value → Shared → Prop} (hh : A.handled = none) (Fh : Fr h₀ L s.heap m) (N : News h₀ L s.heap ((D, revObj l ((vs.length : Int) - 1)) :: news)) (hD : ∀ p ∈ news, p.1 ≠ D)
    (hm : (l, PySem.W.listOf vs.toArray k) ∈ news) (hz : vs.length ≤ 1000)
    (h : ∀ R h' n tk, Fr h₀ L h' m → News h₀ L h' ((R, PySem.W.listOf vs.reverse.toArray n) :: news) → (∀ p ∈ news, p.1 < R) → Q (.ref R) { s with heap := h', toks := tk }) :
    wpAny (model prog w) A (call (.type "list") [.ref D]) Q E s := by
  have hDo := N _ (List.mem_cons_self)
  have hlD : l ≠ D := hD _ hm
  have hDlt : D < s.heap.objs.size := Heap.lt_size hDo.1
  have hllt : l < s.heap.objs.size := Heap.lt_size (N _ (.tail _ hm)).1
  refine callType_codes (Q₁ := fun obj s₁ => obj = .ref s.heap.objs.size ∧ s₁ = { s with heap := s.heap.push { cls := .type "list", data := .seq #[] } }) PySem.F.called_list (PySem.F.typeCall_list_1 _) PySem.F.entry_list_init
    (code_list_new _ ⟨rfl, rfl⟩) fun obj s₁ h₁ => ?_
  obtain ⟨rfl, rfl⟩ := h₁
  have hS : (s.heap.push { cls := .type "list", data := .seq #[] }).get? s.heap.objs.size = some { cls := .type "list", data := .seq #[] } := Heap.get?_push_size _ rfl
  refine ⟨⟨_, hS, rfl⟩, PySem.F.args_list_init_2 _ _, ?_⟩
  have hSD : s.heap.objs.size ≠ D := Nat.ne_of_gt hDlt
  show wpAny _ _ (do let old ← Builtin.List.listItems (.ref s.heap.objs.size); Builtin.List.listUpdate (.ref s.heap.objs.size) (fun _ => #[]); letGo old.toList.reverse; Builtin.List.listExtendWith (.ref s.heap.objs.size) (.ref D) .none) _ _ _
  refine wpAny_bind ?_
  unfold Builtin.List.listItems
  refine wpAny_bind (wpAny_seqItems hS rfl (wpAny_pure ?_))
  show wpAny _ _ (updateSeq s.heap.objs.size (fun _ => #[]) >>= fun _ => letGo (#[] : Array Value).toList.reverse >>= fun _ => Builtin.List.listExtendWith (.ref s.heap.objs.size) (.ref D) .none) _ _ _
  refine wpAny_bind (wpAny_updateSeq hS rfl ?_)
  generalize hg1 : s.heap.push { cls := .type "list", data := .seq #[] } = g1 at *
  have keep1 : ∀ b o, s.heap.get? b = some o → g1.get? b = some o := fun b o e => by rw [← hg1]; exact Heap.get?_push_of_some _ e
  have oth : ∀ b o, b ≠ s.heap.objs.size → s.heap.get? b = some o → (g1.update s.heap.objs.size (Obj.mapSeq (fun _ => (#[] : Array Value)))).get? b = some o :=
    fun b o hb e => (Heap.get?_update_other _ _ (Ne.symm hb)).trans (keep1 b o e)
  have hS2 := Heap.get?_update_self (Obj.mapSeq (fun _ => (#[] : Array Value))) hS rfl
  generalize g1.update s.heap.objs.size (Obj.mapSeq (fun _ => (#[] : Array Value))) = g2 at *
  refine wpAny_bind (wpAny_letGo ?_)
  have hit2 : g2.IsRevIter D l (((vs.toArray.size : Nat) : Int) - 1 - ((0 : Nat) : Int)) := by
    have e : ((vs.toArray.size : Nat) : Int) - 1 - ((0 : Nat) : Int) = (vs.length : Int) - 1 := by simp
    rw [e]
    exact ⟨_, oth _ _ (Ne.symm hSD) hDo.1, rfl, rfl⟩
  have hl2 : g2.IsList l vs.toArray := ⟨_, oth _ _ (Nat.ne_of_lt hllt) (N _ (.tail _ hm)).1, rfl, k, rfl⟩
  have hT : ∀ (s' : Shared), s'.heap = g2 → s'.TypeIs (.ref D) "list_reverseiterator" := fun s' e => by
    have := Heap.IsRevIter.typeIs (s := s') (by rw [e]; exact hit2)
    exact this
  unfold Builtin.List.listExtendWith
  refine wpAny_bind (wpAny_typeOf (hT _ rfl) ?_)
  have h1 : Builtin.List.listSameRef (.ref s.heap.objs.size) (.ref D) = false := by simp [Builtin.List.listSameRef, hSD]
  have h2 : (Value.type "list_reverseiterator" == Value.type "list") = false := by decide
  have h3 : (Value.type "list_reverseiterator" == Value.type "tuple") = false := by decide
  simp only [h1, h2, h3, Bool.or_false, Bool.false_eq_true, if_false]
  refine wpAny_bind (wpAny_pyIter_revIter (s := { s with heap := g2 }) hit2 ?_)
  refine wpAny_bind (wpAny_holding (hint_rev (hT _ rfl) ?_))
  simp only [Bool.false_or]
  refine wpAny_ite_split (fun hab => absurd hab (by decide)) (fun _ => ?_)
  obtain ⟨c2, hS3⟩ : ∃ c2, g2.get? s.heap.objs.size = some { cls := .type "list", dict := none, data := .seq #[] c2, slots := #[] } := ⟨_, hS2⟩
  have WW := (Walks.listRev (prog := prog) (w := w) (A := A.in1.in1) hh D l hlD vs.toArray).toS
  have hSf : s.heap.objs.size ∉ [D, l] := fun hmem => by
    simp only [List.mem_cons, List.not_mem_nil, or_false] at hmem
    rcases hmem with e | e
    · exact hSD e
    · exact absurd hllt (by rw [← e]; exact Nat.lt_irrefl _)
  refine wpAny_pure ⟨plainId_quiet PySem.F.plain_extend_loop _, codeAny_extend_loopS WW (by rw [List.size_toArray, sizeLine_eq]; omega) _ hSf _ vs.toArray.size 0 _ _ _ rfl (Nat.zero_le _) ⟨Nat.zero_le _, hit2, hl2⟩ hS3 (ItemsOf.nil _) fun s' acc' c' hmv hS' hacc => ?_⟩
  refine ⟨rfl, ?_⟩
  have hacc2 : acc' = vs.reverse.toArray := by
    refine Array.ext (by rw [hacc.1]; simp) fun i i1 i2 => ?_
    have h9 := hacc.2 i acc'[i] (by simp)
    have hi : i < vs.length := by simpa using i2
    have h10 : vs[vs.length - 1 - i]? = some acc'[i] := by simpa using h9
    have h11 : vs.reverse.toArray[i] = vs[vs.length - 1 - i]'(by omega) := by simp [List.getElem_reverse]
    rw [h11]
    rw [List.getElem?_eq_getElem (by omega)] at h10
    exact (Option.some.inj h10).symm
  have key : ∀ b o, b ≠ s.heap.objs.size → b ≠ D → s.heap.get? b = some o → s'.heap.get? b = some o := fun b o b1 b2 e =>
    hmv.heap b o (fun hmem => by
      rcases List.mem_cons.mp hmem with e' | hmem
      · exact b1 e'
      · exact b2 (List.mem_singleton.mp hmem)) (oth b o b1 e)
  have hLlt : L < s.heap.objs.size := Fh.ns.lt
  rw [hacc2] at hS'
  have fin := h s.heap.objs.size s'.heap c' s'.toks ⟨Heap.Ns.at Fh.ns fun o e => key L o (Nat.ne_of_lt hLlt) (Ne.symm hDo.2.1) e, fun b o e => key b o (Nat.ne_of_lt (Nat.lt_of_lt_of_le (Heap.lt_size e) (Nat.le_trans Fh.above (Nat.le_of_lt hLlt)))) (fun q => by rw [q, hDo.2.2] at e; cases e) (Fh.keep b o e), Fh.above⟩ (fun p hp => by
    rcases List.mem_cons.mp hp with rfl | hp
    · exact ⟨hS', Nat.ne_of_gt hLlt, Heap.get?_none_of_le (Nat.le_trans Fh.above (Nat.le_of_lt hLlt))⟩
    · have g := N p (.tail _ hp)
      exact ⟨key _ _ (Nat.ne_of_lt (Heap.lt_size g.1)) (hD p hp) g.1, g.2⟩) (fun p hp => Heap.lt_size (N p (.tail _ hp)).1)
  rw [Moved.eq_with hmv]
  exact fin
end
end Mine
end
section
open PySem PySem.W PySem.Spec PySem.Calls PyProof.Rows PyProof.Rows.LCg PyProof.Rows.LCt
namespace Mine
theorem fresh_Z4 : True := by
  w_top off
  trivial
abbrev tupU (vs : List Value) : Obj := { cls := .type "tuple", data := .seq vs.toArray }
section
variable {prog : Program} {w : World} {A : Around} {E : Value → Shared → Prop} {s : Shared} {env : Env} {h₀ : Heap} {body : List Stmt} {Q : Flow → Shared → Prop}
/-- a for over a tuple of the ledger, the target a name of any kind -/
theorem iterU {l : Addr} {vs : List Value} {m₀ : Str → Option Value} {news : List (Addr × Obj)} {x : Str} {px : Pos} (J : Nat → (Str → Option Value) → List (Addr × Obj) → Prop)
    (hh : A.handled = none) (F : Fr h₀ env.locals s.heap m₀) (N : News h₀ env.locals s.heap news) (hj : J 0 m₀ news)
    (hl : ∀ i m₁ news₁, J i m₁ news₁ → (l, tupU vs) ∈ news₁)
    (turn : ∀ i v m₁ news₁ I oI h tk, vs[i]? = some v → J i m₁ news₁ → (∀ p ∈ news₁, p.1 ≠ I) → Fr h₀ env.locals h m₁ → News h₀ env.locals h ((I, oI) :: news₁) →
      wpAny (model prog w) A (assign (.Name x px) env v) (fun _ s₃ => wpAny (model prog w) A (execs body env) (PostL h₀ env.locals (J (i + 1)) I oI { s with heap := h, toks := tk } Q) E s₃) E { s with heap := h, toks := tk })
    (done : ∀ m₁ news₁ h tk, J vs.length m₁ news₁ → Fr h₀ env.locals h m₁ → News h₀ env.locals h news₁ → Q .next { s with heap := h, toks := tk }) :
    wpAny (model prog w) A (pyIter (.ref l)) (fun it s₂ => TurnsAt prog w A h₀ env (.Name x px) body Q E it s₂) E s := by
  have hm := hl 0 m₀ news hj
  have hls : s.heap.IsTuple l vs.toArray := ⟨_, (N _ hm).1, rfl, _, rfl⟩
  have hlt : l < s.heap.objs.size := Heap.lt_size (N _ hm).1
  have hne : l ≠ s.heap.objs.size := Nat.ne_of_lt hlt
  refine wpAny_pyIter_tuple hls ?_
  have WW := Walks.tuple (prog := prog) (w := w) hh s.heap.objs.size l hne vs.toArray
  have hlen : vs.toArray.size = vs.length := by simp
  rw [hlen] at WW
  refine ⟨_, _, _, vs.length, _, _, _, m₀, news, J, rfl, KTurns.ofWalks WW (fun _ _ _ _ _ _ q => wpAny_pure q), ?_, ?_, ?_, ⟨⟨_, Heap.get?_push_size _ rfl, rfl, rfl⟩, hls.at fun o e => Heap.get?_push_of_some _ e⟩, F.push _, (fun p hp => ⟨Heap.get?_push_of_some _ (N p hp).1, (N p hp).2⟩), hj, ?_, ?_⟩
  · intro hm'
    rcases List.mem_cons.mp hm' with e | hm'
    · exact absurd F.ns.lt (e ▸ Nat.lt_irrefl _)
    · exact (N _ hm).2.1 (List.mem_singleton.mp hm').symm
  · intro b hb
    rw [List.mem_singleton.mp hb]
    exact next_is_new F
  · intro p hp hI
    exact absurd (Heap.lt_size (N p hp).1) ((List.mem_singleton.mp hI) ▸ Nat.lt_irrefl _)
  · rintro i v m₁ news₁ hh' tk' own hin hP hJ hoff hown hget hall hst F₁ N₁
    have hoff' : ∀ p ∈ news₁, p.1 ≠ s.heap.objs.size := fun p hp e => hoff p hp (by rw [e]; exact List.mem_singleton.mpr rfl)
    obtain ⟨oI, hoI, _⟩ := hst.1
    have hIn : (s.heap.objs.size, oI) ∈ own := hall _ (.head _) (next_is_new F) _ hoI
    have N₂ : News h₀ env.locals hh' ((s.heap.objs.size, oI) :: news₁) := fun p hp => by
      rcases List.mem_cons.mp hp with rfl | hp
      · exact N₁ _ (List.mem_append_left _ hIn)
      · exact N₁ _ (List.mem_append_right _ hp)
    have hv : vs[i]? = some v := by simpa using hP
    refine wpAny_mono (turn i v m₁ news₁ _ oI hh' tk' hv hJ hoff' F₁ N₂) (fun _ s₃ q => wpAny_mono q (fun f s₂ p => ?_) fun _ _ e => e) fun _ _ e => e
    have fin : EndL h₀ env.locals (J (i + 1)) s.heap.objs.size oI { s with heap := hh', toks := tk' } s₂ → LoopStepU h₀ env.locals [s.heap.objs.size] own (J (i + 1)) { s with heap := hh', toks := tk' } .next s₂ := by
      rintro ⟨h', tk, m', news', e, F', N', ha, hm'⟩
      refine ⟨rfl, h', tk, m', news', e, F', fun p hp => ?_, fun p hp hq => ha p hp (List.mem_singleton.mp hq), hm'⟩
      rcases List.mem_append.mp hp with hp | hp
      · rcases List.mem_cons.mp (hown p hp) with e1 | e1
        · have e2 : p = (s.heap.objs.size, oI) := by
            have e3 := hget p hp
            rw [e1] at e3
            have e4 := (N₁ _ (List.mem_append_left _ hIn)).1
            have e5 : some p.2 = some oI := e3.symm.trans e4
            cases p; simp only at e1 e5 ⊢; rw [e1, Option.some.inj e5]
          rw [e2]; exact N' _ (.head _)
        · have e1' : p.1 = l := List.mem_singleton.mp e1
          have h1 := hl _ _ _ hJ
          have h2 := hl _ _ _ hm'
          have e2 : p = (l, tupU vs) := by
            have e3 := hget p hp
            rw [e1'] at e3
            have e4 := (N₁ _ (List.mem_append_right _ h1)).1
            have e5 := e3.symm.trans e4
            cases p; simp only at e1' e5 ⊢; rw [e1', Option.some.inj e5]
          rw [e2]; exact N' _ (.tail _ h2)
      · exact N' _ (.tail _ hp)
    cases f with
    | ret v => exact .ret p
    | brk => exact .brk p
    | next => exact .next (fin p)
    | cont => exact .cont (fin p)
  · rintro h' tk m' news' F' N' _ hJ
    exact done m' news' h' tk hJ F' N'
theorem iterUN {l : Addr} {vs : List Value} {m₀ : Str → Option Value} {news : List (Addr × Obj)} {x : Str} {px : Pos} (ys : List Str) (J : Nat → List (Addr × Obj) → Prop)
    (hh : A.handled = none) (F : Fr h₀ env.locals s.heap m₀) (N : News h₀ env.locals s.heap news) (hj : J 0 news)
    (hl : ∀ i news₁, J i news₁ → (l, tupU vs) ∈ news₁)
    (turn : ∀ i v m₁ news₁ I oI h tk, vs[i]? = some v → J i news₁ → (∀ z, z ∉ ys → m₁ z = m₀ z) → (∀ p ∈ news₁, p.1 ≠ I) → Fr h₀ env.locals h m₁ → News h₀ env.locals h ((I, oI) :: news₁) →
      wpAny (model prog w) A (assign (.Name x px) env v) (fun _ s₃ => wpAny (model prog w) A (execs body env) (PostN h₀ env.locals ys m₀ (J (i + 1)) I oI { s with heap := h, toks := tk } Q) E s₃) E { s with heap := h, toks := tk })
    (done : ∀ m₁ news₁ h tk, J vs.length news₁ → (∀ z, z ∉ ys → m₁ z = m₀ z) → Fr h₀ env.locals h m₁ → News h₀ env.locals h news₁ → Q .next { s with heap := h, toks := tk }) :
    wpAny (model prog w) A (pyIter (.ref l)) (fun it s₂ => TurnsAt prog w A h₀ env (.Name x px) body Q E it s₂) E s := by
  refine iterU (fun i m₁ n₁ => (∀ z, z ∉ ys → m₁ z = m₀ z) ∧ J i n₁) hh F N ⟨fun _ _ => rfl, hj⟩ (fun i m₁ n₁ h => hl i n₁ h.2) ?_ ?_
  · rintro i v m₁ n₁ I oI h tk hv ⟨hz, hJ⟩ hoff F₁ N₁
    refine wpAny_mono (turn i v m₁ n₁ I oI h tk hv hJ hz hoff F₁ N₁) (fun _ s₃ q => wpAny_mono q (fun f s₂ p => ?_) fun _ _ e => e) fun _ _ e => e
    have fin : EndN h₀ env.locals ys m₀ (J (i + 1)) I oI { s with heap := h, toks := tk } s₂ → EndL h₀ env.locals (fun m₂ n₂ => (∀ z, z ∉ ys → m₂ z = m₀ z) ∧ J (i + 1) n₂) I oI { s with heap := h, toks := tk } s₂ := by
      rintro ⟨h', tk', m', news', e, F', hz', N', ha, hJ'⟩
      exact ⟨h', tk', m', news', e, F', N', ha, hz', hJ'⟩
    cases f with
    | ret v => exact p
    | brk => exact p
    | next => exact fin p
    | cont => exact fin p
  · rintro m₁ n₁ h tk ⟨hz, hJ⟩ F₁ N₁
    exact done m₁ n₁ h tk hJ hz F₁ N₁
end
theorem sliceTake1 (vs : List Value) : (slicePick vs.toArray none (some 1) none).toList = vs.take 1 := by
  have e : sliceBounds none (some 1) none vs.toArray.size = (((0 : Nat) : Int), ((min 1 vs.length : Nat) : Int), 1) := by
    simp only [sliceBounds, Option.getD_none, show (1 : Int) > 0 by decide, if_true, List.size_toArray]
    have e1 : max 0 (min (if (1 : Int) < 0 then 1 + (vs.length : Int) else 1) (vs.length : Int)) = ((min 1 vs.length : Nat) : Int) := by
      rw [if_neg (by omega)]
      omega
    rw [e1]; rfl
  rw [kmk_pick_nat _ e]
  cases vs <;> simp
theorem sliceLast1 (vs : List Value) : (slicePick vs.toArray (some (-1)) none none).toList = vs.drop (vs.length - 1) := by
  have e : sliceBounds (some (-1)) none none vs.toArray.size = (((vs.length - 1 : Nat) : Int), ((vs.length : Nat) : Int), 1) := by
    simp only [sliceBounds, Option.getD_none, show (1 : Int) > 0 by decide, if_true, List.size_toArray]
    rw [if_pos (by omega)]
    congr 1
    · omega
  rw [kmk_pick_nat _ e]
  rw [List.take_of_length_le (by simp)]
end Mine
end
section
open PySem PySem.W PySem.Spec PySem.Calls PyProof.Rows PyProof.Rows.LCg PyProof.Rows.LCt
namespace Mine
theorem fresh_W2 : True := by
  w_top off
  trivial
local macro_rules | `(tactic| k_mem) => `(tactic| first | exact List.mem_cons_self | (refine List.mem_cons_of_mem _ ?_; k_mem))
local macro_rules | `(tactic| k_steps) => `(tactic| repeat' (first | (k_unfold; (try dsimp only)) | (k_end; wrow_close) | walk1 | (dsimp only; walk1) | (dsimp only; k_unfold; (try dsimp only)) | (leave1; walk_say "STEP leave1"; try dsimp only) | fail "no step"))
local macro_rules | `(tactic| walk_at "Hold") => `(tactic| refine stop ?_)
local macro_rules | `(tactic| walk_at "PostL0") => `(tactic| (unfold PostL0; try dsimp only))
local macro_rules | `(tactic| walk_at "EndL0") => `(tactic| refine stop ?_)
local macro_rules | `(tactic| walk_at "PostL") => `(tactic| (unfold PostL; try dsimp only))
local macro_rules | `(tactic| walk_at "EndL") => `(tactic| refine stop ?_)
local macro_rules | `(tactic| walk_at "PostM") => `(tactic| (unfold PostM; try dsimp only))
local macro_rules | `(tactic| walk_at "EndM") => `(tactic| refine stop ?_)
local macro_rules | `(tactic| walk_at "PostT") => `(tactic| (unfold PostT; try dsimp only))
local macro_rules | `(tactic| walk_at "EndT") => `(tactic| refine stop ?_)
local macro_rules | `(tactic| walk_at "pyIter ref") => `(tactic| refine stop ?_)
local macro_rules | `(tactic| ktr_call $_x:term $c:term) => `(tactic| (refine' Ctr.use ?k1 ?k2 ?k3 ?k4 ?k5 ?kK ?kC ?kd ?ku ?_; (case k1 => k_asm); (case k2 => k_asm); (case k3 => k_asm); (case k4 => k_asm); (case k5 => k_asm); (case kK => first | exact rfl | assumption); (case kC => exact $c); (case kd => ktr_room); (case ku => ktr_units)))
local macro_rules | `(tactic| k_room) => `(tactic| ktr_room)
local macro_rules | `(tactic| k_units) => `(tactic| ktr_units)
local macro_rules | `(tactic| k_enter) => `(tactic| first
  | (refine' code_def ?k1 ?k2 ?k3 ?k4 ?k5 ?kA ?kF ?kK ?k6 ?k7 ?k8 ?k9 ?kB ?_ ?c2 ?c3 ?c4 ?c5; (case k2 => k_asm); (case k3 => k_asm); (case k6 => k_is); (case k1 => k_asm); (case k4 => k_asm); (case k5 => k_asm); (case kA => exact rfl); (case kF => exact rfl); (case kK => first | exact rfl | assumption); (case k7 => k_is); (case k8 => ktr_room); (case k9 => first | exact BindsTo.of_eq rfl | exact binds_K (by k_in) rfl (by k_is) rfl rfl rfl | fail "k_enter: no rule for these arguments"); (case c5 => decide); (case kB => exact locs rfl); (case c2 => exact rfl); (case c3 => exact rfl); (case c4 => exact rfl); k_whole; intro g' L' h' FG' F' N' B' X' T'; (try dsimp only); (try k_lift B'); (try k_fold))
  | (refine' code_defC ?k1 ?k2 ?k3 ?k4 ?k5 ?kA ?kF ?kK ?k6 ?k7 ?k8 ?k9 ?kB ?kD ?_ ?c2 ?c3 ?c4; (case k2 => k_asm); (case k3 => k_asm); (case k6 => k_is); (case k1 => k_asm); (case k4 => k_asm); (case k5 => k_asm); (case kA => exact rfl); (case kF => exact rfl); (case kK => first | exact rfl | assumption); (case k7 => k_is); (case k8 => ktr_room); (case k9 => first | exact BindsTo.of_eq rfl | exact binds_K (by k_in) rfl (by k_is) rfl rfl rfl | fail "k_enter: no rule for these arguments"); (case kB => exact rfl); (case kD => decide +kernel); (case c2 => exact rfl); (case c3 => exact rfl); (case c4 => exact rfl); k_whole; intro g' L' h' tk' cells' FG' F' N' Y' B' X' T' l1; (try k_lt l1); k_cells Y'; (try simp only [List.cons_append, List.nil_append] at N'); (try dsimp only); (try k_lift B'); (try k_fold)))
local macro_rules | `(tactic| walk_at "truthy ref") => `(tactic| (k_here; (with_reducible show wpAny _ _ (truthy (Value.ref _)) _ _ _); (refine' kgr_truthy ?N ?m ?c ?d ?f ?_; (case N => k_asm); (case m => k_mem); (case c => rfl); (case d => rfl); (case f => first | omega | ((try simp only [List.length_map, List.length_cons, List.length_nil]); omega))); (try simp only [List.isEmpty_cons, List.isEmpty_nil, Bool.not_false, Bool.not_true])))
local macro_rules | `(tactic| ktr_rel) => `(tactic| (intro p hp; (try simp only [List.nil_append, List.cons_append, List.mem_cons, List.mem_append] at hp ⊢); first | exact hp | (simp [hp]; done) | (rcases hp with hp | hp <;> simp [hp])))
local macro_rules | `(tactic| walk_at "eval Name") => `(tactic| (k_here; k_dflt (refine' nameX_B ?F ?X ?T ?e ?v ?n ?_ ?a ?b; (case a => rfl); (case b => rfl); (case F => k_asm); (case X => k_asm); (case T => k_asm); (case e => k_is); (case v => boot_fast); (case n => decide); k_whole)))
local macro_rules | `(tactic| walk_at "eval Name") => `(tactic| (k_here; k_dflt (refine' nameX_K ?F ?X ?T ?e ?_ ?a ?b; (case a => rfl); (case b => rfl); (case F => k_asm); (case X => k_asm); (case T => k_asm); (case e => k_is); k_whole)))
local macro_rules | `(tactic| walk_at "eval Name") => `(tactic| (k_here; k_dflt (refine' nameX_L ?F ?v ?_ ?a ?b; (case F => k_asm); (case a => rfl); (case b => rfl); (case v => rfl); k_whole)))
local macro_rules | `(tactic| walk_at "ite") => `(tactic| ((with_reducible show ite (true = true) _ _); refine ite_pos rfl ?_))
local macro_rules | `(tactic| walk_at "ite") => `(tactic| ((with_reducible show ite (false = true) _ _); refine ite_neg Bool.false_ne_true ?_))
local macro_rules | `(tactic| walk_at "call builtin:isinstance") => `(tactic| (k_here; k_dflt (refine' isi_call ?k1 ?k2 ?k3 ?k4 ?_; (case k1 => k_in); (case k2 => k_types); (case k3 => k_is); (case k4 => intro e; cases e); k_whole)))
local macro_rules | `(tactic| walk_at "call ref") => `(tactic| (k_here; k_dflt (refine' call_cls ?k1 ?k2 ?k3 ?k4 ?k5 ?k6 ?_; (case k1 => k_asm); (case k2 => k_asm); (case k4 => k_is); (case k3 => k_asm); (case k5 => k_is); (case k6 => k_is); k_whole; intro x' d' h' F' N' l1 l2; (try k_lt l1); (try k_lt2 l2); (try k_sweep); k_enter)))
local macro_rules | `(tactic| walk_at "call ref") => `(tactic| (k_here; k_dflt (refine wpAny_call ?_; k_enter)))
local macro_rules | `(tactic| walk_at "call builtin:isinstance") => `(tactic| (k_here; (with_reducible show wpAny _ _ (call _ [Value.ref _, Value.ref _]) _ _ _); k_dflt (refine' kin_callC ?k1 ?k2 ?k3 ?k4 ?k5 ?k6 ?k7 ?k8 ?k9 ?_; (case k1 => k_in); (case k2 => k_inst); (case k3 => kin_no); (case k4 => k_is); (case k5 => k_is); (case k6 => k_is); (case k7 => k_is); (case k8 => k_is); (case k9 => k_is); k_whole)))
local macro_rules | `(tactic| walk_at "eval Name") => `(tactic| (k_here; k_dflt (refine' nameX_C ?N ?c ?m ?d ?_ ?a ?b; (case a => rfl); (case b => rfl); (case N => k_asm); (case c => rfl); (case m => k_mem); (case d => k_asm); k_whole)))
local macro_rules | `(tactic| walk_at "call builtin:list.append") => `(tactic| (k_here; (with_reducible show wpAny _ _ (call (Value.builtin _) [Value.ref _, _]) _ _ _); k_dflt (refine' append_K ?k1 ?k2 ?k3 ?_ ?z; (case k1 => k_asm); (case k2 => k_asm); (case k3 => k_upd); (case z => (simp only [List.size_toArray]; rw [sizeLine_eq]; omega)); k_whole); intro h' F' N'; (try k_sweep)))
local macro_rules | `(tactic| walk_at "eval ListComp") => `(tactic| (k_here; (with_reducible show wpAny _ _ (eval (Expr.ListComp _ [⟨Expr.Name _ _, _, [], _⟩] _ _) _) _ _ _); k_dflt (refine LCg.ListComp_U (F₀ := by k_asm) (by with_unfolding_all rfl) (by decide) (by rfl) (by decide) (by rfl) ?_)))
local macro_rules | `(tactic| walk_at "eval ListComp") => `(tactic| (k_here; (with_reducible show wpAny _ _ (eval (Expr.ListComp _ [⟨Expr.Name _ _, _, [_], _⟩] _ _) _) _ _ _); k_dflt (refine LCt.ListComp_T (F₀ := by k_asm) (by with_unfolding_all rfl) (by decide) (by rfl) (by decide) (by rfl) ?_)))
local macro_rules | `(tactic| walk_at "CompSrc") => `(tactic| refine stop ?_)
local macro_rules | `(tactic| walk_at "CompSrcT") => `(tactic| refine stop ?_)
local macro_rules | `(tactic| walk_at "CompEnd") => `(tactic| refine stop ?_)
local macro_rules | `(tactic| lsm_bools) => `(tactic| exact boolsMap _ _)
local macro_rules | `(tactic| lsm_list) => `(tactic| exact News.isList (by k_asm) (by k_mem))
local macro_rules | `(tactic| walk_at "exec For Name Name cons nil") => `(tactic| (k_here; (rename Fr _ _ _ _ => lF'); (with_unfolding_all refine' For_turns lF' ?_; k_whole)))
local macro_rules | `(tactic| walk_at "call builtin:len") => `(tactic| (k_here; (with_reducible show wpAny _ _ (call (Value.builtin "len") [Value.ref _]) _ _ _); (refine' lenLed ?N ?m ?f ?_; (case N => k_asm); (case m => k_mem); (case f => first | omega | ((try simp only [List.length_map, List.length_cons, List.length_nil]); omega))); (try simp only [List.length_cons, List.length_nil])))
local macro_rules | `(tactic| walk_at "subscriptTail Name Slice ref ref") => `(tactic| (k_here; (with_reducible show wpAny _ _ (subscriptTail _ (PySem.Expr.Slice _ _ none _) (Value.ref _) (Value.ref _)) _ _ _); k_dflt (refine' kmk_slice_lit ?F ?N ?l ?p ?q ?e ?_ ?s ?t ?z; (case F => k_asm); (case N => k_asm); (case l => exact News.isList (by k_asm) (by k_mem)); (case p => kmk_part); (case q => kmk_part); (case e => exact slice1 _ _); (case s => with_unfolding_all rfl); (case t => kmk_pure); (case z => (simp only [List.size_toArray, List.length_cons]; rw [sizeLine_eq]; omega))); intro D' h' F' N' l1; (try k_lt l1); (try k_sweep)))
local macro_rules | `(tactic| lcg_sub) => `(tactic| first | assumption | (refine List.mem_cons_of_mem _ ?_; lcg_sub))
local macro_rules | `(tactic| lcg_off) => `(tactic| ((try dsimp only); first | assumption | k_all | exact allLt3 (by assumption) | exact allLt3 (tb_ltOf (‹_ ∧ AllLt _ _›).2) | exact allLt3 (tb_ltOf (‹_ ∧ _ ∧ AllLt _ _›).2.2) | exact allLt3 (tb_ltOf (‹_ ∧ _ ∧ _ ∧ AllLt _ _›).2.2.2) | exact allLt2 (by assumption) (by assumption) | exact allLt2 (by assumption) (tb_ltOf (‹_ ∧ AllLt _ _›).2) | exact allLt2 (by assumption) (tb_ltOf (‹_ ∧ _ ∧ AllLt _ _›).2.2) | exact allLt2 (by assumption) (tb_ltOf (‹_ ∧ _ ∧ _ ∧ AllLt _ _›).2.2.2)))
local macro_rules | `(tactic| lcg_src) => `(tactic| first | exact Pre.nil' | (refine Pre.cons' ?_ ?_; lcg_off; lcg_src))
local macro_rules | `(tactic| walk_at "PostN") => `(tactic| (unfold PostN; try dsimp only))
local macro_rules | `(tactic| walk_at "EndN") => `(tactic| refine stop ?_)
local macro_rules | `(tactic| k_all) => `(tactic| assumption)
local macro_rules | `(tactic| walk_at "eval Call") => `(tactic| ((with_reducible show wpAny _ _ (eval (Expr.Call (Expr.Name _ _) [_, _, _] [] _) _) _ _ _); k_dflt (refine Call_ ?_)))
local macro_rules | `(tactic| walk_at "call ref") => `(tactic| ((with_reducible show wpAny _ _ (call (Value.ref 45) _ _) _ _ _); refine stop ?_))
local macro_rules | `(tactic| walk_at "call ref") => `(tactic| ((with_reducible show wpAny _ _ (call (Value.ref 669) _ _) _ _ _); refine stop ?_))
local macro_rules | `(tactic| walk_at "call ref") => `(tactic| ((with_reducible show wpAny _ _ (call (Value.ref 712) _ _) _ _ _); refine stop ?_))
local macro_rules | `(tactic| walk_at "call ref") => `(tactic| ((with_reducible show wpAny _ _ (call (Value.ref 717) _ _) _ _ _); refine stop ?_))
local macro_rules | `(tactic| walk_at "call ref") => `(tactic| ((with_reducible show wpAny _ _ (call (Value.ref 548) _ _) _ _ _); refine stop ?_))
local macro_rules | `(tactic| walk_at "call type:range") => `(tactic| refine stop ?_)
local macro_rules | `(tactic| walk_at "eval Name") => `(tactic| (k_here; k_dflt (refine' nameX_L ?F ?v ?_ ?a ?b; (case F => k_asm); (case a => rfl); (case b => rfl); (case v => assumption); k_whole)))
local macro_rules | `(tactic| walk_at "exec For Name Call cons nil") => `(tactic| (k_here; (rename Fr _ _ _ _ => lF'); (with_unfolding_all refine' For_turns lF' ?_; k_whole)))
local macro_rules | `(tactic| walk_at "subscriptTail") => `(tactic| ((with_reducible show wpAny _ _ (subscriptTail _ _ (Value.ref _) (Value.int _ _)) _ _ _); refine stop ?_))
local macro_rules | `(tactic| k_mem) => `(tactic| first | exact List.mem_cons_self | (refine List.mem_cons_of_mem _ ?_; k_mem) | assumption)
local macro_rules | `(tactic| walk_at "compareOp NotEq ref ref") => `(tactic| refine stop ?_)
local macro_rules | `(tactic| walk_at "compareOp Eq ref ref") => `(tactic| refine stop ?_)
local macro_rules | `(tactic| walk_at "call ref") => `(tactic| ((with_reducible show wpAny _ _ (call (Value.ref _) [Value.ref _] []) _ _ _); refine stop ?_))
local macro_rules | `(tactic| walk_at "callWith ref") => `(tactic| (k_here; k_dflt (refine' callWith_F ?k1 ?_; (case k1 => exact UnFn.fnAt (by k_asm) (by assumption)); k_whole)))
local macro_rules | `(tactic| walk_at "FnAt") => `(tactic| (k_dflt (exact UnFn.fnAt (by k_asm) (by assumption))))
theorem check_pc {w : World} {news : List (Addr × Obj)} {a : WA} {f lt rd : Addr} {pt : List PC} {fd : List (Addr × List PC)} (U : UnFn w news f) (W : WorldAt w news a) (ht : ConsAt w news a lt pt) (hpt : pt.length ≤ 2) (hfd : FoundAt news rd fd)
    (heq : unC [pt.map (·.2)] = fd.map fun x => x.2.map (·.2)) :
    Pc w 15 [] news (fun L m => m (Str.ofString "told") = some (.ref lt) ∧ m (Str.ofString "due") = some (.ref rd) ∧ m (Str.ofString "unlike") = some (.ref f)) (fun _ _ => True) := by
  unfold Pc
  k_fill
  intro lb ls st p loose mean mg mb fa h₀ L m s Q E hlaw hst hE B F X N T ⟨hm1, hm2, hm3⟩ hret
  refine' LawIs.elim hlaw ?k6 ?_
  (case k6 => k_is)
  rintro rfl rfl
  clear hlaw
  cases hst
  have U2 : ∀ e : Addr × Obj, UnFn w (e :: news) f := fun e => U.mono fun q hq => .tail _ hq
  k_steps
  · exact UnFn.fnAt (by k_asm) (U2 _)
  rename_i b9 _ F9 N9 lb9
  refine Stop.mk ?_
  ktr_call 0 (unlike_ctr (rows := [(lt, pt)]) (U2 _) (W.mono fun q hq => .tail _ hq) (.head _) (List.forall_mem_cons.mpr ⟨⟨ht.mono fun q hq => .tail _ hq, hpt⟩, fun _ h => (nomatch h)⟩) (by simp))
  rintro rX tl1 h1 tk1 F1 N1 hl1 ⟨r1, fs, rfl, fo1, he1⟩
  k_steps
  refine Stop.mk ?_
  refine ne_found N1 (l := rd) (x := r1) (fs := fd) (gs := fs) (hfd.mono fun q hq => List.mem_append_right _ (.tail _ hq)) (fo1.mono fun q hq => List.mem_append_left _ hq) (by ktr_units) ?_
  rw [he1, ← heq, decide_eq_false (fun h => h rfl)]
  k_steps
  refine hret (tl1 ++ [(b9, PySem.W.listOf #[Value.ref lt] 0)]) _ _ m F1 (fun _ _ => rfl) (by rw [List.append_assoc]; exact N1) ?_ trivial
  intro q hq p hp
  rcases List.mem_append.mp hp with hp | hp
  · exact hl1 q (.tail _ hq) p hp
  · rw [List.mem_singleton.mp hp]
    exact Nat.ne_of_lt (lb9 q hq)
end Mine
end
section
open PySem PySem.W PySem.Spec PySem.Calls PyProof.Rows PyProof.Rows.LCg PyProof.Rows.LCt
namespace Mine
theorem fresh_W3 : True := by
  w_top off
  trivial
local macro_rules | `(tactic| k_mem) => `(tactic| first | exact List.mem_cons_self | (refine List.mem_cons_of_mem _ ?_; k_mem))
local macro_rules | `(tactic| k_steps) => `(tactic| repeat' (first | (k_unfold; (try dsimp only)) | (k_end; wrow_close) | walk1 | (dsimp only; walk1) | (dsimp only; k_unfold; (try dsimp only)) | (leave1; walk_say "STEP leave1"; try dsimp only) | fail "no step"))
local macro_rules | `(tactic| walk_at "Hold") => `(tactic| refine stop ?_)
local macro_rules | `(tactic| walk_at "PostL0") => `(tactic| (unfold PostL0; try dsimp only))
local macro_rules | `(tactic| walk_at "EndL0") => `(tactic| refine stop ?_)
local macro_rules | `(tactic| walk_at "PostL") => `(tactic| (unfold PostL; try dsimp only))
local macro_rules | `(tactic| walk_at "EndL") => `(tactic| refine stop ?_)
local macro_rules | `(tactic| walk_at "PostM") => `(tactic| (unfold PostM; try dsimp only))
local macro_rules | `(tactic| walk_at "EndM") => `(tactic| refine stop ?_)
local macro_rules | `(tactic| walk_at "PostT") => `(tactic| (unfold PostT; try dsimp only))
local macro_rules | `(tactic| walk_at "EndT") => `(tactic| refine stop ?_)
local macro_rules | `(tactic| walk_at "pyIter ref") => `(tactic| refine stop ?_)
local macro_rules | `(tactic| ktr_call $_x:term $c:term) => `(tactic| (refine' Ctr.use ?k1 ?k2 ?k3 ?k4 ?k5 ?kK ?kC ?kd ?ku ?_; (case k1 => k_asm); (case k2 => k_asm); (case k3 => k_asm); (case k4 => k_asm); (case k5 => k_asm); (case kK => first | exact rfl | assumption); (case kC => exact $c); (case kd => ktr_room); (case ku => ktr_units)))
local macro_rules | `(tactic| k_room) => `(tactic| ktr_room)
local macro_rules | `(tactic| k_units) => `(tactic| ktr_units)
local macro_rules | `(tactic| k_enter) => `(tactic| first
  | (refine' code_def ?k1 ?k2 ?k3 ?k4 ?k5 ?kA ?kF ?kK ?k6 ?k7 ?k8 ?k9 ?kB ?_ ?c2 ?c3 ?c4 ?c5; (case k2 => k_asm); (case k3 => k_asm); (case k6 => k_is); (case k1 => k_asm); (case k4 => k_asm); (case k5 => k_asm); (case kA => exact rfl); (case kF => exact rfl); (case kK => first | exact rfl | assumption); (case k7 => k_is); (case k8 => ktr_room); (case k9 => first | exact BindsTo.of_eq rfl | exact binds_K (by k_in) rfl (by k_is) rfl rfl rfl | fail "k_enter: no rule for these arguments"); (case c5 => decide); (case kB => exact locs rfl); (case c2 => exact rfl); (case c3 => exact rfl); (case c4 => exact rfl); k_whole; intro g' L' h' FG' F' N' B' X' T'; (try dsimp only); (try k_lift B'); (try k_fold))
  | (refine' code_defC ?k1 ?k2 ?k3 ?k4 ?k5 ?kA ?kF ?kK ?k6 ?k7 ?k8 ?k9 ?kB ?kD ?_ ?c2 ?c3 ?c4; (case k2 => k_asm); (case k3 => k_asm); (case k6 => k_is); (case k1 => k_asm); (case k4 => k_asm); (case k5 => k_asm); (case kA => exact rfl); (case kF => exact rfl); (case kK => first | exact rfl | assumption); (case k7 => k_is); (case k8 => ktr_room); (case k9 => first | exact BindsTo.of_eq rfl | exact binds_K (by k_in) rfl (by k_is) rfl rfl rfl | fail "k_enter: no rule for these arguments"); (case kB => exact rfl); (case kD => decide +kernel); (case c2 => exact rfl); (case c3 => exact rfl); (case c4 => exact rfl); k_whole; intro g' L' h' tk' cells' FG' F' N' Y' B' X' T' l1; (try k_lt l1); k_cells Y'; (try simp only [List.cons_append, List.nil_append] at N'); (try dsimp only); (try k_lift B'); (try k_fold)))
local macro_rules | `(tactic| walk_at "truthy ref") => `(tactic| (k_here; (with_reducible show wpAny _ _ (truthy (Value.ref _)) _ _ _); (refine' kgr_truthy ?N ?m ?c ?d ?f ?_; (case N => k_asm); (case m => k_mem); (case c => rfl); (case d => rfl); (case f => first | omega | ((try simp only [List.length_map, List.length_cons, List.length_nil]); omega))); (try simp only [List.isEmpty_cons, List.isEmpty_nil, Bool.not_false, Bool.not_true])))
local macro_rules | `(tactic| ktr_rel) => `(tactic| (intro p hp; (try simp only [List.nil_append, List.cons_append, List.mem_cons, List.mem_append] at hp ⊢); first | exact hp | (simp [hp]; done) | (rcases hp with hp | hp <;> simp [hp])))
local macro_rules | `(tactic| walk_at "eval Name") => `(tactic| (k_here; k_dflt (refine' nameX_B ?F ?X ?T ?e ?v ?n ?_ ?a ?b; (case a => rfl); (case b => rfl); (case F => k_asm); (case X => k_asm); (case T => k_asm); (case e => k_is); (case v => boot_fast); (case n => decide); k_whole)))
local macro_rules | `(tactic| walk_at "eval Name") => `(tactic| (k_here; k_dflt (refine' nameX_K ?F ?X ?T ?e ?_ ?a ?b; (case a => rfl); (case b => rfl); (case F => k_asm); (case X => k_asm); (case T => k_asm); (case e => k_is); k_whole)))
local macro_rules | `(tactic| walk_at "eval Name") => `(tactic| (k_here; k_dflt (refine' nameX_L ?F ?v ?_ ?a ?b; (case F => k_asm); (case a => rfl); (case b => rfl); (case v => rfl); k_whole)))
local macro_rules | `(tactic| walk_at "ite") => `(tactic| ((with_reducible show ite (true = true) _ _); refine ite_pos rfl ?_))
local macro_rules | `(tactic| walk_at "ite") => `(tactic| ((with_reducible show ite (false = true) _ _); refine ite_neg Bool.false_ne_true ?_))
local macro_rules | `(tactic| walk_at "call builtin:isinstance") => `(tactic| (k_here; k_dflt (refine' isi_call ?k1 ?k2 ?k3 ?k4 ?_; (case k1 => k_in); (case k2 => k_types); (case k3 => k_is); (case k4 => intro e; cases e); k_whole)))
local macro_rules | `(tactic| walk_at "call ref") => `(tactic| (k_here; k_dflt (refine' call_cls ?k1 ?k2 ?k3 ?k4 ?k5 ?k6 ?_; (case k1 => k_asm); (case k2 => k_asm); (case k4 => k_is); (case k3 => k_asm); (case k5 => k_is); (case k6 => k_is); k_whole; intro x' d' h' F' N' l1 l2; (try k_lt l1); (try k_lt2 l2); (try k_sweep); k_enter)))
local macro_rules | `(tactic| walk_at "call ref") => `(tactic| (k_here; k_dflt (refine wpAny_call ?_; k_enter)))
local macro_rules | `(tactic| walk_at "call builtin:isinstance") => `(tactic| (k_here; (with_reducible show wpAny _ _ (call _ [Value.ref _, Value.ref _]) _ _ _); k_dflt (refine' kin_callC ?k1 ?k2 ?k3 ?k4 ?k5 ?k6 ?k7 ?k8 ?k9 ?_; (case k1 => k_in); (case k2 => k_inst); (case k3 => kin_no); (case k4 => k_is); (case k5 => k_is); (case k6 => k_is); (case k7 => k_is); (case k8 => k_is); (case k9 => k_is); k_whole)))
local macro_rules | `(tactic| walk_at "eval Name") => `(tactic| (k_here; k_dflt (refine' nameX_C ?N ?c ?m ?d ?_ ?a ?b; (case a => rfl); (case b => rfl); (case N => k_asm); (case c => rfl); (case m => k_mem); (case d => k_asm); k_whole)))
local macro_rules | `(tactic| walk_at "call builtin:list.append") => `(tactic| (k_here; (with_reducible show wpAny _ _ (call (Value.builtin _) [Value.ref _, _]) _ _ _); k_dflt (refine' append_K ?k1 ?k2 ?k3 ?_ ?z; (case k1 => k_asm); (case k2 => k_asm); (case k3 => k_upd); (case z => (simp only [List.size_toArray]; rw [sizeLine_eq]; omega)); k_whole); intro h' F' N'; (try k_sweep)))
local macro_rules | `(tactic| walk_at "eval ListComp") => `(tactic| (k_here; (with_reducible show wpAny _ _ (eval (Expr.ListComp _ [⟨Expr.Name _ _, _, [], _⟩] _ _) _) _ _ _); k_dflt (refine LCg.ListComp_U (F₀ := by k_asm) (by with_unfolding_all rfl) (by decide) (by rfl) (by decide) (by rfl) ?_)))
local macro_rules | `(tactic| walk_at "eval ListComp") => `(tactic| (k_here; (with_reducible show wpAny _ _ (eval (Expr.ListComp _ [⟨Expr.Name _ _, _, [_], _⟩] _ _) _) _ _ _); k_dflt (refine LCt.ListComp_T (F₀ := by k_asm) (by with_unfolding_all rfl) (by decide) (by rfl) (by decide) (by rfl) ?_)))
local macro_rules | `(tactic| walk_at "CompSrc") => `(tactic| refine stop ?_)
local macro_rules | `(tactic| walk_at "CompSrcT") => `(tactic| refine stop ?_)
local macro_rules | `(tactic| walk_at "CompEnd") => `(tactic| refine stop ?_)
local macro_rules | `(tactic| lsm_bools) => `(tactic| exact boolsMap _ _)
local macro_rules | `(tactic| lsm_list) => `(tactic| exact News.isList (by k_asm) (by k_mem))
local macro_rules | `(tactic| walk_at "exec For Name Name cons nil") => `(tactic| (k_here; (rename Fr _ _ _ _ => lF'); (with_unfolding_all refine' For_turns lF' ?_; k_whole)))
local macro_rules | `(tactic| walk_at "call builtin:len") => `(tactic| (k_here; (with_reducible show wpAny _ _ (call (Value.builtin "len") [Value.ref _]) _ _ _); (refine' lenLed ?N ?m ?f ?_; (case N => k_asm); (case m => k_mem); (case f => first | omega | ((try simp only [List.length_map, List.length_cons, List.length_nil]); omega))); (try simp only [List.length_cons, List.length_nil])))
local macro_rules | `(tactic| walk_at "subscriptTail Name Slice ref ref") => `(tactic| (k_here; (with_reducible show wpAny _ _ (subscriptTail _ (PySem.Expr.Slice _ _ none _) (Value.ref _) (Value.ref _)) _ _ _); k_dflt (refine' kmk_slice_lit ?F ?N ?l ?p ?q ?e ?_ ?s ?t ?z; (case F => k_asm); (case N => k_asm); (case l => exact News.isList (by k_asm) (by k_mem)); (case p => kmk_part); (case q => kmk_part); (case e => exact slice1 _ _); (case s => with_unfolding_all rfl); (case t => kmk_pure); (case z => (simp only [List.size_toArray, List.length_cons]; rw [sizeLine_eq]; omega))); intro D' h' F' N' l1; (try k_lt l1); (try k_sweep)))
local macro_rules | `(tactic| lcg_sub) => `(tactic| first | assumption | (refine List.mem_cons_of_mem _ ?_; lcg_sub))
local macro_rules | `(tactic| lcg_off) => `(tactic| ((try dsimp only); first | assumption | k_all | exact allLt3 (by assumption) | exact allLt3 (tb_ltOf (‹_ ∧ AllLt _ _›).2) | exact allLt3 (tb_ltOf (‹_ ∧ _ ∧ AllLt _ _›).2.2) | exact allLt3 (tb_ltOf (‹_ ∧ _ ∧ _ ∧ AllLt _ _›).2.2.2) | exact allLt2 (by assumption) (by assumption) | exact allLt2 (by assumption) (tb_ltOf (‹_ ∧ AllLt _ _›).2) | exact allLt2 (by assumption) (tb_ltOf (‹_ ∧ _ ∧ AllLt _ _›).2.2) | exact allLt2 (by assumption) (tb_ltOf (‹_ ∧ _ ∧ _ ∧ AllLt _ _›).2.2.2)))
local macro_rules | `(tactic| lcg_src) => `(tactic| first | exact Pre.nil' | (refine Pre.cons' ?_ ?_; lcg_off; lcg_src))
local macro_rules | `(tactic| walk_at "PostN") => `(tactic| (unfold PostN; try dsimp only))
local macro_rules | `(tactic| walk_at "EndN") => `(tactic| refine stop ?_)
local macro_rules | `(tactic| k_all) => `(tactic| assumption)
local macro_rules | `(tactic| walk_at "eval Call") => `(tactic| ((with_reducible show wpAny _ _ (eval (Expr.Call (Expr.Name _ _) [_, _, _] [] _) _) _ _ _); k_dflt (refine Call_ ?_)))
local macro_rules | `(tactic| walk_at "call ref") => `(tactic| ((with_reducible show wpAny _ _ (call (Value.ref 45) _ _) _ _ _); refine stop ?_))
local macro_rules | `(tactic| walk_at "call ref") => `(tactic| ((with_reducible show wpAny _ _ (call (Value.ref 669) _ _) _ _ _); refine stop ?_))
local macro_rules | `(tactic| walk_at "call ref") => `(tactic| ((with_reducible show wpAny _ _ (call (Value.ref 712) _ _) _ _ _); refine stop ?_))
local macro_rules | `(tactic| walk_at "call ref") => `(tactic| ((with_reducible show wpAny _ _ (call (Value.ref 717) _ _) _ _ _); refine stop ?_))
local macro_rules | `(tactic| walk_at "call ref") => `(tactic| ((with_reducible show wpAny _ _ (call (Value.ref 548) _ _) _ _ _); refine stop ?_))
local macro_rules | `(tactic| walk_at "call type:range") => `(tactic| refine stop ?_)
local macro_rules | `(tactic| walk_at "eval Name") => `(tactic| (k_here; k_dflt (refine' nameX_L ?F ?v ?_ ?a ?b; (case F => k_asm); (case a => rfl); (case b => rfl); (case v => assumption); k_whole)))
local macro_rules | `(tactic| walk_at "exec For Name Call cons nil") => `(tactic| (k_here; (rename Fr _ _ _ _ => lF'); (with_unfolding_all refine' For_turns lF' ?_; k_whole)))
local macro_rules | `(tactic| walk_at "subscriptTail") => `(tactic| ((with_reducible show wpAny _ _ (subscriptTail _ _ (Value.ref _) (Value.int _ _)) _ _ _); refine stop ?_))
local macro_rules | `(tactic| k_mem) => `(tactic| first | exact List.mem_cons_self | (refine List.mem_cons_of_mem _ ?_; k_mem) | assumption)
local macro_rules | `(tactic| walk_at "compareOp NotEq ref ref") => `(tactic| refine stop ?_)
local macro_rules | `(tactic| walk_at "compareOp Eq ref ref") => `(tactic| refine stop ?_)
local macro_rules | `(tactic| walk_at "call ref") => `(tactic| ((with_reducible show wpAny _ _ (call (Value.ref _) [Value.ref _] []) _ _ _); refine stop ?_))
local macro_rules | `(tactic| walk_at "callWith ref") => `(tactic| (k_here; k_dflt (refine' callWith_F ?k1 ?_; (case k1 => exact UnFn.fnAt (by k_asm) (by assumption)); k_whole)))
local macro_rules | `(tactic| walk_at "FnAt") => `(tactic| (k_dflt (exact UnFn.fnAt (by k_asm) (by assumption))))
local macro_rules | `(tactic| walk_at "binaryOp Add ref ref") => `(tactic| refine stop ?_)
local macro_rules | `(tactic| walk_at "call type:list") => `(tactic| refine stop ?_)
local macro_rules | `(tactic| walk_at "call type:reversed") => `(tactic| refine stop ?_)
local macro_rules | `(tactic| walk_at "subscriptTail Name Slice ref ref") => `(tactic| refine stop ?_)
local macro_rules | `(tactic| walk_at "exec For Name Tuple cons nil") => `(tactic| (k_here; (rename Fr _ _ _ _ => lF'); (with_unfolding_all refine' For_turns lF' ?_; k_whole)))
def MoreJ (news : List (Addr × Obj)) (_i : Nat) (n₁ : List (Addr × Obj)) : Prop := ∃ tl, n₁ = tl ++ news ∧ ∀ q ∈ news, ∀ p ∈ tl, q.1 ≠ p.1
def MoreLoop (w : World) (f rd : Addr) (news : List (Addr × Obj)) (t : Addr) (vs : List Value) (eager : Bool) : Prop :=
  ∀ (lb : List Stmt) (ls : Scope) (x : Str) (px : Pos) (iter : Expr) (body : List Stmt) (pos : Pos) (p : Program) (loose : List Str) (mean : ExcName → Option Value) (mg mb : Str → Option Value) (fa : Addr) (h₀ : Heap) (L : Addr) (m : Str → Option Value) (s : Shared) (Q : Flow → Shared → Prop) (E : Value → Shared → Prop),
    LawIs w lb ls → lb[16]? = some (.For (.Name x px) iter body [] pos) → Below callerA h₀ [] h₀ → Fr h₀ L s.heap m → (hd.heap_39 w.params).In h₀ → News h₀ L s.heap news → Top p loose mean mg mb h₀ →
    m (Str.ofString "due") = some (.ref rd) → m (Str.ofString "unlike") = some (.ref f) → EagerAt news L eager →
    (∀ (tl : List (Addr × Obj)) (h' : Heap) (tk' : Nat) (m' : Str → Option Value), Fr h₀ L h' m' → (∀ z, z ∉ [Str.ofString "more"] → m' z = m z) → News h₀ L h' (tl ++ news) → (∀ q ∈ news, ∀ p ∈ tl, q.1 ≠ p.1) → Q .next { s with heap := h', toks := tk' }) →
    wpAny (model PySem.Challenge.rw_ft0022_01.row.prog w) (lawA ls L fa) (pyIter (.ref t)) (fun it s₂ => TurnsAt PySem.Challenge.rw_ft0022_01.row.prog w (lawA ls L fa) h₀ (lawE ls L fa) (.Name x px) body Q E it s₂) E s
theorem more_loop {w : World} {news : List (Addr × Obj)} {a : WA} {f rd t : Addr} {vs : List Value} {fd : List (Addr × List PC)} {eager : Bool} (U : UnFn w news f) (W : WorldAt w news a) (hfd : FoundAt news rd fd) (ht : (t, tupU vs) ∈ news)
    (hv : ∀ v ∈ vs, ∃ l ws, v = .ref l ∧ WaysAt w news a l ws ∧ ws.length ≤ 10 ∧ (∀ x, some x ∈ ws → x.2.length ≤ 2) ∧ dueC eager (ws.map ct) = fd.map fun x => x.2.map (·.2)) : MoreLoop w f rd news t vs eager := by
  unfold MoreLoop
  k_fill
  intro lb ls x px iter body pos p loose mean mg mb fa h₀ L m s Q E hlaw hst B F X N T hm2 hm3 ⟨oc, hc1, hc2⟩ hret
  refine' LawIs.elim hlaw ?k6 ?_
  (case k6 => k_is)
  rintro rfl rfl
  clear hlaw
  cases hst
  refine iterUN [Str.ofString "more"] (MoreJ news) rfl F N ⟨[], rfl, fun _ _ _ h => (nomatch h)⟩ (fun i n₁ ⟨tl, e, _⟩ => by rw [e]; exact List.mem_append_right _ ht) ?_ ?_
  · rintro i v m₁ n₁ I oI h2 tk2 hvi ⟨tl1, rfl, ap1⟩ hz1 hoff F2 N2
    obtain ⟨l, ws, rfl, hw, hlen, hlens, hdue⟩ := hv v (List.mem_of_getElem? hvi)
    have c1 : m₁ (Str.ofString "due") = some (.ref rd) := (hz1 _ (by decide)).trans hm2
    have c2 : m₁ (Str.ofString "unlike") = some (.ref f) := (hz1 _ (by decide)).trans hm3
    have hS : ∀ q ∈ news, q ∈ (I, oI) :: (tl1 ++ news) := fun q hq => .tail _ (List.mem_append_right _ hq)
    have U2 := U.mono hS
    have hc3 := hS _ hc1
    k_steps
    refine Stop.mk ?_
    ktr_call 0 (any_all (W.mono hS) (hw.mono hS) (by omega) (fun x hx => Nat.le_trans (hlens x hx) (by omega)))
    rintro rX tlA hA tkA FA NA hlA ⟨lt, pt, rfl, at1, at2⟩
    have hpt : pt.length ≤ 2 := by
      have h9 := congrArg List.length at2
      have h8 := anyC_len (eager := eager) (ks := ws.map ct) (fun c hc => by
        obtain ⟨k, hk, e⟩ := List.mem_map.mp hc
        cases k with
        | none => cases e
        | some y => cases e; rw [List.length_map]; exact hlens y hk)
      simp only [List.length_map] at h9
      omega
    have heq2 : unC [pt.map (·.2)] = fd.map fun x => x.2.map (·.2) := by
      rw [at2, any_due (fun c hc => by
        obtain ⟨k, hk, e⟩ := List.mem_map.mp hc
        cases k with
        | none => cases e
        | some y => cases e; rw [List.length_map]; exact hlens y hk)]
      exact hdue
    have hT : ∀ (e : Addr × Obj), ∀ q ∈ news, q ∈ e :: (tlA ++ ((I, oI) :: (tl1 ++ news))) := fun e q hq => .tail _ (List.mem_append_right _ (hS q hq))
    k_steps
    · exact UnFn.fnAt (by k_asm) (U.mono (hT _))
    rename_i b9 _ F9 N9 lb9
    refine Stop.mk ?_
    ktr_call 0 (unlike_ctr (rows := [(lt, pt)]) (U.mono (hT _)) (W.mono (hT _)) (.head _) (List.forall_mem_cons.mpr ⟨⟨at1.mono fun q hq => .tail _ hq, hpt⟩, fun _ h => (nomatch h)⟩) (by simp))
    rintro rX tlU hU tkU FU NU hlU ⟨r1, fs, rfl, fo1, he1⟩
    k_steps
    refine Stop.mk ?_
    refine ne_found NU (l := rd) (x := r1) (fs := fd) (gs := fs) (hfd.mono fun q hq => List.mem_append_right _ (hT _ q hq)) (fo1.mono fun q hq => List.mem_append_left _ hq) (by ktr_units) ?_
    rw [he1, show unC ([(lt, pt)].map fun r => r.2.map (·.2)) = fd.map (fun x => x.2.map (·.2)) from heq2, decide_eq_false (fun h => h rfl)]
    k_steps
    refine Stop.mk ?_
    refine EndN.intro (by k_asm) (newsSub NU (b := (I, oI) :: ((tlU ++ ((b9, PySem.W.listOf #[Value.ref lt] 0) :: (tlA ++ tl1))) ++ news)) ?_) ?_ ?_ ⟨tlU ++ ((b9, PySem.W.listOf #[Value.ref lt] 0) :: (tlA ++ tl1)), rfl, ?_⟩
    · intro q hq
      simp only [List.mem_cons, List.mem_append] at hq ⊢
      rcases hq with hq | (hq | hq | hq | hq) | hq <;> simp [hq]
    · intro z hz
      have h9 := hz1 z hz
      simp only [List.mem_cons, List.not_mem_nil, or_false] at hz
      simp only [hz, if_false]
      exact h9
    · intro q hq
      simp only [List.mem_cons, List.mem_append] at hq
      have hIm : (I, oI) ∈ tlA ++ ((I, oI) :: (tl1 ++ news)) := List.mem_append_right _ (.head _)
      rcases hq with (hq | hq | hq | hq) | hq
      · exact fun e => hlU (I, oI) (.tail _ hIm) q hq e.symm
      · rw [hq]; exact Nat.ne_of_gt (lb9 _ hIm)
      · exact fun e => hlA (I, oI) (.head _) q hq e.symm
      · exact hoff q (List.mem_append_left _ hq)
      · exact hoff q (List.mem_append_right _ hq)
    · intro q hq p hp
      have hqm := hT (b9, PySem.W.listOf #[Value.ref lt] 0) q hq
      simp only [List.mem_cons, List.mem_append] at hp
      rcases hp with hp | hp | hp | hp
      · exact hlU q hqm p hp
      · rw [hp]; exact Nat.ne_of_lt (lb9 q (List.mem_append_right _ (hS q hq)))
      · exact hlA q (hS q hq) p hp
      · exact ap1 q hq p hp
  · rintro m₁ n₁ h2 tk2 ⟨tl1, rfl, ap1⟩ hz1 F2 N2
    exact hret tl1 _ _ _ F2 hz1 N2 ap1
end Mine
end
section
open PySem PySem.W PySem.Spec PySem.Calls PyProof.Rows PyProof.Rows.LCg PyProof.Rows.LCt
namespace Mine
theorem fresh_W4 : True := by
  w_top off
  trivial
local macro_rules | `(tactic| k_mem) => `(tactic| first | exact List.mem_cons_self | (refine List.mem_cons_of_mem _ ?_; k_mem))
local macro_rules | `(tactic| k_steps) => `(tactic| repeat' (first | (k_unfold; (try dsimp only)) | (k_end; wrow_close) | walk1 | (dsimp only; walk1) | (dsimp only; k_unfold; (try dsimp only)) | (leave1; walk_say "STEP leave1"; try dsimp only) | fail "no step"))
local macro_rules | `(tactic| walk_at "Hold") => `(tactic| refine stop ?_)
local macro_rules | `(tactic| walk_at "PostL0") => `(tactic| (unfold PostL0; try dsimp only))
local macro_rules | `(tactic| walk_at "EndL0") => `(tactic| refine stop ?_)
local macro_rules | `(tactic| walk_at "PostL") => `(tactic| (unfold PostL; try dsimp only))
local macro_rules | `(tactic| walk_at "EndL") => `(tactic| refine stop ?_)
local macro_rules | `(tactic| walk_at "PostM") => `(tactic| (unfold PostM; try dsimp only))
local macro_rules | `(tactic| walk_at "EndM") => `(tactic| refine stop ?_)
local macro_rules | `(tactic| walk_at "PostT") => `(tactic| (unfold PostT; try dsimp only))
local macro_rules | `(tactic| walk_at "EndT") => `(tactic| refine stop ?_)
local macro_rules | `(tactic| walk_at "pyIter ref") => `(tactic| refine stop ?_)
local macro_rules | `(tactic| ktr_call $_x:term $c:term) => `(tactic| (refine' Ctr.use ?k1 ?k2 ?k3 ?k4 ?k5 ?kK ?kC ?kd ?ku ?_; (case k1 => k_asm); (case k2 => k_asm); (case k3 => k_asm); (case k4 => k_asm); (case k5 => k_asm); (case kK => first | exact rfl | assumption); (case kC => exact $c); (case kd => ktr_room); (case ku => ktr_units)))
local macro_rules | `(tactic| k_room) => `(tactic| ktr_room)
local macro_rules | `(tactic| k_units) => `(tactic| ktr_units)
local macro_rules | `(tactic| k_enter) => `(tactic| first
  | (refine' code_def ?k1 ?k2 ?k3 ?k4 ?k5 ?kA ?kF ?kK ?k6 ?k7 ?k8 ?k9 ?kB ?_ ?c2 ?c3 ?c4 ?c5; (case k2 => k_asm); (case k3 => k_asm); (case k6 => k_is); (case k1 => k_asm); (case k4 => k_asm); (case k5 => k_asm); (case kA => exact rfl); (case kF => exact rfl); (case kK => first | exact rfl | assumption); (case k7 => k_is); (case k8 => ktr_room); (case k9 => first | exact BindsTo.of_eq rfl | exact binds_K (by k_in) rfl (by k_is) rfl rfl rfl | fail "k_enter: no rule for these arguments"); (case c5 => decide); (case kB => exact locs rfl); (case c2 => exact rfl); (case c3 => exact rfl); (case c4 => exact rfl); k_whole; intro g' L' h' FG' F' N' B' X' T'; (try dsimp only); (try k_lift B'); (try k_fold))
  | (refine' code_defC ?k1 ?k2 ?k3 ?k4 ?k5 ?kA ?kF ?kK ?k6 ?k7 ?k8 ?k9 ?kB ?kD ?_ ?c2 ?c3 ?c4; (case k2 => k_asm); (case k3 => k_asm); (case k6 => k_is); (case k1 => k_asm); (case k4 => k_asm); (case k5 => k_asm); (case kA => exact rfl); (case kF => exact rfl); (case kK => first | exact rfl | assumption); (case k7 => k_is); (case k8 => ktr_room); (case k9 => first | exact BindsTo.of_eq rfl | exact binds_K (by k_in) rfl (by k_is) rfl rfl rfl | fail "k_enter: no rule for these arguments"); (case kB => exact rfl); (case kD => decide +kernel); (case c2 => exact rfl); (case c3 => exact rfl); (case c4 => exact rfl); k_whole; intro g' L' h' tk' cells' FG' F' N' Y' B' X' T' l1; (try k_lt l1); k_cells Y'; (try simp only [List.cons_append, List.nil_append] at N'); (try dsimp only); (try k_lift B'); (try k_fold)))
local macro_rules | `(tactic| walk_at "truthy ref") => `(tactic| (k_here; (with_reducible show wpAny _ _ (truthy (Value.ref _)) _ _ _); (refine' kgr_truthy ?N ?m ?c ?d ?f ?_; (case N => k_asm); (case m => k_mem); (case c => rfl); (case d => rfl); (case f => first | omega | ((try simp only [List.length_map, List.length_cons, List.length_nil]); omega))); (try simp only [List.isEmpty_cons, List.isEmpty_nil, Bool.not_false, Bool.not_true])))
local macro_rules | `(tactic| ktr_rel) => `(tactic| (intro p hp; (try simp only [List.nil_append, List.cons_append, List.mem_cons, List.mem_append] at hp ⊢); first | exact hp | (simp [hp]; done) | (rcases hp with hp | hp <;> simp [hp])))
local macro_rules | `(tactic| walk_at "eval Name") => `(tactic| (k_here; k_dflt (refine' nameX_B ?F ?X ?T ?e ?v ?n ?_ ?a ?b; (case a => rfl); (case b => rfl); (case F => k_asm); (case X => k_asm); (case T => k_asm); (case e => k_is); (case v => boot_fast); (case n => decide); k_whole)))
local macro_rules | `(tactic| walk_at "eval Name") => `(tactic| (k_here; k_dflt (refine' nameX_K ?F ?X ?T ?e ?_ ?a ?b; (case a => rfl); (case b => rfl); (case F => k_asm); (case X => k_asm); (case T => k_asm); (case e => k_is); k_whole)))
local macro_rules | `(tactic| walk_at "eval Name") => `(tactic| (k_here; k_dflt (refine' nameX_L ?F ?v ?_ ?a ?b; (case F => k_asm); (case a => rfl); (case b => rfl); (case v => rfl); k_whole)))
local macro_rules | `(tactic| walk_at "ite") => `(tactic| ((with_reducible show ite (true = true) _ _); refine ite_pos rfl ?_))
local macro_rules | `(tactic| walk_at "ite") => `(tactic| ((with_reducible show ite (false = true) _ _); refine ite_neg Bool.false_ne_true ?_))
local macro_rules | `(tactic| walk_at "call builtin:isinstance") => `(tactic| (k_here; k_dflt (refine' isi_call ?k1 ?k2 ?k3 ?k4 ?_; (case k1 => k_in); (case k2 => k_types); (case k3 => k_is); (case k4 => intro e; cases e); k_whole)))
local macro_rules | `(tactic| walk_at "call ref") => `(tactic| (k_here; k_dflt (refine' call_cls ?k1 ?k2 ?k3 ?k4 ?k5 ?k6 ?_; (case k1 => k_asm); (case k2 => k_asm); (case k4 => k_is); (case k3 => k_asm); (case k5 => k_is); (case k6 => k_is); k_whole; intro x' d' h' F' N' l1 l2; (try k_lt l1); (try k_lt2 l2); (try k_sweep); k_enter)))
local macro_rules | `(tactic| walk_at "call ref") => `(tactic| (k_here; k_dflt (refine wpAny_call ?_; k_enter)))
local macro_rules | `(tactic| walk_at "call builtin:isinstance") => `(tactic| (k_here; (with_reducible show wpAny _ _ (call _ [Value.ref _, Value.ref _]) _ _ _); k_dflt (refine' kin_callC ?k1 ?k2 ?k3 ?k4 ?k5 ?k6 ?k7 ?k8 ?k9 ?_; (case k1 => k_in); (case k2 => k_inst); (case k3 => kin_no); (case k4 => k_is); (case k5 => k_is); (case k6 => k_is); (case k7 => k_is); (case k8 => k_is); (case k9 => k_is); k_whole)))
local macro_rules | `(tactic| walk_at "eval Name") => `(tactic| (k_here; k_dflt (refine' nameX_C ?N ?c ?m ?d ?_ ?a ?b; (case a => rfl); (case b => rfl); (case N => k_asm); (case c => rfl); (case m => k_mem); (case d => k_asm); k_whole)))
local macro_rules | `(tactic| walk_at "call builtin:list.append") => `(tactic| (k_here; (with_reducible show wpAny _ _ (call (Value.builtin _) [Value.ref _, _]) _ _ _); k_dflt (refine' append_K ?k1 ?k2 ?k3 ?_ ?z; (case k1 => k_asm); (case k2 => k_asm); (case k3 => k_upd); (case z => (simp only [List.size_toArray]; rw [sizeLine_eq]; omega)); k_whole); intro h' F' N'; (try k_sweep)))
local macro_rules | `(tactic| walk_at "eval ListComp") => `(tactic| (k_here; (with_reducible show wpAny _ _ (eval (Expr.ListComp _ [⟨Expr.Name _ _, _, [], _⟩] _ _) _) _ _ _); k_dflt (refine LCg.ListComp_U (F₀ := by k_asm) (by with_unfolding_all rfl) (by decide) (by rfl) (by decide) (by rfl) ?_)))
local macro_rules | `(tactic| walk_at "eval ListComp") => `(tactic| (k_here; (with_reducible show wpAny _ _ (eval (Expr.ListComp _ [⟨Expr.Name _ _, _, [_], _⟩] _ _) _) _ _ _); k_dflt (refine LCt.ListComp_T (F₀ := by k_asm) (by with_unfolding_all rfl) (by decide) (by rfl) (by decide) (by rfl) ?_)))
local macro_rules | `(tactic| walk_at "CompSrc") => `(tactic| refine stop ?_)
local macro_rules | `(tactic| walk_at "CompSrcT") => `(tactic| refine stop ?_)
local macro_rules | `(tactic| walk_at "CompEnd") => `(tactic| refine stop ?_)
local macro_rules | `(tactic| lsm_bools) => `(tactic| exact boolsMap _ _)
local macro_rules | `(tactic| lsm_list) => `(tactic| exact News.isList (by k_asm) (by k_mem))
local macro_rules | `(tactic| walk_at "exec For Name Name cons nil") => `(tactic| (k_here; (rename Fr _ _ _ _ => lF'); (with_unfolding_all refine' For_turns lF' ?_; k_whole)))
local macro_rules | `(tactic| walk_at "call builtin:len") => `(tactic| (k_here; (with_reducible show wpAny _ _ (call (Value.builtin "len") [Value.ref _]) _ _ _); (refine' lenLed ?N ?m ?f ?_; (case N => k_asm); (case m => k_mem); (case f => first | omega | ((try simp only [List.length_map, List.length_cons, List.length_nil]); omega))); (try simp only [List.length_cons, List.length_nil])))
local macro_rules | `(tactic| walk_at "subscriptTail Name Slice ref ref") => `(tactic| (k_here; (with_reducible show wpAny _ _ (subscriptTail _ (PySem.Expr.Slice _ _ none _) (Value.ref _) (Value.ref _)) _ _ _); k_dflt (refine' kmk_slice_lit ?F ?N ?l ?p ?q ?e ?_ ?s ?t ?z; (case F => k_asm); (case N => k_asm); (case l => exact News.isList (by k_asm) (by k_mem)); (case p => kmk_part); (case q => kmk_part); (case e => exact slice1 _ _); (case s => with_unfolding_all rfl); (case t => kmk_pure); (case z => (simp only [List.size_toArray, List.length_cons]; rw [sizeLine_eq]; omega))); intro D' h' F' N' l1; (try k_lt l1); (try k_sweep)))
local macro_rules | `(tactic| lcg_sub) => `(tactic| first | assumption | (refine List.mem_cons_of_mem _ ?_; lcg_sub))
local macro_rules | `(tactic| lcg_off) => `(tactic| ((try dsimp only); first | assumption | k_all | exact allLt3 (by assumption) | exact allLt3 (tb_ltOf (‹_ ∧ AllLt _ _›).2) | exact allLt3 (tb_ltOf (‹_ ∧ _ ∧ AllLt _ _›).2.2) | exact allLt3 (tb_ltOf (‹_ ∧ _ ∧ _ ∧ AllLt _ _›).2.2.2) | exact allLt2 (by assumption) (by assumption) | exact allLt2 (by assumption) (tb_ltOf (‹_ ∧ AllLt _ _›).2) | exact allLt2 (by assumption) (tb_ltOf (‹_ ∧ _ ∧ AllLt _ _›).2.2) | exact allLt2 (by assumption) (tb_ltOf (‹_ ∧ _ ∧ _ ∧ AllLt _ _›).2.2.2)))
local macro_rules | `(tactic| lcg_src) => `(tactic| first | exact Pre.nil' | (refine Pre.cons' ?_ ?_; lcg_off; lcg_src))
local macro_rules | `(tactic| walk_at "PostN") => `(tactic| (unfold PostN; try dsimp only))
local macro_rules | `(tactic| walk_at "EndN") => `(tactic| refine stop ?_)
local macro_rules | `(tactic| k_all) => `(tactic| assumption)
local macro_rules | `(tactic| walk_at "eval Call") => `(tactic| ((with_reducible show wpAny _ _ (eval (Expr.Call (Expr.Name _ _) [_, _, _] [] _) _) _ _ _); k_dflt (refine Call_ ?_)))
local macro_rules | `(tactic| walk_at "call ref") => `(tactic| ((with_reducible show wpAny _ _ (call (Value.ref 45) _ _) _ _ _); refine stop ?_))
local macro_rules | `(tactic| walk_at "call ref") => `(tactic| ((with_reducible show wpAny _ _ (call (Value.ref 669) _ _) _ _ _); refine stop ?_))
local macro_rules | `(tactic| walk_at "call ref") => `(tactic| ((with_reducible show wpAny _ _ (call (Value.ref 712) _ _) _ _ _); refine stop ?_))
local macro_rules | `(tactic| walk_at "call ref") => `(tactic| ((with_reducible show wpAny _ _ (call (Value.ref 717) _ _) _ _ _); refine stop ?_))
local macro_rules | `(tactic| walk_at "call ref") => `(tactic| ((with_reducible show wpAny _ _ (call (Value.ref 548) _ _) _ _ _); refine stop ?_))
local macro_rules | `(tactic| walk_at "call type:range") => `(tactic| refine stop ?_)
local macro_rules | `(tactic| walk_at "eval Name") => `(tactic| (k_here; k_dflt (refine' nameX_L ?F ?v ?_ ?a ?b; (case F => k_asm); (case a => rfl); (case b => rfl); (case v => assumption); k_whole)))
local macro_rules | `(tactic| walk_at "exec For Name Call cons nil") => `(tactic| (k_here; (rename Fr _ _ _ _ => lF'); (with_unfolding_all refine' For_turns lF' ?_; k_whole)))
local macro_rules | `(tactic| walk_at "subscriptTail") => `(tactic| ((with_reducible show wpAny _ _ (subscriptTail _ _ (Value.ref _) (Value.int _ _)) _ _ _); refine stop ?_))
local macro_rules | `(tactic| k_mem) => `(tactic| first | exact List.mem_cons_self | (refine List.mem_cons_of_mem _ ?_; k_mem) | assumption)
local macro_rules | `(tactic| walk_at "compareOp NotEq ref ref") => `(tactic| refine stop ?_)
local macro_rules | `(tactic| walk_at "compareOp Eq ref ref") => `(tactic| refine stop ?_)
local macro_rules | `(tactic| walk_at "call ref") => `(tactic| ((with_reducible show wpAny _ _ (call (Value.ref _) [Value.ref _] []) _ _ _); refine stop ?_))
local macro_rules | `(tactic| walk_at "callWith ref") => `(tactic| (k_here; k_dflt (refine' callWith_F ?k1 ?_; (case k1 => exact UnFn.fnAt (by k_asm) (by assumption)); k_whole)))
local macro_rules | `(tactic| walk_at "FnAt") => `(tactic| (k_dflt (exact UnFn.fnAt (by k_asm) (by assumption))))
local macro_rules | `(tactic| walk_at "binaryOp Add ref ref") => `(tactic| refine stop ?_)
local macro_rules | `(tactic| walk_at "call type:list") => `(tactic| refine stop ?_)
local macro_rules | `(tactic| walk_at "call type:reversed") => `(tactic| refine stop ?_)
local macro_rules | `(tactic| walk_at "subscriptTail Name Slice ref ref") => `(tactic| refine stop ?_)
local macro_rules | `(tactic| walk_at "exec For Name Tuple cons nil") => `(tactic| (k_here; (rename Fr _ _ _ _ => lF'); (with_unfolding_all refine' For_turns lF' ?_; k_whole)))
theorem more_tail {w : World} {news : List (Addr × Obj)} {a : WA} {f rd : Addr} {ws : List WayV} {fd : List (Addr × List PC)} {eager : Bool} (U : UnFn w news f) (W : WorldAt w news a) (ho2 : ∀ v ∈ ws, WayIn w news a v) (hlen : ws.length ≤ 4) (hlens : ∀ x, some x ∈ ws → x.2.length ≤ 2) (hfd : FoundAt news rd fd)
    (heq : dueC eager (ws.map ct) = fd.map fun x => x.2.map (·.2)) {lb : List Stmt} {ls : Scope} {x : Str} {px : Pos} {iter : Expr} {body : List Stmt} {pos : Pos} {p : Program} {loose : List Str} {mean : ExcName → Option Value} {mg mb : Str → Option Value} {fa : Addr} {h₀ : Heap} {L : Addr} {m : Str → Option Value} {s : Shared} {Q : Flow → Shared → Prop} {E : Value → Shared → Prop}
    (hlaw : LawIs w lb ls) (hst : lb[16]? = some (.For (.Name x px) iter body [] pos)) (B : Below callerA h₀ [] h₀) (X : (hd.heap_39 w.params).In h₀) (T : Top p loose mean mg mb h₀) (hm2 : m (Str.ofString "due") = some (.ref rd)) (hm3 : m (Str.ofString "unlike") = some (.ref f)) {oc : Obj} (hc1 : (L + 1, oc) ∈ news) (hc2 : oc.data = .cell (some (.bool eager)))
    (hret : ∀ (tl : List (Addr × Obj)) (h' : Heap) (tk' : Nat) (m' : Str → Option Value), Fr h₀ L h' m' → (∀ z, z ∉ [Str.ofString "more"] → m' z = m z) → News h₀ L h' (tl ++ news) → (∀ q ∈ news, ∀ p ∈ tl, q.1 ≠ p.1) → True → Q .next { s with heap := h', toks := tk' })
    (K : List (Addr × Obj)) (D1 D2 D3 D4 D5 : Addr) (ws5 : List WayV) (n3 : Nat) (h9 : Heap) (tk9 : Nat) (t : Addr) (F9 : Fr h₀ L h9 m) (N9 : News h₀ L h9 (K ++ news)) (ap9 : ∀ q ∈ news, ∀ p ∈ K, q.1 ≠ p.1) (it : (t, tupU [.ref D1, .ref D2, .ref D3, .ref D4, .ref D5]) ∈ K)
    (i1 : (D1, PySem.W.listOf ([Value.none] ++ ws.map wayVal).toArray 0) ∈ K) (i2 : (D2, PySem.W.listOf (ws.map wayVal ++ [Value.none]).toArray 0) ∈ K) (i3 : (D3, PySem.W.listOf (ws.map wayVal).reverse.toArray n3) ∈ K) (i4 : (D4, PySem.W.listOf (ws.map wayVal ++ (ws.map wayVal).take 1).toArray 0) ∈ K) (i5 : (D5, PySem.W.listOf (ws5.map wayVal).toArray 0) ∈ K)
    (l5 : ws5.length ≤ 10) (j1 : ∀ v ∈ ws, v ∈ ws5) (j2 : ∀ v ∈ ws5, v ∈ ws ∨ (WayIn w K a v ∧ (∀ x, v = some x → x.2.length ≤ 2) ∧ keepC eager (ct v) = none ∧ keepC eager (filC (ct v)) = none)) :
    wpAny (model PySem.Challenge.rw_ft0022_01.row.prog w) (lawA ls L fa) (pyIter (.ref t)) (fun it s₂ => TurnsAt PySem.Challenge.rw_ft0022_01.row.prog w (lawA ls L fa) h₀ (lawE ls L fa) (.Name x px) body Q E it s₂) E { s with heap := h9, toks := tk9 } := by
  have e1 : ([Value.none] ++ ws.map wayVal) = ((none : WayV) :: ws).map wayVal := rfl
  have e2 : (ws.map wayVal ++ [Value.none]) = (ws ++ [(none : WayV)]).map wayVal := by simp [wayVal]
  have e3 : (ws.map wayVal).reverse = ws.reverse.map wayVal := by simp
  have e4 : (ws.map wayVal ++ (ws.map wayVal).take 1) = (ws ++ ws.take 1).map wayVal := by simp
  have hnone : keepC eager (ct none) = none ∧ keepC eager (filC (ct none)) = none := ⟨rfl, rfl⟩
  have hS : ∀ q ∈ news, q ∈ K ++ news := fun q hq => List.mem_append_right _ hq
  have hK : ∀ q ∈ K, q ∈ K ++ news := fun q hq => List.mem_append_left _ hq
  refine more_loop (U.mono hS) (W.mono hS) (hfd.mono hS) (hK _ it) (eager := eager) ?_ _ _ _ _ _ _ _ _ _ _ _ _ _ _ _ _ _ _ _ hlaw hst B F9 X N9 T hm2 hm3 ⟨oc, hS _ hc1, hc2⟩ ?_
  · have item : ∀ (D : Addr) (ws' : List WayV) (n : Nat), (D, PySem.W.listOf (ws'.map wayVal).toArray n) ∈ K → ws'.length ≤ 10 → (∀ v ∈ ws, v ∈ ws') → (∀ v ∈ ws', v ∈ ws ∨ (WayIn w K a v ∧ (∀ x, v = some x → x.2.length ≤ 2) ∧ keepC eager (ct v) = none ∧ keepC eager (filC (ct v)) = none)) →
        ∃ l ws'', Value.ref D = .ref l ∧ WaysAt w (K ++ news) a l ws'' ∧ ws''.length ≤ 10 ∧ (∀ x, some x ∈ ws'' → x.2.length ≤ 2) ∧ dueC eager (ws''.map ct) = fd.map fun x => x.2.map (·.2) := by
      intro D ws' n hm hl g1 g2
      refine ⟨D, ws', rfl, ⟨⟨n, hK _ hm⟩, fun v hv => ?_⟩, hl, fun x hx => ?_, ?_⟩
      · rcases g2 v hv with g | g
        · exact (ho2 v g).mono hS
        · exact g.1.mono hK
      · rcases g2 _ hx with g | g
        · exact hlens x g
        · exact g.2.1 x rfl
      · rw [← heq]
        refine due_congr (fun k hk => ?_) fun k hk => ?_
        · obtain ⟨v, hv, rfl⟩ := List.mem_map.mp hk
          exact List.mem_map_of_mem (g1 v hv)
        · obtain ⟨v, hv, rfl⟩ := List.mem_map.mp hk
          rcases g2 v hv with g | g
          · exact .inl (List.mem_map_of_mem g)
          · exact .inr g.2.2
    have nn : (WayIn w K a none ∧ (∀ x, (none : WayV) = some x → x.2.length ≤ 2) ∧ keepC eager (ct none) = none ∧ keepC eager (filC (ct none)) = none) := ⟨trivial, nofun, rfl, rfl⟩
    rw [e1] at i1
    rw [e2] at i2
    rw [e3] at i3
    rw [e4] at i4
    refine List.forall_mem_cons.mpr ⟨item D1 _ _ i1 (by simp; omega) (fun v hv => .tail _ hv) (fun v hv => ?_), List.forall_mem_cons.mpr ⟨item D2 _ _ i2 (by simp; omega) (fun v hv => List.mem_append_left _ hv) (fun v hv => ?_), List.forall_mem_cons.mpr ⟨item D3 _ _ i3 (by simp; omega) (fun v hv => List.mem_reverse.mpr hv) (fun v hv => .inl (List.mem_reverse.mp hv)),
      List.forall_mem_cons.mpr ⟨item D4 _ _ i4 (by simp; omega) (fun v hv => List.mem_append_left _ hv) (fun v hv => ?_), List.forall_mem_cons.mpr ⟨item D5 _ _ i5 l5 j1 j2, fun _ h => (nomatch h)⟩⟩⟩⟩⟩
    · rcases List.mem_cons.mp hv with rfl | hv
      · exact .inr nn
      · exact .inl hv
    · rcases List.mem_append.mp hv with hv | hv
      · exact .inl hv
      · rw [List.mem_singleton.mp hv]; exact .inr nn
    · rcases List.mem_append.mp hv with hv | hv
      · exact .inl hv
      · exact .inl (List.mem_of_mem_take hv)
  · intro tl h' tk' m' F' hz N' ap
    refine hret (tl ++ K) h' tk' m' F' hz (by rw [List.append_assoc]; exact N') (fun q hq p hp => ?_) trivial
    rcases List.mem_append.mp hp with hp | hp
    · exact ap q (hS q hq) p hp
    · exact ap9 q hq p hp
theorem more_pc {w : World} {news : List (Addr × Obj)} {a : WA} {f o rd : Addr} {ws : List WayV} {fd : List (Addr × List PC)} {eager : Bool} (U : UnFn w news f) (W : WorldAt w news a) (hw : WaysAt w news a o ws) (hlen : ws.length ≤ 4) (hlens : ∀ x, some x ∈ ws → x.2.length ≤ 2) (hfd : FoundAt news rd fd)
    (heq : dueC eager (ws.map ct) = fd.map fun x => x.2.map (·.2)) :
    Pc w 16 [Str.ofString "more"] news (fun L m => m (Str.ofString "ways") = some (.ref o) ∧ m (Str.ofString "due") = some (.ref rd) ∧ m (Str.ofString "unlike") = some (.ref f) ∧ EagerAt news L eager) (fun _ _ => True) := by
  unfold Pc
  k_fill
  intro lb ls st p loose mean mg mb fa h₀ L m s Q E hlaw hst hE B F X N T ⟨hm1, hm2, hm3, oc, hc1, hc2⟩ hret
  have hlaw2 := hlaw
  refine' LawIs.elim hlaw ?k6 ?_
  (case k6 => k_is)
  rintro rfl rfl
  clear hlaw
  cases hst
  obtain ⟨⟨no, ho1⟩, ho2⟩ := hw
  k_steps
  rename_i x1 _ F1 N1 lx1
  refine Stop.mk ?_
  have hwl : (ws.map wayVal).length ≤ 4 := by rw [List.length_map]; exact hlen
  refine addLed (vs := [.none]) (ws := ws.map wayVal) F1 N1 (.head _) (.tail _ ho1) (by simp only [List.length_singleton]; omega) ?_
  intro D1 h1 F2 N2 lD1
  k_steps
  rename_i x2 _ F3 N3 lx2
  refine Stop.mk ?_
  refine addLed (vs := ws.map wayVal) (ws := [.none]) F3 N3 (.tail _ (.tail _ (.tail _ ho1))) (.head _) (by simp only [List.length_singleton]; omega) ?_
  intro D2 h2 F4 N4 lD2
  k_steps
  refine Stop.mk ?_
  refine krv_reversed F4 N4 (News.isList N4 (.tail _ (.tail _ (.tail _ (.tail _ ho1))))) ?_
  intro D3r h3 F5 N5 lD3r
  k_steps
  refine Stop.mk ?_
  refine listRev (vs := ws.map wayVal) rfl F5 N5 (fun p hp => Nat.ne_of_lt (lD3r p hp)) (.tail _ (.tail _ (.tail _ (.tail _ ho1)))) (by omega) ?_
  intro D3 h4 n3 tk3 F6 N6 lD3
  clear N5 F5 lD3r
  k_steps
  refine Stop.mk ?_
  k_dflt (refine' kmk_slice_lit ?yF ?yN ?yl ?yp ?yq ?ye ?_ ?ys ?yt ?yz; (case yF => exact F6); (case yN => exact N6); (case yl => exact News.isList N6 (.tail _ (.tail _ (.tail _ (.tail _ (.tail _ ho1)))))); (case yp => kmk_part); (case yq => kmk_part); (case ye => exact sliceTake1 _); (case ys => with_unfolding_all rfl); (case yt => kmk_pure); (case yz => (rw [List.size_toArray, sizeLine_eq]; omega)))
  intro S4 h5 F7 N7 lS4
  k_steps
  refine Stop.mk ?_
  refine addLed (vs := ws.map wayVal) (ws := (ws.map wayVal).take 1) F7 N7 (.tail _ (.tail _ (.tail _ (.tail _ (.tail _ (.tail _ ho1)))))) (.head _) (by rw [List.length_take]; omega) ?_
  intro D4 h6 F8 N8 lD4
  have base : ∀ q ∈ news, @Ne Nat q.1 x1 ∧ @Ne Nat q.1 D1 ∧ @Ne Nat q.1 x2 ∧ @Ne Nat q.1 D2 ∧ @Ne Nat q.1 D3 ∧ @Ne Nat q.1 S4 ∧ @Ne Nat q.1 D4 := by
    intro q hq
    refine ⟨Nat.ne_of_lt (lx1 q hq), Nat.ne_of_lt (lD1 q (.tail _ hq)), Nat.ne_of_lt (tb_ltOf lx2.2.2 q hq), Nat.ne_of_lt (lD2 q (.tail _ (.tail _ (.tail _ hq)))), Nat.ne_of_lt (lD3 q (.tail _ (.tail _ (.tail _ (.tail _ hq))))), Nat.ne_of_lt (lS4 q (.tail _ (.tail _ (.tail _ (.tail _ (.tail _ hq)))))), Nat.ne_of_lt (lD4 q (.tail _ (.tail _ (.tail _ (.tail _ (.tail _ (.tail _ hq)))))))⟩
  k_steps
  · rename_i he x5 _ lx5 y5 _ F9 N9 ly5
    subst he
    refine Stop.mk ?_
    refine addLed (vs := ws.map wayVal) (ws := [.ref x5]) F9 N9 (.tail _ (.tail _ (.tail _ (.tail _ (.tail _ (.tail _ (.tail _ (.tail _ (.tail _ ho1))))))))) (.head _) (by simp only [List.length_singleton]; omega) ?_
    intro D5 h7 F10 N10 lD5
    k_steps
    rename_i t _ F11 N11 lt
    refine Stop.mk ?_
    refine more_tail (eager := true) U W ho2 hlen hlens hfd heq hlaw2 rfl B X T hm2 hm3 hc1 hc2 hret [(t, tupU [.ref D1, .ref D2, .ref D3, .ref D4, .ref D5]), (D5, _), (y5, _), (x5, _), (D4, _), (S4, _), (D3, _), (D2, _), (x2, _), (D1, _), (x1, _)] D1 D2 D3 D4 D5 (ws ++ [some (x5, [])]) n3 _ _ t F11 N11 ?_ (.head _) (by k_mem) (by k_mem) (by k_mem) (by k_mem) ?_ (by simp; omega) (fun v hv => List.mem_append_left _ hv) ?_
    · intro q hq
      obtain ⟨b1, b2, b3, b4, b5, b6, b7⟩ := base q hq
      simp only [List.forall_mem_cons]
      exact ⟨Nat.ne_of_lt (tb_ltOf lt.2.2.2.2.2.2.2.2.2.2 q hq), Nat.ne_of_lt (lD5 q (.tail _ (.tail _ (.tail _ (.tail _ (.tail _ (.tail _ (.tail _ (.tail _ (.tail _ hq)))))))))), Nat.ne_of_lt (tb_ltOf ly5.2.2.2.2.2.2.2.2 q hq), Nat.ne_of_lt (tb_ltOf lx5.2.2.2.2.2.2.2 q hq), b7, b6, b5, b4, b3, b2, b1, fun _ h => (nomatch h)⟩
    · rw [List.map_append]; exact .tail _ (.head _)
    · intro v hv
      rcases List.mem_append.mp hv with hv | hv
      · exact .inl hv
      · rw [List.mem_singleton.mp hv]
        exact .inr ⟨⟨⟨0, by k_mem⟩, fun _ h => (nomatch h)⟩, fun x hx => by cases hx; exact Nat.zero_le _, rfl, rfl⟩
  · rename_i he
    subst he
    refine Stop.mk ?_
    k_dflt (refine' kmk_slice_lit ?yF ?yN ?yl ?yp ?yq ?ye ?_ ?ys ?yt ?yz; (case yF => exact F8); (case yN => exact N8); (case yl => exact News.isList N8 (.tail _ (.tail _ (.tail _ (.tail _ (.tail _ (.tail _ (.tail _ ho1)))))))); (case yp => kmk_part); (case yq => kmk_part); (case ye => exact sliceLast1 _); (case ys => with_unfolding_all rfl); (case yt => kmk_pure); (case yz => (rw [List.size_toArray, sizeLine_eq]; omega)))
    intro x5 h6b F9 N9 lx5
    k_steps
    refine Stop.mk ?_
    refine addLed (vs := ws.map wayVal) (ws := (ws.map wayVal).drop ((ws.map wayVal).length - 1)) F9 N9 (.tail _ (.tail _ (.tail _ (.tail _ (.tail _ (.tail _ (.tail _ (.tail _ ho1)))))))) (.head _) (by rw [List.length_drop]; omega) ?_
    intro D5 h7 F10 N10 lD5
    k_steps
    rename_i t _ F11 N11 lt
    refine Stop.mk ?_
    refine more_tail (eager := false) U W ho2 hlen hlens hfd heq hlaw2 rfl B X T hm2 hm3 hc1 hc2 hret [(t, tupU [.ref D1, .ref D2, .ref D3, .ref D4, .ref D5]), (D5, _), (x5, _), (D4, _), (S4, _), (D3, _), (D2, _), (x2, _), (D1, _), (x1, _)] D1 D2 D3 D4 D5 (ws ++ ws.drop ((ws.map wayVal).length - 1)) n3 _ _ t F11 N11 ?_ (.head _) (by k_mem) (by k_mem) (by k_mem) (by k_mem) ?_ (by simp; omega) (fun v hv => List.mem_append_left _ hv) ?_
    · intro q hq
      obtain ⟨b1, b2, b3, b4, b5, b6, b7⟩ := base q hq
      simp only [List.forall_mem_cons]
      exact ⟨Nat.ne_of_lt (tb_ltOf lt.2.2.2.2.2.2.2.2.2 q hq), Nat.ne_of_lt (lD5 q (.tail _ (.tail _ (.tail _ (.tail _ (.tail _ (.tail _ (.tail _ (.tail _ hq))))))))), Nat.ne_of_lt (lx5 q (.tail _ (.tail _ (.tail _ (.tail _ (.tail _ (.tail _ (.tail _ hq)))))))), b7, b6, b5, b4, b3, b2, b1, fun _ h => (nomatch h)⟩
    · rw [List.map_append, List.map_drop]; exact .tail _ (.head _)
    · intro v hv
      rcases List.mem_append.mp hv with hv | hv
      · exact .inl hv
      · exact .inl (List.mem_of_mem_drop hv)
end Mine
end
section
open PySem PySem.W PySem.Spec PySem.Calls PyProof.Rows PyProof.Rows.LCg PyProof.Rows.LCt
namespace Mine
theorem fresh_W0 : True := by
  w_top off
  trivial
local macro_rules | `(tactic| k_mem) => `(tactic| first | exact List.mem_cons_self | (refine List.mem_cons_of_mem _ ?_; k_mem))
local macro_rules | `(tactic| k_steps) => `(tactic| repeat' (first | (k_unfold; (try dsimp only)) | (k_end; wrow_close) | walk1 | (dsimp only; walk1) | (dsimp only; k_unfold; (try dsimp only)) | (leave1; walk_say "STEP leave1"; try dsimp only) | fail "no step"))
local macro_rules | `(tactic| walk_at "Hold") => `(tactic| refine stop ?_)
local macro_rules | `(tactic| walk_at "PostL0") => `(tactic| (unfold PostL0; try dsimp only))
local macro_rules | `(tactic| walk_at "EndL0") => `(tactic| refine stop ?_)
local macro_rules | `(tactic| walk_at "PostL") => `(tactic| (unfold PostL; try dsimp only))
local macro_rules | `(tactic| walk_at "EndL") => `(tactic| refine stop ?_)
local macro_rules | `(tactic| walk_at "PostM") => `(tactic| (unfold PostM; try dsimp only))
local macro_rules | `(tactic| walk_at "EndM") => `(tactic| refine stop ?_)
local macro_rules | `(tactic| walk_at "PostT") => `(tactic| (unfold PostT; try dsimp only))
local macro_rules | `(tactic| walk_at "EndT") => `(tactic| refine stop ?_)
local macro_rules | `(tactic| walk_at "pyIter ref") => `(tactic| refine stop ?_)
local macro_rules | `(tactic| ktr_call $_x:term $c:term) => `(tactic| (refine' Ctr.use ?k1 ?k2 ?k3 ?k4 ?k5 ?kK ?kC ?kd ?ku ?_; (case k1 => k_asm); (case k2 => k_asm); (case k3 => k_asm); (case k4 => k_asm); (case k5 => k_asm); (case kK => first | exact rfl | assumption); (case kC => exact $c); (case kd => ktr_room); (case ku => ktr_units)))
local macro_rules | `(tactic| k_room) => `(tactic| ktr_room)
local macro_rules | `(tactic| k_units) => `(tactic| ktr_units)
local macro_rules | `(tactic| k_enter) => `(tactic| first
  | (refine' code_def ?k1 ?k2 ?k3 ?k4 ?k5 ?kA ?kF ?kK ?k6 ?k7 ?k8 ?k9 ?kB ?_ ?c2 ?c3 ?c4 ?c5; (case k2 => k_asm); (case k3 => k_asm); (case k6 => k_is); (case k1 => k_asm); (case k4 => k_asm); (case k5 => k_asm); (case kA => exact rfl); (case kF => exact rfl); (case kK => first | exact rfl | assumption); (case k7 => k_is); (case k8 => ktr_room); (case k9 => first | exact BindsTo.of_eq rfl | exact binds_K (by k_in) rfl (by k_is) rfl rfl rfl | fail "k_enter: no rule for these arguments"); (case c5 => decide); (case kB => exact locs rfl); (case c2 => exact rfl); (case c3 => exact rfl); (case c4 => exact rfl); k_whole; intro g' L' h' FG' F' N' B' X' T'; (try dsimp only); (try k_lift B'); (try k_fold))
  | (refine' code_defC ?k1 ?k2 ?k3 ?k4 ?k5 ?kA ?kF ?kK ?k6 ?k7 ?k8 ?k9 ?kB ?kD ?_ ?c2 ?c3 ?c4; (case k2 => k_asm); (case k3 => k_asm); (case k6 => k_is); (case k1 => k_asm); (case k4 => k_asm); (case k5 => k_asm); (case kA => exact rfl); (case kF => exact rfl); (case kK => first | exact rfl | assumption); (case k7 => k_is); (case k8 => ktr_room); (case k9 => first | exact BindsTo.of_eq rfl | exact binds_K (by k_in) rfl (by k_is) rfl rfl rfl | fail "k_enter: no rule for these arguments"); (case kB => exact rfl); (case kD => decide +kernel); (case c2 => exact rfl); (case c3 => exact rfl); (case c4 => exact rfl); k_whole; intro g' L' h' tk' cells' FG' F' N' Y' B' X' T' l1; (try k_lt l1); k_cells Y'; (try simp only [List.cons_append, List.nil_append] at N'); (try dsimp only); (try k_lift B'); (try k_fold)))
local macro_rules | `(tactic| walk_at "truthy ref") => `(tactic| (k_here; (with_reducible show wpAny _ _ (truthy (Value.ref _)) _ _ _); (refine' kgr_truthy ?N ?m ?c ?d ?f ?_; (case N => k_asm); (case m => k_mem); (case c => rfl); (case d => rfl); (case f => first | omega | ((try simp only [List.length_map, List.length_cons, List.length_nil]); omega))); (try simp only [List.isEmpty_cons, List.isEmpty_nil, Bool.not_false, Bool.not_true])))
local macro_rules | `(tactic| ktr_rel) => `(tactic| (intro p hp; (try simp only [List.nil_append, List.cons_append, List.mem_cons, List.mem_append] at hp ⊢); first | exact hp | (simp [hp]; done) | (rcases hp with hp | hp <;> simp [hp])))
local macro_rules | `(tactic| walk_at "eval Name") => `(tactic| (k_here; k_dflt (refine' nameX_B ?F ?X ?T ?e ?v ?n ?_ ?a ?b; (case a => rfl); (case b => rfl); (case F => k_asm); (case X => k_asm); (case T => k_asm); (case e => k_is); (case v => boot_fast); (case n => decide); k_whole)))
local macro_rules | `(tactic| walk_at "eval Name") => `(tactic| (k_here; k_dflt (refine' nameX_K ?F ?X ?T ?e ?_ ?a ?b; (case a => rfl); (case b => rfl); (case F => k_asm); (case X => k_asm); (case T => k_asm); (case e => k_is); k_whole)))
local macro_rules | `(tactic| walk_at "eval Name") => `(tactic| (k_here; k_dflt (refine' nameX_L ?F ?v ?_ ?a ?b; (case F => k_asm); (case a => rfl); (case b => rfl); (case v => rfl); k_whole)))
local macro_rules | `(tactic| walk_at "ite") => `(tactic| ((with_reducible show ite (true = true) _ _); refine ite_pos rfl ?_))
local macro_rules | `(tactic| walk_at "ite") => `(tactic| ((with_reducible show ite (false = true) _ _); refine ite_neg Bool.false_ne_true ?_))
local macro_rules | `(tactic| walk_at "call builtin:isinstance") => `(tactic| (k_here; k_dflt (refine' isi_call ?k1 ?k2 ?k3 ?k4 ?_; (case k1 => k_in); (case k2 => k_types); (case k3 => k_is); (case k4 => intro e; cases e); k_whole)))
local macro_rules | `(tactic| walk_at "call ref") => `(tactic| (k_here; k_dflt (refine' call_cls ?k1 ?k2 ?k3 ?k4 ?k5 ?k6 ?_; (case k1 => k_asm); (case k2 => k_asm); (case k4 => k_is); (case k3 => k_asm); (case k5 => k_is); (case k6 => k_is); k_whole; intro x' d' h' F' N' l1 l2; (try k_lt l1); (try k_lt2 l2); (try k_sweep); k_enter)))
local macro_rules | `(tactic| walk_at "call ref") => `(tactic| (k_here; k_dflt (refine wpAny_call ?_; k_enter)))
local macro_rules | `(tactic| walk_at "call builtin:isinstance") => `(tactic| (k_here; (with_reducible show wpAny _ _ (call _ [Value.ref _, Value.ref _]) _ _ _); k_dflt (refine' kin_callC ?k1 ?k2 ?k3 ?k4 ?k5 ?k6 ?k7 ?k8 ?k9 ?_; (case k1 => k_in); (case k2 => k_inst); (case k3 => kin_no); (case k4 => k_is); (case k5 => k_is); (case k6 => k_is); (case k7 => k_is); (case k8 => k_is); (case k9 => k_is); k_whole)))
local macro_rules | `(tactic| walk_at "eval Name") => `(tactic| (k_here; k_dflt (refine' nameX_C ?N ?c ?m ?d ?_ ?a ?b; (case a => rfl); (case b => rfl); (case N => k_asm); (case c => rfl); (case m => k_mem); (case d => k_asm); k_whole)))
local macro_rules | `(tactic| walk_at "call builtin:list.append") => `(tactic| (k_here; (with_reducible show wpAny _ _ (call (Value.builtin _) [Value.ref _, _]) _ _ _); k_dflt (refine' append_K ?k1 ?k2 ?k3 ?_ ?z; (case k1 => k_asm); (case k2 => k_asm); (case k3 => k_upd); (case z => (simp only [List.size_toArray]; rw [sizeLine_eq]; omega)); k_whole); intro h' F' N'; (try k_sweep)))
local macro_rules | `(tactic| walk_at "eval ListComp") => `(tactic| (k_here; (with_reducible show wpAny _ _ (eval (Expr.ListComp _ [⟨Expr.Name _ _, _, [], _⟩] _ _) _) _ _ _); k_dflt (refine LCg.ListComp_U (F₀ := by k_asm) (by with_unfolding_all rfl) (by decide) (by rfl) (by decide) (by rfl) ?_)))
local macro_rules | `(tactic| walk_at "eval ListComp") => `(tactic| (k_here; (with_reducible show wpAny _ _ (eval (Expr.ListComp _ [⟨Expr.Name _ _, _, [_], _⟩] _ _) _) _ _ _); k_dflt (refine LCt.ListComp_T (F₀ := by k_asm) (by with_unfolding_all rfl) (by decide) (by rfl) (by decide) (by rfl) ?_)))
local macro_rules | `(tactic| walk_at "CompSrc") => `(tactic| refine stop ?_)
local macro_rules | `(tactic| walk_at "CompSrcT") => `(tactic| refine stop ?_)
local macro_rules | `(tactic| walk_at "CompEnd") => `(tactic| refine stop ?_)
local macro_rules | `(tactic| lsm_bools) => `(tactic| exact boolsMap _ _)
local macro_rules | `(tactic| lsm_list) => `(tactic| exact News.isList (by k_asm) (by k_mem))
local macro_rules | `(tactic| walk_at "exec For Name Name cons nil") => `(tactic| (k_here; (rename Fr _ _ _ _ => lF'); (with_unfolding_all refine' For_turns lF' ?_; k_whole)))
local macro_rules | `(tactic| walk_at "call builtin:len") => `(tactic| (k_here; (with_reducible show wpAny _ _ (call (Value.builtin "len") [Value.ref _]) _ _ _); (refine' lenLed ?N ?m ?f ?_; (case N => k_asm); (case m => k_mem); (case f => first | omega | ((try simp only [List.length_map, List.length_cons, List.length_nil]); omega))); (try simp only [List.length_cons, List.length_nil])))
local macro_rules | `(tactic| walk_at "subscriptTail Name Slice ref ref") => `(tactic| (k_here; (with_reducible show wpAny _ _ (subscriptTail _ (PySem.Expr.Slice _ _ none _) (Value.ref _) (Value.ref _)) _ _ _); k_dflt (refine' kmk_slice_lit ?F ?N ?l ?p ?q ?e ?_ ?s ?t ?z; (case F => k_asm); (case N => k_asm); (case l => exact News.isList (by k_asm) (by k_mem)); (case p => kmk_part); (case q => kmk_part); (case e => exact slice1 _ _); (case s => with_unfolding_all rfl); (case t => kmk_pure); (case z => (simp only [List.size_toArray, List.length_cons]; rw [sizeLine_eq]; omega))); intro D' h' F' N' l1; (try k_lt l1); (try k_sweep)))
local macro_rules | `(tactic| lcg_sub) => `(tactic| first | assumption | (refine List.mem_cons_of_mem _ ?_; lcg_sub))
local macro_rules | `(tactic| lcg_off) => `(tactic| ((try dsimp only); first | assumption | k_all | exact allLt3 (by assumption) | exact allLt3 (tb_ltOf (‹_ ∧ AllLt _ _›).2) | exact allLt3 (tb_ltOf (‹_ ∧ _ ∧ AllLt _ _›).2.2) | exact allLt3 (tb_ltOf (‹_ ∧ _ ∧ _ ∧ AllLt _ _›).2.2.2) | exact allLt2 (by assumption) (by assumption) | exact allLt2 (by assumption) (tb_ltOf (‹_ ∧ AllLt _ _›).2) | exact allLt2 (by assumption) (tb_ltOf (‹_ ∧ _ ∧ AllLt _ _›).2.2) | exact allLt2 (by assumption) (tb_ltOf (‹_ ∧ _ ∧ _ ∧ AllLt _ _›).2.2.2)))
local macro_rules | `(tactic| lcg_src) => `(tactic| first | exact Pre.nil' | (refine Pre.cons' ?_ ?_; lcg_off; lcg_src))
local macro_rules | `(tactic| walk_at "PostN") => `(tactic| (unfold PostN; try dsimp only))
local macro_rules | `(tactic| walk_at "EndN") => `(tactic| refine stop ?_)
local macro_rules | `(tactic| k_all) => `(tactic| assumption)
local macro_rules | `(tactic| walk_at "eval Call") => `(tactic| ((with_reducible show wpAny _ _ (eval (Expr.Call (Expr.Name _ _) [_, _, _] [] _) _) _ _ _); k_dflt (refine Call_ ?_)))
local macro_rules | `(tactic| walk_at "call ref") => `(tactic| ((with_reducible show wpAny _ _ (call (Value.ref 45) _ _) _ _ _); refine stop ?_))
local macro_rules | `(tactic| walk_at "call ref") => `(tactic| ((with_reducible show wpAny _ _ (call (Value.ref 669) _ _) _ _ _); refine stop ?_))
local macro_rules | `(tactic| walk_at "call ref") => `(tactic| ((with_reducible show wpAny _ _ (call (Value.ref 712) _ _) _ _ _); refine stop ?_))
local macro_rules | `(tactic| walk_at "call ref") => `(tactic| ((with_reducible show wpAny _ _ (call (Value.ref 717) _ _) _ _ _); refine stop ?_))
local macro_rules | `(tactic| walk_at "call ref") => `(tactic| ((with_reducible show wpAny _ _ (call (Value.ref 548) _ _) _ _ _); refine stop ?_))
local macro_rules | `(tactic| walk_at "call type:range") => `(tactic| refine stop ?_)
local macro_rules | `(tactic| walk_at "eval Name") => `(tactic| (k_here; k_dflt (refine' nameX_L ?F ?v ?_ ?a ?b; (case F => k_asm); (case a => rfl); (case b => rfl); (case v => assumption); k_whole)))
local macro_rules | `(tactic| walk_at "exec For Name Call cons nil") => `(tactic| (k_here; (rename Fr _ _ _ _ => lF'); (with_unfolding_all refine' For_turns lF' ?_; k_whole)))
local macro_rules | `(tactic| walk_at "subscriptTail") => `(tactic| ((with_reducible show wpAny _ _ (subscriptTail _ _ (Value.ref _) (Value.int _ _)) _ _ _); refine stop ?_))
local macro_rules | `(tactic| k_mem) => `(tactic| first | exact List.mem_cons_self | (refine List.mem_cons_of_mem _ ?_; k_mem) | assumption)
local macro_rules | `(tactic| walk_at "compareOp NotEq ref ref") => `(tactic| refine stop ?_)
local macro_rules | `(tactic| walk_at "compareOp Eq ref ref") => `(tactic| refine stop ?_)
local macro_rules | `(tactic| walk_at "call ref") => `(tactic| ((with_reducible show wpAny _ _ (call (Value.ref _) [Value.ref _] []) _ _ _); refine stop ?_))
local macro_rules | `(tactic| walk_at "exec Assign cons ListComp") => `(tactic| refine stop ?_)
local macro_rules | `(tactic| walk_at "exec For Name Name cons nil") => `(tactic| refine stop ?_)
local macro_rules | `(tactic| walk_at "exec For Name Tuple cons nil") => `(tactic| refine stop ?_)
local macro_rules | `(tactic| walk_at "exec If") => `(tactic| refine stop ?_)
/-- new entries put behind the first -/
theorem ledIn {h₀ h : Heap} {L : Addr} {c : Addr × Obj} {tl nb : List (Addr × Obj)} (N : News h₀ L h (tl ++ (c :: nb))) (hl : ∀ q ∈ c :: nb, ∀ p ∈ tl, q.1 ≠ p.1) (hn : ∀ q ∈ nb, @Ne Nat q.1 c.1) :
    News h₀ L h (c :: (tl ++ nb)) ∧ ∀ q ∈ tl ++ nb, @Ne Nat q.1 c.1 := by
  refine ⟨fun q hq => N q ?_, fun q hq => ?_⟩
  · simp only [List.mem_cons, List.mem_append] at hq ⊢
    rcases hq with hq | hq | hq <;> simp [hq]
  · rcases List.mem_append.mp hq with hq | hq
    · exact fun e => hl c (.head _) q hq e.symm
    · exact hn q hq
theorem memDrop {e c : Addr × Obj} {tl nb : List (Addr × Obj)} (h : e ∈ tl ++ (c :: nb)) (hne : e.2.cls ≠ c.2.cls) : e ∈ tl ++ nb := by
  rcases List.mem_append.mp h with h | h
  · exact List.mem_append_left _ h
  · rcases List.mem_cons.mp h with rfl | h
    · exact absurd rfl hne
    · exact List.mem_append_right _ h
theorem ConsAt.drop {w : World} {a : WA} {l P : Addr} {ps : List PC} {vs : Array Value} {tl nb : List (Addr × Obj)} (h : ConsAt w (tl ++ ((P, tabObj vs) :: nb)) a l ps) : ConsAt w (tl ++ nb) a l ps := by
  obtain ⟨⟨n, h1⟩, h2⟩ := h
  refine ⟨⟨n, memDrop h1 (by intro e; cases e)⟩, fun p hp => ?_⟩
  obtain ⟨d, t1, t2, t3, t4, t5, m1, m2⟩ := h2 p hp
  exact ⟨d, t1, t2, t3, t4, t5, memDrop m1 (by intro e; cases e), memDrop m2 (by intro e; cases e)⟩
theorem WayIn.drop {w : World} {a : WA} {P : Addr} {v : WayV} {e : Addr × Obj} {vs : Array Value} {tl nb : List (Addr × Obj)} (h : WayIn w (tl ++ ((P, tabObj vs) :: nb)) a v) : WayIn w ((e :: tl) ++ nb) a v := by
  cases v with
  | none => trivial
  | some x => exact (ConsAt.drop h).mono fun q hq => .tail _ hq
theorem newsNamed {h₀ h : Heap} {L : Addr} {l : List (Addr × Obj)} (N : News h₀ L h l) : ∃ nn, nn = l ∧ News h₀ L h nn := ⟨l, rfl, N⟩
def RestSt (w : World) (a : WA) (o : Addr) (ws : List WayV) (eager : Bool) : Prop :=
  ∀ (lb : List Stmt) (ls : Scope) (p : Program) (loose : List Str) (mean : ExcName → Option Value) (mg mb : Str → Option Value) (fa : Addr) (h₀ : Heap) (L : Addr) (m : Str → Option Value) (s : Shared) (Q : Flow → Shared → Prop) (E : Value → Shared → Prop) (nb : List (Addr × Obj)),
    LawIs w lb ls → PassesOwn (model PySem.Challenge.rw_ft0022_01.row.prog w) (lawA ls L fa) (lawE ls L fa) E → Below callerA h₀ [] h₀ → Fr h₀ L s.heap m → (hd.heap_39 w.params).In h₀ → News h₀ L s.heap ((719, tabObj #[]) :: nb) → Top p loose mean mg mb h₀ → CodeHd h₀ 721 719 →
    m (Str.ofString "ways") = some (.ref o) → EagerAt nb L eager → WorldAt w nb a → WaysAt w nb a o ws → (∀ q ∈ nb, @Ne Nat q.1 719) →
    (∀ (h' : Heap) (tk' : Nat) (m' : Str → Option Value) (all : List (Addr × Obj)) (ps : Array Value), Fr h₀ L h' m' → News h₀ L h' all → (719, tabObj ps) ∈ all → Q (.ret (.bool true)) { s with heap := h', toks := tk' }) →
    wpAny (model PySem.Challenge.rw_ft0022_01.row.prog w) (lawA ls L fa) (execs (lb.drop 8) (lawE ls L fa)) Q E s
theorem rest_st {w : World} {a : WA} {o : Addr} {ws : List WayV} {eager : Bool} (hlen : ws.length ≤ 4) (hlens : ∀ x, some x ∈ ws → x.2.length ≤ 2) : RestSt w a o ws eager := by
  unfold RestSt
  k_fill
  intro lb ls p loose mean mg mb fa h₀ L m s Q E nb hlaw hE B F X N T C hm1 hea W hw hn hret
  have hlaw2 := hlaw
  refine' LawIs.elim hlaw ?k6 ?_
  (case k6 => k_is)
  rintro rfl rfl
  clear hlaw
  simp only [List.drop_succ_cons, List.drop_zero]
  obtain ⟨oc, hc1, hc2⟩ := hea
  have S0 : ∀ q ∈ nb, q ∈ (719, tabObj #[]) :: nb := fun q hq => .tail _ hq
  k_steps
  refine Stop.mk ?_
  ktr_call 0 (any_all (W.mono S0) (hw.mono S0) (by omega) (fun x hx => Nat.le_trans (hlens x hx) (by omega)))
  rintro rX tl1 h1 tk1 F1 N1 hl1 ⟨lt, pt, rfl, at1, at2⟩
  replace at1 := at1.drop
  obtain ⟨N2, hn2⟩ := ledIn N1 hl1 hn
  obtain ⟨nb1, hnb1⟩ : ∃ nb1, nb1 = tl1 ++ nb := ⟨_, rfl⟩
  rw [← hnb1] at N2 hn2 at1
  have S1 : ∀ q ∈ nb, q ∈ nb1 := fun q hq => by rw [hnb1]; exact List.mem_append_right _ hq
  replace W := W.mono S1
  replace hw := hw.mono S1
  replace hc1 := S1 _ hc1
  clear N1 hl1 hn S0 N
  k_steps
  rename_i Fv Nv
  refine Stop.mk ?_
  refine valid_pc (hw.mono fun q hq => .tail _ hq) (by omega) hlens _ _ _ _ _ _ _ _ _ _ _ _ _ _ _ hlaw2 rfl hE B Fv X Nv T ⟨hm1, oc, .tail _ hc1, hc2⟩ ?_
  rintro tl2 h2 tk2 m2 F2 z2 N2' hl2 ⟨lv, nv, f2v, hv2⟩
  obtain ⟨N3, hn3⟩ := ledIn N2' hl2 hn2
  have f2w : m2 (Str.ofString "ways") = some (.ref o) := (z2 _ (by decide)).trans hm1
  have f2t : m2 (Str.ofString "told") = some (.ref lt) := z2 _ (by decide)
  obtain ⟨nb2, hnb2⟩ : ∃ nb2, nb2 = tl2 ++ nb1 := ⟨_, rfl⟩
  rw [← hnb2] at N3 hn3
  have S2 : ∀ q ∈ nb1, q ∈ nb2 := fun q hq => by rw [hnb2]; exact List.mem_append_right _ hq
  have V2 : (lv, PySem.W.listOf (addrVals (validV eager ws)).toArray nv) ∈ nb2 := by rw [hnb2]; exact List.mem_append_left _ hv2
  have RV : ∀ r ∈ validV eager ws, ConsAt w nb2 a r.1 r.2 ∧ r.2.length ≤ 2 := fun r hr => ⟨(hw.2 _ (validV_mem hr)).mono S2, hlens _ (validV_mem hr)⟩
  replace W := W.mono S2
  replace hw := hw.mono S2
  replace hc1 := S2 _ hc1
  replace at1 := at1.mono S2
  clear N2' hl2 hn2 S2 hv2 hm1
  dsimp only
  k_steps
  rename_i lwi _ lwl _ Fw Nw
  have lwn : ∀ q ∈ (719, tabObj #[]) :: nb2, @Ne Nat q.1 lwi := List.forall_mem_cons.mpr ⟨Nat.ne_of_lt lwl.1, fun q hq => Nat.ne_of_lt (tb_ltOf lwl.2 q hq)⟩
  refine Stop.mk ?_
  refine within_st (W.mono fun q hq => .tail _ hq) (hw.mono fun q hq => .tail _ hq) (by omega) hlens _ _ _ _ _ _ _ _ _ _ _ _ _ _ _ _ hlaw2 rfl hE B Fw X Nw T f2w rfl lwn ?_
  rintro tl3 h3 tk3 m3 wv n3 F3 z3 N3' hl3 hl3b hwv hwvc
  obtain ⟨N4, hn4⟩ := ledIn (c := (719, tabObj #[])) (tl := (lwi, PySem.W.listOf (wv.map wayVal).toArray n3) :: tl3) N3' (fun q hq p hp => by
    rcases List.mem_cons.mp hp with rfl | hp
    · exact hl3b q (List.mem_append_right _ hq)
    · exact hl3 q hq p hp) hn3
  have f3w : m3 (Str.ofString "ways") = some (.ref o) := (z3 _ (by decide)).trans f2w
  have f3t : m3 (Str.ofString "told") = some (.ref lt) := (z3 _ (by decide)).trans f2t
  have f3v : m3 (Str.ofString "valid") = some (.ref lv) := (z3 _ (by decide)).trans f2v
  have f3i : m3 (Str.ofString "within") = some (.ref lwi) := z3 _ (by decide)
  obtain ⟨nb3, hnb3⟩ : ∃ nb3, nb3 = ((lwi, PySem.W.listOf (wv.map wayVal).toArray n3) :: tl3) ++ nb2 := ⟨_, rfl⟩
  rw [← hnb3] at N4 hn4
  have S3 : ∀ q ∈ nb2, q ∈ nb3 := fun q hq => by rw [hnb3]; exact List.mem_append_right _ hq
  have hww : WaysAt w nb3 a lwi wv := by
    refine ⟨⟨n3, by rw [hnb3]; exact .head _⟩, fun v hv => ?_⟩
    have g := (hwv v hv).1
    rw [hnb3]
    exact WayIn.drop g
  replace RV : ∀ r ∈ validV eager ws, ConsAt w nb3 a r.1 r.2 ∧ r.2.length ≤ 2 := fun r hr => ⟨(RV r hr).1.mono S3, (RV r hr).2⟩
  replace V2 := S3 _ V2
  replace W := W.mono S3
  replace hw := hw.mono S3
  replace hc1 := S3 _ hc1
  replace at1 := at1.mono S3
  clear N3' hl3 hl3b S3 hn3 f2w f2t f2v Fw Nw lwn lwl
  dsimp only
  k_steps
  refine Stop.mk ?_
  have hwvl : wv.length ≤ 4 := by
    have h9 := congrArg List.length hwvc
    simp only [List.length_map] at h9
    omega
  refine again_pc (hww.mono fun q hq => .tail _ hq) (by omega) (fun x hx => (hwv _ hx).2 x rfl) _ _ _ _ _ _ _ _ _ _ _ _ _ _ _ hlaw2 rfl hE B F3 X N4 T ⟨f3i, oc, .tail _ hc1, hc2⟩ ?_
  rintro tl4 h4 tk4 m4 F4 z4 N4' hl4 ⟨la, na, f4a, ha2⟩
  obtain ⟨N5, hn5⟩ := ledIn N4' hl4 hn4
  have f4w : m4 (Str.ofString "ways") = some (.ref o) := (z4 _ (by decide)).trans f3w
  have f4t : m4 (Str.ofString "told") = some (.ref lt) := (z4 _ (by decide)).trans f3t
  have f4v : m4 (Str.ofString "valid") = some (.ref lv) := (z4 _ (by decide)).trans f3v
  obtain ⟨nb4, hnb4⟩ : ∃ nb4, nb4 = tl4 ++ nb3 := ⟨_, rfl⟩
  rw [← hnb4] at N5 hn5
  have S4 : ∀ q ∈ nb3, q ∈ nb4 := fun q hq => by rw [hnb4]; exact List.mem_append_right _ hq
  have V4 : (la, PySem.W.listOf (addrVals (validV eager wv)).toArray na) ∈ nb4 := by rw [hnb4]; exact List.mem_append_left _ ha2
  have RA : ∀ r ∈ validV eager wv, ConsAt w nb4 a r.1 r.2 ∧ r.2.length ≤ 2 := fun r hr => ⟨(hww.2 _ (validV_mem hr)).mono S4, (hwv _ (validV_mem hr)).2 r rfl⟩
  replace RV : ∀ r ∈ validV eager ws, ConsAt w nb4 a r.1 r.2 ∧ r.2.length ≤ 2 := fun r hr => ⟨(RV r hr).1.mono S4, (RV r hr).2⟩
  replace V2 := S4 _ V2
  replace W := W.mono S4
  replace hw := hw.mono S4
  replace hc1 := S4 _ hc1
  replace at1 := at1.mono S4
  clear N4' hl4 S4 hn4 f3w f3t f3v f3i
  have hn5b : ∀ q ∈ nb4, @Ne Nat q.1 719 := hn5
  dsimp only
  k_steps
  rename_i uf uc uoc uvs ut uct udc _ _ ud1 ud2 ul1 ul2 _ F6 N6
  refine Stop.mk ?_
  obtain ⟨nb5, hnb5, N7⟩ := newsNamed N6
  have S5 : ∀ q ∈ nb4, q ∈ nb5 := fun q hq => by rw [hnb5]; exact .tail _ (.tail _ (.tail _ hq))
  have U : UnFn w nb5 uf := ⟨_, _, _, _, _, _, _, _, _, _, _, _, _, _, _, _, uoc, uvs, ut, hlaw2, rfl, rfl, by rw [hnb5]; exact .head _, by rw [hnb5]; exact .tail _ (.head _), ud1, ud2⟩
  have hps : ∃ ps : Array Value, (719, tabObj ps) ∈ nb5 := ⟨_, by rw [hnb5]; exact .tail _ (.tail _ (.head _))⟩
  replace RV : ∀ r ∈ validV eager ws, ConsAt w nb5 a r.1 r.2 ∧ r.2.length ≤ 2 := fun r hr => ⟨(RV r hr).1.mono S5, (RV r hr).2⟩
  replace RA : ∀ r ∈ validV eager wv, ConsAt w nb5 a r.1 r.2 ∧ r.2.length ≤ 2 := fun r hr => ⟨(RA r hr).1.mono S5, (RA r hr).2⟩
  replace V2 := S5 _ V2
  replace V4 := S5 _ V4
  replace W := W.mono S5
  replace hw := hw.mono S5
  replace hc1 := S5 _ hc1
  replace at1 := at1.mono S5
  clear N6 hnb5 ul1 ul2 hn5b hn5 S5
  have lenV : (validV eager ws).length ≤ 10 := Nat.le_trans (List.length_filterMap_le _ _) (by omega)
  have lenA : (validV eager wv).length ≤ 10 := Nat.le_trans (List.length_filterMap_le _ _) (by omega)
  refine due_pc U W V2 RV lenV V4 RA lenA _ _ _ _ _ _ _ _ _ _ _ _ _ _ _ hlaw2 rfl hE B F6 X N7 T ⟨f4v, f4a, rfl⟩ ?_
  rintro tl5 h5 tk5 m5 F8 z5 N8 hl5 ⟨rd, fd, f5d, fo5, he5⟩
  dsimp only
  have f5w : m5 (Str.ofString "ways") = some (.ref o) := (z5 _ (by decide)).trans f4w
  have f5t : m5 (Str.ofString "told") = some (.ref lt) := (z5 _ (by decide)).trans f4t
  have f5u : m5 (Str.ofString "unlike") = some (.ref uf) := z5 _ (by decide)
  have hdue : dueC eager (ws.map ct) = fd.map fun x => x.2.map (·.2) := by
    rw [he5]
    unfold dueC
    rw [← hwvc, valC_ct, valC_ct]
  obtain ⟨nb6, hnb6, N9⟩ := newsNamed N8
  have S6 : ∀ q ∈ nb5, q ∈ nb6 := fun q hq => by rw [hnb6]; exact List.mem_append_right _ hq
  replace fo5 : FoundAt nb6 rd fd := fo5.mono fun q hq => by rw [hnb6]; exact List.mem_append_left _ hq
  replace W := W.mono S6
  replace U := U.mono S6
  replace hw := hw.mono S6
  replace hc1 := S6 _ hc1
  replace at1 := at1.mono S6
  replace hps : ∃ ps : Array Value, (719, tabObj ps) ∈ nb6 := hps.imp fun _ h => S6 _ h
  clear N8 hnb6 S6 hl5 V2 V4 RV RA
  k_steps
  refine Stop.mk ?_
  have hsz : ∀ c, some c ∈ ws.map ct → c.length ≤ 2 := fun c hc => by
    obtain ⟨k, hk, e⟩ := List.mem_map.mp hc
    cases k with
    | none => cases e
    | some y => cases e; rw [List.length_map]; exact hlens y hk
  have hpt : pt.length ≤ 2 := by
    have h9 := congrArg List.length at2
    have h8 := anyC_len (eager := eager) hsz
    simp only [List.length_map] at h9
    omega
  refine check_pc U W at1 hpt fo5 (by rw [at2, any_due hsz]; exact hdue) _ _ _ _ _ _ _ _ _ _ _ _ _ _ _ hlaw2 rfl hE B F8 X N9 T ⟨f5t, f5d, f5u⟩ ?_
  rintro tl6 h6 tk6 m6 F9 z6 N10 hl6 -
  dsimp only
  have f6w : m6 (Str.ofString "ways") = some (.ref o) := (z6 _ (by decide)).trans f5w
  have f6d : m6 (Str.ofString "due") = some (.ref rd) := (z6 _ (by decide)).trans f5d
  have f6u : m6 (Str.ofString "unlike") = some (.ref uf) := (z6 _ (by decide)).trans f5u
  obtain ⟨nb7, hnb7, N11⟩ := newsNamed N10
  have S7 : ∀ q ∈ nb6, q ∈ nb7 := fun q hq => by rw [hnb7]; exact List.mem_append_right _ hq
  replace fo5 := fo5.mono S7
  replace W := W.mono S7
  replace U := U.mono S7
  replace hw := hw.mono S7
  replace hc1 := S7 _ hc1
  replace hps : ∃ ps : Array Value, (719, tabObj ps) ∈ nb7 := hps.imp fun _ h => S7 _ h
  clear N10 hnb7 S7 hl6
  k_steps
  refine Stop.mk ?_
  refine more_pc U W hw hlen hlens fo5 hdue _ _ _ _ _ _ _ _ _ _ _ _ _ _ _ hlaw2 rfl hE B F9 X N11 T ⟨f6w, f6d, f6u, oc, hc1, hc2⟩ ?_
  rintro tl7 h7 tk7 m7 F10 z7 N12 hl7 -
  dsimp only
  obtain ⟨nb8, hnb8, N13⟩ := newsNamed N12
  have S8 : ∀ q ∈ nb7, q ∈ nb8 := fun q hq => by rw [hnb8]; exact List.mem_append_right _ hq
  replace W := W.mono S8
  replace hc1 := S8 _ hc1
  replace hps : ∃ ps : Array Value, (719, tabObj ps) ∈ nb8 := hps.imp fun _ h => S8 _ h
  clear N12 hnb8 S8 hl7
  k_steps
  rename_i x9 _ F14 N14 lx9
  refine Stop.mk ?_
  ktr_call 0 (any_all (ws := []) (W.mono fun q hq => .tail _ hq) ⟨⟨0, .head _⟩, fun _ h => (nomatch h)⟩ (Nat.zero_le _) (fun _ h => (nomatch h)))
  rintro rX tl8 h8 tk8 F15 N15 hl8 ⟨l8, p8, rfl, ⟨⟨n8, c8⟩, _⟩, c9⟩
  have p8n : p8 = [] := by
    have h9 : anyC eager (([] : List WayV).map ct) = [] := rfl
    rw [h9] at c9
    exact List.map_eq_nil_iff.mp c9
  subst p8n
  k_steps
  rename_i y9 _ F16 N16 ly9
  refine Stop.mk ?_
  refine eqNil (vs := []) (News.isList N16 (.tail _ c8)) (News.isList N16 (.head _)) (by ktr_units) ?_
  obtain ⟨ps, hps⟩ := hps
  exact hret _ _ _ _ ps F16 N16 (.tail _ (List.mem_append_right _ (.tail _ hps)))
end Mine
end
section
open PySem PySem.W PySem.Spec PySem.Calls PyProof.Rows
namespace Mine
theorem fresh_L1 : True := by
  w_top off
  trivial
theorem memDrop2 {e c t : Addr × Obj} {nb : List (Addr × Obj)} (h : e ∈ c :: t :: nb) (h1 : e.2.data ≠ c.2.data) (h2 : e.2.cls ≠ t.2.cls) : e ∈ nb := by
  rcases List.mem_cons.mp h with rfl | h
  · exact absurd rfl h1
  rcases List.mem_cons.mp h with rfl | h
  · exact absurd rfl h2
  exact h
section
variable {w : World} {c : Addr} {oc : Obj} {v : Option Value} {nb : List (Addr × Obj)} (hc : oc.data = .cell v)
include hc
theorem dropI {x b d : Addr} {vs : Array Value} {P : Addr} (h : (x, instObj b d) ∈ (c, oc) :: (P, tabObj vs) :: nb) : (x, instObj b d) ∈ nb := memDrop2 h (by rw [hc]; intro e; cases e) (by intro e; cases e)
theorem dropD {x : Addr} {es : List DictEntry} {k : Nat} {vs : Array Value} {P : Addr} (h : (x, dictOf es k) ∈ (c, oc) :: (P, tabObj vs) :: nb) : (x, dictOf es k) ∈ nb := memDrop2 h (by rw [hc]; intro e; cases e) (by intro e; cases e)
theorem dropL {x : Addr} {es : Array Value} {k : Nat} {vs : Array Value} {P : Addr} (h : (x, PySem.W.listOf es k) ∈ (c, oc) :: (P, tabObj vs) :: nb) : (x, PySem.W.listOf es k) ∈ nb := memDrop2 h (by rw [hc]; intro e; cases e) (by intro e; cases e)
theorem dropT {x : Addr} {es : Array Value} {vs : Array Value} {P : Addr} (h : (x, ({ cls := .type "tuple", data := .seq es } : Obj)) ∈ (c, oc) :: (P, tabObj vs) :: nb) : (x, ({ cls := .type "tuple", data := .seq es } : Obj)) ∈ nb := memDrop2 h (by rw [hc]; intro e; cases e) (by intro e; cases e)
theorem InfoB.drop {P : Addr} {vs : Array Value} {x : Addr} {nm : Str} {ms : List Addr} {bs : List Value} (h : InfoB w ((c, oc) :: (P, tabObj vs) :: nb) x nm ms bs) : InfoAt w nb x nm ms := by
  obtain ⟨d, t1, t2, t3, t4, t5, t6, t7, cd, cdd, tv, tv0, bl, ml, n1, n2, n3, n4, m1, m2, m3, m4, m5, m6, m7, m8⟩ := h
  exact ⟨d, t1, t2, t3, t4, t5, t6, t7, cd, cdd, tv, tv0, bl, ml, n1, n2, n3, dropI hc m1, dropD hc m2, dropI hc m3, dropD hc m4, dropL hc m5, dropL hc m6, dropL hc m7⟩
theorem TyAt.drop {P : Addr} {vs : Array Value} {a x : Addr} (h : TyAt w ((c, oc) :: (P, tabObj vs) :: nb) a x) : TyAt w nb a x := by
  obtain ⟨d, t1, t2, tup, m1, m2, m3⟩ := h
  exact ⟨d, t1, t2, tup, dropI hc m1, dropD hc m2, dropT hc m3⟩
theorem IdAt.drop {P : Addr} {vs : Array Value} {i : Addr} {k : Int} (h : IdAt w ((c, oc) :: (P, tabObj vs) :: nb) i k) : IdAt w nb i k := by
  obtain ⟨d, t1, t2, t3, t4, m1, m2⟩ := h
  exact ⟨d, t1, t2, t3, t4, dropI hc m1, dropD hc m2⟩
theorem VarAt.drop {P : Addr} {vs : Array Value} {x idv ub : Addr} {nm : Str} (h : VarAt w ((c, oc) :: (P, tabObj vs) :: nb) x nm idv ub) : VarAt w nb x nm idv ub := by
  obtain ⟨d, t1, t2, t3, t4, t5, t6, t7, vl, n, m1, m2, m3⟩ := h
  exact ⟨d, t1, t2, t3, t4, t5, t6, t7, vl, n, dropI hc m1, dropD hc m2, dropL hc m3⟩
end
theorem mkWorld {w : World} {nb : List (Addr × Obj)} {root xA xB xC top iA iB iC vT vS idT idS : Addr} {mA mB mC : List Addr}
    (A1 : InfoAt w nb root (Str.ofString "builtins.object") [root]) (A2 : TyAt w nb top root) (A3 : InfoAt w nb xA (Str.ofString "m.A") mA) (A4 : TyAt w nb iA xA) (A5 : InfoAt w nb xB (Str.ofString "m.B") mB) (A6 : TyAt w nb iB xB) (A7 : InfoAt w nb xC (Str.ofString "m.C") mC) (A8 : TyAt w nb iC xC)
    (B1 : IdAt w nb idT 1) (B2 : VarAt w nb vT (Str.ofString "T") idT top) (B3 : IdAt w nb idS 2) (B4 : VarAt w nb vS (Str.ofString "S") idS iA) (eA : mA = [xA, root]) (eB : mB = [xB, xA, root]) (eC : mC = [xC, root])
    (nA : xA ≠ root) (nB : xB ≠ root) (nC : xC ≠ root) (nAB : xB ≠ xA) (nAC : xC ≠ xA) (nBC : xC ≠ xB) : WorldAt w nb ⟨root, xA, xB, xC, top, iA, iB, iC, vT, vS, idT, idS⟩ := by
  subst eA eB eC
  have h1 : ∀ k, InfoAt w nb ((⟨root, xA, xB, xC, top, iA, iB, iC, vT, vS, idT, idS⟩ : WA).cls k) (clsName k) ((⟨root, xA, xB, xC, top, iA, iB, iC, vT, vS, idT, idS⟩ : WA).mro k) := by
    intro k
    match k with
    | 0 => exact A3
    | 1 => exact A5
    | 2 => exact A7
  have h2 : ∀ k, TyAt w nb ((⟨root, xA, xB, xC, top, iA, iB, iC, vT, vS, idT, idS⟩ : WA).ins k) ((⟨root, xA, xB, xC, top, iA, iB, iC, vT, vS, idT, idS⟩ : WA).cls k) := by
    intro k
    match k with
    | 0 => exact A4
    | 1 => exact A6
    | 2 => exact A8
  have h3 : ∀ v, VarAt w nb ((⟨root, xA, xB, xC, top, iA, iB, iC, vT, vS, idT, idS⟩ : WA).var v) (varName v) ((⟨root, xA, xB, xC, top, iA, iB, iC, vT, vS, idT, idS⟩ : WA).idv v) ((⟨root, xA, xB, xC, top, iA, iB, iC, vT, vS, idT, idS⟩ : WA).ub v) := by
    intro v
    cases v with
    | false => exact B2
    | true => exact B4
  have h4 : ∀ v, IdAt w nb ((⟨root, xA, xB, xC, top, iA, iB, iC, vT, vS, idT, idS⟩ : WA).idv v) (idInt v) := by
    intro v
    cases v with
    | false => exact B1
    | true => exact B3
  exact WorldAt.mk A1 h1 A2 h2 h3 h4 nA nB nC nAB.symm nAC.symm nBC.symm
end Mine
end
section
open PySem PySem.W PySem.Spec PySem.Calls PyProof.Rows
namespace Mine
theorem fresh_L0 : True := by
  w_top off
  trivial
local macro_rules | `(tactic| k_mem) => `(tactic| first | exact List.mem_cons_self | (refine List.mem_cons_of_mem _ ?_; k_mem))
local macro_rules | `(tactic| k_steps) => `(tactic| repeat' (first | (k_unfold; (try dsimp only)) | (k_end; wrow_close) | walk1 | (dsimp only; walk1) | (dsimp only; k_unfold; (try dsimp only)) | (leave1; walk_say "STEP leave1"; try dsimp only) | fail "no step"))
local macro_rules | `(tactic| walk_at "Hold") => `(tactic| refine stop ?_)
local macro_rules | `(tactic| walk_at "PostL0") => `(tactic| (unfold PostL0; try dsimp only))
local macro_rules | `(tactic| walk_at "EndL0") => `(tactic| refine stop ?_)
local macro_rules | `(tactic| walk_at "PostL") => `(tactic| (unfold PostL; try dsimp only))
local macro_rules | `(tactic| walk_at "EndL") => `(tactic| refine stop ?_)
local macro_rules | `(tactic| walk_at "PostM") => `(tactic| (unfold PostM; try dsimp only))
local macro_rules | `(tactic| walk_at "EndM") => `(tactic| refine stop ?_)
local macro_rules | `(tactic| walk_at "PostT") => `(tactic| (unfold PostT; try dsimp only))
local macro_rules | `(tactic| walk_at "EndT") => `(tactic| refine stop ?_)
local macro_rules | `(tactic| walk_at "pyIter ref") => `(tactic| refine stop ?_)
local macro_rules | `(tactic| ktr_call $_x:term $c:term) => `(tactic| (refine' Ctr.use ?k1 ?k2 ?k3 ?k4 ?k5 ?kK ?kC ?kd ?ku ?_; (case k1 => k_asm); (case k2 => k_asm); (case k3 => k_asm); (case k4 => k_asm); (case k5 => k_asm); (case kK => first | exact rfl | assumption); (case kC => exact $c); (case kd => ktr_room); (case ku => ktr_units)))
local macro_rules | `(tactic| k_room) => `(tactic| ktr_room)
local macro_rules | `(tactic| k_units) => `(tactic| ktr_units)
local macro_rules | `(tactic| k_enter) => `(tactic| first
  | (refine' code_def ?k1 ?k2 ?k3 ?k4 ?k5 ?kA ?kF ?kK ?k6 ?k7 ?k8 ?k9 ?kB ?_ ?c2 ?c3 ?c4 ?c5; (case k2 => k_asm); (case k3 => k_asm); (case k6 => k_is); (case k1 => k_asm); (case k4 => k_asm); (case k5 => k_asm); (case kA => exact rfl); (case kF => exact rfl); (case kK => first | exact rfl | assumption); (case k7 => k_is); (case k8 => ktr_room); (case k9 => first | exact BindsTo.of_eq rfl | exact binds_K (by k_in) rfl (by k_is) rfl rfl rfl | fail "k_enter: no rule for these arguments"); (case c5 => decide); (case kB => exact locs rfl); (case c2 => exact rfl); (case c3 => exact rfl); (case c4 => exact rfl); k_whole; intro g' L' h' FG' F' N' B' X' T'; (try dsimp only); (try k_lift B'); (try k_fold))
  | (refine' code_defC ?k1 ?k2 ?k3 ?k4 ?k5 ?kA ?kF ?kK ?k6 ?k7 ?k8 ?k9 ?kB ?kD ?_ ?c2 ?c3 ?c4; (case k2 => k_asm); (case k3 => k_asm); (case k6 => k_is); (case k1 => k_asm); (case k4 => k_asm); (case k5 => k_asm); (case kA => exact rfl); (case kF => exact rfl); (case kK => first | exact rfl | assumption); (case k7 => k_is); (case k8 => ktr_room); (case k9 => first | exact BindsTo.of_eq rfl | exact binds_K (by k_in) rfl (by k_is) rfl rfl rfl | fail "k_enter: no rule for these arguments"); (case kB => exact rfl); (case kD => decide +kernel); (case c2 => exact rfl); (case c3 => exact rfl); (case c4 => exact rfl); k_whole; intro g' L' h' tk' cells' FG' F' N' Y' B' X' T' l1; (try k_lt l1); k_cells Y'; (try simp only [List.cons_append, List.nil_append] at N'); (try dsimp only); (try k_lift B'); (try k_fold)))
local macro_rules | `(tactic| walk_at "truthy ref") => `(tactic| (k_here; (with_reducible show wpAny _ _ (truthy (Value.ref _)) _ _ _); (refine' kgr_truthy ?N ?m ?c ?d ?f ?_; (case N => k_asm); (case m => k_mem); (case c => rfl); (case d => rfl); (case f => first | omega | ((try simp only [List.length_map, List.length_cons, List.length_nil]); omega))); (try simp only [List.isEmpty_cons, List.isEmpty_nil, Bool.not_false, Bool.not_true])))
local macro_rules | `(tactic| ktr_rel) => `(tactic| (intro p hp; (try simp only [List.nil_append, List.cons_append, List.mem_cons, List.mem_append] at hp ⊢); first | exact hp | (simp [hp]; done) | (rcases hp with hp | hp <;> simp [hp])))
local macro_rules | `(tactic| walk_at "eval Name") => `(tactic| (k_here; k_dflt (refine' nameX_B ?F ?X ?T ?e ?v ?n ?_ ?a ?b; (case a => rfl); (case b => rfl); (case F => k_asm); (case X => k_asm); (case T => k_asm); (case e => k_is); (case v => boot_fast); (case n => decide); k_whole)))
local macro_rules | `(tactic| walk_at "eval Name") => `(tactic| (k_here; k_dflt (refine' nameX_K ?F ?X ?T ?e ?_ ?a ?b; (case a => rfl); (case b => rfl); (case F => k_asm); (case X => k_asm); (case T => k_asm); (case e => k_is); k_whole)))
local macro_rules | `(tactic| walk_at "eval Name") => `(tactic| (k_here; k_dflt (refine' nameX_L ?F ?v ?_ ?a ?b; (case F => k_asm); (case a => rfl); (case b => rfl); (case v => rfl); k_whole)))
local macro_rules | `(tactic| walk_at "ite") => `(tactic| ((with_reducible show ite (true = true) _ _); refine ite_pos rfl ?_))
local macro_rules | `(tactic| walk_at "ite") => `(tactic| ((with_reducible show ite (false = true) _ _); refine ite_neg Bool.false_ne_true ?_))
local macro_rules | `(tactic| walk_at "call builtin:isinstance") => `(tactic| (k_here; k_dflt (refine' isi_call ?k1 ?k2 ?k3 ?k4 ?_; (case k1 => k_in); (case k2 => k_types); (case k3 => k_is); (case k4 => intro e; cases e); k_whole)))
local macro_rules | `(tactic| walk_at "call ref") => `(tactic| (k_here; k_dflt (refine' call_cls ?k1 ?k2 ?k3 ?k4 ?k5 ?k6 ?_; (case k1 => k_asm); (case k2 => k_asm); (case k4 => k_is); (case k3 => k_asm); (case k5 => k_is); (case k6 => k_is); k_whole; intro x' d' h' F' N' l1 l2; (try k_lt l1); (try k_lt2 l2); (try k_sweep); k_enter)))
local macro_rules | `(tactic| walk_at "call ref") => `(tactic| (k_here; k_dflt (refine wpAny_call ?_; k_enter)))
local macro_rules | `(tactic| walk_at "call builtin:isinstance") => `(tactic| (k_here; (with_reducible show wpAny _ _ (call _ [Value.ref _, Value.ref _]) _ _ _); k_dflt (refine' kin_callC ?k1 ?k2 ?k3 ?k4 ?k5 ?k6 ?k7 ?k8 ?k9 ?_; (case k1 => k_in); (case k2 => k_inst); (case k3 => kin_no); (case k4 => k_is); (case k5 => k_is); (case k6 => k_is); (case k7 => k_is); (case k8 => k_is); (case k9 => k_is); k_whole)))
local macro_rules | `(tactic| walk_at "eval Name") => `(tactic| (k_here; k_dflt (refine' nameX_C ?N ?c ?m ?d ?_ ?a ?b; (case a => rfl); (case b => rfl); (case N => k_asm); (case c => rfl); (case m => k_mem); (case d => k_asm); k_whole)))
local macro_rules | `(tactic| walk_at "call builtin:list.append") => `(tactic| (k_here; (with_reducible show wpAny _ _ (call (Value.builtin _) [Value.ref _, _]) _ _ _); k_dflt (refine' append_K ?k1 ?k2 ?k3 ?_ ?z; (case k1 => k_asm); (case k2 => k_asm); (case k3 => k_upd); (case z => (simp only [List.size_toArray]; rw [sizeLine_eq]; omega)); k_whole); intro h' F' N'; (try k_sweep)))
local macro_rules | `(tactic| walk_at "eval ListComp") => `(tactic| (k_here; (with_reducible show wpAny _ _ (eval (Expr.ListComp _ [⟨Expr.Name _ _, _, [], _⟩] _ _) _) _ _ _); k_dflt (refine LCg.ListComp_U (F₀ := by k_asm) (by with_unfolding_all rfl) (by decide) (by rfl) (by decide) (by rfl) ?_)))
local macro_rules | `(tactic| walk_at "eval ListComp") => `(tactic| (k_here; (with_reducible show wpAny _ _ (eval (Expr.ListComp _ [⟨Expr.Name _ _, _, [_], _⟩] _ _) _) _ _ _); k_dflt (refine LCt.ListComp_T (F₀ := by k_asm) (by with_unfolding_all rfl) (by decide) (by rfl) (by decide) (by rfl) ?_)))
local macro_rules | `(tactic| walk_at "CompSrc") => `(tactic| refine stop ?_)
local macro_rules | `(tactic| walk_at "CompSrcT") => `(tactic| refine stop ?_)
local macro_rules | `(tactic| walk_at "CompEnd") => `(tactic| refine stop ?_)
local macro_rules | `(tactic| lsm_bools) => `(tactic| exact boolsMap _ _)
local macro_rules | `(tactic| lsm_list) => `(tactic| exact News.isList (by k_asm) (by k_mem))
local macro_rules | `(tactic| walk_at "exec For Name Name cons nil") => `(tactic| (k_here; (rename Fr _ _ _ _ => lF'); (with_unfolding_all refine' For_turns lF' ?_; k_whole)))
local macro_rules | `(tactic| walk_at "call builtin:len") => `(tactic| (k_here; (with_reducible show wpAny _ _ (call (Value.builtin "len") [Value.ref _]) _ _ _); (refine' lenLed ?N ?m ?f ?_; (case N => k_asm); (case m => k_mem); (case f => first | omega | ((try simp only [List.length_map, List.length_cons, List.length_nil]); omega))); (try simp only [List.length_cons, List.length_nil])))
local macro_rules | `(tactic| walk_at "subscriptTail Name Slice ref ref") => `(tactic| (k_here; (with_reducible show wpAny _ _ (subscriptTail _ (PySem.Expr.Slice _ _ none _) (Value.ref _) (Value.ref _)) _ _ _); k_dflt (refine' kmk_slice_lit ?F ?N ?l ?p ?q ?e ?_ ?s ?t ?z; (case F => k_asm); (case N => k_asm); (case l => exact News.isList (by k_asm) (by k_mem)); (case p => kmk_part); (case q => kmk_part); (case e => exact slice1 _ _); (case s => with_unfolding_all rfl); (case t => kmk_pure); (case z => (simp only [List.size_toArray, List.length_cons]; rw [sizeLine_eq]; omega))); intro D' h' F' N' l1; (try k_lt l1); (try k_sweep)))
local macro_rules | `(tactic| lcg_sub) => `(tactic| first | assumption | (refine List.mem_cons_of_mem _ ?_; lcg_sub))
local macro_rules | `(tactic| lcg_off) => `(tactic| ((try dsimp only); first | assumption | k_all | exact allLt3 (by assumption) | exact allLt3 (tb_ltOf (‹_ ∧ AllLt _ _›).2) | exact allLt3 (tb_ltOf (‹_ ∧ _ ∧ AllLt _ _›).2.2) | exact allLt3 (tb_ltOf (‹_ ∧ _ ∧ _ ∧ AllLt _ _›).2.2.2) | exact allLt2 (by assumption) (by assumption) | exact allLt2 (by assumption) (tb_ltOf (‹_ ∧ AllLt _ _›).2) | exact allLt2 (by assumption) (tb_ltOf (‹_ ∧ _ ∧ AllLt _ _›).2.2) | exact allLt2 (by assumption) (tb_ltOf (‹_ ∧ _ ∧ _ ∧ AllLt _ _›).2.2.2)))
local macro_rules | `(tactic| lcg_src) => `(tactic| first | exact Pre.nil' | (refine Pre.cons' ?_ ?_; lcg_off; lcg_src))
local macro_rules | `(tactic| walk_at "call ref") => `(tactic| ((with_reducible show wpAny _ _ (call (Value.ref 92) _ _) _ _ _); refine stop ?_))
local macro_rules | `(tactic| walk_at "call ref") => `(tactic| ((with_reducible show wpAny _ _ (call (Value.ref 340) _ _) _ _ _); refine stop ?_))
local macro_rules | `(tactic| walk_at "call ref") => `(tactic| ((with_reducible show wpAny _ _ (call (Value.ref 189) _ _) _ _ _); refine stop ?_))
local macro_rules | `(tactic| walk_at "call ref") => `(tactic| ((with_reducible show wpAny _ _ (call (Value.ref 232) _ _) _ _ _); refine stop ?_))
local macro_rules | `(tactic| walk_at "call ref") => `(tactic| ((with_reducible show wpAny _ _ (call (Value.ref 45) _ _) _ _ _); refine stop ?_))
local macro_rules | `(tactic| walk_at "call ref") => `(tactic| ((with_reducible show wpAny _ _ (call (Value.ref 669) _ _) _ _ _); refine stop ?_))
local macro_rules | `(tactic| walk_at "exec For Name Call cons nil") => `(tactic| refine stop ?_)
local macro_rules | `(tactic| k_all) => `(tactic| assumption)
local macro_rules | `(tactic| walk_at "eval Call") => `(tactic| ((with_reducible show wpAny _ _ (eval (Expr.Call (Expr.Name _ _) [_, _, _] [] _) _) _ _ _); k_dflt (refine Call_ ?_)))
local macro_rules | `(tactic| walk_at "call ref") => `(tactic| ((with_reducible show wpAny _ _ (call (Value.ref _) [Value.ref _, Value.int _ _, Value.int _ _] _) _ _ _); refine stop ?_))
local macro_rules | `(tactic| kxt_pos) => `(tactic| first | exact List.forall_mem_nil _ | (refine List.forall_mem_cons.mpr ⟨⟨by k_ne, by k_ne⟩, ?_⟩; kxt_pos))
theorem ledFold {h₀ h : Heap} {L : Addr} {c t : Addr × Obj} (pre : List (Addr × Obj)) {tl nb : List (Addr × Obj)} (N : News h₀ L h (tl ++ (pre ++ c :: t :: nb))) (hl : ∀ q ∈ pre ++ c :: t :: nb, ∀ r ∈ tl, q.1 ≠ r.1) (hp : ∀ q ∈ pre, q.1 ≠ c.1 ∧ q.1 ≠ t.1) (hn : ∀ q ∈ nb, q.1 ≠ c.1 ∧ q.1 ≠ t.1) :
    ∃ nc, News h₀ L h (c :: t :: nc) ∧ (∀ q ∈ nc, q.1 ≠ c.1 ∧ q.1 ≠ t.1) ∧ (∀ q ∈ tl ++ (pre ++ c :: t :: nb), q ∈ c :: t :: nc) ∧ ∀ q ∈ c :: t :: nb, q ∈ c :: t :: nc := by
  have sub : ∀ q ∈ tl ++ (pre ++ c :: t :: nb), q ∈ c :: t :: (tl ++ (pre ++ nb)) := fun q hq => by
    simp only [List.mem_append, List.mem_cons] at hq ⊢
    rcases hq with hq | hq | hq | hq | hq <;> simp [hq]
  refine ⟨tl ++ (pre ++ nb), fun q hq => N q ?_, fun q hq => ?_, sub, fun q hq => sub q (List.mem_append_right _ (List.mem_append_right _ hq))⟩
  · simp only [List.mem_append, List.mem_cons] at hq ⊢
    rcases hq with hq | hq | hq | hq | hq <;> simp [hq]
  · rcases List.mem_append.mp hq with hq | hq
    · exact ⟨fun e => hl c (List.mem_append_right _ (.head _)) q hq e.symm, fun e => hl t (List.mem_append_right _ (.tail _ (.head _))) q hq e.symm⟩
    rcases List.mem_append.mp hq with hq | hq
    · exact hp q hq
    · exact hn q hq
theorem infoNe {w : World} {news : List (Addr × Obj)} {x y : Addr} {nm : Str} {ms : List Addr} {bs : List Value} (h : InfoB w news x nm ms bs) (g : ∀ q ∈ news, q.1 ≠ y) : y ≠ x := by
  obtain ⟨d, e⟩ := h.at.inst
  exact (g _ e).symm
theorem t1 : PySem.Challenge.rw_ft0022_01.Holds := hd (by
  w_strict (
    k_go0
    (all_goals try k_fold)
    rename_i w s0 s1 mg mb G Y fa o pm doc ho hg XM V TT BT TE TW hcd zs hs hlay0 hLay hrr hll aw1 aw2 sc vs as1 hL ra w1 r0 hI hr2 hcond htrue hD h1 tk1 oc dc X0 X T K F N l0
    clear X0 hD htrue hr2 w1 TW TE BT V XM hrr hll hlay0 hs
    have hn0 : ∀ q ∈ ([] : List (Addr × Obj)), q.1 ≠ s1.heap.objs.size + 1 ∧ q.1 ≠ 719 := by intro q hq; cases hq
    k_steps
    refine Stop.mk ?_
    ktr_call 0 (info0_ctr (by k_mem) (by k_mem))
    rintro rX tlX hX tkX FX NX hlX ⟨root, rfl, A1, A2⟩
    clear A2
    obtain ⟨nc1, N1, hn1, sub1, up1⟩ := ledFold [_, _] NX hlX (by kxt_pos) hn0
    replace A1 := A1.mono sub1
    clear NX sub1 up1 hlX tlX hn0
    k_steps
    refine Stop.mk ?_
    ktr_call 0 (inst_ctr (by k_mem))
    rintro rX tlX hX tkX FX NX hlX ⟨top, rfl, A2, A2n⟩
    clear A2n
    obtain ⟨nc2, N2, hn2, sub2, up2⟩ := ledFold [_] NX hlX (by kxt_pos) hn1
    replace A2 := A2.mono sub2
    replace A1 := A1.mono up2
    clear NX sub2 up2 hlX tlX hn1
    k_steps
    refine Stop.mk ?_
    ktr_call 0 (info1_ctr (ms := [root]) (fun _ => false) (by k_mem) (by k_mem) (A2.mono fun q hq => List.mem_cons_of_mem _ (List.mem_cons_of_mem _ (hq))) (A1.mono fun q hq => List.mem_cons_of_mem _ (List.mem_cons_of_mem _ (hq))) (by intro m hm; rw [List.mem_singleton.mp hm]; exact ⟨_, _, [], (A1.mono fun q hq => List.mem_cons_of_mem _ (List.mem_cons_of_mem _ (hq))), rfl, by decide⟩) (by simp) (Nat.le_of_ble_eq_true rfl))
    rintro rX tlX hX tkX FX NX hlX ⟨xA, rfl, A3, A3n⟩
    have nA : xA ≠ root := infoNe (A1.mono fun q hq => List.mem_cons_of_mem _ (List.mem_cons_of_mem _ (hq))) A3n
    clear A3n
    obtain ⟨nc3, N3, hn3, sub3, up3⟩ := ledFold [_, _] NX hlX (by kxt_pos) hn2
    replace A3 := A3.mono sub3
    replace A1 := A1.mono up3
    replace A2 := A2.mono up3
    clear NX sub3 up3 hlX tlX hn2
    k_steps
    refine Stop.mk ?_
    ktr_call 0 (inst_ctr (by k_mem))
    rintro rX tlX hX tkX FX NX hlX ⟨iA, rfl, A4, A4n⟩
    clear A4n
    obtain ⟨nc4, N4, hn4, sub4, up4⟩ := ledFold [_] NX hlX (by kxt_pos) hn3
    replace A4 := A4.mono sub4
    replace A1 := A1.mono up4
    replace A2 := A2.mono up4
    replace A3 := A3.mono up4
    clear NX sub4 up4 hlX tlX hn3
    k_steps
    refine Stop.mk ?_
    ktr_call 0 (info1_ctr (ms := [xA, root]) (fun m => decide (m = xA)) (by k_mem) (by k_mem) (A4.mono fun q hq => List.mem_cons_of_mem _ (List.mem_cons_of_mem _ (hq))) (A3.mono fun q hq => List.mem_cons_of_mem _ (List.mem_cons_of_mem _ (hq))) (List.forall_mem_cons.mpr ⟨⟨_, _, [_], (A3.mono fun q hq => List.mem_cons_of_mem _ (List.mem_cons_of_mem _ (hq))), by simp, Nat.le_of_ble_eq_true rfl⟩, List.forall_mem_cons.mpr ⟨⟨_, _, [], (A1.mono fun q hq => List.mem_cons_of_mem _ (List.mem_cons_of_mem _ (hq))), by simp [nA.symm], Nat.le_of_ble_eq_true rfl⟩, List.forall_mem_nil _⟩⟩) (by simp [nA]) (Nat.le_of_ble_eq_true rfl))
    rintro rX tlX hX tkX FX NX hlX ⟨xB, rfl, A5, A5n⟩
    have nB : xB ≠ root := infoNe (A1.mono fun q hq => List.mem_cons_of_mem _ (List.mem_cons_of_mem _ (hq))) A5n
    have nAB : xB ≠ xA := infoNe (A3.mono fun q hq => List.mem_cons_of_mem _ (List.mem_cons_of_mem _ (hq))) A5n
    clear A5n
    obtain ⟨nc5, N5, hn5, sub5, up5⟩ := ledFold [_, _] NX hlX (by kxt_pos) hn4
    replace A5 := A5.mono sub5
    replace A1 := A1.mono up5
    replace A2 := A2.mono up5
    replace A3 := A3.mono up5
    replace A4 := A4.mono up5
    clear NX sub5 up5 hlX tlX hn4
    k_steps
    refine Stop.mk ?_
    ktr_call 0 (inst_ctr (by k_mem))
    rintro rX tlX hX tkX FX NX hlX ⟨iB, rfl, A6, A6n⟩
    clear A6n
    obtain ⟨nc6, N6, hn6, sub6, up6⟩ := ledFold [_] NX hlX (by kxt_pos) hn5
    replace A6 := A6.mono sub6
    replace A1 := A1.mono up6
    replace A2 := A2.mono up6
    replace A3 := A3.mono up6
    replace A4 := A4.mono up6
    replace A5 := A5.mono up6
    clear NX sub6 up6 hlX tlX hn5
    k_steps
    refine Stop.mk ?_
    ktr_call 0 (info1_ctr (ms := [root]) (fun _ => false) (by k_mem) (by k_mem) (A2.mono fun q hq => List.mem_cons_of_mem _ (List.mem_cons_of_mem _ (hq))) (A1.mono fun q hq => List.mem_cons_of_mem _ (List.mem_cons_of_mem _ (hq))) (by intro m hm; rw [List.mem_singleton.mp hm]; exact ⟨_, _, [], (A1.mono fun q hq => List.mem_cons_of_mem _ (List.mem_cons_of_mem _ (hq))), rfl, Nat.le_of_ble_eq_true rfl⟩) (by simp) (Nat.le_of_ble_eq_true rfl))
    rintro rX tlX hX tkX FX NX hlX ⟨xC, rfl, A7, A7n⟩
    have nC : xC ≠ root := infoNe (A1.mono fun q hq => List.mem_cons_of_mem _ (List.mem_cons_of_mem _ (hq))) A7n
    have nAC : xC ≠ xA := infoNe (A3.mono fun q hq => List.mem_cons_of_mem _ (List.mem_cons_of_mem _ (hq))) A7n
    have nBC : xC ≠ xB := infoNe (A5.mono fun q hq => List.mem_cons_of_mem _ (List.mem_cons_of_mem _ (hq))) A7n
    clear A7n
    obtain ⟨nc7, N7, hn7, sub7, up7⟩ := ledFold [_, _] NX hlX (by kxt_pos) hn6
    replace A7 := A7.mono sub7
    replace A1 := A1.mono up7
    replace A2 := A2.mono up7
    replace A3 := A3.mono up7
    replace A4 := A4.mono up7
    replace A5 := A5.mono up7
    replace A6 := A6.mono up7
    clear NX sub7 up7 hlX tlX hn6
    k_steps
    refine Stop.mk ?_
    ktr_call 0 (inst_ctr (by k_mem))
    rintro rX tlX hX tkX FX NX hlX ⟨iC, rfl, A8, A8n⟩
    clear A8n
    obtain ⟨nc8, N8, hn8, sub8, up8⟩ := ledFold [_] NX hlX (by kxt_pos) hn7
    replace A8 := A8.mono sub8
    replace A1 := A1.mono up8
    replace A2 := A2.mono up8
    replace A3 := A3.mono up8
    replace A4 := A4.mono up8
    replace A5 := A5.mono up8
    replace A6 := A6.mono up8
    replace A7 := A7.mono up8
    clear NX sub8 up8 hlX tlX hn7
    k_steps
    rename_i lcls hz1 lz1 hz2 FZ NZ
    refine Stop.mk ?_
    ktr_call 0 (id_ctr 1 _ _)
    rintro rX tlX hX tkX FX NX hlX ⟨idT, rfl, B1, B1n⟩
    clear B1n
    obtain ⟨nc9, N9, hn9, sub9, up9⟩ := ledFold [_] NX hlX (by kxt_pos) hn8
    replace B1 := B1.mono sub9
    replace A1 := A1.mono up9
    replace A2 := A2.mono up9
    replace A3 := A3.mono up9
    replace A4 := A4.mono up9
    replace A5 := A5.mono up9
    replace A6 := A6.mono up9
    replace A7 := A7.mono up9
    replace A8 := A8.mono up9
    have M1 := sub9 (lcls, PySem.W.listOf #[Value.ref iA, Value.ref iB, Value.ref iC] 0) (List.mem_append_right _ (by k_mem))
    clear NX sub9 up9 hlX tlX hn8
    k_steps
    refine Stop.mk ?_
    ktr_call 0 (var_ctr (by k_mem))
    rintro rX tlX hX tkX FX NX hlX ⟨vT, rfl, B2, B2n⟩
    clear B2n
    obtain ⟨nc10, N10, hn10, sub10, up10⟩ := ledFold [_] NX hlX (by kxt_pos) hn9
    replace B2 := B2.mono sub10
    replace A1 := A1.mono up10
    replace A2 := A2.mono up10
    replace A3 := A3.mono up10
    replace A4 := A4.mono up10
    replace A5 := A5.mono up10
    replace A6 := A6.mono up10
    replace A7 := A7.mono up10
    replace A8 := A8.mono up10
    replace B1 := B1.mono up10
    replace M1 := up10 _ M1
    clear NX sub10 up10 hlX tlX hn9
    k_steps
    refine Stop.mk ?_
    ktr_call 0 (id_ctr 2 _ _)
    rintro rX tlX hX tkX FX NX hlX ⟨idS, rfl, B3, B3n⟩
    clear B3n
    obtain ⟨nc11, N11, hn11, sub11, up11⟩ := ledFold [] NX hlX (by kxt_pos) hn10
    replace B3 := B3.mono sub11
    replace A1 := A1.mono up11
    replace A2 := A2.mono up11
    replace A3 := A3.mono up11
    replace A4 := A4.mono up11
    replace A5 := A5.mono up11
    replace A6 := A6.mono up11
    replace A7 := A7.mono up11
    replace A8 := A8.mono up11
    replace B1 := B1.mono up11
    replace B2 := B2.mono up11
    replace M1 := up11 _ M1
    clear NX sub11 up11 hlX tlX hn10
    k_steps
    refine Stop.mk ?_
    ktr_call 0 (var_ctr (by k_mem))
    rintro rX tlX hX tkX FX NX hlX ⟨vS, rfl, B4, B4n⟩
    clear B4n
    obtain ⟨nc12, N12, hn12, sub12, up12⟩ := ledFold [_] NX hlX (by kxt_pos) hn11
    replace B4 := B4.mono sub12
    replace A1 := A1.mono up12
    replace A2 := A2.mono up12
    replace A3 := A3.mono up12
    replace A4 := A4.mono up12
    replace A5 := A5.mono up12
    replace A6 := A6.mono up12
    replace A7 := A7.mono up12
    replace A8 := A8.mono up12
    replace B1 := B1.mono up12
    replace B2 := B2.mono up12
    replace B3 := B3.mono up12
    replace M1 := up12 _ M1
    clear NX sub12 up12 hlX tlX hn11
    k_steps
    rename_i lvar hz3 lz3 hz4 FZ2 NZ2
    refine Stop.mk ?_
    have hzl : zs.length ≤ 63 := by omega
    refine at_call (zs := zs) 1 1 _ _ _ _ _ _ _ _ _ _ _ _ _ _ _ _ _ _ _ _ _ _ _ _ _ (by k_asm) (by k_asm) (by k_asm) (by k_asm) (by k_asm) (by first | exact rfl | assumption) (by ktr_room) (by ktr_units) lifted hI hzl ?_
    intro hX tkX tX FX NX
    have hnc : ∀ q ∈ nc12, q.1 ≠ s1.heap.objs.size + 1 := fun q hq => (hn12 q hq).1
    k_steps
    rename_i oc2 dc2 lways _ lw1 _ FW NW
    refine Stop.mk ?_
    have W : WorldAt w nc12 ⟨root, xA, xB, xC, top, iA, iB, iC, vT, vS, idT, idS⟩ := mkWorld (A1.drop dc) (A2.drop dc) (A3.drop dc) (A4.drop dc) (A5.drop dc) (A6.drop dc) (A7.drop dc) (A8.drop dc) (B1.drop dc) (B2.drop dc) (B3.drop dc) (B4.drop dc) rfl (by simp [nA.symm]) rfl nA nB nC nAB nAC nBC
    have M2 := dropL dc M1
    have hwv : @Ne Nat lways lvar := Nat.ne_of_gt lw1.1
    refine' LawIs.intro (w := w) ?k6 ?_
    (case k6 => k_is)
    intro hlaw
    refine' build_st (zs := zs) (vs := vs) (sc := sc) (a := ⟨root, xA, xB, xC, top, iA, iB, iC, vT, vS, idT, idS⟩) _ _ _ _ _ _ _ _ _ _ _ _ _ lways lvar lcls 0 0 oc2 ((lvar, PySem.W.listOf #[Value.ref vT, Value.ref vS] 0) :: nc12) _ _ hlaw rfl ?hE K FW X (newsSub NW ?hN) T lifted hI hzl rfl rfl rfl rfl (W.mono fun q hq => .tail _ hq) (.head _) (.tail _ M2) ?hnb (Nat.ne_of_gt lw1.2.1) (Nat.ne_of_gt lw1.2.2.1) (by k_ne) ?_
    case hE => (first | passes_own | with_unfolding_all passes_own)
    case hN => (intro q hq; simp only [List.mem_cons] at hq ⊢; rcases hq with hq | hq | hq | hq | hq <;> simp [hq])
    case hnb => exact List.forall_mem_cons.mpr ⟨⟨hwv.symm, Nat.ne_of_gt lz3.1, Nat.ne_of_gt lz3.2.1⟩, fun q hq => ⟨Nat.ne_of_lt (tb_ltOf lw1.2.2.2 q hq), (hn12 q hq).1, (hn12 q hq).2⟩⟩
    intro h9 tk9 m9 ws nb9 k9 F9 hz9 N9 hnb9 hsub9 hws9 hlen9
    dsimp only
    have hl719 : @Ne Nat lways 719 := Nat.ne_of_gt lw1.2.2.1
    have hL719 : @Ne Nat (s1.heap.objs.size + 1) 719 := by k_ne
    clear A1 A2 A3 A4 A5 A6 A7 A8 B1 B2 B3 B4 M1 M2 hnc hn12 NW FW lw1 lz3 hwv
    refine' rest_st (a := ⟨root, xA, xB, xC, top, iA, iB, iC, vT, vS, idT, idS⟩) (o := lways) (ws := ws) (eager := (atZ zs 1 1).fmod 2 == 1) hlen9 (fun x hx => (hws9 _ hx).2 x rfl) _ _ _ _ _ _ _ _ _ _ m9 _ _ _ ((lways, PySem.W.listOf (ws.map wayVal).toArray k9) :: (s1.heap.objs.size + 1, oc2) :: nb9) hlaw ?hE K F9 X (newsSub N9 ?hN) T codeHd ((hz9 _ (by decide)).trans rfl) ⟨oc2, .tail _ (.head _), dc2⟩ (W.mono fun q hq => .tail _ (.tail _ (hsub9 q (.tail _ hq)))) ⟨⟨k9, .head _⟩, fun v hv => ((hws9 v hv).1).mono fun q hq => .tail _ (.tail _ hq)⟩ ?hnb ?_
    case hE => (first | passes_own | with_unfolding_all passes_own)
    case hN => (intro q hq; simp only [List.mem_cons] at hq ⊢; rcases hq with hq | hq | hq | hq <;> simp [hq])
    case hnb => exact List.forall_mem_cons.mpr ⟨hl719, List.forall_mem_cons.mpr ⟨hL719, fun q hq => (hnb9 q hq).2.2⟩⟩
    intro h8 tk8 m8 all8 ps8 F8 N8 hps8
    refine And.intro ?_ ⟨GrownAt.of N8 hps8, True.intro⟩
    (try clear hws9 hsub9 hnb9 N9 W)
    (refine goodW_bool (by with_reducible assumption) (by with_reducible assumption) (raisesW_false ?_) ?_; (· wrow_none_raised); (· first | kc_post | wrow_post))))
end Mine
end
theorem PySem.Challenge.cw_ft0022_01_holds : PySem.Challenge.rw_ft0022_01.Holds :=
  Mine.t1
